import JvmDerived
import JvmDerived.Pilot.@@N@@Statement
import JvmDerived.Pilot.@@N@@Code
set_option linter.unusedVariables false
set_option linter.unusedSimpArgs false
namespace Jvm.WpK
open Sem ClassFile Op Lib Jvm.Stand Jvm.Free Jvm.LawKit Jvm.RoadKit
/-- the run's own unknowns: program, environment, the invocation's state, method, arguments, frames below, the method's record, its code -/
abbrev Cx : Type := Program × Env × State × MethodId × Array Value × List Frame × Method × Code
/-- a decoded instruction and the pc behind it -/
def Fet (code : ByteArray) (pc pc' : Nat) (i : Instr) (len : Nat) : Prop := decode code pc = .ok (i, len) ∧ pc + len = pc'
/-- a decoded branch: the pc behind it and its target -/
def Brn (code : ByteArray) (pc pcN pcT : Nat) (i : Instr) (o : Int) : Prop := decode code pc = .ok (i, 3) ∧ pc + 3 = pcN ∧ 0 ≤ (pc : Int) + o ∧ ((pc : Int) + o).toNat = pcT
/-- what is known of the body that is walked -/
def Ok (Z : State) (K : Cx) (code : ByteArray) (own nm : String) (maxL : Nat) (ret : Option FieldType) : Prop :=
  match K with
  | (p, _, s, m, _, _, meth, c) => p.tables.exec = Jvm.exec ∧ c.code = code ∧ Z.Warmed39 s.vm ∧ s.vm.findClass own = some m.cls ∧ meth.name = nm ∧ c.maxLocals = maxL ∧ meth.sig.returnType = ret ∧ meth.locks = false
/-- from this point (heap h, k cells and n slots made so far) the body ends in Q, having written nothing below n0 -/
def Wp (l : Launch) (R : Room) (n0 : Nat) (K : Cx) (Q : Option Value → Heap → Prop) (h : Heap) (k n : Nat) (pc : Nat) (Ls : Array Slot) (st : List Value) : Prop :=
  match K with
  | (p, e, s, m, args, below, meth, c) => ∀ (T : State) (locs : List Loc), Stand p l e R s m args below meth c T locs k n → T.heap = h → Fr n0 locs →
      ∃ s₂ o, Steps p.tables e below (T.setTop (mkF m pc Ls st)) s₂ ∧ s₂.status = .running ∧ Ended s₂ below o ∧ ∃ v L, o = .returned v ∧ (Q v s₂.heap ∧ Fr n0 L) ∧ FrameEnd s o s₂ L R.cells R.slots
/-- a body's contract at one call -/
def Con (l : Launch) (Z : State) (n0 : Nat) (y : MethodName) (bytes : ByteArray) (maxL : Nat) (ret : Option FieldType) (ws : List Cond) (rm : Room) (as : Array Value) (h : Heap) (Q : Option Value → Heap → Prop) : Prop :=
  MetFree l y (head1 (Cond.code y bytes maxL ret :: ws) rm) (fun a U => a = as ∧ Z.Warmed39 U.vm ∧ U.heap = h) (fun _ _ _ _ _ => True) (fun _ U o U' => ∃ v L, o = .returned v ∧ (Q v U'.heap ∧ Fr n0 L) ∧ FrameEnd U o U' L rm.cells rm.slots)
abbrev ConV (l : Launch) (Z : State) (n0 : Nat) (y : MethodName) (bytes : ByteArray) (maxL : Nat) (ret : Option FieldType) (ws : List Cond) (rm : Room) (as : Array Value) (h : Heap) (Q : Value → Heap → Prop) : Prop :=
  Con l Z n0 y bytes maxL ret ws rm as h (fun v h' => ∃ w, v = some w ∧ Q w h')
abbrev ConN (l : Launch) (Z : State) (n0 : Nat) (y : MethodName) (bytes : ByteArray) (maxL : Nat) (ret : Option FieldType) (ws : List Cond) (rm : Room) (as : Array Value) (h : Heap) (Q : Heap → Prop) : Prop :=
  Con l Z n0 y bytes maxL ret ws rm as h (fun v h' => v = none ∧ Q h')
theorem con_of_wp {l : Launch} {Z : State} {n0 : Nat} {y : MethodName} {bytes : ByteArray} {maxL : Nat} {ret : Option FieldType} {ws : List Cond} {rm : Room} {as : Array Value} {h : Heap} {Q : Option Value → Heap → Prop} {Ls : Array Slot}
    (hpl : plainFor y = true) (hef : ∀ m, entryFrame m as maxL = mkF m 0 Ls []) (H : ∀ K, Ok Z K bytes y.cls y.name maxL ret → Wp l rm n0 K Q h 0 0 0 Ls []) : Con l Z n0 y bytes maxL ret ws rm as h Q := by
  refine MetFree.of_bodySF hpl hisR ?_
  intro p e s m args below meth c s₁ Bd hml0 hP hK
  obtain ⟨rfl, hZ, hh⟩ := hP
  have X0 : Stand p l e rm s m args below meth c s₁ [] 0 0 := Stand.of_body Bd
  have e0 : s₁.heap = h := by rw [← hh, Bd.state]; rfl
  obtain ⟨s₂, o, h1, h2, h3, h4⟩ := H (p, e, s, m, args, below, meth, c) ⟨Bd.exec, Bd.bytes, hZ, findClass_of_methodNamed Bd.named, (name_of_methodNamed Bd.named Bd.method).1, hml0, Bd.returns, Bd.notSynchronized⟩ s₁ [] X0 e0 (Fr.nil n0)
  exact ⟨s₂, o, castTop (hef m) h1, h2, h3, h4⟩
section Rules
variable {l : Launch} {R : Room} {n0 : Nat} {K : Cx} {Q : Option Value → Heap → Prop} {h : Heap} {k n k' n' : Nat} {pc pc' : Nat} {Ls Ls' : Array Slot} {st rest : List Value} {Z : State} {code : ByteArray} {own nm : String} {maxL : Nat} {ret : Option FieldType} {a0 : Array Value}
theorem w_cast {pc1 : Nat} {L1 : Array Slot} {s1 : List Value} (hr : Wp l R n0 K Q h k n pc1 L1 s1) (q1 : pc1 = pc) (q2 : L1 = Ls) (q3 : s1 = st) : Wp l R n0 K Q h k n pc Ls st := by
  subst q1 q2 q3; exact hr
theorem w_mono {Q' : Option Value → Heap → Prop} (hr : Wp l R n0 K Q' h k n pc Ls st) (hq : ∀ v h', Q' v h' → Q v h') : Wp l R n0 K Q h k n pc Ls st := by
  obtain ⟨p, e, s, m, args, below, meth, c⟩ := K
  intro T locs X hT hF
  obtain ⟨s₂, o, h1, h2, h3, v, L, h4, ⟨h5, h6⟩, h7⟩ := hr T locs X hT hF
  exact ⟨s₂, o, h1, h2, h3, v, L, h4, ⟨hq _ _ h5, h6⟩, h7⟩
theorem w_int {a b : Int32} (e : a = b) (hr : Wp l R n0 K Q h k n pc Ls (.int b :: st)) : Wp l R n0 K Q h k n pc Ls (.int a :: st) := e ▸ hr
theorem w_long {a b : Int64} (e : a = b) (hr : Wp l R n0 K Q h k n pc Ls (.long b :: st)) : Wp l R n0 K Q h k n pc Ls (.long a :: st) := e ▸ hr
/-- more cells or slots may be booked -/
theorem w_more {k1 n1 : Nat} (hr : Wp l R n0 K Q h k1 n1 pc Ls st) (hk : k ≤ k1) (hn : n ≤ n1) : Wp l R n0 K Q h k n pc Ls st := by
  obtain ⟨p, e, s, m, args, below, meth, c⟩ := K
  intro T locs X hT hF
  exact hr T locs (X.more hk hn) hT hF

theorem w_iloadN (ok : Ok Z K code own nm maxL ret) {j : Fin 4} {x : Int32} (hd : Fet code pc pc' (.iload_n j) 1) (hl : Ls[j.val]? = some (.val (.int x))) (hr : Wp l R n0 K Q h k n pc' Ls (.int x :: st)) : Wp l R n0 K Q h k n pc Ls st := by
  obtain ⟨p, e, s, m, args, below, meth, c⟩ := K
  obtain ⟨hx, hby, hZ, hown, hnm, hml, hret, hlk⟩ := ok
  obtain ⟨hd, rfl⟩ := hd
  intro T locs X hT hF
  obtain ⟨s₂, o, h1, h2⟩ := hr T locs X hT hF
  exact ⟨s₂, o, XS.iloadN X.here hx rfl (hb hby hd) hl h1, h2⟩
theorem w_iload (ok : Ok Z K code own nm maxL ret) {j : Nat} {x : Int32} (hd : Fet code pc pc' (.iload j) 2) (hl : Ls[j]? = some (.val (.int x))) (hr : Wp l R n0 K Q h k n pc' Ls (.int x :: st)) : Wp l R n0 K Q h k n pc Ls st := by
  obtain ⟨p, e, s, m, args, below, meth, c⟩ := K
  obtain ⟨hx, hby, hZ, hown, hnm, hml, hret, hlk⟩ := ok
  obtain ⟨hd, rfl⟩ := hd
  intro T locs X hT hF
  obtain ⟨s₂, o, h1, h2⟩ := hr T locs X hT hF
  exact ⟨s₂, o, XS.iload X.here hx rfl (hb hby hd) hl h1, h2⟩
theorem w_lloadN (ok : Ok Z K code own nm maxL ret) {j : Fin 4} {x : Int64} (hd : Fet code pc pc' (.lload_n j) 1) (hl : Ls[j.val]? = some (.val (.long x))) (hr : Wp l R n0 K Q h k n pc' Ls (.long x :: st)) : Wp l R n0 K Q h k n pc Ls st := by
  obtain ⟨p, e, s, m, args, below, meth, c⟩ := K
  obtain ⟨hx, hby, hZ, hown, hnm, hml, hret, hlk⟩ := ok
  obtain ⟨hd, rfl⟩ := hd
  intro T locs X hT hF
  obtain ⟨s₂, o, h1, h2⟩ := hr T locs X hT hF
  exact ⟨s₂, o, XS.lloadN X.here hx rfl (hb hby hd) hl h1, h2⟩
theorem w_lload (ok : Ok Z K code own nm maxL ret) {j : Nat} {x : Int64} (hd : Fet code pc pc' (.lload j) 2) (hl : Ls[j]? = some (.val (.long x))) (hr : Wp l R n0 K Q h k n pc' Ls (.long x :: st)) : Wp l R n0 K Q h k n pc Ls st := by
  obtain ⟨p, e, s, m, args, below, meth, c⟩ := K
  obtain ⟨hx, hby, hZ, hown, hnm, hml, hret, hlk⟩ := ok
  obtain ⟨hd, rfl⟩ := hd
  intro T locs X hT hF
  obtain ⟨s₂, o, h1, h2⟩ := hr T locs X hT hF
  exact ⟨s₂, o, XS.lload X.here hx rfl (hb hby hd) hl h1, h2⟩
theorem w_aloadN (ok : Ok Z K code own nm maxL ret) {j : Fin 4} {x : Value} (hd : Fet code pc pc' (.aload_n j) 1) (hl : Ls[j.val]? = some (.val x)) (hv : x.isRef = true) (hr : Wp l R n0 K Q h k n pc' Ls (x :: st)) : Wp l R n0 K Q h k n pc Ls st := by
  obtain ⟨p, e, s, m, args, below, meth, c⟩ := K
  obtain ⟨hx, hby, hZ, hown, hnm, hml, hret, hlk⟩ := ok
  obtain ⟨hd, rfl⟩ := hd
  intro T locs X hT hF
  obtain ⟨s₂, o, h1, h2⟩ := hr T locs X hT hF
  exact ⟨s₂, o, XS.aloadN X.here hx rfl (hb hby hd) hl hv h1, h2⟩
theorem w_aload (ok : Ok Z K code own nm maxL ret) {j : Nat} {x : Value} (hd : Fet code pc pc' (.aload j) 2) (hl : Ls[j]? = some (.val x)) (hv : x.isRef = true) (hr : Wp l R n0 K Q h k n pc' Ls (x :: st)) : Wp l R n0 K Q h k n pc Ls st := by
  obtain ⟨p, e, s, m, args, below, meth, c⟩ := K
  obtain ⟨hx, hby, hZ, hown, hnm, hml, hret, hlk⟩ := ok
  obtain ⟨hd, rfl⟩ := hd
  intro T locs X hT hF
  obtain ⟨s₂, o, h1, h2⟩ := hr T locs X hT hF
  exact ⟨s₂, o, XS.aload X.here hx rfl (hb hby hd) hl hv h1, h2⟩
theorem w_istoreN (ok : Ok Z K code own nm maxL ret) {j : Fin 4} {x : Int32} (hd : Fet code pc pc' (.istore_n j) 1) (hl : storeLocals Ls j.val (.int x) = some Ls') (hr : Wp l R n0 K Q h k n pc' Ls' st) : Wp l R n0 K Q h k n pc Ls (.int x :: st) := by
  obtain ⟨p, e, s, m, args, below, meth, c⟩ := K
  obtain ⟨hx, hby, hZ, hown, hnm, hml, hret, hlk⟩ := ok
  obtain ⟨hd, rfl⟩ := hd
  intro T locs X hT hF
  obtain ⟨s₂, o, h1, h2⟩ := hr T locs X hT hF
  exact ⟨s₂, o, XS.istoreN X.here hx rfl (hb hby hd) rfl hl h1, h2⟩
theorem w_istore (ok : Ok Z K code own nm maxL ret) {j : Nat} {x : Int32} (hd : Fet code pc pc' (.istore j) 2) (hl : storeLocals Ls j (.int x) = some Ls') (hr : Wp l R n0 K Q h k n pc' Ls' st) : Wp l R n0 K Q h k n pc Ls (.int x :: st) := by
  obtain ⟨p, e, s, m, args, below, meth, c⟩ := K
  obtain ⟨hx, hby, hZ, hown, hnm, hml, hret, hlk⟩ := ok
  obtain ⟨hd, rfl⟩ := hd
  intro T locs X hT hF
  obtain ⟨s₂, o, h1, h2⟩ := hr T locs X hT hF
  exact ⟨s₂, o, XS.istore X.here hx rfl (hb hby hd) rfl hl h1, h2⟩
theorem w_lstoreN (ok : Ok Z K code own nm maxL ret) {j : Fin 4} {x : Int64} (hd : Fet code pc pc' (.lstore_n j) 1) (hl : storeLocals Ls j.val (.long x) = some Ls') (hr : Wp l R n0 K Q h k n pc' Ls' st) : Wp l R n0 K Q h k n pc Ls (.long x :: st) := by
  obtain ⟨p, e, s, m, args, below, meth, c⟩ := K
  obtain ⟨hx, hby, hZ, hown, hnm, hml, hret, hlk⟩ := ok
  obtain ⟨hd, rfl⟩ := hd
  intro T locs X hT hF
  obtain ⟨s₂, o, h1, h2⟩ := hr T locs X hT hF
  exact ⟨s₂, o, XS.lstoreN X.here hx rfl (hb hby hd) rfl hl h1, h2⟩
theorem w_lstore (ok : Ok Z K code own nm maxL ret) {j : Nat} {x : Int64} (hd : Fet code pc pc' (.lstore j) 2) (hl : storeLocals Ls j (.long x) = some Ls') (hr : Wp l R n0 K Q h k n pc' Ls' st) : Wp l R n0 K Q h k n pc Ls (.long x :: st) := by
  obtain ⟨p, e, s, m, args, below, meth, c⟩ := K
  obtain ⟨hx, hby, hZ, hown, hnm, hml, hret, hlk⟩ := ok
  obtain ⟨hd, rfl⟩ := hd
  intro T locs X hT hF
  obtain ⟨s₂, o, h1, h2⟩ := hr T locs X hT hF
  exact ⟨s₂, o, XS.lstore X.here hx rfl (hb hby hd) rfl hl h1, h2⟩
theorem w_astoreN (ok : Ok Z K code own nm maxL ret) {j : Fin 4} {x : Value} (hd : Fet code pc pc' (.astore_n j) 1) (hl : storeLocals Ls j.val x = some Ls') (hv : x.isRef = true) (hr : Wp l R n0 K Q h k n pc' Ls' st) : Wp l R n0 K Q h k n pc Ls (x :: st) := by
  obtain ⟨p, e, s, m, args, below, meth, c⟩ := K
  obtain ⟨hx, hby, hZ, hown, hnm, hml, hret, hlk⟩ := ok
  obtain ⟨hd, rfl⟩ := hd
  intro T locs X hT hF
  obtain ⟨s₂, o, h1, h2⟩ := hr T locs X hT hF
  exact ⟨s₂, o, XS.astoreN X.here hx rfl (hb hby hd) rfl hv hl h1, h2⟩
theorem w_astore (ok : Ok Z K code own nm maxL ret) {j : Nat} {x : Value} (hd : Fet code pc pc' (.astore j) 2) (hl : storeLocals Ls j x = some Ls') (hv : x.isRef = true) (hr : Wp l R n0 K Q h k n pc' Ls' st) : Wp l R n0 K Q h k n pc Ls (x :: st) := by
  obtain ⟨p, e, s, m, args, below, meth, c⟩ := K
  obtain ⟨hx, hby, hZ, hown, hnm, hml, hret, hlk⟩ := ok
  obtain ⟨hd, rfl⟩ := hd
  intro T locs X hT hF
  obtain ⟨s₂, o, h1, h2⟩ := hr T locs X hT hF
  exact ⟨s₂, o, XS.astore X.here hx rfl (hb hby hd) rfl hv hl h1, h2⟩
theorem w_iinc (ok : Ok Z K code own nm maxL ret) {j : Nat} {cst : Int} {x : Int32} (hd : Fet code pc pc' (.iinc j cst) 3) (hl : Ls[j]? = some (.val (.int x))) (hl' : storeLocals Ls j (.int (x + Int32.ofInt cst)) = some Ls') (hr : Wp l R n0 K Q h k n pc' Ls' st) : Wp l R n0 K Q h k n pc Ls st := by
  obtain ⟨p, e, s, m, args, below, meth, c⟩ := K
  obtain ⟨hx, hby, hZ, hown, hnm, hml, hret, hlk⟩ := ok
  obtain ⟨hd, rfl⟩ := hd
  intro T locs X hT hF
  obtain ⟨s₂, o, h1, h2⟩ := hr T locs X hT hF
  exact ⟨s₂, o, XS.iinc X.here hx rfl (hb hby hd) hl hl' h1, h2⟩
theorem w_iconst (ok : Ok Z K code own nm maxL ret) {i : Int} {z : Int32} (hd : Fet code pc pc' (.iconst i) 1) (hz : Int32.ofInt i = z) (hr : Wp l R n0 K Q h k n pc' Ls (.int z :: st)) : Wp l R n0 K Q h k n pc Ls st := by
  obtain ⟨p, e, s, m, args, below, meth, c⟩ := K
  obtain ⟨hx, hby, hZ, hown, hnm, hml, hret, hlk⟩ := ok
  obtain ⟨hd, rfl⟩ := hd
  intro T locs X hT hF
  subst hz
  obtain ⟨s₂, o, h1, h2⟩ := hr T locs X hT hF
  exact ⟨s₂, o, XS.iconst X.here hx rfl (hb hby hd) h1, h2⟩
theorem w_bipush (ok : Ok Z K code own nm maxL ret) {i : Int} {z : Int32} (hd : Fet code pc pc' (.bipush i) 2) (hz : (Int8.ofInt i).toInt32 = z) (hr : Wp l R n0 K Q h k n pc' Ls (.int z :: st)) : Wp l R n0 K Q h k n pc Ls st := by
  obtain ⟨p, e, s, m, args, below, meth, c⟩ := K
  obtain ⟨hx, hby, hZ, hown, hnm, hml, hret, hlk⟩ := ok
  obtain ⟨hd, rfl⟩ := hd
  intro T locs X hT hF
  subst hz
  obtain ⟨s₂, o, h1, h2⟩ := hr T locs X hT hF
  exact ⟨s₂, o, XS.bipush X.here hx rfl (hb hby hd) h1, h2⟩
theorem w_sipush (ok : Ok Z K code own nm maxL ret) {i : Int} {z : Int32} (hd : Fet code pc pc' (.sipush i) 3) (hz : (Int16.ofInt i).toInt32 = z) (hr : Wp l R n0 K Q h k n pc' Ls (.int z :: st)) : Wp l R n0 K Q h k n pc Ls st := by
  obtain ⟨p, e, s, m, args, below, meth, c⟩ := K
  obtain ⟨hx, hby, hZ, hown, hnm, hml, hret, hlk⟩ := ok
  obtain ⟨hd, rfl⟩ := hd
  intro T locs X hT hF
  subst hz
  obtain ⟨s₂, o, h1, h2⟩ := hr T locs X hT hF
  exact ⟨s₂, o, XS.sipush X.here hx rfl (hb hby hd) h1, h2⟩
theorem w_lconst (ok : Ok Z K code own nm maxL ret) {i : Fin 2} {z : Int64} (hd : Fet code pc pc' (.lconst i) 1) (hz : Int64.ofNat i = z) (hr : Wp l R n0 K Q h k n pc' Ls (.long z :: st)) : Wp l R n0 K Q h k n pc Ls st := by
  obtain ⟨p, e, s, m, args, below, meth, c⟩ := K
  obtain ⟨hx, hby, hZ, hown, hnm, hml, hret, hlk⟩ := ok
  obtain ⟨hd, rfl⟩ := hd
  intro T locs X hT hF
  subst hz
  obtain ⟨s₂, o, h1, h2⟩ := hr T locs X hT hF
  exact ⟨s₂, o, XS.lconst X.here hx rfl (hb hby hd) h1, h2⟩
theorem w_aconstNull (ok : Ok Z K code own nm maxL ret)  (hd : Fet code pc pc' (.aconst_null) 1)  (hr : Wp l R n0 K Q h k n pc' Ls (.null :: st)) : Wp l R n0 K Q h k n pc Ls st := by
  obtain ⟨p, e, s, m, args, below, meth, c⟩ := K
  obtain ⟨hx, hby, hZ, hown, hnm, hml, hret, hlk⟩ := ok
  obtain ⟨hd, rfl⟩ := hd
  intro T locs X hT hF
  obtain ⟨s₂, o, h1, h2⟩ := hr T locs X hT hF
  exact ⟨s₂, o, XS.aconstNull X.here hx rfl (hb hby hd)  h1, h2⟩
theorem w_iadd (ok : Ok Z K code own nm maxL ret) {x y : Int32} (hd : Fet code pc pc' (.iadd) 1)  (hr : Wp l R n0 K Q h k n pc' Ls (.int (x + y) :: st)) : Wp l R n0 K Q h k n pc Ls (.int y :: .int x :: st) := by
  obtain ⟨p, e, s, m, args, below, meth, c⟩ := K
  obtain ⟨hx, hby, hZ, hown, hnm, hml, hret, hlk⟩ := ok
  obtain ⟨hd, rfl⟩ := hd
  intro T locs X hT hF
  obtain ⟨s₂, o, h1, h2⟩ := hr T locs X hT hF
  exact ⟨s₂, o, XS.iadd X.here hx rfl (hb hby hd) rfl h1, h2⟩
theorem w_isub (ok : Ok Z K code own nm maxL ret) {x y : Int32} (hd : Fet code pc pc' (.isub) 1)  (hr : Wp l R n0 K Q h k n pc' Ls (.int (x - y) :: st)) : Wp l R n0 K Q h k n pc Ls (.int y :: .int x :: st) := by
  obtain ⟨p, e, s, m, args, below, meth, c⟩ := K
  obtain ⟨hx, hby, hZ, hown, hnm, hml, hret, hlk⟩ := ok
  obtain ⟨hd, rfl⟩ := hd
  intro T locs X hT hF
  obtain ⟨s₂, o, h1, h2⟩ := hr T locs X hT hF
  exact ⟨s₂, o, XS.isub X.here hx rfl (hb hby hd) rfl h1, h2⟩
theorem w_imul (ok : Ok Z K code own nm maxL ret) {x y : Int32} (hd : Fet code pc pc' (.imul) 1)  (hr : Wp l R n0 K Q h k n pc' Ls (.int (x * y) :: st)) : Wp l R n0 K Q h k n pc Ls (.int y :: .int x :: st) := by
  obtain ⟨p, e, s, m, args, below, meth, c⟩ := K
  obtain ⟨hx, hby, hZ, hown, hnm, hml, hret, hlk⟩ := ok
  obtain ⟨hd, rfl⟩ := hd
  intro T locs X hT hF
  obtain ⟨s₂, o, h1, h2⟩ := hr T locs X hT hF
  exact ⟨s₂, o, XS.imul X.here hx rfl (hb hby hd) rfl h1, h2⟩
theorem w_iand (ok : Ok Z K code own nm maxL ret) {x y : Int32} (hd : Fet code pc pc' (.iand) 1)  (hr : Wp l R n0 K Q h k n pc' Ls (.int (x &&& y) :: st)) : Wp l R n0 K Q h k n pc Ls (.int y :: .int x :: st) := by
  obtain ⟨p, e, s, m, args, below, meth, c⟩ := K
  obtain ⟨hx, hby, hZ, hown, hnm, hml, hret, hlk⟩ := ok
  obtain ⟨hd, rfl⟩ := hd
  intro T locs X hT hF
  obtain ⟨s₂, o, h1, h2⟩ := hr T locs X hT hF
  exact ⟨s₂, o, XS.iand X.here hx rfl (hb hby hd) rfl h1, h2⟩
theorem w_ior (ok : Ok Z K code own nm maxL ret) {x y : Int32} (hd : Fet code pc pc' (.ior) 1)  (hr : Wp l R n0 K Q h k n pc' Ls (.int (x ||| y) :: st)) : Wp l R n0 K Q h k n pc Ls (.int y :: .int x :: st) := by
  obtain ⟨p, e, s, m, args, below, meth, c⟩ := K
  obtain ⟨hx, hby, hZ, hown, hnm, hml, hret, hlk⟩ := ok
  obtain ⟨hd, rfl⟩ := hd
  intro T locs X hT hF
  obtain ⟨s₂, o, h1, h2⟩ := hr T locs X hT hF
  exact ⟨s₂, o, XS.ior X.here hx rfl (hb hby hd) rfl h1, h2⟩
theorem w_ixor (ok : Ok Z K code own nm maxL ret) {x y : Int32} (hd : Fet code pc pc' (.ixor) 1)  (hr : Wp l R n0 K Q h k n pc' Ls (.int (x ^^^ y) :: st)) : Wp l R n0 K Q h k n pc Ls (.int y :: .int x :: st) := by
  obtain ⟨p, e, s, m, args, below, meth, c⟩ := K
  obtain ⟨hx, hby, hZ, hown, hnm, hml, hret, hlk⟩ := ok
  obtain ⟨hd, rfl⟩ := hd
  intro T locs X hT hF
  obtain ⟨s₂, o, h1, h2⟩ := hr T locs X hT hF
  exact ⟨s₂, o, XS.ixor X.here hx rfl (hb hby hd) rfl h1, h2⟩
theorem w_ladd (ok : Ok Z K code own nm maxL ret) {x y : Int64} (hd : Fet code pc pc' (.ladd) 1)  (hr : Wp l R n0 K Q h k n pc' Ls (.long (x + y) :: st)) : Wp l R n0 K Q h k n pc Ls (.long y :: .long x :: st) := by
  obtain ⟨p, e, s, m, args, below, meth, c⟩ := K
  obtain ⟨hx, hby, hZ, hown, hnm, hml, hret, hlk⟩ := ok
  obtain ⟨hd, rfl⟩ := hd
  intro T locs X hT hF
  obtain ⟨s₂, o, h1, h2⟩ := hr T locs X hT hF
  exact ⟨s₂, o, XS.ladd X.here hx rfl (hb hby hd) rfl h1, h2⟩
theorem w_lsub (ok : Ok Z K code own nm maxL ret) {x y : Int64} (hd : Fet code pc pc' (.lsub) 1)  (hr : Wp l R n0 K Q h k n pc' Ls (.long (x - y) :: st)) : Wp l R n0 K Q h k n pc Ls (.long y :: .long x :: st) := by
  obtain ⟨p, e, s, m, args, below, meth, c⟩ := K
  obtain ⟨hx, hby, hZ, hown, hnm, hml, hret, hlk⟩ := ok
  obtain ⟨hd, rfl⟩ := hd
  intro T locs X hT hF
  obtain ⟨s₂, o, h1, h2⟩ := hr T locs X hT hF
  exact ⟨s₂, o, XS.lsub X.here hx rfl (hb hby hd) rfl h1, h2⟩
theorem w_lmul (ok : Ok Z K code own nm maxL ret) {x y : Int64} (hd : Fet code pc pc' (.lmul) 1)  (hr : Wp l R n0 K Q h k n pc' Ls (.long (x * y) :: st)) : Wp l R n0 K Q h k n pc Ls (.long y :: .long x :: st) := by
  obtain ⟨p, e, s, m, args, below, meth, c⟩ := K
  obtain ⟨hx, hby, hZ, hown, hnm, hml, hret, hlk⟩ := ok
  obtain ⟨hd, rfl⟩ := hd
  intro T locs X hT hF
  obtain ⟨s₂, o, h1, h2⟩ := hr T locs X hT hF
  exact ⟨s₂, o, XS.lmul X.here hx rfl (hb hby hd) rfl h1, h2⟩
theorem w_land (ok : Ok Z K code own nm maxL ret) {x y : Int64} (hd : Fet code pc pc' (.land) 1)  (hr : Wp l R n0 K Q h k n pc' Ls (.long (x &&& y) :: st)) : Wp l R n0 K Q h k n pc Ls (.long y :: .long x :: st) := by
  obtain ⟨p, e, s, m, args, below, meth, c⟩ := K
  obtain ⟨hx, hby, hZ, hown, hnm, hml, hret, hlk⟩ := ok
  obtain ⟨hd, rfl⟩ := hd
  intro T locs X hT hF
  obtain ⟨s₂, o, h1, h2⟩ := hr T locs X hT hF
  exact ⟨s₂, o, XS.land X.here hx rfl (hb hby hd) rfl h1, h2⟩
theorem w_lor (ok : Ok Z K code own nm maxL ret) {x y : Int64} (hd : Fet code pc pc' (.lor) 1)  (hr : Wp l R n0 K Q h k n pc' Ls (.long (x ||| y) :: st)) : Wp l R n0 K Q h k n pc Ls (.long y :: .long x :: st) := by
  obtain ⟨p, e, s, m, args, below, meth, c⟩ := K
  obtain ⟨hx, hby, hZ, hown, hnm, hml, hret, hlk⟩ := ok
  obtain ⟨hd, rfl⟩ := hd
  intro T locs X hT hF
  obtain ⟨s₂, o, h1, h2⟩ := hr T locs X hT hF
  exact ⟨s₂, o, XS.lor X.here hx rfl (hb hby hd) rfl h1, h2⟩
theorem w_lxor (ok : Ok Z K code own nm maxL ret) {x y : Int64} (hd : Fet code pc pc' (.lxor) 1)  (hr : Wp l R n0 K Q h k n pc' Ls (.long (x ^^^ y) :: st)) : Wp l R n0 K Q h k n pc Ls (.long y :: .long x :: st) := by
  obtain ⟨p, e, s, m, args, below, meth, c⟩ := K
  obtain ⟨hx, hby, hZ, hown, hnm, hml, hret, hlk⟩ := ok
  obtain ⟨hd, rfl⟩ := hd
  intro T locs X hT hF
  obtain ⟨s₂, o, h1, h2⟩ := hr T locs X hT hF
  exact ⟨s₂, o, XS.lxor X.here hx rfl (hb hby hd) rfl h1, h2⟩
theorem w_ishl (ok : Ok Z K code own nm maxL ret) {x y : Int32} (hd : Fet code pc pc' (.ishl) 1)  (hr : Wp l R n0 K Q h k n pc' Ls (.int (x <<< (y &&& 31)) :: st)) : Wp l R n0 K Q h k n pc Ls (.int y :: .int x :: st) := by
  obtain ⟨p, e, s, m, args, below, meth, c⟩ := K
  obtain ⟨hx, hby, hZ, hown, hnm, hml, hret, hlk⟩ := ok
  obtain ⟨hd, rfl⟩ := hd
  intro T locs X hT hF
  obtain ⟨s₂, o, h1, h2⟩ := hr T locs X hT hF
  exact ⟨s₂, o, XS.ishl X.here hx rfl (hb hby hd) rfl h1, h2⟩
theorem w_ishr (ok : Ok Z K code own nm maxL ret) {x y : Int32} (hd : Fet code pc pc' (.ishr) 1)  (hr : Wp l R n0 K Q h k n pc' Ls (.int (x >>> (y &&& 31)) :: st)) : Wp l R n0 K Q h k n pc Ls (.int y :: .int x :: st) := by
  obtain ⟨p, e, s, m, args, below, meth, c⟩ := K
  obtain ⟨hx, hby, hZ, hown, hnm, hml, hret, hlk⟩ := ok
  obtain ⟨hd, rfl⟩ := hd
  intro T locs X hT hF
  obtain ⟨s₂, o, h1, h2⟩ := hr T locs X hT hF
  exact ⟨s₂, o, XS.ishr X.here hx rfl (hb hby hd) rfl h1, h2⟩
theorem w_iushr (ok : Ok Z K code own nm maxL ret) {x y : Int32} (hd : Fet code pc pc' (.iushr) 1)  (hr : Wp l R n0 K Q h k n pc' Ls (.int ((x.toUInt32 >>> (y &&& 31).toUInt32).toInt32) :: st)) : Wp l R n0 K Q h k n pc Ls (.int y :: .int x :: st) := by
  obtain ⟨p, e, s, m, args, below, meth, c⟩ := K
  obtain ⟨hx, hby, hZ, hown, hnm, hml, hret, hlk⟩ := ok
  obtain ⟨hd, rfl⟩ := hd
  intro T locs X hT hF
  obtain ⟨s₂, o, h1, h2⟩ := hr T locs X hT hF
  exact ⟨s₂, o, XS.iushr X.here hx rfl (hb hby hd) rfl h1, h2⟩
theorem w_lshl (ok : Ok Z K code own nm maxL ret) {x : Int64} {y : Int32} (hd : Fet code pc pc' (.lshl) 1)  (hr : Wp l R n0 K Q h k n pc' Ls (.long (x <<< (y &&& 0x3f).toInt64) :: st)) : Wp l R n0 K Q h k n pc Ls (.int y :: .long x :: st) := by
  obtain ⟨p, e, s, m, args, below, meth, c⟩ := K
  obtain ⟨hx, hby, hZ, hown, hnm, hml, hret, hlk⟩ := ok
  obtain ⟨hd, rfl⟩ := hd
  intro T locs X hT hF
  obtain ⟨s₂, o, h1, h2⟩ := hr T locs X hT hF
  exact ⟨s₂, o, XS.lshl X.here hx rfl (hb hby hd) rfl h1, h2⟩
theorem w_lshr (ok : Ok Z K code own nm maxL ret) {x : Int64} {y : Int32} (hd : Fet code pc pc' (.lshr) 1)  (hr : Wp l R n0 K Q h k n pc' Ls (.long (x >>> (y &&& 0x3f).toInt64) :: st)) : Wp l R n0 K Q h k n pc Ls (.int y :: .long x :: st) := by
  obtain ⟨p, e, s, m, args, below, meth, c⟩ := K
  obtain ⟨hx, hby, hZ, hown, hnm, hml, hret, hlk⟩ := ok
  obtain ⟨hd, rfl⟩ := hd
  intro T locs X hT hF
  obtain ⟨s₂, o, h1, h2⟩ := hr T locs X hT hF
  exact ⟨s₂, o, XS.lshr X.here hx rfl (hb hby hd) rfl h1, h2⟩
theorem w_lushr (ok : Ok Z K code own nm maxL ret) {x : Int64} {y : Int32} (hd : Fet code pc pc' (.lushr) 1)  (hr : Wp l R n0 K Q h k n pc' Ls (.long ((x.toUInt64 >>> (y &&& 0x3f).toInt64.toUInt64).toInt64) :: st)) : Wp l R n0 K Q h k n pc Ls (.int y :: .long x :: st) := by
  obtain ⟨p, e, s, m, args, below, meth, c⟩ := K
  obtain ⟨hx, hby, hZ, hown, hnm, hml, hret, hlk⟩ := ok
  obtain ⟨hd, rfl⟩ := hd
  intro T locs X hT hF
  obtain ⟨s₂, o, h1, h2⟩ := hr T locs X hT hF
  exact ⟨s₂, o, XS.lushr X.here hx rfl (hb hby hd) rfl h1, h2⟩
theorem w_idiv (ok : Ok Z K code own nm maxL ret) {x y : Int32} (hd : Fet code pc pc' (.idiv) 1) (hy : y ≠ 0) (hr : Wp l R n0 K Q h k n pc' Ls (.int (x / y) :: st)) : Wp l R n0 K Q h k n pc Ls (.int y :: .int x :: st) := by
  obtain ⟨p, e, s, m, args, below, meth, c⟩ := K
  obtain ⟨hx, hby, hZ, hown, hnm, hml, hret, hlk⟩ := ok
  obtain ⟨hd, rfl⟩ := hd
  intro T locs X hT hF
  obtain ⟨s₂, o, h1, h2⟩ := hr T locs X hT hF
  exact ⟨s₂, o, XS.idiv X.here hx rfl (hb hby hd) rfl hy h1, h2⟩
theorem w_ldiv (ok : Ok Z K code own nm maxL ret) {x y : Int64} (hd : Fet code pc pc' (.ldiv) 1) (hy : y ≠ 0) (hr : Wp l R n0 K Q h k n pc' Ls (.long (x / y) :: st)) : Wp l R n0 K Q h k n pc Ls (.long y :: .long x :: st) := by
  obtain ⟨p, e, s, m, args, below, meth, c⟩ := K
  obtain ⟨hx, hby, hZ, hown, hnm, hml, hret, hlk⟩ := ok
  obtain ⟨hd, rfl⟩ := hd
  intro T locs X hT hF
  obtain ⟨s₂, o, h1, h2⟩ := hr T locs X hT hF
  exact ⟨s₂, o, XS.ldiv X.here hx rfl (hb hby hd) rfl hy h1, h2⟩
theorem w_ineg (ok : Ok Z K code own nm maxL ret) {x : Int32} (hd : Fet code pc pc' (.ineg) 1)  (hr : Wp l R n0 K Q h k n pc' Ls (.int (-x) :: st)) : Wp l R n0 K Q h k n pc Ls (.int x :: st) := by
  obtain ⟨p, e, s, m, args, below, meth, c⟩ := K
  obtain ⟨hx, hby, hZ, hown, hnm, hml, hret, hlk⟩ := ok
  obtain ⟨hd, rfl⟩ := hd
  intro T locs X hT hF
  obtain ⟨s₂, o, h1, h2⟩ := hr T locs X hT hF
  exact ⟨s₂, o, XS.ineg X.here hx rfl (hb hby hd) rfl h1, h2⟩
theorem w_lneg (ok : Ok Z K code own nm maxL ret) {x : Int64} (hd : Fet code pc pc' (.lneg) 1)  (hr : Wp l R n0 K Q h k n pc' Ls (.long (-x) :: st)) : Wp l R n0 K Q h k n pc Ls (.long x :: st) := by
  obtain ⟨p, e, s, m, args, below, meth, c⟩ := K
  obtain ⟨hx, hby, hZ, hown, hnm, hml, hret, hlk⟩ := ok
  obtain ⟨hd, rfl⟩ := hd
  intro T locs X hT hF
  obtain ⟨s₂, o, h1, h2⟩ := hr T locs X hT hF
  exact ⟨s₂, o, XS.lneg X.here hx rfl (hb hby hd) rfl h1, h2⟩
theorem w_i2l (ok : Ok Z K code own nm maxL ret) {x : Int32} (hd : Fet code pc pc' (.i2l) 1)  (hr : Wp l R n0 K Q h k n pc' Ls (.long x.toInt64 :: st)) : Wp l R n0 K Q h k n pc Ls (.int x :: st) := by
  obtain ⟨p, e, s, m, args, below, meth, c⟩ := K
  obtain ⟨hx, hby, hZ, hown, hnm, hml, hret, hlk⟩ := ok
  obtain ⟨hd, rfl⟩ := hd
  intro T locs X hT hF
  obtain ⟨s₂, o, h1, h2⟩ := hr T locs X hT hF
  exact ⟨s₂, o, XS.i2l X.here hx rfl (hb hby hd) rfl h1, h2⟩
theorem w_l2i (ok : Ok Z K code own nm maxL ret) {x : Int64} (hd : Fet code pc pc' (.l2i) 1)  (hr : Wp l R n0 K Q h k n pc' Ls (.int x.toInt32 :: st)) : Wp l R n0 K Q h k n pc Ls (.long x :: st) := by
  obtain ⟨p, e, s, m, args, below, meth, c⟩ := K
  obtain ⟨hx, hby, hZ, hown, hnm, hml, hret, hlk⟩ := ok
  obtain ⟨hd, rfl⟩ := hd
  intro T locs X hT hF
  obtain ⟨s₂, o, h1, h2⟩ := hr T locs X hT hF
  exact ⟨s₂, o, XS.l2i X.here hx rfl (hb hby hd) rfl h1, h2⟩
theorem w_i2b (ok : Ok Z K code own nm maxL ret) {x : Int32} (hd : Fet code pc pc' (.i2b) 1)  (hr : Wp l R n0 K Q h k n pc' Ls (.int x.toInt8.toInt32 :: st)) : Wp l R n0 K Q h k n pc Ls (.int x :: st) := by
  obtain ⟨p, e, s, m, args, below, meth, c⟩ := K
  obtain ⟨hx, hby, hZ, hown, hnm, hml, hret, hlk⟩ := ok
  obtain ⟨hd, rfl⟩ := hd
  intro T locs X hT hF
  obtain ⟨s₂, o, h1, h2⟩ := hr T locs X hT hF
  exact ⟨s₂, o, XS.i2b X.here hx rfl (hb hby hd) rfl h1, h2⟩
theorem w_i2s (ok : Ok Z K code own nm maxL ret) {x : Int32} (hd : Fet code pc pc' (.i2s) 1)  (hr : Wp l R n0 K Q h k n pc' Ls (.int x.toInt16.toInt32 :: st)) : Wp l R n0 K Q h k n pc Ls (.int x :: st) := by
  obtain ⟨p, e, s, m, args, below, meth, c⟩ := K
  obtain ⟨hx, hby, hZ, hown, hnm, hml, hret, hlk⟩ := ok
  obtain ⟨hd, rfl⟩ := hd
  intro T locs X hT hF
  obtain ⟨s₂, o, h1, h2⟩ := hr T locs X hT hF
  exact ⟨s₂, o, XS.i2s X.here hx rfl (hb hby hd) rfl h1, h2⟩
theorem w_i2c (ok : Ok Z K code own nm maxL ret) {x : Int32} (hd : Fet code pc pc' (.i2c) 1)  (hr : Wp l R n0 K Q h k n pc' Ls (.int x.toUInt32.toUInt16.toUInt32.toInt32 :: st)) : Wp l R n0 K Q h k n pc Ls (.int x :: st) := by
  obtain ⟨p, e, s, m, args, below, meth, c⟩ := K
  obtain ⟨hx, hby, hZ, hown, hnm, hml, hret, hlk⟩ := ok
  obtain ⟨hd, rfl⟩ := hd
  intro T locs X hT hF
  obtain ⟨s₂, o, h1, h2⟩ := hr T locs X hT hF
  exact ⟨s₂, o, XS.i2c X.here hx rfl (hb hby hd) rfl h1, h2⟩
theorem w_dup (ok : Ok Z K code own nm maxL ret) {x : Value} (hd : Fet code pc pc' (.dup) 1) (hc : x.category = 1) (hr : Wp l R n0 K Q h k n pc' Ls (x :: x :: st)) : Wp l R n0 K Q h k n pc Ls (x :: st) := by
  obtain ⟨p, e, s, m, args, below, meth, c⟩ := K
  obtain ⟨hx, hby, hZ, hown, hnm, hml, hret, hlk⟩ := ok
  obtain ⟨hd, rfl⟩ := hd
  intro T locs X hT hF
  obtain ⟨s₂, o, h1, h2⟩ := hr T locs X hT hF
  exact ⟨s₂, o, XS.dup X.here hx rfl (hb hby hd) rfl hc h1, h2⟩
theorem w_pop (ok : Ok Z K code own nm maxL ret) {x : Value} (hd : Fet code pc pc' (.pop) 1) (hc : x.category = 1) (hr : Wp l R n0 K Q h k n pc' Ls st) : Wp l R n0 K Q h k n pc Ls (x :: st) := by
  obtain ⟨p, e, s, m, args, below, meth, c⟩ := K
  obtain ⟨hx, hby, hZ, hown, hnm, hml, hret, hlk⟩ := ok
  obtain ⟨hd, rfl⟩ := hd
  intro T locs X hT hF
  obtain ⟨s₂, o, h1, h2⟩ := hr T locs X hT hF
  exact ⟨s₂, o, XS.pop X.here hx rfl (hb hby hd) rfl hc h1, h2⟩
theorem w_dupX1 (ok : Ok Z K code own nm maxL ret) {x y : Value} (hd : Fet code pc pc' (.dup_x1) 1) (hc : x.category = 1) (hc' : y.category = 1) (hr : Wp l R n0 K Q h k n pc' Ls (x :: y :: x :: st)) : Wp l R n0 K Q h k n pc Ls (x :: y :: st) := by
  obtain ⟨p, e, s, m, args, below, meth, c⟩ := K
  obtain ⟨hx, hby, hZ, hown, hnm, hml, hret, hlk⟩ := ok
  obtain ⟨hd, rfl⟩ := hd
  intro T locs X hT hF
  obtain ⟨s₂, o, h1, h2⟩ := hr T locs X hT hF
  exact ⟨s₂, o, XS.dupX1 X.here hx rfl (hb hby hd) rfl hc hc' h1, h2⟩
theorem w_dup2 (ok : Ok Z K code own nm maxL ret) {x y : Value} (hd : Fet code pc pc' (.dup2) 1) (hc : x.category = 1) (hc' : y.category = 1) (hr : Wp l R n0 K Q h k n pc' Ls (x :: y :: x :: y :: st)) : Wp l R n0 K Q h k n pc Ls (x :: y :: st) := by
  obtain ⟨p, e, s, m, args, below, meth, c⟩ := K
  obtain ⟨hx, hby, hZ, hown, hnm, hml, hret, hlk⟩ := ok
  obtain ⟨hd, rfl⟩ := hd
  intro T locs X hT hF
  obtain ⟨s₂, o, h1, h2⟩ := hr T locs X hT hF
  exact ⟨s₂, o, Jvm.Free.XT.dup2 X.here hx rfl (hb hby hd) rfl hc hc' h1, h2⟩
theorem w_dup2L (ok : Ok Z K code own nm maxL ret) {x : Int64} (hd : Fet code pc pc' (.dup2) 1)  (hr : Wp l R n0 K Q h k n pc' Ls (.long x :: .long x :: st)) : Wp l R n0 K Q h k n pc Ls (.long x :: st) := by
  obtain ⟨p, e, s, m, args, below, meth, c⟩ := K
  obtain ⟨hx, hby, hZ, hown, hnm, hml, hret, hlk⟩ := ok
  obtain ⟨hd, rfl⟩ := hd
  intro T locs X hT hF
  obtain ⟨s₂, o, h1, h2⟩ := hr T locs X hT hF
  exact ⟨s₂, o, Jvm.Free.XT.dup2L X.here hx rfl (hb hby hd) rfl h1, h2⟩
theorem w_irem (ok : Ok Z K code own nm maxL ret) {x y : Int32} (hd : Fet code pc pc' (.irem) 1) (hy : y ≠ 0) (hr : Wp l R n0 K Q h k n pc' Ls (.int (x % y) :: st)) : Wp l R n0 K Q h k n pc Ls (.int y :: .int x :: st) := by
  obtain ⟨p, e, s, m, args, below, meth, c⟩ := K
  obtain ⟨hx, hby, hZ, hown, hnm, hml, hret, hlk⟩ := ok
  obtain ⟨hd, rfl⟩ := hd
  intro T locs X hT hF
  obtain ⟨s₂, o, h1, h2⟩ := hr T locs X hT hF
  exact ⟨s₂, o, iremM X hx rfl (hb hby hd) rfl hy h1, h2⟩
theorem lrem_mod (x y : Int64) : x - (x / y) * y = x % y := by
  apply Int64.toInt_inj.mp
  have h1 := Int64.le_toInt (x % y)
  have h2 := Int64.toInt_lt (x % y)
  rw [Int64.toInt_sub, Int64.toInt_mul, Int64.toInt_div, Int.bmod_mul_bmod, Int.sub_bmod_bmod, Int.mul_comm (x.toInt.tdiv y.toInt), ← Int.tmod_def, ← Int64.toInt_mod]
  exact Int.bmod_eq_of_le_mul_two (by omega) (by omega)

theorem w_lrem (ok : Ok Z K code own nm maxL ret) {x y : Int64} (hd : Fet code pc pc' (.lrem) 1) (hy : y ≠ 0) (hr : Wp l R n0 K Q h k n pc' Ls (.long (x % y) :: st)) : Wp l R n0 K Q h k n pc Ls (.long y :: .long x :: st) := by
  obtain ⟨p, e, s, m, args, below, meth, c⟩ := K
  obtain ⟨hx, hby, hZ, hown, hnm, hml, hret, hlk⟩ := ok
  obtain ⟨hd, rfl⟩ := hd
  intro T locs X hT hF
  obtain ⟨s₂, o, h1, h2⟩ := hr T locs X hT hF
  exact ⟨s₂, o, XS.lrem X.here hx rfl (hb hby hd) rfl hy (by rw [lrem_mod]; exact h1), h2⟩
theorem w_ldc (ok : Ok Z K code own nm maxL ret) {i : Nat} {x : Int32} (w : (Cond.constant own i x).before a0 Z = true) (hd : Fet code pc pc' (.ldc i) 2) (hr : Wp l R n0 K Q h k n pc' Ls (.int x :: st)) : Wp l R n0 K Q h k n pc Ls st := by
  obtain ⟨p, e, s, m, args, below, meth, c⟩ := K
  obtain ⟨hx, hby, hZ, hown, hnm, hml, hret, hlk⟩ := ok
  obtain ⟨hd, rfl⟩ := hd
  intro T locs X hT hF
  obtain ⟨s₂, o, h1, h2⟩ := hr T locs X hT hF
  exact ⟨s₂, o, X.ldcInt hx hown (mvT hZ w) (g := mkF m pc Ls st) rfl (hb hby hd) _ h1, h2⟩
theorem w_ldc_w (ok : Ok Z K code own nm maxL ret) {i : Nat} {x : Int32} (w : (Cond.constant own i x).before a0 Z = true) (hd : Fet code pc pc' (.ldc_w i) 3) (hr : Wp l R n0 K Q h k n pc' Ls (.int x :: st)) : Wp l R n0 K Q h k n pc Ls st := by
  obtain ⟨p, e, s, m, args, below, meth, c⟩ := K
  obtain ⟨hx, hby, hZ, hown, hnm, hml, hret, hlk⟩ := ok
  obtain ⟨hd, rfl⟩ := hd
  intro T locs X hT hF
  obtain ⟨s₂, o, h1, h2⟩ := hr T locs X hT hF
  exact ⟨s₂, o, X.ldcWInt hx hown (mvT hZ w) (g := mkF m pc Ls st) rfl (hb hby hd) _ h1, h2⟩
theorem w_ldc2 (ok : Ok Z K code own nm maxL ret) {i : Nat} {x : Int64} (w : (Cond.constantLong own i x).before a0 Z = true) (hd : Fet code pc pc' (.ldc2_w i) 3) (hr : Wp l R n0 K Q h k n pc' Ls (.long x :: st)) : Wp l R n0 K Q h k n pc Ls st := by
  obtain ⟨p, e, s, m, args, below, meth, c⟩ := K
  obtain ⟨hx, hby, hZ, hown, hnm, hml, hret, hlk⟩ := ok
  obtain ⟨hd, rfl⟩ := hd
  intro T locs X hT hF
  obtain ⟨s₂, o, h1, h2⟩ := hr T locs X hT hF
  exact ⟨s₂, o, X.ldc2Long hx hown (mvT hZ w) (g := mkF m pc Ls st) rfl (hb hby hd) _ h1, h2⟩
theorem w_goto (ok : Ok Z K code own nm maxL ret) {pcN : Nat} {o : Int} (hd : Brn code pc pcN pc' (.goto o) o) (hr : Wp l R n0 K Q h k n pc' Ls st) : Wp l R n0 K Q h k n pc Ls st := by
  obtain ⟨p, e, s, m, args, below, meth, c⟩ := K
  obtain ⟨hx, hby, hZ, hown, hnm, hml, hret, hlk⟩ := ok
  obtain ⟨hd, rfl, ho, hp⟩ := hd
  intro T locs X hT hF
  obtain ⟨s₂, o, h1, h2⟩ := hr T locs X hT hF
  exact ⟨s₂, o, XS.goto X.here hx rfl rfl (hb hby hd) ho hp h1, h2⟩
theorem w_if0 (ok : Ok Z K code own nm maxL ret) {pcN pcT : Nat} {o : Int} {cd : ClassFile.Cond} {x : Int32} (hd : Brn code pc pcN pcT (.ifCond cd o) o) (hy : ifCond.holds cd x = true → Wp l R n0 K Q h k n pcT Ls st) (hn : ifCond.holds cd x = false → Wp l R n0 K Q h k n pcN Ls st) : Wp l R n0 K Q h k n pc Ls (.int x :: st) := by
  obtain ⟨p, e, s, m, args, below, meth, c⟩ := K
  obtain ⟨hx, hby, hZ, hown, hnm, hml, hret, hlk⟩ := ok
  obtain ⟨hd, rfl, ho, hp⟩ := hd
  intro T locs X hT hF
  cases hc : ifCond.holds cd x
  · obtain ⟨s₂, o, h1, h2⟩ := hn hc T locs X hT hF
    exact ⟨s₂, o, XS.ifNo X.here hx rfl (hb hby hd) rfl hc h1, h2⟩
  · obtain ⟨s₂, o, h1, h2⟩ := hy hc T locs X hT hF
    exact ⟨s₂, o, XS.ifYes X.here hx rfl rfl (hb hby hd) rfl hc ho hp h1, h2⟩
theorem w_ic (ok : Ok Z K code own nm maxL ret) {pcN pcT : Nat} {o : Int} {cd : ClassFile.Cond} {x y : Int32} (hd : Brn code pc pcN pcT (.if_icmp cd o) o) (hy : if_icmp.holds cd x y = true → Wp l R n0 K Q h k n pcT Ls st) (hn : if_icmp.holds cd x y = false → Wp l R n0 K Q h k n pcN Ls st) : Wp l R n0 K Q h k n pc Ls (.int y :: .int x :: st) := by
  obtain ⟨p, e, s, m, args, below, meth, c⟩ := K
  obtain ⟨hx, hby, hZ, hown, hnm, hml, hret, hlk⟩ := ok
  obtain ⟨hd, rfl, ho, hp⟩ := hd
  intro T locs X hT hF
  cases hc : if_icmp.holds cd x y
  · obtain ⟨s₂, o, h1, h2⟩ := hn hc T locs X hT hF
    exact ⟨s₂, o, XS.icmpNo X.here hx rfl (hb hby hd) rfl hc h1, h2⟩
  · obtain ⟨s₂, o, h1, h2⟩ := hy hc T locs X hT hF
    exact ⟨s₂, o, XS.icmpYes X.here hx rfl rfl (hb hby hd) rfl hc ho hp h1, h2⟩
theorem w_lcmp (ok : Ok Z K code own nm maxL ret) {x y : Int64} (hd : Fet code pc pc' .lcmp 1) (hr : Wp l R n0 K Q h k n pc' Ls (.int (lcmpW x y) :: st)) : Wp l R n0 K Q h k n pc Ls (.long y :: .long x :: st) := by
  obtain ⟨p, e, s, m, args, below, meth, c⟩ := K
  obtain ⟨hx, hby, hZ, hown, hnm, hml, hret, hlk⟩ := ok
  obtain ⟨hd, rfl⟩ := hd
  intro T locs X hT hF
  obtain ⟨s₂, o, h1, h2⟩ := hr T locs X hT hF
  exact ⟨s₂, o, XS.lcmp X.here hx rfl (hb hby hd) rfl h1, h2⟩
theorem h_eq {x y : Int32} : if_icmp.holds .eq x y = decide (x = y) := by rw [Bool.eq_iff_iff]; simp [if_icmp.holds]
theorem h_ne {x y : Int32} : if_icmp.holds .ne x y = decide (¬ x = y) := by rw [Bool.eq_iff_iff]; simp [if_icmp.holds]
theorem h_lt {x y : Int32} : if_icmp.holds .lt x y = decide (x < y) := by simp [if_icmp.holds]
theorem h_ge {x y : Int32} : if_icmp.holds .ge x y = decide (¬ x < y) := by simp [if_icmp.holds]
theorem h_gt {x y : Int32} : if_icmp.holds .gt x y = decide (y < x) := by simp [if_icmp.holds]
theorem h_le {x y : Int32} : if_icmp.holds .le x y = decide (¬ y < x) := by simp [if_icmp.holds]
theorem w_ic_eq (ok : Ok Z K code own nm maxL ret) {pcN pcT : Nat} {o : Int} {x y : Int32} (hd : Brn code pc pcN pcT (.if_icmp .eq o) o) (hy : x = y → Wp l R n0 K Q h k n pcT Ls st) (hn : ¬ x = y → Wp l R n0 K Q h k n pcN Ls st) : Wp l R n0 K Q h k n pc Ls (.int y :: .int x :: st) :=
  w_ic ok hd (fun q => hy (by rw [h_eq] at q; simpa using q)) (fun q => hn (by rw [h_eq] at q; simpa using q))
theorem w_if_eq (ok : Ok Z K code own nm maxL ret) {pcN pcT : Nat} {o : Int} {x : Int32} (hd : Brn code pc pcN pcT (.ifCond .eq o) o) (hy : x = 0 → Wp l R n0 K Q h k n pcT Ls st) (hn : ¬ x = 0 → Wp l R n0 K Q h k n pcN Ls st) : Wp l R n0 K Q h k n pc Ls (.int x :: st) :=
  w_if0 ok hd (fun q => hy (by rw [if0, h_eq] at q; simpa using q)) (fun q => hn (by rw [if0, h_eq] at q; simpa using q))
theorem w_lc_eq (ok : Ok Z K code own nm maxL ret) {pcM pcN pcT : Nat} {o : Int} {x y : Int64} (hd1 : Fet code pc pcM .lcmp 1) (hd : Brn code pcM pcN pcT (.ifCond .eq o) o) (hy : x = y → Wp l R n0 K Q h k n pcT Ls st) (hn : ¬ x = y → Wp l R n0 K Q h k n pcN Ls st) : Wp l R n0 K Q h k n pc Ls (.long y :: .long x :: st) :=
  w_lcmp ok hd1 (w_if_eq ok hd (fun q => hy ((lw_eq x y).mp q)) (fun q => hn (fun r => q ((lw_eq x y).mpr r))))
theorem w_ic_ne (ok : Ok Z K code own nm maxL ret) {pcN pcT : Nat} {o : Int} {x y : Int32} (hd : Brn code pc pcN pcT (.if_icmp .ne o) o) (hy : ¬ x = y → Wp l R n0 K Q h k n pcT Ls st) (hn : x = y → Wp l R n0 K Q h k n pcN Ls st) : Wp l R n0 K Q h k n pc Ls (.int y :: .int x :: st) :=
  w_ic ok hd (fun q => hy (by rw [h_ne] at q; simpa using q)) (fun q => hn (by rw [h_ne] at q; simpa using q))
theorem w_if_ne (ok : Ok Z K code own nm maxL ret) {pcN pcT : Nat} {o : Int} {x : Int32} (hd : Brn code pc pcN pcT (.ifCond .ne o) o) (hy : ¬ x = 0 → Wp l R n0 K Q h k n pcT Ls st) (hn : x = 0 → Wp l R n0 K Q h k n pcN Ls st) : Wp l R n0 K Q h k n pc Ls (.int x :: st) :=
  w_if0 ok hd (fun q => hy (by rw [if0, h_ne] at q; simpa using q)) (fun q => hn (by rw [if0, h_ne] at q; simpa using q))
theorem w_lc_ne (ok : Ok Z K code own nm maxL ret) {pcM pcN pcT : Nat} {o : Int} {x y : Int64} (hd1 : Fet code pc pcM .lcmp 1) (hd : Brn code pcM pcN pcT (.ifCond .ne o) o) (hy : ¬ x = y → Wp l R n0 K Q h k n pcT Ls st) (hn : x = y → Wp l R n0 K Q h k n pcN Ls st) : Wp l R n0 K Q h k n pc Ls (.long y :: .long x :: st) :=
  w_lcmp ok hd1 (w_if_ne ok hd (fun q => hy (fun r => q ((lw_eq x y).mpr r))) (fun q => hn ((lw_eq x y).mp q)))
theorem w_ic_lt (ok : Ok Z K code own nm maxL ret) {pcN pcT : Nat} {o : Int} {x y : Int32} (hd : Brn code pc pcN pcT (.if_icmp .lt o) o) (hy : x < y → Wp l R n0 K Q h k n pcT Ls st) (hn : ¬ x < y → Wp l R n0 K Q h k n pcN Ls st) : Wp l R n0 K Q h k n pc Ls (.int y :: .int x :: st) :=
  w_ic ok hd (fun q => hy (by rw [h_lt] at q; simpa using q)) (fun q => hn (by rw [h_lt] at q; simpa using q))
theorem w_if_lt (ok : Ok Z K code own nm maxL ret) {pcN pcT : Nat} {o : Int} {x : Int32} (hd : Brn code pc pcN pcT (.ifCond .lt o) o) (hy : x < 0 → Wp l R n0 K Q h k n pcT Ls st) (hn : ¬ x < 0 → Wp l R n0 K Q h k n pcN Ls st) : Wp l R n0 K Q h k n pc Ls (.int x :: st) :=
  w_if0 ok hd (fun q => hy (by rw [if0, h_lt] at q; simpa using q)) (fun q => hn (by rw [if0, h_lt] at q; simpa using q))
theorem w_lc_lt (ok : Ok Z K code own nm maxL ret) {pcM pcN pcT : Nat} {o : Int} {x y : Int64} (hd1 : Fet code pc pcM .lcmp 1) (hd : Brn code pcM pcN pcT (.ifCond .lt o) o) (hy : x < y → Wp l R n0 K Q h k n pcT Ls st) (hn : ¬ x < y → Wp l R n0 K Q h k n pcN Ls st) : Wp l R n0 K Q h k n pc Ls (.long y :: .long x :: st) :=
  w_lcmp ok hd1 (w_if_lt ok hd (fun q => hy ((lw_lt x y).mp q)) (fun q => hn (fun r => q ((lw_lt x y).mpr r))))
theorem w_ic_ge (ok : Ok Z K code own nm maxL ret) {pcN pcT : Nat} {o : Int} {x y : Int32} (hd : Brn code pc pcN pcT (.if_icmp .ge o) o) (hy : ¬ x < y → Wp l R n0 K Q h k n pcT Ls st) (hn : x < y → Wp l R n0 K Q h k n pcN Ls st) : Wp l R n0 K Q h k n pc Ls (.int y :: .int x :: st) :=
  w_ic ok hd (fun q => hy (by rw [h_ge] at q; simpa using q)) (fun q => hn (by rw [h_ge] at q; simpa using q))
theorem w_if_ge (ok : Ok Z K code own nm maxL ret) {pcN pcT : Nat} {o : Int} {x : Int32} (hd : Brn code pc pcN pcT (.ifCond .ge o) o) (hy : ¬ x < 0 → Wp l R n0 K Q h k n pcT Ls st) (hn : x < 0 → Wp l R n0 K Q h k n pcN Ls st) : Wp l R n0 K Q h k n pc Ls (.int x :: st) :=
  w_if0 ok hd (fun q => hy (by rw [if0, h_ge] at q; simpa using q)) (fun q => hn (by rw [if0, h_ge] at q; simpa using q))
theorem w_lc_ge (ok : Ok Z K code own nm maxL ret) {pcM pcN pcT : Nat} {o : Int} {x y : Int64} (hd1 : Fet code pc pcM .lcmp 1) (hd : Brn code pcM pcN pcT (.ifCond .ge o) o) (hy : ¬ x < y → Wp l R n0 K Q h k n pcT Ls st) (hn : x < y → Wp l R n0 K Q h k n pcN Ls st) : Wp l R n0 K Q h k n pc Ls (.long y :: .long x :: st) :=
  w_lcmp ok hd1 (w_if_ge ok hd (fun q => hy (fun r => q ((lw_lt x y).mpr r))) (fun q => hn ((lw_lt x y).mp q)))
theorem w_ic_gt (ok : Ok Z K code own nm maxL ret) {pcN pcT : Nat} {o : Int} {x y : Int32} (hd : Brn code pc pcN pcT (.if_icmp .gt o) o) (hy : y < x → Wp l R n0 K Q h k n pcT Ls st) (hn : ¬ y < x → Wp l R n0 K Q h k n pcN Ls st) : Wp l R n0 K Q h k n pc Ls (.int y :: .int x :: st) :=
  w_ic ok hd (fun q => hy (by rw [h_gt] at q; simpa using q)) (fun q => hn (by rw [h_gt] at q; simpa using q))
theorem w_if_gt (ok : Ok Z K code own nm maxL ret) {pcN pcT : Nat} {o : Int} {x : Int32} (hd : Brn code pc pcN pcT (.ifCond .gt o) o) (hy : 0 < x → Wp l R n0 K Q h k n pcT Ls st) (hn : ¬ 0 < x → Wp l R n0 K Q h k n pcN Ls st) : Wp l R n0 K Q h k n pc Ls (.int x :: st) :=
  w_if0 ok hd (fun q => hy (by rw [if0, h_gt] at q; simpa using q)) (fun q => hn (by rw [if0, h_gt] at q; simpa using q))
theorem w_lc_gt (ok : Ok Z K code own nm maxL ret) {pcM pcN pcT : Nat} {o : Int} {x y : Int64} (hd1 : Fet code pc pcM .lcmp 1) (hd : Brn code pcM pcN pcT (.ifCond .gt o) o) (hy : y < x → Wp l R n0 K Q h k n pcT Ls st) (hn : ¬ y < x → Wp l R n0 K Q h k n pcN Ls st) : Wp l R n0 K Q h k n pc Ls (.long y :: .long x :: st) :=
  w_lcmp ok hd1 (w_if_gt ok hd (fun q => hy ((lw_gt x y).mp q)) (fun q => hn (fun r => q ((lw_gt x y).mpr r))))
theorem w_ic_le (ok : Ok Z K code own nm maxL ret) {pcN pcT : Nat} {o : Int} {x y : Int32} (hd : Brn code pc pcN pcT (.if_icmp .le o) o) (hy : ¬ y < x → Wp l R n0 K Q h k n pcT Ls st) (hn : y < x → Wp l R n0 K Q h k n pcN Ls st) : Wp l R n0 K Q h k n pc Ls (.int y :: .int x :: st) :=
  w_ic ok hd (fun q => hy (by rw [h_le] at q; simpa using q)) (fun q => hn (by rw [h_le] at q; simpa using q))
theorem w_if_le (ok : Ok Z K code own nm maxL ret) {pcN pcT : Nat} {o : Int} {x : Int32} (hd : Brn code pc pcN pcT (.ifCond .le o) o) (hy : ¬ 0 < x → Wp l R n0 K Q h k n pcT Ls st) (hn : 0 < x → Wp l R n0 K Q h k n pcN Ls st) : Wp l R n0 K Q h k n pc Ls (.int x :: st) :=
  w_if0 ok hd (fun q => hy (by rw [if0, h_le] at q; simpa using q)) (fun q => hn (by rw [if0, h_le] at q; simpa using q))
theorem w_lc_le (ok : Ok Z K code own nm maxL ret) {pcM pcN pcT : Nat} {o : Int} {x y : Int64} (hd1 : Fet code pc pcM .lcmp 1) (hd : Brn code pcM pcN pcT (.ifCond .le o) o) (hy : ¬ y < x → Wp l R n0 K Q h k n pcT Ls st) (hn : y < x → Wp l R n0 K Q h k n pcN Ls st) : Wp l R n0 K Q h k n pc Ls (.long y :: .long x :: st) :=
  w_lcmp ok hd1 (w_if_le ok hd (fun q => hy (fun r => q ((lw_gt x y).mpr r))) (fun q => hn ((lw_gt x y).mp q)))
theorem w_ifnull_yes (ok : Ok Z K code own nm maxL ret) {pcN pcT : Nat} {o : Int} (hd : Brn code pc pcN pcT (.ifnull o) o) (hr : Wp l R n0 K Q h k n pcT Ls st) : Wp l R n0 K Q h k n pc Ls (.null :: st) := by
  obtain ⟨p, e, s, m, args, below, meth, c⟩ := K
  obtain ⟨hx, hby, hZ, hown, hnm, hml, hret, hlk⟩ := ok
  obtain ⟨hd, rfl, ho, hp⟩ := hd
  intro T locs X hT hF
  obtain ⟨s₂, o, h1, h2⟩ := hr T locs X hT hF
  exact ⟨s₂, o, XS.ifnullYes X.here hx rfl rfl (hb hby hd) rfl ho hp h1, h2⟩
theorem w_ifnull_no (ok : Ok Z K code own nm maxL ret) {pcN pcT : Nat} {o : Int} {b : Addr} (hd : Brn code pc pcN pcT (.ifnull o) o) (hr : Wp l R n0 K Q h k n pcN Ls st) : Wp l R n0 K Q h k n pc Ls (.ref b :: st) := by
  obtain ⟨p, e, s, m, args, below, meth, c⟩ := K
  obtain ⟨hx, hby, hZ, hown, hnm, hml, hret, hlk⟩ := ok
  obtain ⟨hd, rfl, ho, hp⟩ := hd
  intro T locs X hT hF
  obtain ⟨s₂, o, h1, h2⟩ := hr T locs X hT hF
  exact ⟨s₂, o, XS.ifnullNo X.here hx rfl (hb hby hd) rfl h1, h2⟩
theorem w_ifnonnull_yes (ok : Ok Z K code own nm maxL ret) {pcN pcT : Nat} {o : Int} {b : Addr} (hd : Brn code pc pcN pcT (.ifnonnull o) o) (hr : Wp l R n0 K Q h k n pcT Ls st) : Wp l R n0 K Q h k n pc Ls (.ref b :: st) := by
  obtain ⟨p, e, s, m, args, below, meth, c⟩ := K
  obtain ⟨hx, hby, hZ, hown, hnm, hml, hret, hlk⟩ := ok
  obtain ⟨hd, rfl, ho, hp⟩ := hd
  intro T locs X hT hF
  obtain ⟨s₂, o, h1, h2⟩ := hr T locs X hT hF
  exact ⟨s₂, o, XS.ifnonnullYes X.here hx rfl rfl (hb hby hd) rfl ho hp h1, h2⟩
theorem w_ifnonnull_no (ok : Ok Z K code own nm maxL ret) {pcN pcT : Nat} {o : Int} (hd : Brn code pc pcN pcT (.ifnonnull o) o) (hr : Wp l R n0 K Q h k n pcN Ls st) : Wp l R n0 K Q h k n pc Ls (.null :: st) := by
  obtain ⟨p, e, s, m, args, below, meth, c⟩ := K
  obtain ⟨hx, hby, hZ, hown, hnm, hml, hret, hlk⟩ := ok
  obtain ⟨hd, rfl, ho, hp⟩ := hd
  intro T locs X hT hF
  obtain ⟨s₂, o, h1, h2⟩ := hr T locs X hT hF
  exact ⟨s₂, o, XS.ifnonnullNo X.here hx rfl (hb hby hd) rfl h1, h2⟩
theorem w_acmp_eq (ok : Ok Z K code own nm maxL ret) {pcN pcT : Nat} {o : Int} {x y : Value} (hd : Brn code pc pcN pcT (.if_acmp .eq o) o) (hx' : x.isRef = true) (hy' : y.isRef = true) (hy : x = y → Wp l R n0 K Q h k n pcT Ls st) (hn : ¬ x = y → Wp l R n0 K Q h k n pcN Ls st) : Wp l R n0 K Q h k n pc Ls (y :: x :: st) := by
  obtain ⟨p, e, s, m, args, below, meth, c⟩ := K
  obtain ⟨hx, hby, hZ, hown, hnm, hml, hret, hlk⟩ := ok
  obtain ⟨hd, rfl, ho, hp⟩ := hd
  intro T locs X hT hF
  by_cases q : x = y
  · obtain ⟨s₂, o, h1, h2⟩ := hy q T locs X hT hF
    exact ⟨s₂, o, Jvm.RoadKit.acmp X hx rfl hx' hy' rfl (hb hby hd) rfl (decide_eq_true q) ho (by simp [acV, hp]) h1, h2⟩
  · obtain ⟨s₂, o, h1, h2⟩ := hn q T locs X hT hF
    exact ⟨s₂, o, Jvm.RoadKit.acmp X hx rfl hx' hy' rfl (hb hby hd) rfl (decide_eq_false q) ho (by simp [acV, hp]) h1, h2⟩
theorem w_acmp_ne (ok : Ok Z K code own nm maxL ret) {pcN pcT : Nat} {o : Int} {x y : Value} (hd : Brn code pc pcN pcT (.if_acmp .ne o) o) (hx' : x.isRef = true) (hy' : y.isRef = true) (hy : ¬ x = y → Wp l R n0 K Q h k n pcT Ls st) (hn : x = y → Wp l R n0 K Q h k n pcN Ls st) : Wp l R n0 K Q h k n pc Ls (y :: x :: st) := by
  obtain ⟨p, e, s, m, args, below, meth, c⟩ := K
  obtain ⟨hx, hby, hZ, hown, hnm, hml, hret, hlk⟩ := ok
  obtain ⟨hd, rfl, ho, hp⟩ := hd
  intro T locs X hT hF
  by_cases q : x = y
  · obtain ⟨s₂, o, h1, h2⟩ := hn q T locs X hT hF
    exact ⟨s₂, o, Jvm.RoadKit.acmp X hx rfl hx' hy' rfl (hb hby hd) rfl (decide_eq_true q) ho (by simp [acV, hp]) h1, h2⟩
  · obtain ⟨s₂, o, h1, h2⟩ := hy q T locs X hT hF
    exact ⟨s₂, o, Jvm.RoadKit.acmp X hx rfl hx' hy' rfl (hb hby hd) rfl (decide_eq_false q) ho (by simp [acV, hp]) h1, h2⟩
theorem w_return (ok : Ok Z K code own nm maxL none) (hd : Fet code pc pc' .return_ 1) (hk : k ≤ R.cells) (hn : n ≤ R.slots) (hQ : Q none h) : Wp l R n0 K Q h k n pc Ls [] := by
  obtain ⟨p, e, s, m, args, below, meth, c⟩ := K
  obtain ⟨hx, hby, hZ, hown, hnm, hml, hret, hlk⟩ := ok
  obtain ⟨hd, -⟩ := hd
  intro T locs X hT hF
  obtain ⟨fs, hr, hrun, hended, hW, hsame⟩ := X.leave (v := none) (fun _ => rfl) hlk
  refine ⟨_, _, X.returnOut hx hret (hb hby hd) hr, hrun, hended, _, locs, rfl, ⟨?_, hF⟩, ⟨_, rfl⟩, hW, hsame.mono hk hn⟩
  show Q _ T.heap
  rw [hT]; exact hQ
theorem w_ireturnN {t : FieldType} (ok : Ok Z K code own nm maxL (some t)) {x : Int32} (ht : t = .boolean ∨ t = .byte ∨ t = .char ∨ t = .short) (hd : Fet code pc pc' .ireturn 1) (hk : k ≤ R.cells) (hn : n ≤ R.slots) (hQ : Q (some (.int (nar t x))) h) : Wp l R n0 K Q h k n pc Ls (.int x :: st) := by
  obtain ⟨p, e, s, m, args, below, meth, c⟩ := K
  obtain ⟨hx, hby, hZ, hown, hnm, hml, hret, hlk⟩ := ok
  obtain ⟨hd, -⟩ := hd
  intro T locs X hT hF
  obtain ⟨fs, hr, hrun, hended, hW, hsame⟩ := X.leave (v := some (.int (nar t x))) (fun q => by rw [hret] at q; cases q) hlk
  refine ⟨_, _, retN X hx hret ht (hb hby hd) hr, hrun, hended, _, locs, rfl, ⟨?_, hF⟩, ⟨_, rfl⟩, hW, hsame.mono hk hn⟩
  show Q _ T.heap
  rw [hT]; exact hQ
theorem w_ireturnI (ok : Ok Z K code own nm maxL (some .int)) {x : Int32} (hd : Fet code pc pc' .ireturn 1) (hk : k ≤ R.cells) (hn : n ≤ R.slots) (hQ : Q (some (.int x)) h) : Wp l R n0 K Q h k n pc Ls (.int x :: st) := by
  obtain ⟨p, e, s, m, args, below, meth, c⟩ := K
  obtain ⟨hx, hby, hZ, hown, hnm, hml, hret, hlk⟩ := ok
  obtain ⟨hd, -⟩ := hd
  intro T locs X hT hF
  obtain ⟨fs, hr, hrun, hended, hW, hsame⟩ := X.leave (v := some (.int x)) (fun q => by rw [hret] at q; cases q) hlk
  refine ⟨_, _, retOut X hx hret (by rfl) (Or.inl ⟨rfl, Or.inl rfl, _, rfl⟩) (hb hby hd) hr, hrun, hended, _, locs, rfl, ⟨?_, hF⟩, ⟨_, rfl⟩, hW, hsame.mono hk hn⟩
  show Q _ T.heap
  rw [hT]; exact hQ
theorem w_lreturn (ok : Ok Z K code own nm maxL (some .long)) {x : Int64} (hd : Fet code pc pc' .lreturn 1) (hk : k ≤ R.cells) (hn : n ≤ R.slots) (hQ : Q (some (.long x)) h) : Wp l R n0 K Q h k n pc Ls (.long x :: st) := by
  obtain ⟨p, e, s, m, args, below, meth, c⟩ := K
  obtain ⟨hx, hby, hZ, hown, hnm, hml, hret, hlk⟩ := ok
  obtain ⟨hd, -⟩ := hd
  intro T locs X hT hF
  obtain ⟨fs, hr, hrun, hended, hW, hsame⟩ := X.leave (v := some (.long x)) (fun q => by rw [hret] at q; cases q) hlk
  refine ⟨_, _, retOut X hx hret (by rfl) (Or.inr (Or.inl ⟨rfl, rfl, _, rfl⟩)) (hb hby hd) hr, hrun, hended, _, locs, rfl, ⟨?_, hF⟩, ⟨_, rfl⟩, hW, hsame.mono hk hn⟩
  show Q _ T.heap
  rw [hT]; exact hQ
theorem w_areturn {t : FieldType} (ok : Ok Z K code own nm maxL (some t)) {x : Value} (ht : t.isReference = true) (hv : x.isRef = true) (hnar : narrow t x = x) (hd : Fet code pc pc' .areturn 1) (hk : k ≤ R.cells) (hn : n ≤ R.slots) (hQ : Q (some x) h) : Wp l R n0 K Q h k n pc Ls (x :: st) := by
  obtain ⟨p, e, s, m, args, below, meth, c⟩ := K
  obtain ⟨hx, hby, hZ, hown, hnm, hml, hret, hlk⟩ := ok
  obtain ⟨hd, -⟩ := hd
  intro T locs X hT hF
  obtain ⟨fs, hr, hrun, hended, hW, hsame⟩ := X.leave (v := some x) (fun q => by rw [hret] at q; cases q) hlk
  refine ⟨_, _, retOut X hx hret hnar (Or.inr (Or.inr (Or.inr (Or.inr ⟨rfl, ht, hv⟩)))) (hb hby hd) hr, hrun, hended, _, locs, rfl, ⟨?_, hF⟩, ⟨_, rfl⟩, hW, hsame.mono hk hn⟩
  show Q _ T.heap
  rw [hT]; exact hQ
theorem w_getfield (ok : Ok Z K code own nm maxL ret) {R0 O f d host : String} {i : Nat} {a : Addr} {x : Value} (w : (Cond.fieldLink own i R0 f d).before a0 Z = true ∨ (Cond.fieldLinkNest own i R0 f d host).before a0 Z = true) (via : Via Z R0 O f d) (F : Fld Z h a O f d x) (hd : Fet code pc pc' (.getfield i) 3) (hr : Wp l R n0 K Q h k n pc' Ls (x :: st)) : Wp l R n0 K Q h k n pc Ls (.ref a :: st) := by
  obtain ⟨p, e, s, m, args, below, meth, c⟩ := K
  obtain ⟨hx, hby, hZ, hown, hnm, hml, hret, hlk⟩ := ok
  obtain ⟨hd, rfl⟩ := hd
  intro T locs X hT hF
  obtain ⟨T', X', e', stp⟩ := getF X hx hZ hown w via hT F (g := mkF m pc Ls (.ref a :: st)) rfl rfl (hb hby hd)
  obtain ⟨s₂, o, h1, h2⟩ := hr T' locs X' e' hF
  exact ⟨s₂, o, stp _ h1, h2⟩
theorem w_getstatic (ok : Ok Z K code own nm maxL ret) {R0 O f d : String} {i : Nat} {x : Value} (w : (Cond.fieldLink own i R0 f d).before a0 Z = true) (via : Via Z R0 O f d) (F : Sta Z h O f d x) (hd : Fet code pc pc' (.getstatic i) 3) (hr : Wp l R n0 K Q h k n pc' Ls (x :: st)) : Wp l R n0 K Q h k n pc Ls st := by
  obtain ⟨p, e, s, m, args, below, meth, c⟩ := K
  obtain ⟨hx, hby, hZ, hown, hnm, hml, hret, hlk⟩ := ok
  obtain ⟨hd, rfl⟩ := hd
  intro T locs X hT hF
  obtain ⟨T', X', e', stp⟩ := getS (host := "") X hx hZ hown w via hT F (g := mkF m pc Ls st) rfl (hb hby hd)
  obtain ⟨s₂, o, h1, h2⟩ := hr T' locs X' e' hF
  exact ⟨s₂, o, stp _ h1, h2⟩
theorem w_putfield (ok : Ok Z K code own nm maxL ret) {R0 O f d host C : String} {i kk : Nat} {ty : FieldType} {a : Addr} {x old : Value} (w : (Cond.fieldLink own i R0 f d).before a0 Z = true ∨ (Cond.fieldLinkNest own i R0 f d host).before a0 Z = true) (via : Via Z R0 O f d) (F : Fld Z h a O f d old) (E : Exa Z h a C)
    (L : (Cond.lays C O f d).before a0 Z = true ∨ ((Cond.laysFinal C O f d).before a0 Z = true ∧ own = O ∧ nm = "<init>")) (wi : (Cond.instantiable C kk).before a0 Z = true) (hty : parseFieldDescriptor d = some ty) (hna : narrow ty x = x) (hfi : fits ty x = true) (ha : n0 ≤ a) (hd : Fet code pc pc' (.putfield i) 3)
    (hr : ∀ h', Wr h h' a (Jvm.RoadKit.slotOf Z O f d) x → Wp l R n0 K Q h' k n pc' Ls st) : Wp l R n0 K Q h k n pc Ls (x :: .ref a :: st) := by
  obtain ⟨p, e, s, m, args, below, meth, c⟩ := K
  obtain ⟨hx, hby, hZ, hown, hnm, hml, hret, hlk⟩ := ok
  obtain ⟨hd, rfl⟩ := hd
  intro T locs X hT hF
  obtain ⟨T', h', X', e', W', stp⟩ := putF X hx hZ hown w via hT F E (L.imp id fun q => ⟨q.1, q.2.1, hnm.trans q.2.2⟩) wi hty hna hfi (g := mkF m pc Ls (x :: .ref a :: st)) rfl rfl (hb hby hd)
  obtain ⟨s₂, o, h1, h2⟩ := hr h' W' T' _ X' e' (Fr.snoc X' hF ha)
  exact ⟨s₂, o, stp _ h1, h2⟩
theorem w_putfieldN (ok : Ok Z K code own nm maxL ret) {R0 O f d C : String} {i kk : Nat} {ty : FieldType} {a : Addr} {x x' old : Value} (w : (Cond.fieldLink own i R0 f d).before a0 Z = true) (via : Via Z R0 O f d) (F : Fld Z h a O f d old) (E : Exa Z h a C)
    (L : (Cond.lays C O f d).before a0 Z = true ∨ ((Cond.laysFinal C O f d).before a0 Z = true ∧ own = O ∧ nm = "<init>")) (wi : (Cond.instantiable C kk).before a0 Z = true) (hty : parseFieldDescriptor d = some ty) (hna : narrow ty x = x') (hfi : fits ty x' = true) (ha : n0 ≤ a) (hd : Fet code pc pc' (.putfield i) 3)
    (hr : ∀ h', Wr h h' a (Jvm.RoadKit.slotOf Z O f d) x' → Wp l R n0 K Q h' k n pc' Ls st) : Wp l R n0 K Q h k n pc Ls (x :: .ref a :: st) := by
  obtain ⟨p, e, s, m, args, below, meth, c⟩ := K
  obtain ⟨hx, hby, hZ, hown, hnm, hml, hret, hlk⟩ := ok
  obtain ⟨hd, rfl⟩ := hd
  intro T locs X hT hF
  obtain ⟨T', h', X', e', W', stp⟩ := putFN X hx hZ hown w via hT F E (L.imp id fun q => ⟨q.1, q.2.1, hnm.trans q.2.2⟩) wi hty hna hfi (g := mkF m pc Ls (x :: .ref a :: st)) rfl rfl (hb hby hd)
  obtain ⟨s₂, o, h1, h2⟩ := hr h' W' T' _ X' e' (Fr.snoc X' hF ha)
  exact ⟨s₂, o, stp _ h1, h2⟩
theorem w_new (ok : Ok Z K code own nm maxL ret) {C : String} {i nn : Nat} (w : (Cond.classLink own i C).before a0 Z = true) (wi : (Cond.instantiable C nn).before a0 Z = true) (wz : (Cond.initialized C).before a0 Z = true) (hd : Fet code pc pc' (.new i) 3) (ek : k + 1 = k') (en : n + nn = n') (hc : k' ≤ R.cells) (hl : n' ≤ R.slots)
    (hr : ∀ h' b, b = h.size → Ext h h' → Exa Z h' b C → (∀ {O f d : String} {ty : FieldType}, Laid Z a0 C O f d → parseFieldDescriptor d = some ty → Fld Z h' b O f d (defaultValue ty)) → Wp l R n0 K Q h' k' n' pc' Ls (.ref b :: st)) : Wp l R n0 K Q h k n pc Ls st := by
  obtain ⟨p, e, s, m, args, below, meth, c⟩ := K
  obtain ⟨hx, hby, hZ, hown, hnm, hml, hret, hlk⟩ := ok
  obtain ⟨hd, rfl⟩ := hd
  intro T locs X hT hF
  subst ek en
  obtain ⟨T', h', X', e', E', A', D', -, stp⟩ := newO X hx hZ hown w wi wz hT (g := mkF m pc Ls st) rfl (hb hby hd) hc hl
  obtain ⟨s₂, o, h1, h2⟩ := hr h' _ rfl E' A' D' T' _ X' e' hF
  exact ⟨s₂, o, stp _ h1, h2⟩
theorem w_newarray (ok : Ok Z K code own nm maxL ret) {aty : ArrayType} {z : Int32} {cap : Nat} (w : (Cond.arrayClass (newarray.typeOf aty)).before a0 Z = true) (hd : Fet code pc pc' (.newarray aty) 2) (hz : ¬ z < 0) (hcap : z.toNatClampNeg ≤ cap) (hb8 : cap * 8 ≤ 536870912) (ek : k + 1 = k') (en : n + cap = n') (hc : k' ≤ R.cells) (hl : n' ≤ R.slots)
    (hr : ∀ h' b cA, b = h.size → Ext h h' → Arr Z h' b (newA cA (newarray.typeOf aty) z) (newarray.typeOf aty) → Wp l R n0 K Q h' k' n' pc' Ls (.ref b :: st)) : Wp l R n0 K Q h k n pc Ls (.int z :: st) := by
  obtain ⟨p, e, s, m, args, below, meth, c⟩ := K
  obtain ⟨hx, hby, hZ, hown, hnm, hml, hret, hlk⟩ := ok
  obtain ⟨hd, rfl⟩ := hd
  intro T locs X hT hF
  subst ek en
  obtain ⟨T', h', cA, X', e', E', A', stp⟩ := newP X hx hZ w hT (g := mkF m pc Ls (.int z :: st)) rfl (hb hby hd) rfl hz hcap hb8 hc hl
  obtain ⟨s₂, o, h1, h2⟩ := hr h' _ cA rfl E' A' T' _ X' e' hF
  exact ⟨s₂, o, stp _ h1, h2⟩
theorem w_initO (ok : Ok Z K code own nm maxL ret) {i : Nat} {a : Addr} (w1 : (Cond.methodLink own i Lib.objectInit).before a0 Z = true) (w2 : (Cond.instanceMethod Lib.objectInit).before a0 Z = true) (w3 : (Cond.code Lib.objectInit ⟨#[0xb1]⟩ 1 none).before a0 Z = true) (hd : Fet code pc pc' (.invokespecial i) 3)
    (hsz : Ls.size = maxL) (hf : 1 ≤ R.frames) (hl : (st.map fun v => v.category).sum + 12 ≤ R.locals) (hr : Wp l R n0 K Q h k n pc' Ls st) : Wp l R n0 K Q h k n pc Ls (.ref a :: st) := by
  obtain ⟨p, e, s, m, args, below, meth, c⟩ := K
  obtain ⟨hx, hby, hZ, hown, hnm, hml, hret, hlk⟩ := ok
  obtain ⟨hd, rfl⟩ := hd
  intro T locs X hT hF
  obtain ⟨T', X', e', stp⟩ := initO X hx hZ hown w1 w2 w3 hT (g := mkF m pc Ls (.ref a :: st)) rfl (hsz.trans hml.symm) rfl (hb hby hd) hf (W := (st.map fun v => v.category).sum) (by show 2 * 0 + _ ≤ _; omega) hl
  obtain ⟨s₂, o, h1, h2⟩ := hr T' locs X' e' hF
  exact ⟨s₂, o, stp _ h1, h2⟩
theorem w_iastore (ok : Ok Z K code own nm maxL ret) {a : Addr} {cl : Cell} {j : Int32} {x : Int32} (A : Arr Z h a cl .int) (hj : ¬ (j < 0 ∨ cl.slots.size ≤ j.toNatClampNeg)) (ha : n0 ≤ a) (hd : Fet code pc pc' .iastore 1)
    (hr : ∀ h', Wr h h' a j.toNatClampNeg (.int x) → Wp l R n0 K Q h' k n pc' Ls st) : Wp l R n0 K Q h k n pc Ls ((.int x) :: .int j :: .ref a :: st) := by
  obtain ⟨p, e, s, m, args, below, meth, c⟩ := K
  obtain ⟨hx, hby, hZ, hown, hnm, hml, hret, hlk⟩ := ok
  obtain ⟨hd, rfl⟩ := hd
  intro T locs X hT hF
  obtain ⟨T', h', X', e', W', stp⟩ := stI X hx hZ hT A hj (g := mkF m pc Ls ((.int x) :: .int j :: .ref a :: st)) rfl rfl (hb hby hd)
  obtain ⟨s₂, o, h1, h2⟩ := hr h' W' T' _ X' e' (Fr.snoc X' hF ha)
  exact ⟨s₂, o, stp _ h1, h2⟩
theorem w_lastore (ok : Ok Z K code own nm maxL ret) {a : Addr} {cl : Cell} {j : Int32} {x : Int64} (A : Arr Z h a cl .long) (hj : ¬ (j < 0 ∨ cl.slots.size ≤ j.toNatClampNeg)) (ha : n0 ≤ a) (hd : Fet code pc pc' .lastore 1)
    (hr : ∀ h', Wr h h' a j.toNatClampNeg (.long x) → Wp l R n0 K Q h' k n pc' Ls st) : Wp l R n0 K Q h k n pc Ls ((.long x) :: .int j :: .ref a :: st) := by
  obtain ⟨p, e, s, m, args, below, meth, c⟩ := K
  obtain ⟨hx, hby, hZ, hown, hnm, hml, hret, hlk⟩ := ok
  obtain ⟨hd, rfl⟩ := hd
  intro T locs X hT hF
  obtain ⟨T', h', X', e', W', stp⟩ := stJ X hx hZ hT A hj (g := mkF m pc Ls ((.long x) :: .int j :: .ref a :: st)) rfl rfl (hb hby hd)
  obtain ⟨s₂, o, h1, h2⟩ := hr h' W' T' _ X' e' (Fr.snoc X' hF ha)
  exact ⟨s₂, o, stp _ h1, h2⟩
theorem w_castore (ok : Ok Z K code own nm maxL ret) {a : Addr} {cl : Cell} {j : Int32} {x : Int32} (A : Arr Z h a cl .char) (hj : ¬ (j < 0 ∨ cl.slots.size ≤ j.toNatClampNeg)) (ha : n0 ≤ a) (hd : Fet code pc pc' .castore 1)
    (hr : ∀ h', Wr h h' a j.toNatClampNeg (.int (nar .char x)) → Wp l R n0 K Q h' k n pc' Ls st) : Wp l R n0 K Q h k n pc Ls ((.int x) :: .int j :: .ref a :: st) := by
  obtain ⟨p, e, s, m, args, below, meth, c⟩ := K
  obtain ⟨hx, hby, hZ, hown, hnm, hml, hret, hlk⟩ := ok
  obtain ⟨hd, rfl⟩ := hd
  intro T locs X hT hF
  obtain ⟨T', h', X', e', W', stp⟩ := stC X hx hZ hT A hj (g := mkF m pc Ls ((.int x) :: .int j :: .ref a :: st)) rfl rfl (hb hby hd)
  obtain ⟨s₂, o, h1, h2⟩ := hr h' W' T' _ X' e' (Fr.snoc X' hF ha)
  exact ⟨s₂, o, stp _ h1, h2⟩
theorem w_bastoreB (ok : Ok Z K code own nm maxL ret) {a : Addr} {cl : Cell} {j : Int32} {x : Int32} (A : Arr Z h a cl .byte) (hj : ¬ (j < 0 ∨ cl.slots.size ≤ j.toNatClampNeg)) (ha : n0 ≤ a) (hd : Fet code pc pc' .bastore 1)
    (hr : ∀ h', Wr h h' a j.toNatClampNeg (.int (nar .byte x)) → Wp l R n0 K Q h' k n pc' Ls st) : Wp l R n0 K Q h k n pc Ls ((.int x) :: .int j :: .ref a :: st) := by
  obtain ⟨p, e, s, m, args, below, meth, c⟩ := K
  obtain ⟨hx, hby, hZ, hown, hnm, hml, hret, hlk⟩ := ok
  obtain ⟨hd, rfl⟩ := hd
  intro T locs X hT hF
  obtain ⟨T', h', X', e', W', stp⟩ := stB X hx hZ hT A hj (g := mkF m pc Ls ((.int x) :: .int j :: .ref a :: st)) rfl rfl (hb hby hd)
  obtain ⟨s₂, o, h1, h2⟩ := hr h' W' T' _ X' e' (Fr.snoc X' hF ha)
  exact ⟨s₂, o, stp _ h1, h2⟩
theorem w_bastoreZ (ok : Ok Z K code own nm maxL ret) {a : Addr} {cl : Cell} {j : Int32} {x : Int32} (A : Arr Z h a cl .boolean) (hj : ¬ (j < 0 ∨ cl.slots.size ≤ j.toNatClampNeg)) (ha : n0 ≤ a) (hd : Fet code pc pc' .bastore 1)
    (hr : ∀ h', Wr h h' a j.toNatClampNeg (.int (nar .boolean x)) → Wp l R n0 K Q h' k n pc' Ls st) : Wp l R n0 K Q h k n pc Ls ((.int x) :: .int j :: .ref a :: st) := by
  obtain ⟨p, e, s, m, args, below, meth, c⟩ := K
  obtain ⟨hx, hby, hZ, hown, hnm, hml, hret, hlk⟩ := ok
  obtain ⟨hd, rfl⟩ := hd
  intro T locs X hT hF
  obtain ⟨T', h', X', e', W', stp⟩ := stZ X hx hZ hT A hj (g := mkF m pc Ls ((.int x) :: .int j :: .ref a :: st)) rfl rfl (hb hby hd)
  obtain ⟨s₂, o, h1, h2⟩ := hr h' W' T' _ X' e' (Fr.snoc X' hF ha)
  exact ⟨s₂, o, stp _ h1, h2⟩
theorem w_callSV (ok : Ok Z K code own nm maxL ret) {y : MethodName} {bytes : ByteArray} {mL i : Nat} {rt : Option FieldType} {rm : Room} {Qc : Value → Heap → Prop} {argsL : List Value}  (w1 : (Cond.methodLink own i y).before a0 Z = true) (w2 : (Cond.static y).before a0 Z = true) (wz : (Cond.initialized y.cls).before a0 Z = true) (wc : (Cond.code y bytes mL rt).before a0 Z = true) (hy : y.cls ≠ "java/lang/invoke/MethodHandle" ∧ y.cls ≠ "java/lang/invoke/VarHandle")
    (hM : ConV l Z n0 y bytes mL rt [] rm (argsL).toArray h Qc) (hd : Fet code pc pc' (.invokestatic i) 3) (hlen : ∀ sig, parseMethodDescriptor y.desc = some sig → argsL.length = sig.parameters.length) (hst : st = argsL.reverse ++ rest) (hsz : Ls.size = maxL) (hf : rm.frames + 1 ≤ R.frames) (hl : (rest.map fun v => v.category).sum + (mL + 11) + rm.locals ≤ R.locals)
    (ek : k + rm.cells = k') (en : n + rm.slots = n') (hc : k' ≤ R.cells) (hs : n' ≤ R.slots) (hr : ∀ w h', Qc w h' → Wp l R n0 K Q h' k' n' pc' Ls (w :: rest)) : Wp l R n0 K Q h k n pc Ls st := by
  obtain ⟨p, e, s, m, args, below, meth, c⟩ := K
  obtain ⟨hx, hby, hZ, hown, hnm, hml, hret, hlk⟩ := ok
  obtain ⟨hd, rfl⟩ := hd
  intro T locs X hT hF
  subst hst ek en
  obtain ⟨v, _, ⟨T', L', k1, n1⟩, -, X', ⟨Lc, hQ, l1, y1, z1⟩, stp⟩ := Jvm.LawKit.callS X hx (y := y) hown (mvT hZ w1) (mvT hZ w2) (mvT hZ wz) (mvT hZ wc) hy (backOf (W := (rest.map fun v => v.category).sum) (Q := fun v h' L => (∃ w, v = some w ∧ Qc w h') ∧ Fr n0 L) (as' := (argsL).toArray) (rm := rm) (bytes := bytes) (maxL := mL) (ret := rt) (h := h) (Z := Z) hM hZ wc wz hf hl) (g := mkF m pc Ls (argsL.reverse ++ rest)) rfl (hsz.trans hml.symm) (argsL := argsL) (rest := rest) hlen rfl (by show 2 * 0 + _ ≤ _; omega) (hb hby hd) (fun _ _ => ⟨rfl, hT, hc, hs⟩)
  dsimp only [Pt.U, Pt.locs, Pt.cells, Pt.slots] at X' l1 y1 z1 stp hQ
  subst l1 y1 z1

  obtain ⟨⟨w, rfl, hQ⟩, hFc⟩ := hQ
  obtain ⟨s₂, o, h1, h2⟩ := hr _ _ hQ T' _ X' rfl (Fr.app hF hFc)
  exact ⟨s₂, o, stp _ h1, h2⟩
theorem w_callSN (ok : Ok Z K code own nm maxL ret) {y : MethodName} {bytes : ByteArray} {mL i : Nat} {rt : Option FieldType} {rm : Room} {Qc : Heap → Prop} {argsL : List Value}  (w1 : (Cond.methodLink own i y).before a0 Z = true) (w2 : (Cond.static y).before a0 Z = true) (wz : (Cond.initialized y.cls).before a0 Z = true) (wc : (Cond.code y bytes mL rt).before a0 Z = true) (hy : y.cls ≠ "java/lang/invoke/MethodHandle" ∧ y.cls ≠ "java/lang/invoke/VarHandle")
    (hM : ConN l Z n0 y bytes mL rt [] rm (argsL).toArray h Qc) (hd : Fet code pc pc' (.invokestatic i) 3) (hlen : ∀ sig, parseMethodDescriptor y.desc = some sig → argsL.length = sig.parameters.length) (hst : st = argsL.reverse ++ rest) (hsz : Ls.size = maxL) (hf : rm.frames + 1 ≤ R.frames) (hl : (rest.map fun v => v.category).sum + (mL + 11) + rm.locals ≤ R.locals)
    (ek : k + rm.cells = k') (en : n + rm.slots = n') (hc : k' ≤ R.cells) (hs : n' ≤ R.slots) (hr : ∀ h', Qc h' → Wp l R n0 K Q h' k' n' pc' Ls rest) : Wp l R n0 K Q h k n pc Ls st := by
  obtain ⟨p, e, s, m, args, below, meth, c⟩ := K
  obtain ⟨hx, hby, hZ, hown, hnm, hml, hret, hlk⟩ := ok
  obtain ⟨hd, rfl⟩ := hd
  intro T locs X hT hF
  subst hst ek en
  obtain ⟨v, _, ⟨T', L', k1, n1⟩, -, X', ⟨Lc, hQ, l1, y1, z1⟩, stp⟩ := Jvm.LawKit.callS X hx (y := y) hown (mvT hZ w1) (mvT hZ w2) (mvT hZ wz) (mvT hZ wc) hy (backOf (W := (rest.map fun v => v.category).sum) (Q := fun v h' L => (v = none ∧ Qc h') ∧ Fr n0 L) (as' := (argsL).toArray) (rm := rm) (bytes := bytes) (maxL := mL) (ret := rt) (h := h) (Z := Z) hM hZ wc wz hf hl) (g := mkF m pc Ls (argsL.reverse ++ rest)) rfl (hsz.trans hml.symm) (argsL := argsL) (rest := rest) hlen rfl (by show 2 * 0 + _ ≤ _; omega) (hb hby hd) (fun _ _ => ⟨rfl, hT, hc, hs⟩)
  dsimp only [Pt.U, Pt.locs, Pt.cells, Pt.slots] at X' l1 y1 z1 stp hQ
  subst l1 y1 z1

  obtain ⟨⟨rfl, hQ⟩, hFc⟩ := hQ
  obtain ⟨s₂, o, h1, h2⟩ := hr _ hQ T' _ X' rfl (Fr.app hF hFc)
  exact ⟨s₂, o, stp _ h1, h2⟩
theorem w_init (ok : Ok Z K code own nm maxL ret) {y : MethodName} {bytes : ByteArray} {mL i : Nat} {rt : Option FieldType} {rm : Room} {Qc : Heap → Prop} {argsL : List Value} {a : Addr} (hy1 : y.name = "<init>") (hrt : rt = none) (w1 : (Cond.methodLink own i y).before a0 Z = true) (w2 : (Cond.instanceMethod y).before a0 Z = true) (wz : (Cond.initialized y.cls).before a0 Z = true) (wc : (Cond.code y bytes mL rt).before a0 Z = true) (hy : y.cls ≠ "java/lang/invoke/MethodHandle" ∧ y.cls ≠ "java/lang/invoke/VarHandle")
    (hM : ConN l Z n0 y bytes mL rt [] rm (.ref a :: argsL).toArray h Qc) (hd : Fet code pc pc' (.invokespecial i) 3) (hlen : ∀ sig, parseMethodDescriptor y.desc = some sig → argsL.length = sig.parameters.length) (hst : st = argsL.reverse ++ .ref a :: rest) (hsz : Ls.size = maxL) (hf : rm.frames + 1 ≤ R.frames) (hl : (rest.map fun v => v.category).sum + (mL + 11) + rm.locals ≤ R.locals)
    (ek : k + rm.cells = k') (en : n + rm.slots = n') (hc : k' ≤ R.cells) (hs : n' ≤ R.slots) (hr : ∀ h', Qc h' → Wp l R n0 K Q h' k' n' pc' Ls rest) : Wp l R n0 K Q h k n pc Ls st := by
  obtain ⟨p, e, s, m, args, below, meth, c⟩ := K
  obtain ⟨hx, hby, hZ, hown, hnm, hml, hret, hlk⟩ := ok
  obtain ⟨hd, rfl⟩ := hd
  intro T locs X hT hF
  subst hst ek en
  subst hrt
  obtain ⟨v, _, ⟨T', L', k1, n1⟩, -, X', ⟨Lc, hQ, l1, y1, z1⟩, stp⟩ := X.specialBack hx (y := y) hy1 hown (mvT hZ w1) (mvT hZ w2) (mvT hZ wc) hy (backOf (W := (rest.map fun v => v.category).sum) (Q := fun v h' L => (v = none ∧ Qc h') ∧ Fr n0 L) (as' := (Value.ref a :: argsL).toArray) (rm := rm) (bytes := bytes) (maxL := mL) (ret := none) (h := h) (Z := Z) hM hZ wc wz hf hl) (g := mkF m pc Ls (argsL.reverse ++ .ref a :: rest)) rfl (hsz.trans hml.symm) (Steps.refl _) (a := a) (argsL := argsL) (rest := rest) hlen rfl (by show 2 * 0 + _ ≤ _; omega) (hb hby hd) (fun _ _ => ⟨rfl, hT, hc, hs⟩)
  dsimp only [Pt.U, Pt.locs, Pt.cells, Pt.slots] at X' l1 y1 z1 stp hQ
  subst l1 y1 z1

  obtain ⟨⟨rfl, hQ⟩, hFc⟩ := hQ
  obtain ⟨s₂, o, h1, h2⟩ := hr _ hQ T' _ X' rfl (Fr.app hF hFc)
  exact ⟨s₂, o, stp.trans h1, h2⟩
theorem w_virtV (ok : Ok Z K code own nm maxL ret) {y : MethodName} {bytes : ByteArray} {mL i : Nat} {rt : Option FieldType} {rm : Room} {Qc : Value → Heap → Prop} {argsL : List Value} {a : Addr} {C : String} (w1 : (Cond.methodLink own i y).before a0 Z = true) (w2 : (Cond.declares y).before a0 Z = true) (w3 : (Cond.selects C y y).before a0 Z = true) (w4 : (Cond.instanceMethod y).before a0 Z = true) (wz : (Cond.initialized y.cls).before a0 Z = true) (wc : (Cond.code y bytes mL rt).before a0 Z = true) (E : Exa Z h a C) (hy : y.cls ≠ "java/lang/invoke/MethodHandle" ∧ y.cls ≠ "java/lang/invoke/VarHandle")
    (hM : ConV l Z n0 y bytes mL rt [] rm (.ref a :: argsL).toArray h Qc) (hd : Fet code pc pc' (.invokevirtual i) 3) (hlen : ∀ sig, parseMethodDescriptor y.desc = some sig → argsL.length = sig.parameters.length) (hst : st = argsL.reverse ++ .ref a :: rest) (hsz : Ls.size = maxL) (hf : rm.frames + 1 ≤ R.frames) (hl : (rest.map fun v => v.category).sum + (mL + 11) + rm.locals ≤ R.locals)
    (ek : k + rm.cells = k') (en : n + rm.slots = n') (hc : k' ≤ R.cells) (hs : n' ≤ R.slots) (hr : ∀ w h', Qc w h' → Wp l R n0 K Q h' k' n' pc' Ls (w :: rest)) : Wp l R n0 K Q h k n pc Ls st := by
  obtain ⟨p, e, s, m, args, below, meth, c⟩ := K
  obtain ⟨hx, hby, hZ, hown, hnm, hml, hret, hlk⟩ := ok
  obtain ⟨hd, rfl⟩ := hd
  intro T locs X hT hF
  subst hst ek en
  obtain ⟨cB, kB, qa, qb, qc⟩ := isOf hZ hT E
  obtain ⟨v, _, ⟨T', L', k1, n1⟩, -, X', ⟨Lc, hQ, l1, y1, z1⟩, stp⟩ := X.virtualBack hx (y := y) (z := y) hown (mvT hZ w1) (mvT hZ w2) (notFace_of_selects (args := #[]) (mvT hZ w3)) (mvT hZ w3) (mvT hZ w4) hy (backOf (W := (rest.map fun v => v.category).sum) (Q := fun v h' L => (∃ w, v = some w ∧ Qc w h') ∧ Fr n0 L) (as' := (Value.ref a :: argsL).toArray) (rm := rm) (bytes := bytes) (maxL := mL) (ret := rt) (h := h) (Z := Z) hM hZ wc wz hf hl) qa qc (g := mkF m pc Ls (argsL.reverse ++ .ref a :: rest)) rfl (hsz.trans hml.symm) (Steps.refl _) (argsL := argsL) (rest := rest) hlen rfl (by show 2 * 0 + _ ≤ _; omega) (hb hby hd) (fun _ _ => ⟨rfl, hT, hc, hs⟩)
  dsimp only [Pt.U, Pt.locs, Pt.cells, Pt.slots] at X' l1 y1 z1 stp hQ
  subst l1 y1 z1

  obtain ⟨⟨w, rfl, hQ⟩, hFc⟩ := hQ
  obtain ⟨s₂, o, h1, h2⟩ := hr _ _ hQ T' _ X' rfl (Fr.app hF hFc)
  exact ⟨s₂, o, stp.trans h1, h2⟩
theorem w_virtN (ok : Ok Z K code own nm maxL ret) {y : MethodName} {bytes : ByteArray} {mL i : Nat} {rt : Option FieldType} {rm : Room} {Qc : Heap → Prop} {argsL : List Value} {a : Addr} {C : String} (w1 : (Cond.methodLink own i y).before a0 Z = true) (w2 : (Cond.declares y).before a0 Z = true) (w3 : (Cond.selects C y y).before a0 Z = true) (w4 : (Cond.instanceMethod y).before a0 Z = true) (wz : (Cond.initialized y.cls).before a0 Z = true) (wc : (Cond.code y bytes mL rt).before a0 Z = true) (E : Exa Z h a C) (hy : y.cls ≠ "java/lang/invoke/MethodHandle" ∧ y.cls ≠ "java/lang/invoke/VarHandle")
    (hM : ConN l Z n0 y bytes mL rt [] rm (.ref a :: argsL).toArray h Qc) (hd : Fet code pc pc' (.invokevirtual i) 3) (hlen : ∀ sig, parseMethodDescriptor y.desc = some sig → argsL.length = sig.parameters.length) (hst : st = argsL.reverse ++ .ref a :: rest) (hsz : Ls.size = maxL) (hf : rm.frames + 1 ≤ R.frames) (hl : (rest.map fun v => v.category).sum + (mL + 11) + rm.locals ≤ R.locals)
    (ek : k + rm.cells = k') (en : n + rm.slots = n') (hc : k' ≤ R.cells) (hs : n' ≤ R.slots) (hr : ∀ h', Qc h' → Wp l R n0 K Q h' k' n' pc' Ls rest) : Wp l R n0 K Q h k n pc Ls st := by
  obtain ⟨p, e, s, m, args, below, meth, c⟩ := K
  obtain ⟨hx, hby, hZ, hown, hnm, hml, hret, hlk⟩ := ok
  obtain ⟨hd, rfl⟩ := hd
  intro T locs X hT hF
  subst hst ek en
  obtain ⟨cB, kB, qa, qb, qc⟩ := isOf hZ hT E
  obtain ⟨v, _, ⟨T', L', k1, n1⟩, -, X', ⟨Lc, hQ, l1, y1, z1⟩, stp⟩ := X.virtualBack hx (y := y) (z := y) hown (mvT hZ w1) (mvT hZ w2) (notFace_of_selects (args := #[]) (mvT hZ w3)) (mvT hZ w3) (mvT hZ w4) hy (backOf (W := (rest.map fun v => v.category).sum) (Q := fun v h' L => (v = none ∧ Qc h') ∧ Fr n0 L) (as' := (Value.ref a :: argsL).toArray) (rm := rm) (bytes := bytes) (maxL := mL) (ret := rt) (h := h) (Z := Z) hM hZ wc wz hf hl) qa qc (g := mkF m pc Ls (argsL.reverse ++ .ref a :: rest)) rfl (hsz.trans hml.symm) (Steps.refl _) (argsL := argsL) (rest := rest) hlen rfl (by show 2 * 0 + _ ≤ _; omega) (hb hby hd) (fun _ _ => ⟨rfl, hT, hc, hs⟩)
  dsimp only [Pt.U, Pt.locs, Pt.cells, Pt.slots] at X' l1 y1 z1 stp hQ
  subst l1 y1 z1

  obtain ⟨⟨rfl, hQ⟩, hFc⟩ := hQ
  obtain ⟨s₂, o, h1, h2⟩ := hr _ hQ T' _ X' rfl (Fr.app hF hFc)
  exact ⟨s₂, o, stp.trans h1, h2⟩
theorem sel_priv {s : State} {args : Array Value} {y : MethodName} {kk : Nat} (wi : (Cond.instantiable y.cls kk).before args s = true) (hp : s.PrivateAt y) (hi : (Cond.instanceMethod y).before args s = true) (hy : y.cls ≠ "java/lang/invoke/MethodHandle" ∧ y.cls ≠ "java/lang/invoke/VarHandle") : (Cond.selects y.cls y y).before args s = true := by
  obtain ⟨c, k, h1, h2, h3, h4⟩ := Cond.instantiable_spec wi
  exact selects_self_of_private h1 h2 (by simp [Class.isInterface] at h4 ⊢; first | exact h4 | exact h4.1 | simp_all) hp hi hy
theorem w_privV (ok : Ok Z K code own nm maxL ret) {y : MethodName} {bytes : ByteArray} {mL i : Nat} {rt : Option FieldType} {rm : Room} {Qc : Value → Heap → Prop} {argsL : List Value} {a : Addr} {kk : Nat} (w1 : (Cond.methodLink own i y).before a0 Z = true) (w2 : (Cond.instanceMethod y).before a0 Z = true) (w3 : (Cond.privateMethod y).before a0 Z = true) (wi : (Cond.instantiable y.cls kk).before a0 Z = true) (wz : (Cond.initialized y.cls).before a0 Z = true) (wc : (Cond.code y bytes mL rt).before a0 Z = true) (E : Exa Z h a y.cls) (hy : y.cls ≠ "java/lang/invoke/MethodHandle" ∧ y.cls ≠ "java/lang/invoke/VarHandle")
    (hM : ConV l Z n0 y bytes mL rt [] rm (.ref a :: argsL).toArray h Qc) (hd : Fet code pc pc' (.invokevirtual i) 3) (hlen : ∀ sig, parseMethodDescriptor y.desc = some sig → argsL.length = sig.parameters.length) (hst : st = argsL.reverse ++ .ref a :: rest) (hsz : Ls.size = maxL) (hf : rm.frames + 1 ≤ R.frames) (hl : (rest.map fun v => v.category).sum + (mL + 11) + rm.locals ≤ R.locals)
    (ek : k + rm.cells = k') (en : n + rm.slots = n') (hc : k' ≤ R.cells) (hs : n' ≤ R.slots) (hr : ∀ w h', Qc w h' → Wp l R n0 K Q h' k' n' pc' Ls (w :: rest)) : Wp l R n0 K Q h k n pc Ls st := by
  obtain ⟨p, e, s, m, args, below, meth, c⟩ := K
  obtain ⟨hx, hby, hZ, hown, hnm, hml, hret, hlk⟩ := ok
  obtain ⟨hd, rfl⟩ := hd
  intro T locs X hT hF
  subst hst ek en
  obtain ⟨qc, qa, qb⟩ := E.cell
  obtain ⟨v, _, ⟨T', L', k1, n1⟩, -, X', ⟨Lc, hQ, l1, y1, z1⟩, stp⟩ := X.privateBack hx (y := y) hown (mvT hZ w1) (mvT hZ w2) (sel_priv (args := args) (mvT hZ wi) (Cond.privateMethod_at (mvP hZ w3 (args := #[]))) (mvT hZ w2) hy) (Cond.privateMethod_at (mvP hZ w3 (args := #[]))) (mvT hZ wc) hy (backOf (W := (rest.map fun v => v.category).sum) (Q := fun v h' L => (∃ w, v = some w ∧ Qc w h') ∧ Fr n0 L) (as' := (Value.ref a :: argsL).toArray) (rm := rm) (bytes := bytes) (maxL := mL) (ret := rt) (h := h) (Z := Z) hM hZ wc wz hf hl) (g := mkF m pc Ls (argsL.reverse ++ .ref a :: rest)) rfl (hsz.trans hml.symm) (Steps.refl _) (a := a) (by rw [hT]; exact qa) qb (argsL := argsL) (rest := rest) hlen rfl (by show 2 * 0 + _ ≤ _; omega) (hb hby hd) (fun _ _ => ⟨rfl, hT, hc, hs⟩)
  dsimp only [Pt.U, Pt.locs, Pt.cells, Pt.slots] at X' l1 y1 z1 stp hQ
  subst l1 y1 z1

  obtain ⟨⟨w, rfl, hQ⟩, hFc⟩ := hQ
  obtain ⟨s₂, o, h1, h2⟩ := hr _ _ hQ T' _ X' rfl (Fr.app hF hFc)
  exact ⟨s₂, o, stp.trans h1, h2⟩
theorem w_privN (ok : Ok Z K code own nm maxL ret) {y : MethodName} {bytes : ByteArray} {mL i : Nat} {rt : Option FieldType} {rm : Room} {Qc : Heap → Prop} {argsL : List Value} {a : Addr} {kk : Nat} (w1 : (Cond.methodLink own i y).before a0 Z = true) (w2 : (Cond.instanceMethod y).before a0 Z = true) (w3 : (Cond.privateMethod y).before a0 Z = true) (wi : (Cond.instantiable y.cls kk).before a0 Z = true) (wz : (Cond.initialized y.cls).before a0 Z = true) (wc : (Cond.code y bytes mL rt).before a0 Z = true) (E : Exa Z h a y.cls) (hy : y.cls ≠ "java/lang/invoke/MethodHandle" ∧ y.cls ≠ "java/lang/invoke/VarHandle")
    (hM : ConN l Z n0 y bytes mL rt [] rm (.ref a :: argsL).toArray h Qc) (hd : Fet code pc pc' (.invokevirtual i) 3) (hlen : ∀ sig, parseMethodDescriptor y.desc = some sig → argsL.length = sig.parameters.length) (hst : st = argsL.reverse ++ .ref a :: rest) (hsz : Ls.size = maxL) (hf : rm.frames + 1 ≤ R.frames) (hl : (rest.map fun v => v.category).sum + (mL + 11) + rm.locals ≤ R.locals)
    (ek : k + rm.cells = k') (en : n + rm.slots = n') (hc : k' ≤ R.cells) (hs : n' ≤ R.slots) (hr : ∀ h', Qc h' → Wp l R n0 K Q h' k' n' pc' Ls rest) : Wp l R n0 K Q h k n pc Ls st := by
  obtain ⟨p, e, s, m, args, below, meth, c⟩ := K
  obtain ⟨hx, hby, hZ, hown, hnm, hml, hret, hlk⟩ := ok
  obtain ⟨hd, rfl⟩ := hd
  intro T locs X hT hF
  subst hst ek en
  obtain ⟨qc, qa, qb⟩ := E.cell
  obtain ⟨v, _, ⟨T', L', k1, n1⟩, -, X', ⟨Lc, hQ, l1, y1, z1⟩, stp⟩ := X.privateBack hx (y := y) hown (mvT hZ w1) (mvT hZ w2) (sel_priv (args := args) (mvT hZ wi) (Cond.privateMethod_at (mvP hZ w3 (args := #[]))) (mvT hZ w2) hy) (Cond.privateMethod_at (mvP hZ w3 (args := #[]))) (mvT hZ wc) hy (backOf (W := (rest.map fun v => v.category).sum) (Q := fun v h' L => (v = none ∧ Qc h') ∧ Fr n0 L) (as' := (Value.ref a :: argsL).toArray) (rm := rm) (bytes := bytes) (maxL := mL) (ret := rt) (h := h) (Z := Z) hM hZ wc wz hf hl) (g := mkF m pc Ls (argsL.reverse ++ .ref a :: rest)) rfl (hsz.trans hml.symm) (Steps.refl _) (a := a) (by rw [hT]; exact qa) qb (argsL := argsL) (rest := rest) hlen rfl (by show 2 * 0 + _ ≤ _; omega) (hb hby hd) (fun _ _ => ⟨rfl, hT, hc, hs⟩)
  dsimp only [Pt.U, Pt.locs, Pt.cells, Pt.slots] at X' l1 y1 z1 stp hQ
  subst l1 y1 z1

  obtain ⟨⟨rfl, hQ⟩, hFc⟩ := hQ
  obtain ⟨s₂, o, h1, h2⟩ := hr _ hQ T' _ X' rfl (Fr.app hF hFc)
  exact ⟨s₂, o, stp.trans h1, h2⟩
end Rules
/-- an array of this kind with these values -/
def Ary (Z : State) (h : Heap) (a : Addr) (ty : FieldType) (vs : List Value) : Prop := ∃ c : Cell, Arr Z h a c ty ∧ c.slots.toList = vs
section AryFacts
variable {Z : State} {h h' : Heap} {a b : Addr} {ty : FieldType} {vs : List Value} {v : Value} {sl i : Nat} {ws : List Addr}
theorem Ary.lt (A : Ary Z h a ty vs) : a < h.size := by obtain ⟨c, A, -⟩ := A; exact A.lt
theorem Ary.ext (A : Ary Z h a ty vs) (E : Ext h h') : Ary Z h' a ty vs := by obtain ⟨c, A, r⟩ := A; exact ⟨c, A.ext E, r⟩
theorem Ary.other (A : Ary Z h b ty vs) (W : Wr h h' a sl v) (q : b ≠ a) : Ary Z h' b ty vs := by obtain ⟨c, A, r⟩ := A; exact ⟨c, A.other W q, r⟩
theorem Ary.keep (A : Ary Z h a ty vs) (K : Keep h h' ws) (q : a ∉ ws) : Ary Z h' a ty vs := by obtain ⟨c, A, r⟩ := A; exact ⟨c, ⟨K.2.1 a c A.1 q, A.2⟩, r⟩
theorem Ary.same (A : Ary Z h a ty vs) (W : Wr h h' a i v) : Ary Z h' a ty (vs.set i v) := by
  obtain ⟨c, A, r⟩ := A
  refine ⟨_, A.same W, ?_⟩
  rw [← r]
  simp [Cell.setSlot, Array.toList_setIfInBounds]
theorem Ary.cast {vs' : List Value} (A : Ary Z h a ty vs) (e : vs = vs') : Ary Z h a ty vs' := e ▸ A
theorem ary_new {cA : ClassId} {z : Int32} (A : Arr Z h a (newA cA ty z) ty) : Ary Z h a ty (List.replicate z.toNatClampNeg (defaultValue ty)) := ⟨_, A, by simp [newA]⟩
theorem idx_ok {i n : Nat} (hi : i < n) (hn : n < 2 ^ 31) : ¬ (Int32.ofNat i < 0 ∨ n ≤ (Int32.ofNat i).toNatClampNeg) := idx_in hi hn
theorem idx_nat {i : Nat} (hi : i < 2 ^ 31) : (Int32.ofNat i).toNatClampNeg = i := by
  have q : (Int32.ofNat i).toInt = i := Int32.toInt_ofNat_of_lt (by omega)
  simp only [Int32.toNatClampNeg, q]; omega
end AryFacts
section AryRules
variable {l : Launch} {R : Room} {n0 : Nat} {K : Cx} {Q : Option Value → Heap → Prop} {h : Heap} {k n k' n' : Nat} {pc pc' : Nat} {Ls Ls' : Array Slot} {st rest : List Value} {Z : State} {code : ByteArray} {own nm : String} {maxL : Nat} {ret : Option FieldType} {a0 : Array Value}
theorem w_arraylength (ok : Ok Z K code own nm maxL ret) {a : Addr} {ty : FieldType} {vs : List Value} (A : Ary Z h a ty vs) (hd : Fet code pc pc' .arraylength 1) (hr : Wp l R n0 K Q h k n pc' Ls (.int (Int32.ofNat vs.length) :: st)) : Wp l R n0 K Q h k n pc Ls (.ref a :: st) := by
  obtain ⟨p, e, s, m, args, below, meth, c⟩ := K
  obtain ⟨hx, hby, hZ, hown, hnm, hml, hret, hlk⟩ := ok
  obtain ⟨hd, rfl⟩ := hd
  intro T locs X hT hF
  obtain ⟨c, A, rfl⟩ := A
  obtain ⟨s₂, o, h1, h2⟩ := hr T locs X hT hF
  exact ⟨s₂, o, X.arraylength hx (by rw [hT]; exact A.1) (State.isArrayOf_alike hZ.alike A.2.1) (g := mkF m pc Ls (.ref a :: st)) rfl rfl (hb hby hd) _ (by rw [Array.length_toList] at h1; exact h1), h2⟩
theorem w_iaload (ok : Ok Z K code own nm maxL ret) {a : Addr} {i : Nat} {v : Value} {vs : List Value} (A : Ary Z h a .int vs) (hl : vs.length < 2 ^ 31) (hv : vs[i]? = some v) (hd : Fet code pc pc' .iaload 1) (hr : Wp l R n0 K Q h k n pc' Ls (v :: st)) : Wp l R n0 K Q h k n pc Ls (.int (Int32.ofNat i) :: .ref a :: st) := by
  obtain ⟨p, e, s, m, args, below, meth, c⟩ := K
  obtain ⟨hx, hby, hZ, hown, hnm, hml, hret, hlk⟩ := ok
  obtain ⟨hd, rfl⟩ := hd
  intro T locs X hT hF
  obtain ⟨c, A, rfl⟩ := A
  obtain ⟨s₂, o, h1, h2⟩ := hr T locs X hT hF
  have hi : i < c.slots.toList.length := (List.getElem?_eq_some_iff.mp hv).1
  rw [Array.length_toList] at hi hl
  exact ⟨s₂, o, X.iaload hx (j := Int32.ofNat i) (v := v) (by rw [hT]; exact A.1) (State.isArrayOf_alike hZ.alike A.2.1) A.2.2 (idx_ok hi hl) (by rw [idx_nat (Nat.lt_trans hi hl), ← hv, Array.getElem?_toList]) (g := mkF m pc Ls (.int (Int32.ofNat i) :: .ref a :: st)) rfl rfl (hb hby hd) _ h1, h2⟩
theorem w_laload (ok : Ok Z K code own nm maxL ret) {a : Addr} {i : Nat} {v : Value} {vs : List Value} (A : Ary Z h a .long vs) (hl : vs.length < 2 ^ 31) (hv : vs[i]? = some v) (hd : Fet code pc pc' .laload 1) (hr : Wp l R n0 K Q h k n pc' Ls (v :: st)) : Wp l R n0 K Q h k n pc Ls (.int (Int32.ofNat i) :: .ref a :: st) := by
  obtain ⟨p, e, s, m, args, below, meth, c⟩ := K
  obtain ⟨hx, hby, hZ, hown, hnm, hml, hret, hlk⟩ := ok
  obtain ⟨hd, rfl⟩ := hd
  intro T locs X hT hF
  obtain ⟨c, A, rfl⟩ := A
  obtain ⟨s₂, o, h1, h2⟩ := hr T locs X hT hF
  have hi : i < c.slots.toList.length := (List.getElem?_eq_some_iff.mp hv).1
  rw [Array.length_toList] at hi hl
  exact ⟨s₂, o, X.laload hx (j := Int32.ofNat i) (v := v) (by rw [hT]; exact A.1) (State.isArrayOf_alike hZ.alike A.2.1) A.2.2 (idx_ok hi hl) (by rw [idx_nat (Nat.lt_trans hi hl), ← hv, Array.getElem?_toList]) (g := mkF m pc Ls (.int (Int32.ofNat i) :: .ref a :: st)) rfl rfl (hb hby hd) _ h1, h2⟩
theorem w_caload (ok : Ok Z K code own nm maxL ret) {a : Addr} {i : Nat} {v : Value} {vs : List Value} (A : Ary Z h a .char vs) (hl : vs.length < 2 ^ 31) (hv : vs[i]? = some v) (hd : Fet code pc pc' .caload 1) (hr : Wp l R n0 K Q h k n pc' Ls (v :: st)) : Wp l R n0 K Q h k n pc Ls (.int (Int32.ofNat i) :: .ref a :: st) := by
  obtain ⟨p, e, s, m, args, below, meth, c⟩ := K
  obtain ⟨hx, hby, hZ, hown, hnm, hml, hret, hlk⟩ := ok
  obtain ⟨hd, rfl⟩ := hd
  intro T locs X hT hF
  obtain ⟨c, A, rfl⟩ := A
  obtain ⟨s₂, o, h1, h2⟩ := hr T locs X hT hF
  have hi : i < c.slots.toList.length := (List.getElem?_eq_some_iff.mp hv).1
  rw [Array.length_toList] at hi hl
  exact ⟨s₂, o, X.caload hx (j := Int32.ofNat i) (v := v) (by rw [hT]; exact A.1) (State.isArrayOf_alike hZ.alike A.2.1) A.2.2 (idx_ok hi hl) (by rw [idx_nat (Nat.lt_trans hi hl), ← hv, Array.getElem?_toList]) (g := mkF m pc Ls (.int (Int32.ofNat i) :: .ref a :: st)) rfl rfl (hb hby hd) _ h1, h2⟩
theorem w_baloadB (ok : Ok Z K code own nm maxL ret) {a : Addr} {i : Nat} {v : Value} {vs : List Value} (A : Ary Z h a .byte vs) (hl : vs.length < 2 ^ 31) (hv : vs[i]? = some v) (hd : Fet code pc pc' .baload 1) (hr : Wp l R n0 K Q h k n pc' Ls (v :: st)) : Wp l R n0 K Q h k n pc Ls (.int (Int32.ofNat i) :: .ref a :: st) := by
  obtain ⟨p, e, s, m, args, below, meth, c⟩ := K
  obtain ⟨hx, hby, hZ, hown, hnm, hml, hret, hlk⟩ := ok
  obtain ⟨hd, rfl⟩ := hd
  intro T locs X hT hF
  obtain ⟨c, A, rfl⟩ := A
  obtain ⟨s₂, o, h1, h2⟩ := hr T locs X hT hF
  have hi : i < c.slots.toList.length := (List.getElem?_eq_some_iff.mp hv).1
  rw [Array.length_toList] at hi hl
  exact ⟨s₂, o, X.baloadBytes hx (j := Int32.ofNat i) (v := v) (by rw [hT]; exact A.1) (State.isArrayOf_alike hZ.alike A.2.1) A.2.2 (idx_ok hi hl) (by rw [idx_nat (Nat.lt_trans hi hl), ← hv, Array.getElem?_toList]) (g := mkF m pc Ls (.int (Int32.ofNat i) :: .ref a :: st)) rfl rfl (hb hby hd) _ h1, h2⟩
theorem w_baloadZ (ok : Ok Z K code own nm maxL ret) {a : Addr} {i : Nat} {v : Value} {vs : List Value} (A : Ary Z h a .boolean vs) (hl : vs.length < 2 ^ 31) (hv : vs[i]? = some v) (hd : Fet code pc pc' .baload 1) (hr : Wp l R n0 K Q h k n pc' Ls (v :: st)) : Wp l R n0 K Q h k n pc Ls (.int (Int32.ofNat i) :: .ref a :: st) := by
  obtain ⟨p, e, s, m, args, below, meth, c⟩ := K
  obtain ⟨hx, hby, hZ, hown, hnm, hml, hret, hlk⟩ := ok
  obtain ⟨hd, rfl⟩ := hd
  intro T locs X hT hF
  obtain ⟨c, A, rfl⟩ := A
  obtain ⟨s₂, o, h1, h2⟩ := hr T locs X hT hF
  have hi : i < c.slots.toList.length := (List.getElem?_eq_some_iff.mp hv).1
  rw [Array.length_toList] at hi hl
  exact ⟨s₂, o, X.baloadBooleans hx (j := Int32.ofNat i) (v := v) (by rw [hT]; exact A.1) (State.isArrayOf_alike hZ.alike A.2.1) A.2.2 (idx_ok hi hl) (by rw [idx_nat (Nat.lt_trans hi hl), ← hv, Array.getElem?_toList]) (g := mkF m pc Ls (.int (Int32.ofNat i) :: .ref a :: st)) rfl rfl (hb hby hd) _ h1, h2⟩
theorem w_iastore' (ok : Ok Z K code own nm maxL ret) {a : Addr} {i : Nat} {x : Int32} {vs : List Value} (A : Ary Z h a .int vs) (hl : vs.length < 2 ^ 31) (hi : i < vs.length) (ha : n0 ≤ a) (hd : Fet code pc pc' .iastore 1)
    (hr : ∀ h', Wr h h' a i (.int x) → Ary Z h' a .int (vs.set i (.int x)) → Wp l R n0 K Q h' k n pc' Ls st) : Wp l R n0 K Q h k n pc Ls ((.int x) :: .int (Int32.ofNat i) :: .ref a :: st) := by
  have A0 := A
  obtain ⟨c, A, rfl⟩ := A
  rw [Array.length_toList] at hi hl
  refine w_iastore ok A (idx_ok hi hl) ha hd (fun h' W => ?_)
  rw [idx_nat (Nat.lt_trans hi hl)] at W
  exact hr h' W (A0.same W)
theorem w_lastore' (ok : Ok Z K code own nm maxL ret) {a : Addr} {i : Nat} {x : Int64} {vs : List Value} (A : Ary Z h a .long vs) (hl : vs.length < 2 ^ 31) (hi : i < vs.length) (ha : n0 ≤ a) (hd : Fet code pc pc' .lastore 1)
    (hr : ∀ h', Wr h h' a i (.long x) → Ary Z h' a .long (vs.set i (.long x)) → Wp l R n0 K Q h' k n pc' Ls st) : Wp l R n0 K Q h k n pc Ls ((.long x) :: .int (Int32.ofNat i) :: .ref a :: st) := by
  have A0 := A
  obtain ⟨c, A, rfl⟩ := A
  rw [Array.length_toList] at hi hl
  refine w_lastore ok A (idx_ok hi hl) ha hd (fun h' W => ?_)
  rw [idx_nat (Nat.lt_trans hi hl)] at W
  exact hr h' W (A0.same W)
theorem w_bastoreB' (ok : Ok Z K code own nm maxL ret) {a : Addr} {i : Nat} {x : Int32} {vs : List Value} (A : Ary Z h a .byte vs) (hl : vs.length < 2 ^ 31) (hi : i < vs.length) (ha : n0 ≤ a) (hd : Fet code pc pc' .bastore 1)
    (hr : ∀ h', Wr h h' a i (.int (nar .byte x)) → Ary Z h' a .byte (vs.set i (.int (nar .byte x))) → Wp l R n0 K Q h' k n pc' Ls st) : Wp l R n0 K Q h k n pc Ls ((.int x) :: .int (Int32.ofNat i) :: .ref a :: st) := by
  have A0 := A
  obtain ⟨c, A, rfl⟩ := A
  rw [Array.length_toList] at hi hl
  refine w_bastoreB ok A (idx_ok hi hl) ha hd (fun h' W => ?_)
  rw [idx_nat (Nat.lt_trans hi hl)] at W
  exact hr h' W (A0.same W)
theorem w_bastoreZ' (ok : Ok Z K code own nm maxL ret) {a : Addr} {i : Nat} {x : Int32} {vs : List Value} (A : Ary Z h a .boolean vs) (hl : vs.length < 2 ^ 31) (hi : i < vs.length) (ha : n0 ≤ a) (hd : Fet code pc pc' .bastore 1)
    (hr : ∀ h', Wr h h' a i (.int (nar .boolean x)) → Ary Z h' a .boolean (vs.set i (.int (nar .boolean x))) → Wp l R n0 K Q h' k n pc' Ls st) : Wp l R n0 K Q h k n pc Ls ((.int x) :: .int (Int32.ofNat i) :: .ref a :: st) := by
  have A0 := A
  obtain ⟨c, A, rfl⟩ := A
  rw [Array.length_toList] at hi hl
  refine w_bastoreZ ok A (idx_ok hi hl) ha hd (fun h' W => ?_)
  rw [idx_nat (Nat.lt_trans hi hl)] at W
  exact hr h' W (A0.same W)
theorem w_castore' (ok : Ok Z K code own nm maxL ret) {a : Addr} {i : Nat} {x : Int32} {vs : List Value} (A : Ary Z h a .char vs) (hl : vs.length < 2 ^ 31) (hi : i < vs.length) (ha : n0 ≤ a) (hd : Fet code pc pc' .castore 1)
    (hr : ∀ h', Wr h h' a i (.int (nar .char x)) → Ary Z h' a .char (vs.set i (.int (nar .char x))) → Wp l R n0 K Q h' k n pc' Ls st) : Wp l R n0 K Q h k n pc Ls ((.int x) :: .int (Int32.ofNat i) :: .ref a :: st) := by
  have A0 := A
  obtain ⟨c, A, rfl⟩ := A
  rw [Array.length_toList] at hi hl
  refine w_castore ok A (idx_ok hi hl) ha hd (fun h' W => ?_)
  rw [idx_nat (Nat.lt_trans hi hl)] at W
  exact hr h' W (A0.same W)
theorem w_ialoadJ (ok : Ok Z K code own nm maxL ret) {a : Addr} {j : Int32} {v : Value} {vs : List Value} (A : Ary Z h a .int vs) (hj : ¬ (j < 0 ∨ vs.length ≤ j.toNatClampNeg)) (hv : vs[j.toNatClampNeg]? = some v) (hd : Fet code pc pc' .iaload 1) (hr : Wp l R n0 K Q h k n pc' Ls (v :: st)) : Wp l R n0 K Q h k n pc Ls (.int j :: .ref a :: st) := by
  obtain ⟨p, e, s, m, args, below, meth, c⟩ := K
  obtain ⟨hx, hby, hZ, hown, hnm, hml, hret, hlk⟩ := ok
  obtain ⟨hd, rfl⟩ := hd
  intro T locs X hT hF
  obtain ⟨c, A, rfl⟩ := A
  obtain ⟨s₂, o, h1, h2⟩ := hr T locs X hT hF
  rw [Array.length_toList] at hj
  exact ⟨s₂, o, X.iaload hx (j := j) (v := v) (by rw [hT]; exact A.1) (State.isArrayOf_alike hZ.alike A.2.1) A.2.2 hj (by rw [← hv, Array.getElem?_toList]) (g := mkF m pc Ls (.int j :: .ref a :: st)) rfl rfl (hb hby hd) _ h1, h2⟩
theorem w_baloadZJ (ok : Ok Z K code own nm maxL ret) {a : Addr} {j : Int32} {v : Value} {vs : List Value} (A : Ary Z h a .boolean vs) (hj : ¬ (j < 0 ∨ vs.length ≤ j.toNatClampNeg)) (hv : vs[j.toNatClampNeg]? = some v) (hd : Fet code pc pc' .baload 1) (hr : Wp l R n0 K Q h k n pc' Ls (v :: st)) : Wp l R n0 K Q h k n pc Ls (.int j :: .ref a :: st) := by
  obtain ⟨p, e, s, m, args, below, meth, c⟩ := K
  obtain ⟨hx, hby, hZ, hown, hnm, hml, hret, hlk⟩ := ok
  obtain ⟨hd, rfl⟩ := hd
  intro T locs X hT hF
  obtain ⟨c, A, rfl⟩ := A
  obtain ⟨s₂, o, h1, h2⟩ := hr T locs X hT hF
  rw [Array.length_toList] at hj
  exact ⟨s₂, o, X.baloadBooleans hx (j := j) (v := v) (by rw [hT]; exact A.1) (State.isArrayOf_alike hZ.alike A.2.1) A.2.2 hj (by rw [← hv, Array.getElem?_toList]) (g := mkF m pc Ls (.int j :: .ref a :: st)) rfl rfl (hb hby hd) _ h1, h2⟩
theorem w_baloadBJ (ok : Ok Z K code own nm maxL ret) {a : Addr} {j : Int32} {v : Value} {vs : List Value} (A : Ary Z h a .byte vs) (hj : ¬ (j < 0 ∨ vs.length ≤ j.toNatClampNeg)) (hv : vs[j.toNatClampNeg]? = some v) (hd : Fet code pc pc' .baload 1) (hr : Wp l R n0 K Q h k n pc' Ls (v :: st)) : Wp l R n0 K Q h k n pc Ls (.int j :: .ref a :: st) := by
  obtain ⟨p, e, s, m, args, below, meth, c⟩ := K
  obtain ⟨hx, hby, hZ, hown, hnm, hml, hret, hlk⟩ := ok
  obtain ⟨hd, rfl⟩ := hd
  intro T locs X hT hF
  obtain ⟨c, A, rfl⟩ := A
  obtain ⟨s₂, o, h1, h2⟩ := hr T locs X hT hF
  rw [Array.length_toList] at hj
  exact ⟨s₂, o, X.baloadBytes hx (j := j) (v := v) (by rw [hT]; exact A.1) (State.isArrayOf_alike hZ.alike A.2.1) A.2.2 hj (by rw [← hv, Array.getElem?_toList]) (g := mkF m pc Ls (.int j :: .ref a :: st)) rfl rfl (hb hby hd) _ h1, h2⟩
theorem w_iastoreJ (ok : Ok Z K code own nm maxL ret) {a : Addr} {j x : Int32} {vs : List Value} (A : Ary Z h a .int vs) (hj : ¬ (j < 0 ∨ vs.length ≤ j.toNatClampNeg)) (ha : n0 ≤ a) (hd : Fet code pc pc' .iastore 1)
    (hr : ∀ h', Wr h h' a j.toNatClampNeg (.int x) → Ary Z h' a .int (vs.set j.toNatClampNeg (.int x)) → Wp l R n0 K Q h' k n pc' Ls st) : Wp l R n0 K Q h k n pc Ls (.int x :: .int j :: .ref a :: st) := by
  have A0 := A
  obtain ⟨c, A, rfl⟩ := A
  rw [Array.length_toList] at hj
  exact w_iastore ok A hj ha hd (fun h' W => hr h' W (A0.same W))
theorem w_bastoreZJ (ok : Ok Z K code own nm maxL ret) {a : Addr} {j x : Int32} {vs : List Value} (A : Ary Z h a .boolean vs) (hj : ¬ (j < 0 ∨ vs.length ≤ j.toNatClampNeg)) (ha : n0 ≤ a) (hd : Fet code pc pc' .bastore 1)
    (hr : ∀ h', Wr h h' a j.toNatClampNeg (.int (nar .boolean x)) → Ary Z h' a .boolean (vs.set j.toNatClampNeg (.int (nar .boolean x))) → Wp l R n0 K Q h' k n pc' Ls st) : Wp l R n0 K Q h k n pc Ls (.int x :: .int j :: .ref a :: st) := by
  have A0 := A
  obtain ⟨c, A, rfl⟩ := A
  rw [Array.length_toList] at hj
  exact w_bastoreZ ok A hj ha hd (fun h' W => hr h' W (A0.same W))
/-- an array of references over the class C, with these values -/
def AryR (Z : State) (h : Heap) (a : Addr) (C : String) (vs : List Value) : Prop := ∃ c : Cell, Arr Z h a c (.object C) ∧ Ovr Z c.cls C ∧ c.slots.toList = vs
theorem AryR.lt {a : Addr} {C : String} {vs : List Value} (A : AryR Z h a C vs) : a < h.size := by obtain ⟨c, A, -⟩ := A; exact A.lt
theorem AryR.ext {h' : Heap} {a : Addr} {C : String} {vs : List Value} (A : AryR Z h a C vs) (E : Ext h h') : AryR Z h' a C vs := by obtain ⟨c, A, r⟩ := A; exact ⟨c, A.ext E, r⟩
theorem AryR.other {h' : Heap} {a b : Addr} {C : String} {vs : List Value} {sl : Nat} {v : Value} (A : AryR Z h b C vs) (W : Wr h h' a sl v) (q : b ≠ a) : AryR Z h' b C vs := by obtain ⟨c, A, r⟩ := A; exact ⟨c, A.other W q, r⟩
theorem AryR.keep {h' : Heap} {a : Addr} {C : String} {vs : List Value} {ws : List Addr} (A : AryR Z h a C vs) (K : Keep h h' ws) (q : a ∉ ws) : AryR Z h' a C vs := by obtain ⟨c, A, r⟩ := A; exact ⟨c, ⟨K.2.1 a c A.1 q, A.2⟩, r⟩
theorem AryR.same {h' : Heap} {a : Addr} {C : String} {vs : List Value} {i : Nat} {v : Value} (A : AryR Z h a C vs) (W : Wr h h' a i v) : AryR Z h' a C (vs.set i v) := by
  obtain ⟨c, A, O, r⟩ := A
  refine ⟨_, A.same W, O, ?_⟩
  rw [← r]
  simp [Cell.setSlot, Array.toList_setIfInBounds]
theorem AryR.len {a : Addr} {C : String} {vs : List Value} (A : AryR Z h a C vs) : Ary Z h a (.object C) vs := by obtain ⟨c, A, -, r⟩ := A; exact ⟨c, A, r⟩
theorem w_anewarray (ok : Ok Z K code own nm maxL ret) {C : String} {i : Nat} {z : Int32} {cap : Nat} (w1 : (Cond.classLink own i C).before a0 Z = true) (w2 : (Cond.arrayOver (.object C)).before a0 Z = true) (hd : Fet code pc pc' (.anewarray i) 3) (hz : ¬ z < 0) (hcap : z.toNatClampNeg ≤ cap) (hb8 : cap * 8 ≤ 536870912) (ek : k + 1 = k') (en : n + cap = n') (hc : k' ≤ R.cells) (hl : n' ≤ R.slots)
    (hr : ∀ h' b, b = h.size → Ext h h' → AryR Z h' b C (List.replicate z.toNatClampNeg .null) → Wp l R n0 K Q h' k' n' pc' Ls (.ref b :: st)) : Wp l R n0 K Q h k n pc Ls (.int z :: st) := by
  obtain ⟨p, e, s, m, args, below, meth, c⟩ := K
  obtain ⟨hx, hby, hZ, hown, hnm, hml, hret, hlk⟩ := ok
  obtain ⟨hd, rfl⟩ := hd
  intro T locs X hT hF
  subst ek en
  obtain ⟨T', h', cA, X', e', E', A', O', stp⟩ := newR X hx hZ hown w1 w2 hT (g := mkF m pc Ls (.int z :: st)) rfl (hb hby hd) rfl hz hcap hb8 hc hl
  obtain ⟨s₂, o, h1, h2⟩ := hr h' _ rfl E' ⟨_, A', O', by simp [newA, defaultValue]⟩ T' _ X' e' hF
  exact ⟨s₂, o, stp _ h1, h2⟩
theorem w_aastore (ok : Ok Z K code own nm maxL ret) {C : String} {a : Addr} {i : Nat} {v : Value} {vs : List Value} (A : AryR Z h a C vs) (hl : vs.length < 2 ^ 31) (hi : i < vs.length) (ha : n0 ≤ a) (hv : v = .null ∨ ∃ y, v = .ref y ∧ Ins Z h y C true) (hd : Fet code pc pc' .aastore 1)
    (hr : ∀ h', Wr h h' a i v → AryR Z h' a C (vs.set i v) → Wp l R n0 K Q h' k n pc' Ls st) : Wp l R n0 K Q h k n pc Ls (v :: .int (Int32.ofNat i) :: .ref a :: st) := by
  replace hr : ∀ h', Wr h h' a (Int32.ofNat i).toNatClampNeg v → Wp l R n0 K Q h' k n pc' Ls st := fun h' W => by
    rw [idx_nat (Nat.lt_trans hi hl)] at W
    exact hr h' W (A.same W)
  obtain ⟨p, e, s, m, args, below, meth, c⟩ := K
  obtain ⟨hx, hby, hZ, hown, hnm, hml, hret, hlk⟩ := ok
  obtain ⟨hd, rfl⟩ := hd
  intro T locs X hT hF
  obtain ⟨c, A, O, rfl⟩ := A
  rw [Array.length_toList] at hi hl
  have S : Sto Z h a v := by
    rcases hv with rfl | ⟨y, rfl, I⟩
    · exact Or.inl rfl
    · exact Sto.of A O I
  obtain ⟨T', h', X', e', W', stp⟩ := stR X hx hZ hT A (j := Int32.ofNat i) (idx_ok hi hl) rfl S (g := mkF m pc Ls (v :: .int (Int32.ofNat i) :: .ref a :: st)) rfl rfl (hb hby hd)
  obtain ⟨s₂, o, h1, h2⟩ := hr h' W' T' _ X' e' (Fr.snoc X' hF ha)
  exact ⟨s₂, o, stp _ h1, h2⟩
theorem w_aaloadR (ok : Ok Z K code own nm maxL ret) {C : String} {a : Addr} {i : Nat} {v : Value} {vs : List Value} (A : AryR Z h a C vs) (hl : vs.length < 2 ^ 31) (hv : vs[i]? = some v) (hd : Fet code pc pc' .aaload 1) (hr : Wp l R n0 K Q h k n pc' Ls (v :: st)) : Wp l R n0 K Q h k n pc Ls (.int (Int32.ofNat i) :: .ref a :: st) := by
  obtain ⟨p, e, s, m, args, below, meth, c⟩ := K
  obtain ⟨hx, hby, hZ, hown, hnm, hml, hret, hlk⟩ := ok
  obtain ⟨hd, rfl⟩ := hd
  intro T locs X hT hF
  obtain ⟨c, A, O, rfl⟩ := A
  obtain ⟨s₂, o, h1, h2⟩ := hr T locs X hT hF
  have hi : i < c.slots.toList.length := (List.getElem?_eq_some_iff.mp hv).1
  rw [Array.length_toList] at hi hl
  exact ⟨s₂, o, X.aaload hx (j := Int32.ofNat i) (v := v) (by rw [hT]; exact A.1) (State.isArrayOf_alike hZ.alike A.2.1) rfl A.2.2 (idx_ok hi hl) (by rw [idx_nat (Nat.lt_trans hi hl), ← hv, Array.getElem?_toList]) (g := mkF m pc Ls (.int (Int32.ofNat i) :: .ref a :: st)) rfl rfl (hb hby hd) _ h1, h2⟩
theorem w_newarrayE (ok : Ok Z K code own nm maxL ret) {aty : ArrayType} {z : Int32} {cap : Nat} {ad : String} (had : "[" ++ (newarray.typeOf aty).toString = ad) (w : (Cond.arrayClass (newarray.typeOf aty)).before a0 Z = true) (hd : Fet code pc pc' (.newarray aty) 2) (hz : ¬ z < 0) (hcap : z.toNatClampNeg ≤ cap) (hb8 : cap * 8 ≤ 536870912) (ek : k + 1 = k') (en : n + cap = n') (hc : k' ≤ R.cells) (hl : n' ≤ R.slots)
    (hr : ∀ h' b cA, b = h.size → Ext h h' → Arr Z h' b (newA cA (newarray.typeOf aty) z) (newarray.typeOf aty) → Exa Z h' b ad → Wp l R n0 K Q h' k' n' pc' Ls (.ref b :: st)) : Wp l R n0 K Q h k n pc Ls (.int z :: st) := by
  obtain ⟨p, e, s, m, args, below, meth, c⟩ := K
  obtain ⟨hx, hby, hZ, hown, hnm, hml, hret, hlk⟩ := ok
  obtain ⟨hd, rfl⟩ := hd
  intro T locs X hT hF
  subst ek en
  obtain ⟨T', h', cA, X', e', E', A', G', stp⟩ := newPE X hx hZ w hT (g := mkF m pc Ls (.int z :: st)) rfl (hb hby hd) rfl hz hcap hb8 hc hl had
  obtain ⟨s₂, o, h1, h2⟩ := hr h' _ cA rfl E' A' G' T' _ X' e' hF
  exact ⟨s₂, o, stp _ h1, h2⟩
theorem w_aaload (ok : Ok Z K code own nm maxL ret) {a : Addr} {cl : Cell} {j : Int32} {v : Value} {ty : FieldType} (A : Arr Z h a cl ty) (hty : ty.isReference = true) (hj : ¬ (j < 0 ∨ cl.slots.size ≤ j.toNatClampNeg)) (hv : cl.slots[j.toNatClampNeg]? = some v) (hd : Fet code pc pc' .aaload 1) (hr : Wp l R n0 K Q h k n pc' Ls (v :: st)) : Wp l R n0 K Q h k n pc Ls (.int j :: .ref a :: st) := by
  obtain ⟨p, e, s, m, args, below, meth, c⟩ := K
  obtain ⟨hx, hby, hZ, hown, hnm, hml, hret, hlk⟩ := ok
  obtain ⟨hd, rfl⟩ := hd
  intro T locs X hT hF
  obtain ⟨s₂, o, h1, h2⟩ := hr T locs X hT hF
  exact ⟨s₂, o, X.aaload hx (j := j) (v := v) (by rw [hT]; exact A.1) (State.isArrayOf_alike hZ.alike A.2.1) hty A.2.2 hj hv (g := mkF m pc Ls (.int j :: .ref a :: st)) rfl rfl (hb hby hd) _ h1, h2⟩
theorem w_checkcast (ok : Ok Z K code own nm maxL ret) {C : String} {i : Nat} {a : Addr} (w : (Cond.classLink own i C).before a0 Z = true) (F : Ins Z h a C true) (hd : Fet code pc pc' (.checkcast i) 3) (hr : Wp l R n0 K Q h k n pc' Ls (.ref a :: st)) : Wp l R n0 K Q h k n pc Ls (.ref a :: st) := by
  obtain ⟨p, e, s, m, args, below, meth, c⟩ := K
  obtain ⟨hx, hby, hZ, hown, hnm, hml, hret, hlk⟩ := ok
  obtain ⟨hd, rfl⟩ := hd
  intro T locs X hT hF
  obtain ⟨T', X', e', stp⟩ := castY X hx hZ hown w hT F (g := mkF m pc Ls (.ref a :: st)) rfl rfl (hb hby hd)
  obtain ⟨s₂, o, h1, h2⟩ := hr T' locs X' e' hF
  exact ⟨s₂, o, stp _ h1, h2⟩
theorem w_checkcastNull (ok : Ok Z K code own nm maxL ret) {i : Nat} (hd : Fet code pc pc' (.checkcast i) 3) (hr : Wp l R n0 K Q h k n pc' Ls (.null :: st)) : Wp l R n0 K Q h k n pc Ls (.null :: st) := by
  obtain ⟨p, e, s, m, args, below, meth, c⟩ := K
  obtain ⟨hx, hby, hZ, hown, hnm, hml, hret, hlk⟩ := ok
  obtain ⟨hd, rfl⟩ := hd
  intro T locs X hT hF
  obtain ⟨s₂, o, h1, h2⟩ := hr T locs X hT hF
  exact ⟨s₂, o, X.checkcastNull hx (g := mkF m pc Ls (.null :: st)) rfl rfl (hb hby hd) _ h1, h2⟩
theorem w_instanceof (ok : Ok Z K code own nm maxL ret) {C : String} {i : Nat} {a : Addr} (w : (Cond.classLink own i C).before a0 Z = true) (F : Ins Z h a C true) (hd : Fet code pc pc' (.instanceof i) 3) (hr : Wp l R n0 K Q h k n pc' Ls (.int 1 :: st)) : Wp l R n0 K Q h k n pc Ls (.ref a :: st) := by
  obtain ⟨p, e, s, m, args, below, meth, c⟩ := K
  obtain ⟨hx, hby, hZ, hown, hnm, hml, hret, hlk⟩ := ok
  obtain ⟨hd, rfl⟩ := hd
  intro T locs X hT hF
  obtain ⟨T', X', e', stp⟩ := instY X hx hZ hown w hT F (g := mkF m pc Ls (.ref a :: st)) rfl rfl (hb hby hd)
  obtain ⟨s₂, o, h1, h2⟩ := hr T' locs X' e' hF
  exact ⟨s₂, o, stp _ h1, h2⟩
theorem sta_keep0 {h' : Heap} {C f d : String} {v : Value} (F : Sta Z h C f d v) (K : Keep h h' []) : Sta Z h' C f d v := by
  obtain ⟨cf, i, k, f, st, cell, h1, h2, h3, h4, h5, r⟩ := F
  exact ⟨cf, i, k, f, st, cell, h1, h2, h3, h4, K.2.1 _ _ h5 (fun q => nomatch q), r⟩

/-- a slot that holds nothing or one word -/
def OneS (o : Slot) : Prop := o = .unset ∨ ∃ w, o = .val w ∧ w.category = 1
theorem OneS.int (x : Int32) : OneS (.val (.int x)) := Or.inr ⟨_, rfl, rfl⟩
theorem OneS.ref (a : Addr) : OneS (.val (.ref a)) := Or.inr ⟨_, rfl, rfl⟩
theorem w_istoreS (ok : Ok Z K code own nm maxL ret) {j : Nat} {x : Int32} {o : Slot} (hd : Fet code pc pc' (.istore j) 2) (ho : Ls[j]? = some o) (h1 : OneS o) (e : Ls.setIfInBounds j (.val (.int x)) = Ls') (hr : Wp l R n0 K Q h k n pc' Ls' st) : Wp l R n0 K Q h k n pc Ls ((.int x) :: st) :=
  w_istore ok hd ((XS.store1 ho h1 rfl).trans (congrArg some e)) hr
theorem w_istoreNS (ok : Ok Z K code own nm maxL ret) {j : Fin 4} {x : Int32} {o : Slot} (hd : Fet code pc pc' (.istore_n j) 1) (ho : Ls[j.val]? = some o) (h1 : OneS o) (e : Ls.setIfInBounds j.val (.val (.int x)) = Ls') (hr : Wp l R n0 K Q h k n pc' Ls' st) : Wp l R n0 K Q h k n pc Ls ((.int x) :: st) :=
  w_istoreN ok hd ((XS.store1 ho h1 rfl).trans (congrArg some e)) hr
theorem w_astoreS (ok : Ok Z K code own nm maxL ret) {j : Nat} {x : Addr} {o : Slot} (hd : Fet code pc pc' (.astore j) 2) (ho : Ls[j]? = some o) (h1 : OneS o) (e : Ls.setIfInBounds j (.val (.ref x)) = Ls') (hr : Wp l R n0 K Q h k n pc' Ls' st) : Wp l R n0 K Q h k n pc Ls ((.ref x) :: st) :=
  w_astore ok hd ((XS.store1 ho h1 rfl).trans (congrArg some e)) rfl hr
theorem w_astoreNS (ok : Ok Z K code own nm maxL ret) {j : Fin 4} {x : Addr} {o : Slot} (hd : Fet code pc pc' (.astore_n j) 1) (ho : Ls[j.val]? = some o) (h1 : OneS o) (e : Ls.setIfInBounds j.val (.val (.ref x)) = Ls') (hr : Wp l R n0 K Q h k n pc' Ls' st) : Wp l R n0 K Q h k n pc Ls ((.ref x) :: st) :=
  w_astoreN ok hd ((XS.store1 ho h1 rfl).trans (congrArg some e)) rfl hr
end AryRules
end Jvm.WpK
namespace Jvm.Pilot.@@N@@
open Jvm Jvm.ClassFile Sem Op Lib Jvm.Free Jvm.Stand Jvm.LawKit Jvm.RoadKit Jvm.WpK Bundle Jvm.Pilot.@@N@@.Jvm.D
/-! the QR matrix in plain numbers: F: which modules are reserved, D: which are dark (bit i: module i), and how many are reserved -/
abbrev own_St : Type := Nat × Nat × Nat
def own_bit (F i : Nat) : Int32 := if F.testBit i then 1 else 0
def own_vals (F N : Nat) : List Value := (List.range N).map fun i => .int (own_bit F i)
def own_put (D i : Nat) (z : Int32) : Nat := if nar .boolean z = 0 then D ^^^ (D &&& (1 <<< i)) else D ||| (1 <<< i)
def own_draw (N : Nat) (st : own_St) (j z : Int32) : Option own_St :=
  if j < 0 ∨ N ≤ j.toNatClampNeg then none
  else some (st.1 ||| (1 <<< j.toNatClampNeg), own_put st.2.1 j.toNatClampNeg z, if st.1.testBit j.toNatClampNeg then st.2.2 else st.2.2 + 1)
def own_abs (x : Int32) : Int32 := if x < 0 then -x else x
def own_max (x y : Int32) : Int32 := if x < y then y else x
def own_ring (x y : Int32) : Int32 := let r := own_max (own_abs x) (own_abs y); if r = 2 then 0 else if r = 4 then 0 else 1
def own_fcol (N : Nat) (size top left row : Int32) : Nat → Int32 → own_St → Option own_St
  | 0, _, _ => none
  | m + 1, col, st => if left + 7 < col then some st else
    if row < 0 ∨ ¬ row < size ∨ col < 0 ∨ ¬ col < size then own_fcol N size top left row m (col + 1) st
    else match own_draw N st (row * size + col) (own_ring (row - top - 3) (col - left - 3)) with
      | none => none
      | some st' => own_fcol N size top left row m (col + 1) st'
def own_frow (N : Nat) (size top left : Int32) : Nat → Int32 → own_St → Option own_St
  | 0, _, _ => none
  | n + 1, row, st => if top + 7 < row then some st else
    match own_fcol N size top left row 10 (left - 1) st with
    | none => none
    | some st' => own_frow N size top left n (row + 1) st'
def own_ring2 (x y : Int32) : Int32 := if own_max (own_abs x) (own_abs y) = 1 then 0 else 1
def own_ac (N : Nat) (size row column r : Int32) : Nat → Int32 → own_St → Option own_St
  | 0, _, _ => none
  | m + 1, c, st => if column + 2 < c then some st else
    match own_draw N st (r * size + c) (own_ring2 (r - row) (c - column)) with
    | none => none
    | some st' => own_ac N size row column r m (c + 1) st'
def own_ar (N : Nat) (size row column : Int32) : Nat → Int32 → own_St → Option own_St
  | 0, _, _ => none
  | m + 1, r, st => if row + 2 < r then some st else
    match own_ac N size row column r 6 (column - 2) st with
    | none => none
    | some st' => own_ar N size row column m (r + 1) st'
def own_onf (row column last : Int32) : Bool := (decide (row = 6) && (decide (column = 6) || decide (column = last))) || (decide (row = last) && decide (column = 6))
def own_aj (N : Nat) (size row : Int32) (l : List Int32) : Nat → Int32 → own_St → Option own_St
  | 0, _, _ => none
  | m + 1, j, st => if ¬ j < Int32.ofNat l.length then some st else
    if j < 0 then none else
    match l[j.toNatClampNeg]? with
    | none => none
    | some column => if own_onf row column (size - 7) then own_aj N size row l m (j + 1) st else
      match own_ar N size row column 6 (row - 2) st with
      | none => none
      | some st' => own_aj N size row l m (j + 1) st'
def own_ai (N : Nat) (size : Int32) (l : List Int32) : Nat → Int32 → own_St → Option own_St
  | 0, _, _ => none
  | m + 1, i, st => if ¬ i < Int32.ofNat l.length then some st else
    if i < 0 then none else
    match l[i.toNatClampNeg]? with
    | none => none
    | some row => match own_aj N size row l 8 0 st with
      | none => none
      | some st' => own_ai N size l m (i + 1) st'
def own_cfill (size cnt step : Int32) : Nat → Int32 → List Int32 → Option (List Int32)
  | 0, _, _ => none
  | m + 1, i, l => if ¬ i < cnt then some l else
    if i < 0 ∨ l.length ≤ i.toNatClampNeg then none else own_cfill size cnt step m (i + 1) (l.set i.toNatClampNeg (size - 7 - (cnt - 1 - i) * step))
def own_step (v size gaps : Int32) : Int32 := if v = 32 then 26 else (size - 13 + 2 * gaps - 1) / (2 * gaps) * 2
def own_cs (v size : Int32) : Option (List Int32) :=
  if v = 1 then some [] else
  if v / 7 + 2 < 1 ∨ 7 < (v / 7 + 2).toNatClampNeg ∨ 2 * (v / 7 + 2 - 1) = 0 then none
  else own_cfill size (v / 7 + 2) (own_step v size (v / 7 + 2 - 1)) 8 1 ((List.replicate (v / 7 + 2).toNatClampNeg 0).set 0 6)
def own_al (N : Nat) (v size : Int32) (st : own_St) : Option own_St :=
  match own_cs v size with
  | none => none
  | some l => own_ai N size l 8 0 st
def own_par (i : Int32) : Int32 := if i % 2 = 0 then 1 else 0
def own_td (N : Nat) (j z : Int32) (st : own_St) : Option own_St :=
  if j < 0 ∨ N ≤ j.toNatClampNeg then none else if own_bit st.1 j.toNatClampNeg = 0 then own_draw N st j z else some st
def own_tm (N : Nat) (size : Int32) : Nat → Int32 → own_St → Option own_St
  | 0, _, _ => none
  | m + 1, i, st => if ¬ i < size then some st else
    match own_td N (6 * size + i) (own_par i) st with
    | none => none
    | some st1 => match own_td N (i * size + 6) (own_par i) st1 with
      | none => none
      | some st2 => own_tm N size m (i + 1) st2
def own_draws (N : Nat) : List (Int32 × Int32) → own_St → Option own_St
  | [], st => some st
  | (j, z) :: l, st => match own_draw N st j z with
    | none => none
    | some st' => own_draws N l st'
def own_f0 (b : Int32) : Int32 := if b < 6 then b else if b < 8 then b + 1 else 8
def own_f1 (b : Int32) : Int32 := if b < 6 then 8 else if b < 8 then 8 else if b = 8 then 7 else 14 - b
def own_f2 (size b : Int32) : Int32 := if b < 8 then 8 else size - 15 + b
def own_f3 (size b : Int32) : Int32 := if b < 8 then size - 1 - b else 8
def own_fl (size b : Int32) : List (Int32 × Int32) := [(own_f0 b * size + own_f1 b, 0), (own_f2 size b * size + own_f3 size b, 0)]
def own_fls (size : Int32) : List (Int32 × Int32) := own_fl size 0 ++ (own_fl size 1 ++ (own_fl size 2 ++ (own_fl size 3 ++ (own_fl size 4 ++ (own_fl size 5 ++ (own_fl size 6 ++ (own_fl size 7 ++ (own_fl size 8 ++ (own_fl size 9 ++ (own_fl size 10 ++ (own_fl size 11 ++ (own_fl size 12 ++ (own_fl size 13 ++ (own_fl size 14 ++ ([])))))))))))))))
def own_vi (N : Nat) (size : Int32) : Nat → Int32 → own_St → Option own_St
  | 0, _, _ => none
  | m + 1, b, st => if ¬ b < 18 then some st else
    match own_draw N st ((size - 11 + b % 3) * size + b / 3) 0 with
    | none => none
    | some st1 => match own_draw N st1 (b / 3 * size + (size - 11 + b % 3)) 0 with
      | none => none
      | some st2 => own_vi N size m (b + 1) st2
def own_ct (N : Nat) (v size : Int32) : Option own_St :=
  (own_frow N size 0 0 10 (0 - 1) (0, 0, 0)).bind fun st =>
  (own_frow N size 0 (size - 7) 10 (0 - 1) st).bind fun st =>
  (own_frow N size (size - 7) 0 10 (size - 7 - 1) st).bind fun st =>
  (own_al N v size st).bind fun st =>
  (own_tm N size 178 0 st).bind fun st =>
  (own_draw N st ((size - 8) * size + 8) 1).bind fun st =>
  (own_draws N (own_fls size) st).bind fun st =>
  if v < 7 then some st else own_vi N size 19 0 st
def own_ctor (v : Int32) : Option own_St :=
  let size : Int32 := 17 + 4 * v
  let N := (size * size).toNatClampNeg
  if size * size < 0 ∨ 31329 < N then none else own_ct N v size
def own_exp (v : Int32) : Int32 :=
  let r := (16 * v + 128) * v + 64
  if v < 2 then r else
  let n := v / 7 + 2
  let r2 := r - ((25 * n - 10) * n - 55)
  if v < 7 then r2 else r2 + -36
def own_chk (k : Nat) : Bool :=
  match own_ctor (1 + Int32.ofNat k) with
  | none => false
  | some st => decide (Int32.ofNat (((17 + 4 * (1 + Int32.ofNat k)) * (17 + 4 * (1 + Int32.ofNat k))).toNatClampNeg - st.2.2) = own_exp (1 + Int32.ofNat k))
theorem own_vals_len (F N : Nat) : (own_vals F N).length = N := by simp [own_vals]
theorem own_vals_get {F N i : Nat} (h : i < N) : (own_vals F N)[i]? = some (.int (own_bit F i)) := by simp [own_vals, h]
theorem own_vals_ext {F F' N i : Nat} {x : Int32} (h : i < N) (e1 : own_bit F' i = x) (e2 : ∀ j, j ≠ i → F'.testBit j = F.testBit j) : (own_vals F N).set i (.int x) = own_vals F' N := by
  apply List.ext_getElem?
  intro j
  rw [List.getElem?_set, own_vals_len]
  by_cases q : i = j
  · subst q
    rw [if_pos rfl, if_pos h, own_vals_get h, e1]
  · rw [if_neg q]
    by_cases r : j < N
    · rw [own_vals_get r, own_vals_get r, own_bit, own_bit, e2 j (Ne.symm q)]
    · rw [List.getElem?_eq_none (by rw [own_vals_len]; omega), List.getElem?_eq_none (by rw [own_vals_len]; omega)]
theorem own_tb (i j : Nat) : (1 <<< i).testBit j = decide (i = j) := by rw [Nat.one_shiftLeft, Nat.testBit_two_pow]
theorem own_vals_set1 {F N i : Nat} (h : i < N) : (own_vals F N).set i (.int 1) = own_vals (F ||| (1 <<< i)) N := by
  refine own_vals_ext h ?_ (fun j hj => ?_)
  · rw [own_bit, Nat.testBit_or, own_tb]; simp
  · rw [Nat.testBit_or, own_tb]; simp [Ne.symm hj]
theorem own_nar01 (z : Int32) : nar .boolean z = 0 ∨ nar .boolean z = 1 := by
  show z &&& 1 = 0 ∨ z &&& 1 = 1
  have h : ∀ b : BitVec 32, b &&& 1#32 = 0#32 ∨ b &&& 1#32 = 1#32 := by
    intro b
    have e : (b &&& 1#32).toNat = b.toNat % 2 := by
      rw [BitVec.toNat_and]; exact Nat.and_two_pow_sub_one_eq_mod b.toNat 1
    have := Nat.mod_lt b.toNat (show 2 > 0 by omega)
    simp only [← BitVec.toNat_inj, e]
    simp; omega
  have g := h z.toBitVec
  simp only [← Int32.toBitVec_inj]
  exact g
theorem own_vals_put {D N i : Nat} {z : Int32} (h : i < N) : (own_vals D N).set i (.int (nar .boolean z)) = own_vals (own_put D i z) N := by
  rcases own_nar01 z with e | e
  · rw [own_put, if_pos e, e]
    refine own_vals_ext h ?_ (fun j hj => ?_)
    · rw [own_bit, Nat.testBit_xor, Nat.testBit_and, own_tb]; simp
    · rw [Nat.testBit_xor, Nat.testBit_and, own_tb]; simp [Ne.symm hj]
  · rw [own_put, if_neg (by rw [e]; decide), e]
    exact own_vals_set1 h
theorem own_vals_zero (N : Nat) : List.replicate N (Value.int 0) = own_vals 0 N := by
  apply List.ext_getElem?
  intro j
  by_cases r : j < N
  · rw [own_vals_get r, List.getElem?_replicate, if_pos r]; simp [own_bit]
  · rw [List.getElem?_eq_none (by simp; omega), List.getElem?_eq_none (by rw [own_vals_len]; omega)]
def own_pc (F : Nat) : Nat → Nat
  | 0 => 0
  | n + 1 => own_pc F n + (if F.testBit n then 1 else 0)
def own_zc (F : Nat) : Nat → Nat
  | 0 => 0
  | n + 1 => own_zc F n + (if own_bit F n = 0 then 1 else 0)
theorem own_zc_pc (F : Nat) : ∀ n, own_zc F n + own_pc F n = n
  | 0 => rfl
  | n + 1 => by
    have ih := own_zc_pc F n
    simp only [own_zc, own_pc, own_bit]
    by_cases q : F.testBit n <;> simp [q] <;> omega
theorem own_pc_zero : ∀ n, own_pc 0 n = 0
  | 0 => rfl
  | n + 1 => by simp [own_pc, own_pc_zero n]
theorem own_pc_or (F i : Nat) : ∀ n, own_pc (F ||| (1 <<< i)) n = own_pc F n + (if i < n ∧ F.testBit i = false then 1 else 0)
  | 0 => by simp [own_pc]
  | n + 1 => by
    have ih := own_pc_or F i n
    simp only [own_pc, ih, Nat.testBit_or, own_tb]
    by_cases e : i = n
    · subst e
      by_cases q : F.testBit i <;> simp [q]
    · by_cases r : i < n
      · have r' : i < n + 1 := by omega
        by_cases q : F.testBit i <;> by_cases q2 : F.testBit n <;> simp [q, q2, e, r, r'] <;> omega
      · have r' : ¬ i < n + 1 := by omega
        by_cases q2 : F.testBit n <;> simp [q2, e, r, r']
theorem own_draw_some {N : Nat} {st st' : own_St} {j z : Int32} (h : own_draw N st j z = some st') : ¬ (j < 0 ∨ N ≤ j.toNatClampNeg) ∧ st' = (st.1 ||| (1 <<< j.toNatClampNeg), own_put st.2.1 j.toNatClampNeg z, if st.1.testBit j.toNatClampNeg then st.2.2 else st.2.2 + 1) := by
  unfold own_draw at h
  split at h
  · cases h
  · rename_i q; exact ⟨q, (Option.some.inj h).symm⟩
theorem own_lt {N : Nat} {j : Int32} (h : ¬ (j < 0 ∨ N ≤ j.toNatClampNeg)) : j.toNatClampNeg < N := Nat.lt_of_not_le fun q => h (Or.inr q)
theorem own_pc_draw {N F i c : Nat} (hi : i < N) (h : c = own_pc F N) : (if F.testBit i then c else c + 1) = own_pc (F ||| (1 <<< i)) N := by
  rw [own_pc_or, ← h]
  by_cases q : F.testBit i <;> simp [q, hi]
/-- the matrix in the heap -/
def own_Mat (Z : State) (n0 : Nat) (hb h : Heap) (a : Addr) (v size : Int32) (ad af : Addr) (N : Nat) (st : own_St) : Prop :=
  n0 ≤ h.size ∧ Exa Z h a "com/example/tickstep/tickstep/encoding/QrMatrix" ∧ Fld Z h a "com/example/tickstep/tickstep/encoding/QrMatrix" "version" "I" (.int v) ∧ Fld Z h a "com/example/tickstep/tickstep/encoding/QrMatrix" "size" "I" (.int size) ∧ Fld Z h a "com/example/tickstep/tickstep/encoding/QrMatrix" "dark" "[Z" (.ref ad) ∧ Fld Z h a "com/example/tickstep/tickstep/encoding/QrMatrix" "function" "[Z" (.ref af) ∧
    Ary Z h ad .boolean (own_vals st.2.1 N) ∧ Ary Z h af .boolean (own_vals st.1 N) ∧ (n0 ≤ ad ∧ n0 ≤ af ∧ ad ≠ af ∧ a ≠ ad ∧ a ≠ af) ∧ st.2.2 = own_pc st.1 N ∧ Keep hb h [a, ad, af]
theorem own_Mat.keep0 {Z : State} {n0 : Nat} {hb h h' : Heap} {a : Addr} {v size : Int32} {ad af : Addr} {N : Nat} {st : own_St} (M : own_Mat Z n0 hb h a v size ad af N st) (K : Keep h h' []) : own_Mat Z n0 hb h' a v size ad af N st := by
  obtain ⟨m1, m2, m3, m4, m5, m6, m7, m8, m9, m10, m11⟩ := M
  exact ⟨Nat.le_trans m1 K.1, m2.keep K, m3.keep K nin0, m4.keep K nin0, m5.keep K nin0, m6.keep K nin0, m7.keep K nin0, m8.keep K nin0, m9, m10, m11.trans K all0⟩
theorem own_kw {h h' : Heap} {a b c : Addr} (K : Keep h h' [a]) : Keep h h' [a, b, c] := ⟨K.1, fun x y q r => K.2.1 x y q (fun z => r (by rw [List.mem_singleton] at z; rw [z]; exact List.mem_cons_self)), K.2.2⟩
theorem own_fcol_end {N : Nat} {size top left row : Int32} {m : Nat} {col : Int32} {st st' : own_St} (q : left + 7 < col) (h : own_fcol N size top left row (m + 1) col st = some st') : st = st' := by
  rw [own_fcol, if_pos q] at h; exact Option.some.inj h
theorem own_fcol_skip {N : Nat} {size top left row : Int32} {m : Nat} {col : Int32} {st st' : own_St} (q : ¬ left + 7 < col) (r : row < 0 ∨ ¬ row < size ∨ col < 0 ∨ ¬ col < size) (h : own_fcol N size top left row (m + 1) col st = some st') : own_fcol N size top left row m (col + 1) st = some st' := by
  rw [own_fcol, if_neg q, if_pos r] at h; exact h
theorem own_fcol_go {N : Nat} {size top left row : Int32} {m : Nat} {col : Int32} {st st' : own_St} (q : ¬ left + 7 < col) (r : ¬ (row < 0 ∨ ¬ row < size ∨ col < 0 ∨ ¬ col < size)) (h : own_fcol N size top left row (m + 1) col st = some st') : ∃ st1, own_draw N st (row * size + col) (own_ring (row - top - 3) (col - left - 3)) = some st1 ∧ own_fcol N size top left row m (col + 1) st1 = some st' := by
  rw [own_fcol, if_neg q, if_neg r] at h
  split at h
  · cases h
  · rename_i e; exact ⟨_, e, h⟩
theorem own_frow_end {N : Nat} {size top left : Int32} {n : Nat} {row : Int32} {st st' : own_St} (q : top + 7 < row) (h : own_frow N size top left (n + 1) row st = some st') : st = st' := by
  rw [own_frow, if_pos q] at h; exact Option.some.inj h
theorem own_frow_go {N : Nat} {size top left : Int32} {n : Nat} {row : Int32} {st st' : own_St} (q : ¬ top + 7 < row) (h : own_frow N size top left (n + 1) row st = some st') : ∃ st1, own_fcol N size top left row 10 (left - 1) st = some st1 ∧ own_frow N size top left n (row + 1) st1 = some st' := by
  rw [own_frow, if_neg q] at h
  split at h
  · cases h
  · rename_i e; exact ⟨_, e, h⟩
theorem own_ac_end {N : Nat} {size row column r : Int32} {m : Nat} {c : Int32} {st st' : own_St} (q : column + 2 < c) (h : own_ac N size row column r (m + 1) c st = some st') : st = st' := by
  rw [own_ac, if_pos q] at h; exact Option.some.inj h
theorem own_ac_go {N : Nat} {size row column r : Int32} {m : Nat} {c : Int32} {st st' : own_St} (q : ¬ column + 2 < c) (h : own_ac N size row column r (m + 1) c st = some st') : ∃ st1, own_draw N st (r * size + c) (own_ring2 (r - row) (c - column)) = some st1 ∧ own_ac N size row column r m (c + 1) st1 = some st' := by
  rw [own_ac, if_neg q] at h
  split at h
  · cases h
  · rename_i e; exact ⟨_, e, h⟩
theorem own_ar_end {N : Nat} {size row column : Int32} {m : Nat} {r : Int32} {st st' : own_St} (q : row + 2 < r) (h : own_ar N size row column (m + 1) r st = some st') : st = st' := by
  rw [own_ar, if_pos q] at h; exact Option.some.inj h
theorem own_ar_go {N : Nat} {size row column : Int32} {m : Nat} {r : Int32} {st st' : own_St} (q : ¬ row + 2 < r) (h : own_ar N size row column (m + 1) r st = some st') : ∃ st1, own_ac N size row column r 6 (column - 2) st = some st1 ∧ own_ar N size row column m (r + 1) st1 = some st' := by
  rw [own_ar, if_neg q] at h
  split at h
  · cases h
  · rename_i e; exact ⟨_, e, h⟩
theorem own_aj_end {N : Nat} {size row : Int32} {ls : List Int32} {m : Nat} {j : Int32} {st st' : own_St} (q : ¬ j < Int32.ofNat ls.length) (h : own_aj N size row ls (m + 1) j st = some st') : st = st' := by
  rw [own_aj, if_pos q] at h; exact Option.some.inj h
theorem own_aj_go {N : Nat} {size row : Int32} {ls : List Int32} {m : Nat} {j : Int32} {st st' : own_St} (q : j < Int32.ofNat ls.length) (h : own_aj N size row ls (m + 1) j st = some st') :
    ∃ column, ¬ (j < 0 ∨ ls.length ≤ j.toNatClampNeg) ∧ ls[j.toNatClampNeg]? = some column ∧ (own_onf row column (size - 7) = true → own_aj N size row ls m (j + 1) st = some st') ∧
      (own_onf row column (size - 7) = false → ∃ st1, own_ar N size row column 6 (row - 2) st = some st1 ∧ own_aj N size row ls m (j + 1) st1 = some st') := by
  rw [own_aj, if_neg (fun z => z q)] at h
  split at h
  · cases h
  · rename_i q0
    split at h
    · cases h
    · rename_i column e
      refine ⟨column, fun z => z.elim q0 (fun z => ?_), e, fun o => ?_, fun o => ?_⟩
      · rw [List.getElem?_eq_none z] at e; cases e
      · rw [if_pos o] at h; exact h
      · rw [if_neg (by rw [o]; decide)] at h
        split at h
        · cases h
        · rename_i e; exact ⟨_, e, h⟩
theorem own_ai_end {N : Nat} {size : Int32} {ls : List Int32} {m : Nat} {i : Int32} {st st' : own_St} (q : ¬ i < Int32.ofNat ls.length) (h : own_ai N size ls (m + 1) i st = some st') : st = st' := by
  rw [own_ai, if_pos q] at h; exact Option.some.inj h
theorem own_ai_go {N : Nat} {size : Int32} {ls : List Int32} {m : Nat} {i : Int32} {st st' : own_St} (q : i < Int32.ofNat ls.length) (h : own_ai N size ls (m + 1) i st = some st') :
    ∃ row, ¬ (i < 0 ∨ ls.length ≤ i.toNatClampNeg) ∧ ls[i.toNatClampNeg]? = some row ∧ ∃ st1, own_aj N size row ls 8 0 st = some st1 ∧ own_ai N size ls m (i + 1) st1 = some st' := by
  rw [own_ai, if_neg (fun z => z q)] at h
  split at h
  · cases h
  · rename_i q0
    split at h
    · cases h
    · rename_i row e
      refine ⟨row, fun z => z.elim q0 (fun z => ?_), e, ?_⟩
      · rw [List.getElem?_eq_none z] at e; cases e
      · split at h
        · cases h
        · rename_i e; exact ⟨_, e, h⟩
theorem own_al_inv {N : Nat} {v size : Int32} {st st' : own_St} (h : own_al N v size st = some st') : ∃ ls, own_cs v size = some ls ∧ own_ai N size ls 8 0 st = some st' := by
  unfold own_al at h
  split at h
  · cases h
  · rename_i e; exact ⟨_, e, h⟩
theorem own_cfill_end {size cnt step : Int32} {m : Nat} {i : Int32} {ls ls' : List Int32} (q : ¬ i < cnt) (h : own_cfill size cnt step (m + 1) i ls = some ls') : ls = ls' := by
  rw [own_cfill, if_pos q] at h; exact Option.some.inj h
theorem own_cfill_go {size cnt step : Int32} {m : Nat} {i : Int32} {ls ls' : List Int32} (q : i < cnt) (h : own_cfill size cnt step (m + 1) i ls = some ls') : ¬ (i < 0 ∨ ls.length ≤ i.toNatClampNeg) ∧ own_cfill size cnt step m (i + 1) (ls.set i.toNatClampNeg (size - 7 - (cnt - 1 - i) * step)) = some ls' := by
  rw [own_cfill, if_neg (fun z => z q)] at h
  split at h
  · cases h
  · rename_i q0; exact ⟨q0, h⟩
theorem own_cs_one {v size : Int32} {ls : List Int32} (q : v = 1) (h : own_cs v size = some ls) : ls = [] := by
  rw [own_cs, if_pos q] at h; exact (Option.some.inj h).symm
theorem own_cs_inv {v size : Int32} {ls : List Int32} (q : ¬ v = 1) (h : own_cs v size = some ls) : ¬ v / 7 + 2 < 1 ∧ (v / 7 + 2).toNatClampNeg ≤ 7 ∧ (2 : Int32) * (v / 7 + 2 - 1) ≠ 0 ∧ own_cfill size (v / 7 + 2) (own_step v size (v / 7 + 2 - 1)) 8 1 ((List.replicate (v / 7 + 2).toNatClampNeg 0).set 0 6) = some ls := by
  rw [own_cs, if_neg q] at h
  split at h
  · cases h
  · rename_i q0
    exact ⟨fun z => q0 (Or.inl z), Nat.le_of_not_lt fun z => q0 (Or.inr (Or.inl z)), fun z => q0 (Or.inr (Or.inr z)), h⟩
theorem own_nn {x : Int32} (h : ¬ x < 1) : ¬ x < 0 := by
  rw [Int32.lt_iff_toInt_lt] at *
  have e1 : (1 : Int32).toInt = 1 := rfl
  have e0 : (0 : Int32).toInt = 0 := rfl
  rw [e1] at h; rw [e0]; omega
theorem own_c0 {x : Int32} (h : ¬ x < 1) : ¬ ((0 : Int32) < 0 ∨ ((List.replicate x.toNatClampNeg (0 : Int32)).map Value.int).length ≤ (0 : Int32).toNatClampNeg) := by
  rw [Int32.lt_iff_toInt_lt] at h
  have e1 : (1 : Int32).toInt = 1 := rfl
  have e0 : (0 : Int32).toNatClampNeg = 0 := rfl
  rw [e1] at h
  have e2 : x.toNatClampNeg = x.toInt.toNat := rfl
  rw [e0, List.length_map, List.length_replicate, e2]
  rintro (z | z)
  · exact absurd z (by decide)
  · omega
theorem own_td_inv {N : Nat} {j z : Int32} {st st' : own_St} (h : own_td N j z st = some st') : ¬ (j < 0 ∨ N ≤ j.toNatClampNeg) ∧ (own_bit st.1 j.toNatClampNeg = 0 → own_draw N st j z = some st') ∧ (¬ own_bit st.1 j.toNatClampNeg = 0 → st = st') := by
  unfold own_td at h
  split at h
  · cases h
  · rename_i q
    refine ⟨q, fun e => ?_, fun e => ?_⟩
    · rw [if_pos e] at h; exact h
    · rw [if_neg e] at h; exact Option.some.inj h
theorem own_tm_end {N : Nat} {size : Int32} {m : Nat} {i : Int32} {st st' : own_St} (q : ¬ i < size) (h : own_tm N size (m + 1) i st = some st') : st = st' := by
  rw [own_tm, if_pos q] at h; exact Option.some.inj h
theorem own_tm_go {N : Nat} {size : Int32} {m : Nat} {i : Int32} {st st' : own_St} (q : i < size) (h : own_tm N size (m + 1) i st = some st') : ∃ st1 st2, own_td N (6 * size + i) (own_par i) st = some st1 ∧ own_td N (i * size + 6) (own_par i) st1 = some st2 ∧ own_tm N size m (i + 1) st2 = some st' := by
  rw [own_tm, if_neg (fun z => z q)] at h
  split at h
  · cases h
  · rename_i e1
    split at h
    · cases h
    · rename_i e2; exact ⟨_, _, e1, e2, h⟩
theorem own_fl2 {N : Nat} {size b : Int32} {ls : List (Int32 × Int32)} {st st' : own_St} (h : own_draws N (own_fl size b ++ ls) st = some st') : ∃ st1 st2, own_draw N st (own_f0 b * size + own_f1 b) 0 = some st1 ∧ own_draw N st1 (own_f2 size b * size + own_f3 size b) 0 = some st2 ∧ own_draws N ls st2 = some st' := by
  rw [own_fl, List.cons_append, List.cons_append, List.nil_append, own_draws] at h
  split at h
  · cases h
  · rename_i e1
    rw [own_draws] at h
    split at h
    · cases h
    · rename_i e2; exact ⟨_, _, e1, e2, h⟩
theorem own_vi_end {N : Nat} {size : Int32} {m : Nat} {b : Int32} {st st' : own_St} (q : ¬ b < 18) (h : own_vi N size (m + 1) b st = some st') : st = st' := by
  rw [own_vi, if_pos q] at h; exact Option.some.inj h
theorem own_vi_go {N : Nat} {size : Int32} {m : Nat} {b : Int32} {st st' : own_St} (q : b < 18) (h : own_vi N size (m + 1) b st = some st') : ∃ st1 st2, own_draw N st ((size - 11 + b % 3) * size + b / 3) 0 = some st1 ∧ own_draw N st1 (b / 3 * size + (size - 11 + b % 3)) 0 = some st2 ∧ own_vi N size m (b + 1) st2 = some st' := by
  rw [own_vi, if_neg (fun z => z q)] at h
  split at h
  · cases h
  · rename_i e1
    split at h
    · cases h
    · rename_i e2; exact ⟨_, _, e1, e2, h⟩
theorem own_any {N : Nat} {st st' : own_St} {j z : Int32} (h : own_draw N st j z = some st') (D : Nat) (z2 : Int32) : own_draw N (st.1, D, st.2.2) j z2 = some (st'.1, own_put D j.toNatClampNeg z2, st'.2.2) := by
  obtain ⟨hj, rfl⟩ := own_draw_some h
  rw [own_draw, if_neg hj]
theorem own_ct_inv {N : Nat} {v size : Int32} {st' : own_St} (h : own_ct N v size = some st') : ∃ s1 s2 s3 s4 s5 s6 s7, own_frow N size 0 0 10 (0 - 1) (0, 0, 0) = some s1 ∧ own_frow N size 0 (size - 7) 10 (0 - 1) s1 = some s2 ∧ own_frow N size (size - 7) 0 10 (size - 7 - 1) s2 = some s3 ∧ own_al N v size s3 = some s4 ∧ own_tm N size 178 0 s4 = some s5 ∧
    own_draw N s5 ((size - 8) * size + 8) 1 = some s6 ∧ own_draws N (own_fls size) s6 = some s7 ∧ (v < 7 → s7 = st') ∧ (¬ v < 7 → own_vi N size 19 0 s7 = some st') := by
  simp only [own_ct, Option.bind_eq_some_iff] at h
  obtain ⟨s1, h1, s2, h2, s3, h3, s4, h4, s5, h5, s6, h6, s7, h7, h⟩ := h
  refine ⟨s1, s2, s3, s4, s5, s6, s7, h1, h2, h3, h4, h5, h6, h7, fun q => ?_, fun q => ?_⟩
  · rw [if_pos q] at h; exact Option.some.inj h
  · rw [if_neg q] at h; exact h
theorem own_onf_t {row column last : Int32} (h : (row = 6 ∧ (column = 6 ∨ column = last)) ∨ (row = last ∧ column = 6)) : own_onf row column last = true := by
  simp only [own_onf, Bool.or_eq_true, Bool.and_eq_true, decide_eq_true_eq]; exact h
theorem own_onf_f {row column last : Int32} (h : ¬ ((row = 6 ∧ (column = 6 ∨ column = last)) ∨ (row = last ∧ column = 6))) : own_onf row column last = false := by
  rw [← Bool.not_eq_true]
  simp only [own_onf, Bool.or_eq_true, Bool.and_eq_true, decide_eq_true_eq]; exact h
theorem own_down {bit : Int32} {n : Nat} (h : bit.toInt < 12 + ((n + 1 : Nat) : Int)) (q : ¬ bit < 12) : (bit + (-1 : Int32)).toInt < 12 + (n : Int) := by
  rw [Int32.lt_iff_toInt_lt] at q
  have e : (12 : Int32).toInt = 12 := rfl
  have l := Int32.toInt_lt bit
  rw [e] at q
  have e1 : (-1 : Int32).toInt = -1 := rfl
  rw [Int32.toInt_add, e1, Int.bmod_eq_of_le_mul_two (by omega) (by omega)]
  omega
theorem own_down0 {bit : Int32} (h : bit.toInt < 12 + ((0 : Nat) : Int)) : bit < 12 := by
  rw [Int32.lt_iff_toInt_lt]
  have e : (12 : Int32).toInt = 12 := rfl
  rw [e]; omega
theorem own_oflt {i n : Nat} (h : i < n) (hn : n < 2 ^ 31) : Int32.ofNat i < Int32.ofNat n := by
  rw [Int32.lt_iff_toInt_lt, Int32.toInt_ofNat_of_lt hn, Int32.toInt_ofNat_of_lt (by omega)]; omega
theorem own_zc_s1 {F i : Nat} (q : own_bit F i = 0) : Int32.ofNat (own_zc F i) + 1 = Int32.ofNat (own_zc F (i + 1)) := by
  rw [own_zc, if_pos q, Int32.ofNat_add]; rfl
theorem own_zc_s0 {F i : Nat} (q : ¬ own_bit F i = 0) : Int32.ofNat (own_zc F i) = Int32.ofNat (own_zc F (i + 1)) := by
  rw [own_zc, if_neg q]; rfl
theorem own_of1 (i : Nat) : Int32.ofNat i + 1 = Int32.ofNat (i + 1) := by rw [Int32.ofNat_add]; rfl
theorem own_mod (x : Int32) {m : Nat} (h0 : 0 < m) (h1 : m < 2 ^ 31) : ∃ k : Nat, k < m ∧ (x &&& 2147483647) % Int32.ofNat m = Int32.ofNat k := by
  have h2 : (x &&& 2147483647).toBitVec.toNat < 2 ^ 31 := by
    rw [Int32.toBitVec_and, BitVec.toNat_and]
    exact Nat.lt_of_le_of_lt Nat.and_le_right (by decide)
  have e3 : (x &&& 2147483647).toInt = ((x &&& 2147483647).toBitVec.toNat : Int) := BitVec.toInt_eq_toNat_of_lt (by omega)
  generalize (x &&& 2147483647) = y at *
  refine ⟨y.toBitVec.toNat % m, Nat.mod_lt _ h0, ?_⟩
  have l := Nat.mod_lt y.toBitVec.toNat h0
  apply Int32.toInt_inj.mp
  rw [Int32.toInt_mod, e3, Int32.toInt_ofNat_of_lt h1, Int32.toInt_ofNat_of_lt (by omega), Int.tmod_eq_emod_of_nonneg (by omega)]
  omega
/-! placing the codewords: each module's origin (0: light, 1: dark, t + 2: bit t of the codewords) -/
def own_w (cb : List Int32) (t : Nat) : Int32 :=
  if Int32.ofNat t < Int32.ofNat cb.length * 8 then
    match cb[t / 8]? with
    | some b => if ((b.toUInt32 >>> ((7 - Int32.ofNat t % 8) &&& 31).toUInt32).toInt32 &&& 1) = 0 then 0 else 1
    | none => 0
  else 0
def own_io (cb : List Int32) (o : Nat) : Int32 := if o = 0 then 0 else if o = 1 then 1 else own_w cb (o - 2)
def own_iv (cb : List Int32) (o : Nat) : Value := .int (own_io cb o)
abbrev own_Pt : Type := List Nat × Nat
def own_p3 (N F : Nat) (size right row : Int32) : Nat → Int32 → own_Pt → Option own_Pt
  | 0, _, _ => none
  | m + 1, col, st => if col < right - 1 then some st else
    if row * size + col < 0 ∨ N ≤ (row * size + col).toNatClampNeg then none else
    if own_bit F (row * size + col).toNatClampNeg = 0 then
      if 208 ≤ st.2 then none else own_p3 N F size right row m (col + -1) (st.1.set (row * size + col).toNatClampNeg (st.2 + 2), st.2 + 1)
    else own_p3 N F size right row m (col + -1) st
def own_p2 (N F : Nat) (size right up : Int32) : Nat → Int32 → own_Pt → Option own_Pt
  | 0, _, _ => none
  | m + 1, s, st => if ¬ s < size then some st else
    match own_p3 N F size right (if up = 0 then s else size - 1 - s) 3 right st with
    | none => none
    | some st' => own_p2 N F size right up m (s + 1) st'
def own_rt (right : Int32) : Int32 := if right = 6 then right + -1 else right
def own_no (up : Int32) : Int32 := if up = 0 then 1 else 0
def own_p1 (N F : Nat) (size : Int32) : Nat → Int32 → Int32 → own_Pt → Option own_Pt
  | 0, _, _, _ => none
  | m + 1, right, up, st => if ¬ 0 < right then some st else
    match own_p2 N F size (own_rt right) up 22 0 st with
    | none => none
    | some st' => own_p1 N F size m (own_rt right + -2) (own_no up) st'
theorem own_p3_end {N F : Nat} {size right row : Int32} {m : Nat} {col : Int32} {st st' : own_Pt} (q : col < right - 1) (h : own_p3 N F size right row (m + 1) col st = some st') : st = st' := by
  rw [own_p3, if_pos q] at h; exact Option.some.inj h
theorem own_p3_go {N F : Nat} {size right row : Int32} {m : Nat} {col : Int32} {st st' : own_Pt} (q : ¬ col < right - 1) (h : own_p3 N F size right row (m + 1) col st = some st') : ¬ (row * size + col < 0 ∨ N ≤ (row * size + col).toNatClampNeg) ∧
    (own_bit F (row * size + col).toNatClampNeg = 0 → st.2 < 208 ∧ own_p3 N F size right row m (col + -1) (st.1.set (row * size + col).toNatClampNeg (st.2 + 2), st.2 + 1) = some st') ∧ (¬ own_bit F (row * size + col).toNatClampNeg = 0 → own_p3 N F size right row m (col + -1) st = some st') := by
  rw [own_p3, if_neg q] at h
  split at h
  · cases h
  · rename_i q0
    refine ⟨q0, fun e => ?_, fun e => ?_⟩
    · rw [if_pos e] at h
      split at h
      · cases h
      · rename_i q1; exact ⟨Nat.lt_of_not_le q1, h⟩
    · rw [if_neg e] at h; exact h
theorem own_p2_end {N F : Nat} {size right up : Int32} {m : Nat} {s : Int32} {st st' : own_Pt} (q : ¬ s < size) (h : own_p2 N F size right up (m + 1) s st = some st') : st = st' := by
  rw [own_p2, if_pos q] at h; exact Option.some.inj h
theorem own_p2_go {N F : Nat} {size right up : Int32} {m : Nat} {s : Int32} {st st' : own_Pt} (q : s < size) (h : own_p2 N F size right up (m + 1) s st = some st') : ∃ st1, own_p3 N F size right (if up = 0 then s else size - 1 - s) 3 right st = some st1 ∧ own_p2 N F size right up m (s + 1) st1 = some st' := by
  rw [own_p2, if_neg (fun z => z q)] at h
  split at h
  · cases h
  · rename_i e; exact ⟨_, e, h⟩
theorem own_p1_end {N F : Nat} {size : Int32} {m : Nat} {right up : Int32} {st st' : own_Pt} (q : ¬ 0 < right) (h : own_p1 N F size (m + 1) right up st = some st') : st = st' := by
  rw [own_p1, if_pos q] at h; exact Option.some.inj h
theorem own_p1_go {N F : Nat} {size : Int32} {m : Nat} {right up : Int32} {st st' : own_Pt} (q : 0 < right) (h : own_p1 N F size (m + 1) right up st = some st') : ∃ st1, own_p2 N F size (own_rt right) up 22 0 st = some st1 ∧ own_p1 N F size m (own_rt right + -2) (own_no up) st1 = some st' := by
  rw [own_p1, if_neg (fun z => z q)] at h
  split at h
  · cases h
  · rename_i e; exact ⟨_, e, h⟩
/-- the matrix and the codewords in the heap -/
def own_P (Z : State) (n0 : Nat) (h : Heap) (a : Addr) (size : Int32) (ad af ac : Addr) (N F : Nat) (cb : List Int32) (ls : List Nat) : Prop :=
  n0 ≤ h.size ∧ Exa Z h a "com/example/tickstep/tickstep/encoding/QrMatrix" ∧ Fld Z h a "com/example/tickstep/tickstep/encoding/QrMatrix" "size" "I" (.int size) ∧ Fld Z h a "com/example/tickstep/tickstep/encoding/QrMatrix" "dark" "[Z" (.ref ad) ∧ Fld Z h a "com/example/tickstep/tickstep/encoding/QrMatrix" "function" "[Z" (.ref af) ∧
    Ary Z h ad .boolean (ls.map (own_iv cb)) ∧ Ary Z h af .boolean (own_vals F N) ∧ Ary Z h ac .byte (cb.map Value.int) ∧ (n0 ≤ ad ∧ ad ≠ af ∧ a ≠ ad ∧ ac ≠ ad) ∧ ls.length = N
theorem own_w01 (cb : List Int32) (t : Nat) : own_w cb t = 0 ∨ own_w cb t = 1 := by
  unfold own_w
  split
  · split
    · split
      · exact Or.inl rfl
      · exact Or.inr rfl
    · exact Or.inl rfl
  · exact Or.inl rfl
theorem own_nw (cb : List Int32) (t : Nat) : nar .boolean (own_w cb t) = own_w cb t := by
  rcases own_w01 cb t with e | e <;> rw [e] <;> decide
theorem own_idx : ∀ t : Fin 208, Int32.ofNat t.val / 8 = Int32.ofNat (t.val / 8) ∧ (Int32.ofNat (t.val / 8)).toNatClampNeg = t.val / 8 ∧ ¬ Int32.ofNat (t.val / 8) < 0 ∧ (Int32.ofNat t.val < Int32.ofNat 8 * 8 → t.val / 8 < 8) ∧ (Int32.ofNat t.val < Int32.ofNat 26 * 8 → t.val / 8 < 26) := by decide +kernel
theorem own_cwj {cb : List Int32} {t : Nat} (hl : cb.length = 8 ∨ cb.length = 26) (ht : t < 208) (q : Int32.ofNat t < Int32.ofNat cb.length * 8) : ∃ b, cb[t / 8]? = some b ∧ (Int32.ofNat t / 8).toNatClampNeg = t / 8 ∧ ¬ (Int32.ofNat t / 8 < 0 ∨ cb.length ≤ (Int32.ofNat t / 8).toNatClampNeg) := by
  obtain ⟨e1, e2, e3, e4, e5⟩ := own_idx ⟨t, ht⟩
  dsimp only at e1 e2 e3 e4 e5
  have l : t / 8 < cb.length := by
    rcases hl with e | e <;> rw [e] at q ⊢
    · exact e4 q
    · exact e5 q
  refine ⟨_, List.getElem?_eq_getElem l, by rw [e1, e2], ?_⟩
  rw [e1, e2]
  rintro (z | z)
  · exact e3 z
  · omega
theorem own_w_b {cb : List Int32} {t : Nat} {b : Int32} (q : Int32.ofNat t < Int32.ofNat cb.length * 8) (hb : cb[t / 8]? = some b) : own_w cb t = if ((b.toUInt32 >>> ((7 - Int32.ofNat t % 8) &&& 31).toUInt32).toInt32 &&& 1) = 0 then 0 else 1 := by
  rw [own_w, if_pos q, hb]
theorem own_put2 {cb : List Int32} {ls : List Nat} {j t : Nat} : (ls.map (own_iv cb)).set j (.int (nar .boolean (own_w cb t))) = (ls.set j (t + 2)).map (own_iv cb) := by
  rw [own_nw, List.map_set]
  have e : own_iv cb (t + 2) = .int (own_w cb t) := by
    unfold own_iv own_io
    rw [if_neg (by omega), if_neg (by omega)]; rfl
  rw [e]
def own_l0 (D N : Nat) : List Nat := (List.range N).map fun i => if D.testBit i then 1 else 0
theorem own_l0_vals (cb : List Int32) (D N : Nat) : own_vals D N = (own_l0 D N).map (own_iv cb) := by
  unfold own_vals own_l0
  rw [List.map_map]
  refine List.map_congr_left fun i _ => ?_
  by_cases q : D.testBit i <;> simp [own_bit, own_iv, own_io, q]
theorem own_and32 (x : Int32) : x &&& 1 = 0 ↔ x.toBitVec.getLsbD 0 = false := by
  rw [← Int32.toBitVec_inj, Int32.toBitVec_and, ← BitVec.toNat_inj, BitVec.toNat_and]
  have e : x.toBitVec.toNat &&& (1 : Int32).toBitVec.toNat = x.toBitVec.toNat % 2 := Nat.and_two_pow_sub_one_eq_mod x.toBitVec.toNat 1
  rw [e, BitVec.getLsbD, Nat.testBit_zero]
  have e0 : (0 : Int32).toBitVec.toNat = 0 := rfl
  rw [e0]
  simp
theorem own_and64 (x : Int64) : x &&& 1 = 0 ↔ x.toBitVec.getLsbD 0 = false := by
  rw [← Int64.toBitVec_inj, Int64.toBitVec_and, ← BitVec.toNat_inj, BitVec.toNat_and]
  have e : x.toBitVec.toNat &&& (1 : Int64).toBitVec.toNat = x.toBitVec.toNat % 2 := Nat.and_two_pow_sub_one_eq_mod x.toBitVec.toNat 1
  rw [e, BitVec.getLsbD, Nat.testBit_zero]
  have e0 : (0 : Int64).toBitVec.toNat = 0 := rfl
  rw [e0]
  simp
theorem own_sh64 (x : Int64) (u : UInt64) (i : Nat) (hu : u.toNat < 64) : (x.toUInt64 >>> u).toInt64.toBitVec.getLsbD i = x.toBitVec.getLsbD (u.toNat + i) := by
  show ((x.toUInt64 >>> u).toBitVec).getLsbD i = _
  rw [UInt64.toBitVec_shiftRight, BitVec.ushiftRight_eq', BitVec.getLsbD_ushiftRight, BitVec.toNat_umod]
  show x.toBitVec.getLsbD (u.toNat % 64 + i) = _
  rw [Nat.mod_eq_of_lt hu]
theorem own_sh32 (x : Int32) (u : UInt32) (i : Nat) (hu : u.toNat < 32) : (x.toUInt32 >>> u).toInt32.toBitVec.getLsbD i = x.toBitVec.getLsbD (u.toNat + i) := by
  show ((x.toUInt32 >>> u).toBitVec).getLsbD i = _
  rw [UInt32.toBitVec_shiftRight, BitVec.ushiftRight_eq', BitVec.getLsbD_ushiftRight, BitVec.toNat_umod]
  show x.toBitVec.getLsbD (u.toNat % 32 + i) = _
  rw [Nat.mod_eq_of_lt hu]
theorem own_by8 (z : Int32) (i : Nat) (hi : i < 8) : z.toInt8.toInt32.toBitVec.getLsbD i = z.toBitVec.getLsbD i := by
  show (z.toInt8.toBitVec.signExtend 32).getLsbD i = _
  rw [BitVec.getLsbD_signExtend]
  show (decide (i < 32) && if i < 8 then (z.toBitVec.signExtend 8).getLsbD i else _) = _
  rw [if_pos hi, BitVec.getLsbD_signExtend]
  have h1 : i < 32 := by omega
  simp [hi, h1]
theorem own_nb (z : Int32) (i : Nat) (hi : i < 8) : (nar .byte z).toBitVec.getLsbD i = z.toBitVec.getLsbD i := own_by8 z i hi
theorem own_l32 (x : Int64) (i : Nat) (hi : i < 32) : x.toInt32.toBitVec.getLsbD i = x.toBitVec.getLsbD i := by
  show (x.toBitVec.signExtend 32).getLsbD i = _
  rw [BitVec.getLsbD_signExtend]
  have h1 : i < 64 := by omega
  simp [hi, h1]
theorem own_bA (a : Int64) (u v : UInt64) (r : UInt32) (hu : u.toNat < 64) (hr : r.toNat < 8) (hv : v.toNat = u.toNat + r.toNat) (hv6 : v.toNat < 64) :
    (((nar .byte ((a.toUInt64 >>> u).toInt64.toInt32.toInt8.toInt32)).toUInt32 >>> r).toInt32 &&& 1 = 0) ↔ ((a.toUInt64 >>> v).toInt64 &&& 1 = 0) := by
  rw [own_and32, own_and64, own_sh32 _ _ _ (by omega), own_sh64 _ _ _ hv6, Nat.add_zero, Nat.add_zero, own_nb _ _ hr, own_by8 _ _ hr, own_l32 _ _ (by omega), own_sh64 _ _ _ hu, hv]
theorem own_bZ (a : Int64) (v : UInt64) (r : UInt32) (hr : r.toNat < 8) (hv : v.toNat = r.toNat) (hv6 : v.toNat < 64) :
    (((nar .byte (a.toInt32.toInt8.toInt32)).toUInt32 >>> r).toInt32 &&& 1 = 0) ↔ ((a.toUInt64 >>> v).toInt64 &&& 1 = 0) := by
  rw [own_and32, own_and64, own_sh32 _ _ _ (by omega), own_sh64 _ _ _ hv6, Nat.add_zero, Nat.add_zero, own_nb _ _ hr, own_by8 _ _ hr, own_l32 _ _ (by omega), hv]
theorem own_bD (a : Int32) (u v : UInt32) (r : UInt32) (hu : u.toNat < 32) (hr : r.toNat < 8) (hv : v.toNat = u.toNat + r.toNat) (hv6 : v.toNat < 32) :
    (((nar .byte ((a.toUInt32 >>> u).toInt32.toInt8.toInt32)).toUInt32 >>> r).toInt32 &&& 1 = 0) ↔ ((a.toUInt32 >>> v).toInt32 &&& 1 = 0) := by
  rw [own_and32, own_and32, own_sh32 _ _ _ (by omega), own_sh32 _ _ _ hv6, Nat.add_zero, Nat.add_zero, own_nb _ _ hr, own_by8 _ _ hr, own_sh32 _ _ _ hu, hv]
def own_cb8 (ja : Int64) : List Int32 := [(nar .byte ((((ja.toUInt64 >>> ((56 : Int32) &&& 0x3f).toInt64.toUInt64).toInt64).toInt32).toInt8.toInt32)), (nar .byte ((((ja.toUInt64 >>> ((48 : Int32) &&& 0x3f).toInt64.toUInt64).toInt64).toInt32).toInt8.toInt32)), (nar .byte ((((ja.toUInt64 >>> ((40 : Int32) &&& 0x3f).toInt64.toUInt64).toInt64).toInt32).toInt8.toInt32)), (nar .byte ((((ja.toUInt64 >>> ((32 : Int32) &&& 0x3f).toInt64.toUInt64).toInt64).toInt32).toInt8.toInt32)), (nar .byte ((((ja.toUInt64 >>> ((24 : Int32) &&& 0x3f).toInt64.toUInt64).toInt64).toInt32).toInt8.toInt32)), (nar .byte ((((ja.toUInt64 >>> ((16 : Int32) &&& 0x3f).toInt64.toUInt64).toInt64).toInt32).toInt8.toInt32)), (nar .byte ((((ja.toUInt64 >>> ((8 : Int32) &&& 0x3f).toInt64.toUInt64).toInt64).toInt32).toInt8.toInt32)), (nar .byte ((ja.toInt32).toInt8.toInt32))]
def own_cb26 (ja jb jc : Int64) (dd : Int32) : List Int32 := [(nar .byte ((((ja.toUInt64 >>> ((56 : Int32) &&& 0x3f).toInt64.toUInt64).toInt64).toInt32).toInt8.toInt32)), (nar .byte ((((ja.toUInt64 >>> ((48 : Int32) &&& 0x3f).toInt64.toUInt64).toInt64).toInt32).toInt8.toInt32)), (nar .byte ((((ja.toUInt64 >>> ((40 : Int32) &&& 0x3f).toInt64.toUInt64).toInt64).toInt32).toInt8.toInt32)), (nar .byte ((((ja.toUInt64 >>> ((32 : Int32) &&& 0x3f).toInt64.toUInt64).toInt64).toInt32).toInt8.toInt32)), (nar .byte ((((ja.toUInt64 >>> ((24 : Int32) &&& 0x3f).toInt64.toUInt64).toInt64).toInt32).toInt8.toInt32)), (nar .byte ((((ja.toUInt64 >>> ((16 : Int32) &&& 0x3f).toInt64.toUInt64).toInt64).toInt32).toInt8.toInt32)), (nar .byte ((((ja.toUInt64 >>> ((8 : Int32) &&& 0x3f).toInt64.toUInt64).toInt64).toInt32).toInt8.toInt32)), (nar .byte ((ja.toInt32).toInt8.toInt32)), (nar .byte ((((jb.toUInt64 >>> ((56 : Int32) &&& 0x3f).toInt64.toUInt64).toInt64).toInt32).toInt8.toInt32)), (nar .byte ((((jb.toUInt64 >>> ((48 : Int32) &&& 0x3f).toInt64.toUInt64).toInt64).toInt32).toInt8.toInt32)), (nar .byte ((((jb.toUInt64 >>> ((40 : Int32) &&& 0x3f).toInt64.toUInt64).toInt64).toInt32).toInt8.toInt32)), (nar .byte ((((jb.toUInt64 >>> ((32 : Int32) &&& 0x3f).toInt64.toUInt64).toInt64).toInt32).toInt8.toInt32)), (nar .byte ((((jb.toUInt64 >>> ((24 : Int32) &&& 0x3f).toInt64.toUInt64).toInt64).toInt32).toInt8.toInt32)), (nar .byte ((((jb.toUInt64 >>> ((16 : Int32) &&& 0x3f).toInt64.toUInt64).toInt64).toInt32).toInt8.toInt32)), (nar .byte ((((jb.toUInt64 >>> ((8 : Int32) &&& 0x3f).toInt64.toUInt64).toInt64).toInt32).toInt8.toInt32)), (nar .byte ((jb.toInt32).toInt8.toInt32)), (nar .byte ((((jc.toUInt64 >>> ((56 : Int32) &&& 0x3f).toInt64.toUInt64).toInt64).toInt32).toInt8.toInt32)), (nar .byte ((((jc.toUInt64 >>> ((48 : Int32) &&& 0x3f).toInt64.toUInt64).toInt64).toInt32).toInt8.toInt32)), (nar .byte ((((jc.toUInt64 >>> ((40 : Int32) &&& 0x3f).toInt64.toUInt64).toInt64).toInt32).toInt8.toInt32)), (nar .byte ((((jc.toUInt64 >>> ((32 : Int32) &&& 0x3f).toInt64.toUInt64).toInt64).toInt32).toInt8.toInt32)), (nar .byte ((((jc.toUInt64 >>> ((24 : Int32) &&& 0x3f).toInt64.toUInt64).toInt64).toInt32).toInt8.toInt32)), (nar .byte ((((jc.toUInt64 >>> ((16 : Int32) &&& 0x3f).toInt64.toUInt64).toInt64).toInt32).toInt8.toInt32)), (nar .byte ((((jc.toUInt64 >>> ((8 : Int32) &&& 0x3f).toInt64.toUInt64).toInt64).toInt32).toInt8.toInt32)), (nar .byte ((jc.toInt32).toInt8.toInt32)), (nar .byte ((dd.toUInt32 >>> ((24 : Int32) &&& 31).toUInt32).toInt32).toInt8.toInt32), (nar .byte ((dd.toUInt32 >>> ((16 : Int32) &&& 31).toUInt32).toInt32).toInt8.toInt32)]
def own_bt (ja jb jc : Int64) (dd k : Int32) : Int32 :=
  if k < 64 then (if ((ja.toUInt64 >>> (((63 : Int32) - k) &&& 0x3f).toInt64.toUInt64).toInt64 &&& 1) = 0 then 0 else 1) else if k < 128 then (if ((jb.toUInt64 >>> (((127 : Int32) - k) &&& 0x3f).toInt64.toUInt64).toInt64 &&& 1) = 0 then 0 else 1) else if k < 192 then (if ((jc.toUInt64 >>> (((191 : Int32) - k) &&& 0x3f).toInt64.toUInt64).toInt64 &&& 1) = 0 then 0 else 1) else if ((dd.toUInt32 >>> (((223 : Int32) - k) &&& 31).toUInt32).toInt32 &&& 1) = 0 then 0 else 1
theorem own_tt : ∀ t : Fin 208, ((7 - Int32.ofNat t.val % 8) &&& 31).toUInt32.toNat = 7 - t.val % 8 ∧ (0 ≤ t.val → t.val < 64 → (((63 : Int32) - Int32.ofNat t.val) &&& 0x3f).toInt64.toUInt64.toNat = 63 - t.val) ∧ (64 ≤ t.val → t.val < 128 → (((127 : Int32) - Int32.ofNat t.val) &&& 0x3f).toInt64.toUInt64.toNat = 127 - t.val) ∧ (128 ≤ t.val → t.val < 192 → (((191 : Int32) - Int32.ofNat t.val) &&& 0x3f).toInt64.toUInt64.toNat = 191 - t.val) ∧ (192 ≤ t.val → (((223 : Int32) - Int32.ofNat t.val) &&& 31).toUInt32.toNat = 223 - t.val) ∧ (t.val < 64 ↔ Int32.ofNat t.val < 64) ∧ (t.val < 128 ↔ Int32.ofNat t.val < 128) ∧ (t.val < 192 ↔ Int32.ofNat t.val < 192) ∧ Int32.ofNat t.val < Int32.ofNat 26 * 8 ∧ (t.val < 64 ↔ Int32.ofNat t.val < Int32.ofNat 8 * 8) := by decide +kernel
theorem own_ite {p q : Prop} [Decidable p] [Decidable q] (h : p ↔ q) : (if p then (0 : Int32) else 1) = if q then 0 else 1 := by
  by_cases z : p
  · rw [if_pos z, if_pos (h.mp z)]
  · rw [if_neg z, if_neg (fun y => z (h.mpr y))]
set_option maxHeartbeats 4000000 in
theorem own_w26 (ja jb jc : Int64) (dd : Int32) {k : Nat} (hk : k < 208) : own_w (own_cb26 ja jb jc dd) k = own_bt ja jb jc dd (Int32.ofNat k) := by
  obtain ⟨t0, t1, t2, t3, t4, t5, t6, t7, t8, t9⟩ := own_tt ⟨k, by omega⟩
  dsimp only at t0 t1 t2 t3 t4 t5 t6 t7 t8 t9
  have hl : (own_cb26 ja jb jc dd).length = 26 := rfl
  have hq : Int32.ofNat k < Int32.ofNat (own_cb26 ja jb jc dd).length * 8 := by rw [hl]; exact t8
  have hm : k / 8 = 0 ∨ k / 8 = 1 ∨ k / 8 = 2 ∨ k / 8 = 3 ∨ k / 8 = 4 ∨ k / 8 = 5 ∨ k / 8 = 6 ∨ k / 8 = 7 ∨ k / 8 = 8 ∨ k / 8 = 9 ∨ k / 8 = 10 ∨ k / 8 = 11 ∨ k / 8 = 12 ∨ k / 8 = 13 ∨ k / 8 = 14 ∨ k / 8 = 15 ∨ k / 8 = 16 ∨ k / 8 = 17 ∨ k / 8 = 18 ∨ k / 8 = 19 ∨ k / 8 = 20 ∨ k / 8 = 21 ∨ k / 8 = 22 ∨ k / 8 = 23 ∨ k / 8 = 24 ∨ k / 8 = 25 := by omega
  rcases hm with hm | hm | hm | hm | hm | hm | hm | hm | hm | hm | hm | hm | hm | hm | hm | hm | hm | hm | hm | hm | hm | hm | hm | hm | hm | hm
  · have e := t1 (by omega) (by omega)
    rw [own_w_b (b := (nar .byte ((((ja.toUInt64 >>> ((56 : Int32) &&& 0x3f).toInt64.toUInt64).toInt64).toInt32).toInt8.toInt32))) hq (by rw [hm]; rfl), own_bt, if_pos (t5.mp (by omega))]
    exact own_ite (own_bA _ _ _ _ (by decide) (by omega) (by rw [e, t0, show (((56 : Int32) &&& 0x3f).toInt64.toUInt64).toNat = 56 from by decide]; omega) (by omega))
  · have e := t1 (by omega) (by omega)
    rw [own_w_b (b := (nar .byte ((((ja.toUInt64 >>> ((48 : Int32) &&& 0x3f).toInt64.toUInt64).toInt64).toInt32).toInt8.toInt32))) hq (by rw [hm]; rfl), own_bt, if_pos (t5.mp (by omega))]
    exact own_ite (own_bA _ _ _ _ (by decide) (by omega) (by rw [e, t0, show (((48 : Int32) &&& 0x3f).toInt64.toUInt64).toNat = 48 from by decide]; omega) (by omega))
  · have e := t1 (by omega) (by omega)
    rw [own_w_b (b := (nar .byte ((((ja.toUInt64 >>> ((40 : Int32) &&& 0x3f).toInt64.toUInt64).toInt64).toInt32).toInt8.toInt32))) hq (by rw [hm]; rfl), own_bt, if_pos (t5.mp (by omega))]
    exact own_ite (own_bA _ _ _ _ (by decide) (by omega) (by rw [e, t0, show (((40 : Int32) &&& 0x3f).toInt64.toUInt64).toNat = 40 from by decide]; omega) (by omega))
  · have e := t1 (by omega) (by omega)
    rw [own_w_b (b := (nar .byte ((((ja.toUInt64 >>> ((32 : Int32) &&& 0x3f).toInt64.toUInt64).toInt64).toInt32).toInt8.toInt32))) hq (by rw [hm]; rfl), own_bt, if_pos (t5.mp (by omega))]
    exact own_ite (own_bA _ _ _ _ (by decide) (by omega) (by rw [e, t0, show (((32 : Int32) &&& 0x3f).toInt64.toUInt64).toNat = 32 from by decide]; omega) (by omega))
  · have e := t1 (by omega) (by omega)
    rw [own_w_b (b := (nar .byte ((((ja.toUInt64 >>> ((24 : Int32) &&& 0x3f).toInt64.toUInt64).toInt64).toInt32).toInt8.toInt32))) hq (by rw [hm]; rfl), own_bt, if_pos (t5.mp (by omega))]
    exact own_ite (own_bA _ _ _ _ (by decide) (by omega) (by rw [e, t0, show (((24 : Int32) &&& 0x3f).toInt64.toUInt64).toNat = 24 from by decide]; omega) (by omega))
  · have e := t1 (by omega) (by omega)
    rw [own_w_b (b := (nar .byte ((((ja.toUInt64 >>> ((16 : Int32) &&& 0x3f).toInt64.toUInt64).toInt64).toInt32).toInt8.toInt32))) hq (by rw [hm]; rfl), own_bt, if_pos (t5.mp (by omega))]
    exact own_ite (own_bA _ _ _ _ (by decide) (by omega) (by rw [e, t0, show (((16 : Int32) &&& 0x3f).toInt64.toUInt64).toNat = 16 from by decide]; omega) (by omega))
  · have e := t1 (by omega) (by omega)
    rw [own_w_b (b := (nar .byte ((((ja.toUInt64 >>> ((8 : Int32) &&& 0x3f).toInt64.toUInt64).toInt64).toInt32).toInt8.toInt32))) hq (by rw [hm]; rfl), own_bt, if_pos (t5.mp (by omega))]
    exact own_ite (own_bA _ _ _ _ (by decide) (by omega) (by rw [e, t0, show (((8 : Int32) &&& 0x3f).toInt64.toUInt64).toNat = 8 from by decide]; omega) (by omega))
  · have e := t1 (by omega) (by omega)
    rw [own_w_b (b := (nar .byte ((ja.toInt32).toInt8.toInt32))) hq (by rw [hm]; rfl), own_bt, if_pos (t5.mp (by omega))]
    exact own_ite (own_bZ _ _ _ (by omega) (by rw [e, t0]; omega) (by omega))
  · have e := t2 (by omega) (by omega)
    rw [own_w_b (b := (nar .byte ((((jb.toUInt64 >>> ((56 : Int32) &&& 0x3f).toInt64.toUInt64).toInt64).toInt32).toInt8.toInt32))) hq (by rw [hm]; rfl), own_bt, if_neg (fun z => absurd (t5.mpr z) (by omega)), if_pos (t6.mp (by omega))]
    exact own_ite (own_bA _ _ _ _ (by decide) (by omega) (by rw [e, t0, show (((56 : Int32) &&& 0x3f).toInt64.toUInt64).toNat = 56 from by decide]; omega) (by omega))
  · have e := t2 (by omega) (by omega)
    rw [own_w_b (b := (nar .byte ((((jb.toUInt64 >>> ((48 : Int32) &&& 0x3f).toInt64.toUInt64).toInt64).toInt32).toInt8.toInt32))) hq (by rw [hm]; rfl), own_bt, if_neg (fun z => absurd (t5.mpr z) (by omega)), if_pos (t6.mp (by omega))]
    exact own_ite (own_bA _ _ _ _ (by decide) (by omega) (by rw [e, t0, show (((48 : Int32) &&& 0x3f).toInt64.toUInt64).toNat = 48 from by decide]; omega) (by omega))
  · have e := t2 (by omega) (by omega)
    rw [own_w_b (b := (nar .byte ((((jb.toUInt64 >>> ((40 : Int32) &&& 0x3f).toInt64.toUInt64).toInt64).toInt32).toInt8.toInt32))) hq (by rw [hm]; rfl), own_bt, if_neg (fun z => absurd (t5.mpr z) (by omega)), if_pos (t6.mp (by omega))]
    exact own_ite (own_bA _ _ _ _ (by decide) (by omega) (by rw [e, t0, show (((40 : Int32) &&& 0x3f).toInt64.toUInt64).toNat = 40 from by decide]; omega) (by omega))
  · have e := t2 (by omega) (by omega)
    rw [own_w_b (b := (nar .byte ((((jb.toUInt64 >>> ((32 : Int32) &&& 0x3f).toInt64.toUInt64).toInt64).toInt32).toInt8.toInt32))) hq (by rw [hm]; rfl), own_bt, if_neg (fun z => absurd (t5.mpr z) (by omega)), if_pos (t6.mp (by omega))]
    exact own_ite (own_bA _ _ _ _ (by decide) (by omega) (by rw [e, t0, show (((32 : Int32) &&& 0x3f).toInt64.toUInt64).toNat = 32 from by decide]; omega) (by omega))
  · have e := t2 (by omega) (by omega)
    rw [own_w_b (b := (nar .byte ((((jb.toUInt64 >>> ((24 : Int32) &&& 0x3f).toInt64.toUInt64).toInt64).toInt32).toInt8.toInt32))) hq (by rw [hm]; rfl), own_bt, if_neg (fun z => absurd (t5.mpr z) (by omega)), if_pos (t6.mp (by omega))]
    exact own_ite (own_bA _ _ _ _ (by decide) (by omega) (by rw [e, t0, show (((24 : Int32) &&& 0x3f).toInt64.toUInt64).toNat = 24 from by decide]; omega) (by omega))
  · have e := t2 (by omega) (by omega)
    rw [own_w_b (b := (nar .byte ((((jb.toUInt64 >>> ((16 : Int32) &&& 0x3f).toInt64.toUInt64).toInt64).toInt32).toInt8.toInt32))) hq (by rw [hm]; rfl), own_bt, if_neg (fun z => absurd (t5.mpr z) (by omega)), if_pos (t6.mp (by omega))]
    exact own_ite (own_bA _ _ _ _ (by decide) (by omega) (by rw [e, t0, show (((16 : Int32) &&& 0x3f).toInt64.toUInt64).toNat = 16 from by decide]; omega) (by omega))
  · have e := t2 (by omega) (by omega)
    rw [own_w_b (b := (nar .byte ((((jb.toUInt64 >>> ((8 : Int32) &&& 0x3f).toInt64.toUInt64).toInt64).toInt32).toInt8.toInt32))) hq (by rw [hm]; rfl), own_bt, if_neg (fun z => absurd (t5.mpr z) (by omega)), if_pos (t6.mp (by omega))]
    exact own_ite (own_bA _ _ _ _ (by decide) (by omega) (by rw [e, t0, show (((8 : Int32) &&& 0x3f).toInt64.toUInt64).toNat = 8 from by decide]; omega) (by omega))
  · have e := t2 (by omega) (by omega)
    rw [own_w_b (b := (nar .byte ((jb.toInt32).toInt8.toInt32))) hq (by rw [hm]; rfl), own_bt, if_neg (fun z => absurd (t5.mpr z) (by omega)), if_pos (t6.mp (by omega))]
    exact own_ite (own_bZ _ _ _ (by omega) (by rw [e, t0]; omega) (by omega))
  · have e := t3 (by omega) (by omega)
    rw [own_w_b (b := (nar .byte ((((jc.toUInt64 >>> ((56 : Int32) &&& 0x3f).toInt64.toUInt64).toInt64).toInt32).toInt8.toInt32))) hq (by rw [hm]; rfl), own_bt, if_neg (fun z => absurd (t5.mpr z) (by omega)), if_neg (fun z => absurd (t6.mpr z) (by omega)), if_pos (t7.mp (by omega))]
    exact own_ite (own_bA _ _ _ _ (by decide) (by omega) (by rw [e, t0, show (((56 : Int32) &&& 0x3f).toInt64.toUInt64).toNat = 56 from by decide]; omega) (by omega))
  · have e := t3 (by omega) (by omega)
    rw [own_w_b (b := (nar .byte ((((jc.toUInt64 >>> ((48 : Int32) &&& 0x3f).toInt64.toUInt64).toInt64).toInt32).toInt8.toInt32))) hq (by rw [hm]; rfl), own_bt, if_neg (fun z => absurd (t5.mpr z) (by omega)), if_neg (fun z => absurd (t6.mpr z) (by omega)), if_pos (t7.mp (by omega))]
    exact own_ite (own_bA _ _ _ _ (by decide) (by omega) (by rw [e, t0, show (((48 : Int32) &&& 0x3f).toInt64.toUInt64).toNat = 48 from by decide]; omega) (by omega))
  · have e := t3 (by omega) (by omega)
    rw [own_w_b (b := (nar .byte ((((jc.toUInt64 >>> ((40 : Int32) &&& 0x3f).toInt64.toUInt64).toInt64).toInt32).toInt8.toInt32))) hq (by rw [hm]; rfl), own_bt, if_neg (fun z => absurd (t5.mpr z) (by omega)), if_neg (fun z => absurd (t6.mpr z) (by omega)), if_pos (t7.mp (by omega))]
    exact own_ite (own_bA _ _ _ _ (by decide) (by omega) (by rw [e, t0, show (((40 : Int32) &&& 0x3f).toInt64.toUInt64).toNat = 40 from by decide]; omega) (by omega))
  · have e := t3 (by omega) (by omega)
    rw [own_w_b (b := (nar .byte ((((jc.toUInt64 >>> ((32 : Int32) &&& 0x3f).toInt64.toUInt64).toInt64).toInt32).toInt8.toInt32))) hq (by rw [hm]; rfl), own_bt, if_neg (fun z => absurd (t5.mpr z) (by omega)), if_neg (fun z => absurd (t6.mpr z) (by omega)), if_pos (t7.mp (by omega))]
    exact own_ite (own_bA _ _ _ _ (by decide) (by omega) (by rw [e, t0, show (((32 : Int32) &&& 0x3f).toInt64.toUInt64).toNat = 32 from by decide]; omega) (by omega))
  · have e := t3 (by omega) (by omega)
    rw [own_w_b (b := (nar .byte ((((jc.toUInt64 >>> ((24 : Int32) &&& 0x3f).toInt64.toUInt64).toInt64).toInt32).toInt8.toInt32))) hq (by rw [hm]; rfl), own_bt, if_neg (fun z => absurd (t5.mpr z) (by omega)), if_neg (fun z => absurd (t6.mpr z) (by omega)), if_pos (t7.mp (by omega))]
    exact own_ite (own_bA _ _ _ _ (by decide) (by omega) (by rw [e, t0, show (((24 : Int32) &&& 0x3f).toInt64.toUInt64).toNat = 24 from by decide]; omega) (by omega))
  · have e := t3 (by omega) (by omega)
    rw [own_w_b (b := (nar .byte ((((jc.toUInt64 >>> ((16 : Int32) &&& 0x3f).toInt64.toUInt64).toInt64).toInt32).toInt8.toInt32))) hq (by rw [hm]; rfl), own_bt, if_neg (fun z => absurd (t5.mpr z) (by omega)), if_neg (fun z => absurd (t6.mpr z) (by omega)), if_pos (t7.mp (by omega))]
    exact own_ite (own_bA _ _ _ _ (by decide) (by omega) (by rw [e, t0, show (((16 : Int32) &&& 0x3f).toInt64.toUInt64).toNat = 16 from by decide]; omega) (by omega))
  · have e := t3 (by omega) (by omega)
    rw [own_w_b (b := (nar .byte ((((jc.toUInt64 >>> ((8 : Int32) &&& 0x3f).toInt64.toUInt64).toInt64).toInt32).toInt8.toInt32))) hq (by rw [hm]; rfl), own_bt, if_neg (fun z => absurd (t5.mpr z) (by omega)), if_neg (fun z => absurd (t6.mpr z) (by omega)), if_pos (t7.mp (by omega))]
    exact own_ite (own_bA _ _ _ _ (by decide) (by omega) (by rw [e, t0, show (((8 : Int32) &&& 0x3f).toInt64.toUInt64).toNat = 8 from by decide]; omega) (by omega))
  · have e := t3 (by omega) (by omega)
    rw [own_w_b (b := (nar .byte ((jc.toInt32).toInt8.toInt32))) hq (by rw [hm]; rfl), own_bt, if_neg (fun z => absurd (t5.mpr z) (by omega)), if_neg (fun z => absurd (t6.mpr z) (by omega)), if_pos (t7.mp (by omega))]
    exact own_ite (own_bZ _ _ _ (by omega) (by rw [e, t0]; omega) (by omega))
  · have e := t4 (by omega)
    rw [own_w_b (b := (nar .byte ((dd.toUInt32 >>> ((24 : Int32) &&& 31).toUInt32).toInt32).toInt8.toInt32)) hq (by rw [hm]; rfl), own_bt, if_neg (fun z => absurd (t5.mpr z) (by omega)), if_neg (fun z => absurd (t6.mpr z) (by omega)), if_neg (fun z => absurd (t7.mpr z) (by omega))]
    exact own_ite (own_bD _ _ _ _ (by decide) (by omega) (by rw [e, t0, show (((24 : Int32) &&& 31).toUInt32).toNat = 24 from by decide]; omega) (by omega))
  · have e := t4 (by omega)
    rw [own_w_b (b := (nar .byte ((dd.toUInt32 >>> ((16 : Int32) &&& 31).toUInt32).toInt32).toInt8.toInt32)) hq (by rw [hm]; rfl), own_bt, if_neg (fun z => absurd (t5.mpr z) (by omega)), if_neg (fun z => absurd (t6.mpr z) (by omega)), if_neg (fun z => absurd (t7.mpr z) (by omega))]
    exact own_ite (own_bD _ _ _ _ (by decide) (by omega) (by rw [e, t0, show (((16 : Int32) &&& 31).toUInt32).toNat = 16 from by decide]; omega) (by omega))
set_option maxHeartbeats 4000000 in
theorem own_w8 (ja jb jc : Int64) (dd : Int32) {k : Nat} (hk : k < 64) : own_w (own_cb8 ja) k = own_bt ja jb jc dd (Int32.ofNat k) := by
  obtain ⟨t0, t1, t2, t3, t4, t5, t6, t7, t8, t9⟩ := own_tt ⟨k, by omega⟩
  dsimp only at t0 t1 t2 t3 t4 t5 t6 t7 t8 t9
  have hl : (own_cb8 ja).length = 8 := rfl
  have hq : Int32.ofNat k < Int32.ofNat (own_cb8 ja).length * 8 := by rw [hl]; exact (t9.mp hk)
  have hm : k / 8 = 0 ∨ k / 8 = 1 ∨ k / 8 = 2 ∨ k / 8 = 3 ∨ k / 8 = 4 ∨ k / 8 = 5 ∨ k / 8 = 6 ∨ k / 8 = 7 := by omega
  rcases hm with hm | hm | hm | hm | hm | hm | hm | hm
  · have e := t1 (by omega) (by omega)
    rw [own_w_b (b := (nar .byte ((((ja.toUInt64 >>> ((56 : Int32) &&& 0x3f).toInt64.toUInt64).toInt64).toInt32).toInt8.toInt32))) hq (by rw [hm]; rfl), own_bt, if_pos (t5.mp (by omega))]
    exact own_ite (own_bA _ _ _ _ (by decide) (by omega) (by rw [e, t0, show (((56 : Int32) &&& 0x3f).toInt64.toUInt64).toNat = 56 from by decide]; omega) (by omega))
  · have e := t1 (by omega) (by omega)
    rw [own_w_b (b := (nar .byte ((((ja.toUInt64 >>> ((48 : Int32) &&& 0x3f).toInt64.toUInt64).toInt64).toInt32).toInt8.toInt32))) hq (by rw [hm]; rfl), own_bt, if_pos (t5.mp (by omega))]
    exact own_ite (own_bA _ _ _ _ (by decide) (by omega) (by rw [e, t0, show (((48 : Int32) &&& 0x3f).toInt64.toUInt64).toNat = 48 from by decide]; omega) (by omega))
  · have e := t1 (by omega) (by omega)
    rw [own_w_b (b := (nar .byte ((((ja.toUInt64 >>> ((40 : Int32) &&& 0x3f).toInt64.toUInt64).toInt64).toInt32).toInt8.toInt32))) hq (by rw [hm]; rfl), own_bt, if_pos (t5.mp (by omega))]
    exact own_ite (own_bA _ _ _ _ (by decide) (by omega) (by rw [e, t0, show (((40 : Int32) &&& 0x3f).toInt64.toUInt64).toNat = 40 from by decide]; omega) (by omega))
  · have e := t1 (by omega) (by omega)
    rw [own_w_b (b := (nar .byte ((((ja.toUInt64 >>> ((32 : Int32) &&& 0x3f).toInt64.toUInt64).toInt64).toInt32).toInt8.toInt32))) hq (by rw [hm]; rfl), own_bt, if_pos (t5.mp (by omega))]
    exact own_ite (own_bA _ _ _ _ (by decide) (by omega) (by rw [e, t0, show (((32 : Int32) &&& 0x3f).toInt64.toUInt64).toNat = 32 from by decide]; omega) (by omega))
  · have e := t1 (by omega) (by omega)
    rw [own_w_b (b := (nar .byte ((((ja.toUInt64 >>> ((24 : Int32) &&& 0x3f).toInt64.toUInt64).toInt64).toInt32).toInt8.toInt32))) hq (by rw [hm]; rfl), own_bt, if_pos (t5.mp (by omega))]
    exact own_ite (own_bA _ _ _ _ (by decide) (by omega) (by rw [e, t0, show (((24 : Int32) &&& 0x3f).toInt64.toUInt64).toNat = 24 from by decide]; omega) (by omega))
  · have e := t1 (by omega) (by omega)
    rw [own_w_b (b := (nar .byte ((((ja.toUInt64 >>> ((16 : Int32) &&& 0x3f).toInt64.toUInt64).toInt64).toInt32).toInt8.toInt32))) hq (by rw [hm]; rfl), own_bt, if_pos (t5.mp (by omega))]
    exact own_ite (own_bA _ _ _ _ (by decide) (by omega) (by rw [e, t0, show (((16 : Int32) &&& 0x3f).toInt64.toUInt64).toNat = 16 from by decide]; omega) (by omega))
  · have e := t1 (by omega) (by omega)
    rw [own_w_b (b := (nar .byte ((((ja.toUInt64 >>> ((8 : Int32) &&& 0x3f).toInt64.toUInt64).toInt64).toInt32).toInt8.toInt32))) hq (by rw [hm]; rfl), own_bt, if_pos (t5.mp (by omega))]
    exact own_ite (own_bA _ _ _ _ (by decide) (by omega) (by rw [e, t0, show (((8 : Int32) &&& 0x3f).toInt64.toUInt64).toNat = 8 from by decide]; omega) (by omega))
  · have e := t1 (by omega) (by omega)
    rw [own_w_b (b := (nar .byte ((ja.toInt32).toInt8.toInt32))) hq (by rw [hm]; rfl), own_bt, if_pos (t5.mp (by omega))]
    exact own_ite (own_bZ _ _ _ (by omega) (by rw [e, t0]; omega) (by omega))
theorem own_w8n (ja : Int64) {k : Nat} (hk : k < 208) (q : ¬ Int32.ofNat k < 64) : own_w (own_cb8 ja) k = 0 := by
  rw [own_w, if_neg]
  exact q
def own_prow (k : Int32) : Int32 :=
  if k < 96 then (if k / 24 % 2 = 0 then 20 - k % 24 / 2 else 9 + k % 24 / 2) else
  if k < 176 then (if (k - 96) / 40 = 0 then (if (k - 96) % 40 / 2 < 14 then 20 - (k - 96) % 40 / 2 else 19 - (k - 96) % 40 / 2) else (if (k - 96) % 40 / 2 < 6 then (k - 96) % 40 / 2 else (k - 96) % 40 / 2 + 1)) else
  (if (k - 176) / 8 % 2 = 0 then 12 - (k - 176) % 8 / 2 else 9 + (k - 176) % 8 / 2)
def own_pb (q : Int32) : Int32 := if q = 0 then 8 else if q = 1 then 5 else if q = 2 then 3 else 1
def own_pcol (k : Int32) : Int32 :=
  if k < 96 then 20 - 2 * (k / 24) - k % 24 % 2 else if k < 176 then 12 - 2 * ((k - 96) / 40) - (k - 96) % 40 % 2 else own_pb ((k - 176) / 8) - (k - 176) % 8 % 2
def own_pos (k : Int32) : Int32 := own_prow k * 21 + own_pcol k
def own_chk1 : Bool :=
  match own_ct 441 1 21 with
  | none => false
  | some st => match own_p1 441 st.1 21 12 (21 - 1) 1 (own_l0 st.2.1 441, 0) with
    | none => false
    | some pt => decide (pt.1[281]? = some 1) && decide (pt.1[138]? = some 1) && decide (pt.1[20]? = some 1) &&
      (List.range 208).all fun k => decide (¬ (own_pos (Int32.ofNat k) < 0 ∨ 441 ≤ (own_pos (Int32.ofNat k)).toNatClampNeg)) && decide (pt.1[(own_pos (Int32.ofNat k)).toNatClampNeg]? = some (k + 2))
set_option maxRecDepth 100000 in
theorem own_chk1_t : own_chk1 = true := by decide +kernel
theorem own_fin : ∃ (st : own_St) (pt : own_Pt), own_ct 441 1 21 = some st ∧ own_p1 441 st.1 21 12 (21 - 1) 1 (own_l0 st.2.1 441, 0) = some pt ∧ pt.1[281]? = some 1 ∧ pt.1[138]? = some 1 ∧ pt.1[20]? = some 1 ∧
    ∀ k, k < 208 → ¬ (own_pos (Int32.ofNat k) < 0 ∨ 441 ≤ (own_pos (Int32.ofNat k)).toNatClampNeg) ∧ pt.1[(own_pos (Int32.ofNat k)).toNatClampNeg]? = some (k + 2) := by
  have h := own_chk1_t
  unfold own_chk1 at h
  split at h
  · cases h
  · rename_i st e1
    split at h
    · cases h
    · rename_i pt e2
      simp only [Bool.and_eq_true, decide_eq_true_eq, List.all_eq_true, List.mem_range] at h
      obtain ⟨⟨⟨h1, h2⟩, h3⟩, h4⟩ := h
      exact ⟨st, pt, e1, e2, h1, h2, h3, h4⟩
theorem own_iv1 (cb : List Int32) : own_iv cb 1 = .int 1 := rfl
theorem own_iv2 (cb : List Int32) (t : Nat) : own_iv cb (t + 2) = .int (own_w cb t) := by
  unfold own_iv own_io
  rw [if_neg (by omega), if_neg (by omega)]; rfl
theorem own_bt01 (ja jb jc : Int64) (dd k : Int32) : own_bt ja jb jc dd k = 0 ∨ own_bt ja jb jc dd k = 1 := by
  unfold own_bt
  split
  · split <;> simp
  · split
    · split <;> simp
    · split
      · split <;> simp
      · split <;> simp
theorem dAb_0 : Fet jdk_29_method_59_code 0 1 (.iload_n 0) 1 := ⟨by decide +kernel, rfl⟩
theorem dAb_1 : Brn jdk_29_method_59_code 1 4 9 (.ifCond .ge 8) 8 := ⟨by decide +kernel, rfl, by decide, by decide⟩
theorem dAb_9 : Fet jdk_29_method_59_code 9 10 (.iload_n 0) 1 := ⟨by decide +kernel, rfl⟩
theorem dAb_10 : Fet jdk_29_method_59_code 10 11 (.ireturn) 1 := ⟨by decide +kernel, rfl⟩
theorem dAb_4 : Fet jdk_29_method_59_code 4 5 (.iload_n 0) 1 := ⟨by decide +kernel, rfl⟩
theorem dAb_5 : Fet jdk_29_method_59_code 5 6 (.ineg) 1 := ⟨by decide +kernel, rfl⟩
theorem dAb_6 : Brn jdk_29_method_59_code 6 9 10 (.goto 4) 4 := ⟨by decide +kernel, rfl, by decide, by decide⟩
set_option maxRecDepth 65536 in
set_option maxHeartbeats 4000000 in
theorem rmAbs (l : Launch) (Z : State) (a0 : Array Value) (hw : ∀ d ∈ tables_1, d.before a0 Z = true) (n0 : Nat) (x : Int32) (h : Heap) :
    ConV l Z n0 (⟨"java/lang/Math", "abs", "(I)I"⟩ : MethodName) jdk_29_method_59_code 1 (some .int) [] ({ frames := 0, cells := 0, slots := 0, locals := 0 } : Room) #[(.int x)] h (fun w h' => w = .int (own_abs x) ∧ h = h') := by
  refine con_of_wp (Ls := #[.val (.int x)]) (by decide +kernel) (fun m => by first | (simp [entryFrame, mkF, argsToLocals, Value.category]; done) | rfl) ?_
  intro K ok
  replace ok : Ok Z K jdk_29_method_59_code "java/lang/Math" "abs" 1 (some .int) := ok
  show Wp l ({ frames := 0, cells := 0, slots := 0, locals := 0 } : Room) n0 K (fun v h' => ∃ w, v = some w ∧ w = .int (own_abs x) ∧ h = h') h 0 0 0 #[.val (.int x)] []
  refine w_iloadN ok dAb_0 rfl ?_
  refine w_if_ge ok dAb_1 (fun q => ?_) (fun q => ?_)
  · refine w_iloadN ok dAb_9 rfl ?_
    refine w_ireturnI ok dAb_10 (Nat.le_of_ble_eq_true rfl) (Nat.le_of_ble_eq_true rfl) ?_
    exact ⟨_, rfl, by rw [show own_abs x = x by simp [own_abs, q]], rfl⟩
  · refine w_iloadN ok dAb_4 rfl ?_
    refine w_ineg ok dAb_5 ?_
    refine w_goto ok dAb_6 ?_
    refine w_ireturnI ok dAb_10 (Nat.le_of_ble_eq_true rfl) (Nat.le_of_ble_eq_true rfl) ?_
    exact ⟨_, rfl, by rw [show own_abs x = -x by simp [own_abs, q]], rfl⟩
theorem dMx_0 : Fet jdk_29_method_65_code 0 1 (.iload_n 0) 1 := ⟨by decide +kernel, rfl⟩
theorem dMx_1 : Fet jdk_29_method_65_code 1 2 (.iload_n 1) 1 := ⟨by decide +kernel, rfl⟩
theorem dMx_2 : Brn jdk_29_method_65_code 2 5 9 (.if_icmp .lt 7) 7 := ⟨by decide +kernel, rfl, by decide, by decide⟩
theorem dMx_9 : Fet jdk_29_method_65_code 9 10 (.iload_n 1) 1 := ⟨by decide +kernel, rfl⟩
theorem dMx_10 : Fet jdk_29_method_65_code 10 11 (.ireturn) 1 := ⟨by decide +kernel, rfl⟩
theorem dMx_5 : Fet jdk_29_method_65_code 5 6 (.iload_n 0) 1 := ⟨by decide +kernel, rfl⟩
theorem dMx_6 : Brn jdk_29_method_65_code 6 9 10 (.goto 4) 4 := ⟨by decide +kernel, rfl, by decide, by decide⟩
set_option maxRecDepth 65536 in
set_option maxHeartbeats 4000000 in
theorem rmMax (l : Launch) (Z : State) (a0 : Array Value) (hw : ∀ d ∈ tables_1, d.before a0 Z = true) (n0 : Nat) (x y : Int32) (h : Heap) :
    ConV l Z n0 (⟨"java/lang/Math", "max", "(II)I"⟩ : MethodName) jdk_29_method_65_code 2 (some .int) [] ({ frames := 0, cells := 0, slots := 0, locals := 0 } : Room) #[(.int x), (.int y)] h (fun w h' => w = .int (own_max x y) ∧ h = h') := by
  refine con_of_wp (Ls := #[.val (.int x), .val (.int y)]) (by decide +kernel) (fun m => by first | (simp [entryFrame, mkF, argsToLocals, Value.category]; done) | rfl) ?_
  intro K ok
  replace ok : Ok Z K jdk_29_method_65_code "java/lang/Math" "max" 2 (some .int) := ok
  show Wp l ({ frames := 0, cells := 0, slots := 0, locals := 0 } : Room) n0 K (fun v h' => ∃ w, v = some w ∧ w = .int (own_max x y) ∧ h = h') h 0 0 0 #[.val (.int x), .val (.int y)] []
  refine w_iloadN ok dMx_0 rfl ?_
  refine w_iloadN ok dMx_1 rfl ?_
  refine w_ic_lt ok dMx_2 (fun q => ?_) (fun q => ?_)
  · refine w_iloadN ok dMx_9 rfl ?_
    refine w_ireturnI ok dMx_10 (Nat.le_of_ble_eq_true rfl) (Nat.le_of_ble_eq_true rfl) ?_
    exact ⟨_, rfl, by rw [show own_max x y = y by simp [own_max, q]], rfl⟩
  · refine w_iloadN ok dMx_5 rfl ?_
    refine w_goto ok dMx_6 ?_
    refine w_ireturnI ok dMx_10 (Nat.le_of_ble_eq_true rfl) (Nat.le_of_ble_eq_true rfl) ?_
    exact ⟨_, rfl, by rw [show own_max x y = x by simp [own_max, q]], rfl⟩
theorem dDF_0 : Fet prog_33_method_16_code 0 1 (.aload_n 0) 1 := ⟨by decide +kernel, rfl⟩
theorem dDF_1 : Fet prog_33_method_16_code 1 4 (.getfield 19) 3 := ⟨by decide +kernel, rfl⟩
theorem dDF_4 : Fet prog_33_method_16_code 4 5 (.iload_n 1) 1 := ⟨by decide +kernel, rfl⟩
theorem dDF_5 : Fet prog_33_method_16_code 5 6 (.aload_n 0) 1 := ⟨by decide +kernel, rfl⟩
theorem dDF_6 : Fet prog_33_method_16_code 6 9 (.getfield 17) 3 := ⟨by decide +kernel, rfl⟩
theorem dDF_9 : Fet prog_33_method_16_code 9 10 (.imul) 1 := ⟨by decide +kernel, rfl⟩
theorem dDF_10 : Fet prog_33_method_16_code 10 11 (.iload_n 2) 1 := ⟨by decide +kernel, rfl⟩
theorem dDF_11 : Fet prog_33_method_16_code 11 12 (.iadd) 1 := ⟨by decide +kernel, rfl⟩
theorem dDF_12 : Fet prog_33_method_16_code 12 13 (.iload_n 3) 1 := ⟨by decide +kernel, rfl⟩
theorem dDF_13 : Fet prog_33_method_16_code 13 14 (.bastore) 1 := ⟨by decide +kernel, rfl⟩
theorem dDF_14 : Fet prog_33_method_16_code 14 15 (.aload_n 0) 1 := ⟨by decide +kernel, rfl⟩
theorem dDF_15 : Fet prog_33_method_16_code 15 18 (.getfield 23) 3 := ⟨by decide +kernel, rfl⟩
theorem dDF_18 : Fet prog_33_method_16_code 18 19 (.iload_n 1) 1 := ⟨by decide +kernel, rfl⟩
theorem dDF_19 : Fet prog_33_method_16_code 19 20 (.aload_n 0) 1 := ⟨by decide +kernel, rfl⟩
theorem dDF_20 : Fet prog_33_method_16_code 20 23 (.getfield 17) 3 := ⟨by decide +kernel, rfl⟩
theorem dDF_23 : Fet prog_33_method_16_code 23 24 (.imul) 1 := ⟨by decide +kernel, rfl⟩
theorem dDF_24 : Fet prog_33_method_16_code 24 25 (.iload_n 2) 1 := ⟨by decide +kernel, rfl⟩
theorem dDF_25 : Fet prog_33_method_16_code 25 26 (.iadd) 1 := ⟨by decide +kernel, rfl⟩
theorem dDF_26 : Fet prog_33_method_16_code 26 27 (.iconst 1) 1 := ⟨by decide +kernel, rfl⟩
theorem dDF_27 : Fet prog_33_method_16_code 27 28 (.bastore) 1 := ⟨by decide +kernel, rfl⟩
theorem dDF_28 : Fet prog_33_method_16_code 28 29 (.return_) 1 := ⟨by decide +kernel, rfl⟩
theorem pn_com_example_tickstep_tickstep_encoding_QrMatrix : plainName "com/example/tickstep/tickstep/encoding/QrMatrix" = true := by first | (simp [plainName, overriddenIn]; done) | decide +kernel
set_option maxRecDepth 65536 in
set_option maxHeartbeats 4000000 in
theorem rmDF (l : Launch) (Z : State) (a0 : Array Value) (hw : ∀ d ∈ tables_1, d.before a0 Z = true) (n0 : Nat) (hb : Heap) (a ad af : Addr) (ver size : Int32) (N : Nat) (r c z : Int32) (st st' : own_St) (h : Heap) (M : own_Mat Z n0 hb h a ver size ad af N st) (hm : own_draw N st (r * size + c) z = some st') :
    ConN l Z n0 (⟨"com/example/tickstep/tickstep/encoding/QrMatrix", "drawFunction", "(IIZ)V"⟩ : MethodName) prog_33_method_16_code 4 none [] ({ frames := 0, cells := 0, slots := 0, locals := 0 } : Room) #[(.ref a), (.int r), (.int c), (.int z)] h (fun h' => Keep h h' [ad, af] ∧ own_Mat Z n0 hb h' a ver size ad af N st') := by
  refine con_of_wp (Ls := #[.val (.ref a), .val (.int r), .val (.int c), .val (.int z)]) (plainFor_of_name pn_com_example_tickstep_tickstep_encoding_QrMatrix) (fun m => by first | (simp [entryFrame, mkF, argsToLocals, Value.category]; done) | rfl) ?_
  intro K ok
  replace ok : Ok Z K prog_33_method_16_code "com/example/tickstep/tickstep/encoding/QrMatrix" "drawFunction" 4 none := ok
  show Wp l ({ frames := 0, cells := 0, slots := 0, locals := 0 } : Room) n0 K (fun v h' => v = none ∧ Keep h h' [ad, af] ∧ own_Mat Z n0 hb h' a ver size ad af N st') h 0 0 0 #[.val (.ref a), .val (.int r), .val (.int c), .val (.int z)] []
  obtain ⟨hj, rfl⟩ := own_draw_some hm
  obtain ⟨Z0, E_a, F_version, F_size, F_dark, F_function, A_d, A_f, ⟨gn_ad, gn_af, nda, na1, na2⟩, hpc, Kb⟩ := id M
  have Kp : Keep h h [ad, af] := Keep.refl _ _
  refine w_aloadN ok dDF_0 rfl rfl ?_
  refine w_getfield ok (host := "") (Or.inl (hw _ (List.mem_of_getElem? (i := 19) rfl))) Via.refl F_dark dDF_1 ?_
  refine w_iloadN ok dDF_4 rfl ?_
  refine w_aloadN ok dDF_5 rfl rfl ?_
  refine w_getfield ok (host := "") (Or.inl (hw _ (List.mem_of_getElem? (i := 16) rfl))) Via.refl F_size dDF_6 ?_
  refine w_imul ok dDF_9 ?_
  refine w_iloadN ok dDF_10 rfl ?_
  refine w_iadd ok dDF_11 ?_
  refine w_iloadN ok dDF_12 rfl ?_
  refine w_bastoreZJ ok A_d (by rw [own_vals_len]; exact hj) gn_ad dDF_13 (fun h1 W1 A_d => ?_)
  have E_a := E_a.wr W1
  have F_version := F_version.other W1 (Or.inl na1)
  have F_size := F_size.other W1 (Or.inl na1)
  have F_dark := F_dark.other W1 (Or.inl na1)
  have F_function := F_function.other W1 (Or.inl na1)
  have A_f := A_f.other W1 nda.symm
  have Z0 := Nat.le_trans Z0 (Keep.of_wr W1).1
  have Kp := Kp.wr W1 (Or.inl (List.mem_of_getElem? (i := 0) rfl))
  replace A_d := A_d.cast (own_vals_put (own_lt hj))
  refine w_aloadN ok dDF_14 rfl rfl ?_
  refine w_getfield ok (host := "") (Or.inl (hw _ (List.mem_of_getElem? (i := 21) rfl))) Via.refl F_function dDF_15 ?_
  refine w_iloadN ok dDF_18 rfl ?_
  refine w_aloadN ok dDF_19 rfl rfl ?_
  refine w_getfield ok (host := "") (Or.inl (hw _ (List.mem_of_getElem? (i := 16) rfl))) Via.refl F_size dDF_20 ?_
  refine w_imul ok dDF_23 ?_
  refine w_iloadN ok dDF_24 rfl ?_
  refine w_iadd ok dDF_25 ?_
  refine w_iconst ok (z := 1) dDF_26 rfl ?_
  refine w_bastoreZJ ok A_f (by rw [own_vals_len]; exact hj) gn_af dDF_27 (fun h2 W2 A_f => ?_)
  have E_a := E_a.wr W2
  have F_version := F_version.other W2 (Or.inl na2)
  have F_size := F_size.other W2 (Or.inl na2)
  have F_dark := F_dark.other W2 (Or.inl na2)
  have F_function := F_function.other W2 (Or.inl na2)
  have A_d := A_d.other W2 nda
  have Z0 := Nat.le_trans Z0 (Keep.of_wr W2).1
  have Kp := Kp.wr W2 (Or.inl (List.mem_of_getElem? (i := 1) rfl))
  replace A_f := A_f.cast (show _ = own_vals (st.1 ||| (1 <<< (r * size + c).toNatClampNeg)) N from own_vals_set1 (own_lt hj))
  refine w_return ok dDF_28 (Nat.le_of_ble_eq_true rfl) (Nat.le_of_ble_eq_true rfl) ?_
  exact ⟨rfl, Kp, Z0, E_a, F_version, F_size, F_dark, F_function, A_d, A_f, ⟨gn_ad, gn_af, nda, na1, na2⟩, own_pc_draw (own_lt hj) hpc, Kb.trans Kp (allS (Or.inl (List.mem_of_getElem? (i := 1) rfl)) (allS (Or.inl (List.mem_of_getElem? (i := 2) rfl)) all0))⟩
theorem dFi_0 : Fet prog_33_method_10_code 0 1 (.iload_n 1) 1 := ⟨by decide +kernel, rfl⟩
theorem dFi_1 : Fet prog_33_method_10_code 1 2 (.iconst 1) 1 := ⟨by decide +kernel, rfl⟩
theorem dFi_2 : Fet prog_33_method_10_code 2 3 (.isub) 1 := ⟨by decide +kernel, rfl⟩
theorem dFi_3 : Fet prog_33_method_10_code 3 4 (.istore_n 3) 1 := ⟨by decide +kernel, rfl⟩
theorem dFi_17 : Fet prog_33_method_10_code 17 19 (.iload 4) 2 := ⟨by decide +kernel, rfl⟩
theorem dFi_19 : Fet prog_33_method_10_code 19 20 (.iload_n 2) 1 := ⟨by decide +kernel, rfl⟩
theorem dFi_20 : Fet prog_33_method_10_code 20 22 (.bipush 7) 2 := ⟨by decide +kernel, rfl⟩
theorem dFi_22 : Fet prog_33_method_10_code 22 23 (.iadd) 1 := ⟨by decide +kernel, rfl⟩
theorem dFi_23 : Brn prog_33_method_10_code 23 26 107 (.if_icmp .gt 84) 84 := ⟨by decide +kernel, rfl, by decide, by decide⟩
theorem dFi_107 : Fet prog_33_method_10_code 107 110 (.iinc 3 1) 3 := ⟨by decide +kernel, rfl⟩
theorem dFi_110 : Brn prog_33_method_10_code 110 113 4 (.goto (-106)) (-106) := ⟨by decide +kernel, rfl, by decide, by decide⟩
theorem dFi_26 : Fet prog_33_method_10_code 26 27 (.iload_n 3) 1 := ⟨by decide +kernel, rfl⟩
theorem dFi_27 : Brn prog_33_method_10_code 27 30 101 (.ifCond .lt 74) 74 := ⟨by decide +kernel, rfl, by decide, by decide⟩
theorem dFi_101 : Fet prog_33_method_10_code 101 104 (.iinc 4 1) 3 := ⟨by decide +kernel, rfl⟩
theorem dFi_104 : Brn prog_33_method_10_code 104 107 17 (.goto (-87)) (-87) := ⟨by decide +kernel, rfl, by decide, by decide⟩
theorem dFi_30 : Fet prog_33_method_10_code 30 31 (.iload_n 3) 1 := ⟨by decide +kernel, rfl⟩
theorem dFi_31 : Fet prog_33_method_10_code 31 32 (.aload_n 0) 1 := ⟨by decide +kernel, rfl⟩
theorem dFi_32 : Fet prog_33_method_10_code 32 35 (.getfield 17) 3 := ⟨by decide +kernel, rfl⟩
theorem dFi_35 : Brn prog_33_method_10_code 35 38 101 (.if_icmp .ge 66) 66 := ⟨by decide +kernel, rfl, by decide, by decide⟩
theorem dFi_38 : Fet prog_33_method_10_code 38 40 (.iload 4) 2 := ⟨by decide +kernel, rfl⟩
theorem dFi_40 : Brn prog_33_method_10_code 40 43 101 (.ifCond .lt 61) 61 := ⟨by decide +kernel, rfl, by decide, by decide⟩
theorem dFi_43 : Fet prog_33_method_10_code 43 45 (.iload 4) 2 := ⟨by decide +kernel, rfl⟩
theorem dFi_45 : Fet prog_33_method_10_code 45 46 (.aload_n 0) 1 := ⟨by decide +kernel, rfl⟩
theorem dFi_46 : Fet prog_33_method_10_code 46 49 (.getfield 17) 3 := ⟨by decide +kernel, rfl⟩
theorem dFi_49 : Brn prog_33_method_10_code 49 52 55 (.if_icmp .lt 6) 6 := ⟨by decide +kernel, rfl, by decide, by decide⟩
theorem dFi_52 : Brn prog_33_method_10_code 52 55 101 (.goto 49) 49 := ⟨by decide +kernel, rfl, by decide, by decide⟩
theorem dFi_55 : Fet prog_33_method_10_code 55 56 (.iload_n 3) 1 := ⟨by decide +kernel, rfl⟩
theorem dFi_56 : Fet prog_33_method_10_code 56 57 (.iload_n 1) 1 := ⟨by decide +kernel, rfl⟩
theorem dFi_57 : Fet prog_33_method_10_code 57 58 (.isub) 1 := ⟨by decide +kernel, rfl⟩
theorem dFi_58 : Fet prog_33_method_10_code 58 59 (.iconst 3) 1 := ⟨by decide +kernel, rfl⟩
theorem dFi_59 : Fet prog_33_method_10_code 59 60 (.isub) 1 := ⟨by decide +kernel, rfl⟩
theorem dFi_60 : Fet prog_33_method_10_code 60 63 (.invokestatic 86) 3 := ⟨by decide +kernel, rfl⟩
theorem pd__I_I : parseMethodDescriptor "(I)I" = some ⟨[.int], some .int⟩ := by decide +kernel
theorem dFi_63 : Fet prog_33_method_10_code 63 65 (.iload 4) 2 := ⟨by decide +kernel, rfl⟩
theorem dFi_65 : Fet prog_33_method_10_code 65 66 (.iload_n 2) 1 := ⟨by decide +kernel, rfl⟩
theorem dFi_66 : Fet prog_33_method_10_code 66 67 (.isub) 1 := ⟨by decide +kernel, rfl⟩
theorem dFi_67 : Fet prog_33_method_10_code 67 68 (.iconst 3) 1 := ⟨by decide +kernel, rfl⟩
theorem dFi_68 : Fet prog_33_method_10_code 68 69 (.isub) 1 := ⟨by decide +kernel, rfl⟩
theorem dFi_69 : Fet prog_33_method_10_code 69 72 (.invokestatic 86) 3 := ⟨by decide +kernel, rfl⟩
theorem dFi_72 : Fet prog_33_method_10_code 72 75 (.invokestatic 91) 3 := ⟨by decide +kernel, rfl⟩
theorem pd__II_I : parseMethodDescriptor "(II)I" = some ⟨[.int, .int], some .int⟩ := by decide +kernel
theorem dFi_75 : Fet prog_33_method_10_code 75 77 (.istore 5) 2 := ⟨by decide +kernel, rfl⟩
theorem dFi_98 : Fet prog_33_method_10_code 98 101 (.invokevirtual 33) 3 := ⟨by decide +kernel, rfl⟩
theorem pd__IIZ_V : parseMethodDescriptor "(IIZ)V" = some ⟨[.int, .int, .boolean], none⟩ := by decide +kernel
theorem dFi_77 : Fet prog_33_method_10_code 77 78 (.aload_n 0) 1 := ⟨by decide +kernel, rfl⟩
theorem dFi_78 : Fet prog_33_method_10_code 78 79 (.iload_n 3) 1 := ⟨by decide +kernel, rfl⟩
theorem dFi_79 : Fet prog_33_method_10_code 79 81 (.iload 4) 2 := ⟨by decide +kernel, rfl⟩
theorem dFi_81 : Fet prog_33_method_10_code 81 83 (.iload 5) 2 := ⟨by decide +kernel, rfl⟩
theorem dFi_83 : Fet prog_33_method_10_code 83 84 (.iconst 2) 1 := ⟨by decide +kernel, rfl⟩
theorem dFi_84 : Brn prog_33_method_10_code 84 87 97 (.if_icmp .eq 13) 13 := ⟨by decide +kernel, rfl, by decide, by decide⟩
theorem dFi_97 : Fet prog_33_method_10_code 97 98 (.iconst 0) 1 := ⟨by decide +kernel, rfl⟩
theorem dFi_87 : Fet prog_33_method_10_code 87 89 (.iload 5) 2 := ⟨by decide +kernel, rfl⟩
theorem dFi_89 : Fet prog_33_method_10_code 89 90 (.iconst 4) 1 := ⟨by decide +kernel, rfl⟩
theorem dFi_90 : Brn prog_33_method_10_code 90 93 97 (.if_icmp .eq 7) 7 := ⟨by decide +kernel, rfl, by decide, by decide⟩
theorem dFi_93 : Fet prog_33_method_10_code 93 94 (.iconst 1) 1 := ⟨by decide +kernel, rfl⟩
theorem dFi_94 : Brn prog_33_method_10_code 94 97 98 (.goto 4) 4 := ⟨by decide +kernel, rfl, by decide, by decide⟩
theorem dFi_4 : Fet prog_33_method_10_code 4 5 (.iload_n 3) 1 := ⟨by decide +kernel, rfl⟩
theorem dFi_5 : Fet prog_33_method_10_code 5 6 (.iload_n 1) 1 := ⟨by decide +kernel, rfl⟩
theorem dFi_6 : Fet prog_33_method_10_code 6 8 (.bipush 7) 2 := ⟨by decide +kernel, rfl⟩
theorem dFi_8 : Fet prog_33_method_10_code 8 9 (.iadd) 1 := ⟨by decide +kernel, rfl⟩
theorem dFi_9 : Brn prog_33_method_10_code 9 12 113 (.if_icmp .gt 104) 104 := ⟨by decide +kernel, rfl, by decide, by decide⟩
theorem dFi_113 : Fet prog_33_method_10_code 113 114 (.return_) 1 := ⟨by decide +kernel, rfl⟩
theorem dFi_12 : Fet prog_33_method_10_code 12 13 (.iload_n 2) 1 := ⟨by decide +kernel, rfl⟩
theorem dFi_13 : Fet prog_33_method_10_code 13 14 (.iconst 1) 1 := ⟨by decide +kernel, rfl⟩
theorem dFi_14 : Fet prog_33_method_10_code 14 15 (.isub) 1 := ⟨by decide +kernel, rfl⟩
theorem dFi_15 : Fet prog_33_method_10_code 15 17 (.istore 4) 2 := ⟨by decide +kernel, rfl⟩
set_option maxRecDepth 65536 in
set_option maxHeartbeats 4000000 in
theorem rmFi (l : Launch) (Z : State) (a0 : Array Value) (hw : ∀ d ∈ tables_1, d.before a0 Z = true) (n0 : Nat) (hb : Heap) (a ad af : Addr) (ver size : Int32) (N : Nat) (top left : Int32) (st st' : own_St) (h : Heap) (M : own_Mat Z n0 hb h a ver size ad af N st) (hm : own_frow N size top left 10 (top - 1) st = some st') :
    ConN l Z n0 (⟨"com/example/tickstep/tickstep/encoding/QrMatrix", "drawFinder", "(II)V"⟩ : MethodName) prog_33_method_10_code 6 none [] ({ frames := 1, cells := 0, slots := 0, locals := 15 } : Room) #[(.ref a), (.int top), (.int left)] h (fun h' => own_Mat Z n0 hb h' a ver size ad af N st') := by
  refine con_of_wp (Ls := #[.val (.ref a), .val (.int top), .val (.int left), .unset, .unset, .unset]) (plainFor_of_name pn_com_example_tickstep_tickstep_encoding_QrMatrix) (fun m => by first | (simp [entryFrame, mkF, argsToLocals, Value.category]; done) | rfl) ?_
  intro K ok
  replace ok : Ok Z K prog_33_method_10_code "com/example/tickstep/tickstep/encoding/QrMatrix" "drawFinder" 6 none := ok
  show Wp l ({ frames := 1, cells := 0, slots := 0, locals := 15 } : Room) n0 K (fun v h' => v = none ∧ own_Mat Z n0 hb h' a ver size ad af N st') h 0 0 0 #[.val (.ref a), .val (.int top), .val (.int left), .unset, .unset, .unset] []
  obtain ⟨Z0, E_a, F_version, F_size, F_dark, F_function, A_d, A_f, ⟨gn_ad, gn_af, nda, na1, na2⟩, hpc, Kb⟩ := id M
  refine w_iloadN ok dFi_0 rfl ?_
  refine w_iconst ok (z := 1) dFi_1 rfl ?_
  refine w_isub ok dFi_2 ?_
  refine w_istoreN ok (Ls' := #[.val (.ref a), .val (.int top), .val (.int left), .val (.int (top - (1 : Int32))), .unset, .unset]) dFi_3 rfl ?_
  have outer : ∀ (n : Nat) (row : Int32) (s4 s5 : Slot) (hs4 : OneS s4) (hs5 : OneS s5) (hh : Heap) (st1 : own_St) (M : own_Mat Z n0 hb hh a ver size ad af N st1) (hm : own_frow N size top left n row st1 = some st'), Wp l ({ frames := 1, cells := 0, slots := 0, locals := 15 } : Room) n0 K (fun v h' => v = none ∧ own_Mat Z n0 hb h' a ver size ad af N st') hh 0 0 4 #[.val (.ref a), .val (.int top), .val (.int left), .val (.int row), s4, s5] [] := by
    intro n
    induction n with
    | zero =>
      intro row s4 s5 hs4 hs5 hh st1 M hm
      exact absurd hm (by simp [own_frow])
    | succ n ih =>
      intro row s4 s5 hs4 hs5 hh st1 M hm
      obtain ⟨Z0, E_a, F_version, F_size, F_dark, F_function, A_d, A_f, ⟨gn_ad, gn_af, nda, na1, na2⟩, hpc, Kb⟩ := id M
      have inner : ∀ (m : Nat) (col : Int32) (s5 : Slot) (hs5 : OneS s5) (hh : Heap) (st1 : own_St) (M : own_Mat Z n0 hb hh a ver size ad af N st1) (st2 : own_St) (hm1 : own_fcol N size top left row m col st1 = some st2) (hm2 : own_frow N size top left n (row + 1) st2 = some st'), Wp l ({ frames := 1, cells := 0, slots := 0, locals := 15 } : Room) n0 K (fun v h' => v = none ∧ own_Mat Z n0 hb h' a ver size ad af N st') hh 0 0 17 #[.val (.ref a), .val (.int top), .val (.int left), .val (.int row), .val (.int col), s5] [] := by
        intro m
        induction m with
        | zero =>
          intro col s5 hs5 hh st1 M st2 hm1 hm2
          exact absurd hm1 (by simp [own_fcol])
        | succ m ihm =>
          intro col s5 hs5 hh st1 M st2 hm1 hm2
          obtain ⟨Z0, E_a, F_version, F_size, F_dark, F_function, A_d, A_f, ⟨gn_ad, gn_af, nda, na1, na2⟩, hpc, Kb⟩ := id M
          refine w_iload ok dFi_17 rfl ?_
          refine w_iloadN ok dFi_19 rfl ?_
          refine w_bipush ok (z := 7) dFi_20 rfl ?_
          refine w_iadd ok dFi_22 ?_
          refine w_ic_gt ok dFi_23 (fun q0 => ?_) (fun q0 => ?_)
          · refine w_iinc ok (Ls' := #[.val (.ref a), .val (.int top), .val (.int left), .val (.int (row + (1 : Int32))), .val (.int col), s5]) dFi_107 rfl rfl ?_
            refine w_goto ok dFi_110 ?_
            obtain rfl := own_fcol_end q0 hm1
            exact ih _ _ _ (OneS.int _) hs5 _ _ M hm2
          · refine w_iloadN ok dFi_26 rfl ?_
            refine w_if_lt ok dFi_27 (fun q1 => ?_) (fun q1 => ?_)
            · refine w_iinc ok (Ls' := #[.val (.ref a), .val (.int top), .val (.int left), .val (.int row), .val (.int (col + (1 : Int32))), s5]) dFi_101 rfl rfl ?_
              refine w_goto ok dFi_104 ?_
              exact ihm _ _ hs5 _ _ M _ (own_fcol_skip q0 (Or.inl q1) hm1) hm2
            · refine w_iloadN ok dFi_30 rfl ?_
              refine w_aloadN ok dFi_31 rfl rfl ?_
              refine w_getfield ok (host := "") (Or.inl (hw _ (List.mem_of_getElem? (i := 16) rfl))) Via.refl F_size dFi_32 ?_
              refine w_ic_ge ok dFi_35 (fun q2 => ?_) (fun q2 => ?_)
              · refine w_iinc ok (Ls' := #[.val (.ref a), .val (.int top), .val (.int left), .val (.int row), .val (.int (col + (1 : Int32))), s5]) dFi_101 rfl rfl ?_
                refine w_goto ok dFi_104 ?_
                exact ihm _ _ hs5 _ _ M _ (own_fcol_skip q0 (Or.inr (Or.inl q2)) hm1) hm2
              · refine w_iload ok dFi_38 rfl ?_
                refine w_if_lt ok dFi_40 (fun q3 => ?_) (fun q3 => ?_)
                · refine w_iinc ok (Ls' := #[.val (.ref a), .val (.int top), .val (.int left), .val (.int row), .val (.int (col + (1 : Int32))), s5]) dFi_101 rfl rfl ?_
                  refine w_goto ok dFi_104 ?_
                  exact ihm _ _ hs5 _ _ M _ (own_fcol_skip q0 (Or.inr (Or.inr (Or.inl q3))) hm1) hm2
                · refine w_iload ok dFi_43 rfl ?_
                  refine w_aloadN ok dFi_45 rfl rfl ?_
                  refine w_getfield ok (host := "") (Or.inl (hw _ (List.mem_of_getElem? (i := 16) rfl))) Via.refl F_size dFi_46 ?_
                  refine w_ic_lt ok dFi_49 (fun q4 => ?_) (fun q4 => ?_)
                  · obtain ⟨st3, hd, hm1⟩ := own_fcol_go q0 (by simp [q1, q2, q3, q4]) hm1
                    refine w_iloadN ok dFi_55 rfl ?_
                    refine w_iloadN ok dFi_56 rfl ?_
                    refine w_isub ok dFi_57 ?_
                    refine w_iconst ok (z := 3) dFi_58 rfl ?_
                    refine w_isub ok dFi_59 ?_
                    refine w_callSV ok (argsL := [(.int ((row - top) - (3 : Int32)))]) (rest := []) (hw _ (List.mem_of_getElem? (i := 27) rfl)) (hw _ (List.mem_of_getElem? (i := 28) rfl)) (hw _ (List.mem_of_getElem? (i := 29) rfl)) (hw _ (List.mem_of_getElem? (i := 30) rfl)) (by decide) (rmAbs l Z a0 hw n0 _ hh) dFi_60 (lenOf pd__I_I rfl) rfl rfl (Nat.le_of_ble_eq_true rfl) (Nat.le_of_ble_eq_true rfl) (k' := 0) (n' := 0) rfl rfl (Nat.le_of_ble_eq_true rfl) (Nat.le_of_ble_eq_true rfl) ?_
                    rintro _ _ ⟨rfl, rfl⟩
                    refine w_iload ok dFi_63 rfl ?_
                    refine w_iloadN ok dFi_65 rfl ?_
                    refine w_isub ok dFi_66 ?_
                    refine w_iconst ok (z := 3) dFi_67 rfl ?_
                    refine w_isub ok dFi_68 ?_
                    refine w_callSV ok (argsL := [(.int ((col - left) - (3 : Int32)))]) (rest := [(.int (own_abs (row - top - 3)))]) (hw _ (List.mem_of_getElem? (i := 27) rfl)) (hw _ (List.mem_of_getElem? (i := 28) rfl)) (hw _ (List.mem_of_getElem? (i := 29) rfl)) (hw _ (List.mem_of_getElem? (i := 30) rfl)) (by decide) (rmAbs l Z a0 hw n0 _ hh) dFi_69 (lenOf pd__I_I rfl) rfl rfl (Nat.le_of_ble_eq_true rfl) (Nat.le_of_ble_eq_true rfl) (k' := 0) (n' := 0) rfl rfl (Nat.le_of_ble_eq_true rfl) (Nat.le_of_ble_eq_true rfl) ?_
                    rintro _ _ ⟨rfl, rfl⟩
                    refine w_callSV ok (argsL := [(.int (own_abs (row - top - 3))), (.int (own_abs (col - left - 3)))]) (rest := []) (hw _ (List.mem_of_getElem? (i := 31) rfl)) (hw _ (List.mem_of_getElem? (i := 32) rfl)) (hw _ (List.mem_of_getElem? (i := 29) rfl)) (hw _ (List.mem_of_getElem? (i := 33) rfl)) (by decide) (rmMax l Z a0 hw n0 _ _ hh) dFi_72 (lenOf pd__II_I rfl) rfl rfl (Nat.le_of_ble_eq_true rfl) (Nat.le_of_ble_eq_true rfl) (k' := 0) (n' := 0) rfl rfl (Nat.le_of_ble_eq_true rfl) (Nat.le_of_ble_eq_true rfl) ?_
                    rintro _ _ ⟨rfl, rfl⟩
                    refine w_istoreS ok (Ls' := #[.val (.ref a), .val (.int top), .val (.int left), .val (.int row), .val (.int col), .val (.int (own_max (own_abs (row - top - 3)) (own_abs (col - left - 3))))]) dFi_75 rfl hs5 rfl ?_
                    have J98 : ∀ (z : Int32) (hz : z = own_ring (row - top - 3) (col - left - 3)), Wp l ({ frames := 1, cells := 0, slots := 0, locals := 15 } : Room) n0 K (fun v h' => v = none ∧ own_Mat Z n0 hb h' a ver size ad af N st') hh 0 0 98 #[.val (.ref a), .val (.int top), .val (.int left), .val (.int row), .val (.int col), .val (.int (own_max (own_abs (row - top - 3)) (own_abs (col - left - 3))))] [(.int z), (.int col), (.int row), (.ref a)] := by
                      intro z hz
                      subst hz
                      refine w_privN ok (argsL := [(.int row), (.int col), (.int (own_ring (row - top - 3) (col - left - 3)))]) (rest := []) (hw _ (List.mem_of_getElem? (i := 34) rfl)) (hw _ (List.mem_of_getElem? (i := 35) rfl)) (hw _ (List.mem_of_getElem? (i := 36) rfl)) (hw _ (List.mem_of_getElem? (i := 3) rfl)) (hw _ (List.mem_of_getElem? (i := 4) rfl)) (hw _ (List.mem_of_getElem? (i := 37) rfl)) E_a (by decide) (rmDF l Z a0 hw n0 hb a ad af ver size N row col _ st1 st3 hh M hd) dFi_98 (lenOf pd__IIZ_V rfl) rfl rfl (Nat.le_of_ble_eq_true rfl) (Nat.le_of_ble_eq_true rfl) (k' := 0) (n' := 0) rfl rfl (Nat.le_of_ble_eq_true rfl) (Nat.le_of_ble_eq_true rfl) ?_
                      rintro h9 ⟨Kc, M⟩
                      refine w_iinc ok (Ls' := #[.val (.ref a), .val (.int top), .val (.int left), .val (.int row), .val (.int (col + (1 : Int32))), .val (.int (own_max (own_abs (row - top - 3)) (own_abs (col - left - 3))))]) dFi_101 rfl rfl ?_
                      refine w_goto ok dFi_104 ?_
                      exact ihm _ _ (OneS.int _) _ _ M _ hm1 hm2
                    refine w_aloadN ok dFi_77 rfl rfl ?_
                    refine w_iloadN ok dFi_78 rfl ?_
                    refine w_iload ok dFi_79 rfl ?_
                    refine w_iload ok dFi_81 rfl ?_
                    refine w_iconst ok (z := 2) dFi_83 rfl ?_
                    refine w_ic_eq ok dFi_84 (fun r1 => ?_) (fun r1 => ?_)
                    · refine w_iconst ok (z := 0) dFi_97 rfl ?_
                      exact J98 _ (by simp [own_ring, r1])
                    · refine w_iload ok dFi_87 rfl ?_
                      refine w_iconst ok (z := 4) dFi_89 rfl ?_
                      refine w_ic_eq ok dFi_90 (fun r2 => ?_) (fun r2 => ?_)
                      · refine w_iconst ok (z := 0) dFi_97 rfl ?_
                        exact J98 _ (by simp [own_ring, r1, r2])
                      · refine w_iconst ok (z := 1) dFi_93 rfl ?_
                        refine w_goto ok dFi_94 ?_
                        exact J98 _ (by simp [own_ring, r1, r2])
                  · refine w_goto ok dFi_52 ?_
                    refine w_iinc ok (Ls' := #[.val (.ref a), .val (.int top), .val (.int left), .val (.int row), .val (.int (col + (1 : Int32))), s5]) dFi_101 rfl rfl ?_
                    refine w_goto ok dFi_104 ?_
                    exact ihm _ _ hs5 _ _ M _ (own_fcol_skip q0 (Or.inr (Or.inr (Or.inr q4))) hm1) hm2
      refine w_iloadN ok dFi_4 rfl ?_
      refine w_iloadN ok dFi_5 rfl ?_
      refine w_bipush ok (z := 7) dFi_6 rfl ?_
      refine w_iadd ok dFi_8 ?_
      refine w_ic_gt ok dFi_9 (fun q => ?_) (fun q => ?_)
      · refine w_return ok dFi_113 (Nat.le_of_ble_eq_true rfl) (Nat.le_of_ble_eq_true rfl) ?_
        obtain rfl := own_frow_end q hm
        exact ⟨rfl, M⟩
      · obtain ⟨st2, hm1, hm2⟩ := own_frow_go q hm
        refine w_iloadN ok dFi_12 rfl ?_
        refine w_iconst ok (z := 1) dFi_13 rfl ?_
        refine w_isub ok dFi_14 ?_
        refine w_istoreS ok (Ls' := #[.val (.ref a), .val (.int top), .val (.int left), .val (.int row), .val (.int (left - (1 : Int32))), s5]) dFi_15 rfl hs4 rfl ?_
        exact inner 10 _ _ hs5 _ _ M _ hm1 hm2
  exact outer 10 _ _ _ (Or.inl rfl) (Or.inl rfl) _ _ M hm
theorem dAC_0 : Fet prog_33_method_12_code 0 1 (.aload_n 0) 1 := ⟨by decide +kernel, rfl⟩
theorem dAC_1 : Fet prog_33_method_12_code 1 4 (.getfield 7) 3 := ⟨by decide +kernel, rfl⟩
theorem dAC_4 : Fet prog_33_method_12_code 4 5 (.iconst 1) 1 := ⟨by decide +kernel, rfl⟩
theorem dAC_5 : Brn prog_33_method_12_code 5 8 12 (.if_icmp .ne 7) 7 := ⟨by decide +kernel, rfl, by decide, by decide⟩
theorem dAC_8 : Fet prog_33_method_12_code 8 9 (.iconst 0) 1 := ⟨by decide +kernel, rfl⟩
theorem dAC_9 : Fet prog_33_method_12_code 9 11 (.newarray .int) 2 := ⟨by decide +kernel, rfl⟩
theorem dAC_11 : Fet prog_33_method_12_code 11 12 (.areturn) 1 := ⟨by decide +kernel, rfl⟩
theorem dAC_12 : Fet prog_33_method_12_code 12 13 (.aload_n 0) 1 := ⟨by decide +kernel, rfl⟩
theorem dAC_13 : Fet prog_33_method_12_code 13 16 (.getfield 7) 3 := ⟨by decide +kernel, rfl⟩
theorem dAC_16 : Fet prog_33_method_12_code 16 18 (.bipush 7) 2 := ⟨by decide +kernel, rfl⟩
theorem dAC_18 : Fet prog_33_method_12_code 18 19 (.idiv) 1 := ⟨by decide +kernel, rfl⟩
theorem dAC_19 : Fet prog_33_method_12_code 19 20 (.iconst 2) 1 := ⟨by decide +kernel, rfl⟩
theorem dAC_20 : Fet prog_33_method_12_code 20 21 (.iadd) 1 := ⟨by decide +kernel, rfl⟩
theorem dAC_21 : Fet prog_33_method_12_code 21 22 (.istore_n 1) 1 := ⟨by decide +kernel, rfl⟩
theorem dAC_22 : Fet prog_33_method_12_code 22 23 (.iload_n 1) 1 := ⟨by decide +kernel, rfl⟩
theorem dAC_23 : Fet prog_33_method_12_code 23 24 (.iconst 1) 1 := ⟨by decide +kernel, rfl⟩
theorem dAC_24 : Fet prog_33_method_12_code 24 25 (.isub) 1 := ⟨by decide +kernel, rfl⟩
theorem dAC_25 : Fet prog_33_method_12_code 25 26 (.istore_n 2) 1 := ⟨by decide +kernel, rfl⟩
theorem dAC_26 : Fet prog_33_method_12_code 26 27 (.aload_n 0) 1 := ⟨by decide +kernel, rfl⟩
theorem dAC_27 : Fet prog_33_method_12_code 27 30 (.getfield 7) 3 := ⟨by decide +kernel, rfl⟩
theorem dAC_30 : Fet prog_33_method_12_code 30 32 (.bipush 32) 2 := ⟨by decide +kernel, rfl⟩
theorem dAC_59 : Fet prog_33_method_12_code 59 60 (.istore_n 3) 1 := ⟨by decide +kernel, rfl⟩
theorem dAC_60 : Fet prog_33_method_12_code 60 61 (.iload_n 1) 1 := ⟨by decide +kernel, rfl⟩
theorem dAC_61 : Fet prog_33_method_12_code 61 63 (.newarray .int) 2 := ⟨by decide +kernel, rfl⟩
theorem dAC_63 : Fet prog_33_method_12_code 63 65 (.astore 4) 2 := ⟨by decide +kernel, rfl⟩
theorem dAC_65 : Fet prog_33_method_12_code 65 67 (.aload 4) 2 := ⟨by decide +kernel, rfl⟩
theorem dAC_67 : Fet prog_33_method_12_code 67 68 (.iconst 0) 1 := ⟨by decide +kernel, rfl⟩
theorem dAC_68 : Fet prog_33_method_12_code 68 70 (.bipush 6) 2 := ⟨by decide +kernel, rfl⟩
theorem dAC_70 : Fet prog_33_method_12_code 70 71 (.iastore) 1 := ⟨by decide +kernel, rfl⟩
theorem dAC_71 : Fet prog_33_method_12_code 71 72 (.iconst 1) 1 := ⟨by decide +kernel, rfl⟩
theorem dAC_72 : Fet prog_33_method_12_code 72 74 (.istore 5) 2 := ⟨by decide +kernel, rfl⟩
theorem dAC_74 : Fet prog_33_method_12_code 74 76 (.iload 5) 2 := ⟨by decide +kernel, rfl⟩
theorem dAC_76 : Fet prog_33_method_12_code 76 77 (.iload_n 1) 1 := ⟨by decide +kernel, rfl⟩
theorem dAC_77 : Brn prog_33_method_12_code 77 80 107 (.if_icmp .ge 30) 30 := ⟨by decide +kernel, rfl, by decide, by decide⟩
theorem dAC_107 : Fet prog_33_method_12_code 107 109 (.aload 4) 2 := ⟨by decide +kernel, rfl⟩
theorem dAC_109 : Fet prog_33_method_12_code 109 110 (.areturn) 1 := ⟨by decide +kernel, rfl⟩
theorem dAC_80 : Fet prog_33_method_12_code 80 82 (.aload 4) 2 := ⟨by decide +kernel, rfl⟩
theorem dAC_82 : Fet prog_33_method_12_code 82 84 (.iload 5) 2 := ⟨by decide +kernel, rfl⟩
theorem dAC_84 : Fet prog_33_method_12_code 84 85 (.aload_n 0) 1 := ⟨by decide +kernel, rfl⟩
theorem dAC_85 : Fet prog_33_method_12_code 85 88 (.getfield 17) 3 := ⟨by decide +kernel, rfl⟩
theorem dAC_88 : Fet prog_33_method_12_code 88 90 (.bipush 7) 2 := ⟨by decide +kernel, rfl⟩
theorem dAC_90 : Fet prog_33_method_12_code 90 91 (.isub) 1 := ⟨by decide +kernel, rfl⟩
theorem dAC_91 : Fet prog_33_method_12_code 91 92 (.iload_n 1) 1 := ⟨by decide +kernel, rfl⟩
theorem dAC_92 : Fet prog_33_method_12_code 92 93 (.iconst 1) 1 := ⟨by decide +kernel, rfl⟩
theorem dAC_93 : Fet prog_33_method_12_code 93 94 (.isub) 1 := ⟨by decide +kernel, rfl⟩
theorem dAC_94 : Fet prog_33_method_12_code 94 96 (.iload 5) 2 := ⟨by decide +kernel, rfl⟩
theorem dAC_96 : Fet prog_33_method_12_code 96 97 (.isub) 1 := ⟨by decide +kernel, rfl⟩
theorem dAC_97 : Fet prog_33_method_12_code 97 98 (.iload_n 3) 1 := ⟨by decide +kernel, rfl⟩
theorem dAC_98 : Fet prog_33_method_12_code 98 99 (.imul) 1 := ⟨by decide +kernel, rfl⟩
theorem dAC_99 : Fet prog_33_method_12_code 99 100 (.isub) 1 := ⟨by decide +kernel, rfl⟩
theorem dAC_100 : Fet prog_33_method_12_code 100 101 (.iastore) 1 := ⟨by decide +kernel, rfl⟩
theorem dAC_101 : Fet prog_33_method_12_code 101 104 (.iinc 5 1) 3 := ⟨by decide +kernel, rfl⟩
theorem dAC_104 : Brn prog_33_method_12_code 104 107 74 (.goto (-30)) (-30) := ⟨by decide +kernel, rfl, by decide, by decide⟩
theorem dAC_32 : Brn prog_33_method_12_code 32 35 40 (.if_icmp .ne 8) 8 := ⟨by decide +kernel, rfl, by decide, by decide⟩
theorem dAC_35 : Fet prog_33_method_12_code 35 37 (.bipush 26) 2 := ⟨by decide +kernel, rfl⟩
theorem dAC_37 : Brn prog_33_method_12_code 37 40 59 (.goto 22) 22 := ⟨by decide +kernel, rfl, by decide, by decide⟩
theorem dAC_40 : Fet prog_33_method_12_code 40 41 (.aload_n 0) 1 := ⟨by decide +kernel, rfl⟩
theorem dAC_41 : Fet prog_33_method_12_code 41 44 (.getfield 17) 3 := ⟨by decide +kernel, rfl⟩
theorem dAC_44 : Fet prog_33_method_12_code 44 46 (.bipush 13) 2 := ⟨by decide +kernel, rfl⟩
theorem dAC_46 : Fet prog_33_method_12_code 46 47 (.isub) 1 := ⟨by decide +kernel, rfl⟩
theorem dAC_47 : Fet prog_33_method_12_code 47 48 (.iconst 2) 1 := ⟨by decide +kernel, rfl⟩
theorem dAC_48 : Fet prog_33_method_12_code 48 49 (.iload_n 2) 1 := ⟨by decide +kernel, rfl⟩
theorem dAC_49 : Fet prog_33_method_12_code 49 50 (.imul) 1 := ⟨by decide +kernel, rfl⟩
theorem dAC_50 : Fet prog_33_method_12_code 50 51 (.iadd) 1 := ⟨by decide +kernel, rfl⟩
theorem dAC_51 : Fet prog_33_method_12_code 51 52 (.iconst 1) 1 := ⟨by decide +kernel, rfl⟩
theorem dAC_52 : Fet prog_33_method_12_code 52 53 (.isub) 1 := ⟨by decide +kernel, rfl⟩
theorem dAC_53 : Fet prog_33_method_12_code 53 54 (.iconst 2) 1 := ⟨by decide +kernel, rfl⟩
theorem dAC_54 : Fet prog_33_method_12_code 54 55 (.iload_n 2) 1 := ⟨by decide +kernel, rfl⟩
theorem dAC_55 : Fet prog_33_method_12_code 55 56 (.imul) 1 := ⟨by decide +kernel, rfl⟩
theorem dAC_56 : Fet prog_33_method_12_code 56 57 (.idiv) 1 := ⟨by decide +kernel, rfl⟩
theorem dAC_57 : Fet prog_33_method_12_code 57 58 (.iconst 2) 1 := ⟨by decide +kernel, rfl⟩
theorem dAC_58 : Fet prog_33_method_12_code 58 59 (.imul) 1 := ⟨by decide +kernel, rfl⟩
set_option maxRecDepth 65536 in
set_option maxHeartbeats 4000000 in
theorem rmAC (l : Launch) (Z : State) (a0 : Array Value) (hw : ∀ d ∈ tables_1, d.before a0 Z = true) (n0 : Nat) (hb : Heap) (a ad af : Addr) (ver size : Int32) (N : Nat) (st : own_St) (h : Heap) (M : own_Mat Z n0 hb h a ver size ad af N st) (ls : List Int32) (hl : own_cs ver size = some ls) :
    ConV l Z n0 (⟨"com/example/tickstep/tickstep/encoding/QrMatrix", "alignmentCentres", "()[I"⟩ : MethodName) prog_33_method_12_code 6 (some (.array .int)) [] ({ frames := 0, cells := 1, slots := 7, locals := 0 } : Room) #[(.ref a)] h (fun w h' => ∃ b, w = .ref b ∧ Ary Z h' b .int (ls.map Value.int) ∧ Keep h h' [] ∧ h.size ≤ b) := by
  refine con_of_wp (Ls := #[.val (.ref a), .unset, .unset, .unset, .unset, .unset]) (plainFor_of_name pn_com_example_tickstep_tickstep_encoding_QrMatrix) (fun m => by first | (simp [entryFrame, mkF, argsToLocals, Value.category]; done) | rfl) ?_
  intro K ok
  replace ok : Ok Z K prog_33_method_12_code "com/example/tickstep/tickstep/encoding/QrMatrix" "alignmentCentres" 6 (some (.array .int)) := ok
  show Wp l ({ frames := 0, cells := 1, slots := 7, locals := 0 } : Room) n0 K (fun v h' => ∃ w, v = some w ∧ ∃ b, w = .ref b ∧ Ary Z h' b .int (ls.map Value.int) ∧ Keep h h' [] ∧ h.size ≤ b) h 0 0 0 #[.val (.ref a), .unset, .unset, .unset, .unset, .unset] []
  obtain ⟨Z0, E_a, F_version, F_size, F_dark, F_function, A_d, A_f, ⟨gn_ad, gn_af, nda, na1, na2⟩, hpc, Kb⟩ := id M
  have Kp : Keep h h [] := Keep.refl _ _
  refine w_aloadN ok dAC_0 rfl rfl ?_
  refine w_getfield ok (host := "") (Or.inl (hw _ (List.mem_of_getElem? (i := 11) rfl))) Via.refl F_version dAC_1 ?_
  refine w_iconst ok (z := 1) dAC_4 rfl ?_
  refine w_ic_ne ok dAC_5 (fun q => ?_) (fun q => ?_)
  · obtain ⟨c1, c2, c3, hl⟩ := own_cs_inv q hl
    refine w_aloadN ok dAC_12 rfl rfl ?_
    refine w_getfield ok (host := "") (Or.inl (hw _ (List.mem_of_getElem? (i := 11) rfl))) Via.refl F_version dAC_13 ?_
    refine w_bipush ok (z := 7) dAC_16 rfl ?_
    refine w_idiv ok dAC_18 (by decide) ?_
    refine w_iconst ok (z := 2) dAC_19 rfl ?_
    refine w_iadd ok dAC_20 ?_
    refine w_istoreN ok (Ls' := #[.val (.ref a), .val (.int ((ver / (7 : Int32)) + (2 : Int32))), .unset, .unset, .unset, .unset]) dAC_21 rfl ?_
    refine w_iloadN ok dAC_22 rfl ?_
    refine w_iconst ok (z := 1) dAC_23 rfl ?_
    refine w_isub ok dAC_24 ?_
    refine w_istoreN ok (Ls' := #[.val (.ref a), .val (.int ((ver / (7 : Int32)) + (2 : Int32))), .val (.int (((ver / (7 : Int32)) + (2 : Int32)) - (1 : Int32))), .unset, .unset, .unset]) dAC_25 rfl ?_
    refine w_aloadN ok dAC_26 rfl rfl ?_
    refine w_getfield ok (host := "") (Or.inl (hw _ (List.mem_of_getElem? (i := 11) rfl))) Via.refl F_version dAC_27 ?_
    refine w_bipush ok (z := 32) dAC_30 rfl ?_
    have J59 : ∀ (stp : Int32) (hstp : stp = own_step ver size (ver / 7 + 2 - 1)), Wp l ({ frames := 0, cells := 1, slots := 7, locals := 0 } : Room) n0 K (fun v h' => ∃ w, v = some w ∧ ∃ b, w = .ref b ∧ Ary Z h' b .int (ls.map Value.int) ∧ Keep h h' [] ∧ h.size ≤ b) h 0 0 59 #[.val (.ref a), .val (.int ((ver / (7 : Int32)) + (2 : Int32))), .val (.int (((ver / (7 : Int32)) + (2 : Int32)) - (1 : Int32))), .unset, .unset, .unset] [(.int stp)] := by
      intro stp hstp
      rw [← hstp] at hl
      refine w_istoreN ok (Ls' := #[.val (.ref a), .val (.int ((ver / (7 : Int32)) + (2 : Int32))), .val (.int (((ver / (7 : Int32)) + (2 : Int32)) - (1 : Int32))), .val (.int stp), .unset, .unset]) dAC_59 rfl ?_
      refine w_iloadN ok dAC_60 rfl ?_
      refine w_newarray ok (cap := 7) (hw _ (List.mem_of_getElem? (i := 46) rfl)) dAC_61 (own_nn c1) (c2) (by decide) (k' := 1) (n' := 7) rfl rfl (Nat.le_of_ble_eq_true rfl) (Nat.le_of_ble_eq_true rfl) (fun h2 b2 cA2 g2 E2 A2 => ?_)
      have ne_a_b2 : a ≠ b2 := Nat.ne_of_lt (Nat.lt_of_lt_of_le E_a.lt (Nat.le_of_eq g2.symm))
      have ne_ad_b2 : ad ≠ b2 := Nat.ne_of_lt (Nat.lt_of_lt_of_le A_d.lt (Nat.le_of_eq g2.symm))
      have ne_af_b2 : af ≠ b2 := Nat.ne_of_lt (Nat.lt_of_lt_of_le A_f.lt (Nat.le_of_eq g2.symm))
      have gn_b2 : n0 ≤ b2 := Nat.le_trans Z0 (Nat.le_of_eq g2.symm)
      have Z0 := Nat.le_trans Z0 E2.1
      have hz_b2 := Nat.le_trans Kp.1 (Nat.le_of_eq g2.symm)
      have Kp := Kp.ext E2
      have E_a := E_a.ext E2
      have F_version := F_version.ext E2
      have F_size := F_size.ext E2
      have F_dark := F_dark.ext E2
      have F_function := F_function.ext E2
      have A_d := A_d.ext E2
      have A_f := A_f.ext E2
      have V_b2 : Ary Z h2 b2 .int ((List.replicate (ver / 7 + 2).toNatClampNeg (0 : Int32)).map Value.int) := (ary_new A2).cast (by rw [List.map_replicate]; rfl)
      refine w_astore ok (Ls' := #[.val (.ref a), .val (.int ((ver / (7 : Int32)) + (2 : Int32))), .val (.int (((ver / (7 : Int32)) + (2 : Int32)) - (1 : Int32))), .val (.int stp), .val (.ref b2), .unset]) dAC_63 rfl rfl ?_
      refine w_aload ok dAC_65 rfl rfl ?_
      refine w_iconst ok (z := 0) dAC_67 rfl ?_
      refine w_bipush ok (z := 6) dAC_68 rfl ?_
      refine w_iastoreJ ok V_b2 (own_c0 c1) gn_b2 dAC_70 (fun h3 W3 V_b2 => ?_)
      have E_a := E_a.wr W3
      have F_version := F_version.other W3 (Or.inl ne_a_b2)
      have F_size := F_size.other W3 (Or.inl ne_a_b2)
      have F_dark := F_dark.other W3 (Or.inl ne_a_b2)
      have F_function := F_function.other W3 (Or.inl ne_a_b2)
      have A_d := A_d.other W3 ne_ad_b2
      have A_f := A_f.other W3 ne_af_b2
      have Z0 := Nat.le_trans Z0 (Keep.of_wr W3).1
      have Kp := Kp.wr W3 (Or.inr hz_b2)
      replace V_b2 := V_b2.cast (show _ = ((List.replicate (ver / 7 + 2).toNatClampNeg (0 : Int32)).set 0 6).map Value.int from (List.map_set).symm)
      refine w_iconst ok (z := 1) dAC_71 rfl ?_
      refine w_istore ok (Ls' := #[.val (.ref a), .val (.int ((ver / (7 : Int32)) + (2 : Int32))), .val (.int (((ver / (7 : Int32)) + (2 : Int32)) - (1 : Int32))), .val (.int stp), .val (.ref b2), .val (.int (1 : Int32))]) dAC_72 rfl ?_
      have loop : ∀ (m : Nat) (i : Int32) (hh : Heap) (lst : List Int32) (V_b2 : Ary Z hh b2 .int (lst.map Value.int)) (Kp : Keep h hh []) (hl : own_cfill size (ver / 7 + 2) stp m i lst = some ls), Wp l ({ frames := 0, cells := 1, slots := 7, locals := 0 } : Room) n0 K (fun v h' => ∃ w, v = some w ∧ ∃ b, w = .ref b ∧ Ary Z h' b .int (ls.map Value.int) ∧ Keep h h' [] ∧ h.size ≤ b) hh 1 7 74 #[.val (.ref a), .val (.int ((ver / (7 : Int32)) + (2 : Int32))), .val (.int (((ver / (7 : Int32)) + (2 : Int32)) - (1 : Int32))), .val (.int stp), .val (.ref b2), .val (.int i)] [] := by
        intro m
        clear hl
        induction m with
        | zero =>
          intro i hh lst V_b2 Kp hl
          exact absurd hl (by simp [own_cfill])
        | succ m ih =>
          intro i hh lst V_b2 Kp hl
          obtain ⟨Z0, E_a, F_version, F_size, F_dark, F_function, A_d, A_f, ⟨gn_ad, gn_af, nda, na1, na2⟩, hpc, Kb⟩ := id (M.keep0 Kp)
          refine w_iload ok dAC_74 rfl ?_
          refine w_iloadN ok dAC_76 rfl ?_
          refine w_ic_ge ok dAC_77 (fun q1 => ?_) (fun q1 => ?_)
          · refine w_aload ok dAC_107 rfl rfl ?_
            refine w_areturn ok rfl rfl rfl dAC_109 (Nat.le_of_ble_eq_true rfl) (Nat.le_of_ble_eq_true rfl) ?_
            obtain rfl := own_cfill_end q1 hl
            exact ⟨_, rfl, _, rfl, V_b2, Kp, hz_b2⟩
          · obtain ⟨hj, hl⟩ := own_cfill_go q1 hl
            refine w_aload ok dAC_80 rfl rfl ?_
            refine w_iload ok dAC_82 rfl ?_
            refine w_aloadN ok dAC_84 rfl rfl ?_
            refine w_getfield ok (host := "") (Or.inl (hw _ (List.mem_of_getElem? (i := 16) rfl))) Via.refl F_size dAC_85 ?_
            refine w_bipush ok (z := 7) dAC_88 rfl ?_
            refine w_isub ok dAC_90 ?_
            refine w_iloadN ok dAC_91 rfl ?_
            refine w_iconst ok (z := 1) dAC_92 rfl ?_
            refine w_isub ok dAC_93 ?_
            refine w_iload ok dAC_94 rfl ?_
            refine w_isub ok dAC_96 ?_
            refine w_iloadN ok dAC_97 rfl ?_
            refine w_imul ok dAC_98 ?_
            refine w_isub ok dAC_99 ?_
            refine w_iastoreJ ok V_b2 (by rw [List.length_map]; exact hj) gn_b2 dAC_100 (fun h4 W4 V_b2 => ?_)
            have E_a := E_a.wr W4
            have F_version := F_version.other W4 (Or.inl ne_a_b2)
            have F_size := F_size.other W4 (Or.inl ne_a_b2)
            have F_dark := F_dark.other W4 (Or.inl ne_a_b2)
            have F_function := F_function.other W4 (Or.inl ne_a_b2)
            have A_d := A_d.other W4 ne_ad_b2
            have A_f := A_f.other W4 ne_af_b2
            have Z0 := Nat.le_trans Z0 (Keep.of_wr W4).1
            have Kp := Kp.wr W4 (Or.inr hz_b2)
            replace V_b2 := V_b2.cast (List.map_set).symm
            refine w_iinc ok (Ls' := #[.val (.ref a), .val (.int ((ver / (7 : Int32)) + (2 : Int32))), .val (.int (((ver / (7 : Int32)) + (2 : Int32)) - (1 : Int32))), .val (.int stp), .val (.ref b2), .val (.int (i + (1 : Int32)))]) dAC_101 rfl rfl ?_
            refine w_goto ok dAC_104 ?_
            exact ih _ _ _ V_b2 Kp hl
      exact loop 8 _ _ _ V_b2 Kp hl
    refine w_ic_ne ok dAC_32 (fun q2 => ?_) (fun q2 => ?_)
    · refine w_aloadN ok dAC_40 rfl rfl ?_
      refine w_getfield ok (host := "") (Or.inl (hw _ (List.mem_of_getElem? (i := 16) rfl))) Via.refl F_size dAC_41 ?_
      refine w_bipush ok (z := 13) dAC_44 rfl ?_
      refine w_isub ok dAC_46 ?_
      refine w_iconst ok (z := 2) dAC_47 rfl ?_
      refine w_iloadN ok dAC_48 rfl ?_
      refine w_imul ok dAC_49 ?_
      refine w_iadd ok dAC_50 ?_
      refine w_iconst ok (z := 1) dAC_51 rfl ?_
      refine w_isub ok dAC_52 ?_
      refine w_iconst ok (z := 2) dAC_53 rfl ?_
      refine w_iloadN ok dAC_54 rfl ?_
      refine w_imul ok dAC_55 ?_
      refine w_idiv ok dAC_56 c3 ?_
      refine w_iconst ok (z := 2) dAC_57 rfl ?_
      refine w_imul ok dAC_58 ?_
      exact J59 _ (by rw [own_step, if_neg q2])
    · refine w_bipush ok (z := 26) dAC_35 rfl ?_
      refine w_goto ok dAC_37 ?_
      exact J59 _ (by rw [own_step, if_pos q2])
  · refine w_iconst ok (z := 0) dAC_8 rfl ?_
    refine w_newarray ok (cap := 0) (hw _ (List.mem_of_getElem? (i := 46) rfl)) dAC_9 (by decide) (by decide) (by decide) (k' := 1) (n' := 0) rfl rfl (Nat.le_of_ble_eq_true rfl) (Nat.le_of_ble_eq_true rfl) (fun h1 b1 cA1 g1 E1 A1 => ?_)
    have ne_a_b1 : a ≠ b1 := Nat.ne_of_lt (Nat.lt_of_lt_of_le E_a.lt (Nat.le_of_eq g1.symm))
    have ne_ad_b1 : ad ≠ b1 := Nat.ne_of_lt (Nat.lt_of_lt_of_le A_d.lt (Nat.le_of_eq g1.symm))
    have ne_af_b1 : af ≠ b1 := Nat.ne_of_lt (Nat.lt_of_lt_of_le A_f.lt (Nat.le_of_eq g1.symm))
    have gn_b1 : n0 ≤ b1 := Nat.le_trans Z0 (Nat.le_of_eq g1.symm)
    have Z0 := Nat.le_trans Z0 E1.1
    have hz_b1 := Nat.le_trans Kp.1 (Nat.le_of_eq g1.symm)
    have Kp := Kp.ext E1
    have E_a := E_a.ext E1
    have F_version := F_version.ext E1
    have F_size := F_size.ext E1
    have F_dark := F_dark.ext E1
    have F_function := F_function.ext E1
    have A_d := A_d.ext E1
    have A_f := A_f.ext E1
    have V_b1 : Ary Z h1 b1 .int [] := ary_new A1
    refine w_areturn ok rfl rfl rfl dAC_11 (Nat.le_of_ble_eq_true rfl) (Nat.le_of_ble_eq_true rfl) ?_
    obtain rfl := own_cs_one q hl
    exact ⟨_, rfl, _, rfl, V_b1, Kp, hz_b1⟩
theorem dAl_0 : Fet prog_33_method_11_code 0 1 (.aload_n 0) 1 := ⟨by decide +kernel, rfl⟩
theorem dAl_1 : Fet prog_33_method_11_code 1 4 (.invokevirtual 94) 3 := ⟨by decide +kernel, rfl⟩
theorem pd___ArI : parseMethodDescriptor "()[I" = some ⟨[], some (.array .int)⟩ := by decide +kernel
theorem dAl_4 : Fet prog_33_method_11_code 4 5 (.astore_n 1) 1 := ⟨by decide +kernel, rfl⟩
theorem dAl_5 : Fet prog_33_method_11_code 5 6 (.aload_n 0) 1 := ⟨by decide +kernel, rfl⟩
theorem dAl_6 : Fet prog_33_method_11_code 6 9 (.getfield 17) 3 := ⟨by decide +kernel, rfl⟩
theorem dAl_9 : Fet prog_33_method_11_code 9 11 (.bipush 7) 2 := ⟨by decide +kernel, rfl⟩
theorem dAl_11 : Fet prog_33_method_11_code 11 12 (.isub) 1 := ⟨by decide +kernel, rfl⟩
theorem dAl_12 : Fet prog_33_method_11_code 12 13 (.istore_n 2) 1 := ⟨by decide +kernel, rfl⟩
theorem dAl_13 : Fet prog_33_method_11_code 13 14 (.aload_n 1) 1 := ⟨by decide +kernel, rfl⟩
theorem dAl_14 : Fet prog_33_method_11_code 14 15 (.astore_n 3) 1 := ⟨by decide +kernel, rfl⟩
theorem dAl_15 : Fet prog_33_method_11_code 15 16 (.aload_n 3) 1 := ⟨by decide +kernel, rfl⟩
theorem dAl_16 : Fet prog_33_method_11_code 16 17 (.arraylength) 1 := ⟨by decide +kernel, rfl⟩
theorem dAl_17 : Fet prog_33_method_11_code 17 19 (.istore 4) 2 := ⟨by decide +kernel, rfl⟩
theorem dAl_19 : Fet prog_33_method_11_code 19 20 (.iconst 0) 1 := ⟨by decide +kernel, rfl⟩
theorem dAl_20 : Fet prog_33_method_11_code 20 22 (.istore 5) 2 := ⟨by decide +kernel, rfl⟩
theorem dAl_22 : Fet prog_33_method_11_code 22 24 (.iload 5) 2 := ⟨by decide +kernel, rfl⟩
theorem dAl_24 : Fet prog_33_method_11_code 24 26 (.iload 4) 2 := ⟨by decide +kernel, rfl⟩
theorem dAl_26 : Brn prog_33_method_11_code 26 29 198 (.if_icmp .ge 172) 172 := ⟨by decide +kernel, rfl, by decide, by decide⟩
theorem dAl_198 : Fet prog_33_method_11_code 198 199 (.return_) 1 := ⟨by decide +kernel, rfl⟩
theorem dAl_29 : Fet prog_33_method_11_code 29 30 (.aload_n 3) 1 := ⟨by decide +kernel, rfl⟩
theorem dAl_30 : Fet prog_33_method_11_code 30 32 (.iload 5) 2 := ⟨by decide +kernel, rfl⟩
theorem dAl_32 : Fet prog_33_method_11_code 32 33 (.iaload) 1 := ⟨by decide +kernel, rfl⟩
theorem dAl_33 : Fet prog_33_method_11_code 33 35 (.istore 6) 2 := ⟨by decide +kernel, rfl⟩
theorem dAl_35 : Fet prog_33_method_11_code 35 36 (.aload_n 1) 1 := ⟨by decide +kernel, rfl⟩
theorem dAl_36 : Fet prog_33_method_11_code 36 38 (.astore 7) 2 := ⟨by decide +kernel, rfl⟩
theorem dAl_38 : Fet prog_33_method_11_code 38 40 (.aload 7) 2 := ⟨by decide +kernel, rfl⟩
theorem dAl_40 : Fet prog_33_method_11_code 40 41 (.arraylength) 1 := ⟨by decide +kernel, rfl⟩
theorem dAl_41 : Fet prog_33_method_11_code 41 43 (.istore 8) 2 := ⟨by decide +kernel, rfl⟩
theorem dAl_43 : Fet prog_33_method_11_code 43 44 (.iconst 0) 1 := ⟨by decide +kernel, rfl⟩
theorem dAl_44 : Fet prog_33_method_11_code 44 46 (.istore 9) 2 := ⟨by decide +kernel, rfl⟩
theorem dAl_46 : Fet prog_33_method_11_code 46 48 (.iload 9) 2 := ⟨by decide +kernel, rfl⟩
theorem dAl_48 : Fet prog_33_method_11_code 48 50 (.iload 8) 2 := ⟨by decide +kernel, rfl⟩
theorem dAl_50 : Brn prog_33_method_11_code 50 53 192 (.if_icmp .ge 142) 142 := ⟨by decide +kernel, rfl, by decide, by decide⟩
theorem dAl_192 : Fet prog_33_method_11_code 192 195 (.iinc 5 1) 3 := ⟨by decide +kernel, rfl⟩
theorem dAl_195 : Brn prog_33_method_11_code 195 198 22 (.goto (-173)) (-173) := ⟨by decide +kernel, rfl, by decide, by decide⟩
theorem dAl_53 : Fet prog_33_method_11_code 53 55 (.aload 7) 2 := ⟨by decide +kernel, rfl⟩
theorem dAl_55 : Fet prog_33_method_11_code 55 57 (.iload 9) 2 := ⟨by decide +kernel, rfl⟩
theorem dAl_57 : Fet prog_33_method_11_code 57 58 (.iaload) 1 := ⟨by decide +kernel, rfl⟩
theorem dAl_58 : Fet prog_33_method_11_code 58 60 (.istore 10) 2 := ⟨by decide +kernel, rfl⟩
theorem dAl_60 : Fet prog_33_method_11_code 60 62 (.iload 6) 2 := ⟨by decide +kernel, rfl⟩
theorem dAl_62 : Fet prog_33_method_11_code 62 64 (.bipush 6) 2 := ⟨by decide +kernel, rfl⟩
theorem dAl_98 : Fet prog_33_method_11_code 98 100 (.istore 11) 2 := ⟨by decide +kernel, rfl⟩
theorem dAl_100 : Fet prog_33_method_11_code 100 102 (.iload 11) 2 := ⟨by decide +kernel, rfl⟩
theorem dAl_102 : Brn prog_33_method_11_code 102 105 108 (.ifCond .eq 6) 6 := ⟨by decide +kernel, rfl, by decide, by decide⟩
theorem dAl_105 : Brn prog_33_method_11_code 105 108 186 (.goto 81) 81 := ⟨by decide +kernel, rfl, by decide, by decide⟩
theorem dAl_186 : Fet prog_33_method_11_code 186 189 (.iinc 9 1) 3 := ⟨by decide +kernel, rfl⟩
theorem dAl_189 : Brn prog_33_method_11_code 189 192 46 (.goto (-143)) (-143) := ⟨by decide +kernel, rfl, by decide, by decide⟩
theorem dAl_108 : Fet prog_33_method_11_code 108 110 (.iload 6) 2 := ⟨by decide +kernel, rfl⟩
theorem dAl_110 : Fet prog_33_method_11_code 110 111 (.iconst 2) 1 := ⟨by decide +kernel, rfl⟩
theorem dAl_111 : Fet prog_33_method_11_code 111 112 (.isub) 1 := ⟨by decide +kernel, rfl⟩
theorem dAl_112 : Fet prog_33_method_11_code 112 114 (.istore 12) 2 := ⟨by decide +kernel, rfl⟩
theorem dAl_114 : Fet prog_33_method_11_code 114 116 (.iload 12) 2 := ⟨by decide +kernel, rfl⟩
theorem dAl_116 : Fet prog_33_method_11_code 116 118 (.iload 6) 2 := ⟨by decide +kernel, rfl⟩
theorem dAl_118 : Fet prog_33_method_11_code 118 119 (.iconst 2) 1 := ⟨by decide +kernel, rfl⟩
theorem dAl_119 : Fet prog_33_method_11_code 119 120 (.iadd) 1 := ⟨by decide +kernel, rfl⟩
theorem dAl_120 : Brn prog_33_method_11_code 120 123 186 (.if_icmp .gt 66) 66 := ⟨by decide +kernel, rfl, by decide, by decide⟩
theorem dAl_123 : Fet prog_33_method_11_code 123 125 (.iload 10) 2 := ⟨by decide +kernel, rfl⟩
theorem dAl_125 : Fet prog_33_method_11_code 125 126 (.iconst 2) 1 := ⟨by decide +kernel, rfl⟩
theorem dAl_126 : Fet prog_33_method_11_code 126 127 (.isub) 1 := ⟨by decide +kernel, rfl⟩
theorem dAl_127 : Fet prog_33_method_11_code 127 129 (.istore 13) 2 := ⟨by decide +kernel, rfl⟩
theorem dAl_129 : Fet prog_33_method_11_code 129 131 (.iload 13) 2 := ⟨by decide +kernel, rfl⟩
theorem dAl_131 : Fet prog_33_method_11_code 131 133 (.iload 10) 2 := ⟨by decide +kernel, rfl⟩
theorem dAl_133 : Fet prog_33_method_11_code 133 134 (.iconst 2) 1 := ⟨by decide +kernel, rfl⟩
theorem dAl_134 : Fet prog_33_method_11_code 134 135 (.iadd) 1 := ⟨by decide +kernel, rfl⟩
theorem dAl_135 : Brn prog_33_method_11_code 135 138 180 (.if_icmp .gt 45) 45 := ⟨by decide +kernel, rfl, by decide, by decide⟩
theorem dAl_180 : Fet prog_33_method_11_code 180 183 (.iinc 12 1) 3 := ⟨by decide +kernel, rfl⟩
theorem dAl_183 : Brn prog_33_method_11_code 183 186 114 (.goto (-69)) (-69) := ⟨by decide +kernel, rfl, by decide, by decide⟩
theorem dAl_138 : Fet prog_33_method_11_code 138 139 (.aload_n 0) 1 := ⟨by decide +kernel, rfl⟩
theorem dAl_139 : Fet prog_33_method_11_code 139 141 (.iload 12) 2 := ⟨by decide +kernel, rfl⟩
theorem dAl_141 : Fet prog_33_method_11_code 141 143 (.iload 13) 2 := ⟨by decide +kernel, rfl⟩
theorem dAl_143 : Fet prog_33_method_11_code 143 145 (.iload 12) 2 := ⟨by decide +kernel, rfl⟩
theorem dAl_145 : Fet prog_33_method_11_code 145 147 (.iload 6) 2 := ⟨by decide +kernel, rfl⟩
theorem dAl_147 : Fet prog_33_method_11_code 147 148 (.isub) 1 := ⟨by decide +kernel, rfl⟩
theorem dAl_148 : Fet prog_33_method_11_code 148 151 (.invokestatic 86) 3 := ⟨by decide +kernel, rfl⟩
theorem dAl_151 : Fet prog_33_method_11_code 151 153 (.iload 13) 2 := ⟨by decide +kernel, rfl⟩
theorem dAl_153 : Fet prog_33_method_11_code 153 155 (.iload 10) 2 := ⟨by decide +kernel, rfl⟩
theorem dAl_155 : Fet prog_33_method_11_code 155 156 (.isub) 1 := ⟨by decide +kernel, rfl⟩
theorem dAl_156 : Fet prog_33_method_11_code 156 159 (.invokestatic 86) 3 := ⟨by decide +kernel, rfl⟩
theorem dAl_159 : Fet prog_33_method_11_code 159 162 (.invokestatic 91) 3 := ⟨by decide +kernel, rfl⟩
theorem dAl_162 : Fet prog_33_method_11_code 162 163 (.iconst 1) 1 := ⟨by decide +kernel, rfl⟩
theorem dAl_171 : Fet prog_33_method_11_code 171 174 (.invokevirtual 33) 3 := ⟨by decide +kernel, rfl⟩
theorem dAl_174 : Fet prog_33_method_11_code 174 177 (.iinc 13 1) 3 := ⟨by decide +kernel, rfl⟩
theorem dAl_177 : Brn prog_33_method_11_code 177 180 129 (.goto (-48)) (-48) := ⟨by decide +kernel, rfl, by decide, by decide⟩
theorem dAl_163 : Brn prog_33_method_11_code 163 166 170 (.if_icmp .eq 7) 7 := ⟨by decide +kernel, rfl, by decide, by decide⟩
theorem dAl_170 : Fet prog_33_method_11_code 170 171 (.iconst 0) 1 := ⟨by decide +kernel, rfl⟩
theorem dAl_166 : Fet prog_33_method_11_code 166 167 (.iconst 1) 1 := ⟨by decide +kernel, rfl⟩
theorem dAl_167 : Brn prog_33_method_11_code 167 170 171 (.goto 4) 4 := ⟨by decide +kernel, rfl, by decide, by decide⟩
theorem dAl_64 : Brn prog_33_method_11_code 64 67 80 (.if_icmp .ne 16) 16 := ⟨by decide +kernel, rfl, by decide, by decide⟩
theorem dAl_80 : Fet prog_33_method_11_code 80 82 (.iload 6) 2 := ⟨by decide +kernel, rfl⟩
theorem dAl_82 : Fet prog_33_method_11_code 82 83 (.iload_n 2) 1 := ⟨by decide +kernel, rfl⟩
theorem dAl_83 : Brn prog_33_method_11_code 83 86 97 (.if_icmp .ne 14) 14 := ⟨by decide +kernel, rfl, by decide, by decide⟩
theorem dAl_97 : Fet prog_33_method_11_code 97 98 (.iconst 0) 1 := ⟨by decide +kernel, rfl⟩
theorem dAl_86 : Fet prog_33_method_11_code 86 88 (.iload 10) 2 := ⟨by decide +kernel, rfl⟩
theorem dAl_88 : Fet prog_33_method_11_code 88 90 (.bipush 6) 2 := ⟨by decide +kernel, rfl⟩
theorem dAl_90 : Brn prog_33_method_11_code 90 93 97 (.if_icmp .ne 7) 7 := ⟨by decide +kernel, rfl, by decide, by decide⟩
theorem dAl_93 : Fet prog_33_method_11_code 93 94 (.iconst 1) 1 := ⟨by decide +kernel, rfl⟩
theorem dAl_94 : Brn prog_33_method_11_code 94 97 98 (.goto 4) 4 := ⟨by decide +kernel, rfl, by decide, by decide⟩
theorem dAl_67 : Fet prog_33_method_11_code 67 69 (.iload 10) 2 := ⟨by decide +kernel, rfl⟩
theorem dAl_69 : Fet prog_33_method_11_code 69 71 (.bipush 6) 2 := ⟨by decide +kernel, rfl⟩
theorem dAl_71 : Brn prog_33_method_11_code 71 74 93 (.if_icmp .eq 22) 22 := ⟨by decide +kernel, rfl, by decide, by decide⟩
theorem dAl_74 : Fet prog_33_method_11_code 74 76 (.iload 10) 2 := ⟨by decide +kernel, rfl⟩
theorem dAl_76 : Fet prog_33_method_11_code 76 77 (.iload_n 2) 1 := ⟨by decide +kernel, rfl⟩
theorem dAl_77 : Brn prog_33_method_11_code 77 80 93 (.if_icmp .eq 16) 16 := ⟨by decide +kernel, rfl, by decide, by decide⟩
set_option maxRecDepth 65536 in
set_option maxHeartbeats 4000000 in
theorem rmAl (l : Launch) (Z : State) (a0 : Array Value) (hw : ∀ d ∈ tables_1, d.before a0 Z = true) (n0 : Nat) (hb : Heap) (a ad af : Addr) (ver size : Int32) (N : Nat) (st st' : own_St) (h : Heap) (M : own_Mat Z n0 hb h a ver size ad af N st) (hm : own_al N ver size st = some st') :
    ConN l Z n0 (⟨"com/example/tickstep/tickstep/encoding/QrMatrix", "drawAlignmentPatterns", "()V"⟩ : MethodName) prog_33_method_11_code 14 none [] ({ frames := 1, cells := 1, slots := 7, locals := 17 } : Room) #[(.ref a)] h (fun h' => own_Mat Z n0 hb h' a ver size ad af N st') := by
  refine con_of_wp (Ls := #[.val (.ref a), .unset, .unset, .unset, .unset, .unset, .unset, .unset, .unset, .unset, .unset, .unset, .unset, .unset]) (plainFor_of_name pn_com_example_tickstep_tickstep_encoding_QrMatrix) (fun m => by first | (simp [entryFrame, mkF, argsToLocals, Value.category]; done) | rfl) ?_
  intro K ok
  replace ok : Ok Z K prog_33_method_11_code "com/example/tickstep/tickstep/encoding/QrMatrix" "drawAlignmentPatterns" 14 none := ok
  show Wp l ({ frames := 1, cells := 1, slots := 7, locals := 17 } : Room) n0 K (fun v h' => v = none ∧ own_Mat Z n0 hb h' a ver size ad af N st') h 0 0 0 #[.val (.ref a), .unset, .unset, .unset, .unset, .unset, .unset, .unset, .unset, .unset, .unset, .unset, .unset, .unset] []
  obtain ⟨ls, hl, hm⟩ := own_al_inv hm
  obtain ⟨Z0, E_a, F_version, F_size, F_dark, F_function, A_d, A_f, ⟨gn_ad, gn_af, nda, na1, na2⟩, hpc, Kb⟩ := id M
  refine w_aloadN ok dAl_0 rfl rfl ?_
  refine w_privV ok (argsL := []) (rest := []) (hw _ (List.mem_of_getElem? (i := 42) rfl)) (hw _ (List.mem_of_getElem? (i := 43) rfl)) (hw _ (List.mem_of_getElem? (i := 44) rfl)) (hw _ (List.mem_of_getElem? (i := 3) rfl)) (hw _ (List.mem_of_getElem? (i := 4) rfl)) (hw _ (List.mem_of_getElem? (i := 45) rfl)) E_a (by decide) (rmAC l Z a0 hw n0 hb a ad af ver size N st h M ls hl) dAl_1 (lenOf pd___ArI rfl) rfl rfl (Nat.le_of_ble_eq_true rfl) (Nat.le_of_ble_eq_true rfl) (k' := 1) (n' := 7) rfl rfl (Nat.le_of_ble_eq_true rfl) (Nat.le_of_ble_eq_true rfl) ?_
  rintro _ h1 ⟨b, rfl, Vb, Kc, gb⟩
  have nb1 : b ≠ ad := Nat.ne_of_gt (Nat.lt_of_lt_of_le A_d.lt gb)
  have nb2 : b ≠ af := Nat.ne_of_gt (Nat.lt_of_lt_of_le A_f.lt gb)
  replace M := M.keep0 Kc
  obtain ⟨Z0, E_a, F_version, F_size, F_dark, F_function, A_d, A_f, ⟨gn_ad, gn_af, nda, na1, na2⟩, hpc, Kb⟩ := id M
  refine w_astoreN ok (Ls' := #[.val (.ref a), .val (.ref b), .unset, .unset, .unset, .unset, .unset, .unset, .unset, .unset, .unset, .unset, .unset, .unset]) dAl_4 rfl rfl ?_
  refine w_aloadN ok dAl_5 rfl rfl ?_
  refine w_getfield ok (host := "") (Or.inl (hw _ (List.mem_of_getElem? (i := 16) rfl))) Via.refl F_size dAl_6 ?_
  refine w_bipush ok (z := 7) dAl_9 rfl ?_
  refine w_isub ok dAl_11 ?_
  refine w_istoreN ok (Ls' := #[.val (.ref a), .val (.ref b), .val (.int (size - (7 : Int32))), .unset, .unset, .unset, .unset, .unset, .unset, .unset, .unset, .unset, .unset, .unset]) dAl_12 rfl ?_
  refine w_aloadN ok dAl_13 rfl rfl ?_
  refine w_astoreN ok (Ls' := #[.val (.ref a), .val (.ref b), .val (.int (size - (7 : Int32))), .val (.ref b), .unset, .unset, .unset, .unset, .unset, .unset, .unset, .unset, .unset, .unset]) dAl_14 rfl rfl ?_
  refine w_aloadN ok dAl_15 rfl rfl ?_
  refine w_arraylength ok Vb dAl_16 ?_
  refine w_int (b := (Int32.ofNat ls.length)) (by rw [List.length_map]) ?_
  refine w_istore ok (Ls' := #[.val (.ref a), .val (.ref b), .val (.int (size - (7 : Int32))), .val (.ref b), .val (.int (Int32.ofNat ls.length)), .unset, .unset, .unset, .unset, .unset, .unset, .unset, .unset, .unset]) dAl_17 rfl ?_
  refine w_iconst ok (z := 0) dAl_19 rfl ?_
  refine w_istore ok (Ls' := #[.val (.ref a), .val (.ref b), .val (.int (size - (7 : Int32))), .val (.ref b), .val (.int (Int32.ofNat ls.length)), .val (.int (0 : Int32)), .unset, .unset, .unset, .unset, .unset, .unset, .unset, .unset]) dAl_20 rfl ?_
  have outer : ∀ (n : Nat) (i : Int32) (s6 s7 s8 s9 s10 s11 s12 s13 : Slot) (hs6 : OneS s6) (hs7 : OneS s7) (hs8 : OneS s8) (hs9 : OneS s9) (hs10 : OneS s10) (hs11 : OneS s11) (hs12 : OneS s12) (hs13 : OneS s13) (hh : Heap) (st1 : own_St) (M : own_Mat Z n0 hb hh a ver size ad af N st1) (Vb : Ary Z hh b .int (ls.map Value.int)) (hm : own_ai N size ls n i st1 = some st'), Wp l ({ frames := 1, cells := 1, slots := 7, locals := 17 } : Room) n0 K (fun v h' => v = none ∧ own_Mat Z n0 hb h' a ver size ad af N st') hh 1 7 22 #[.val (.ref a), .val (.ref b), .val (.int (size - (7 : Int32))), .val (.ref b), .val (.int (Int32.ofNat ls.length)), .val (.int i), s6, s7, s8, s9, s10, s11, s12, s13] [] := by
    intro n
    clear hm
    induction n with
    | zero =>
      intro i s6 s7 s8 s9 s10 s11 s12 s13 hs6 hs7 hs8 hs9 hs10 hs11 hs12 hs13 hh st1 M Vb hm
      exact absurd hm (by simp [own_ai])
    | succ n ih =>
      intro i s6 s7 s8 s9 s10 s11 s12 s13 hs6 hs7 hs8 hs9 hs10 hs11 hs12 hs13 hh st1 M Vb hm
      obtain ⟨Z0, E_a, F_version, F_size, F_dark, F_function, A_d, A_f, ⟨gn_ad, gn_af, nda, na1, na2⟩, hpc, Kb⟩ := id M
      refine w_iload ok dAl_22 rfl ?_
      refine w_iload ok dAl_24 rfl ?_
      refine w_ic_ge ok dAl_26 (fun q => ?_) (fun q => ?_)
      · refine w_return ok dAl_198 (Nat.le_of_ble_eq_true rfl) (Nat.le_of_ble_eq_true rfl) ?_
        obtain rfl := own_ai_end q hm
        exact ⟨rfl, M⟩
      · obtain ⟨row, hj, hv, st2, hm1, hm2⟩ := own_ai_go q hm
        refine w_aloadN ok dAl_29 rfl rfl ?_
        refine w_iload ok dAl_30 rfl ?_
        refine w_ialoadJ ok Vb (by rw [List.length_map]; exact hj) (v := _) (by rw [List.getElem?_map, hv]; rfl) dAl_32 ?_
        refine w_istoreS ok (Ls' := #[.val (.ref a), .val (.ref b), .val (.int (size - (7 : Int32))), .val (.ref b), .val (.int (Int32.ofNat ls.length)), .val (.int i), .val (.int row), s7, s8, s9, s10, s11, s12, s13]) dAl_33 rfl hs6 rfl ?_
        refine w_aloadN ok dAl_35 rfl rfl ?_
        refine w_astoreS ok (Ls' := #[.val (.ref a), .val (.ref b), .val (.int (size - (7 : Int32))), .val (.ref b), .val (.int (Int32.ofNat ls.length)), .val (.int i), .val (.int row), .val (.ref b), s8, s9, s10, s11, s12, s13]) dAl_36 rfl hs7 rfl ?_
        refine w_aload ok dAl_38 rfl rfl ?_
        refine w_arraylength ok Vb dAl_40 ?_
        refine w_int (b := (Int32.ofNat ls.length)) (by rw [List.length_map]) ?_
        refine w_istoreS ok (Ls' := #[.val (.ref a), .val (.ref b), .val (.int (size - (7 : Int32))), .val (.ref b), .val (.int (Int32.ofNat ls.length)), .val (.int i), .val (.int row), .val (.ref b), .val (.int (Int32.ofNat ls.length)), s9, s10, s11, s12, s13]) dAl_41 rfl hs8 rfl ?_
        refine w_iconst ok (z := 0) dAl_43 rfl ?_
        refine w_istoreS ok (Ls' := #[.val (.ref a), .val (.ref b), .val (.int (size - (7 : Int32))), .val (.ref b), .val (.int (Int32.ofNat ls.length)), .val (.int i), .val (.int row), .val (.ref b), .val (.int (Int32.ofNat ls.length)), .val (.int (0 : Int32)), s10, s11, s12, s13]) dAl_44 rfl hs9 rfl ?_
        have mid : ∀ (m : Nat) (j : Int32) (s10 s11 s12 s13 : Slot) (hs10 : OneS s10) (hs11 : OneS s11) (hs12 : OneS s12) (hs13 : OneS s13) (hh : Heap) (st1 : own_St) (M : own_Mat Z n0 hb hh a ver size ad af N st1) (Vb : Ary Z hh b .int (ls.map Value.int)) (hm1 : own_aj N size row ls m j st1 = some st2), Wp l ({ frames := 1, cells := 1, slots := 7, locals := 17 } : Room) n0 K (fun v h' => v = none ∧ own_Mat Z n0 hb h' a ver size ad af N st') hh 1 7 46 #[.val (.ref a), .val (.ref b), .val (.int (size - (7 : Int32))), .val (.ref b), .val (.int (Int32.ofNat ls.length)), .val (.int i), .val (.int row), .val (.ref b), .val (.int (Int32.ofNat ls.length)), .val (.int j), s10, s11, s12, s13] [] := by
          intro m
          clear hm1
          induction m with
          | zero =>
            intro j s10 s11 s12 s13 hs10 hs11 hs12 hs13 hh st1 M Vb hm1
            exact absurd hm1 (by simp [own_aj])
          | succ m ihm =>
            intro j s10 s11 s12 s13 hs10 hs11 hs12 hs13 hh st1 M Vb hm1
            obtain ⟨Z0, E_a, F_version, F_size, F_dark, F_function, A_d, A_f, ⟨gn_ad, gn_af, nda, na1, na2⟩, hpc, Kb⟩ := id M
            refine w_iload ok dAl_46 rfl ?_
            refine w_iload ok dAl_48 rfl ?_
            refine w_ic_ge ok dAl_50 (fun q1 => ?_) (fun q1 => ?_)
            · refine w_iinc ok (Ls' := #[.val (.ref a), .val (.ref b), .val (.int (size - (7 : Int32))), .val (.ref b), .val (.int (Int32.ofNat ls.length)), .val (.int (i + (1 : Int32))), .val (.int row), .val (.ref b), .val (.int (Int32.ofNat ls.length)), .val (.int j), s10, s11, s12, s13]) dAl_192 rfl rfl ?_
              refine w_goto ok dAl_195 ?_
              obtain rfl := own_aj_end q1 hm1
              exact ih _ _ _ _ _ _ _ _ _ (OneS.int _) (OneS.ref _) (OneS.int _) (OneS.int _) hs10 hs11 hs12 hs13 _ _ M Vb hm2
            · obtain ⟨column, hj, hv, hgo1, hgo2⟩ := own_aj_go q1 hm1
              refine w_aload ok dAl_53 rfl rfl ?_
              refine w_iload ok dAl_55 rfl ?_
              refine w_ialoadJ ok Vb (by rw [List.length_map]; exact hj) (v := _) (by rw [List.getElem?_map, hv]; rfl) dAl_57 ?_
              refine w_istoreS ok (Ls' := #[.val (.ref a), .val (.ref b), .val (.int (size - (7 : Int32))), .val (.ref b), .val (.int (Int32.ofNat ls.length)), .val (.int i), .val (.int row), .val (.ref b), .val (.int (Int32.ofNat ls.length)), .val (.int j), .val (.int column), s11, s12, s13]) dAl_58 rfl hs10 rfl ?_
              refine w_iload ok dAl_60 rfl ?_
              refine w_bipush ok (z := 6) dAl_62 rfl ?_
              have J98 : ∀ (z : Int32) (hz1 : own_onf row column (size - 7) = true → ¬ z = 0) (hz0 : own_onf row column (size - 7) = false → z = 0), Wp l ({ frames := 1, cells := 1, slots := 7, locals := 17 } : Room) n0 K (fun v h' => v = none ∧ own_Mat Z n0 hb h' a ver size ad af N st') hh 1 7 98 #[.val (.ref a), .val (.ref b), .val (.int (size - (7 : Int32))), .val (.ref b), .val (.int (Int32.ofNat ls.length)), .val (.int i), .val (.int row), .val (.ref b), .val (.int (Int32.ofNat ls.length)), .val (.int j), .val (.int column), s11, s12, s13] [(.int z)] := by
                intro z hz1 hz0
                refine w_istoreS ok (Ls' := #[.val (.ref a), .val (.ref b), .val (.int (size - (7 : Int32))), .val (.ref b), .val (.int (Int32.ofNat ls.length)), .val (.int i), .val (.int row), .val (.ref b), .val (.int (Int32.ofNat ls.length)), .val (.int j), .val (.int column), .val (.int z), s12, s13]) dAl_98 rfl hs11 rfl ?_
                refine w_iload ok dAl_100 rfl ?_
                refine w_if_eq ok dAl_102 (fun qz => ?_) (fun qz => ?_)
                · have hon : own_onf row column (size - 7) = false := by
                    cases e : own_onf row column (size - 7)
                    · rfl
                    · exact absurd qz (hz1 e)
                  obtain ⟨st3, hr, hm1⟩ := hgo2 hon
                  refine w_iload ok dAl_108 rfl ?_
                  refine w_iconst ok (z := 2) dAl_110 rfl ?_
                  refine w_isub ok dAl_111 ?_
                  refine w_istoreS ok (Ls' := #[.val (.ref a), .val (.ref b), .val (.int (size - (7 : Int32))), .val (.ref b), .val (.int (Int32.ofNat ls.length)), .val (.int i), .val (.int row), .val (.ref b), .val (.int (Int32.ofNat ls.length)), .val (.int j), .val (.int column), .val (.int z), .val (.int (row - (2 : Int32))), s13]) dAl_112 rfl hs12 rfl ?_
                  have rl : ∀ (p : Nat) (r : Int32) (s13 : Slot) (hs13 : OneS s13) (hh : Heap) (st1 : own_St) (M : own_Mat Z n0 hb hh a ver size ad af N st1) (Vb : Ary Z hh b .int (ls.map Value.int)) (hr : own_ar N size row column p r st1 = some st3), Wp l ({ frames := 1, cells := 1, slots := 7, locals := 17 } : Room) n0 K (fun v h' => v = none ∧ own_Mat Z n0 hb h' a ver size ad af N st') hh 1 7 114 #[.val (.ref a), .val (.ref b), .val (.int (size - (7 : Int32))), .val (.ref b), .val (.int (Int32.ofNat ls.length)), .val (.int i), .val (.int row), .val (.ref b), .val (.int (Int32.ofNat ls.length)), .val (.int j), .val (.int column), .val (.int z), .val (.int r), s13] [] := by
                    intro p
                    clear hr
                    induction p with
                    | zero =>
                      intro r s13 hs13 hh st1 M Vb hr
                      exact absurd hr (by simp [own_ar])
                    | succ p ihr =>
                      intro r s13 hs13 hh st1 M Vb hr
                      obtain ⟨Z0, E_a, F_version, F_size, F_dark, F_function, A_d, A_f, ⟨gn_ad, gn_af, nda, na1, na2⟩, hpc, Kb⟩ := id M
                      refine w_iload ok dAl_114 rfl ?_
                      refine w_iload ok dAl_116 rfl ?_
                      refine w_iconst ok (z := 2) dAl_118 rfl ?_
                      refine w_iadd ok dAl_119 ?_
                      refine w_ic_gt ok dAl_120 (fun q2 => ?_) (fun q2 => ?_)
                      · refine w_iinc ok (Ls' := #[.val (.ref a), .val (.ref b), .val (.int (size - (7 : Int32))), .val (.ref b), .val (.int (Int32.ofNat ls.length)), .val (.int i), .val (.int row), .val (.ref b), .val (.int (Int32.ofNat ls.length)), .val (.int (j + (1 : Int32))), .val (.int column), .val (.int z), .val (.int r), s13]) dAl_186 rfl rfl ?_
                        refine w_goto ok dAl_189 ?_
                        obtain rfl := own_ar_end q2 hr
                        exact ihm _ _ _ _ _ (OneS.int _) (OneS.int _) (OneS.int _) hs13 _ _ M Vb hm1
                      · obtain ⟨st4, hc, hr⟩ := own_ar_go q2 hr
                        refine w_iload ok dAl_123 rfl ?_
                        refine w_iconst ok (z := 2) dAl_125 rfl ?_
                        refine w_isub ok dAl_126 ?_
                        refine w_istoreS ok (Ls' := #[.val (.ref a), .val (.ref b), .val (.int (size - (7 : Int32))), .val (.ref b), .val (.int (Int32.ofNat ls.length)), .val (.int i), .val (.int row), .val (.ref b), .val (.int (Int32.ofNat ls.length)), .val (.int j), .val (.int column), .val (.int z), .val (.int r), .val (.int (column - (2 : Int32)))]) dAl_127 rfl hs13 rfl ?_
                        have cl : ∀ (p2 : Nat) (c : Int32) (hh : Heap) (st1 : own_St) (M : own_Mat Z n0 hb hh a ver size ad af N st1) (Vb : Ary Z hh b .int (ls.map Value.int)) (hc : own_ac N size row column r p2 c st1 = some st4), Wp l ({ frames := 1, cells := 1, slots := 7, locals := 17 } : Room) n0 K (fun v h' => v = none ∧ own_Mat Z n0 hb h' a ver size ad af N st') hh 1 7 129 #[.val (.ref a), .val (.ref b), .val (.int (size - (7 : Int32))), .val (.ref b), .val (.int (Int32.ofNat ls.length)), .val (.int i), .val (.int row), .val (.ref b), .val (.int (Int32.ofNat ls.length)), .val (.int j), .val (.int column), .val (.int z), .val (.int r), .val (.int c)] [] := by
                          intro p2
                          clear hc
                          induction p2 with
                          | zero =>
                            intro c hh st1 M Vb hc
                            exact absurd hc (by simp [own_ac])
                          | succ p2 ihc =>
                            intro c hh st1 M Vb hc
                            obtain ⟨Z0, E_a, F_version, F_size, F_dark, F_function, A_d, A_f, ⟨gn_ad, gn_af, nda, na1, na2⟩, hpc, Kb⟩ := id M
                            refine w_iload ok dAl_129 rfl ?_
                            refine w_iload ok dAl_131 rfl ?_
                            refine w_iconst ok (z := 2) dAl_133 rfl ?_
                            refine w_iadd ok dAl_134 ?_
                            refine w_ic_gt ok dAl_135 (fun q3 => ?_) (fun q3 => ?_)
                            · refine w_iinc ok (Ls' := #[.val (.ref a), .val (.ref b), .val (.int (size - (7 : Int32))), .val (.ref b), .val (.int (Int32.ofNat ls.length)), .val (.int i), .val (.int row), .val (.ref b), .val (.int (Int32.ofNat ls.length)), .val (.int j), .val (.int column), .val (.int z), .val (.int (r + (1 : Int32))), .val (.int c)]) dAl_180 rfl rfl ?_
                              refine w_goto ok dAl_183 ?_
                              obtain rfl := own_ac_end q3 hc
                              exact ihr _ _ (OneS.int _) _ _ M Vb hr
                            · obtain ⟨st5, hd, hc⟩ := own_ac_go q3 hc
                              refine w_aloadN ok dAl_138 rfl rfl ?_
                              refine w_iload ok dAl_139 rfl ?_
                              refine w_iload ok dAl_141 rfl ?_
                              refine w_iload ok dAl_143 rfl ?_
                              refine w_iload ok dAl_145 rfl ?_
                              refine w_isub ok dAl_147 ?_
                              refine w_callSV ok (argsL := [(.int (r - row))]) (rest := [(.int c), (.int r), (.ref a)]) (hw _ (List.mem_of_getElem? (i := 27) rfl)) (hw _ (List.mem_of_getElem? (i := 28) rfl)) (hw _ (List.mem_of_getElem? (i := 29) rfl)) (hw _ (List.mem_of_getElem? (i := 30) rfl)) (by decide) (rmAbs l Z a0 hw n0 _ hh) dAl_148 (lenOf pd__I_I rfl) rfl rfl (Nat.le_of_ble_eq_true rfl) (Nat.le_of_ble_eq_true rfl) (k' := 1) (n' := 7) rfl rfl (Nat.le_of_ble_eq_true rfl) (Nat.le_of_ble_eq_true rfl) ?_
                              rintro _ _ ⟨rfl, rfl⟩
                              refine w_iload ok dAl_151 rfl ?_
                              refine w_iload ok dAl_153 rfl ?_
                              refine w_isub ok dAl_155 ?_
                              refine w_callSV ok (argsL := [(.int (c - column))]) (rest := [(.int (own_abs (r - row))), (.int c), (.int r), (.ref a)]) (hw _ (List.mem_of_getElem? (i := 27) rfl)) (hw _ (List.mem_of_getElem? (i := 28) rfl)) (hw _ (List.mem_of_getElem? (i := 29) rfl)) (hw _ (List.mem_of_getElem? (i := 30) rfl)) (by decide) (rmAbs l Z a0 hw n0 _ hh) dAl_156 (lenOf pd__I_I rfl) rfl rfl (Nat.le_of_ble_eq_true rfl) (Nat.le_of_ble_eq_true rfl) (k' := 1) (n' := 7) rfl rfl (Nat.le_of_ble_eq_true rfl) (Nat.le_of_ble_eq_true rfl) ?_
                              rintro _ _ ⟨rfl, rfl⟩
                              refine w_callSV ok (argsL := [(.int (own_abs (r - row))), (.int (own_abs (c - column)))]) (rest := [(.int c), (.int r), (.ref a)]) (hw _ (List.mem_of_getElem? (i := 31) rfl)) (hw _ (List.mem_of_getElem? (i := 32) rfl)) (hw _ (List.mem_of_getElem? (i := 29) rfl)) (hw _ (List.mem_of_getElem? (i := 33) rfl)) (by decide) (rmMax l Z a0 hw n0 _ _ hh) dAl_159 (lenOf pd__II_I rfl) rfl rfl (Nat.le_of_ble_eq_true rfl) (Nat.le_of_ble_eq_true rfl) (k' := 1) (n' := 7) rfl rfl (Nat.le_of_ble_eq_true rfl) (Nat.le_of_ble_eq_true rfl) ?_
                              rintro _ _ ⟨rfl, rfl⟩
                              refine w_iconst ok (z := 1) dAl_162 rfl ?_
                              have J171 : ∀ (zz : Int32) (hz : zz = own_ring2 (r - row) (c - column)), Wp l ({ frames := 1, cells := 1, slots := 7, locals := 17 } : Room) n0 K (fun v h' => v = none ∧ own_Mat Z n0 hb h' a ver size ad af N st') hh 1 7 171 #[.val (.ref a), .val (.ref b), .val (.int (size - (7 : Int32))), .val (.ref b), .val (.int (Int32.ofNat ls.length)), .val (.int i), .val (.int row), .val (.ref b), .val (.int (Int32.ofNat ls.length)), .val (.int j), .val (.int column), .val (.int z), .val (.int r), .val (.int c)] [(.int zz), (.int c), (.int r), (.ref a)] := by
                                intro zz hz
                                subst hz
                                refine w_privN ok (argsL := [(.int r), (.int c), (.int (own_ring2 (r - row) (c - column)))]) (rest := []) (hw _ (List.mem_of_getElem? (i := 34) rfl)) (hw _ (List.mem_of_getElem? (i := 35) rfl)) (hw _ (List.mem_of_getElem? (i := 36) rfl)) (hw _ (List.mem_of_getElem? (i := 3) rfl)) (hw _ (List.mem_of_getElem? (i := 4) rfl)) (hw _ (List.mem_of_getElem? (i := 37) rfl)) E_a (by decide) (rmDF l Z a0 hw n0 hb a ad af ver size N r c _ st1 st5 hh M hd) dAl_171 (lenOf pd__IIZ_V rfl) rfl rfl (Nat.le_of_ble_eq_true rfl) (Nat.le_of_ble_eq_true rfl) (k' := 1) (n' := 7) rfl rfl (Nat.le_of_ble_eq_true rfl) (Nat.le_of_ble_eq_true rfl) ?_
                                rintro h9 ⟨Kc, M⟩
                                replace Vb := Vb.keep Kc (ninS nb1 (ninS nb2 nin0))
                                refine w_iinc ok (Ls' := #[.val (.ref a), .val (.ref b), .val (.int (size - (7 : Int32))), .val (.ref b), .val (.int (Int32.ofNat ls.length)), .val (.int i), .val (.int row), .val (.ref b), .val (.int (Int32.ofNat ls.length)), .val (.int j), .val (.int column), .val (.int z), .val (.int r), .val (.int (c + (1 : Int32)))]) dAl_174 rfl rfl ?_
                                refine w_goto ok dAl_177 ?_
                                exact ihc _ _ _ M Vb hc
                              refine w_ic_eq ok dAl_163 (fun r1 => ?_) (fun r1 => ?_)
                              · refine w_iconst ok (z := 0) dAl_170 rfl ?_
                                exact J171 _ (by rw [own_ring2, if_pos r1])
                              · refine w_iconst ok (z := 1) dAl_166 rfl ?_
                                refine w_goto ok dAl_167 ?_
                                exact J171 _ (by rw [own_ring2, if_neg r1])
                        exact cl 6 _ _ _ M Vb hc
                  exact rl 6 _ _ hs13 _ _ M Vb hr
                · refine w_goto ok dAl_105 ?_
                  refine w_iinc ok (Ls' := #[.val (.ref a), .val (.ref b), .val (.int (size - (7 : Int32))), .val (.ref b), .val (.int (Int32.ofNat ls.length)), .val (.int i), .val (.int row), .val (.ref b), .val (.int (Int32.ofNat ls.length)), .val (.int (j + (1 : Int32))), .val (.int column), .val (.int z), s12, s13]) dAl_186 rfl rfl ?_
                  refine w_goto ok dAl_189 ?_
                  have hon : own_onf row column (size - 7) = true := by
                    cases e : own_onf row column (size - 7)
                    · exact absurd (hz0 e) qz
                    · rfl
                  exact ihm _ _ _ _ _ (OneS.int _) (OneS.int _) hs12 hs13 _ _ M Vb (hgo1 hon)
              refine w_ic_ne ok dAl_64 (fun o1 => ?_) (fun o1 => ?_)
              · refine w_iload ok dAl_80 rfl ?_
                refine w_iloadN ok dAl_82 rfl ?_
                refine w_ic_ne ok dAl_83 (fun o4 => ?_) (fun o4 => ?_)
                · refine w_iconst ok (z := 0) dAl_97 rfl ?_
                  exact J98 _ (fun e => absurd (own_onf_f (fun o => o.elim (fun o => o1 o.1) (fun o => o4 o.1))) (by rw [e]; decide)) (fun _ => rfl)
                · refine w_iload ok dAl_86 rfl ?_
                  refine w_bipush ok (z := 6) dAl_88 rfl ?_
                  refine w_ic_ne ok dAl_90 (fun o5 => ?_) (fun o5 => ?_)
                  · refine w_iconst ok (z := 0) dAl_97 rfl ?_
                    exact J98 _ (fun e => absurd (own_onf_f (fun o => o.elim (fun o => o1 o.1) (fun o => o5 o.2))) (by rw [e]; decide)) (fun _ => rfl)
                  · refine w_iconst ok (z := 1) dAl_93 rfl ?_
                    refine w_goto ok dAl_94 ?_
                    exact J98 _ (fun _ => by decide) (fun e => absurd (own_onf_t (Or.inr ⟨o4, o5⟩)) (by rw [e]; decide))
              · refine w_iload ok dAl_67 rfl ?_
                refine w_bipush ok (z := 6) dAl_69 rfl ?_
                refine w_ic_eq ok dAl_71 (fun o2 => ?_) (fun o2 => ?_)
                · refine w_iconst ok (z := 1) dAl_93 rfl ?_
                  refine w_goto ok dAl_94 ?_
                  exact J98 _ (fun _ => by decide) (fun e => absurd (own_onf_t (Or.inl ⟨o1, Or.inl o2⟩)) (by rw [e]; decide))
                · refine w_iload ok dAl_74 rfl ?_
                  refine w_iloadN ok dAl_76 rfl ?_
                  refine w_ic_eq ok dAl_77 (fun o3 => ?_) (fun o3 => ?_)
                  · refine w_iconst ok (z := 1) dAl_93 rfl ?_
                    refine w_goto ok dAl_94 ?_
                    exact J98 _ (fun _ => by decide) (fun e => absurd (own_onf_t (Or.inl ⟨o1, Or.inr o3⟩)) (by rw [e]; decide))
                  · refine w_iload ok dAl_80 rfl ?_
                    refine w_iloadN ok dAl_82 rfl ?_
                    refine w_ic_ne ok dAl_83 (fun o4 => ?_) (fun o4 => ?_)
                    · refine w_iconst ok (z := 0) dAl_97 rfl ?_
                      exact J98 _ (fun e => absurd (own_onf_f (fun o => o.elim (fun o => o.2.elim o2 o3) (fun o => o4 o.1))) (by rw [e]; decide)) (fun _ => rfl)
                    · refine w_iload ok dAl_86 rfl ?_
                      refine w_bipush ok (z := 6) dAl_88 rfl ?_
                      refine w_ic_ne ok dAl_90 (fun o5 => ?_) (fun o5 => ?_)
                      · refine w_iconst ok (z := 0) dAl_97 rfl ?_
                        exact J98 _ (fun e => absurd (own_onf_f (fun o => o.elim (fun o => o.2.elim o2 o3) (fun o => o5 o.2))) (by rw [e]; decide)) (fun _ => rfl)
                      · refine w_iconst ok (z := 1) dAl_93 rfl ?_
                        refine w_goto ok dAl_94 ?_
                        exact J98 _ (fun _ => by decide) (fun e => absurd (own_onf_t (Or.inr ⟨o4, o5⟩)) (by rw [e]; decide))
        exact mid 8 _ _ _ _ _ hs10 hs11 hs12 hs13 _ _ M Vb hm1
  exact outer 8 _ _ _ _ _ _ _ _ _ (Or.inl rfl) (Or.inl rfl) (Or.inl rfl) (Or.inl rfl) (Or.inl rfl) (Or.inl rfl) (Or.inl rfl) (Or.inl rfl) _ _ M Vb hm
theorem dFM_0 : Fet prog_33_method_15_code 0 1 (.iconst 4) 1 := ⟨by decide +kernel, rfl⟩
theorem dFM_1 : Fet prog_33_method_15_code 1 3 (.newarray .int) 2 := ⟨by decide +kernel, rfl⟩
theorem dFM_3 : Fet prog_33_method_15_code 3 4 (.astore_n 2) 1 := ⟨by decide +kernel, rfl⟩
theorem dFM_4 : Fet prog_33_method_15_code 4 5 (.iload_n 1) 1 := ⟨by decide +kernel, rfl⟩
theorem dFM_5 : Fet prog_33_method_15_code 5 7 (.bipush 6) 2 := ⟨by decide +kernel, rfl⟩
theorem dFM_7 : Brn prog_33_method_15_code 7 10 22 (.if_icmp .ge 15) 15 := ⟨by decide +kernel, rfl, by decide, by decide⟩
theorem dFM_10 : Fet prog_33_method_15_code 10 11 (.aload_n 2) 1 := ⟨by decide +kernel, rfl⟩
theorem dFM_11 : Fet prog_33_method_15_code 11 12 (.iconst 0) 1 := ⟨by decide +kernel, rfl⟩
theorem dFM_12 : Fet prog_33_method_15_code 12 13 (.iload_n 1) 1 := ⟨by decide +kernel, rfl⟩
theorem dFM_13 : Fet prog_33_method_15_code 13 14 (.iastore) 1 := ⟨by decide +kernel, rfl⟩
theorem dFM_14 : Fet prog_33_method_15_code 14 15 (.aload_n 2) 1 := ⟨by decide +kernel, rfl⟩
theorem dFM_15 : Fet prog_33_method_15_code 15 16 (.iconst 1) 1 := ⟨by decide +kernel, rfl⟩
theorem dFM_16 : Fet prog_33_method_15_code 16 18 (.bipush 8) 2 := ⟨by decide +kernel, rfl⟩
theorem dFM_18 : Fet prog_33_method_15_code 18 19 (.iastore) 1 := ⟨by decide +kernel, rfl⟩
theorem dFM_19 : Brn prog_33_method_15_code 19 22 73 (.goto 54) 54 := ⟨by decide +kernel, rfl, by decide, by decide⟩
theorem dFM_73 : Fet prog_33_method_15_code 73 74 (.iload_n 1) 1 := ⟨by decide +kernel, rfl⟩
theorem dFM_74 : Fet prog_33_method_15_code 74 76 (.bipush 8) 2 := ⟨by decide +kernel, rfl⟩
theorem dFM_76 : Brn prog_33_method_15_code 76 79 98 (.if_icmp .ge 22) 22 := ⟨by decide +kernel, rfl, by decide, by decide⟩
theorem dFM_98 : Fet prog_33_method_15_code 98 99 (.aload_n 2) 1 := ⟨by decide +kernel, rfl⟩
theorem dFM_99 : Fet prog_33_method_15_code 99 100 (.iconst 2) 1 := ⟨by decide +kernel, rfl⟩
theorem dFM_100 : Fet prog_33_method_15_code 100 101 (.aload_n 0) 1 := ⟨by decide +kernel, rfl⟩
theorem dFM_101 : Fet prog_33_method_15_code 101 104 (.getfield 17) 3 := ⟨by decide +kernel, rfl⟩
theorem dFM_104 : Fet prog_33_method_15_code 104 106 (.bipush 15) 2 := ⟨by decide +kernel, rfl⟩
theorem dFM_106 : Fet prog_33_method_15_code 106 107 (.isub) 1 := ⟨by decide +kernel, rfl⟩
theorem dFM_107 : Fet prog_33_method_15_code 107 108 (.iload_n 1) 1 := ⟨by decide +kernel, rfl⟩
theorem dFM_108 : Fet prog_33_method_15_code 108 109 (.iadd) 1 := ⟨by decide +kernel, rfl⟩
theorem dFM_109 : Fet prog_33_method_15_code 109 110 (.iastore) 1 := ⟨by decide +kernel, rfl⟩
theorem dFM_110 : Fet prog_33_method_15_code 110 111 (.aload_n 2) 1 := ⟨by decide +kernel, rfl⟩
theorem dFM_111 : Fet prog_33_method_15_code 111 112 (.iconst 3) 1 := ⟨by decide +kernel, rfl⟩
theorem dFM_112 : Fet prog_33_method_15_code 112 114 (.bipush 8) 2 := ⟨by decide +kernel, rfl⟩
theorem dFM_114 : Fet prog_33_method_15_code 114 115 (.iastore) 1 := ⟨by decide +kernel, rfl⟩
theorem dFM_115 : Fet prog_33_method_15_code 115 116 (.aload_n 2) 1 := ⟨by decide +kernel, rfl⟩
theorem dFM_116 : Fet prog_33_method_15_code 116 117 (.areturn) 1 := ⟨by decide +kernel, rfl⟩
theorem dFM_79 : Fet prog_33_method_15_code 79 80 (.aload_n 2) 1 := ⟨by decide +kernel, rfl⟩
theorem dFM_80 : Fet prog_33_method_15_code 80 81 (.iconst 2) 1 := ⟨by decide +kernel, rfl⟩
theorem dFM_81 : Fet prog_33_method_15_code 81 83 (.bipush 8) 2 := ⟨by decide +kernel, rfl⟩
theorem dFM_83 : Fet prog_33_method_15_code 83 84 (.iastore) 1 := ⟨by decide +kernel, rfl⟩
theorem dFM_84 : Fet prog_33_method_15_code 84 85 (.aload_n 2) 1 := ⟨by decide +kernel, rfl⟩
theorem dFM_85 : Fet prog_33_method_15_code 85 86 (.iconst 3) 1 := ⟨by decide +kernel, rfl⟩
theorem dFM_86 : Fet prog_33_method_15_code 86 87 (.aload_n 0) 1 := ⟨by decide +kernel, rfl⟩
theorem dFM_87 : Fet prog_33_method_15_code 87 90 (.getfield 17) 3 := ⟨by decide +kernel, rfl⟩
theorem dFM_90 : Fet prog_33_method_15_code 90 91 (.iconst 1) 1 := ⟨by decide +kernel, rfl⟩
theorem dFM_91 : Fet prog_33_method_15_code 91 92 (.isub) 1 := ⟨by decide +kernel, rfl⟩
theorem dFM_92 : Fet prog_33_method_15_code 92 93 (.iload_n 1) 1 := ⟨by decide +kernel, rfl⟩
theorem dFM_93 : Fet prog_33_method_15_code 93 94 (.isub) 1 := ⟨by decide +kernel, rfl⟩
theorem dFM_94 : Fet prog_33_method_15_code 94 95 (.iastore) 1 := ⟨by decide +kernel, rfl⟩
theorem dFM_95 : Brn prog_33_method_15_code 95 98 115 (.goto 20) 20 := ⟨by decide +kernel, rfl, by decide, by decide⟩
theorem dFM_22 : Fet prog_33_method_15_code 22 23 (.iload_n 1) 1 := ⟨by decide +kernel, rfl⟩
theorem dFM_23 : Fet prog_33_method_15_code 23 25 (.bipush 8) 2 := ⟨by decide +kernel, rfl⟩
theorem dFM_25 : Brn prog_33_method_15_code 25 28 42 (.if_icmp .ge 17) 17 := ⟨by decide +kernel, rfl, by decide, by decide⟩
theorem dFM_28 : Fet prog_33_method_15_code 28 29 (.aload_n 2) 1 := ⟨by decide +kernel, rfl⟩
theorem dFM_29 : Fet prog_33_method_15_code 29 30 (.iconst 0) 1 := ⟨by decide +kernel, rfl⟩
theorem dFM_30 : Fet prog_33_method_15_code 30 31 (.iload_n 1) 1 := ⟨by decide +kernel, rfl⟩
theorem dFM_31 : Fet prog_33_method_15_code 31 32 (.iconst 1) 1 := ⟨by decide +kernel, rfl⟩
theorem dFM_32 : Fet prog_33_method_15_code 32 33 (.iadd) 1 := ⟨by decide +kernel, rfl⟩
theorem dFM_33 : Fet prog_33_method_15_code 33 34 (.iastore) 1 := ⟨by decide +kernel, rfl⟩
theorem dFM_34 : Fet prog_33_method_15_code 34 35 (.aload_n 2) 1 := ⟨by decide +kernel, rfl⟩
theorem dFM_35 : Fet prog_33_method_15_code 35 36 (.iconst 1) 1 := ⟨by decide +kernel, rfl⟩
theorem dFM_36 : Fet prog_33_method_15_code 36 38 (.bipush 8) 2 := ⟨by decide +kernel, rfl⟩
theorem dFM_38 : Fet prog_33_method_15_code 38 39 (.iastore) 1 := ⟨by decide +kernel, rfl⟩
theorem dFM_39 : Brn prog_33_method_15_code 39 42 73 (.goto 34) 34 := ⟨by decide +kernel, rfl, by decide, by decide⟩
theorem dFM_42 : Fet prog_33_method_15_code 42 43 (.iload_n 1) 1 := ⟨by decide +kernel, rfl⟩
theorem dFM_43 : Fet prog_33_method_15_code 43 45 (.bipush 8) 2 := ⟨by decide +kernel, rfl⟩
theorem dFM_45 : Brn prog_33_method_15_code 45 48 61 (.if_icmp .ne 16) 16 := ⟨by decide +kernel, rfl, by decide, by decide⟩
theorem dFM_48 : Fet prog_33_method_15_code 48 49 (.aload_n 2) 1 := ⟨by decide +kernel, rfl⟩
theorem dFM_49 : Fet prog_33_method_15_code 49 50 (.iconst 0) 1 := ⟨by decide +kernel, rfl⟩
theorem dFM_50 : Fet prog_33_method_15_code 50 52 (.bipush 8) 2 := ⟨by decide +kernel, rfl⟩
theorem dFM_52 : Fet prog_33_method_15_code 52 53 (.iastore) 1 := ⟨by decide +kernel, rfl⟩
theorem dFM_53 : Fet prog_33_method_15_code 53 54 (.aload_n 2) 1 := ⟨by decide +kernel, rfl⟩
theorem dFM_54 : Fet prog_33_method_15_code 54 55 (.iconst 1) 1 := ⟨by decide +kernel, rfl⟩
theorem dFM_55 : Fet prog_33_method_15_code 55 57 (.bipush 7) 2 := ⟨by decide +kernel, rfl⟩
theorem dFM_57 : Fet prog_33_method_15_code 57 58 (.iastore) 1 := ⟨by decide +kernel, rfl⟩
theorem dFM_58 : Brn prog_33_method_15_code 58 61 73 (.goto 15) 15 := ⟨by decide +kernel, rfl, by decide, by decide⟩
theorem dFM_61 : Fet prog_33_method_15_code 61 62 (.aload_n 2) 1 := ⟨by decide +kernel, rfl⟩
theorem dFM_62 : Fet prog_33_method_15_code 62 63 (.iconst 0) 1 := ⟨by decide +kernel, rfl⟩
theorem dFM_63 : Fet prog_33_method_15_code 63 65 (.bipush 8) 2 := ⟨by decide +kernel, rfl⟩
theorem dFM_65 : Fet prog_33_method_15_code 65 66 (.iastore) 1 := ⟨by decide +kernel, rfl⟩
theorem dFM_66 : Fet prog_33_method_15_code 66 67 (.aload_n 2) 1 := ⟨by decide +kernel, rfl⟩
theorem dFM_67 : Fet prog_33_method_15_code 67 68 (.iconst 1) 1 := ⟨by decide +kernel, rfl⟩
theorem dFM_68 : Fet prog_33_method_15_code 68 70 (.bipush 14) 2 := ⟨by decide +kernel, rfl⟩
theorem dFM_70 : Fet prog_33_method_15_code 70 71 (.iload_n 1) 1 := ⟨by decide +kernel, rfl⟩
theorem dFM_71 : Fet prog_33_method_15_code 71 72 (.isub) 1 := ⟨by decide +kernel, rfl⟩
theorem dFM_72 : Fet prog_33_method_15_code 72 73 (.iastore) 1 := ⟨by decide +kernel, rfl⟩
set_option maxRecDepth 65536 in
set_option maxHeartbeats 4000000 in
theorem rmFM (l : Launch) (Z : State) (a0 : Array Value) (hw : ∀ d ∈ tables_1, d.before a0 Z = true) (n0 : Nat) (hb : Heap) (a ad af : Addr) (ver size : Int32) (N : Nat) (st : own_St) (bit : Int32) (h : Heap) (M : own_Mat Z n0 hb h a ver size ad af N st) :
    ConV l Z n0 (⟨"com/example/tickstep/tickstep/encoding/QrMatrix", "formatModules", "(I)[I"⟩ : MethodName) prog_33_method_15_code 3 (some (.array .int)) [] ({ frames := 0, cells := 1, slots := 4, locals := 0 } : Room) #[(.ref a), (.int bit)] h (fun w h' => ∃ b, w = .ref b ∧ Ary Z h' b .int [.int (own_f0 bit), .int (own_f1 bit), .int (own_f2 size bit), .int (own_f3 size bit)] ∧ Keep h h' [] ∧ h.size ≤ b) := by
  refine con_of_wp (Ls := #[.val (.ref a), .val (.int bit), .unset]) (plainFor_of_name pn_com_example_tickstep_tickstep_encoding_QrMatrix) (fun m => by first | (simp [entryFrame, mkF, argsToLocals, Value.category]; done) | rfl) ?_
  intro K ok
  replace ok : Ok Z K prog_33_method_15_code "com/example/tickstep/tickstep/encoding/QrMatrix" "formatModules" 3 (some (.array .int)) := ok
  show Wp l ({ frames := 0, cells := 1, slots := 4, locals := 0 } : Room) n0 K (fun v h' => ∃ w, v = some w ∧ ∃ b, w = .ref b ∧ Ary Z h' b .int [.int (own_f0 bit), .int (own_f1 bit), .int (own_f2 size bit), .int (own_f3 size bit)] ∧ Keep h h' [] ∧ h.size ≤ b) h 0 0 0 #[.val (.ref a), .val (.int bit), .unset] []
  obtain ⟨Z0, E_a, F_version, F_size, F_dark, F_function, A_d, A_f, ⟨gn_ad, gn_af, nda, na1, na2⟩, hpc, Kb⟩ := id M
  have Kp : Keep h h [] := Keep.refl _ _
  refine w_iconst ok (z := 4) dFM_0 rfl ?_
  refine w_newarray ok (cap := 4) (hw _ (List.mem_of_getElem? (i := 46) rfl)) dFM_1 (by decide) (by decide) (by decide) (k' := 1) (n' := 4) rfl rfl (Nat.le_of_ble_eq_true rfl) (Nat.le_of_ble_eq_true rfl) (fun h1 b1 cA1 g1 E1 A1 => ?_)
  have ne_a_b1 : a ≠ b1 := Nat.ne_of_lt (Nat.lt_of_lt_of_le E_a.lt (Nat.le_of_eq g1.symm))
  have ne_ad_b1 : ad ≠ b1 := Nat.ne_of_lt (Nat.lt_of_lt_of_le A_d.lt (Nat.le_of_eq g1.symm))
  have ne_af_b1 : af ≠ b1 := Nat.ne_of_lt (Nat.lt_of_lt_of_le A_f.lt (Nat.le_of_eq g1.symm))
  have gn_b1 : n0 ≤ b1 := Nat.le_trans Z0 (Nat.le_of_eq g1.symm)
  have Z0 := Nat.le_trans Z0 E1.1
  have hz_b1 := Nat.le_trans Kp.1 (Nat.le_of_eq g1.symm)
  have Kp := Kp.ext E1
  have E_a := E_a.ext E1
  have F_version := F_version.ext E1
  have F_size := F_size.ext E1
  have F_dark := F_dark.ext E1
  have F_function := F_function.ext E1
  have A_d := A_d.ext E1
  have A_f := A_f.ext E1
  have V_b1 : Ary Z h1 b1 .int [(.int (0 : Int32)), (.int (0 : Int32)), (.int (0 : Int32)), (.int (0 : Int32))] := ary_new A1
  refine w_astoreN ok (Ls' := #[.val (.ref a), .val (.int bit), .val (.ref b1)]) dFM_3 rfl rfl ?_
  refine w_iloadN ok dFM_4 rfl ?_
  refine w_bipush ok (z := 6) dFM_5 rfl ?_
  refine w_ic_ge ok dFM_7 (fun q1 => ?_) (fun q1 => ?_)
  · refine w_iloadN ok dFM_22 rfl ?_
    refine w_bipush ok (z := 8) dFM_23 rfl ?_
    refine w_ic_ge ok dFM_25 (fun q2 => ?_) (fun q2 => ?_)
    · refine w_iloadN ok dFM_42 rfl ?_
      refine w_bipush ok (z := 8) dFM_43 rfl ?_
      refine w_ic_ne ok dFM_45 (fun q3 => ?_) (fun q3 => ?_)
      · refine w_aloadN ok dFM_61 rfl rfl ?_
        refine w_iconst ok (z := 0) dFM_62 rfl ?_
        refine w_bipush ok (z := 8) dFM_63 rfl ?_
        refine w_iastore' ok (i := 0) V_b1 (Nat.le_of_ble_eq_true rfl) (Nat.le_of_ble_eq_true rfl) gn_b1 dFM_65 (fun h16 W16 V_b1 => ?_)
        have E_a := E_a.wr W16
        have F_version := F_version.other W16 (Or.inl ne_a_b1)
        have F_size := F_size.other W16 (Or.inl ne_a_b1)
        have F_dark := F_dark.other W16 (Or.inl ne_a_b1)
        have F_function := F_function.other W16 (Or.inl ne_a_b1)
        have A_d := A_d.other W16 ne_ad_b1
        have A_f := A_f.other W16 ne_af_b1
        have Z0 := Nat.le_trans Z0 (Keep.of_wr W16).1
        have Kp := Kp.wr W16 (Or.inr hz_b1)
        replace V_b1 : Ary Z h16 b1 .int [(.int (8 : Int32)), (.int (0 : Int32)), (.int (0 : Int32)), (.int (0 : Int32))] := V_b1
        refine w_aloadN ok dFM_66 rfl rfl ?_
        refine w_iconst ok (z := 1) dFM_67 rfl ?_
        refine w_bipush ok (z := 14) dFM_68 rfl ?_
        refine w_iloadN ok dFM_70 rfl ?_
        refine w_isub ok dFM_71 ?_
        refine w_iastore' ok (i := 1) V_b1 (Nat.le_of_ble_eq_true rfl) (Nat.le_of_ble_eq_true rfl) gn_b1 dFM_72 (fun h17 W17 V_b1 => ?_)
        have E_a := E_a.wr W17
        have F_version := F_version.other W17 (Or.inl ne_a_b1)
        have F_size := F_size.other W17 (Or.inl ne_a_b1)
        have F_dark := F_dark.other W17 (Or.inl ne_a_b1)
        have F_function := F_function.other W17 (Or.inl ne_a_b1)
        have A_d := A_d.other W17 ne_ad_b1
        have A_f := A_f.other W17 ne_af_b1
        have Z0 := Nat.le_trans Z0 (Keep.of_wr W17).1
        have Kp := Kp.wr W17 (Or.inr hz_b1)
        replace V_b1 : Ary Z h17 b1 .int [(.int (8 : Int32)), (.int ((14 : Int32) - bit)), (.int (0 : Int32)), (.int (0 : Int32))] := V_b1
        refine w_iloadN ok dFM_73 rfl ?_
        refine w_bipush ok (z := 8) dFM_74 rfl ?_
        refine w_ic_ge ok dFM_76 (fun p => ?_) (fun p => ?_)
        · refine w_aloadN ok dFM_98 rfl rfl ?_
          refine w_iconst ok (z := 2) dFM_99 rfl ?_
          refine w_aloadN ok dFM_100 rfl rfl ?_
          refine w_getfield ok (host := "") (Or.inl (hw _ (List.mem_of_getElem? (i := 16) rfl))) Via.refl F_size dFM_101 ?_
          refine w_bipush ok (z := 15) dFM_104 rfl ?_
          refine w_isub ok dFM_106 ?_
          refine w_iloadN ok dFM_107 rfl ?_
          refine w_iadd ok dFM_108 ?_
          refine w_iastore' ok (i := 2) V_b1 (Nat.le_of_ble_eq_true rfl) (Nat.le_of_ble_eq_true rfl) gn_b1 dFM_109 (fun h18 W18 V_b1 => ?_)
          have E_a := E_a.wr W18
          have F_version := F_version.other W18 (Or.inl ne_a_b1)
          have F_size := F_size.other W18 (Or.inl ne_a_b1)
          have F_dark := F_dark.other W18 (Or.inl ne_a_b1)
          have F_function := F_function.other W18 (Or.inl ne_a_b1)
          have A_d := A_d.other W18 ne_ad_b1
          have A_f := A_f.other W18 ne_af_b1
          have Z0 := Nat.le_trans Z0 (Keep.of_wr W18).1
          have Kp := Kp.wr W18 (Or.inr hz_b1)
          replace V_b1 : Ary Z h18 b1 .int [(.int (8 : Int32)), (.int ((14 : Int32) - bit)), (.int ((size - (15 : Int32)) + bit)), (.int (0 : Int32))] := V_b1
          refine w_aloadN ok dFM_110 rfl rfl ?_
          refine w_iconst ok (z := 3) dFM_111 rfl ?_
          refine w_bipush ok (z := 8) dFM_112 rfl ?_
          refine w_iastore' ok (i := 3) V_b1 (Nat.le_of_ble_eq_true rfl) (Nat.le_of_ble_eq_true rfl) gn_b1 dFM_114 (fun h19 W19 V_b1 => ?_)
          have E_a := E_a.wr W19
          have F_version := F_version.other W19 (Or.inl ne_a_b1)
          have F_size := F_size.other W19 (Or.inl ne_a_b1)
          have F_dark := F_dark.other W19 (Or.inl ne_a_b1)
          have F_function := F_function.other W19 (Or.inl ne_a_b1)
          have A_d := A_d.other W19 ne_ad_b1
          have A_f := A_f.other W19 ne_af_b1
          have Z0 := Nat.le_trans Z0 (Keep.of_wr W19).1
          have Kp := Kp.wr W19 (Or.inr hz_b1)
          replace V_b1 : Ary Z h19 b1 .int [(.int (8 : Int32)), (.int ((14 : Int32) - bit)), (.int ((size - (15 : Int32)) + bit)), (.int (8 : Int32))] := V_b1
          refine w_aloadN ok dFM_115 rfl rfl ?_
          refine w_areturn ok rfl rfl rfl dFM_116 (Nat.le_of_ble_eq_true rfl) (Nat.le_of_ble_eq_true rfl) ?_
          exact ⟨_, rfl, _, rfl, V_b1.cast (by simp only [own_f0, own_f1, own_f2, own_f3, if_neg q1, if_neg q2, if_neg q3, if_neg p]), Kp, hz_b1⟩
        · exact absurd p q2
      · refine w_aloadN ok dFM_48 rfl rfl ?_
        refine w_iconst ok (z := 0) dFM_49 rfl ?_
        refine w_bipush ok (z := 8) dFM_50 rfl ?_
        refine w_iastore' ok (i := 0) V_b1 (Nat.le_of_ble_eq_true rfl) (Nat.le_of_ble_eq_true rfl) gn_b1 dFM_52 (fun h12 W12 V_b1 => ?_)
        have E_a := E_a.wr W12
        have F_version := F_version.other W12 (Or.inl ne_a_b1)
        have F_size := F_size.other W12 (Or.inl ne_a_b1)
        have F_dark := F_dark.other W12 (Or.inl ne_a_b1)
        have F_function := F_function.other W12 (Or.inl ne_a_b1)
        have A_d := A_d.other W12 ne_ad_b1
        have A_f := A_f.other W12 ne_af_b1
        have Z0 := Nat.le_trans Z0 (Keep.of_wr W12).1
        have Kp := Kp.wr W12 (Or.inr hz_b1)
        replace V_b1 : Ary Z h12 b1 .int [(.int (8 : Int32)), (.int (0 : Int32)), (.int (0 : Int32)), (.int (0 : Int32))] := V_b1
        refine w_aloadN ok dFM_53 rfl rfl ?_
        refine w_iconst ok (z := 1) dFM_54 rfl ?_
        refine w_bipush ok (z := 7) dFM_55 rfl ?_
        refine w_iastore' ok (i := 1) V_b1 (Nat.le_of_ble_eq_true rfl) (Nat.le_of_ble_eq_true rfl) gn_b1 dFM_57 (fun h13 W13 V_b1 => ?_)
        have E_a := E_a.wr W13
        have F_version := F_version.other W13 (Or.inl ne_a_b1)
        have F_size := F_size.other W13 (Or.inl ne_a_b1)
        have F_dark := F_dark.other W13 (Or.inl ne_a_b1)
        have F_function := F_function.other W13 (Or.inl ne_a_b1)
        have A_d := A_d.other W13 ne_ad_b1
        have A_f := A_f.other W13 ne_af_b1
        have Z0 := Nat.le_trans Z0 (Keep.of_wr W13).1
        have Kp := Kp.wr W13 (Or.inr hz_b1)
        replace V_b1 : Ary Z h13 b1 .int [(.int (8 : Int32)), (.int (7 : Int32)), (.int (0 : Int32)), (.int (0 : Int32))] := V_b1
        refine w_goto ok dFM_58 ?_
        refine w_iloadN ok dFM_73 rfl ?_
        refine w_bipush ok (z := 8) dFM_74 rfl ?_
        refine w_ic_ge ok dFM_76 (fun p => ?_) (fun p => ?_)
        · refine w_aloadN ok dFM_98 rfl rfl ?_
          refine w_iconst ok (z := 2) dFM_99 rfl ?_
          refine w_aloadN ok dFM_100 rfl rfl ?_
          refine w_getfield ok (host := "") (Or.inl (hw _ (List.mem_of_getElem? (i := 16) rfl))) Via.refl F_size dFM_101 ?_
          refine w_bipush ok (z := 15) dFM_104 rfl ?_
          refine w_isub ok dFM_106 ?_
          refine w_iloadN ok dFM_107 rfl ?_
          refine w_iadd ok dFM_108 ?_
          refine w_iastore' ok (i := 2) V_b1 (Nat.le_of_ble_eq_true rfl) (Nat.le_of_ble_eq_true rfl) gn_b1 dFM_109 (fun h14 W14 V_b1 => ?_)
          have E_a := E_a.wr W14
          have F_version := F_version.other W14 (Or.inl ne_a_b1)
          have F_size := F_size.other W14 (Or.inl ne_a_b1)
          have F_dark := F_dark.other W14 (Or.inl ne_a_b1)
          have F_function := F_function.other W14 (Or.inl ne_a_b1)
          have A_d := A_d.other W14 ne_ad_b1
          have A_f := A_f.other W14 ne_af_b1
          have Z0 := Nat.le_trans Z0 (Keep.of_wr W14).1
          have Kp := Kp.wr W14 (Or.inr hz_b1)
          replace V_b1 : Ary Z h14 b1 .int [(.int (8 : Int32)), (.int (7 : Int32)), (.int ((size - (15 : Int32)) + bit)), (.int (0 : Int32))] := V_b1
          refine w_aloadN ok dFM_110 rfl rfl ?_
          refine w_iconst ok (z := 3) dFM_111 rfl ?_
          refine w_bipush ok (z := 8) dFM_112 rfl ?_
          refine w_iastore' ok (i := 3) V_b1 (Nat.le_of_ble_eq_true rfl) (Nat.le_of_ble_eq_true rfl) gn_b1 dFM_114 (fun h15 W15 V_b1 => ?_)
          have E_a := E_a.wr W15
          have F_version := F_version.other W15 (Or.inl ne_a_b1)
          have F_size := F_size.other W15 (Or.inl ne_a_b1)
          have F_dark := F_dark.other W15 (Or.inl ne_a_b1)
          have F_function := F_function.other W15 (Or.inl ne_a_b1)
          have A_d := A_d.other W15 ne_ad_b1
          have A_f := A_f.other W15 ne_af_b1
          have Z0 := Nat.le_trans Z0 (Keep.of_wr W15).1
          have Kp := Kp.wr W15 (Or.inr hz_b1)
          replace V_b1 : Ary Z h15 b1 .int [(.int (8 : Int32)), (.int (7 : Int32)), (.int ((size - (15 : Int32)) + bit)), (.int (8 : Int32))] := V_b1
          refine w_aloadN ok dFM_115 rfl rfl ?_
          refine w_areturn ok rfl rfl rfl dFM_116 (Nat.le_of_ble_eq_true rfl) (Nat.le_of_ble_eq_true rfl) ?_
          exact ⟨_, rfl, _, rfl, V_b1.cast (by simp only [own_f0, own_f1, own_f2, own_f3, if_neg q1, if_neg q2, if_pos q3, if_neg p]), Kp, hz_b1⟩
        · exact absurd p q2
    · refine w_aloadN ok dFM_28 rfl rfl ?_
      refine w_iconst ok (z := 0) dFM_29 rfl ?_
      refine w_iloadN ok dFM_30 rfl ?_
      refine w_iconst ok (z := 1) dFM_31 rfl ?_
      refine w_iadd ok dFM_32 ?_
      refine w_iastore' ok (i := 0) V_b1 (Nat.le_of_ble_eq_true rfl) (Nat.le_of_ble_eq_true rfl) gn_b1 dFM_33 (fun h8 W8 V_b1 => ?_)
      have E_a := E_a.wr W8
      have F_version := F_version.other W8 (Or.inl ne_a_b1)
      have F_size := F_size.other W8 (Or.inl ne_a_b1)
      have F_dark := F_dark.other W8 (Or.inl ne_a_b1)
      have F_function := F_function.other W8 (Or.inl ne_a_b1)
      have A_d := A_d.other W8 ne_ad_b1
      have A_f := A_f.other W8 ne_af_b1
      have Z0 := Nat.le_trans Z0 (Keep.of_wr W8).1
      have Kp := Kp.wr W8 (Or.inr hz_b1)
      replace V_b1 : Ary Z h8 b1 .int [(.int (bit + (1 : Int32))), (.int (0 : Int32)), (.int (0 : Int32)), (.int (0 : Int32))] := V_b1
      refine w_aloadN ok dFM_34 rfl rfl ?_
      refine w_iconst ok (z := 1) dFM_35 rfl ?_
      refine w_bipush ok (z := 8) dFM_36 rfl ?_
      refine w_iastore' ok (i := 1) V_b1 (Nat.le_of_ble_eq_true rfl) (Nat.le_of_ble_eq_true rfl) gn_b1 dFM_38 (fun h9 W9 V_b1 => ?_)
      have E_a := E_a.wr W9
      have F_version := F_version.other W9 (Or.inl ne_a_b1)
      have F_size := F_size.other W9 (Or.inl ne_a_b1)
      have F_dark := F_dark.other W9 (Or.inl ne_a_b1)
      have F_function := F_function.other W9 (Or.inl ne_a_b1)
      have A_d := A_d.other W9 ne_ad_b1
      have A_f := A_f.other W9 ne_af_b1
      have Z0 := Nat.le_trans Z0 (Keep.of_wr W9).1
      have Kp := Kp.wr W9 (Or.inr hz_b1)
      replace V_b1 : Ary Z h9 b1 .int [(.int (bit + (1 : Int32))), (.int (8 : Int32)), (.int (0 : Int32)), (.int (0 : Int32))] := V_b1
      refine w_goto ok dFM_39 ?_
      refine w_iloadN ok dFM_73 rfl ?_
      refine w_bipush ok (z := 8) dFM_74 rfl ?_
      refine w_ic_ge ok dFM_76 (fun p => ?_) (fun p => ?_)
      · exact absurd q2 p
      · refine w_aloadN ok dFM_79 rfl rfl ?_
        refine w_iconst ok (z := 2) dFM_80 rfl ?_
        refine w_bipush ok (z := 8) dFM_81 rfl ?_
        refine w_iastore' ok (i := 2) V_b1 (Nat.le_of_ble_eq_true rfl) (Nat.le_of_ble_eq_true rfl) gn_b1 dFM_83 (fun h10 W10 V_b1 => ?_)
        have E_a := E_a.wr W10
        have F_version := F_version.other W10 (Or.inl ne_a_b1)
        have F_size := F_size.other W10 (Or.inl ne_a_b1)
        have F_dark := F_dark.other W10 (Or.inl ne_a_b1)
        have F_function := F_function.other W10 (Or.inl ne_a_b1)
        have A_d := A_d.other W10 ne_ad_b1
        have A_f := A_f.other W10 ne_af_b1
        have Z0 := Nat.le_trans Z0 (Keep.of_wr W10).1
        have Kp := Kp.wr W10 (Or.inr hz_b1)
        replace V_b1 : Ary Z h10 b1 .int [(.int (bit + (1 : Int32))), (.int (8 : Int32)), (.int (8 : Int32)), (.int (0 : Int32))] := V_b1
        refine w_aloadN ok dFM_84 rfl rfl ?_
        refine w_iconst ok (z := 3) dFM_85 rfl ?_
        refine w_aloadN ok dFM_86 rfl rfl ?_
        refine w_getfield ok (host := "") (Or.inl (hw _ (List.mem_of_getElem? (i := 16) rfl))) Via.refl F_size dFM_87 ?_
        refine w_iconst ok (z := 1) dFM_90 rfl ?_
        refine w_isub ok dFM_91 ?_
        refine w_iloadN ok dFM_92 rfl ?_
        refine w_isub ok dFM_93 ?_
        refine w_iastore' ok (i := 3) V_b1 (Nat.le_of_ble_eq_true rfl) (Nat.le_of_ble_eq_true rfl) gn_b1 dFM_94 (fun h11 W11 V_b1 => ?_)
        have E_a := E_a.wr W11
        have F_version := F_version.other W11 (Or.inl ne_a_b1)
        have F_size := F_size.other W11 (Or.inl ne_a_b1)
        have F_dark := F_dark.other W11 (Or.inl ne_a_b1)
        have F_function := F_function.other W11 (Or.inl ne_a_b1)
        have A_d := A_d.other W11 ne_ad_b1
        have A_f := A_f.other W11 ne_af_b1
        have Z0 := Nat.le_trans Z0 (Keep.of_wr W11).1
        have Kp := Kp.wr W11 (Or.inr hz_b1)
        replace V_b1 : Ary Z h11 b1 .int [(.int (bit + (1 : Int32))), (.int (8 : Int32)), (.int (8 : Int32)), (.int ((size - (1 : Int32)) - bit))] := V_b1
        refine w_goto ok dFM_95 ?_
        refine w_aloadN ok dFM_115 rfl rfl ?_
        refine w_areturn ok rfl rfl rfl dFM_116 (Nat.le_of_ble_eq_true rfl) (Nat.le_of_ble_eq_true rfl) ?_
        exact ⟨_, rfl, _, rfl, V_b1.cast (by simp only [own_f0, own_f1, own_f2, own_f3, if_neg q1, if_pos q2, if_pos p]), Kp, hz_b1⟩
  · refine w_aloadN ok dFM_10 rfl rfl ?_
    refine w_iconst ok (z := 0) dFM_11 rfl ?_
    refine w_iloadN ok dFM_12 rfl ?_
    refine w_iastore' ok (i := 0) V_b1 (Nat.le_of_ble_eq_true rfl) (Nat.le_of_ble_eq_true rfl) gn_b1 dFM_13 (fun h2 W2 V_b1 => ?_)
    have E_a := E_a.wr W2
    have F_version := F_version.other W2 (Or.inl ne_a_b1)
    have F_size := F_size.other W2 (Or.inl ne_a_b1)
    have F_dark := F_dark.other W2 (Or.inl ne_a_b1)
    have F_function := F_function.other W2 (Or.inl ne_a_b1)
    have A_d := A_d.other W2 ne_ad_b1
    have A_f := A_f.other W2 ne_af_b1
    have Z0 := Nat.le_trans Z0 (Keep.of_wr W2).1
    have Kp := Kp.wr W2 (Or.inr hz_b1)
    replace V_b1 : Ary Z h2 b1 .int [(.int bit), (.int (0 : Int32)), (.int (0 : Int32)), (.int (0 : Int32))] := V_b1
    refine w_aloadN ok dFM_14 rfl rfl ?_
    refine w_iconst ok (z := 1) dFM_15 rfl ?_
    refine w_bipush ok (z := 8) dFM_16 rfl ?_
    refine w_iastore' ok (i := 1) V_b1 (Nat.le_of_ble_eq_true rfl) (Nat.le_of_ble_eq_true rfl) gn_b1 dFM_18 (fun h3 W3 V_b1 => ?_)
    have E_a := E_a.wr W3
    have F_version := F_version.other W3 (Or.inl ne_a_b1)
    have F_size := F_size.other W3 (Or.inl ne_a_b1)
    have F_dark := F_dark.other W3 (Or.inl ne_a_b1)
    have F_function := F_function.other W3 (Or.inl ne_a_b1)
    have A_d := A_d.other W3 ne_ad_b1
    have A_f := A_f.other W3 ne_af_b1
    have Z0 := Nat.le_trans Z0 (Keep.of_wr W3).1
    have Kp := Kp.wr W3 (Or.inr hz_b1)
    replace V_b1 : Ary Z h3 b1 .int [(.int bit), (.int (8 : Int32)), (.int (0 : Int32)), (.int (0 : Int32))] := V_b1
    refine w_goto ok dFM_19 ?_
    refine w_iloadN ok dFM_73 rfl ?_
    refine w_bipush ok (z := 8) dFM_74 rfl ?_
    refine w_ic_ge ok dFM_76 (fun p => ?_) (fun p => ?_)
    · refine w_aloadN ok dFM_98 rfl rfl ?_
      refine w_iconst ok (z := 2) dFM_99 rfl ?_
      refine w_aloadN ok dFM_100 rfl rfl ?_
      refine w_getfield ok (host := "") (Or.inl (hw _ (List.mem_of_getElem? (i := 16) rfl))) Via.refl F_size dFM_101 ?_
      refine w_bipush ok (z := 15) dFM_104 rfl ?_
      refine w_isub ok dFM_106 ?_
      refine w_iloadN ok dFM_107 rfl ?_
      refine w_iadd ok dFM_108 ?_
      refine w_iastore' ok (i := 2) V_b1 (Nat.le_of_ble_eq_true rfl) (Nat.le_of_ble_eq_true rfl) gn_b1 dFM_109 (fun h4 W4 V_b1 => ?_)
      have E_a := E_a.wr W4
      have F_version := F_version.other W4 (Or.inl ne_a_b1)
      have F_size := F_size.other W4 (Or.inl ne_a_b1)
      have F_dark := F_dark.other W4 (Or.inl ne_a_b1)
      have F_function := F_function.other W4 (Or.inl ne_a_b1)
      have A_d := A_d.other W4 ne_ad_b1
      have A_f := A_f.other W4 ne_af_b1
      have Z0 := Nat.le_trans Z0 (Keep.of_wr W4).1
      have Kp := Kp.wr W4 (Or.inr hz_b1)
      replace V_b1 : Ary Z h4 b1 .int [(.int bit), (.int (8 : Int32)), (.int ((size - (15 : Int32)) + bit)), (.int (0 : Int32))] := V_b1
      refine w_aloadN ok dFM_110 rfl rfl ?_
      refine w_iconst ok (z := 3) dFM_111 rfl ?_
      refine w_bipush ok (z := 8) dFM_112 rfl ?_
      refine w_iastore' ok (i := 3) V_b1 (Nat.le_of_ble_eq_true rfl) (Nat.le_of_ble_eq_true rfl) gn_b1 dFM_114 (fun h5 W5 V_b1 => ?_)
      have E_a := E_a.wr W5
      have F_version := F_version.other W5 (Or.inl ne_a_b1)
      have F_size := F_size.other W5 (Or.inl ne_a_b1)
      have F_dark := F_dark.other W5 (Or.inl ne_a_b1)
      have F_function := F_function.other W5 (Or.inl ne_a_b1)
      have A_d := A_d.other W5 ne_ad_b1
      have A_f := A_f.other W5 ne_af_b1
      have Z0 := Nat.le_trans Z0 (Keep.of_wr W5).1
      have Kp := Kp.wr W5 (Or.inr hz_b1)
      replace V_b1 : Ary Z h5 b1 .int [(.int bit), (.int (8 : Int32)), (.int ((size - (15 : Int32)) + bit)), (.int (8 : Int32))] := V_b1
      refine w_aloadN ok dFM_115 rfl rfl ?_
      refine w_areturn ok rfl rfl rfl dFM_116 (Nat.le_of_ble_eq_true rfl) (Nat.le_of_ble_eq_true rfl) ?_
      exact ⟨_, rfl, _, rfl, V_b1.cast (by simp only [own_f0, own_f1, own_f2, own_f3, if_pos q1, if_neg p]), Kp, hz_b1⟩
    · refine w_aloadN ok dFM_79 rfl rfl ?_
      refine w_iconst ok (z := 2) dFM_80 rfl ?_
      refine w_bipush ok (z := 8) dFM_81 rfl ?_
      refine w_iastore' ok (i := 2) V_b1 (Nat.le_of_ble_eq_true rfl) (Nat.le_of_ble_eq_true rfl) gn_b1 dFM_83 (fun h6 W6 V_b1 => ?_)
      have E_a := E_a.wr W6
      have F_version := F_version.other W6 (Or.inl ne_a_b1)
      have F_size := F_size.other W6 (Or.inl ne_a_b1)
      have F_dark := F_dark.other W6 (Or.inl ne_a_b1)
      have F_function := F_function.other W6 (Or.inl ne_a_b1)
      have A_d := A_d.other W6 ne_ad_b1
      have A_f := A_f.other W6 ne_af_b1
      have Z0 := Nat.le_trans Z0 (Keep.of_wr W6).1
      have Kp := Kp.wr W6 (Or.inr hz_b1)
      replace V_b1 : Ary Z h6 b1 .int [(.int bit), (.int (8 : Int32)), (.int (8 : Int32)), (.int (0 : Int32))] := V_b1
      refine w_aloadN ok dFM_84 rfl rfl ?_
      refine w_iconst ok (z := 3) dFM_85 rfl ?_
      refine w_aloadN ok dFM_86 rfl rfl ?_
      refine w_getfield ok (host := "") (Or.inl (hw _ (List.mem_of_getElem? (i := 16) rfl))) Via.refl F_size dFM_87 ?_
      refine w_iconst ok (z := 1) dFM_90 rfl ?_
      refine w_isub ok dFM_91 ?_
      refine w_iloadN ok dFM_92 rfl ?_
      refine w_isub ok dFM_93 ?_
      refine w_iastore' ok (i := 3) V_b1 (Nat.le_of_ble_eq_true rfl) (Nat.le_of_ble_eq_true rfl) gn_b1 dFM_94 (fun h7 W7 V_b1 => ?_)
      have E_a := E_a.wr W7
      have F_version := F_version.other W7 (Or.inl ne_a_b1)
      have F_size := F_size.other W7 (Or.inl ne_a_b1)
      have F_dark := F_dark.other W7 (Or.inl ne_a_b1)
      have F_function := F_function.other W7 (Or.inl ne_a_b1)
      have A_d := A_d.other W7 ne_ad_b1
      have A_f := A_f.other W7 ne_af_b1
      have Z0 := Nat.le_trans Z0 (Keep.of_wr W7).1
      have Kp := Kp.wr W7 (Or.inr hz_b1)
      replace V_b1 : Ary Z h7 b1 .int [(.int bit), (.int (8 : Int32)), (.int (8 : Int32)), (.int ((size - (1 : Int32)) - bit))] := V_b1
      refine w_goto ok dFM_95 ?_
      refine w_aloadN ok dFM_115 rfl rfl ?_
      refine w_areturn ok rfl rfl rfl dFM_116 (Nat.le_of_ble_eq_true rfl) (Nat.le_of_ble_eq_true rfl) ?_
      exact ⟨_, rfl, _, rfl, V_b1.cast (by simp only [own_f0, own_f1, own_f2, own_f3, if_pos q1, if_pos p]), Kp, hz_b1⟩
theorem dSz_0 : Fet prog_33_method_2_code 0 2 (.bipush 17) 2 := ⟨by decide +kernel, rfl⟩
theorem dSz_2 : Fet prog_33_method_2_code 2 3 (.iconst 4) 1 := ⟨by decide +kernel, rfl⟩
theorem dSz_3 : Fet prog_33_method_2_code 3 4 (.iload_n 0) 1 := ⟨by decide +kernel, rfl⟩
theorem dSz_4 : Fet prog_33_method_2_code 4 5 (.imul) 1 := ⟨by decide +kernel, rfl⟩
theorem dSz_5 : Fet prog_33_method_2_code 5 6 (.iadd) 1 := ⟨by decide +kernel, rfl⟩
theorem dSz_6 : Fet prog_33_method_2_code 6 7 (.ireturn) 1 := ⟨by decide +kernel, rfl⟩
set_option maxRecDepth 65536 in
set_option maxHeartbeats 4000000 in
theorem rmSz (l : Launch) (Z : State) (a0 : Array Value) (hw : ∀ d ∈ tables_1, d.before a0 Z = true) (n0 : Nat) (x : Int32) (h : Heap) :
    ConV l Z n0 (⟨"com/example/tickstep/tickstep/encoding/QrMatrix", "size", "(I)I"⟩ : MethodName) prog_33_method_2_code 1 (some .int) [] ({ frames := 0, cells := 0, slots := 0, locals := 0 } : Room) #[(.int x)] h (fun w h' => w = .int (17 + 4 * x) ∧ h = h') := by
  refine con_of_wp (Ls := #[.val (.int x)]) (plainFor_of_name pn_com_example_tickstep_tickstep_encoding_QrMatrix) (fun m => by first | (simp [entryFrame, mkF, argsToLocals, Value.category]; done) | rfl) ?_
  intro K ok
  replace ok : Ok Z K prog_33_method_2_code "com/example/tickstep/tickstep/encoding/QrMatrix" "size" 1 (some .int) := ok
  show Wp l ({ frames := 0, cells := 0, slots := 0, locals := 0 } : Room) n0 K (fun v h' => ∃ w, v = some w ∧ w = .int (17 + 4 * x) ∧ h = h') h 0 0 0 #[.val (.int x)] []
  refine w_bipush ok (z := 17) dSz_0 rfl ?_
  refine w_iconst ok (z := 4) dSz_2 rfl ?_
  refine w_iloadN ok dSz_3 rfl ?_
  refine w_imul ok dSz_4 ?_
  refine w_iadd ok dSz_5 ?_
  refine w_ireturnI ok dSz_6 (Nat.le_of_ble_eq_true rfl) (Nat.le_of_ble_eq_true rfl) ?_
  exact ⟨_, rfl, rfl, rfl⟩
theorem dIn_0 : Fet prog_33_method_1_code 0 1 (.aload_n 0) 1 := ⟨by decide +kernel, rfl⟩
theorem dIn_1 : Fet prog_33_method_1_code 1 4 (.invokespecial 1) 3 := ⟨by decide +kernel, rfl⟩
theorem dIn_4 : Fet prog_33_method_1_code 4 5 (.aload_n 0) 1 := ⟨by decide +kernel, rfl⟩
theorem dIn_5 : Fet prog_33_method_1_code 5 6 (.iload_n 1) 1 := ⟨by decide +kernel, rfl⟩
theorem dIn_6 : Fet prog_33_method_1_code 6 9 (.putfield 7) 3 := ⟨by decide +kernel, rfl⟩
theorem dIn_9 : Fet prog_33_method_1_code 9 10 (.aload_n 0) 1 := ⟨by decide +kernel, rfl⟩
theorem dIn_10 : Fet prog_33_method_1_code 10 11 (.iload_n 1) 1 := ⟨by decide +kernel, rfl⟩
theorem dIn_11 : Fet prog_33_method_1_code 11 14 (.invokestatic 13) 3 := ⟨by decide +kernel, rfl⟩
theorem dIn_14 : Fet prog_33_method_1_code 14 17 (.putfield 17) 3 := ⟨by decide +kernel, rfl⟩
theorem dIn_17 : Fet prog_33_method_1_code 17 18 (.aload_n 0) 1 := ⟨by decide +kernel, rfl⟩
theorem dIn_18 : Fet prog_33_method_1_code 18 19 (.aload_n 0) 1 := ⟨by decide +kernel, rfl⟩
theorem dIn_19 : Fet prog_33_method_1_code 19 22 (.getfield 17) 3 := ⟨by decide +kernel, rfl⟩
theorem dIn_22 : Fet prog_33_method_1_code 22 23 (.aload_n 0) 1 := ⟨by decide +kernel, rfl⟩
theorem dIn_23 : Fet prog_33_method_1_code 23 26 (.getfield 17) 3 := ⟨by decide +kernel, rfl⟩
theorem dIn_26 : Fet prog_33_method_1_code 26 27 (.imul) 1 := ⟨by decide +kernel, rfl⟩
theorem dIn_27 : Fet prog_33_method_1_code 27 29 (.newarray .boolean) 2 := ⟨by decide +kernel, rfl⟩
theorem dIn_29 : Fet prog_33_method_1_code 29 32 (.putfield 19) 3 := ⟨by decide +kernel, rfl⟩
theorem dIn_32 : Fet prog_33_method_1_code 32 33 (.aload_n 0) 1 := ⟨by decide +kernel, rfl⟩
theorem dIn_33 : Fet prog_33_method_1_code 33 34 (.aload_n 0) 1 := ⟨by decide +kernel, rfl⟩
theorem dIn_34 : Fet prog_33_method_1_code 34 37 (.getfield 17) 3 := ⟨by decide +kernel, rfl⟩
theorem dIn_37 : Fet prog_33_method_1_code 37 38 (.aload_n 0) 1 := ⟨by decide +kernel, rfl⟩
theorem dIn_38 : Fet prog_33_method_1_code 38 41 (.getfield 17) 3 := ⟨by decide +kernel, rfl⟩
theorem dIn_41 : Fet prog_33_method_1_code 41 42 (.imul) 1 := ⟨by decide +kernel, rfl⟩
theorem dIn_42 : Fet prog_33_method_1_code 42 44 (.newarray .boolean) 2 := ⟨by decide +kernel, rfl⟩
theorem dIn_44 : Fet prog_33_method_1_code 44 47 (.putfield 23) 3 := ⟨by decide +kernel, rfl⟩
theorem dIn_47 : Fet prog_33_method_1_code 47 48 (.aload_n 0) 1 := ⟨by decide +kernel, rfl⟩
theorem dIn_48 : Fet prog_33_method_1_code 48 49 (.iconst 0) 1 := ⟨by decide +kernel, rfl⟩
theorem dIn_49 : Fet prog_33_method_1_code 49 50 (.iconst 0) 1 := ⟨by decide +kernel, rfl⟩
theorem dIn_50 : Fet prog_33_method_1_code 50 53 (.invokevirtual 26) 3 := ⟨by decide +kernel, rfl⟩
theorem pd__II_V : parseMethodDescriptor "(II)V" = some ⟨[.int, .int], none⟩ := by decide +kernel
theorem dIn_53 : Fet prog_33_method_1_code 53 54 (.aload_n 0) 1 := ⟨by decide +kernel, rfl⟩
theorem dIn_54 : Fet prog_33_method_1_code 54 55 (.iconst 0) 1 := ⟨by decide +kernel, rfl⟩
theorem dIn_55 : Fet prog_33_method_1_code 55 56 (.aload_n 0) 1 := ⟨by decide +kernel, rfl⟩
theorem dIn_56 : Fet prog_33_method_1_code 56 59 (.getfield 17) 3 := ⟨by decide +kernel, rfl⟩
theorem dIn_59 : Fet prog_33_method_1_code 59 61 (.bipush 7) 2 := ⟨by decide +kernel, rfl⟩
theorem dIn_61 : Fet prog_33_method_1_code 61 62 (.isub) 1 := ⟨by decide +kernel, rfl⟩
theorem dIn_62 : Fet prog_33_method_1_code 62 65 (.invokevirtual 26) 3 := ⟨by decide +kernel, rfl⟩
theorem dIn_65 : Fet prog_33_method_1_code 65 66 (.aload_n 0) 1 := ⟨by decide +kernel, rfl⟩
theorem dIn_66 : Fet prog_33_method_1_code 66 67 (.aload_n 0) 1 := ⟨by decide +kernel, rfl⟩
theorem dIn_67 : Fet prog_33_method_1_code 67 70 (.getfield 17) 3 := ⟨by decide +kernel, rfl⟩
theorem dIn_70 : Fet prog_33_method_1_code 70 72 (.bipush 7) 2 := ⟨by decide +kernel, rfl⟩
theorem dIn_72 : Fet prog_33_method_1_code 72 73 (.isub) 1 := ⟨by decide +kernel, rfl⟩
theorem dIn_73 : Fet prog_33_method_1_code 73 74 (.iconst 0) 1 := ⟨by decide +kernel, rfl⟩
theorem dIn_74 : Fet prog_33_method_1_code 74 77 (.invokevirtual 26) 3 := ⟨by decide +kernel, rfl⟩
theorem dIn_77 : Fet prog_33_method_1_code 77 78 (.aload_n 0) 1 := ⟨by decide +kernel, rfl⟩
theorem dIn_78 : Fet prog_33_method_1_code 78 81 (.invokevirtual 30) 3 := ⟨by decide +kernel, rfl⟩
theorem pd___V : parseMethodDescriptor "()V" = some ⟨[], none⟩ := by decide +kernel
theorem dIn_81 : Fet prog_33_method_1_code 81 82 (.iconst 0) 1 := ⟨by decide +kernel, rfl⟩
theorem dIn_82 : Fet prog_33_method_1_code 82 83 (.istore_n 2) 1 := ⟨by decide +kernel, rfl⟩
theorem dIn_167 : Fet prog_33_method_1_code 167 168 (.aload_n 0) 1 := ⟨by decide +kernel, rfl⟩
theorem dIn_168 : Fet prog_33_method_1_code 168 169 (.aload_n 0) 1 := ⟨by decide +kernel, rfl⟩
theorem dIn_169 : Fet prog_33_method_1_code 169 172 (.getfield 17) 3 := ⟨by decide +kernel, rfl⟩
theorem dIn_172 : Fet prog_33_method_1_code 172 174 (.bipush 8) 2 := ⟨by decide +kernel, rfl⟩
theorem dIn_174 : Fet prog_33_method_1_code 174 175 (.isub) 1 := ⟨by decide +kernel, rfl⟩
theorem dIn_175 : Fet prog_33_method_1_code 175 177 (.bipush 8) 2 := ⟨by decide +kernel, rfl⟩
theorem dIn_177 : Fet prog_33_method_1_code 177 178 (.iconst 1) 1 := ⟨by decide +kernel, rfl⟩
theorem dIn_178 : Fet prog_33_method_1_code 178 181 (.invokevirtual 33) 3 := ⟨by decide +kernel, rfl⟩
theorem dIn_181 : Fet prog_33_method_1_code 181 182 (.iconst 0) 1 := ⟨by decide +kernel, rfl⟩
theorem dIn_182 : Fet prog_33_method_1_code 182 183 (.istore_n 2) 1 := ⟨by decide +kernel, rfl⟩
theorem dIn_183 : Fet prog_33_method_1_code 183 184 (.iload_n 2) 1 := ⟨by decide +kernel, rfl⟩
theorem dIn_184 : Fet prog_33_method_1_code 184 186 (.bipush 15) 2 := ⟨by decide +kernel, rfl⟩
theorem dIn_186 : Brn prog_33_method_1_code 186 189 223 (.if_icmp .ge 37) 37 := ⟨by decide +kernel, rfl, by decide, by decide⟩
theorem dIn_189 : Fet prog_33_method_1_code 189 190 (.aload_n 0) 1 := ⟨by decide +kernel, rfl⟩
theorem dIn_190 : Fet prog_33_method_1_code 190 191 (.iload_n 2) 1 := ⟨by decide +kernel, rfl⟩
theorem dIn_191 : Fet prog_33_method_1_code 191 194 (.invokevirtual 37) 3 := ⟨by decide +kernel, rfl⟩
theorem pd__I_ArI : parseMethodDescriptor "(I)[I" = some ⟨[.int], some (.array .int)⟩ := by decide +kernel
theorem dIn_194 : Fet prog_33_method_1_code 194 195 (.astore_n 3) 1 := ⟨by decide +kernel, rfl⟩
theorem dIn_195 : Fet prog_33_method_1_code 195 196 (.aload_n 0) 1 := ⟨by decide +kernel, rfl⟩
theorem dIn_196 : Fet prog_33_method_1_code 196 197 (.aload_n 3) 1 := ⟨by decide +kernel, rfl⟩
theorem dIn_197 : Fet prog_33_method_1_code 197 198 (.iconst 0) 1 := ⟨by decide +kernel, rfl⟩
theorem dIn_198 : Fet prog_33_method_1_code 198 199 (.iaload) 1 := ⟨by decide +kernel, rfl⟩
theorem dIn_199 : Fet prog_33_method_1_code 199 200 (.aload_n 3) 1 := ⟨by decide +kernel, rfl⟩
theorem dIn_200 : Fet prog_33_method_1_code 200 201 (.iconst 1) 1 := ⟨by decide +kernel, rfl⟩
theorem dIn_201 : Fet prog_33_method_1_code 201 202 (.iaload) 1 := ⟨by decide +kernel, rfl⟩
theorem dIn_202 : Fet prog_33_method_1_code 202 203 (.iconst 0) 1 := ⟨by decide +kernel, rfl⟩
theorem dIn_203 : Fet prog_33_method_1_code 203 206 (.invokevirtual 33) 3 := ⟨by decide +kernel, rfl⟩
theorem dIn_206 : Fet prog_33_method_1_code 206 207 (.aload_n 0) 1 := ⟨by decide +kernel, rfl⟩
theorem dIn_207 : Fet prog_33_method_1_code 207 208 (.aload_n 3) 1 := ⟨by decide +kernel, rfl⟩
theorem dIn_208 : Fet prog_33_method_1_code 208 209 (.iconst 2) 1 := ⟨by decide +kernel, rfl⟩
theorem dIn_209 : Fet prog_33_method_1_code 209 210 (.iaload) 1 := ⟨by decide +kernel, rfl⟩
theorem dIn_210 : Fet prog_33_method_1_code 210 211 (.aload_n 3) 1 := ⟨by decide +kernel, rfl⟩
theorem dIn_211 : Fet prog_33_method_1_code 211 212 (.iconst 3) 1 := ⟨by decide +kernel, rfl⟩
theorem dIn_212 : Fet prog_33_method_1_code 212 213 (.iaload) 1 := ⟨by decide +kernel, rfl⟩
theorem dIn_213 : Fet prog_33_method_1_code 213 214 (.iconst 0) 1 := ⟨by decide +kernel, rfl⟩
theorem dIn_214 : Fet prog_33_method_1_code 214 217 (.invokevirtual 33) 3 := ⟨by decide +kernel, rfl⟩
theorem dIn_217 : Fet prog_33_method_1_code 217 220 (.iinc 2 1) 3 := ⟨by decide +kernel, rfl⟩
theorem dIn_220 : Brn prog_33_method_1_code 220 223 183 (.goto (-37)) (-37) := ⟨by decide +kernel, rfl, by decide, by decide⟩
theorem dIn_223 : Fet prog_33_method_1_code 223 224 (.iload_n 1) 1 := ⟨by decide +kernel, rfl⟩
theorem dIn_224 : Fet prog_33_method_1_code 224 226 (.bipush 7) 2 := ⟨by decide +kernel, rfl⟩
theorem dIn_226 : Brn prog_33_method_1_code 226 229 233 (.if_icmp .lt 7) 7 := ⟨by decide +kernel, rfl, by decide, by decide⟩
theorem dIn_233 : Fet prog_33_method_1_code 233 234 (.return_) 1 := ⟨by decide +kernel, rfl⟩
theorem dIn_83 : Fet prog_33_method_1_code 83 84 (.iload_n 2) 1 := ⟨by decide +kernel, rfl⟩
theorem dIn_84 : Fet prog_33_method_1_code 84 85 (.aload_n 0) 1 := ⟨by decide +kernel, rfl⟩
theorem dIn_85 : Fet prog_33_method_1_code 85 88 (.getfield 17) 3 := ⟨by decide +kernel, rfl⟩
theorem dIn_88 : Brn prog_33_method_1_code 88 91 167 (.if_icmp .ge 79) 79 := ⟨by decide +kernel, rfl, by decide, by decide⟩
theorem dIn_126 : Fet prog_33_method_1_code 126 127 (.aload_n 0) 1 := ⟨by decide +kernel, rfl⟩
theorem dIn_127 : Fet prog_33_method_1_code 127 130 (.getfield 23) 3 := ⟨by decide +kernel, rfl⟩
theorem dIn_130 : Fet prog_33_method_1_code 130 131 (.iload_n 2) 1 := ⟨by decide +kernel, rfl⟩
theorem dIn_131 : Fet prog_33_method_1_code 131 132 (.aload_n 0) 1 := ⟨by decide +kernel, rfl⟩
theorem dIn_132 : Fet prog_33_method_1_code 132 135 (.getfield 17) 3 := ⟨by decide +kernel, rfl⟩
theorem dIn_135 : Fet prog_33_method_1_code 135 136 (.imul) 1 := ⟨by decide +kernel, rfl⟩
theorem dIn_136 : Fet prog_33_method_1_code 136 138 (.bipush 6) 2 := ⟨by decide +kernel, rfl⟩
theorem dIn_138 : Fet prog_33_method_1_code 138 139 (.iadd) 1 := ⟨by decide +kernel, rfl⟩
theorem dIn_139 : Fet prog_33_method_1_code 139 140 (.baload) 1 := ⟨by decide +kernel, rfl⟩
theorem dIn_140 : Brn prog_33_method_1_code 140 143 161 (.ifCond .ne 21) 21 := ⟨by decide +kernel, rfl, by decide, by decide⟩
theorem dIn_161 : Fet prog_33_method_1_code 161 164 (.iinc 2 1) 3 := ⟨by decide +kernel, rfl⟩
theorem dIn_164 : Brn prog_33_method_1_code 164 167 83 (.goto (-81)) (-81) := ⟨by decide +kernel, rfl, by decide, by decide⟩
theorem dIn_143 : Fet prog_33_method_1_code 143 144 (.aload_n 0) 1 := ⟨by decide +kernel, rfl⟩
theorem dIn_144 : Fet prog_33_method_1_code 144 145 (.iload_n 2) 1 := ⟨by decide +kernel, rfl⟩
theorem dIn_145 : Fet prog_33_method_1_code 145 147 (.bipush 6) 2 := ⟨by decide +kernel, rfl⟩
theorem dIn_147 : Fet prog_33_method_1_code 147 148 (.iload_n 2) 1 := ⟨by decide +kernel, rfl⟩
theorem dIn_148 : Fet prog_33_method_1_code 148 149 (.iconst 2) 1 := ⟨by decide +kernel, rfl⟩
theorem dIn_149 : Fet prog_33_method_1_code 149 150 (.irem) 1 := ⟨by decide +kernel, rfl⟩
theorem dIn_158 : Fet prog_33_method_1_code 158 161 (.invokevirtual 33) 3 := ⟨by decide +kernel, rfl⟩
theorem dIn_150 : Brn prog_33_method_1_code 150 153 157 (.ifCond .ne 7) 7 := ⟨by decide +kernel, rfl, by decide, by decide⟩
theorem dIn_157 : Fet prog_33_method_1_code 157 158 (.iconst 0) 1 := ⟨by decide +kernel, rfl⟩
theorem dIn_153 : Fet prog_33_method_1_code 153 154 (.iconst 1) 1 := ⟨by decide +kernel, rfl⟩
theorem dIn_154 : Brn prog_33_method_1_code 154 157 158 (.goto 4) 4 := ⟨by decide +kernel, rfl, by decide, by decide⟩
theorem dIn_91 : Fet prog_33_method_1_code 91 92 (.aload_n 0) 1 := ⟨by decide +kernel, rfl⟩
theorem dIn_92 : Fet prog_33_method_1_code 92 95 (.getfield 23) 3 := ⟨by decide +kernel, rfl⟩
theorem dIn_95 : Fet prog_33_method_1_code 95 97 (.bipush 6) 2 := ⟨by decide +kernel, rfl⟩
theorem dIn_97 : Fet prog_33_method_1_code 97 98 (.aload_n 0) 1 := ⟨by decide +kernel, rfl⟩
theorem dIn_98 : Fet prog_33_method_1_code 98 101 (.getfield 17) 3 := ⟨by decide +kernel, rfl⟩
theorem dIn_101 : Fet prog_33_method_1_code 101 102 (.imul) 1 := ⟨by decide +kernel, rfl⟩
theorem dIn_102 : Fet prog_33_method_1_code 102 103 (.iload_n 2) 1 := ⟨by decide +kernel, rfl⟩
theorem dIn_103 : Fet prog_33_method_1_code 103 104 (.iadd) 1 := ⟨by decide +kernel, rfl⟩
theorem dIn_104 : Fet prog_33_method_1_code 104 105 (.baload) 1 := ⟨by decide +kernel, rfl⟩
theorem dIn_105 : Brn prog_33_method_1_code 105 108 126 (.ifCond .ne 21) 21 := ⟨by decide +kernel, rfl, by decide, by decide⟩
theorem dIn_108 : Fet prog_33_method_1_code 108 109 (.aload_n 0) 1 := ⟨by decide +kernel, rfl⟩
theorem dIn_109 : Fet prog_33_method_1_code 109 111 (.bipush 6) 2 := ⟨by decide +kernel, rfl⟩
theorem dIn_111 : Fet prog_33_method_1_code 111 112 (.iload_n 2) 1 := ⟨by decide +kernel, rfl⟩
theorem dIn_112 : Fet prog_33_method_1_code 112 113 (.iload_n 2) 1 := ⟨by decide +kernel, rfl⟩
theorem dIn_113 : Fet prog_33_method_1_code 113 114 (.iconst 2) 1 := ⟨by decide +kernel, rfl⟩
theorem dIn_114 : Fet prog_33_method_1_code 114 115 (.irem) 1 := ⟨by decide +kernel, rfl⟩
theorem dIn_123 : Fet prog_33_method_1_code 123 126 (.invokevirtual 33) 3 := ⟨by decide +kernel, rfl⟩
theorem dIn_115 : Brn prog_33_method_1_code 115 118 122 (.ifCond .ne 7) 7 := ⟨by decide +kernel, rfl, by decide, by decide⟩
theorem dIn_122 : Fet prog_33_method_1_code 122 123 (.iconst 0) 1 := ⟨by decide +kernel, rfl⟩
theorem dIn_118 : Fet prog_33_method_1_code 118 119 (.iconst 1) 1 := ⟨by decide +kernel, rfl⟩
theorem dIn_119 : Brn prog_33_method_1_code 119 122 123 (.goto 4) 4 := ⟨by decide +kernel, rfl, by decide, by decide⟩
set_option maxRecDepth 65536 in
set_option maxHeartbeats 4000000 in
theorem rmIn (l : Launch) (Z : State) (a0 : Array Value) (hw : ∀ d ∈ tables_1, d.before a0 Z = true) (n0 : Nat) (a : Addr) (ver size : Int32) (N : Nat) (st' : own_St) (hb : Heap) (hsz : size = 17 + 4 * ver) (hN : N = (size * size).toNatClampNeg) (hn0 : ¬ size * size < 0) (hcap : N ≤ 441) (hm : own_ct N ver size = some st') (hv7 : ver < 7) (Z0 : n0 ≤ hb.size) (gn_a : n0 ≤ a) (E_a : Exa Z hb a "com/example/tickstep/tickstep/encoding/QrMatrix") (F_version : Fld Z hb a "com/example/tickstep/tickstep/encoding/QrMatrix" "version" "I" (.int (0 : Int32))) (F_size : Fld Z hb a "com/example/tickstep/tickstep/encoding/QrMatrix" "size" "I" (.int (0 : Int32))) (F_dark : Fld Z hb a "com/example/tickstep/tickstep/encoding/QrMatrix" "dark" "[Z" .null) (F_function : Fld Z hb a "com/example/tickstep/tickstep/encoding/QrMatrix" "function" "[Z" .null) :
    ConN l Z n0 (⟨"com/example/tickstep/tickstep/encoding/QrMatrix", "<init>", "(I)V"⟩ : MethodName) prog_33_method_1_code 4 none [] ({ frames := 2, cells := 18, slots := 949, locals := 42 } : Room) #[(.ref a), (.int ver)] hb (fun h' => ∃ ad af D, own_Mat Z n0 hb h' a ver size ad af N (st'.1, D, st'.2.2) ∧ (ver < 7 → D = st'.2.1) ∧ hb.size ≤ ad ∧ hb.size ≤ af) := by
  refine con_of_wp (Ls := #[.val (.ref a), .val (.int ver), .unset, .unset]) (plainFor_of_name pn_com_example_tickstep_tickstep_encoding_QrMatrix) (fun m => by first | (simp [entryFrame, mkF, argsToLocals, Value.category]; done) | rfl) ?_
  intro K ok
  replace ok : Ok Z K prog_33_method_1_code "com/example/tickstep/tickstep/encoding/QrMatrix" "<init>" 4 none := ok
  show Wp l ({ frames := 2, cells := 18, slots := 949, locals := 42 } : Room) n0 K (fun v h' => v = none ∧ ∃ ad af D, own_Mat Z n0 hb h' a ver size ad af N (st'.1, D, st'.2.2) ∧ (ver < 7 → D = st'.2.1) ∧ hb.size ≤ ad ∧ hb.size ≤ af) hb 0 0 0 #[.val (.ref a), .val (.int ver), .unset, .unset] []
  obtain ⟨s1, s2, s3, s4, s5, s6, s7, c1, c2, c3, c4, c5, c6, c7, c8, c9⟩ := own_ct_inv hm
  have Kp : Keep hb hb [a] := Keep.refl _ _
  refine w_aloadN ok dIn_0 rfl rfl ?_
  refine w_initO ok (hw _ (List.mem_of_getElem? (i := 8) rfl)) (hw _ (List.mem_of_getElem? (i := 9) rfl)) (hw _ (List.mem_of_getElem? (i := 10) rfl)) dIn_1 rfl (Nat.le_of_ble_eq_true rfl) (Nat.le_of_ble_eq_true rfl) ?_
  refine w_aloadN ok dIn_4 rfl rfl ?_
  refine w_iloadN ok dIn_5 rfl ?_
  refine w_putfield ok (host := "") (Or.inl (hw _ (List.mem_of_getElem? (i := 11) rfl))) Via.refl F_version E_a (Or.inr ⟨(hw _ (List.mem_of_getElem? (i := 12) rfl)), rfl, rfl⟩) (hw _ (List.mem_of_getElem? (i := 3) rfl)) (ty := .int) (by decide) rfl rfl gn_a dIn_6 (fun h1 W1 => ?_)
  have E_a := E_a.wr W1
  have F_version := F_version.same W1
  have F_size := F_size.other W1 (Or.inr (slot_ne (Or.inr (hw _ (List.mem_of_getElem? (i := 17) rfl))) (Or.inr (hw _ (List.mem_of_getElem? (i := 12) rfl))) (by decide) (t := .int) (t' := .int) (by decide) (by decide)))
  have F_dark := F_dark.other W1 (Or.inr (slot_ne (Or.inr (hw _ (List.mem_of_getElem? (i := 20) rfl))) (Or.inr (hw _ (List.mem_of_getElem? (i := 12) rfl))) (by decide) (t := (.array .boolean)) (t' := .int) (by decide) (by decide)))
  have F_function := F_function.other W1 (Or.inr (slot_ne (Or.inr (hw _ (List.mem_of_getElem? (i := 22) rfl))) (Or.inr (hw _ (List.mem_of_getElem? (i := 12) rfl))) (by decide) (t := (.array .boolean)) (t' := .int) (by decide) (by decide)))
  have Z0 := Nat.le_trans Z0 (Keep.of_wr W1).1
  have Kp := Kp.wr W1 (Or.inl (List.mem_of_getElem? (i := 0) rfl))
  refine w_aloadN ok dIn_9 rfl rfl ?_
  refine w_iloadN ok dIn_10 rfl ?_
  refine w_callSV ok (argsL := [(.int ver)]) (rest := [(.ref a)]) (hw _ (List.mem_of_getElem? (i := 13) rfl)) (hw _ (List.mem_of_getElem? (i := 14) rfl)) (hw _ (List.mem_of_getElem? (i := 4) rfl)) (hw _ (List.mem_of_getElem? (i := 15) rfl)) (by decide) (rmSz l Z a0 hw n0 ver _) dIn_11 (lenOf pd__I_I rfl) rfl rfl (Nat.le_of_ble_eq_true rfl) (Nat.le_of_ble_eq_true rfl) (k' := 0) (n' := 0) rfl rfl (Nat.le_of_ble_eq_true rfl) (Nat.le_of_ble_eq_true rfl) ?_
  rintro _ _ ⟨rfl, rfl⟩
  refine w_int (b := size) hsz.symm ?_
  refine w_putfield ok (host := "") (Or.inl (hw _ (List.mem_of_getElem? (i := 16) rfl))) Via.refl F_size E_a (Or.inr ⟨(hw _ (List.mem_of_getElem? (i := 17) rfl)), rfl, rfl⟩) (hw _ (List.mem_of_getElem? (i := 3) rfl)) (ty := .int) (by decide) rfl rfl gn_a dIn_14 (fun h2 W2 => ?_)
  have E_a := E_a.wr W2
  have F_version := F_version.other W2 (Or.inr (slot_ne (Or.inr (hw _ (List.mem_of_getElem? (i := 12) rfl))) (Or.inr (hw _ (List.mem_of_getElem? (i := 17) rfl))) (by decide) (t := .int) (t' := .int) (by decide) (by decide)))
  have F_size := F_size.same W2
  have F_dark := F_dark.other W2 (Or.inr (slot_ne (Or.inr (hw _ (List.mem_of_getElem? (i := 20) rfl))) (Or.inr (hw _ (List.mem_of_getElem? (i := 17) rfl))) (by decide) (t := (.array .boolean)) (t' := .int) (by decide) (by decide)))
  have F_function := F_function.other W2 (Or.inr (slot_ne (Or.inr (hw _ (List.mem_of_getElem? (i := 22) rfl))) (Or.inr (hw _ (List.mem_of_getElem? (i := 17) rfl))) (by decide) (t := (.array .boolean)) (t' := .int) (by decide) (by decide)))
  have Z0 := Nat.le_trans Z0 (Keep.of_wr W2).1
  have Kp := Kp.wr W2 (Or.inl (List.mem_of_getElem? (i := 0) rfl))
  refine w_aloadN ok dIn_17 rfl rfl ?_
  refine w_aloadN ok dIn_18 rfl rfl ?_
  refine w_getfield ok (host := "") (Or.inl (hw _ (List.mem_of_getElem? (i := 16) rfl))) Via.refl F_size dIn_19 ?_
  refine w_aloadN ok dIn_22 rfl rfl ?_
  refine w_getfield ok (host := "") (Or.inl (hw _ (List.mem_of_getElem? (i := 16) rfl))) Via.refl F_size dIn_23 ?_
  refine w_imul ok dIn_26 ?_
  refine w_newarray ok (cap := 441) (hw _ (List.mem_of_getElem? (i := 18) rfl)) dIn_27 (hn0) (by rw [← hN]; exact hcap) (by decide) (k' := 1) (n' := 441) rfl rfl (Nat.le_of_ble_eq_true rfl) (Nat.le_of_ble_eq_true rfl) (fun h3 b3 cA3 g3 E3 A3 => ?_)
  have ne_a_b3 : a ≠ b3 := Nat.ne_of_lt (Nat.lt_of_lt_of_le E_a.lt (Nat.le_of_eq g3.symm))
  have gn_b3 : n0 ≤ b3 := Nat.le_trans Z0 (Nat.le_of_eq g3.symm)
  have Z0 := Nat.le_trans Z0 E3.1
  have hz_b3 := Nat.le_trans Kp.1 (Nat.le_of_eq g3.symm)
  have Kp := Kp.ext E3
  have E_a := E_a.ext E3
  have F_version := F_version.ext E3
  have F_size := F_size.ext E3
  have F_dark := F_dark.ext E3
  have F_function := F_function.ext E3
  have V_b3 : Ary Z h3 b3 .boolean (own_vals 0 N) := (ary_new A3).cast (by rw [hN]; exact own_vals_zero _)
  refine w_putfield ok (host := "") (Or.inl (hw _ (List.mem_of_getElem? (i := 19) rfl))) Via.refl F_dark E_a (Or.inr ⟨(hw _ (List.mem_of_getElem? (i := 20) rfl)), rfl, rfl⟩) (hw _ (List.mem_of_getElem? (i := 3) rfl)) (ty := (.array .boolean)) (by decide) rfl rfl gn_a dIn_29 (fun h4 W4 => ?_)
  have E_a := E_a.wr W4
  have F_version := F_version.other W4 (Or.inr (slot_ne (Or.inr (hw _ (List.mem_of_getElem? (i := 12) rfl))) (Or.inr (hw _ (List.mem_of_getElem? (i := 20) rfl))) (by decide) (t := .int) (t' := (.array .boolean)) (by decide) (by decide)))
  have F_size := F_size.other W4 (Or.inr (slot_ne (Or.inr (hw _ (List.mem_of_getElem? (i := 17) rfl))) (Or.inr (hw _ (List.mem_of_getElem? (i := 20) rfl))) (by decide) (t := .int) (t' := (.array .boolean)) (by decide) (by decide)))
  have F_dark := F_dark.same W4
  have F_function := F_function.other W4 (Or.inr (slot_ne (Or.inr (hw _ (List.mem_of_getElem? (i := 22) rfl))) (Or.inr (hw _ (List.mem_of_getElem? (i := 20) rfl))) (by decide) (t := (.array .boolean)) (t' := (.array .boolean)) (by decide) (by decide)))
  have V_b3 := V_b3.other W4 (Ne.symm ne_a_b3)
  have Z0 := Nat.le_trans Z0 (Keep.of_wr W4).1
  have Kp := Kp.wr W4 (Or.inl (List.mem_of_getElem? (i := 0) rfl))
  refine w_aloadN ok dIn_32 rfl rfl ?_
  refine w_aloadN ok dIn_33 rfl rfl ?_
  refine w_getfield ok (host := "") (Or.inl (hw _ (List.mem_of_getElem? (i := 16) rfl))) Via.refl F_size dIn_34 ?_
  refine w_aloadN ok dIn_37 rfl rfl ?_
  refine w_getfield ok (host := "") (Or.inl (hw _ (List.mem_of_getElem? (i := 16) rfl))) Via.refl F_size dIn_38 ?_
  refine w_imul ok dIn_41 ?_
  refine w_newarray ok (cap := 441) (hw _ (List.mem_of_getElem? (i := 18) rfl)) dIn_42 (hn0) (by rw [← hN]; exact hcap) (by decide) (k' := 2) (n' := 882) rfl rfl (Nat.le_of_ble_eq_true rfl) (Nat.le_of_ble_eq_true rfl) (fun h5 b5 cA5 g5 E5 A5 => ?_)
  have ne_a_b5 : a ≠ b5 := Nat.ne_of_lt (Nat.lt_of_lt_of_le E_a.lt (Nat.le_of_eq g5.symm))
  have ne_b3_b5 : b3 ≠ b5 := Nat.ne_of_lt (Nat.lt_of_lt_of_le V_b3.lt (Nat.le_of_eq g5.symm))
  have gn_b5 : n0 ≤ b5 := Nat.le_trans Z0 (Nat.le_of_eq g5.symm)
  have Z0 := Nat.le_trans Z0 E5.1
  have hz_b5 := Nat.le_trans Kp.1 (Nat.le_of_eq g5.symm)
  have Kp := Kp.ext E5
  have E_a := E_a.ext E5
  have F_version := F_version.ext E5
  have F_size := F_size.ext E5
  have F_dark := F_dark.ext E5
  have F_function := F_function.ext E5
  have V_b3 := V_b3.ext E5
  have V_b5 : Ary Z h5 b5 .boolean (own_vals 0 N) := (ary_new A5).cast (by rw [hN]; exact own_vals_zero _)
  refine w_putfield ok (host := "") (Or.inl (hw _ (List.mem_of_getElem? (i := 21) rfl))) Via.refl F_function E_a (Or.inr ⟨(hw _ (List.mem_of_getElem? (i := 22) rfl)), rfl, rfl⟩) (hw _ (List.mem_of_getElem? (i := 3) rfl)) (ty := (.array .boolean)) (by decide) rfl rfl gn_a dIn_44 (fun h6 W6 => ?_)
  have E_a := E_a.wr W6
  have F_version := F_version.other W6 (Or.inr (slot_ne (Or.inr (hw _ (List.mem_of_getElem? (i := 12) rfl))) (Or.inr (hw _ (List.mem_of_getElem? (i := 22) rfl))) (by decide) (t := .int) (t' := (.array .boolean)) (by decide) (by decide)))
  have F_size := F_size.other W6 (Or.inr (slot_ne (Or.inr (hw _ (List.mem_of_getElem? (i := 17) rfl))) (Or.inr (hw _ (List.mem_of_getElem? (i := 22) rfl))) (by decide) (t := .int) (t' := (.array .boolean)) (by decide) (by decide)))
  have F_dark := F_dark.other W6 (Or.inr (slot_ne (Or.inr (hw _ (List.mem_of_getElem? (i := 20) rfl))) (Or.inr (hw _ (List.mem_of_getElem? (i := 22) rfl))) (by decide) (t := (.array .boolean)) (t' := (.array .boolean)) (by decide) (by decide)))
  have F_function := F_function.same W6
  have V_b3 := V_b3.other W6 (Ne.symm ne_a_b3)
  have V_b5 := V_b5.other W6 (Ne.symm ne_a_b5)
  have Z0 := Nat.le_trans Z0 (Keep.of_wr W6).1
  have Kp := Kp.wr W6 (Or.inl (List.mem_of_getElem? (i := 0) rfl))
  refine w_aloadN ok dIn_47 rfl rfl ?_
  refine w_iconst ok (z := 0) dIn_48 rfl ?_
  refine w_iconst ok (z := 0) dIn_49 rfl ?_
  have M : own_Mat Z n0 hb h6 a ver size b3 b5 N (0, 0, 0) := ⟨Z0, E_a, F_version, F_size, F_dark, F_function, V_b3, V_b5, ⟨gn_b3, gn_b5, ne_b3_b5, ne_a_b3, ne_a_b5⟩, (own_pc_zero N).symm, own_kw Kp⟩
  have Mx : ∃ ad af, hb.size ≤ ad ∧ hb.size ≤ af ∧ own_Mat Z n0 hb h6 a ver size ad af N (0, 0, 0) := ⟨_, _, hz_b3, hz_b5, M⟩
  clear M
  obtain ⟨ad, af, ga1, ga2, M⟩ := Mx
  obtain ⟨Z0, E_a, F_version, F_size, F_dark, F_function, A_d, A_f, ⟨gn_ad, gn_af, nda, na1, na2⟩, hpc, Kb⟩ := id M
  refine w_privN ok (argsL := [(.int (0 : Int32)), (.int (0 : Int32))]) (rest := []) (hw _ (List.mem_of_getElem? (i := 23) rfl)) (hw _ (List.mem_of_getElem? (i := 24) rfl)) (hw _ (List.mem_of_getElem? (i := 25) rfl)) (hw _ (List.mem_of_getElem? (i := 3) rfl)) (hw _ (List.mem_of_getElem? (i := 4) rfl)) (hw _ (List.mem_of_getElem? (i := 26) rfl)) E_a (by decide) (rmFi l Z a0 hw n0 hb a ad af ver size N 0 0 (0, 0, 0) s1 h6 M c1) dIn_50 (lenOf pd__II_V rfl) rfl rfl (Nat.le_of_ble_eq_true rfl) (Nat.le_of_ble_eq_true rfl) (k' := 2) (n' := 882) rfl rfl (Nat.le_of_ble_eq_true rfl) (Nat.le_of_ble_eq_true rfl) ?_
  rintro hf1 M
  obtain ⟨Z0, E_a, F_version, F_size, F_dark, F_function, A_d, A_f, ⟨gn_ad, gn_af, nda, na1, na2⟩, hpc, Kb⟩ := id M
  refine w_aloadN ok dIn_53 rfl rfl ?_
  refine w_iconst ok (z := 0) dIn_54 rfl ?_
  refine w_aloadN ok dIn_55 rfl rfl ?_
  refine w_getfield ok (host := "") (Or.inl (hw _ (List.mem_of_getElem? (i := 16) rfl))) Via.refl F_size dIn_56 ?_
  refine w_bipush ok (z := 7) dIn_59 rfl ?_
  refine w_isub ok dIn_61 ?_
  refine w_privN ok (argsL := [(.int (0 : Int32)), (.int (size - (7 : Int32)))]) (rest := []) (hw _ (List.mem_of_getElem? (i := 23) rfl)) (hw _ (List.mem_of_getElem? (i := 24) rfl)) (hw _ (List.mem_of_getElem? (i := 25) rfl)) (hw _ (List.mem_of_getElem? (i := 3) rfl)) (hw _ (List.mem_of_getElem? (i := 4) rfl)) (hw _ (List.mem_of_getElem? (i := 26) rfl)) E_a (by decide) (rmFi l Z a0 hw n0 hb a ad af ver size N 0 (size - 7) s1 s2 hf1 M c2) dIn_62 (lenOf pd__II_V rfl) rfl rfl (Nat.le_of_ble_eq_true rfl) (Nat.le_of_ble_eq_true rfl) (k' := 2) (n' := 882) rfl rfl (Nat.le_of_ble_eq_true rfl) (Nat.le_of_ble_eq_true rfl) ?_
  rintro hf2 M
  obtain ⟨Z0, E_a, F_version, F_size, F_dark, F_function, A_d, A_f, ⟨gn_ad, gn_af, nda, na1, na2⟩, hpc, Kb⟩ := id M
  refine w_aloadN ok dIn_65 rfl rfl ?_
  refine w_aloadN ok dIn_66 rfl rfl ?_
  refine w_getfield ok (host := "") (Or.inl (hw _ (List.mem_of_getElem? (i := 16) rfl))) Via.refl F_size dIn_67 ?_
  refine w_bipush ok (z := 7) dIn_70 rfl ?_
  refine w_isub ok dIn_72 ?_
  refine w_iconst ok (z := 0) dIn_73 rfl ?_
  refine w_privN ok (argsL := [(.int (size - (7 : Int32))), (.int (0 : Int32))]) (rest := []) (hw _ (List.mem_of_getElem? (i := 23) rfl)) (hw _ (List.mem_of_getElem? (i := 24) rfl)) (hw _ (List.mem_of_getElem? (i := 25) rfl)) (hw _ (List.mem_of_getElem? (i := 3) rfl)) (hw _ (List.mem_of_getElem? (i := 4) rfl)) (hw _ (List.mem_of_getElem? (i := 26) rfl)) E_a (by decide) (rmFi l Z a0 hw n0 hb a ad af ver size N (size - 7) 0 s2 s3 hf2 M c3) dIn_74 (lenOf pd__II_V rfl) rfl rfl (Nat.le_of_ble_eq_true rfl) (Nat.le_of_ble_eq_true rfl) (k' := 2) (n' := 882) rfl rfl (Nat.le_of_ble_eq_true rfl) (Nat.le_of_ble_eq_true rfl) ?_
  rintro hf3 M
  obtain ⟨Z0, E_a, F_version, F_size, F_dark, F_function, A_d, A_f, ⟨gn_ad, gn_af, nda, na1, na2⟩, hpc, Kb⟩ := id M
  refine w_aloadN ok dIn_77 rfl rfl ?_
  refine w_privN ok (argsL := []) (rest := []) (hw _ (List.mem_of_getElem? (i := 38) rfl)) (hw _ (List.mem_of_getElem? (i := 39) rfl)) (hw _ (List.mem_of_getElem? (i := 40) rfl)) (hw _ (List.mem_of_getElem? (i := 3) rfl)) (hw _ (List.mem_of_getElem? (i := 4) rfl)) (hw _ (List.mem_of_getElem? (i := 41) rfl)) E_a (by decide) (rmAl l Z a0 hw n0 hb a ad af ver size N s3 s4 hf3 M c4) dIn_78 (lenOf pd___V rfl) rfl rfl (Nat.le_of_ble_eq_true rfl) (Nat.le_of_ble_eq_true rfl) (k' := 3) (n' := 889) rfl rfl (Nat.le_of_ble_eq_true rfl) (Nat.le_of_ble_eq_true rfl) ?_
  rintro hf4 M
  obtain ⟨Z0, E_a, F_version, F_size, F_dark, F_function, A_d, A_f, ⟨gn_ad, gn_af, nda, na1, na2⟩, hpc, Kb⟩ := id M
  refine w_iconst ok (z := 0) dIn_81 rfl ?_
  refine w_istoreN ok (Ls' := #[.val (.ref a), .val (.int ver), .val (.int (0 : Int32)), .unset]) dIn_82 rfl ?_
  have J167 : ∀ (i : Int32) (hh : Heap) (M : own_Mat Z n0 hb hh a ver size ad af N s5), Wp l ({ frames := 2, cells := 18, slots := 949, locals := 42 } : Room) n0 K (fun v h' => v = none ∧ ∃ ad af D, own_Mat Z n0 hb h' a ver size ad af N (st'.1, D, st'.2.2) ∧ (ver < 7 → D = st'.2.1) ∧ hb.size ≤ ad ∧ hb.size ≤ af) hh 3 889 167 #[.val (.ref a), .val (.int ver), .val (.int i), .unset] [] := by
    intro i hh M
    obtain ⟨Z0, E_a, F_version, F_size, F_dark, F_function, A_d, A_f, ⟨gn_ad, gn_af, nda, na1, na2⟩, hpc, Kb⟩ := id M
    refine w_aloadN ok dIn_167 rfl rfl ?_
    refine w_aloadN ok dIn_168 rfl rfl ?_
    refine w_getfield ok (host := "") (Or.inl (hw _ (List.mem_of_getElem? (i := 16) rfl))) Via.refl F_size dIn_169 ?_
    refine w_bipush ok (z := 8) dIn_172 rfl ?_
    refine w_isub ok dIn_174 ?_
    refine w_bipush ok (z := 8) dIn_175 rfl ?_
    refine w_iconst ok (z := 1) dIn_177 rfl ?_
    refine w_privN ok (argsL := [(.int (size - (8 : Int32))), (.int (8 : Int32)), (.int (1 : Int32))]) (rest := []) (hw _ (List.mem_of_getElem? (i := 34) rfl)) (hw _ (List.mem_of_getElem? (i := 35) rfl)) (hw _ (List.mem_of_getElem? (i := 36) rfl)) (hw _ (List.mem_of_getElem? (i := 3) rfl)) (hw _ (List.mem_of_getElem? (i := 4) rfl)) (hw _ (List.mem_of_getElem? (i := 37) rfl)) E_a (by decide) (rmDF l Z a0 hw n0 hb a ad af ver size N _ _ _ s5 s6 hh M c6) dIn_178 (lenOf pd__IIZ_V rfl) rfl rfl (Nat.le_of_ble_eq_true rfl) (Nat.le_of_ble_eq_true rfl) (k' := 3) (n' := 889) rfl rfl (Nat.le_of_ble_eq_true rfl) (Nat.le_of_ble_eq_true rfl) ?_
    rintro hg ⟨Kc, M⟩
    replace c7 := c7
    refine w_iconst ok (z := 0) dIn_181 rfl ?_
    refine w_istoreN ok (Ls' := #[.val (.ref a), .val (.int ver), .val (.int (0 : Int32)), .unset]) dIn_182 rfl ?_
    obtain ⟨u0, v0, d0, e0, c7⟩ := own_fl2 c7
    obtain ⟨Z0, E_a, F_version, F_size, F_dark, F_function, A_d, A_f, ⟨gn_ad, gn_af, nda, na1, na2⟩, hpc, Kb⟩ := id M
    refine w_iloadN ok dIn_183 rfl ?_
    refine w_bipush ok (z := 15) dIn_184 rfl ?_
    refine w_ic_ge ok dIn_186 (fun q => absurd (by decide) q) (fun _ => ?_)
    refine w_aloadN ok dIn_189 rfl rfl ?_
    refine w_iloadN ok dIn_190 rfl ?_
    refine w_privV ok (argsL := [(.int (0 : Int32))]) (rest := []) (hw _ (List.mem_of_getElem? (i := 47) rfl)) (hw _ (List.mem_of_getElem? (i := 48) rfl)) (hw _ (List.mem_of_getElem? (i := 49) rfl)) (hw _ (List.mem_of_getElem? (i := 3) rfl)) (hw _ (List.mem_of_getElem? (i := 4) rfl)) (hw _ (List.mem_of_getElem? (i := 50) rfl)) E_a (by decide) (rmFM l Z a0 hw n0 hb a ad af ver size N s6 (0 : Int32) hg M) dIn_191 (lenOf pd__I_ArI rfl) rfl rfl (Nat.le_of_ble_eq_true rfl) (Nat.le_of_ble_eq_true rfl) (k' := 4) (n' := 893) rfl rfl (Nat.le_of_ble_eq_true rfl) (Nat.le_of_ble_eq_true rfl) ?_
    rintro _ k0 ⟨m0, rfl, Vm, Kc, gm⟩
    have nb1 : m0 ≠ ad := Nat.ne_of_gt (Nat.lt_of_lt_of_le A_d.lt gm)
    have nb2 : m0 ≠ af := Nat.ne_of_gt (Nat.lt_of_lt_of_le A_f.lt gm)
    replace M := M.keep0 Kc
    replace E_a := M.2.1
    refine w_astoreN ok (Ls' := #[.val (.ref a), .val (.int ver), .val (.int (0 : Int32)), .val (.ref m0)]) dIn_194 rfl rfl ?_
    refine w_aloadN ok dIn_195 rfl rfl ?_
    refine w_aloadN ok dIn_196 rfl rfl ?_
    refine w_iconst ok (z := 0) dIn_197 rfl ?_
    refine w_iaload ok (i := 0) Vm (Nat.le_of_ble_eq_true rfl) rfl dIn_198 ?_
    refine w_aloadN ok dIn_199 rfl rfl ?_
    refine w_iconst ok (z := 1) dIn_200 rfl ?_
    refine w_iaload ok (i := 1) Vm (Nat.le_of_ble_eq_true rfl) rfl dIn_201 ?_
    refine w_iconst ok (z := 0) dIn_202 rfl ?_
    refine w_privN ok (argsL := [(.int (own_f0 (0 : Int32))), (.int (own_f1 (0 : Int32))), (.int (0 : Int32))]) (rest := []) (hw _ (List.mem_of_getElem? (i := 34) rfl)) (hw _ (List.mem_of_getElem? (i := 35) rfl)) (hw _ (List.mem_of_getElem? (i := 36) rfl)) (hw _ (List.mem_of_getElem? (i := 3) rfl)) (hw _ (List.mem_of_getElem? (i := 4) rfl)) (hw _ (List.mem_of_getElem? (i := 37) rfl)) E_a (by decide) (rmDF l Z a0 hw n0 hb a ad af ver size N _ _ _ s6 u0 k0 M d0) dIn_203 (lenOf pd__IIZ_V rfl) rfl rfl (Nat.le_of_ble_eq_true rfl) (Nat.le_of_ble_eq_true rfl) (k' := 4) (n' := 893) rfl rfl (Nat.le_of_ble_eq_true rfl) (Nat.le_of_ble_eq_true rfl) ?_
    rintro x0 ⟨Kc, M⟩
    replace Vm := Vm.keep Kc (ninS nb1 (ninS nb2 nin0))
    replace E_a := M.2.1
    refine w_aloadN ok dIn_206 rfl rfl ?_
    refine w_aloadN ok dIn_207 rfl rfl ?_
    refine w_iconst ok (z := 2) dIn_208 rfl ?_
    refine w_iaload ok (i := 2) Vm (Nat.le_of_ble_eq_true rfl) rfl dIn_209 ?_
    refine w_aloadN ok dIn_210 rfl rfl ?_
    refine w_iconst ok (z := 3) dIn_211 rfl ?_
    refine w_iaload ok (i := 3) Vm (Nat.le_of_ble_eq_true rfl) rfl dIn_212 ?_
    refine w_iconst ok (z := 0) dIn_213 rfl ?_
    refine w_privN ok (argsL := [(.int (own_f2 size (0 : Int32))), (.int (own_f3 size (0 : Int32))), (.int (0 : Int32))]) (rest := []) (hw _ (List.mem_of_getElem? (i := 34) rfl)) (hw _ (List.mem_of_getElem? (i := 35) rfl)) (hw _ (List.mem_of_getElem? (i := 36) rfl)) (hw _ (List.mem_of_getElem? (i := 3) rfl)) (hw _ (List.mem_of_getElem? (i := 4) rfl)) (hw _ (List.mem_of_getElem? (i := 37) rfl)) E_a (by decide) (rmDF l Z a0 hw n0 hb a ad af ver size N _ _ _ u0 v0 x0 M e0) dIn_214 (lenOf pd__IIZ_V rfl) rfl rfl (Nat.le_of_ble_eq_true rfl) (Nat.le_of_ble_eq_true rfl) (k' := 4) (n' := 893) rfl rfl (Nat.le_of_ble_eq_true rfl) (Nat.le_of_ble_eq_true rfl) ?_
    rintro y0 ⟨Kc, M⟩
    refine w_iinc ok (Ls' := #[.val (.ref a), .val (.int ver), .val (.int ((0 : Int32) + (1 : Int32))), .val (.ref m0)]) dIn_217 rfl rfl ?_
    show Wp l ({ frames := 2, cells := 18, slots := 949, locals := 42 } : Room) n0 K (fun v h' => v = none ∧ ∃ ad af D, own_Mat Z n0 hb h' a ver size ad af N (st'.1, D, st'.2.2) ∧ (ver < 7 → D = st'.2.1) ∧ hb.size ≤ ad ∧ hb.size ≤ af) y0 4 893 220 #[.val (.ref a), .val (.int ver), .val (.int (1 : Int32)), .val (.ref m0)] []
    refine w_goto ok dIn_220 ?_
    obtain ⟨u1, v1, d1, e1, c7⟩ := own_fl2 c7
    obtain ⟨Z0, E_a, F_version, F_size, F_dark, F_function, A_d, A_f, ⟨gn_ad, gn_af, nda, na1, na2⟩, hpc, Kb⟩ := id M
    refine w_iloadN ok dIn_183 rfl ?_
    refine w_bipush ok (z := 15) dIn_184 rfl ?_
    refine w_ic_ge ok dIn_186 (fun q => absurd (by decide) q) (fun _ => ?_)
    refine w_aloadN ok dIn_189 rfl rfl ?_
    refine w_iloadN ok dIn_190 rfl ?_
    refine w_privV ok (argsL := [(.int (1 : Int32))]) (rest := []) (hw _ (List.mem_of_getElem? (i := 47) rfl)) (hw _ (List.mem_of_getElem? (i := 48) rfl)) (hw _ (List.mem_of_getElem? (i := 49) rfl)) (hw _ (List.mem_of_getElem? (i := 3) rfl)) (hw _ (List.mem_of_getElem? (i := 4) rfl)) (hw _ (List.mem_of_getElem? (i := 50) rfl)) E_a (by decide) (rmFM l Z a0 hw n0 hb a ad af ver size N v0 (1 : Int32) y0 M) dIn_191 (lenOf pd__I_ArI rfl) rfl rfl (Nat.le_of_ble_eq_true rfl) (Nat.le_of_ble_eq_true rfl) (k' := 5) (n' := 897) rfl rfl (Nat.le_of_ble_eq_true rfl) (Nat.le_of_ble_eq_true rfl) ?_
    rintro _ k1 ⟨m1, rfl, Vm, Kc, gm⟩
    have nb1 : m1 ≠ ad := Nat.ne_of_gt (Nat.lt_of_lt_of_le A_d.lt gm)
    have nb2 : m1 ≠ af := Nat.ne_of_gt (Nat.lt_of_lt_of_le A_f.lt gm)
    replace M := M.keep0 Kc
    replace E_a := M.2.1
    refine w_astoreN ok (Ls' := #[.val (.ref a), .val (.int ver), .val (.int (1 : Int32)), .val (.ref m1)]) dIn_194 rfl rfl ?_
    refine w_aloadN ok dIn_195 rfl rfl ?_
    refine w_aloadN ok dIn_196 rfl rfl ?_
    refine w_iconst ok (z := 0) dIn_197 rfl ?_
    refine w_iaload ok (i := 0) Vm (Nat.le_of_ble_eq_true rfl) rfl dIn_198 ?_
    refine w_aloadN ok dIn_199 rfl rfl ?_
    refine w_iconst ok (z := 1) dIn_200 rfl ?_
    refine w_iaload ok (i := 1) Vm (Nat.le_of_ble_eq_true rfl) rfl dIn_201 ?_
    refine w_iconst ok (z := 0) dIn_202 rfl ?_
    refine w_privN ok (argsL := [(.int (own_f0 (1 : Int32))), (.int (own_f1 (1 : Int32))), (.int (0 : Int32))]) (rest := []) (hw _ (List.mem_of_getElem? (i := 34) rfl)) (hw _ (List.mem_of_getElem? (i := 35) rfl)) (hw _ (List.mem_of_getElem? (i := 36) rfl)) (hw _ (List.mem_of_getElem? (i := 3) rfl)) (hw _ (List.mem_of_getElem? (i := 4) rfl)) (hw _ (List.mem_of_getElem? (i := 37) rfl)) E_a (by decide) (rmDF l Z a0 hw n0 hb a ad af ver size N _ _ _ v0 u1 k1 M d1) dIn_203 (lenOf pd__IIZ_V rfl) rfl rfl (Nat.le_of_ble_eq_true rfl) (Nat.le_of_ble_eq_true rfl) (k' := 5) (n' := 897) rfl rfl (Nat.le_of_ble_eq_true rfl) (Nat.le_of_ble_eq_true rfl) ?_
    rintro x1 ⟨Kc, M⟩
    replace Vm := Vm.keep Kc (ninS nb1 (ninS nb2 nin0))
    replace E_a := M.2.1
    refine w_aloadN ok dIn_206 rfl rfl ?_
    refine w_aloadN ok dIn_207 rfl rfl ?_
    refine w_iconst ok (z := 2) dIn_208 rfl ?_
    refine w_iaload ok (i := 2) Vm (Nat.le_of_ble_eq_true rfl) rfl dIn_209 ?_
    refine w_aloadN ok dIn_210 rfl rfl ?_
    refine w_iconst ok (z := 3) dIn_211 rfl ?_
    refine w_iaload ok (i := 3) Vm (Nat.le_of_ble_eq_true rfl) rfl dIn_212 ?_
    refine w_iconst ok (z := 0) dIn_213 rfl ?_
    refine w_privN ok (argsL := [(.int (own_f2 size (1 : Int32))), (.int (own_f3 size (1 : Int32))), (.int (0 : Int32))]) (rest := []) (hw _ (List.mem_of_getElem? (i := 34) rfl)) (hw _ (List.mem_of_getElem? (i := 35) rfl)) (hw _ (List.mem_of_getElem? (i := 36) rfl)) (hw _ (List.mem_of_getElem? (i := 3) rfl)) (hw _ (List.mem_of_getElem? (i := 4) rfl)) (hw _ (List.mem_of_getElem? (i := 37) rfl)) E_a (by decide) (rmDF l Z a0 hw n0 hb a ad af ver size N _ _ _ u1 v1 x1 M e1) dIn_214 (lenOf pd__IIZ_V rfl) rfl rfl (Nat.le_of_ble_eq_true rfl) (Nat.le_of_ble_eq_true rfl) (k' := 5) (n' := 897) rfl rfl (Nat.le_of_ble_eq_true rfl) (Nat.le_of_ble_eq_true rfl) ?_
    rintro y1 ⟨Kc, M⟩
    refine w_iinc ok (Ls' := #[.val (.ref a), .val (.int ver), .val (.int ((1 : Int32) + (1 : Int32))), .val (.ref m1)]) dIn_217 rfl rfl ?_
    show Wp l ({ frames := 2, cells := 18, slots := 949, locals := 42 } : Room) n0 K (fun v h' => v = none ∧ ∃ ad af D, own_Mat Z n0 hb h' a ver size ad af N (st'.1, D, st'.2.2) ∧ (ver < 7 → D = st'.2.1) ∧ hb.size ≤ ad ∧ hb.size ≤ af) y1 5 897 220 #[.val (.ref a), .val (.int ver), .val (.int (2 : Int32)), .val (.ref m1)] []
    refine w_goto ok dIn_220 ?_
    obtain ⟨u2, v2, d2, e2, c7⟩ := own_fl2 c7
    obtain ⟨Z0, E_a, F_version, F_size, F_dark, F_function, A_d, A_f, ⟨gn_ad, gn_af, nda, na1, na2⟩, hpc, Kb⟩ := id M
    refine w_iloadN ok dIn_183 rfl ?_
    refine w_bipush ok (z := 15) dIn_184 rfl ?_
    refine w_ic_ge ok dIn_186 (fun q => absurd (by decide) q) (fun _ => ?_)
    refine w_aloadN ok dIn_189 rfl rfl ?_
    refine w_iloadN ok dIn_190 rfl ?_
    refine w_privV ok (argsL := [(.int (2 : Int32))]) (rest := []) (hw _ (List.mem_of_getElem? (i := 47) rfl)) (hw _ (List.mem_of_getElem? (i := 48) rfl)) (hw _ (List.mem_of_getElem? (i := 49) rfl)) (hw _ (List.mem_of_getElem? (i := 3) rfl)) (hw _ (List.mem_of_getElem? (i := 4) rfl)) (hw _ (List.mem_of_getElem? (i := 50) rfl)) E_a (by decide) (rmFM l Z a0 hw n0 hb a ad af ver size N v1 (2 : Int32) y1 M) dIn_191 (lenOf pd__I_ArI rfl) rfl rfl (Nat.le_of_ble_eq_true rfl) (Nat.le_of_ble_eq_true rfl) (k' := 6) (n' := 901) rfl rfl (Nat.le_of_ble_eq_true rfl) (Nat.le_of_ble_eq_true rfl) ?_
    rintro _ k2 ⟨m2, rfl, Vm, Kc, gm⟩
    have nb1 : m2 ≠ ad := Nat.ne_of_gt (Nat.lt_of_lt_of_le A_d.lt gm)
    have nb2 : m2 ≠ af := Nat.ne_of_gt (Nat.lt_of_lt_of_le A_f.lt gm)
    replace M := M.keep0 Kc
    replace E_a := M.2.1
    refine w_astoreN ok (Ls' := #[.val (.ref a), .val (.int ver), .val (.int (2 : Int32)), .val (.ref m2)]) dIn_194 rfl rfl ?_
    refine w_aloadN ok dIn_195 rfl rfl ?_
    refine w_aloadN ok dIn_196 rfl rfl ?_
    refine w_iconst ok (z := 0) dIn_197 rfl ?_
    refine w_iaload ok (i := 0) Vm (Nat.le_of_ble_eq_true rfl) rfl dIn_198 ?_
    refine w_aloadN ok dIn_199 rfl rfl ?_
    refine w_iconst ok (z := 1) dIn_200 rfl ?_
    refine w_iaload ok (i := 1) Vm (Nat.le_of_ble_eq_true rfl) rfl dIn_201 ?_
    refine w_iconst ok (z := 0) dIn_202 rfl ?_
    refine w_privN ok (argsL := [(.int (own_f0 (2 : Int32))), (.int (own_f1 (2 : Int32))), (.int (0 : Int32))]) (rest := []) (hw _ (List.mem_of_getElem? (i := 34) rfl)) (hw _ (List.mem_of_getElem? (i := 35) rfl)) (hw _ (List.mem_of_getElem? (i := 36) rfl)) (hw _ (List.mem_of_getElem? (i := 3) rfl)) (hw _ (List.mem_of_getElem? (i := 4) rfl)) (hw _ (List.mem_of_getElem? (i := 37) rfl)) E_a (by decide) (rmDF l Z a0 hw n0 hb a ad af ver size N _ _ _ v1 u2 k2 M d2) dIn_203 (lenOf pd__IIZ_V rfl) rfl rfl (Nat.le_of_ble_eq_true rfl) (Nat.le_of_ble_eq_true rfl) (k' := 6) (n' := 901) rfl rfl (Nat.le_of_ble_eq_true rfl) (Nat.le_of_ble_eq_true rfl) ?_
    rintro x2 ⟨Kc, M⟩
    replace Vm := Vm.keep Kc (ninS nb1 (ninS nb2 nin0))
    replace E_a := M.2.1
    refine w_aloadN ok dIn_206 rfl rfl ?_
    refine w_aloadN ok dIn_207 rfl rfl ?_
    refine w_iconst ok (z := 2) dIn_208 rfl ?_
    refine w_iaload ok (i := 2) Vm (Nat.le_of_ble_eq_true rfl) rfl dIn_209 ?_
    refine w_aloadN ok dIn_210 rfl rfl ?_
    refine w_iconst ok (z := 3) dIn_211 rfl ?_
    refine w_iaload ok (i := 3) Vm (Nat.le_of_ble_eq_true rfl) rfl dIn_212 ?_
    refine w_iconst ok (z := 0) dIn_213 rfl ?_
    refine w_privN ok (argsL := [(.int (own_f2 size (2 : Int32))), (.int (own_f3 size (2 : Int32))), (.int (0 : Int32))]) (rest := []) (hw _ (List.mem_of_getElem? (i := 34) rfl)) (hw _ (List.mem_of_getElem? (i := 35) rfl)) (hw _ (List.mem_of_getElem? (i := 36) rfl)) (hw _ (List.mem_of_getElem? (i := 3) rfl)) (hw _ (List.mem_of_getElem? (i := 4) rfl)) (hw _ (List.mem_of_getElem? (i := 37) rfl)) E_a (by decide) (rmDF l Z a0 hw n0 hb a ad af ver size N _ _ _ u2 v2 x2 M e2) dIn_214 (lenOf pd__IIZ_V rfl) rfl rfl (Nat.le_of_ble_eq_true rfl) (Nat.le_of_ble_eq_true rfl) (k' := 6) (n' := 901) rfl rfl (Nat.le_of_ble_eq_true rfl) (Nat.le_of_ble_eq_true rfl) ?_
    rintro y2 ⟨Kc, M⟩
    refine w_iinc ok (Ls' := #[.val (.ref a), .val (.int ver), .val (.int ((2 : Int32) + (1 : Int32))), .val (.ref m2)]) dIn_217 rfl rfl ?_
    show Wp l ({ frames := 2, cells := 18, slots := 949, locals := 42 } : Room) n0 K (fun v h' => v = none ∧ ∃ ad af D, own_Mat Z n0 hb h' a ver size ad af N (st'.1, D, st'.2.2) ∧ (ver < 7 → D = st'.2.1) ∧ hb.size ≤ ad ∧ hb.size ≤ af) y2 6 901 220 #[.val (.ref a), .val (.int ver), .val (.int (3 : Int32)), .val (.ref m2)] []
    refine w_goto ok dIn_220 ?_
    obtain ⟨u3, v3, d3, e3, c7⟩ := own_fl2 c7
    obtain ⟨Z0, E_a, F_version, F_size, F_dark, F_function, A_d, A_f, ⟨gn_ad, gn_af, nda, na1, na2⟩, hpc, Kb⟩ := id M
    refine w_iloadN ok dIn_183 rfl ?_
    refine w_bipush ok (z := 15) dIn_184 rfl ?_
    refine w_ic_ge ok dIn_186 (fun q => absurd (by decide) q) (fun _ => ?_)
    refine w_aloadN ok dIn_189 rfl rfl ?_
    refine w_iloadN ok dIn_190 rfl ?_
    refine w_privV ok (argsL := [(.int (3 : Int32))]) (rest := []) (hw _ (List.mem_of_getElem? (i := 47) rfl)) (hw _ (List.mem_of_getElem? (i := 48) rfl)) (hw _ (List.mem_of_getElem? (i := 49) rfl)) (hw _ (List.mem_of_getElem? (i := 3) rfl)) (hw _ (List.mem_of_getElem? (i := 4) rfl)) (hw _ (List.mem_of_getElem? (i := 50) rfl)) E_a (by decide) (rmFM l Z a0 hw n0 hb a ad af ver size N v2 (3 : Int32) y2 M) dIn_191 (lenOf pd__I_ArI rfl) rfl rfl (Nat.le_of_ble_eq_true rfl) (Nat.le_of_ble_eq_true rfl) (k' := 7) (n' := 905) rfl rfl (Nat.le_of_ble_eq_true rfl) (Nat.le_of_ble_eq_true rfl) ?_
    rintro _ k3 ⟨m3, rfl, Vm, Kc, gm⟩
    have nb1 : m3 ≠ ad := Nat.ne_of_gt (Nat.lt_of_lt_of_le A_d.lt gm)
    have nb2 : m3 ≠ af := Nat.ne_of_gt (Nat.lt_of_lt_of_le A_f.lt gm)
    replace M := M.keep0 Kc
    replace E_a := M.2.1
    refine w_astoreN ok (Ls' := #[.val (.ref a), .val (.int ver), .val (.int (3 : Int32)), .val (.ref m3)]) dIn_194 rfl rfl ?_
    refine w_aloadN ok dIn_195 rfl rfl ?_
    refine w_aloadN ok dIn_196 rfl rfl ?_
    refine w_iconst ok (z := 0) dIn_197 rfl ?_
    refine w_iaload ok (i := 0) Vm (Nat.le_of_ble_eq_true rfl) rfl dIn_198 ?_
    refine w_aloadN ok dIn_199 rfl rfl ?_
    refine w_iconst ok (z := 1) dIn_200 rfl ?_
    refine w_iaload ok (i := 1) Vm (Nat.le_of_ble_eq_true rfl) rfl dIn_201 ?_
    refine w_iconst ok (z := 0) dIn_202 rfl ?_
    refine w_privN ok (argsL := [(.int (own_f0 (3 : Int32))), (.int (own_f1 (3 : Int32))), (.int (0 : Int32))]) (rest := []) (hw _ (List.mem_of_getElem? (i := 34) rfl)) (hw _ (List.mem_of_getElem? (i := 35) rfl)) (hw _ (List.mem_of_getElem? (i := 36) rfl)) (hw _ (List.mem_of_getElem? (i := 3) rfl)) (hw _ (List.mem_of_getElem? (i := 4) rfl)) (hw _ (List.mem_of_getElem? (i := 37) rfl)) E_a (by decide) (rmDF l Z a0 hw n0 hb a ad af ver size N _ _ _ v2 u3 k3 M d3) dIn_203 (lenOf pd__IIZ_V rfl) rfl rfl (Nat.le_of_ble_eq_true rfl) (Nat.le_of_ble_eq_true rfl) (k' := 7) (n' := 905) rfl rfl (Nat.le_of_ble_eq_true rfl) (Nat.le_of_ble_eq_true rfl) ?_
    rintro x3 ⟨Kc, M⟩
    replace Vm := Vm.keep Kc (ninS nb1 (ninS nb2 nin0))
    replace E_a := M.2.1
    refine w_aloadN ok dIn_206 rfl rfl ?_
    refine w_aloadN ok dIn_207 rfl rfl ?_
    refine w_iconst ok (z := 2) dIn_208 rfl ?_
    refine w_iaload ok (i := 2) Vm (Nat.le_of_ble_eq_true rfl) rfl dIn_209 ?_
    refine w_aloadN ok dIn_210 rfl rfl ?_
    refine w_iconst ok (z := 3) dIn_211 rfl ?_
    refine w_iaload ok (i := 3) Vm (Nat.le_of_ble_eq_true rfl) rfl dIn_212 ?_
    refine w_iconst ok (z := 0) dIn_213 rfl ?_
    refine w_privN ok (argsL := [(.int (own_f2 size (3 : Int32))), (.int (own_f3 size (3 : Int32))), (.int (0 : Int32))]) (rest := []) (hw _ (List.mem_of_getElem? (i := 34) rfl)) (hw _ (List.mem_of_getElem? (i := 35) rfl)) (hw _ (List.mem_of_getElem? (i := 36) rfl)) (hw _ (List.mem_of_getElem? (i := 3) rfl)) (hw _ (List.mem_of_getElem? (i := 4) rfl)) (hw _ (List.mem_of_getElem? (i := 37) rfl)) E_a (by decide) (rmDF l Z a0 hw n0 hb a ad af ver size N _ _ _ u3 v3 x3 M e3) dIn_214 (lenOf pd__IIZ_V rfl) rfl rfl (Nat.le_of_ble_eq_true rfl) (Nat.le_of_ble_eq_true rfl) (k' := 7) (n' := 905) rfl rfl (Nat.le_of_ble_eq_true rfl) (Nat.le_of_ble_eq_true rfl) ?_
    rintro y3 ⟨Kc, M⟩
    refine w_iinc ok (Ls' := #[.val (.ref a), .val (.int ver), .val (.int ((3 : Int32) + (1 : Int32))), .val (.ref m3)]) dIn_217 rfl rfl ?_
    show Wp l ({ frames := 2, cells := 18, slots := 949, locals := 42 } : Room) n0 K (fun v h' => v = none ∧ ∃ ad af D, own_Mat Z n0 hb h' a ver size ad af N (st'.1, D, st'.2.2) ∧ (ver < 7 → D = st'.2.1) ∧ hb.size ≤ ad ∧ hb.size ≤ af) y3 7 905 220 #[.val (.ref a), .val (.int ver), .val (.int (4 : Int32)), .val (.ref m3)] []
    refine w_goto ok dIn_220 ?_
    obtain ⟨u4, v4, d4, e4, c7⟩ := own_fl2 c7
    obtain ⟨Z0, E_a, F_version, F_size, F_dark, F_function, A_d, A_f, ⟨gn_ad, gn_af, nda, na1, na2⟩, hpc, Kb⟩ := id M
    refine w_iloadN ok dIn_183 rfl ?_
    refine w_bipush ok (z := 15) dIn_184 rfl ?_
    refine w_ic_ge ok dIn_186 (fun q => absurd (by decide) q) (fun _ => ?_)
    refine w_aloadN ok dIn_189 rfl rfl ?_
    refine w_iloadN ok dIn_190 rfl ?_
    refine w_privV ok (argsL := [(.int (4 : Int32))]) (rest := []) (hw _ (List.mem_of_getElem? (i := 47) rfl)) (hw _ (List.mem_of_getElem? (i := 48) rfl)) (hw _ (List.mem_of_getElem? (i := 49) rfl)) (hw _ (List.mem_of_getElem? (i := 3) rfl)) (hw _ (List.mem_of_getElem? (i := 4) rfl)) (hw _ (List.mem_of_getElem? (i := 50) rfl)) E_a (by decide) (rmFM l Z a0 hw n0 hb a ad af ver size N v3 (4 : Int32) y3 M) dIn_191 (lenOf pd__I_ArI rfl) rfl rfl (Nat.le_of_ble_eq_true rfl) (Nat.le_of_ble_eq_true rfl) (k' := 8) (n' := 909) rfl rfl (Nat.le_of_ble_eq_true rfl) (Nat.le_of_ble_eq_true rfl) ?_
    rintro _ k4 ⟨m4, rfl, Vm, Kc, gm⟩
    have nb1 : m4 ≠ ad := Nat.ne_of_gt (Nat.lt_of_lt_of_le A_d.lt gm)
    have nb2 : m4 ≠ af := Nat.ne_of_gt (Nat.lt_of_lt_of_le A_f.lt gm)
    replace M := M.keep0 Kc
    replace E_a := M.2.1
    refine w_astoreN ok (Ls' := #[.val (.ref a), .val (.int ver), .val (.int (4 : Int32)), .val (.ref m4)]) dIn_194 rfl rfl ?_
    refine w_aloadN ok dIn_195 rfl rfl ?_
    refine w_aloadN ok dIn_196 rfl rfl ?_
    refine w_iconst ok (z := 0) dIn_197 rfl ?_
    refine w_iaload ok (i := 0) Vm (Nat.le_of_ble_eq_true rfl) rfl dIn_198 ?_
    refine w_aloadN ok dIn_199 rfl rfl ?_
    refine w_iconst ok (z := 1) dIn_200 rfl ?_
    refine w_iaload ok (i := 1) Vm (Nat.le_of_ble_eq_true rfl) rfl dIn_201 ?_
    refine w_iconst ok (z := 0) dIn_202 rfl ?_
    refine w_privN ok (argsL := [(.int (own_f0 (4 : Int32))), (.int (own_f1 (4 : Int32))), (.int (0 : Int32))]) (rest := []) (hw _ (List.mem_of_getElem? (i := 34) rfl)) (hw _ (List.mem_of_getElem? (i := 35) rfl)) (hw _ (List.mem_of_getElem? (i := 36) rfl)) (hw _ (List.mem_of_getElem? (i := 3) rfl)) (hw _ (List.mem_of_getElem? (i := 4) rfl)) (hw _ (List.mem_of_getElem? (i := 37) rfl)) E_a (by decide) (rmDF l Z a0 hw n0 hb a ad af ver size N _ _ _ v3 u4 k4 M d4) dIn_203 (lenOf pd__IIZ_V rfl) rfl rfl (Nat.le_of_ble_eq_true rfl) (Nat.le_of_ble_eq_true rfl) (k' := 8) (n' := 909) rfl rfl (Nat.le_of_ble_eq_true rfl) (Nat.le_of_ble_eq_true rfl) ?_
    rintro x4 ⟨Kc, M⟩
    replace Vm := Vm.keep Kc (ninS nb1 (ninS nb2 nin0))
    replace E_a := M.2.1
    refine w_aloadN ok dIn_206 rfl rfl ?_
    refine w_aloadN ok dIn_207 rfl rfl ?_
    refine w_iconst ok (z := 2) dIn_208 rfl ?_
    refine w_iaload ok (i := 2) Vm (Nat.le_of_ble_eq_true rfl) rfl dIn_209 ?_
    refine w_aloadN ok dIn_210 rfl rfl ?_
    refine w_iconst ok (z := 3) dIn_211 rfl ?_
    refine w_iaload ok (i := 3) Vm (Nat.le_of_ble_eq_true rfl) rfl dIn_212 ?_
    refine w_iconst ok (z := 0) dIn_213 rfl ?_
    refine w_privN ok (argsL := [(.int (own_f2 size (4 : Int32))), (.int (own_f3 size (4 : Int32))), (.int (0 : Int32))]) (rest := []) (hw _ (List.mem_of_getElem? (i := 34) rfl)) (hw _ (List.mem_of_getElem? (i := 35) rfl)) (hw _ (List.mem_of_getElem? (i := 36) rfl)) (hw _ (List.mem_of_getElem? (i := 3) rfl)) (hw _ (List.mem_of_getElem? (i := 4) rfl)) (hw _ (List.mem_of_getElem? (i := 37) rfl)) E_a (by decide) (rmDF l Z a0 hw n0 hb a ad af ver size N _ _ _ u4 v4 x4 M e4) dIn_214 (lenOf pd__IIZ_V rfl) rfl rfl (Nat.le_of_ble_eq_true rfl) (Nat.le_of_ble_eq_true rfl) (k' := 8) (n' := 909) rfl rfl (Nat.le_of_ble_eq_true rfl) (Nat.le_of_ble_eq_true rfl) ?_
    rintro y4 ⟨Kc, M⟩
    refine w_iinc ok (Ls' := #[.val (.ref a), .val (.int ver), .val (.int ((4 : Int32) + (1 : Int32))), .val (.ref m4)]) dIn_217 rfl rfl ?_
    show Wp l ({ frames := 2, cells := 18, slots := 949, locals := 42 } : Room) n0 K (fun v h' => v = none ∧ ∃ ad af D, own_Mat Z n0 hb h' a ver size ad af N (st'.1, D, st'.2.2) ∧ (ver < 7 → D = st'.2.1) ∧ hb.size ≤ ad ∧ hb.size ≤ af) y4 8 909 220 #[.val (.ref a), .val (.int ver), .val (.int (5 : Int32)), .val (.ref m4)] []
    refine w_goto ok dIn_220 ?_
    obtain ⟨u5, v5, d5, e5, c7⟩ := own_fl2 c7
    obtain ⟨Z0, E_a, F_version, F_size, F_dark, F_function, A_d, A_f, ⟨gn_ad, gn_af, nda, na1, na2⟩, hpc, Kb⟩ := id M
    refine w_iloadN ok dIn_183 rfl ?_
    refine w_bipush ok (z := 15) dIn_184 rfl ?_
    refine w_ic_ge ok dIn_186 (fun q => absurd (by decide) q) (fun _ => ?_)
    refine w_aloadN ok dIn_189 rfl rfl ?_
    refine w_iloadN ok dIn_190 rfl ?_
    refine w_privV ok (argsL := [(.int (5 : Int32))]) (rest := []) (hw _ (List.mem_of_getElem? (i := 47) rfl)) (hw _ (List.mem_of_getElem? (i := 48) rfl)) (hw _ (List.mem_of_getElem? (i := 49) rfl)) (hw _ (List.mem_of_getElem? (i := 3) rfl)) (hw _ (List.mem_of_getElem? (i := 4) rfl)) (hw _ (List.mem_of_getElem? (i := 50) rfl)) E_a (by decide) (rmFM l Z a0 hw n0 hb a ad af ver size N v4 (5 : Int32) y4 M) dIn_191 (lenOf pd__I_ArI rfl) rfl rfl (Nat.le_of_ble_eq_true rfl) (Nat.le_of_ble_eq_true rfl) (k' := 9) (n' := 913) rfl rfl (Nat.le_of_ble_eq_true rfl) (Nat.le_of_ble_eq_true rfl) ?_
    rintro _ k5 ⟨m5, rfl, Vm, Kc, gm⟩
    have nb1 : m5 ≠ ad := Nat.ne_of_gt (Nat.lt_of_lt_of_le A_d.lt gm)
    have nb2 : m5 ≠ af := Nat.ne_of_gt (Nat.lt_of_lt_of_le A_f.lt gm)
    replace M := M.keep0 Kc
    replace E_a := M.2.1
    refine w_astoreN ok (Ls' := #[.val (.ref a), .val (.int ver), .val (.int (5 : Int32)), .val (.ref m5)]) dIn_194 rfl rfl ?_
    refine w_aloadN ok dIn_195 rfl rfl ?_
    refine w_aloadN ok dIn_196 rfl rfl ?_
    refine w_iconst ok (z := 0) dIn_197 rfl ?_
    refine w_iaload ok (i := 0) Vm (Nat.le_of_ble_eq_true rfl) rfl dIn_198 ?_
    refine w_aloadN ok dIn_199 rfl rfl ?_
    refine w_iconst ok (z := 1) dIn_200 rfl ?_
    refine w_iaload ok (i := 1) Vm (Nat.le_of_ble_eq_true rfl) rfl dIn_201 ?_
    refine w_iconst ok (z := 0) dIn_202 rfl ?_
    refine w_privN ok (argsL := [(.int (own_f0 (5 : Int32))), (.int (own_f1 (5 : Int32))), (.int (0 : Int32))]) (rest := []) (hw _ (List.mem_of_getElem? (i := 34) rfl)) (hw _ (List.mem_of_getElem? (i := 35) rfl)) (hw _ (List.mem_of_getElem? (i := 36) rfl)) (hw _ (List.mem_of_getElem? (i := 3) rfl)) (hw _ (List.mem_of_getElem? (i := 4) rfl)) (hw _ (List.mem_of_getElem? (i := 37) rfl)) E_a (by decide) (rmDF l Z a0 hw n0 hb a ad af ver size N _ _ _ v4 u5 k5 M d5) dIn_203 (lenOf pd__IIZ_V rfl) rfl rfl (Nat.le_of_ble_eq_true rfl) (Nat.le_of_ble_eq_true rfl) (k' := 9) (n' := 913) rfl rfl (Nat.le_of_ble_eq_true rfl) (Nat.le_of_ble_eq_true rfl) ?_
    rintro x5 ⟨Kc, M⟩
    replace Vm := Vm.keep Kc (ninS nb1 (ninS nb2 nin0))
    replace E_a := M.2.1
    refine w_aloadN ok dIn_206 rfl rfl ?_
    refine w_aloadN ok dIn_207 rfl rfl ?_
    refine w_iconst ok (z := 2) dIn_208 rfl ?_
    refine w_iaload ok (i := 2) Vm (Nat.le_of_ble_eq_true rfl) rfl dIn_209 ?_
    refine w_aloadN ok dIn_210 rfl rfl ?_
    refine w_iconst ok (z := 3) dIn_211 rfl ?_
    refine w_iaload ok (i := 3) Vm (Nat.le_of_ble_eq_true rfl) rfl dIn_212 ?_
    refine w_iconst ok (z := 0) dIn_213 rfl ?_
    refine w_privN ok (argsL := [(.int (own_f2 size (5 : Int32))), (.int (own_f3 size (5 : Int32))), (.int (0 : Int32))]) (rest := []) (hw _ (List.mem_of_getElem? (i := 34) rfl)) (hw _ (List.mem_of_getElem? (i := 35) rfl)) (hw _ (List.mem_of_getElem? (i := 36) rfl)) (hw _ (List.mem_of_getElem? (i := 3) rfl)) (hw _ (List.mem_of_getElem? (i := 4) rfl)) (hw _ (List.mem_of_getElem? (i := 37) rfl)) E_a (by decide) (rmDF l Z a0 hw n0 hb a ad af ver size N _ _ _ u5 v5 x5 M e5) dIn_214 (lenOf pd__IIZ_V rfl) rfl rfl (Nat.le_of_ble_eq_true rfl) (Nat.le_of_ble_eq_true rfl) (k' := 9) (n' := 913) rfl rfl (Nat.le_of_ble_eq_true rfl) (Nat.le_of_ble_eq_true rfl) ?_
    rintro y5 ⟨Kc, M⟩
    refine w_iinc ok (Ls' := #[.val (.ref a), .val (.int ver), .val (.int ((5 : Int32) + (1 : Int32))), .val (.ref m5)]) dIn_217 rfl rfl ?_
    show Wp l ({ frames := 2, cells := 18, slots := 949, locals := 42 } : Room) n0 K (fun v h' => v = none ∧ ∃ ad af D, own_Mat Z n0 hb h' a ver size ad af N (st'.1, D, st'.2.2) ∧ (ver < 7 → D = st'.2.1) ∧ hb.size ≤ ad ∧ hb.size ≤ af) y5 9 913 220 #[.val (.ref a), .val (.int ver), .val (.int (6 : Int32)), .val (.ref m5)] []
    refine w_goto ok dIn_220 ?_
    obtain ⟨u6, v6, d6, e6, c7⟩ := own_fl2 c7
    obtain ⟨Z0, E_a, F_version, F_size, F_dark, F_function, A_d, A_f, ⟨gn_ad, gn_af, nda, na1, na2⟩, hpc, Kb⟩ := id M
    refine w_iloadN ok dIn_183 rfl ?_
    refine w_bipush ok (z := 15) dIn_184 rfl ?_
    refine w_ic_ge ok dIn_186 (fun q => absurd (by decide) q) (fun _ => ?_)
    refine w_aloadN ok dIn_189 rfl rfl ?_
    refine w_iloadN ok dIn_190 rfl ?_
    refine w_privV ok (argsL := [(.int (6 : Int32))]) (rest := []) (hw _ (List.mem_of_getElem? (i := 47) rfl)) (hw _ (List.mem_of_getElem? (i := 48) rfl)) (hw _ (List.mem_of_getElem? (i := 49) rfl)) (hw _ (List.mem_of_getElem? (i := 3) rfl)) (hw _ (List.mem_of_getElem? (i := 4) rfl)) (hw _ (List.mem_of_getElem? (i := 50) rfl)) E_a (by decide) (rmFM l Z a0 hw n0 hb a ad af ver size N v5 (6 : Int32) y5 M) dIn_191 (lenOf pd__I_ArI rfl) rfl rfl (Nat.le_of_ble_eq_true rfl) (Nat.le_of_ble_eq_true rfl) (k' := 10) (n' := 917) rfl rfl (Nat.le_of_ble_eq_true rfl) (Nat.le_of_ble_eq_true rfl) ?_
    rintro _ k6 ⟨m6, rfl, Vm, Kc, gm⟩
    have nb1 : m6 ≠ ad := Nat.ne_of_gt (Nat.lt_of_lt_of_le A_d.lt gm)
    have nb2 : m6 ≠ af := Nat.ne_of_gt (Nat.lt_of_lt_of_le A_f.lt gm)
    replace M := M.keep0 Kc
    replace E_a := M.2.1
    refine w_astoreN ok (Ls' := #[.val (.ref a), .val (.int ver), .val (.int (6 : Int32)), .val (.ref m6)]) dIn_194 rfl rfl ?_
    refine w_aloadN ok dIn_195 rfl rfl ?_
    refine w_aloadN ok dIn_196 rfl rfl ?_
    refine w_iconst ok (z := 0) dIn_197 rfl ?_
    refine w_iaload ok (i := 0) Vm (Nat.le_of_ble_eq_true rfl) rfl dIn_198 ?_
    refine w_aloadN ok dIn_199 rfl rfl ?_
    refine w_iconst ok (z := 1) dIn_200 rfl ?_
    refine w_iaload ok (i := 1) Vm (Nat.le_of_ble_eq_true rfl) rfl dIn_201 ?_
    refine w_iconst ok (z := 0) dIn_202 rfl ?_
    refine w_privN ok (argsL := [(.int (own_f0 (6 : Int32))), (.int (own_f1 (6 : Int32))), (.int (0 : Int32))]) (rest := []) (hw _ (List.mem_of_getElem? (i := 34) rfl)) (hw _ (List.mem_of_getElem? (i := 35) rfl)) (hw _ (List.mem_of_getElem? (i := 36) rfl)) (hw _ (List.mem_of_getElem? (i := 3) rfl)) (hw _ (List.mem_of_getElem? (i := 4) rfl)) (hw _ (List.mem_of_getElem? (i := 37) rfl)) E_a (by decide) (rmDF l Z a0 hw n0 hb a ad af ver size N _ _ _ v5 u6 k6 M d6) dIn_203 (lenOf pd__IIZ_V rfl) rfl rfl (Nat.le_of_ble_eq_true rfl) (Nat.le_of_ble_eq_true rfl) (k' := 10) (n' := 917) rfl rfl (Nat.le_of_ble_eq_true rfl) (Nat.le_of_ble_eq_true rfl) ?_
    rintro x6 ⟨Kc, M⟩
    replace Vm := Vm.keep Kc (ninS nb1 (ninS nb2 nin0))
    replace E_a := M.2.1
    refine w_aloadN ok dIn_206 rfl rfl ?_
    refine w_aloadN ok dIn_207 rfl rfl ?_
    refine w_iconst ok (z := 2) dIn_208 rfl ?_
    refine w_iaload ok (i := 2) Vm (Nat.le_of_ble_eq_true rfl) rfl dIn_209 ?_
    refine w_aloadN ok dIn_210 rfl rfl ?_
    refine w_iconst ok (z := 3) dIn_211 rfl ?_
    refine w_iaload ok (i := 3) Vm (Nat.le_of_ble_eq_true rfl) rfl dIn_212 ?_
    refine w_iconst ok (z := 0) dIn_213 rfl ?_
    refine w_privN ok (argsL := [(.int (own_f2 size (6 : Int32))), (.int (own_f3 size (6 : Int32))), (.int (0 : Int32))]) (rest := []) (hw _ (List.mem_of_getElem? (i := 34) rfl)) (hw _ (List.mem_of_getElem? (i := 35) rfl)) (hw _ (List.mem_of_getElem? (i := 36) rfl)) (hw _ (List.mem_of_getElem? (i := 3) rfl)) (hw _ (List.mem_of_getElem? (i := 4) rfl)) (hw _ (List.mem_of_getElem? (i := 37) rfl)) E_a (by decide) (rmDF l Z a0 hw n0 hb a ad af ver size N _ _ _ u6 v6 x6 M e6) dIn_214 (lenOf pd__IIZ_V rfl) rfl rfl (Nat.le_of_ble_eq_true rfl) (Nat.le_of_ble_eq_true rfl) (k' := 10) (n' := 917) rfl rfl (Nat.le_of_ble_eq_true rfl) (Nat.le_of_ble_eq_true rfl) ?_
    rintro y6 ⟨Kc, M⟩
    refine w_iinc ok (Ls' := #[.val (.ref a), .val (.int ver), .val (.int ((6 : Int32) + (1 : Int32))), .val (.ref m6)]) dIn_217 rfl rfl ?_
    show Wp l ({ frames := 2, cells := 18, slots := 949, locals := 42 } : Room) n0 K (fun v h' => v = none ∧ ∃ ad af D, own_Mat Z n0 hb h' a ver size ad af N (st'.1, D, st'.2.2) ∧ (ver < 7 → D = st'.2.1) ∧ hb.size ≤ ad ∧ hb.size ≤ af) y6 10 917 220 #[.val (.ref a), .val (.int ver), .val (.int (7 : Int32)), .val (.ref m6)] []
    refine w_goto ok dIn_220 ?_
    obtain ⟨u7, v7, d7, e7, c7⟩ := own_fl2 c7
    obtain ⟨Z0, E_a, F_version, F_size, F_dark, F_function, A_d, A_f, ⟨gn_ad, gn_af, nda, na1, na2⟩, hpc, Kb⟩ := id M
    refine w_iloadN ok dIn_183 rfl ?_
    refine w_bipush ok (z := 15) dIn_184 rfl ?_
    refine w_ic_ge ok dIn_186 (fun q => absurd (by decide) q) (fun _ => ?_)
    refine w_aloadN ok dIn_189 rfl rfl ?_
    refine w_iloadN ok dIn_190 rfl ?_
    refine w_privV ok (argsL := [(.int (7 : Int32))]) (rest := []) (hw _ (List.mem_of_getElem? (i := 47) rfl)) (hw _ (List.mem_of_getElem? (i := 48) rfl)) (hw _ (List.mem_of_getElem? (i := 49) rfl)) (hw _ (List.mem_of_getElem? (i := 3) rfl)) (hw _ (List.mem_of_getElem? (i := 4) rfl)) (hw _ (List.mem_of_getElem? (i := 50) rfl)) E_a (by decide) (rmFM l Z a0 hw n0 hb a ad af ver size N v6 (7 : Int32) y6 M) dIn_191 (lenOf pd__I_ArI rfl) rfl rfl (Nat.le_of_ble_eq_true rfl) (Nat.le_of_ble_eq_true rfl) (k' := 11) (n' := 921) rfl rfl (Nat.le_of_ble_eq_true rfl) (Nat.le_of_ble_eq_true rfl) ?_
    rintro _ k7 ⟨m7, rfl, Vm, Kc, gm⟩
    have nb1 : m7 ≠ ad := Nat.ne_of_gt (Nat.lt_of_lt_of_le A_d.lt gm)
    have nb2 : m7 ≠ af := Nat.ne_of_gt (Nat.lt_of_lt_of_le A_f.lt gm)
    replace M := M.keep0 Kc
    replace E_a := M.2.1
    refine w_astoreN ok (Ls' := #[.val (.ref a), .val (.int ver), .val (.int (7 : Int32)), .val (.ref m7)]) dIn_194 rfl rfl ?_
    refine w_aloadN ok dIn_195 rfl rfl ?_
    refine w_aloadN ok dIn_196 rfl rfl ?_
    refine w_iconst ok (z := 0) dIn_197 rfl ?_
    refine w_iaload ok (i := 0) Vm (Nat.le_of_ble_eq_true rfl) rfl dIn_198 ?_
    refine w_aloadN ok dIn_199 rfl rfl ?_
    refine w_iconst ok (z := 1) dIn_200 rfl ?_
    refine w_iaload ok (i := 1) Vm (Nat.le_of_ble_eq_true rfl) rfl dIn_201 ?_
    refine w_iconst ok (z := 0) dIn_202 rfl ?_
    refine w_privN ok (argsL := [(.int (own_f0 (7 : Int32))), (.int (own_f1 (7 : Int32))), (.int (0 : Int32))]) (rest := []) (hw _ (List.mem_of_getElem? (i := 34) rfl)) (hw _ (List.mem_of_getElem? (i := 35) rfl)) (hw _ (List.mem_of_getElem? (i := 36) rfl)) (hw _ (List.mem_of_getElem? (i := 3) rfl)) (hw _ (List.mem_of_getElem? (i := 4) rfl)) (hw _ (List.mem_of_getElem? (i := 37) rfl)) E_a (by decide) (rmDF l Z a0 hw n0 hb a ad af ver size N _ _ _ v6 u7 k7 M d7) dIn_203 (lenOf pd__IIZ_V rfl) rfl rfl (Nat.le_of_ble_eq_true rfl) (Nat.le_of_ble_eq_true rfl) (k' := 11) (n' := 921) rfl rfl (Nat.le_of_ble_eq_true rfl) (Nat.le_of_ble_eq_true rfl) ?_
    rintro x7 ⟨Kc, M⟩
    replace Vm := Vm.keep Kc (ninS nb1 (ninS nb2 nin0))
    replace E_a := M.2.1
    refine w_aloadN ok dIn_206 rfl rfl ?_
    refine w_aloadN ok dIn_207 rfl rfl ?_
    refine w_iconst ok (z := 2) dIn_208 rfl ?_
    refine w_iaload ok (i := 2) Vm (Nat.le_of_ble_eq_true rfl) rfl dIn_209 ?_
    refine w_aloadN ok dIn_210 rfl rfl ?_
    refine w_iconst ok (z := 3) dIn_211 rfl ?_
    refine w_iaload ok (i := 3) Vm (Nat.le_of_ble_eq_true rfl) rfl dIn_212 ?_
    refine w_iconst ok (z := 0) dIn_213 rfl ?_
    refine w_privN ok (argsL := [(.int (own_f2 size (7 : Int32))), (.int (own_f3 size (7 : Int32))), (.int (0 : Int32))]) (rest := []) (hw _ (List.mem_of_getElem? (i := 34) rfl)) (hw _ (List.mem_of_getElem? (i := 35) rfl)) (hw _ (List.mem_of_getElem? (i := 36) rfl)) (hw _ (List.mem_of_getElem? (i := 3) rfl)) (hw _ (List.mem_of_getElem? (i := 4) rfl)) (hw _ (List.mem_of_getElem? (i := 37) rfl)) E_a (by decide) (rmDF l Z a0 hw n0 hb a ad af ver size N _ _ _ u7 v7 x7 M e7) dIn_214 (lenOf pd__IIZ_V rfl) rfl rfl (Nat.le_of_ble_eq_true rfl) (Nat.le_of_ble_eq_true rfl) (k' := 11) (n' := 921) rfl rfl (Nat.le_of_ble_eq_true rfl) (Nat.le_of_ble_eq_true rfl) ?_
    rintro y7 ⟨Kc, M⟩
    refine w_iinc ok (Ls' := #[.val (.ref a), .val (.int ver), .val (.int ((7 : Int32) + (1 : Int32))), .val (.ref m7)]) dIn_217 rfl rfl ?_
    show Wp l ({ frames := 2, cells := 18, slots := 949, locals := 42 } : Room) n0 K (fun v h' => v = none ∧ ∃ ad af D, own_Mat Z n0 hb h' a ver size ad af N (st'.1, D, st'.2.2) ∧ (ver < 7 → D = st'.2.1) ∧ hb.size ≤ ad ∧ hb.size ≤ af) y7 11 921 220 #[.val (.ref a), .val (.int ver), .val (.int (8 : Int32)), .val (.ref m7)] []
    refine w_goto ok dIn_220 ?_
    obtain ⟨u8, v8, d8, e8, c7⟩ := own_fl2 c7
    obtain ⟨Z0, E_a, F_version, F_size, F_dark, F_function, A_d, A_f, ⟨gn_ad, gn_af, nda, na1, na2⟩, hpc, Kb⟩ := id M
    refine w_iloadN ok dIn_183 rfl ?_
    refine w_bipush ok (z := 15) dIn_184 rfl ?_
    refine w_ic_ge ok dIn_186 (fun q => absurd (by decide) q) (fun _ => ?_)
    refine w_aloadN ok dIn_189 rfl rfl ?_
    refine w_iloadN ok dIn_190 rfl ?_
    refine w_privV ok (argsL := [(.int (8 : Int32))]) (rest := []) (hw _ (List.mem_of_getElem? (i := 47) rfl)) (hw _ (List.mem_of_getElem? (i := 48) rfl)) (hw _ (List.mem_of_getElem? (i := 49) rfl)) (hw _ (List.mem_of_getElem? (i := 3) rfl)) (hw _ (List.mem_of_getElem? (i := 4) rfl)) (hw _ (List.mem_of_getElem? (i := 50) rfl)) E_a (by decide) (rmFM l Z a0 hw n0 hb a ad af ver size N v7 (8 : Int32) y7 M) dIn_191 (lenOf pd__I_ArI rfl) rfl rfl (Nat.le_of_ble_eq_true rfl) (Nat.le_of_ble_eq_true rfl) (k' := 12) (n' := 925) rfl rfl (Nat.le_of_ble_eq_true rfl) (Nat.le_of_ble_eq_true rfl) ?_
    rintro _ k8 ⟨m8, rfl, Vm, Kc, gm⟩
    have nb1 : m8 ≠ ad := Nat.ne_of_gt (Nat.lt_of_lt_of_le A_d.lt gm)
    have nb2 : m8 ≠ af := Nat.ne_of_gt (Nat.lt_of_lt_of_le A_f.lt gm)
    replace M := M.keep0 Kc
    replace E_a := M.2.1
    refine w_astoreN ok (Ls' := #[.val (.ref a), .val (.int ver), .val (.int (8 : Int32)), .val (.ref m8)]) dIn_194 rfl rfl ?_
    refine w_aloadN ok dIn_195 rfl rfl ?_
    refine w_aloadN ok dIn_196 rfl rfl ?_
    refine w_iconst ok (z := 0) dIn_197 rfl ?_
    refine w_iaload ok (i := 0) Vm (Nat.le_of_ble_eq_true rfl) rfl dIn_198 ?_
    refine w_aloadN ok dIn_199 rfl rfl ?_
    refine w_iconst ok (z := 1) dIn_200 rfl ?_
    refine w_iaload ok (i := 1) Vm (Nat.le_of_ble_eq_true rfl) rfl dIn_201 ?_
    refine w_iconst ok (z := 0) dIn_202 rfl ?_
    refine w_privN ok (argsL := [(.int (own_f0 (8 : Int32))), (.int (own_f1 (8 : Int32))), (.int (0 : Int32))]) (rest := []) (hw _ (List.mem_of_getElem? (i := 34) rfl)) (hw _ (List.mem_of_getElem? (i := 35) rfl)) (hw _ (List.mem_of_getElem? (i := 36) rfl)) (hw _ (List.mem_of_getElem? (i := 3) rfl)) (hw _ (List.mem_of_getElem? (i := 4) rfl)) (hw _ (List.mem_of_getElem? (i := 37) rfl)) E_a (by decide) (rmDF l Z a0 hw n0 hb a ad af ver size N _ _ _ v7 u8 k8 M d8) dIn_203 (lenOf pd__IIZ_V rfl) rfl rfl (Nat.le_of_ble_eq_true rfl) (Nat.le_of_ble_eq_true rfl) (k' := 12) (n' := 925) rfl rfl (Nat.le_of_ble_eq_true rfl) (Nat.le_of_ble_eq_true rfl) ?_
    rintro x8 ⟨Kc, M⟩
    replace Vm := Vm.keep Kc (ninS nb1 (ninS nb2 nin0))
    replace E_a := M.2.1
    refine w_aloadN ok dIn_206 rfl rfl ?_
    refine w_aloadN ok dIn_207 rfl rfl ?_
    refine w_iconst ok (z := 2) dIn_208 rfl ?_
    refine w_iaload ok (i := 2) Vm (Nat.le_of_ble_eq_true rfl) rfl dIn_209 ?_
    refine w_aloadN ok dIn_210 rfl rfl ?_
    refine w_iconst ok (z := 3) dIn_211 rfl ?_
    refine w_iaload ok (i := 3) Vm (Nat.le_of_ble_eq_true rfl) rfl dIn_212 ?_
    refine w_iconst ok (z := 0) dIn_213 rfl ?_
    refine w_privN ok (argsL := [(.int (own_f2 size (8 : Int32))), (.int (own_f3 size (8 : Int32))), (.int (0 : Int32))]) (rest := []) (hw _ (List.mem_of_getElem? (i := 34) rfl)) (hw _ (List.mem_of_getElem? (i := 35) rfl)) (hw _ (List.mem_of_getElem? (i := 36) rfl)) (hw _ (List.mem_of_getElem? (i := 3) rfl)) (hw _ (List.mem_of_getElem? (i := 4) rfl)) (hw _ (List.mem_of_getElem? (i := 37) rfl)) E_a (by decide) (rmDF l Z a0 hw n0 hb a ad af ver size N _ _ _ u8 v8 x8 M e8) dIn_214 (lenOf pd__IIZ_V rfl) rfl rfl (Nat.le_of_ble_eq_true rfl) (Nat.le_of_ble_eq_true rfl) (k' := 12) (n' := 925) rfl rfl (Nat.le_of_ble_eq_true rfl) (Nat.le_of_ble_eq_true rfl) ?_
    rintro y8 ⟨Kc, M⟩
    refine w_iinc ok (Ls' := #[.val (.ref a), .val (.int ver), .val (.int ((8 : Int32) + (1 : Int32))), .val (.ref m8)]) dIn_217 rfl rfl ?_
    show Wp l ({ frames := 2, cells := 18, slots := 949, locals := 42 } : Room) n0 K (fun v h' => v = none ∧ ∃ ad af D, own_Mat Z n0 hb h' a ver size ad af N (st'.1, D, st'.2.2) ∧ (ver < 7 → D = st'.2.1) ∧ hb.size ≤ ad ∧ hb.size ≤ af) y8 12 925 220 #[.val (.ref a), .val (.int ver), .val (.int (9 : Int32)), .val (.ref m8)] []
    refine w_goto ok dIn_220 ?_
    obtain ⟨u9, v9, d9, e9, c7⟩ := own_fl2 c7
    obtain ⟨Z0, E_a, F_version, F_size, F_dark, F_function, A_d, A_f, ⟨gn_ad, gn_af, nda, na1, na2⟩, hpc, Kb⟩ := id M
    refine w_iloadN ok dIn_183 rfl ?_
    refine w_bipush ok (z := 15) dIn_184 rfl ?_
    refine w_ic_ge ok dIn_186 (fun q => absurd (by decide) q) (fun _ => ?_)
    refine w_aloadN ok dIn_189 rfl rfl ?_
    refine w_iloadN ok dIn_190 rfl ?_
    refine w_privV ok (argsL := [(.int (9 : Int32))]) (rest := []) (hw _ (List.mem_of_getElem? (i := 47) rfl)) (hw _ (List.mem_of_getElem? (i := 48) rfl)) (hw _ (List.mem_of_getElem? (i := 49) rfl)) (hw _ (List.mem_of_getElem? (i := 3) rfl)) (hw _ (List.mem_of_getElem? (i := 4) rfl)) (hw _ (List.mem_of_getElem? (i := 50) rfl)) E_a (by decide) (rmFM l Z a0 hw n0 hb a ad af ver size N v8 (9 : Int32) y8 M) dIn_191 (lenOf pd__I_ArI rfl) rfl rfl (Nat.le_of_ble_eq_true rfl) (Nat.le_of_ble_eq_true rfl) (k' := 13) (n' := 929) rfl rfl (Nat.le_of_ble_eq_true rfl) (Nat.le_of_ble_eq_true rfl) ?_
    rintro _ k9 ⟨m9, rfl, Vm, Kc, gm⟩
    have nb1 : m9 ≠ ad := Nat.ne_of_gt (Nat.lt_of_lt_of_le A_d.lt gm)
    have nb2 : m9 ≠ af := Nat.ne_of_gt (Nat.lt_of_lt_of_le A_f.lt gm)
    replace M := M.keep0 Kc
    replace E_a := M.2.1
    refine w_astoreN ok (Ls' := #[.val (.ref a), .val (.int ver), .val (.int (9 : Int32)), .val (.ref m9)]) dIn_194 rfl rfl ?_
    refine w_aloadN ok dIn_195 rfl rfl ?_
    refine w_aloadN ok dIn_196 rfl rfl ?_
    refine w_iconst ok (z := 0) dIn_197 rfl ?_
    refine w_iaload ok (i := 0) Vm (Nat.le_of_ble_eq_true rfl) rfl dIn_198 ?_
    refine w_aloadN ok dIn_199 rfl rfl ?_
    refine w_iconst ok (z := 1) dIn_200 rfl ?_
    refine w_iaload ok (i := 1) Vm (Nat.le_of_ble_eq_true rfl) rfl dIn_201 ?_
    refine w_iconst ok (z := 0) dIn_202 rfl ?_
    refine w_privN ok (argsL := [(.int (own_f0 (9 : Int32))), (.int (own_f1 (9 : Int32))), (.int (0 : Int32))]) (rest := []) (hw _ (List.mem_of_getElem? (i := 34) rfl)) (hw _ (List.mem_of_getElem? (i := 35) rfl)) (hw _ (List.mem_of_getElem? (i := 36) rfl)) (hw _ (List.mem_of_getElem? (i := 3) rfl)) (hw _ (List.mem_of_getElem? (i := 4) rfl)) (hw _ (List.mem_of_getElem? (i := 37) rfl)) E_a (by decide) (rmDF l Z a0 hw n0 hb a ad af ver size N _ _ _ v8 u9 k9 M d9) dIn_203 (lenOf pd__IIZ_V rfl) rfl rfl (Nat.le_of_ble_eq_true rfl) (Nat.le_of_ble_eq_true rfl) (k' := 13) (n' := 929) rfl rfl (Nat.le_of_ble_eq_true rfl) (Nat.le_of_ble_eq_true rfl) ?_
    rintro x9 ⟨Kc, M⟩
    replace Vm := Vm.keep Kc (ninS nb1 (ninS nb2 nin0))
    replace E_a := M.2.1
    refine w_aloadN ok dIn_206 rfl rfl ?_
    refine w_aloadN ok dIn_207 rfl rfl ?_
    refine w_iconst ok (z := 2) dIn_208 rfl ?_
    refine w_iaload ok (i := 2) Vm (Nat.le_of_ble_eq_true rfl) rfl dIn_209 ?_
    refine w_aloadN ok dIn_210 rfl rfl ?_
    refine w_iconst ok (z := 3) dIn_211 rfl ?_
    refine w_iaload ok (i := 3) Vm (Nat.le_of_ble_eq_true rfl) rfl dIn_212 ?_
    refine w_iconst ok (z := 0) dIn_213 rfl ?_
    refine w_privN ok (argsL := [(.int (own_f2 size (9 : Int32))), (.int (own_f3 size (9 : Int32))), (.int (0 : Int32))]) (rest := []) (hw _ (List.mem_of_getElem? (i := 34) rfl)) (hw _ (List.mem_of_getElem? (i := 35) rfl)) (hw _ (List.mem_of_getElem? (i := 36) rfl)) (hw _ (List.mem_of_getElem? (i := 3) rfl)) (hw _ (List.mem_of_getElem? (i := 4) rfl)) (hw _ (List.mem_of_getElem? (i := 37) rfl)) E_a (by decide) (rmDF l Z a0 hw n0 hb a ad af ver size N _ _ _ u9 v9 x9 M e9) dIn_214 (lenOf pd__IIZ_V rfl) rfl rfl (Nat.le_of_ble_eq_true rfl) (Nat.le_of_ble_eq_true rfl) (k' := 13) (n' := 929) rfl rfl (Nat.le_of_ble_eq_true rfl) (Nat.le_of_ble_eq_true rfl) ?_
    rintro y9 ⟨Kc, M⟩
    refine w_iinc ok (Ls' := #[.val (.ref a), .val (.int ver), .val (.int ((9 : Int32) + (1 : Int32))), .val (.ref m9)]) dIn_217 rfl rfl ?_
    show Wp l ({ frames := 2, cells := 18, slots := 949, locals := 42 } : Room) n0 K (fun v h' => v = none ∧ ∃ ad af D, own_Mat Z n0 hb h' a ver size ad af N (st'.1, D, st'.2.2) ∧ (ver < 7 → D = st'.2.1) ∧ hb.size ≤ ad ∧ hb.size ≤ af) y9 13 929 220 #[.val (.ref a), .val (.int ver), .val (.int (10 : Int32)), .val (.ref m9)] []
    refine w_goto ok dIn_220 ?_
    obtain ⟨u10, v10, d10, e10, c7⟩ := own_fl2 c7
    obtain ⟨Z0, E_a, F_version, F_size, F_dark, F_function, A_d, A_f, ⟨gn_ad, gn_af, nda, na1, na2⟩, hpc, Kb⟩ := id M
    refine w_iloadN ok dIn_183 rfl ?_
    refine w_bipush ok (z := 15) dIn_184 rfl ?_
    refine w_ic_ge ok dIn_186 (fun q => absurd (by decide) q) (fun _ => ?_)
    refine w_aloadN ok dIn_189 rfl rfl ?_
    refine w_iloadN ok dIn_190 rfl ?_
    refine w_privV ok (argsL := [(.int (10 : Int32))]) (rest := []) (hw _ (List.mem_of_getElem? (i := 47) rfl)) (hw _ (List.mem_of_getElem? (i := 48) rfl)) (hw _ (List.mem_of_getElem? (i := 49) rfl)) (hw _ (List.mem_of_getElem? (i := 3) rfl)) (hw _ (List.mem_of_getElem? (i := 4) rfl)) (hw _ (List.mem_of_getElem? (i := 50) rfl)) E_a (by decide) (rmFM l Z a0 hw n0 hb a ad af ver size N v9 (10 : Int32) y9 M) dIn_191 (lenOf pd__I_ArI rfl) rfl rfl (Nat.le_of_ble_eq_true rfl) (Nat.le_of_ble_eq_true rfl) (k' := 14) (n' := 933) rfl rfl (Nat.le_of_ble_eq_true rfl) (Nat.le_of_ble_eq_true rfl) ?_
    rintro _ k10 ⟨m10, rfl, Vm, Kc, gm⟩
    have nb1 : m10 ≠ ad := Nat.ne_of_gt (Nat.lt_of_lt_of_le A_d.lt gm)
    have nb2 : m10 ≠ af := Nat.ne_of_gt (Nat.lt_of_lt_of_le A_f.lt gm)
    replace M := M.keep0 Kc
    replace E_a := M.2.1
    refine w_astoreN ok (Ls' := #[.val (.ref a), .val (.int ver), .val (.int (10 : Int32)), .val (.ref m10)]) dIn_194 rfl rfl ?_
    refine w_aloadN ok dIn_195 rfl rfl ?_
    refine w_aloadN ok dIn_196 rfl rfl ?_
    refine w_iconst ok (z := 0) dIn_197 rfl ?_
    refine w_iaload ok (i := 0) Vm (Nat.le_of_ble_eq_true rfl) rfl dIn_198 ?_
    refine w_aloadN ok dIn_199 rfl rfl ?_
    refine w_iconst ok (z := 1) dIn_200 rfl ?_
    refine w_iaload ok (i := 1) Vm (Nat.le_of_ble_eq_true rfl) rfl dIn_201 ?_
    refine w_iconst ok (z := 0) dIn_202 rfl ?_
    refine w_privN ok (argsL := [(.int (own_f0 (10 : Int32))), (.int (own_f1 (10 : Int32))), (.int (0 : Int32))]) (rest := []) (hw _ (List.mem_of_getElem? (i := 34) rfl)) (hw _ (List.mem_of_getElem? (i := 35) rfl)) (hw _ (List.mem_of_getElem? (i := 36) rfl)) (hw _ (List.mem_of_getElem? (i := 3) rfl)) (hw _ (List.mem_of_getElem? (i := 4) rfl)) (hw _ (List.mem_of_getElem? (i := 37) rfl)) E_a (by decide) (rmDF l Z a0 hw n0 hb a ad af ver size N _ _ _ v9 u10 k10 M d10) dIn_203 (lenOf pd__IIZ_V rfl) rfl rfl (Nat.le_of_ble_eq_true rfl) (Nat.le_of_ble_eq_true rfl) (k' := 14) (n' := 933) rfl rfl (Nat.le_of_ble_eq_true rfl) (Nat.le_of_ble_eq_true rfl) ?_
    rintro x10 ⟨Kc, M⟩
    replace Vm := Vm.keep Kc (ninS nb1 (ninS nb2 nin0))
    replace E_a := M.2.1
    refine w_aloadN ok dIn_206 rfl rfl ?_
    refine w_aloadN ok dIn_207 rfl rfl ?_
    refine w_iconst ok (z := 2) dIn_208 rfl ?_
    refine w_iaload ok (i := 2) Vm (Nat.le_of_ble_eq_true rfl) rfl dIn_209 ?_
    refine w_aloadN ok dIn_210 rfl rfl ?_
    refine w_iconst ok (z := 3) dIn_211 rfl ?_
    refine w_iaload ok (i := 3) Vm (Nat.le_of_ble_eq_true rfl) rfl dIn_212 ?_
    refine w_iconst ok (z := 0) dIn_213 rfl ?_
    refine w_privN ok (argsL := [(.int (own_f2 size (10 : Int32))), (.int (own_f3 size (10 : Int32))), (.int (0 : Int32))]) (rest := []) (hw _ (List.mem_of_getElem? (i := 34) rfl)) (hw _ (List.mem_of_getElem? (i := 35) rfl)) (hw _ (List.mem_of_getElem? (i := 36) rfl)) (hw _ (List.mem_of_getElem? (i := 3) rfl)) (hw _ (List.mem_of_getElem? (i := 4) rfl)) (hw _ (List.mem_of_getElem? (i := 37) rfl)) E_a (by decide) (rmDF l Z a0 hw n0 hb a ad af ver size N _ _ _ u10 v10 x10 M e10) dIn_214 (lenOf pd__IIZ_V rfl) rfl rfl (Nat.le_of_ble_eq_true rfl) (Nat.le_of_ble_eq_true rfl) (k' := 14) (n' := 933) rfl rfl (Nat.le_of_ble_eq_true rfl) (Nat.le_of_ble_eq_true rfl) ?_
    rintro y10 ⟨Kc, M⟩
    refine w_iinc ok (Ls' := #[.val (.ref a), .val (.int ver), .val (.int ((10 : Int32) + (1 : Int32))), .val (.ref m10)]) dIn_217 rfl rfl ?_
    show Wp l ({ frames := 2, cells := 18, slots := 949, locals := 42 } : Room) n0 K (fun v h' => v = none ∧ ∃ ad af D, own_Mat Z n0 hb h' a ver size ad af N (st'.1, D, st'.2.2) ∧ (ver < 7 → D = st'.2.1) ∧ hb.size ≤ ad ∧ hb.size ≤ af) y10 14 933 220 #[.val (.ref a), .val (.int ver), .val (.int (11 : Int32)), .val (.ref m10)] []
    refine w_goto ok dIn_220 ?_
    obtain ⟨u11, v11, d11, e11, c7⟩ := own_fl2 c7
    obtain ⟨Z0, E_a, F_version, F_size, F_dark, F_function, A_d, A_f, ⟨gn_ad, gn_af, nda, na1, na2⟩, hpc, Kb⟩ := id M
    refine w_iloadN ok dIn_183 rfl ?_
    refine w_bipush ok (z := 15) dIn_184 rfl ?_
    refine w_ic_ge ok dIn_186 (fun q => absurd (by decide) q) (fun _ => ?_)
    refine w_aloadN ok dIn_189 rfl rfl ?_
    refine w_iloadN ok dIn_190 rfl ?_
    refine w_privV ok (argsL := [(.int (11 : Int32))]) (rest := []) (hw _ (List.mem_of_getElem? (i := 47) rfl)) (hw _ (List.mem_of_getElem? (i := 48) rfl)) (hw _ (List.mem_of_getElem? (i := 49) rfl)) (hw _ (List.mem_of_getElem? (i := 3) rfl)) (hw _ (List.mem_of_getElem? (i := 4) rfl)) (hw _ (List.mem_of_getElem? (i := 50) rfl)) E_a (by decide) (rmFM l Z a0 hw n0 hb a ad af ver size N v10 (11 : Int32) y10 M) dIn_191 (lenOf pd__I_ArI rfl) rfl rfl (Nat.le_of_ble_eq_true rfl) (Nat.le_of_ble_eq_true rfl) (k' := 15) (n' := 937) rfl rfl (Nat.le_of_ble_eq_true rfl) (Nat.le_of_ble_eq_true rfl) ?_
    rintro _ k11 ⟨m11, rfl, Vm, Kc, gm⟩
    have nb1 : m11 ≠ ad := Nat.ne_of_gt (Nat.lt_of_lt_of_le A_d.lt gm)
    have nb2 : m11 ≠ af := Nat.ne_of_gt (Nat.lt_of_lt_of_le A_f.lt gm)
    replace M := M.keep0 Kc
    replace E_a := M.2.1
    refine w_astoreN ok (Ls' := #[.val (.ref a), .val (.int ver), .val (.int (11 : Int32)), .val (.ref m11)]) dIn_194 rfl rfl ?_
    refine w_aloadN ok dIn_195 rfl rfl ?_
    refine w_aloadN ok dIn_196 rfl rfl ?_
    refine w_iconst ok (z := 0) dIn_197 rfl ?_
    refine w_iaload ok (i := 0) Vm (Nat.le_of_ble_eq_true rfl) rfl dIn_198 ?_
    refine w_aloadN ok dIn_199 rfl rfl ?_
    refine w_iconst ok (z := 1) dIn_200 rfl ?_
    refine w_iaload ok (i := 1) Vm (Nat.le_of_ble_eq_true rfl) rfl dIn_201 ?_
    refine w_iconst ok (z := 0) dIn_202 rfl ?_
    refine w_privN ok (argsL := [(.int (own_f0 (11 : Int32))), (.int (own_f1 (11 : Int32))), (.int (0 : Int32))]) (rest := []) (hw _ (List.mem_of_getElem? (i := 34) rfl)) (hw _ (List.mem_of_getElem? (i := 35) rfl)) (hw _ (List.mem_of_getElem? (i := 36) rfl)) (hw _ (List.mem_of_getElem? (i := 3) rfl)) (hw _ (List.mem_of_getElem? (i := 4) rfl)) (hw _ (List.mem_of_getElem? (i := 37) rfl)) E_a (by decide) (rmDF l Z a0 hw n0 hb a ad af ver size N _ _ _ v10 u11 k11 M d11) dIn_203 (lenOf pd__IIZ_V rfl) rfl rfl (Nat.le_of_ble_eq_true rfl) (Nat.le_of_ble_eq_true rfl) (k' := 15) (n' := 937) rfl rfl (Nat.le_of_ble_eq_true rfl) (Nat.le_of_ble_eq_true rfl) ?_
    rintro x11 ⟨Kc, M⟩
    replace Vm := Vm.keep Kc (ninS nb1 (ninS nb2 nin0))
    replace E_a := M.2.1
    refine w_aloadN ok dIn_206 rfl rfl ?_
    refine w_aloadN ok dIn_207 rfl rfl ?_
    refine w_iconst ok (z := 2) dIn_208 rfl ?_
    refine w_iaload ok (i := 2) Vm (Nat.le_of_ble_eq_true rfl) rfl dIn_209 ?_
    refine w_aloadN ok dIn_210 rfl rfl ?_
    refine w_iconst ok (z := 3) dIn_211 rfl ?_
    refine w_iaload ok (i := 3) Vm (Nat.le_of_ble_eq_true rfl) rfl dIn_212 ?_
    refine w_iconst ok (z := 0) dIn_213 rfl ?_
    refine w_privN ok (argsL := [(.int (own_f2 size (11 : Int32))), (.int (own_f3 size (11 : Int32))), (.int (0 : Int32))]) (rest := []) (hw _ (List.mem_of_getElem? (i := 34) rfl)) (hw _ (List.mem_of_getElem? (i := 35) rfl)) (hw _ (List.mem_of_getElem? (i := 36) rfl)) (hw _ (List.mem_of_getElem? (i := 3) rfl)) (hw _ (List.mem_of_getElem? (i := 4) rfl)) (hw _ (List.mem_of_getElem? (i := 37) rfl)) E_a (by decide) (rmDF l Z a0 hw n0 hb a ad af ver size N _ _ _ u11 v11 x11 M e11) dIn_214 (lenOf pd__IIZ_V rfl) rfl rfl (Nat.le_of_ble_eq_true rfl) (Nat.le_of_ble_eq_true rfl) (k' := 15) (n' := 937) rfl rfl (Nat.le_of_ble_eq_true rfl) (Nat.le_of_ble_eq_true rfl) ?_
    rintro y11 ⟨Kc, M⟩
    refine w_iinc ok (Ls' := #[.val (.ref a), .val (.int ver), .val (.int ((11 : Int32) + (1 : Int32))), .val (.ref m11)]) dIn_217 rfl rfl ?_
    show Wp l ({ frames := 2, cells := 18, slots := 949, locals := 42 } : Room) n0 K (fun v h' => v = none ∧ ∃ ad af D, own_Mat Z n0 hb h' a ver size ad af N (st'.1, D, st'.2.2) ∧ (ver < 7 → D = st'.2.1) ∧ hb.size ≤ ad ∧ hb.size ≤ af) y11 15 937 220 #[.val (.ref a), .val (.int ver), .val (.int (12 : Int32)), .val (.ref m11)] []
    refine w_goto ok dIn_220 ?_
    obtain ⟨u12, v12, d12, e12, c7⟩ := own_fl2 c7
    obtain ⟨Z0, E_a, F_version, F_size, F_dark, F_function, A_d, A_f, ⟨gn_ad, gn_af, nda, na1, na2⟩, hpc, Kb⟩ := id M
    refine w_iloadN ok dIn_183 rfl ?_
    refine w_bipush ok (z := 15) dIn_184 rfl ?_
    refine w_ic_ge ok dIn_186 (fun q => absurd (by decide) q) (fun _ => ?_)
    refine w_aloadN ok dIn_189 rfl rfl ?_
    refine w_iloadN ok dIn_190 rfl ?_
    refine w_privV ok (argsL := [(.int (12 : Int32))]) (rest := []) (hw _ (List.mem_of_getElem? (i := 47) rfl)) (hw _ (List.mem_of_getElem? (i := 48) rfl)) (hw _ (List.mem_of_getElem? (i := 49) rfl)) (hw _ (List.mem_of_getElem? (i := 3) rfl)) (hw _ (List.mem_of_getElem? (i := 4) rfl)) (hw _ (List.mem_of_getElem? (i := 50) rfl)) E_a (by decide) (rmFM l Z a0 hw n0 hb a ad af ver size N v11 (12 : Int32) y11 M) dIn_191 (lenOf pd__I_ArI rfl) rfl rfl (Nat.le_of_ble_eq_true rfl) (Nat.le_of_ble_eq_true rfl) (k' := 16) (n' := 941) rfl rfl (Nat.le_of_ble_eq_true rfl) (Nat.le_of_ble_eq_true rfl) ?_
    rintro _ k12 ⟨m12, rfl, Vm, Kc, gm⟩
    have nb1 : m12 ≠ ad := Nat.ne_of_gt (Nat.lt_of_lt_of_le A_d.lt gm)
    have nb2 : m12 ≠ af := Nat.ne_of_gt (Nat.lt_of_lt_of_le A_f.lt gm)
    replace M := M.keep0 Kc
    replace E_a := M.2.1
    refine w_astoreN ok (Ls' := #[.val (.ref a), .val (.int ver), .val (.int (12 : Int32)), .val (.ref m12)]) dIn_194 rfl rfl ?_
    refine w_aloadN ok dIn_195 rfl rfl ?_
    refine w_aloadN ok dIn_196 rfl rfl ?_
    refine w_iconst ok (z := 0) dIn_197 rfl ?_
    refine w_iaload ok (i := 0) Vm (Nat.le_of_ble_eq_true rfl) rfl dIn_198 ?_
    refine w_aloadN ok dIn_199 rfl rfl ?_
    refine w_iconst ok (z := 1) dIn_200 rfl ?_
    refine w_iaload ok (i := 1) Vm (Nat.le_of_ble_eq_true rfl) rfl dIn_201 ?_
    refine w_iconst ok (z := 0) dIn_202 rfl ?_
    refine w_privN ok (argsL := [(.int (own_f0 (12 : Int32))), (.int (own_f1 (12 : Int32))), (.int (0 : Int32))]) (rest := []) (hw _ (List.mem_of_getElem? (i := 34) rfl)) (hw _ (List.mem_of_getElem? (i := 35) rfl)) (hw _ (List.mem_of_getElem? (i := 36) rfl)) (hw _ (List.mem_of_getElem? (i := 3) rfl)) (hw _ (List.mem_of_getElem? (i := 4) rfl)) (hw _ (List.mem_of_getElem? (i := 37) rfl)) E_a (by decide) (rmDF l Z a0 hw n0 hb a ad af ver size N _ _ _ v11 u12 k12 M d12) dIn_203 (lenOf pd__IIZ_V rfl) rfl rfl (Nat.le_of_ble_eq_true rfl) (Nat.le_of_ble_eq_true rfl) (k' := 16) (n' := 941) rfl rfl (Nat.le_of_ble_eq_true rfl) (Nat.le_of_ble_eq_true rfl) ?_
    rintro x12 ⟨Kc, M⟩
    replace Vm := Vm.keep Kc (ninS nb1 (ninS nb2 nin0))
    replace E_a := M.2.1
    refine w_aloadN ok dIn_206 rfl rfl ?_
    refine w_aloadN ok dIn_207 rfl rfl ?_
    refine w_iconst ok (z := 2) dIn_208 rfl ?_
    refine w_iaload ok (i := 2) Vm (Nat.le_of_ble_eq_true rfl) rfl dIn_209 ?_
    refine w_aloadN ok dIn_210 rfl rfl ?_
    refine w_iconst ok (z := 3) dIn_211 rfl ?_
    refine w_iaload ok (i := 3) Vm (Nat.le_of_ble_eq_true rfl) rfl dIn_212 ?_
    refine w_iconst ok (z := 0) dIn_213 rfl ?_
    refine w_privN ok (argsL := [(.int (own_f2 size (12 : Int32))), (.int (own_f3 size (12 : Int32))), (.int (0 : Int32))]) (rest := []) (hw _ (List.mem_of_getElem? (i := 34) rfl)) (hw _ (List.mem_of_getElem? (i := 35) rfl)) (hw _ (List.mem_of_getElem? (i := 36) rfl)) (hw _ (List.mem_of_getElem? (i := 3) rfl)) (hw _ (List.mem_of_getElem? (i := 4) rfl)) (hw _ (List.mem_of_getElem? (i := 37) rfl)) E_a (by decide) (rmDF l Z a0 hw n0 hb a ad af ver size N _ _ _ u12 v12 x12 M e12) dIn_214 (lenOf pd__IIZ_V rfl) rfl rfl (Nat.le_of_ble_eq_true rfl) (Nat.le_of_ble_eq_true rfl) (k' := 16) (n' := 941) rfl rfl (Nat.le_of_ble_eq_true rfl) (Nat.le_of_ble_eq_true rfl) ?_
    rintro y12 ⟨Kc, M⟩
    refine w_iinc ok (Ls' := #[.val (.ref a), .val (.int ver), .val (.int ((12 : Int32) + (1 : Int32))), .val (.ref m12)]) dIn_217 rfl rfl ?_
    show Wp l ({ frames := 2, cells := 18, slots := 949, locals := 42 } : Room) n0 K (fun v h' => v = none ∧ ∃ ad af D, own_Mat Z n0 hb h' a ver size ad af N (st'.1, D, st'.2.2) ∧ (ver < 7 → D = st'.2.1) ∧ hb.size ≤ ad ∧ hb.size ≤ af) y12 16 941 220 #[.val (.ref a), .val (.int ver), .val (.int (13 : Int32)), .val (.ref m12)] []
    refine w_goto ok dIn_220 ?_
    obtain ⟨u13, v13, d13, e13, c7⟩ := own_fl2 c7
    obtain ⟨Z0, E_a, F_version, F_size, F_dark, F_function, A_d, A_f, ⟨gn_ad, gn_af, nda, na1, na2⟩, hpc, Kb⟩ := id M
    refine w_iloadN ok dIn_183 rfl ?_
    refine w_bipush ok (z := 15) dIn_184 rfl ?_
    refine w_ic_ge ok dIn_186 (fun q => absurd (by decide) q) (fun _ => ?_)
    refine w_aloadN ok dIn_189 rfl rfl ?_
    refine w_iloadN ok dIn_190 rfl ?_
    refine w_privV ok (argsL := [(.int (13 : Int32))]) (rest := []) (hw _ (List.mem_of_getElem? (i := 47) rfl)) (hw _ (List.mem_of_getElem? (i := 48) rfl)) (hw _ (List.mem_of_getElem? (i := 49) rfl)) (hw _ (List.mem_of_getElem? (i := 3) rfl)) (hw _ (List.mem_of_getElem? (i := 4) rfl)) (hw _ (List.mem_of_getElem? (i := 50) rfl)) E_a (by decide) (rmFM l Z a0 hw n0 hb a ad af ver size N v12 (13 : Int32) y12 M) dIn_191 (lenOf pd__I_ArI rfl) rfl rfl (Nat.le_of_ble_eq_true rfl) (Nat.le_of_ble_eq_true rfl) (k' := 17) (n' := 945) rfl rfl (Nat.le_of_ble_eq_true rfl) (Nat.le_of_ble_eq_true rfl) ?_
    rintro _ k13 ⟨m13, rfl, Vm, Kc, gm⟩
    have nb1 : m13 ≠ ad := Nat.ne_of_gt (Nat.lt_of_lt_of_le A_d.lt gm)
    have nb2 : m13 ≠ af := Nat.ne_of_gt (Nat.lt_of_lt_of_le A_f.lt gm)
    replace M := M.keep0 Kc
    replace E_a := M.2.1
    refine w_astoreN ok (Ls' := #[.val (.ref a), .val (.int ver), .val (.int (13 : Int32)), .val (.ref m13)]) dIn_194 rfl rfl ?_
    refine w_aloadN ok dIn_195 rfl rfl ?_
    refine w_aloadN ok dIn_196 rfl rfl ?_
    refine w_iconst ok (z := 0) dIn_197 rfl ?_
    refine w_iaload ok (i := 0) Vm (Nat.le_of_ble_eq_true rfl) rfl dIn_198 ?_
    refine w_aloadN ok dIn_199 rfl rfl ?_
    refine w_iconst ok (z := 1) dIn_200 rfl ?_
    refine w_iaload ok (i := 1) Vm (Nat.le_of_ble_eq_true rfl) rfl dIn_201 ?_
    refine w_iconst ok (z := 0) dIn_202 rfl ?_
    refine w_privN ok (argsL := [(.int (own_f0 (13 : Int32))), (.int (own_f1 (13 : Int32))), (.int (0 : Int32))]) (rest := []) (hw _ (List.mem_of_getElem? (i := 34) rfl)) (hw _ (List.mem_of_getElem? (i := 35) rfl)) (hw _ (List.mem_of_getElem? (i := 36) rfl)) (hw _ (List.mem_of_getElem? (i := 3) rfl)) (hw _ (List.mem_of_getElem? (i := 4) rfl)) (hw _ (List.mem_of_getElem? (i := 37) rfl)) E_a (by decide) (rmDF l Z a0 hw n0 hb a ad af ver size N _ _ _ v12 u13 k13 M d13) dIn_203 (lenOf pd__IIZ_V rfl) rfl rfl (Nat.le_of_ble_eq_true rfl) (Nat.le_of_ble_eq_true rfl) (k' := 17) (n' := 945) rfl rfl (Nat.le_of_ble_eq_true rfl) (Nat.le_of_ble_eq_true rfl) ?_
    rintro x13 ⟨Kc, M⟩
    replace Vm := Vm.keep Kc (ninS nb1 (ninS nb2 nin0))
    replace E_a := M.2.1
    refine w_aloadN ok dIn_206 rfl rfl ?_
    refine w_aloadN ok dIn_207 rfl rfl ?_
    refine w_iconst ok (z := 2) dIn_208 rfl ?_
    refine w_iaload ok (i := 2) Vm (Nat.le_of_ble_eq_true rfl) rfl dIn_209 ?_
    refine w_aloadN ok dIn_210 rfl rfl ?_
    refine w_iconst ok (z := 3) dIn_211 rfl ?_
    refine w_iaload ok (i := 3) Vm (Nat.le_of_ble_eq_true rfl) rfl dIn_212 ?_
    refine w_iconst ok (z := 0) dIn_213 rfl ?_
    refine w_privN ok (argsL := [(.int (own_f2 size (13 : Int32))), (.int (own_f3 size (13 : Int32))), (.int (0 : Int32))]) (rest := []) (hw _ (List.mem_of_getElem? (i := 34) rfl)) (hw _ (List.mem_of_getElem? (i := 35) rfl)) (hw _ (List.mem_of_getElem? (i := 36) rfl)) (hw _ (List.mem_of_getElem? (i := 3) rfl)) (hw _ (List.mem_of_getElem? (i := 4) rfl)) (hw _ (List.mem_of_getElem? (i := 37) rfl)) E_a (by decide) (rmDF l Z a0 hw n0 hb a ad af ver size N _ _ _ u13 v13 x13 M e13) dIn_214 (lenOf pd__IIZ_V rfl) rfl rfl (Nat.le_of_ble_eq_true rfl) (Nat.le_of_ble_eq_true rfl) (k' := 17) (n' := 945) rfl rfl (Nat.le_of_ble_eq_true rfl) (Nat.le_of_ble_eq_true rfl) ?_
    rintro y13 ⟨Kc, M⟩
    refine w_iinc ok (Ls' := #[.val (.ref a), .val (.int ver), .val (.int ((13 : Int32) + (1 : Int32))), .val (.ref m13)]) dIn_217 rfl rfl ?_
    show Wp l ({ frames := 2, cells := 18, slots := 949, locals := 42 } : Room) n0 K (fun v h' => v = none ∧ ∃ ad af D, own_Mat Z n0 hb h' a ver size ad af N (st'.1, D, st'.2.2) ∧ (ver < 7 → D = st'.2.1) ∧ hb.size ≤ ad ∧ hb.size ≤ af) y13 17 945 220 #[.val (.ref a), .val (.int ver), .val (.int (14 : Int32)), .val (.ref m13)] []
    refine w_goto ok dIn_220 ?_
    obtain ⟨u14, v14, d14, e14, c7⟩ := own_fl2 c7
    obtain ⟨Z0, E_a, F_version, F_size, F_dark, F_function, A_d, A_f, ⟨gn_ad, gn_af, nda, na1, na2⟩, hpc, Kb⟩ := id M
    refine w_iloadN ok dIn_183 rfl ?_
    refine w_bipush ok (z := 15) dIn_184 rfl ?_
    refine w_ic_ge ok dIn_186 (fun q => absurd (by decide) q) (fun _ => ?_)
    refine w_aloadN ok dIn_189 rfl rfl ?_
    refine w_iloadN ok dIn_190 rfl ?_
    refine w_privV ok (argsL := [(.int (14 : Int32))]) (rest := []) (hw _ (List.mem_of_getElem? (i := 47) rfl)) (hw _ (List.mem_of_getElem? (i := 48) rfl)) (hw _ (List.mem_of_getElem? (i := 49) rfl)) (hw _ (List.mem_of_getElem? (i := 3) rfl)) (hw _ (List.mem_of_getElem? (i := 4) rfl)) (hw _ (List.mem_of_getElem? (i := 50) rfl)) E_a (by decide) (rmFM l Z a0 hw n0 hb a ad af ver size N v13 (14 : Int32) y13 M) dIn_191 (lenOf pd__I_ArI rfl) rfl rfl (Nat.le_of_ble_eq_true rfl) (Nat.le_of_ble_eq_true rfl) (k' := 18) (n' := 949) rfl rfl (Nat.le_of_ble_eq_true rfl) (Nat.le_of_ble_eq_true rfl) ?_
    rintro _ k14 ⟨m14, rfl, Vm, Kc, gm⟩
    have nb1 : m14 ≠ ad := Nat.ne_of_gt (Nat.lt_of_lt_of_le A_d.lt gm)
    have nb2 : m14 ≠ af := Nat.ne_of_gt (Nat.lt_of_lt_of_le A_f.lt gm)
    replace M := M.keep0 Kc
    replace E_a := M.2.1
    refine w_astoreN ok (Ls' := #[.val (.ref a), .val (.int ver), .val (.int (14 : Int32)), .val (.ref m14)]) dIn_194 rfl rfl ?_
    refine w_aloadN ok dIn_195 rfl rfl ?_
    refine w_aloadN ok dIn_196 rfl rfl ?_
    refine w_iconst ok (z := 0) dIn_197 rfl ?_
    refine w_iaload ok (i := 0) Vm (Nat.le_of_ble_eq_true rfl) rfl dIn_198 ?_
    refine w_aloadN ok dIn_199 rfl rfl ?_
    refine w_iconst ok (z := 1) dIn_200 rfl ?_
    refine w_iaload ok (i := 1) Vm (Nat.le_of_ble_eq_true rfl) rfl dIn_201 ?_
    refine w_iconst ok (z := 0) dIn_202 rfl ?_
    refine w_privN ok (argsL := [(.int (own_f0 (14 : Int32))), (.int (own_f1 (14 : Int32))), (.int (0 : Int32))]) (rest := []) (hw _ (List.mem_of_getElem? (i := 34) rfl)) (hw _ (List.mem_of_getElem? (i := 35) rfl)) (hw _ (List.mem_of_getElem? (i := 36) rfl)) (hw _ (List.mem_of_getElem? (i := 3) rfl)) (hw _ (List.mem_of_getElem? (i := 4) rfl)) (hw _ (List.mem_of_getElem? (i := 37) rfl)) E_a (by decide) (rmDF l Z a0 hw n0 hb a ad af ver size N _ _ _ v13 u14 k14 M d14) dIn_203 (lenOf pd__IIZ_V rfl) rfl rfl (Nat.le_of_ble_eq_true rfl) (Nat.le_of_ble_eq_true rfl) (k' := 18) (n' := 949) rfl rfl (Nat.le_of_ble_eq_true rfl) (Nat.le_of_ble_eq_true rfl) ?_
    rintro x14 ⟨Kc, M⟩
    replace Vm := Vm.keep Kc (ninS nb1 (ninS nb2 nin0))
    replace E_a := M.2.1
    refine w_aloadN ok dIn_206 rfl rfl ?_
    refine w_aloadN ok dIn_207 rfl rfl ?_
    refine w_iconst ok (z := 2) dIn_208 rfl ?_
    refine w_iaload ok (i := 2) Vm (Nat.le_of_ble_eq_true rfl) rfl dIn_209 ?_
    refine w_aloadN ok dIn_210 rfl rfl ?_
    refine w_iconst ok (z := 3) dIn_211 rfl ?_
    refine w_iaload ok (i := 3) Vm (Nat.le_of_ble_eq_true rfl) rfl dIn_212 ?_
    refine w_iconst ok (z := 0) dIn_213 rfl ?_
    refine w_privN ok (argsL := [(.int (own_f2 size (14 : Int32))), (.int (own_f3 size (14 : Int32))), (.int (0 : Int32))]) (rest := []) (hw _ (List.mem_of_getElem? (i := 34) rfl)) (hw _ (List.mem_of_getElem? (i := 35) rfl)) (hw _ (List.mem_of_getElem? (i := 36) rfl)) (hw _ (List.mem_of_getElem? (i := 3) rfl)) (hw _ (List.mem_of_getElem? (i := 4) rfl)) (hw _ (List.mem_of_getElem? (i := 37) rfl)) E_a (by decide) (rmDF l Z a0 hw n0 hb a ad af ver size N _ _ _ u14 v14 x14 M e14) dIn_214 (lenOf pd__IIZ_V rfl) rfl rfl (Nat.le_of_ble_eq_true rfl) (Nat.le_of_ble_eq_true rfl) (k' := 18) (n' := 949) rfl rfl (Nat.le_of_ble_eq_true rfl) (Nat.le_of_ble_eq_true rfl) ?_
    rintro y14 ⟨Kc, M⟩
    refine w_iinc ok (Ls' := #[.val (.ref a), .val (.int ver), .val (.int ((14 : Int32) + (1 : Int32))), .val (.ref m14)]) dIn_217 rfl rfl ?_
    show Wp l ({ frames := 2, cells := 18, slots := 949, locals := 42 } : Room) n0 K (fun v h' => v = none ∧ ∃ ad af D, own_Mat Z n0 hb h' a ver size ad af N (st'.1, D, st'.2.2) ∧ (ver < 7 → D = st'.2.1) ∧ hb.size ≤ ad ∧ hb.size ≤ af) y14 18 949 220 #[.val (.ref a), .val (.int ver), .val (.int (15 : Int32)), .val (.ref m14)] []
    refine w_goto ok dIn_220 ?_
    obtain rfl : v14 = s7 := Option.some.inj c7
    have E_a := M.2.1
    refine w_iloadN ok dIn_183 rfl ?_
    refine w_bipush ok (z := 15) dIn_184 rfl ?_
    refine w_ic_ge ok dIn_186 (fun _ => ?_) (fun q => absurd q (by decide))
    refine w_iloadN ok dIn_223 rfl ?_
    refine w_bipush ok (z := 7) dIn_224 rfl ?_
    refine w_ic_lt ok dIn_226 (fun q => ?_) (fun q => ?_)
    · refine w_return ok dIn_233 (Nat.le_of_ble_eq_true rfl) (Nat.le_of_ble_eq_true rfl) ?_
      obtain rfl := c8 q
      exact ⟨rfl, ad, af, _, M, fun _ => rfl, ga1, ga2⟩
    · exact absurd hv7 q
  have loop : ∀ (n : Nat) (i : Int32) (hh : Heap) (st1 : own_St) (M : own_Mat Z n0 hb hh a ver size ad af N st1) (hm : own_tm N size n i st1 = some s5), Wp l ({ frames := 2, cells := 18, slots := 949, locals := 42 } : Room) n0 K (fun v h' => v = none ∧ ∃ ad af D, own_Mat Z n0 hb h' a ver size ad af N (st'.1, D, st'.2.2) ∧ (ver < 7 → D = st'.2.1) ∧ hb.size ≤ ad ∧ hb.size ≤ af) hh 3 889 83 #[.val (.ref a), .val (.int ver), .val (.int i), .unset] [] := by
    intro n
    clear hm
    induction n with
    | zero =>
      intro i hh st1 M hm
      exact absurd hm (by simp [own_tm])
    | succ n ih =>
      intro i hh st1 M hm
      obtain ⟨Z0, E_a, F_version, F_size, F_dark, F_function, A_d, A_f, ⟨gn_ad, gn_af, nda, na1, na2⟩, hpc, Kb⟩ := id M
      refine w_iloadN ok dIn_83 rfl ?_
      refine w_aloadN ok dIn_84 rfl rfl ?_
      refine w_getfield ok (host := "") (Or.inl (hw _ (List.mem_of_getElem? (i := 16) rfl))) Via.refl F_size dIn_85 ?_
      refine w_ic_ge ok dIn_88 (fun q => ?_) (fun q => ?_)
      · obtain rfl := own_tm_end q hm
        exact J167 _ _ M
      · obtain ⟨st2, st3, t1, t2, hm⟩ := own_tm_go q hm
        have J126 : ∀ (hh : Heap) (M : own_Mat Z n0 hb hh a ver size ad af N st2), Wp l ({ frames := 2, cells := 18, slots := 949, locals := 42 } : Room) n0 K (fun v h' => v = none ∧ ∃ ad af D, own_Mat Z n0 hb h' a ver size ad af N (st'.1, D, st'.2.2) ∧ (ver < 7 → D = st'.2.1) ∧ hb.size ≤ ad ∧ hb.size ≤ af) hh 3 889 126 #[.val (.ref a), .val (.int ver), .val (.int i), .unset] [] := by
          intro hh M
          obtain ⟨Z0, E_a, F_version, F_size, F_dark, F_function, A_d, A_f, ⟨gn_ad, gn_af, nda, na1, na2⟩, hpc, Kb⟩ := id M
          obtain ⟨hj, hz, hnz⟩ := own_td_inv t2
          refine w_aloadN ok dIn_126 rfl rfl ?_
          refine w_getfield ok (host := "") (Or.inl (hw _ (List.mem_of_getElem? (i := 21) rfl))) Via.refl F_function dIn_127 ?_
          refine w_iloadN ok dIn_130 rfl ?_
          refine w_aloadN ok dIn_131 rfl rfl ?_
          refine w_getfield ok (host := "") (Or.inl (hw _ (List.mem_of_getElem? (i := 16) rfl))) Via.refl F_size dIn_132 ?_
          refine w_imul ok dIn_135 ?_
          refine w_bipush ok (z := 6) dIn_136 rfl ?_
          refine w_iadd ok dIn_138 ?_
          refine w_baloadZJ ok A_f (by rw [own_vals_len]; exact hj) (v := _) (own_vals_get (own_lt hj)) dIn_139 ?_
          refine w_if_ne ok dIn_140 (fun q1 => ?_) (fun q1 => ?_)
          · obtain rfl := hnz q1
            refine w_iinc ok (Ls' := #[.val (.ref a), .val (.int ver), .val (.int (i + (1 : Int32))), .unset]) dIn_161 rfl rfl ?_
            refine w_goto ok dIn_164 ?_
            exact ih _ _ _ M hm
          · refine w_aloadN ok dIn_143 rfl rfl ?_
            refine w_iloadN ok dIn_144 rfl ?_
            refine w_bipush ok (z := 6) dIn_145 rfl ?_
            refine w_iloadN ok dIn_147 rfl ?_
            refine w_iconst ok (z := 2) dIn_148 rfl ?_
            refine w_irem ok dIn_149 (by decide) ?_
            have Jd : ∀ (z : Int32) (hz1 : z = own_par i), Wp l ({ frames := 2, cells := 18, slots := 949, locals := 42 } : Room) n0 K (fun v h' => v = none ∧ ∃ ad af D, own_Mat Z n0 hb h' a ver size ad af N (st'.1, D, st'.2.2) ∧ (ver < 7 → D = st'.2.1) ∧ hb.size ≤ ad ∧ hb.size ≤ af) hh 3 889 158 #[.val (.ref a), .val (.int ver), .val (.int i), .unset] [(.int z), (.int (6 : Int32)), (.int i), (.ref a)] := by
              intro z hz1
              subst hz1
              refine w_privN ok (argsL := [(.int i), (.int (6 : Int32)), (.int (own_par i))]) (rest := []) (hw _ (List.mem_of_getElem? (i := 34) rfl)) (hw _ (List.mem_of_getElem? (i := 35) rfl)) (hw _ (List.mem_of_getElem? (i := 36) rfl)) (hw _ (List.mem_of_getElem? (i := 3) rfl)) (hw _ (List.mem_of_getElem? (i := 4) rfl)) (hw _ (List.mem_of_getElem? (i := 37) rfl)) E_a (by decide) (rmDF l Z a0 hw n0 hb a ad af ver size N _ _ _ st2 st3 hh M (hz q1)) dIn_158 (lenOf pd__IIZ_V rfl) rfl rfl (Nat.le_of_ble_eq_true rfl) (Nat.le_of_ble_eq_true rfl) (k' := 3) (n' := 889) rfl rfl (Nat.le_of_ble_eq_true rfl) (Nat.le_of_ble_eq_true rfl) ?_
              rintro h9 ⟨Kc, M⟩
              refine w_iinc ok (Ls' := #[.val (.ref a), .val (.int ver), .val (.int (i + (1 : Int32))), .unset]) dIn_161 rfl rfl ?_
              refine w_goto ok dIn_164 ?_
              exact ih _ _ _ M hm
            refine w_if_ne ok dIn_150 (fun q2 => ?_) (fun q2 => ?_)
            · refine w_iconst ok (z := 0) dIn_157 rfl ?_
              exact Jd _ (by rw [own_par, if_neg q2])
            · refine w_iconst ok (z := 1) dIn_153 rfl ?_
              refine w_goto ok dIn_154 ?_
              exact Jd _ (by rw [own_par, if_pos q2])
        obtain ⟨hj, hz, hnz⟩ := own_td_inv t1
        refine w_aloadN ok dIn_91 rfl rfl ?_
        refine w_getfield ok (host := "") (Or.inl (hw _ (List.mem_of_getElem? (i := 21) rfl))) Via.refl F_function dIn_92 ?_
        refine w_bipush ok (z := 6) dIn_95 rfl ?_
        refine w_aloadN ok dIn_97 rfl rfl ?_
        refine w_getfield ok (host := "") (Or.inl (hw _ (List.mem_of_getElem? (i := 16) rfl))) Via.refl F_size dIn_98 ?_
        refine w_imul ok dIn_101 ?_
        refine w_iloadN ok dIn_102 rfl ?_
        refine w_iadd ok dIn_103 ?_
        refine w_baloadZJ ok A_f (by rw [own_vals_len]; exact hj) (v := _) (own_vals_get (own_lt hj)) dIn_104 ?_
        refine w_if_ne ok dIn_105 (fun q1 => ?_) (fun q1 => ?_)
        · obtain rfl := hnz q1
          exact J126 _ M
        · refine w_aloadN ok dIn_108 rfl rfl ?_
          refine w_bipush ok (z := 6) dIn_109 rfl ?_
          refine w_iloadN ok dIn_111 rfl ?_
          refine w_iloadN ok dIn_112 rfl ?_
          refine w_iconst ok (z := 2) dIn_113 rfl ?_
          refine w_irem ok dIn_114 (by decide) ?_
          have Jd : ∀ (z : Int32) (hz1 : z = own_par i), Wp l ({ frames := 2, cells := 18, slots := 949, locals := 42 } : Room) n0 K (fun v h' => v = none ∧ ∃ ad af D, own_Mat Z n0 hb h' a ver size ad af N (st'.1, D, st'.2.2) ∧ (ver < 7 → D = st'.2.1) ∧ hb.size ≤ ad ∧ hb.size ≤ af) hh 3 889 123 #[.val (.ref a), .val (.int ver), .val (.int i), .unset] [(.int z), (.int i), (.int (6 : Int32)), (.ref a)] := by
            intro z hz1
            subst hz1
            refine w_privN ok (argsL := [(.int (6 : Int32)), (.int i), (.int (own_par i))]) (rest := []) (hw _ (List.mem_of_getElem? (i := 34) rfl)) (hw _ (List.mem_of_getElem? (i := 35) rfl)) (hw _ (List.mem_of_getElem? (i := 36) rfl)) (hw _ (List.mem_of_getElem? (i := 3) rfl)) (hw _ (List.mem_of_getElem? (i := 4) rfl)) (hw _ (List.mem_of_getElem? (i := 37) rfl)) E_a (by decide) (rmDF l Z a0 hw n0 hb a ad af ver size N _ _ _ st1 st2 hh M (hz q1)) dIn_123 (lenOf pd__IIZ_V rfl) rfl rfl (Nat.le_of_ble_eq_true rfl) (Nat.le_of_ble_eq_true rfl) (k' := 3) (n' := 889) rfl rfl (Nat.le_of_ble_eq_true rfl) (Nat.le_of_ble_eq_true rfl) ?_
            rintro h9 ⟨Kc, M⟩
            exact J126 _ M
          refine w_if_ne ok dIn_115 (fun q2 => ?_) (fun q2 => ?_)
          · refine w_iconst ok (z := 0) dIn_122 rfl ?_
            exact Jd _ (by rw [own_par, if_neg q2])
          · refine w_iconst ok (z := 1) dIn_118 rfl ?_
            refine w_goto ok dIn_119 ?_
            exact Jd _ (by rw [own_par, if_pos q2])
  exact loop 178 _ _ _ M c5
theorem dPl_0 : Fet prog_33_method_5_code 0 1 (.aload_n 1) 1 := ⟨by decide +kernel, rfl⟩
theorem dPl_1 : Fet prog_33_method_5_code 1 2 (.arraylength) 1 := ⟨by decide +kernel, rfl⟩
theorem dPl_2 : Fet prog_33_method_5_code 2 4 (.bipush 8) 2 := ⟨by decide +kernel, rfl⟩
theorem dPl_4 : Fet prog_33_method_5_code 4 5 (.imul) 1 := ⟨by decide +kernel, rfl⟩
theorem dPl_5 : Fet prog_33_method_5_code 5 6 (.istore_n 2) 1 := ⟨by decide +kernel, rfl⟩
theorem dPl_6 : Fet prog_33_method_5_code 6 7 (.iconst 0) 1 := ⟨by decide +kernel, rfl⟩
theorem dPl_7 : Fet prog_33_method_5_code 7 8 (.istore_n 3) 1 := ⟨by decide +kernel, rfl⟩
theorem dPl_8 : Fet prog_33_method_5_code 8 9 (.iconst 1) 1 := ⟨by decide +kernel, rfl⟩
theorem dPl_9 : Fet prog_33_method_5_code 9 11 (.istore 4) 2 := ⟨by decide +kernel, rfl⟩
theorem dPl_11 : Fet prog_33_method_5_code 11 12 (.aload_n 0) 1 := ⟨by decide +kernel, rfl⟩
theorem dPl_12 : Fet prog_33_method_5_code 12 15 (.getfield 17) 3 := ⟨by decide +kernel, rfl⟩
theorem dPl_15 : Fet prog_33_method_5_code 15 16 (.iconst 1) 1 := ⟨by decide +kernel, rfl⟩
theorem dPl_16 : Fet prog_33_method_5_code 16 17 (.isub) 1 := ⟨by decide +kernel, rfl⟩
theorem dPl_17 : Fet prog_33_method_5_code 17 19 (.istore 5) 2 := ⟨by decide +kernel, rfl⟩
theorem dPl_19 : Fet prog_33_method_5_code 19 21 (.iload 5) 2 := ⟨by decide +kernel, rfl⟩
theorem dPl_21 : Brn prog_33_method_5_code 21 24 178 (.ifCond .le 157) 157 := ⟨by decide +kernel, rfl, by decide, by decide⟩
theorem dPl_178 : Fet prog_33_method_5_code 178 179 (.return_) 1 := ⟨by decide +kernel, rfl⟩
theorem dPl_24 : Fet prog_33_method_5_code 24 26 (.iload 5) 2 := ⟨by decide +kernel, rfl⟩
theorem dPl_26 : Fet prog_33_method_5_code 26 28 (.bipush 6) 2 := ⟨by decide +kernel, rfl⟩
theorem dPl_34 : Fet prog_33_method_5_code 34 35 (.iconst 0) 1 := ⟨by decide +kernel, rfl⟩
theorem dPl_35 : Fet prog_33_method_5_code 35 37 (.istore 6) 2 := ⟨by decide +kernel, rfl⟩
theorem dPl_37 : Fet prog_33_method_5_code 37 39 (.iload 6) 2 := ⟨by decide +kernel, rfl⟩
theorem dPl_39 : Fet prog_33_method_5_code 39 40 (.aload_n 0) 1 := ⟨by decide +kernel, rfl⟩
theorem dPl_40 : Fet prog_33_method_5_code 40 43 (.getfield 17) 3 := ⟨by decide +kernel, rfl⟩
theorem dPl_43 : Brn prog_33_method_5_code 43 46 160 (.if_icmp .ge 117) 117 := ⟨by decide +kernel, rfl, by decide, by decide⟩
theorem dPl_160 : Fet prog_33_method_5_code 160 162 (.iload 4) 2 := ⟨by decide +kernel, rfl⟩
theorem dPl_170 : Fet prog_33_method_5_code 170 172 (.istore 4) 2 := ⟨by decide +kernel, rfl⟩
theorem dPl_172 : Fet prog_33_method_5_code 172 175 (.iinc 5 (-2)) 3 := ⟨by decide +kernel, rfl⟩
theorem dPl_175 : Brn prog_33_method_5_code 175 178 19 (.goto (-156)) (-156) := ⟨by decide +kernel, rfl, by decide, by decide⟩
theorem dPl_162 : Brn prog_33_method_5_code 162 165 169 (.ifCond .ne 7) 7 := ⟨by decide +kernel, rfl, by decide, by decide⟩
theorem dPl_169 : Fet prog_33_method_5_code 169 170 (.iconst 0) 1 := ⟨by decide +kernel, rfl⟩
theorem dPl_165 : Fet prog_33_method_5_code 165 166 (.iconst 1) 1 := ⟨by decide +kernel, rfl⟩
theorem dPl_166 : Brn prog_33_method_5_code 166 169 170 (.goto 4) 4 := ⟨by decide +kernel, rfl, by decide, by decide⟩
theorem dPl_46 : Fet prog_33_method_5_code 46 48 (.iload 4) 2 := ⟨by decide +kernel, rfl⟩
theorem dPl_65 : Fet prog_33_method_5_code 65 67 (.istore 7) 2 := ⟨by decide +kernel, rfl⟩
theorem dPl_67 : Fet prog_33_method_5_code 67 69 (.iload 5) 2 := ⟨by decide +kernel, rfl⟩
theorem dPl_69 : Fet prog_33_method_5_code 69 71 (.istore 8) 2 := ⟨by decide +kernel, rfl⟩
theorem dPl_71 : Fet prog_33_method_5_code 71 73 (.iload 8) 2 := ⟨by decide +kernel, rfl⟩
theorem dPl_73 : Fet prog_33_method_5_code 73 75 (.iload 5) 2 := ⟨by decide +kernel, rfl⟩
theorem dPl_75 : Fet prog_33_method_5_code 75 76 (.iconst 1) 1 := ⟨by decide +kernel, rfl⟩
theorem dPl_76 : Fet prog_33_method_5_code 76 77 (.isub) 1 := ⟨by decide +kernel, rfl⟩
theorem dPl_77 : Brn prog_33_method_5_code 77 80 154 (.if_icmp .lt 77) 77 := ⟨by decide +kernel, rfl, by decide, by decide⟩
theorem dPl_154 : Fet prog_33_method_5_code 154 157 (.iinc 6 1) 3 := ⟨by decide +kernel, rfl⟩
theorem dPl_157 : Brn prog_33_method_5_code 157 160 37 (.goto (-120)) (-120) := ⟨by decide +kernel, rfl, by decide, by decide⟩
theorem dPl_80 : Fet prog_33_method_5_code 80 81 (.aload_n 0) 1 := ⟨by decide +kernel, rfl⟩
theorem dPl_81 : Fet prog_33_method_5_code 81 84 (.getfield 23) 3 := ⟨by decide +kernel, rfl⟩
theorem dPl_84 : Fet prog_33_method_5_code 84 86 (.iload 7) 2 := ⟨by decide +kernel, rfl⟩
theorem dPl_86 : Fet prog_33_method_5_code 86 87 (.aload_n 0) 1 := ⟨by decide +kernel, rfl⟩
theorem dPl_87 : Fet prog_33_method_5_code 87 90 (.getfield 17) 3 := ⟨by decide +kernel, rfl⟩
theorem dPl_90 : Fet prog_33_method_5_code 90 91 (.imul) 1 := ⟨by decide +kernel, rfl⟩
theorem dPl_91 : Fet prog_33_method_5_code 91 93 (.iload 8) 2 := ⟨by decide +kernel, rfl⟩
theorem dPl_93 : Fet prog_33_method_5_code 93 94 (.iadd) 1 := ⟨by decide +kernel, rfl⟩
theorem dPl_94 : Fet prog_33_method_5_code 94 95 (.baload) 1 := ⟨by decide +kernel, rfl⟩
theorem dPl_95 : Brn prog_33_method_5_code 95 98 101 (.ifCond .eq 6) 6 := ⟨by decide +kernel, rfl, by decide, by decide⟩
theorem dPl_98 : Brn prog_33_method_5_code 98 101 148 (.goto 50) 50 := ⟨by decide +kernel, rfl, by decide, by decide⟩
theorem dPl_148 : Fet prog_33_method_5_code 148 151 (.iinc 8 (-1)) 3 := ⟨by decide +kernel, rfl⟩
theorem dPl_151 : Brn prog_33_method_5_code 151 154 71 (.goto (-80)) (-80) := ⟨by decide +kernel, rfl, by decide, by decide⟩
theorem dPl_101 : Fet prog_33_method_5_code 101 102 (.aload_n 0) 1 := ⟨by decide +kernel, rfl⟩
theorem dPl_102 : Fet prog_33_method_5_code 102 105 (.getfield 19) 3 := ⟨by decide +kernel, rfl⟩
theorem dPl_105 : Fet prog_33_method_5_code 105 107 (.iload 7) 2 := ⟨by decide +kernel, rfl⟩
theorem dPl_107 : Fet prog_33_method_5_code 107 108 (.aload_n 0) 1 := ⟨by decide +kernel, rfl⟩
theorem dPl_108 : Fet prog_33_method_5_code 108 111 (.getfield 17) 3 := ⟨by decide +kernel, rfl⟩
theorem dPl_111 : Fet prog_33_method_5_code 111 112 (.imul) 1 := ⟨by decide +kernel, rfl⟩
theorem dPl_112 : Fet prog_33_method_5_code 112 114 (.iload 8) 2 := ⟨by decide +kernel, rfl⟩
theorem dPl_114 : Fet prog_33_method_5_code 114 115 (.iadd) 1 := ⟨by decide +kernel, rfl⟩
theorem dPl_115 : Fet prog_33_method_5_code 115 116 (.iload_n 3) 1 := ⟨by decide +kernel, rfl⟩
theorem dPl_116 : Fet prog_33_method_5_code 116 117 (.iload_n 2) 1 := ⟨by decide +kernel, rfl⟩
theorem dPl_144 : Fet prog_33_method_5_code 144 145 (.bastore) 1 := ⟨by decide +kernel, rfl⟩
theorem dPl_145 : Fet prog_33_method_5_code 145 148 (.iinc 3 1) 3 := ⟨by decide +kernel, rfl⟩
theorem dPl_117 : Brn prog_33_method_5_code 117 120 143 (.if_icmp .ge 26) 26 := ⟨by decide +kernel, rfl, by decide, by decide⟩
theorem dPl_143 : Fet prog_33_method_5_code 143 144 (.iconst 0) 1 := ⟨by decide +kernel, rfl⟩
theorem dPl_120 : Fet prog_33_method_5_code 120 121 (.aload_n 1) 1 := ⟨by decide +kernel, rfl⟩
theorem dPl_121 : Fet prog_33_method_5_code 121 122 (.iload_n 3) 1 := ⟨by decide +kernel, rfl⟩
theorem dPl_122 : Fet prog_33_method_5_code 122 124 (.bipush 8) 2 := ⟨by decide +kernel, rfl⟩
theorem dPl_124 : Fet prog_33_method_5_code 124 125 (.idiv) 1 := ⟨by decide +kernel, rfl⟩
theorem dPl_125 : Fet prog_33_method_5_code 125 126 (.baload) 1 := ⟨by decide +kernel, rfl⟩
theorem dPl_126 : Fet prog_33_method_5_code 126 128 (.bipush 7) 2 := ⟨by decide +kernel, rfl⟩
theorem dPl_128 : Fet prog_33_method_5_code 128 129 (.iload_n 3) 1 := ⟨by decide +kernel, rfl⟩
theorem dPl_129 : Fet prog_33_method_5_code 129 131 (.bipush 8) 2 := ⟨by decide +kernel, rfl⟩
theorem dPl_131 : Fet prog_33_method_5_code 131 132 (.irem) 1 := ⟨by decide +kernel, rfl⟩
theorem dPl_132 : Fet prog_33_method_5_code 132 133 (.isub) 1 := ⟨by decide +kernel, rfl⟩
theorem dPl_133 : Fet prog_33_method_5_code 133 134 (.iushr) 1 := ⟨by decide +kernel, rfl⟩
theorem dPl_134 : Fet prog_33_method_5_code 134 135 (.iconst 1) 1 := ⟨by decide +kernel, rfl⟩
theorem dPl_135 : Fet prog_33_method_5_code 135 136 (.iand) 1 := ⟨by decide +kernel, rfl⟩
theorem dPl_136 : Brn prog_33_method_5_code 136 139 143 (.ifCond .eq 7) 7 := ⟨by decide +kernel, rfl, by decide, by decide⟩
theorem dPl_139 : Fet prog_33_method_5_code 139 140 (.iconst 1) 1 := ⟨by decide +kernel, rfl⟩
theorem dPl_140 : Brn prog_33_method_5_code 140 143 144 (.goto 4) 4 := ⟨by decide +kernel, rfl, by decide, by decide⟩
theorem dPl_48 : Brn prog_33_method_5_code 48 51 63 (.ifCond .eq 15) 15 := ⟨by decide +kernel, rfl, by decide, by decide⟩
theorem dPl_63 : Fet prog_33_method_5_code 63 65 (.iload 6) 2 := ⟨by decide +kernel, rfl⟩
theorem dPl_51 : Fet prog_33_method_5_code 51 52 (.aload_n 0) 1 := ⟨by decide +kernel, rfl⟩
theorem dPl_52 : Fet prog_33_method_5_code 52 55 (.getfield 17) 3 := ⟨by decide +kernel, rfl⟩
theorem dPl_55 : Fet prog_33_method_5_code 55 56 (.iconst 1) 1 := ⟨by decide +kernel, rfl⟩
theorem dPl_56 : Fet prog_33_method_5_code 56 57 (.isub) 1 := ⟨by decide +kernel, rfl⟩
theorem dPl_57 : Fet prog_33_method_5_code 57 59 (.iload 6) 2 := ⟨by decide +kernel, rfl⟩
theorem dPl_59 : Fet prog_33_method_5_code 59 60 (.isub) 1 := ⟨by decide +kernel, rfl⟩
theorem dPl_60 : Brn prog_33_method_5_code 60 63 65 (.goto 5) 5 := ⟨by decide +kernel, rfl, by decide, by decide⟩
theorem dPl_28 : Brn prog_33_method_5_code 28 31 34 (.if_icmp .ne 6) 6 := ⟨by decide +kernel, rfl, by decide, by decide⟩
theorem dPl_31 : Fet prog_33_method_5_code 31 34 (.iinc 5 (-1)) 3 := ⟨by decide +kernel, rfl⟩
set_option maxRecDepth 65536 in
set_option maxHeartbeats 4000000 in
theorem rmPl (l : Launch) (Z : State) (a0 : Array Value) (hw : ∀ d ∈ tables_1, d.before a0 Z = true) (n0 : Nat) (a ad af ac : Addr) (size : Int32) (N F : Nat) (cb : List Int32) (ls : List Nat) (st' : own_Pt) (h : Heap) (hcl : cb.length = 8 ∨ cb.length = 26) (M : own_P Z n0 h a size ad af ac N F cb ls) (hm : own_p1 N F size 12 (size - 1) 1 (ls, 0) = some st') :
    ConN l Z n0 (⟨"com/example/tickstep/tickstep/encoding/QrMatrix", "place", "([B)V"⟩ : MethodName) prog_33_method_5_code 9 none [] ({ frames := 0, cells := 0, slots := 0, locals := 0 } : Room) #[(.ref a), (.ref ac)] h (fun h' => own_P Z n0 h' a size ad af ac N F cb st'.1) := by
  refine con_of_wp (Ls := #[.val (.ref a), .val (.ref ac), .unset, .unset, .unset, .unset, .unset, .unset, .unset]) (plainFor_of_name pn_com_example_tickstep_tickstep_encoding_QrMatrix) (fun m => by first | (simp [entryFrame, mkF, argsToLocals, Value.category]; done) | rfl) ?_
  intro K ok
  replace ok : Ok Z K prog_33_method_5_code "com/example/tickstep/tickstep/encoding/QrMatrix" "place" 9 none := ok
  show Wp l ({ frames := 0, cells := 0, slots := 0, locals := 0 } : Room) n0 K (fun v h' => v = none ∧ own_P Z n0 h' a size ad af ac N F cb st'.1) h 0 0 0 #[.val (.ref a), .val (.ref ac), .unset, .unset, .unset, .unset, .unset, .unset, .unset] []
  obtain ⟨Z0, E_a, F_size, F_dark, F_function, A_d, A_f, A_c, ⟨gn_ad, nda, na1, nc1⟩, hls⟩ := id M
  refine w_aloadN ok dPl_0 rfl rfl ?_
  refine w_arraylength ok A_c dPl_1 ?_
  refine w_int (b := (Int32.ofNat cb.length)) (by rw [List.length_map]) ?_
  refine w_bipush ok (z := 8) dPl_2 rfl ?_
  refine w_imul ok dPl_4 ?_
  refine w_istoreN ok (Ls' := #[.val (.ref a), .val (.ref ac), .val (.int ((Int32.ofNat cb.length) * (8 : Int32))), .unset, .unset, .unset, .unset, .unset, .unset]) dPl_5 rfl ?_
  refine w_iconst ok (z := 0) dPl_6 rfl ?_
  refine w_istoreN ok (Ls' := #[.val (.ref a), .val (.ref ac), .val (.int ((Int32.ofNat cb.length) * (8 : Int32))), .val (.int (0 : Int32)), .unset, .unset, .unset, .unset, .unset]) dPl_7 rfl ?_
  refine w_iconst ok (z := 1) dPl_8 rfl ?_
  refine w_istore ok (Ls' := #[.val (.ref a), .val (.ref ac), .val (.int ((Int32.ofNat cb.length) * (8 : Int32))), .val (.int (0 : Int32)), .val (.int (1 : Int32)), .unset, .unset, .unset, .unset]) dPl_9 rfl ?_
  refine w_aloadN ok dPl_11 rfl rfl ?_
  refine w_getfield ok (host := "") (Or.inl (hw _ (List.mem_of_getElem? (i := 16) rfl))) Via.refl F_size dPl_12 ?_
  refine w_iconst ok (z := 1) dPl_15 rfl ?_
  refine w_isub ok dPl_16 ?_
  refine w_istore ok (Ls' := #[.val (.ref a), .val (.ref ac), .val (.int ((Int32.ofNat cb.length) * (8 : Int32))), .val (.int (0 : Int32)), .val (.int (1 : Int32)), .val (.int (size - (1 : Int32))), .unset, .unset, .unset]) dPl_17 rfl ?_
  have outer : ∀ (n : Nat) (right up : Int32) (s6 s7 s8 : Slot) (hs6 : OneS s6) (hs7 : OneS s7) (hs8 : OneS s8) (hh : Heap) (st1 : own_Pt) (M : own_P Z n0 hh a size ad af ac N F cb st1.1) (hm : own_p1 N F size n right up st1 = some st'), Wp l ({ frames := 0, cells := 0, slots := 0, locals := 0 } : Room) n0 K (fun v h' => v = none ∧ own_P Z n0 h' a size ad af ac N F cb st'.1) hh 0 0 19 #[.val (.ref a), .val (.ref ac), .val (.int ((Int32.ofNat cb.length) * (8 : Int32))), .val (.int (Int32.ofNat st1.2)), .val (.int up), .val (.int right), s6, s7, s8] [] := by
    intro n
    clear hm
    induction n with
    | zero =>
      intro right up s6 s7 s8 hs6 hs7 hs8 hh st1 M hm
      exact absurd hm (by simp [own_p1])
    | succ n ih =>
      intro right up s6 s7 s8 hs6 hs7 hs8 hh st1 M hm
      obtain ⟨Z0, E_a, F_size, F_dark, F_function, A_d, A_f, A_c, ⟨gn_ad, nda, na1, nc1⟩, hls⟩ := id M
      refine w_iload ok dPl_19 rfl ?_
      refine w_if_le ok dPl_21 (fun q => ?_) (fun q => ?_)
      · refine w_return ok dPl_178 (Nat.le_of_ble_eq_true rfl) (Nat.le_of_ble_eq_true rfl) ?_
        obtain rfl := own_p1_end q hm
        exact ⟨rfl, M⟩
      · obtain ⟨st2, hm1, hm2⟩ := own_p1_go q hm
        refine w_iload ok dPl_24 rfl ?_
        refine w_bipush ok (z := 6) dPl_26 rfl ?_
        have J34 : ∀ (rt : Int32) (hrt : rt = own_rt right), Wp l ({ frames := 0, cells := 0, slots := 0, locals := 0 } : Room) n0 K (fun v h' => v = none ∧ own_P Z n0 h' a size ad af ac N F cb st'.1) hh 0 0 34 #[.val (.ref a), .val (.ref ac), .val (.int ((Int32.ofNat cb.length) * (8 : Int32))), .val (.int (Int32.ofNat st1.2)), .val (.int up), .val (.int rt), s6, s7, s8] [] := by
          intro rt hrt
          rw [← hrt] at hm1 hm2
          refine w_iconst ok (z := 0) dPl_34 rfl ?_
          refine w_istoreS ok (Ls' := #[.val (.ref a), .val (.ref ac), .val (.int ((Int32.ofNat cb.length) * (8 : Int32))), .val (.int (Int32.ofNat st1.2)), .val (.int up), .val (.int rt), .val (.int (0 : Int32)), s7, s8]) dPl_35 rfl hs6 rfl ?_
          have mid : ∀ (m : Nat) (s : Int32) (s7 s8 : Slot) (hs7 : OneS s7) (hs8 : OneS s8) (hh : Heap) (st1 : own_Pt) (M : own_P Z n0 hh a size ad af ac N F cb st1.1) (hm1 : own_p2 N F size rt up m s st1 = some st2), Wp l ({ frames := 0, cells := 0, slots := 0, locals := 0 } : Room) n0 K (fun v h' => v = none ∧ own_P Z n0 h' a size ad af ac N F cb st'.1) hh 0 0 37 #[.val (.ref a), .val (.ref ac), .val (.int ((Int32.ofNat cb.length) * (8 : Int32))), .val (.int (Int32.ofNat st1.2)), .val (.int up), .val (.int rt), .val (.int s), s7, s8] [] := by
            intro m
            clear hm1
            induction m with
            | zero =>
              intro s s7 s8 hs7 hs8 hh st1 M hm1
              exact absurd hm1 (by simp [own_p2])
            | succ m ihm =>
              intro s s7 s8 hs7 hs8 hh st1 M hm1
              obtain ⟨Z0, E_a, F_size, F_dark, F_function, A_d, A_f, A_c, ⟨gn_ad, nda, na1, nc1⟩, hls⟩ := id M
              refine w_iload ok dPl_37 rfl ?_
              refine w_aloadN ok dPl_39 rfl rfl ?_
              refine w_getfield ok (host := "") (Or.inl (hw _ (List.mem_of_getElem? (i := 16) rfl))) Via.refl F_size dPl_40 ?_
              refine w_ic_ge ok dPl_43 (fun q1 => ?_) (fun q1 => ?_)
              · obtain rfl := own_p2_end q1 hm1
                refine w_iload ok dPl_160 rfl ?_
                have J170 : ∀ (z : Int32) (hz : z = own_no up), Wp l ({ frames := 0, cells := 0, slots := 0, locals := 0 } : Room) n0 K (fun v h' => v = none ∧ own_P Z n0 h' a size ad af ac N F cb st'.1) hh 0 0 170 #[.val (.ref a), .val (.ref ac), .val (.int ((Int32.ofNat cb.length) * (8 : Int32))), .val (.int (Int32.ofNat st1.2)), .val (.int up), .val (.int rt), .val (.int s), s7, s8] [(.int z)] := by
                  intro z hz
                  rw [← hz] at hm2
                  refine w_istore ok (Ls' := #[.val (.ref a), .val (.ref ac), .val (.int ((Int32.ofNat cb.length) * (8 : Int32))), .val (.int (Int32.ofNat st1.2)), .val (.int z), .val (.int rt), .val (.int s), s7, s8]) dPl_170 rfl ?_
                  refine w_iinc ok (Ls' := #[.val (.ref a), .val (.ref ac), .val (.int ((Int32.ofNat cb.length) * (8 : Int32))), .val (.int (Int32.ofNat st1.2)), .val (.int z), .val (.int (rt + (-2 : Int32))), .val (.int s), s7, s8]) dPl_172 rfl rfl ?_
                  refine w_goto ok dPl_175 ?_
                  exact ih _ _ _ _ _ (OneS.int _) hs7 hs8 _ _ M hm2
                refine w_if_ne ok dPl_162 (fun q2 => ?_) (fun q2 => ?_)
                · refine w_iconst ok (z := 0) dPl_169 rfl ?_
                  exact J170 _ (by rw [own_no, if_neg q2])
                · refine w_iconst ok (z := 1) dPl_165 rfl ?_
                  refine w_goto ok dPl_166 ?_
                  exact J170 _ (by rw [own_no, if_pos q2])
              · obtain ⟨st3, hp, hm1⟩ := own_p2_go q1 hm1
                refine w_iload ok dPl_46 rfl ?_
                have J65 : ∀ (row : Int32) (hrow : row = if up = 0 then s else size - 1 - s), Wp l ({ frames := 0, cells := 0, slots := 0, locals := 0 } : Room) n0 K (fun v h' => v = none ∧ own_P Z n0 h' a size ad af ac N F cb st'.1) hh 0 0 65 #[.val (.ref a), .val (.ref ac), .val (.int ((Int32.ofNat cb.length) * (8 : Int32))), .val (.int (Int32.ofNat st1.2)), .val (.int up), .val (.int rt), .val (.int s), s7, s8] [(.int row)] := by
                  intro row hrow
                  rw [← hrow] at hp
                  refine w_istoreS ok (Ls' := #[.val (.ref a), .val (.ref ac), .val (.int ((Int32.ofNat cb.length) * (8 : Int32))), .val (.int (Int32.ofNat st1.2)), .val (.int up), .val (.int rt), .val (.int s), .val (.int row), s8]) dPl_65 rfl hs7 rfl ?_
                  refine w_iload ok dPl_67 rfl ?_
                  refine w_istoreS ok (Ls' := #[.val (.ref a), .val (.ref ac), .val (.int ((Int32.ofNat cb.length) * (8 : Int32))), .val (.int (Int32.ofNat st1.2)), .val (.int up), .val (.int rt), .val (.int s), .val (.int row), .val (.int rt)]) dPl_69 rfl hs8 rfl ?_
                  have inn : ∀ (p : Nat) (col : Int32) (hh : Heap) (st1 : own_Pt) (M : own_P Z n0 hh a size ad af ac N F cb st1.1) (hp : own_p3 N F size rt row p col st1 = some st3), Wp l ({ frames := 0, cells := 0, slots := 0, locals := 0 } : Room) n0 K (fun v h' => v = none ∧ own_P Z n0 h' a size ad af ac N F cb st'.1) hh 0 0 71 #[.val (.ref a), .val (.ref ac), .val (.int ((Int32.ofNat cb.length) * (8 : Int32))), .val (.int (Int32.ofNat st1.2)), .val (.int up), .val (.int rt), .val (.int s), .val (.int row), .val (.int col)] [] := by
                    intro p
                    clear hp
                    induction p with
                    | zero =>
                      intro col hh st1 M hp
                      exact absurd hp (by simp [own_p3])
                    | succ p ihp =>
                      intro col hh st1 M hp
                      obtain ⟨Z0, E_a, F_size, F_dark, F_function, A_d, A_f, A_c, ⟨gn_ad, nda, na1, nc1⟩, hls⟩ := id M
                      refine w_iload ok dPl_71 rfl ?_
                      refine w_iload ok dPl_73 rfl ?_
                      refine w_iconst ok (z := 1) dPl_75 rfl ?_
                      refine w_isub ok dPl_76 ?_
                      refine w_ic_lt ok dPl_77 (fun q2 => ?_) (fun q2 => ?_)
                      · refine w_iinc ok (Ls' := #[.val (.ref a), .val (.ref ac), .val (.int ((Int32.ofNat cb.length) * (8 : Int32))), .val (.int (Int32.ofNat st1.2)), .val (.int up), .val (.int rt), .val (.int (s + (1 : Int32))), .val (.int row), .val (.int col)]) dPl_154 rfl rfl ?_
                        refine w_goto ok dPl_157 ?_
                        obtain rfl := own_p3_end q2 hp
                        exact ihm _ _ _ (OneS.int _) (OneS.int _) _ _ M hm1
                      · obtain ⟨hj, hg0, hg1⟩ := own_p3_go q2 hp
                        refine w_aloadN ok dPl_80 rfl rfl ?_
                        refine w_getfield ok (host := "") (Or.inl (hw _ (List.mem_of_getElem? (i := 21) rfl))) Via.refl F_function dPl_81 ?_
                        refine w_iload ok dPl_84 rfl ?_
                        refine w_aloadN ok dPl_86 rfl rfl ?_
                        refine w_getfield ok (host := "") (Or.inl (hw _ (List.mem_of_getElem? (i := 16) rfl))) Via.refl F_size dPl_87 ?_
                        refine w_imul ok dPl_90 ?_
                        refine w_iload ok dPl_91 rfl ?_
                        refine w_iadd ok dPl_93 ?_
                        refine w_baloadZJ ok A_f (by rw [own_vals_len]; exact hj) (v := _) (own_vals_get (own_lt hj)) dPl_94 ?_
                        refine w_if_eq ok dPl_95 (fun q3 => ?_) (fun q3 => ?_)
                        · obtain ⟨ht, hp⟩ := hg0 q3
                          refine w_aloadN ok dPl_101 rfl rfl ?_
                          refine w_getfield ok (host := "") (Or.inl (hw _ (List.mem_of_getElem? (i := 19) rfl))) Via.refl F_dark dPl_102 ?_
                          refine w_iload ok dPl_105 rfl ?_
                          refine w_aloadN ok dPl_107 rfl rfl ?_
                          refine w_getfield ok (host := "") (Or.inl (hw _ (List.mem_of_getElem? (i := 16) rfl))) Via.refl F_size dPl_108 ?_
                          refine w_imul ok dPl_111 ?_
                          refine w_iload ok dPl_112 rfl ?_
                          refine w_iadd ok dPl_114 ?_
                          refine w_iloadN ok dPl_115 rfl ?_
                          refine w_iloadN ok dPl_116 rfl ?_
                          have J144 : ∀ (z : Int32) (hz : z = own_w cb st1.2), Wp l ({ frames := 0, cells := 0, slots := 0, locals := 0 } : Room) n0 K (fun v h' => v = none ∧ own_P Z n0 h' a size ad af ac N F cb st'.1) hh 0 0 144 #[.val (.ref a), .val (.ref ac), .val (.int ((Int32.ofNat cb.length) * (8 : Int32))), .val (.int (Int32.ofNat st1.2)), .val (.int up), .val (.int rt), .val (.int s), .val (.int row), .val (.int col)] [(.int z), (.int (row * size + col)), (.ref ad)] := by
                            intro z hz
                            subst hz
                            refine w_bastoreZJ ok A_d (by rw [List.length_map, hls]; exact hj) gn_ad dPl_144 (fun h1 W1 A_d => ?_)
                            have E_a := E_a.wr W1
                            have F_size := F_size.other W1 (Or.inl na1)
                            have F_dark := F_dark.other W1 (Or.inl na1)
                            have F_function := F_function.other W1 (Or.inl na1)
                            have A_f := A_f.other W1 nda.symm
                            have A_c := A_c.other W1 nc1
                            have Z0 := Nat.le_trans Z0 (Keep.of_wr W1).1
                            replace A_d := A_d.cast own_put2
                            refine w_iinc ok (Ls' := #[.val (.ref a), .val (.ref ac), .val (.int ((Int32.ofNat cb.length) * (8 : Int32))), .val (.int ((Int32.ofNat st1.2) + (1 : Int32))), .val (.int up), .val (.int rt), .val (.int s), .val (.int row), .val (.int col)]) dPl_145 rfl rfl ?_
                            refine w_iinc ok (Ls' := #[.val (.ref a), .val (.ref ac), .val (.int ((Int32.ofNat cb.length) * (8 : Int32))), .val (.int ((Int32.ofNat st1.2) + (1 : Int32))), .val (.int up), .val (.int rt), .val (.int s), .val (.int row), .val (.int (col + (-1 : Int32)))]) dPl_148 rfl rfl ?_
                            refine w_goto ok dPl_151 ?_
                            have M' : own_P Z n0 h1 a size ad af ac N F cb (st1.1.set (row * size + col).toNatClampNeg (st1.2 + 2)) := ⟨Z0, E_a, F_size, F_dark, F_function, A_d, A_f, A_c, ⟨gn_ad, nda, na1, nc1⟩, by rw [List.length_set]; exact hls⟩
                            have e := ihp (col + -1) h1 (st1.1.set (row * size + col).toNatClampNeg (st1.2 + 2), st1.2 + 1) M' hp
                            dsimp only at e
                            rw [← own_of1] at e
                            exact e
                          refine w_ic_ge ok dPl_117 (fun q4 => ?_) (fun q4 => ?_)
                          · refine w_iconst ok (z := 0) dPl_143 rfl ?_
                            exact J144 _ (by rw [own_w, if_neg q4])
                          · obtain ⟨bb, hb, hi, hij⟩ := own_cwj hcl ht q4
                            refine w_aloadN ok dPl_120 rfl rfl ?_
                            refine w_iloadN ok dPl_121 rfl ?_
                            refine w_bipush ok (z := 8) dPl_122 rfl ?_
                            refine w_idiv ok dPl_124 (by decide) ?_
                            refine w_baloadBJ ok A_c (by rw [List.length_map]; exact hij) (v := _) (by rw [hi, List.getElem?_map, hb]; rfl) dPl_125 ?_
                            refine w_bipush ok (z := 7) dPl_126 rfl ?_
                            refine w_iloadN ok dPl_128 rfl ?_
                            refine w_bipush ok (z := 8) dPl_129 rfl ?_
                            refine w_irem ok dPl_131 (by decide) ?_
                            refine w_isub ok dPl_132 ?_
                            refine w_iushr ok dPl_133 ?_
                            refine w_iconst ok (z := 1) dPl_134 rfl ?_
                            refine w_iand ok dPl_135 ?_
                            refine w_if_eq ok dPl_136 (fun q5 => ?_) (fun q5 => ?_)
                            · refine w_iconst ok (z := 0) dPl_143 rfl ?_
                              exact J144 _ (by rw [own_w_b q4 hb, if_pos q5])
                            · refine w_iconst ok (z := 1) dPl_139 rfl ?_
                              refine w_goto ok dPl_140 ?_
                              exact J144 _ (by rw [own_w_b q4 hb, if_neg q5])
                        · refine w_goto ok dPl_98 ?_
                          refine w_iinc ok (Ls' := #[.val (.ref a), .val (.ref ac), .val (.int ((Int32.ofNat cb.length) * (8 : Int32))), .val (.int (Int32.ofNat st1.2)), .val (.int up), .val (.int rt), .val (.int s), .val (.int row), .val (.int (col + (-1 : Int32)))]) dPl_148 rfl rfl ?_
                          refine w_goto ok dPl_151 ?_
                          exact ihp _ _ _ M (hg1 q3)
                  exact inn 3 _ _ _ M hp
                refine w_if_eq ok dPl_48 (fun q2 => ?_) (fun q2 => ?_)
                · refine w_iload ok dPl_63 rfl ?_
                  exact J65 _ (by rw [if_pos q2])
                · refine w_aloadN ok dPl_51 rfl rfl ?_
                  refine w_getfield ok (host := "") (Or.inl (hw _ (List.mem_of_getElem? (i := 16) rfl))) Via.refl F_size dPl_52 ?_
                  refine w_iconst ok (z := 1) dPl_55 rfl ?_
                  refine w_isub ok dPl_56 ?_
                  refine w_iload ok dPl_57 rfl ?_
                  refine w_isub ok dPl_59 ?_
                  refine w_goto ok dPl_60 ?_
                  exact J65 _ (by rw [if_neg q2])
          exact mid 22 _ _ _ hs7 hs8 _ _ M hm1
        refine w_ic_ne ok dPl_28 (fun q6 => ?_) (fun q6 => ?_)
        · exact J34 _ (by rw [own_rt, if_neg q6])
        · refine w_iinc ok (Ls' := #[.val (.ref a), .val (.ref ac), .val (.int ((Int32.ofNat cb.length) * (8 : Int32))), .val (.int (Int32.ofNat st1.2)), .val (.int up), .val (.int (right + (-1 : Int32))), s6, s7, s8]) dPl_31 rfl rfl ?_
          exact J34 _ (by rw [own_rt, if_pos q6])
  exact outer 12 _ _ _ _ _ (Or.inl rfl) (Or.inl rfl) (Or.inl rfl) _ (ls, 0) M hm
theorem dMo_0 : Fet prog_33_method_7_code 0 1 (.aload_n 0) 1 := ⟨by decide +kernel, rfl⟩
theorem dMo_1 : Fet prog_33_method_7_code 1 4 (.getfield 19) 3 := ⟨by decide +kernel, rfl⟩
theorem dMo_4 : Fet prog_33_method_7_code 4 5 (.areturn) 1 := ⟨by decide +kernel, rfl⟩
set_option maxRecDepth 65536 in
set_option maxHeartbeats 4000000 in
theorem rmMo (l : Launch) (Z : State) (a0 : Array Value) (hw : ∀ d ∈ tables_1, d.before a0 Z = true) (n0 : Nat) (a ad : Addr) (h : Heap) (E_a : Exa Z h a "com/example/tickstep/tickstep/encoding/QrMatrix") (F_dark : Fld Z h a "com/example/tickstep/tickstep/encoding/QrMatrix" "dark" "[Z" (.ref ad)) :
    ConV l Z n0 (⟨"com/example/tickstep/tickstep/encoding/QrMatrix", "modules", "()[Z"⟩ : MethodName) prog_33_method_7_code 1 (some (.array .boolean)) [] ({ frames := 0, cells := 0, slots := 0, locals := 0 } : Room) #[(.ref a)] h (fun w h' => w = .ref ad ∧ h = h') := by
  refine con_of_wp (Ls := #[.val (.ref a)]) (plainFor_of_name pn_com_example_tickstep_tickstep_encoding_QrMatrix) (fun m => by first | (simp [entryFrame, mkF, argsToLocals, Value.category]; done) | rfl) ?_
  intro K ok
  replace ok : Ok Z K prog_33_method_7_code "com/example/tickstep/tickstep/encoding/QrMatrix" "modules" 1 (some (.array .boolean)) := ok
  show Wp l ({ frames := 0, cells := 0, slots := 0, locals := 0 } : Room) n0 K (fun v h' => ∃ w, v = some w ∧ w = .ref ad ∧ h = h') h 0 0 0 #[.val (.ref a)] []
  refine w_aloadN ok dMo_0 rfl rfl ?_
  refine w_getfield ok (host := "") (Or.inl (hw _ (List.mem_of_getElem? (i := 19) rfl))) Via.refl F_dark dMo_1 ?_
  refine w_areturn ok rfl rfl rfl dMo_4 (Nat.le_of_ble_eq_true rfl) (Nat.le_of_ble_eq_true rfl) ?_
  exact ⟨_, rfl, rfl, rfl⟩
theorem dBt_0 : Fet method_3_code 0 2 (.iload 7) 2 := ⟨by decide +kernel, rfl⟩
theorem dBt_2 : Fet method_3_code 2 4 (.bipush 64) 2 := ⟨by decide +kernel, rfl⟩
theorem dBt_4 : Brn method_3_code 4 7 27 (.if_icmp .ge 23) 23 := ⟨by decide +kernel, rfl, by decide, by decide⟩
theorem dBt_7 : Fet method_3_code 7 8 (.lload_n 0) 1 := ⟨by decide +kernel, rfl⟩
theorem dBt_8 : Fet method_3_code 8 10 (.bipush 63) 2 := ⟨by decide +kernel, rfl⟩
theorem dBt_10 : Fet method_3_code 10 12 (.iload 7) 2 := ⟨by decide +kernel, rfl⟩
theorem dBt_12 : Fet method_3_code 12 13 (.isub) 1 := ⟨by decide +kernel, rfl⟩
theorem dBt_13 : Fet method_3_code 13 14 (.lushr) 1 := ⟨by decide +kernel, rfl⟩
theorem dBt_14 : Fet method_3_code 14 15 (.lconst 1) 1 := ⟨by decide +kernel, rfl⟩
theorem dBt_15 : Fet method_3_code 15 16 (.land) 1 := ⟨by decide +kernel, rfl⟩
theorem dBt_16 : Fet method_3_code 16 17 (.lconst 0) 1 := ⟨by decide +kernel, rfl⟩
theorem dBt_17 : Fet method_3_code 17 18 (.lcmp) 1 := ⟨by decide +kernel, rfl⟩
theorem dBt_18 : Brn method_3_code 18 21 25 (.ifCond .eq 7) 7 := ⟨by decide +kernel, rfl, by decide, by decide⟩
theorem dBt_25 : Fet method_3_code 25 26 (.iconst 0) 1 := ⟨by decide +kernel, rfl⟩
theorem dBt_26 : Fet method_3_code 26 27 (.ireturn) 1 := ⟨by decide +kernel, rfl⟩
theorem dBt_21 : Fet method_3_code 21 22 (.iconst 1) 1 := ⟨by decide +kernel, rfl⟩
theorem dBt_22 : Brn method_3_code 22 25 26 (.goto 4) 4 := ⟨by decide +kernel, rfl, by decide, by decide⟩
theorem dBt_27 : Fet method_3_code 27 29 (.iload 7) 2 := ⟨by decide +kernel, rfl⟩
theorem dBt_29 : Fet method_3_code 29 32 (.sipush 128) 3 := ⟨by decide +kernel, rfl⟩
theorem dBt_32 : Brn method_3_code 32 35 55 (.if_icmp .ge 23) 23 := ⟨by decide +kernel, rfl, by decide, by decide⟩
theorem dBt_35 : Fet method_3_code 35 36 (.lload_n 2) 1 := ⟨by decide +kernel, rfl⟩
theorem dBt_36 : Fet method_3_code 36 38 (.bipush 127) 2 := ⟨by decide +kernel, rfl⟩
theorem dBt_38 : Fet method_3_code 38 40 (.iload 7) 2 := ⟨by decide +kernel, rfl⟩
theorem dBt_40 : Fet method_3_code 40 41 (.isub) 1 := ⟨by decide +kernel, rfl⟩
theorem dBt_41 : Fet method_3_code 41 42 (.lushr) 1 := ⟨by decide +kernel, rfl⟩
theorem dBt_42 : Fet method_3_code 42 43 (.lconst 1) 1 := ⟨by decide +kernel, rfl⟩
theorem dBt_43 : Fet method_3_code 43 44 (.land) 1 := ⟨by decide +kernel, rfl⟩
theorem dBt_44 : Fet method_3_code 44 45 (.lconst 0) 1 := ⟨by decide +kernel, rfl⟩
theorem dBt_45 : Fet method_3_code 45 46 (.lcmp) 1 := ⟨by decide +kernel, rfl⟩
theorem dBt_46 : Brn method_3_code 46 49 53 (.ifCond .eq 7) 7 := ⟨by decide +kernel, rfl, by decide, by decide⟩
theorem dBt_53 : Fet method_3_code 53 54 (.iconst 0) 1 := ⟨by decide +kernel, rfl⟩
theorem dBt_54 : Fet method_3_code 54 55 (.ireturn) 1 := ⟨by decide +kernel, rfl⟩
theorem dBt_49 : Fet method_3_code 49 50 (.iconst 1) 1 := ⟨by decide +kernel, rfl⟩
theorem dBt_50 : Brn method_3_code 50 53 54 (.goto 4) 4 := ⟨by decide +kernel, rfl, by decide, by decide⟩
theorem dBt_55 : Fet method_3_code 55 57 (.iload 7) 2 := ⟨by decide +kernel, rfl⟩
theorem dBt_57 : Fet method_3_code 57 60 (.sipush 192) 3 := ⟨by decide +kernel, rfl⟩
theorem dBt_60 : Brn method_3_code 60 63 85 (.if_icmp .ge 25) 25 := ⟨by decide +kernel, rfl, by decide, by decide⟩
theorem dBt_63 : Fet method_3_code 63 65 (.lload 4) 2 := ⟨by decide +kernel, rfl⟩
theorem dBt_65 : Fet method_3_code 65 68 (.sipush 191) 3 := ⟨by decide +kernel, rfl⟩
theorem dBt_68 : Fet method_3_code 68 70 (.iload 7) 2 := ⟨by decide +kernel, rfl⟩
theorem dBt_70 : Fet method_3_code 70 71 (.isub) 1 := ⟨by decide +kernel, rfl⟩
theorem dBt_71 : Fet method_3_code 71 72 (.lushr) 1 := ⟨by decide +kernel, rfl⟩
theorem dBt_72 : Fet method_3_code 72 73 (.lconst 1) 1 := ⟨by decide +kernel, rfl⟩
theorem dBt_73 : Fet method_3_code 73 74 (.land) 1 := ⟨by decide +kernel, rfl⟩
theorem dBt_74 : Fet method_3_code 74 75 (.lconst 0) 1 := ⟨by decide +kernel, rfl⟩
theorem dBt_75 : Fet method_3_code 75 76 (.lcmp) 1 := ⟨by decide +kernel, rfl⟩
theorem dBt_76 : Brn method_3_code 76 79 83 (.ifCond .eq 7) 7 := ⟨by decide +kernel, rfl, by decide, by decide⟩
theorem dBt_83 : Fet method_3_code 83 84 (.iconst 0) 1 := ⟨by decide +kernel, rfl⟩
theorem dBt_84 : Fet method_3_code 84 85 (.ireturn) 1 := ⟨by decide +kernel, rfl⟩
theorem dBt_79 : Fet method_3_code 79 80 (.iconst 1) 1 := ⟨by decide +kernel, rfl⟩
theorem dBt_80 : Brn method_3_code 80 83 84 (.goto 4) 4 := ⟨by decide +kernel, rfl, by decide, by decide⟩
theorem dBt_85 : Fet method_3_code 85 87 (.iload 6) 2 := ⟨by decide +kernel, rfl⟩
theorem dBt_87 : Fet method_3_code 87 90 (.sipush 223) 3 := ⟨by decide +kernel, rfl⟩
theorem dBt_90 : Fet method_3_code 90 92 (.iload 7) 2 := ⟨by decide +kernel, rfl⟩
theorem dBt_92 : Fet method_3_code 92 93 (.isub) 1 := ⟨by decide +kernel, rfl⟩
theorem dBt_93 : Fet method_3_code 93 94 (.iushr) 1 := ⟨by decide +kernel, rfl⟩
theorem dBt_94 : Fet method_3_code 94 95 (.iconst 1) 1 := ⟨by decide +kernel, rfl⟩
theorem dBt_95 : Fet method_3_code 95 96 (.iand) 1 := ⟨by decide +kernel, rfl⟩
theorem dBt_96 : Brn method_3_code 96 99 103 (.ifCond .eq 7) 7 := ⟨by decide +kernel, rfl, by decide, by decide⟩
theorem dBt_103 : Fet method_3_code 103 104 (.iconst 0) 1 := ⟨by decide +kernel, rfl⟩
theorem dBt_104 : Fet method_3_code 104 105 (.ireturn) 1 := ⟨by decide +kernel, rfl⟩
theorem dBt_99 : Fet method_3_code 99 100 (.iconst 1) 1 := ⟨by decide +kernel, rfl⟩
theorem dBt_100 : Brn method_3_code 100 103 104 (.goto 4) 4 := ⟨by decide +kernel, rfl, by decide, by decide⟩
theorem pn_com_example_tickstep_tickstep_encoding_QrMatrixPlacePinLaw : plainName "com/example/tickstep/tickstep/encoding/QrMatrixPlacePinLaw" = true := by first | (simp [plainName, overriddenIn]; done) | decide +kernel
set_option maxRecDepth 65536 in
set_option maxHeartbeats 4000000 in
theorem rmBt (l : Launch) (Z : State) (a0 : Array Value) (hw : ∀ d ∈ tables_1, d.before a0 Z = true) (n0 : Nat) (ja jb jc : Int64) (dd kk : Int32) (h : Heap) :
    ConV l Z n0 (⟨"com/example/tickstep/tickstep/encoding/QrMatrixPlacePinLaw", "bit", "(JJJII)Z"⟩ : MethodName) method_3_code 8 (some .boolean) [] ({ frames := 0, cells := 0, slots := 0, locals := 0 } : Room) #[(.long ja), (.long jb), (.long jc), (.int dd), (.int kk)] h (fun w h' => w = .int (own_bt ja jb jc dd kk) ∧ h = h') := by
  refine con_of_wp (Ls := #[.val (.long ja), .second, .val (.long jb), .second, .val (.long jc), .second, .val (.int dd), .val (.int kk)]) (plainFor_of_name pn_com_example_tickstep_tickstep_encoding_QrMatrixPlacePinLaw) (fun m => by first | (simp [entryFrame, mkF, argsToLocals, Value.category]; done) | rfl) ?_
  intro K ok
  replace ok : Ok Z K method_3_code "com/example/tickstep/tickstep/encoding/QrMatrixPlacePinLaw" "bit" 8 (some .boolean) := ok
  show Wp l ({ frames := 0, cells := 0, slots := 0, locals := 0 } : Room) n0 K (fun v h' => ∃ w, v = some w ∧ w = .int (own_bt ja jb jc dd kk) ∧ h = h') h 0 0 0 #[.val (.long ja), .second, .val (.long jb), .second, .val (.long jc), .second, .val (.int dd), .val (.int kk)] []
  refine w_iload ok dBt_0 rfl ?_
  refine w_bipush ok (z := 64) dBt_2 rfl ?_
  refine w_ic_ge ok dBt_4 (fun q1 => ?_) (fun q1 => ?_)
  · refine w_iload ok dBt_27 rfl ?_
    refine w_sipush ok (z := 128) dBt_29 rfl ?_
    refine w_ic_ge ok dBt_32 (fun q2 => ?_) (fun q2 => ?_)
    · refine w_iload ok dBt_55 rfl ?_
      refine w_sipush ok (z := 192) dBt_57 rfl ?_
      refine w_ic_ge ok dBt_60 (fun q3 => ?_) (fun q3 => ?_)
      · refine w_iload ok dBt_85 rfl ?_
        refine w_sipush ok (z := 223) dBt_87 rfl ?_
        refine w_iload ok dBt_90 rfl ?_
        refine w_isub ok dBt_92 ?_
        refine w_iushr ok dBt_93 ?_
        refine w_iconst ok (z := 1) dBt_94 rfl ?_
        refine w_iand ok dBt_95 ?_
        refine w_if_eq ok dBt_96 (fun p => ?_) (fun p => ?_)
        · refine w_iconst ok (z := 0) dBt_103 rfl ?_
          refine w_ireturnN ok (by simp) dBt_104 (Nat.le_of_ble_eq_true rfl) (Nat.le_of_ble_eq_true rfl) ?_
          exact ⟨_, rfl, by rw [own_bt, if_neg q1, if_neg q2, if_neg q3, if_pos p]; rfl, rfl⟩
        · refine w_iconst ok (z := 1) dBt_99 rfl ?_
          refine w_goto ok dBt_100 ?_
          refine w_ireturnN ok (by simp) dBt_104 (Nat.le_of_ble_eq_true rfl) (Nat.le_of_ble_eq_true rfl) ?_
          exact ⟨_, rfl, by rw [own_bt, if_neg q1, if_neg q2, if_neg q3, if_neg p]; rfl, rfl⟩
      · refine w_lload ok dBt_63 rfl ?_
        refine w_sipush ok (z := 191) dBt_65 rfl ?_
        refine w_iload ok dBt_68 rfl ?_
        refine w_isub ok dBt_70 ?_
        refine w_lushr ok dBt_71 ?_
        refine w_lconst ok (z := 1) dBt_72 rfl ?_
        refine w_land ok dBt_73 ?_
        refine w_lconst ok (z := 0) dBt_74 rfl ?_
        refine w_lc_eq ok dBt_75 dBt_76 (fun p => ?_) (fun p => ?_)
        · refine w_iconst ok (z := 0) dBt_83 rfl ?_
          refine w_ireturnN ok (by simp) dBt_84 (Nat.le_of_ble_eq_true rfl) (Nat.le_of_ble_eq_true rfl) ?_
          exact ⟨_, rfl, by rw [own_bt, if_neg q1, if_neg q2, if_pos q3, if_pos p]; rfl, rfl⟩
        · refine w_iconst ok (z := 1) dBt_79 rfl ?_
          refine w_goto ok dBt_80 ?_
          refine w_ireturnN ok (by simp) dBt_84 (Nat.le_of_ble_eq_true rfl) (Nat.le_of_ble_eq_true rfl) ?_
          exact ⟨_, rfl, by rw [own_bt, if_neg q1, if_neg q2, if_pos q3, if_neg p]; rfl, rfl⟩
    · refine w_lloadN ok dBt_35 rfl ?_
      refine w_bipush ok (z := 127) dBt_36 rfl ?_
      refine w_iload ok dBt_38 rfl ?_
      refine w_isub ok dBt_40 ?_
      refine w_lushr ok dBt_41 ?_
      refine w_lconst ok (z := 1) dBt_42 rfl ?_
      refine w_land ok dBt_43 ?_
      refine w_lconst ok (z := 0) dBt_44 rfl ?_
      refine w_lc_eq ok dBt_45 dBt_46 (fun p => ?_) (fun p => ?_)
      · refine w_iconst ok (z := 0) dBt_53 rfl ?_
        refine w_ireturnN ok (by simp) dBt_54 (Nat.le_of_ble_eq_true rfl) (Nat.le_of_ble_eq_true rfl) ?_
        exact ⟨_, rfl, by rw [own_bt, if_neg q1, if_pos q2, if_pos p]; rfl, rfl⟩
      · refine w_iconst ok (z := 1) dBt_49 rfl ?_
        refine w_goto ok dBt_50 ?_
        refine w_ireturnN ok (by simp) dBt_54 (Nat.le_of_ble_eq_true rfl) (Nat.le_of_ble_eq_true rfl) ?_
        exact ⟨_, rfl, by rw [own_bt, if_neg q1, if_pos q2, if_neg p]; rfl, rfl⟩
  · refine w_lloadN ok dBt_7 rfl ?_
    refine w_bipush ok (z := 63) dBt_8 rfl ?_
    refine w_iload ok dBt_10 rfl ?_
    refine w_isub ok dBt_12 ?_
    refine w_lushr ok dBt_13 ?_
    refine w_lconst ok (z := 1) dBt_14 rfl ?_
    refine w_land ok dBt_15 ?_
    refine w_lconst ok (z := 0) dBt_16 rfl ?_
    refine w_lc_eq ok dBt_17 dBt_18 (fun p => ?_) (fun p => ?_)
    · refine w_iconst ok (z := 0) dBt_25 rfl ?_
      refine w_ireturnN ok (by simp) dBt_26 (Nat.le_of_ble_eq_true rfl) (Nat.le_of_ble_eq_true rfl) ?_
      exact ⟨_, rfl, by rw [own_bt, if_pos q1, if_pos p]; rfl, rfl⟩
    · refine w_iconst ok (z := 1) dBt_21 rfl ?_
      refine w_goto ok dBt_22 ?_
      refine w_ireturnN ok (by simp) dBt_26 (Nat.le_of_ble_eq_true rfl) (Nat.le_of_ble_eq_true rfl) ?_
      exact ⟨_, rfl, by rw [own_bt, if_pos q1, if_neg p]; rfl, rfl⟩
theorem dPo_0 : Fet method_2_code 0 1 (.iload_n 0) 1 := ⟨by decide +kernel, rfl⟩
theorem dPo_1 : Fet method_2_code 1 3 (.bipush 96) 2 := ⟨by decide +kernel, rfl⟩
theorem dPo_3 : Brn method_2_code 3 6 56 (.if_icmp .ge 53) 53 := ⟨by decide +kernel, rfl, by decide, by decide⟩
theorem dPo_6 : Fet method_2_code 6 7 (.iload_n 0) 1 := ⟨by decide +kernel, rfl⟩
theorem dPo_7 : Fet method_2_code 7 9 (.bipush 24) 2 := ⟨by decide +kernel, rfl⟩
theorem dPo_9 : Fet method_2_code 9 10 (.idiv) 1 := ⟨by decide +kernel, rfl⟩
theorem dPo_10 : Fet method_2_code 10 11 (.istore_n 3) 1 := ⟨by decide +kernel, rfl⟩
theorem dPo_11 : Fet method_2_code 11 12 (.iload_n 0) 1 := ⟨by decide +kernel, rfl⟩
theorem dPo_12 : Fet method_2_code 12 14 (.bipush 24) 2 := ⟨by decide +kernel, rfl⟩
theorem dPo_14 : Fet method_2_code 14 15 (.irem) 1 := ⟨by decide +kernel, rfl⟩
theorem dPo_15 : Fet method_2_code 15 17 (.istore 4) 2 := ⟨by decide +kernel, rfl⟩
theorem dPo_17 : Fet method_2_code 17 19 (.bipush 20) 2 := ⟨by decide +kernel, rfl⟩
theorem dPo_19 : Fet method_2_code 19 20 (.iconst 2) 1 := ⟨by decide +kernel, rfl⟩
theorem dPo_20 : Fet method_2_code 20 21 (.iload_n 3) 1 := ⟨by decide +kernel, rfl⟩
theorem dPo_21 : Fet method_2_code 21 22 (.imul) 1 := ⟨by decide +kernel, rfl⟩
theorem dPo_22 : Fet method_2_code 22 23 (.isub) 1 := ⟨by decide +kernel, rfl⟩
theorem dPo_23 : Fet method_2_code 23 25 (.iload 4) 2 := ⟨by decide +kernel, rfl⟩
theorem dPo_25 : Fet method_2_code 25 26 (.iconst 2) 1 := ⟨by decide +kernel, rfl⟩
theorem dPo_26 : Fet method_2_code 26 27 (.irem) 1 := ⟨by decide +kernel, rfl⟩
theorem dPo_27 : Fet method_2_code 27 28 (.isub) 1 := ⟨by decide +kernel, rfl⟩
theorem dPo_28 : Fet method_2_code 28 29 (.istore_n 2) 1 := ⟨by decide +kernel, rfl⟩
theorem dPo_29 : Fet method_2_code 29 30 (.iload_n 3) 1 := ⟨by decide +kernel, rfl⟩
theorem dPo_30 : Fet method_2_code 30 31 (.iconst 2) 1 := ⟨by decide +kernel, rfl⟩
theorem dPo_31 : Fet method_2_code 31 32 (.irem) 1 := ⟨by decide +kernel, rfl⟩
theorem dPo_32 : Brn method_2_code 32 35 45 (.ifCond .ne 13) 13 := ⟨by decide +kernel, rfl, by decide, by decide⟩
theorem dPo_45 : Fet method_2_code 45 47 (.bipush 9) 2 := ⟨by decide +kernel, rfl⟩
theorem dPo_47 : Fet method_2_code 47 49 (.iload 4) 2 := ⟨by decide +kernel, rfl⟩
theorem dPo_49 : Fet method_2_code 49 50 (.iconst 2) 1 := ⟨by decide +kernel, rfl⟩
theorem dPo_50 : Fet method_2_code 50 51 (.idiv) 1 := ⟨by decide +kernel, rfl⟩
theorem dPo_51 : Fet method_2_code 51 52 (.iadd) 1 := ⟨by decide +kernel, rfl⟩
theorem dPo_52 : Fet method_2_code 52 53 (.istore_n 1) 1 := ⟨by decide +kernel, rfl⟩
theorem dPo_53 : Brn method_2_code 53 56 227 (.goto 174) 174 := ⟨by decide +kernel, rfl, by decide, by decide⟩
theorem dPo_227 : Fet method_2_code 227 228 (.iload_n 1) 1 := ⟨by decide +kernel, rfl⟩
theorem dPo_228 : Fet method_2_code 228 230 (.bipush 21) 2 := ⟨by decide +kernel, rfl⟩
theorem dPo_230 : Fet method_2_code 230 231 (.imul) 1 := ⟨by decide +kernel, rfl⟩
theorem dPo_231 : Fet method_2_code 231 232 (.iload_n 2) 1 := ⟨by decide +kernel, rfl⟩
theorem dPo_232 : Fet method_2_code 232 233 (.iadd) 1 := ⟨by decide +kernel, rfl⟩
theorem dPo_233 : Fet method_2_code 233 234 (.ireturn) 1 := ⟨by decide +kernel, rfl⟩
theorem dPo_35 : Fet method_2_code 35 37 (.bipush 20) 2 := ⟨by decide +kernel, rfl⟩
theorem dPo_37 : Fet method_2_code 37 39 (.iload 4) 2 := ⟨by decide +kernel, rfl⟩
theorem dPo_39 : Fet method_2_code 39 40 (.iconst 2) 1 := ⟨by decide +kernel, rfl⟩
theorem dPo_40 : Fet method_2_code 40 41 (.idiv) 1 := ⟨by decide +kernel, rfl⟩
theorem dPo_41 : Fet method_2_code 41 42 (.isub) 1 := ⟨by decide +kernel, rfl⟩
theorem dPo_42 : Brn method_2_code 42 45 52 (.goto 10) 10 := ⟨by decide +kernel, rfl, by decide, by decide⟩
theorem dPo_56 : Fet method_2_code 56 57 (.iload_n 0) 1 := ⟨by decide +kernel, rfl⟩
theorem dPo_57 : Fet method_2_code 57 60 (.sipush 176) 3 := ⟨by decide +kernel, rfl⟩
theorem dPo_60 : Brn method_2_code 60 63 146 (.if_icmp .ge 86) 86 := ⟨by decide +kernel, rfl, by decide, by decide⟩
theorem dPo_63 : Fet method_2_code 63 64 (.iload_n 0) 1 := ⟨by decide +kernel, rfl⟩
theorem dPo_64 : Fet method_2_code 64 66 (.bipush 96) 2 := ⟨by decide +kernel, rfl⟩
theorem dPo_66 : Fet method_2_code 66 67 (.isub) 1 := ⟨by decide +kernel, rfl⟩
theorem dPo_67 : Fet method_2_code 67 69 (.bipush 40) 2 := ⟨by decide +kernel, rfl⟩
theorem dPo_69 : Fet method_2_code 69 70 (.idiv) 1 := ⟨by decide +kernel, rfl⟩
theorem dPo_70 : Fet method_2_code 70 71 (.istore_n 3) 1 := ⟨by decide +kernel, rfl⟩
theorem dPo_71 : Fet method_2_code 71 72 (.iload_n 0) 1 := ⟨by decide +kernel, rfl⟩
theorem dPo_72 : Fet method_2_code 72 74 (.bipush 96) 2 := ⟨by decide +kernel, rfl⟩
theorem dPo_74 : Fet method_2_code 74 75 (.isub) 1 := ⟨by decide +kernel, rfl⟩
theorem dPo_75 : Fet method_2_code 75 77 (.bipush 40) 2 := ⟨by decide +kernel, rfl⟩
theorem dPo_77 : Fet method_2_code 77 78 (.irem) 1 := ⟨by decide +kernel, rfl⟩
theorem dPo_78 : Fet method_2_code 78 80 (.istore 4) 2 := ⟨by decide +kernel, rfl⟩
theorem dPo_80 : Fet method_2_code 80 82 (.iload 4) 2 := ⟨by decide +kernel, rfl⟩
theorem dPo_82 : Fet method_2_code 82 83 (.iconst 2) 1 := ⟨by decide +kernel, rfl⟩
theorem dPo_83 : Fet method_2_code 83 84 (.idiv) 1 := ⟨by decide +kernel, rfl⟩
theorem dPo_84 : Fet method_2_code 84 86 (.istore 5) 2 := ⟨by decide +kernel, rfl⟩
theorem dPo_86 : Fet method_2_code 86 88 (.bipush 12) 2 := ⟨by decide +kernel, rfl⟩
theorem dPo_88 : Fet method_2_code 88 89 (.iconst 2) 1 := ⟨by decide +kernel, rfl⟩
theorem dPo_89 : Fet method_2_code 89 90 (.iload_n 3) 1 := ⟨by decide +kernel, rfl⟩
theorem dPo_90 : Fet method_2_code 90 91 (.imul) 1 := ⟨by decide +kernel, rfl⟩
theorem dPo_91 : Fet method_2_code 91 92 (.isub) 1 := ⟨by decide +kernel, rfl⟩
theorem dPo_92 : Fet method_2_code 92 94 (.iload 4) 2 := ⟨by decide +kernel, rfl⟩
theorem dPo_94 : Fet method_2_code 94 95 (.iconst 2) 1 := ⟨by decide +kernel, rfl⟩
theorem dPo_95 : Fet method_2_code 95 96 (.irem) 1 := ⟨by decide +kernel, rfl⟩
theorem dPo_96 : Fet method_2_code 96 97 (.isub) 1 := ⟨by decide +kernel, rfl⟩
theorem dPo_97 : Fet method_2_code 97 98 (.istore_n 2) 1 := ⟨by decide +kernel, rfl⟩
theorem dPo_98 : Fet method_2_code 98 99 (.iload_n 3) 1 := ⟨by decide +kernel, rfl⟩
theorem dPo_99 : Brn method_2_code 99 102 126 (.ifCond .ne 27) 27 := ⟨by decide +kernel, rfl, by decide, by decide⟩
theorem dPo_102 : Fet method_2_code 102 104 (.iload 5) 2 := ⟨by decide +kernel, rfl⟩
theorem dPo_104 : Fet method_2_code 104 106 (.bipush 14) 2 := ⟨by decide +kernel, rfl⟩
theorem dPo_106 : Brn method_2_code 106 109 117 (.if_icmp .ge 11) 11 := ⟨by decide +kernel, rfl, by decide, by decide⟩
theorem dPo_117 : Fet method_2_code 117 119 (.bipush 19) 2 := ⟨by decide +kernel, rfl⟩
theorem dPo_119 : Fet method_2_code 119 121 (.iload 5) 2 := ⟨by decide +kernel, rfl⟩
theorem dPo_121 : Fet method_2_code 121 122 (.isub) 1 := ⟨by decide +kernel, rfl⟩
theorem dPo_122 : Fet method_2_code 122 123 (.istore_n 1) 1 := ⟨by decide +kernel, rfl⟩
theorem dPo_123 : Brn method_2_code 123 126 143 (.goto 20) 20 := ⟨by decide +kernel, rfl, by decide, by decide⟩
theorem dPo_143 : Brn method_2_code 143 146 227 (.goto 84) 84 := ⟨by decide +kernel, rfl, by decide, by decide⟩
theorem dPo_109 : Fet method_2_code 109 111 (.bipush 20) 2 := ⟨by decide +kernel, rfl⟩
theorem dPo_111 : Fet method_2_code 111 113 (.iload 5) 2 := ⟨by decide +kernel, rfl⟩
theorem dPo_113 : Fet method_2_code 113 114 (.isub) 1 := ⟨by decide +kernel, rfl⟩
theorem dPo_114 : Brn method_2_code 114 117 122 (.goto 8) 8 := ⟨by decide +kernel, rfl, by decide, by decide⟩
theorem dPo_126 : Fet method_2_code 126 128 (.iload 5) 2 := ⟨by decide +kernel, rfl⟩
theorem dPo_128 : Fet method_2_code 128 130 (.bipush 6) 2 := ⟨by decide +kernel, rfl⟩
theorem dPo_130 : Brn method_2_code 130 133 138 (.if_icmp .ge 8) 8 := ⟨by decide +kernel, rfl, by decide, by decide⟩
theorem dPo_138 : Fet method_2_code 138 140 (.iload 5) 2 := ⟨by decide +kernel, rfl⟩
theorem dPo_140 : Fet method_2_code 140 141 (.iconst 1) 1 := ⟨by decide +kernel, rfl⟩
theorem dPo_141 : Fet method_2_code 141 142 (.iadd) 1 := ⟨by decide +kernel, rfl⟩
theorem dPo_142 : Fet method_2_code 142 143 (.istore_n 1) 1 := ⟨by decide +kernel, rfl⟩
theorem dPo_133 : Fet method_2_code 133 135 (.iload 5) 2 := ⟨by decide +kernel, rfl⟩
theorem dPo_135 : Brn method_2_code 135 138 142 (.goto 7) 7 := ⟨by decide +kernel, rfl, by decide, by decide⟩
theorem dPo_146 : Fet method_2_code 146 147 (.iload_n 0) 1 := ⟨by decide +kernel, rfl⟩
theorem dPo_147 : Fet method_2_code 147 150 (.sipush 176) 3 := ⟨by decide +kernel, rfl⟩
theorem dPo_150 : Fet method_2_code 150 151 (.isub) 1 := ⟨by decide +kernel, rfl⟩
theorem dPo_151 : Fet method_2_code 151 153 (.bipush 8) 2 := ⟨by decide +kernel, rfl⟩
theorem dPo_153 : Fet method_2_code 153 154 (.idiv) 1 := ⟨by decide +kernel, rfl⟩
theorem dPo_154 : Fet method_2_code 154 155 (.istore_n 3) 1 := ⟨by decide +kernel, rfl⟩
theorem dPo_155 : Fet method_2_code 155 156 (.iload_n 0) 1 := ⟨by decide +kernel, rfl⟩
theorem dPo_156 : Fet method_2_code 156 159 (.sipush 176) 3 := ⟨by decide +kernel, rfl⟩
theorem dPo_159 : Fet method_2_code 159 160 (.isub) 1 := ⟨by decide +kernel, rfl⟩
theorem dPo_160 : Fet method_2_code 160 162 (.bipush 8) 2 := ⟨by decide +kernel, rfl⟩
theorem dPo_162 : Fet method_2_code 162 163 (.irem) 1 := ⟨by decide +kernel, rfl⟩
theorem dPo_163 : Fet method_2_code 163 165 (.istore 4) 2 := ⟨by decide +kernel, rfl⟩
theorem dPo_165 : Fet method_2_code 165 166 (.iload_n 3) 1 := ⟨by decide +kernel, rfl⟩
theorem dPo_193 : Fet method_2_code 193 195 (.istore 5) 2 := ⟨by decide +kernel, rfl⟩
theorem dPo_195 : Fet method_2_code 195 197 (.iload 5) 2 := ⟨by decide +kernel, rfl⟩
theorem dPo_197 : Fet method_2_code 197 199 (.iload 4) 2 := ⟨by decide +kernel, rfl⟩
theorem dPo_199 : Fet method_2_code 199 200 (.iconst 2) 1 := ⟨by decide +kernel, rfl⟩
theorem dPo_200 : Fet method_2_code 200 201 (.irem) 1 := ⟨by decide +kernel, rfl⟩
theorem dPo_201 : Fet method_2_code 201 202 (.isub) 1 := ⟨by decide +kernel, rfl⟩
theorem dPo_202 : Fet method_2_code 202 203 (.istore_n 2) 1 := ⟨by decide +kernel, rfl⟩
theorem dPo_203 : Fet method_2_code 203 204 (.iload_n 3) 1 := ⟨by decide +kernel, rfl⟩
theorem dPo_204 : Fet method_2_code 204 205 (.iconst 2) 1 := ⟨by decide +kernel, rfl⟩
theorem dPo_205 : Fet method_2_code 205 206 (.irem) 1 := ⟨by decide +kernel, rfl⟩
theorem dPo_206 : Brn method_2_code 206 209 219 (.ifCond .ne 13) 13 := ⟨by decide +kernel, rfl, by decide, by decide⟩
theorem dPo_219 : Fet method_2_code 219 221 (.bipush 9) 2 := ⟨by decide +kernel, rfl⟩
theorem dPo_221 : Fet method_2_code 221 223 (.iload 4) 2 := ⟨by decide +kernel, rfl⟩
theorem dPo_223 : Fet method_2_code 223 224 (.iconst 2) 1 := ⟨by decide +kernel, rfl⟩
theorem dPo_224 : Fet method_2_code 224 225 (.idiv) 1 := ⟨by decide +kernel, rfl⟩
theorem dPo_225 : Fet method_2_code 225 226 (.iadd) 1 := ⟨by decide +kernel, rfl⟩
theorem dPo_226 : Fet method_2_code 226 227 (.istore_n 1) 1 := ⟨by decide +kernel, rfl⟩
theorem dPo_209 : Fet method_2_code 209 211 (.bipush 12) 2 := ⟨by decide +kernel, rfl⟩
theorem dPo_211 : Fet method_2_code 211 213 (.iload 4) 2 := ⟨by decide +kernel, rfl⟩
theorem dPo_213 : Fet method_2_code 213 214 (.iconst 2) 1 := ⟨by decide +kernel, rfl⟩
theorem dPo_214 : Fet method_2_code 214 215 (.idiv) 1 := ⟨by decide +kernel, rfl⟩
theorem dPo_215 : Fet method_2_code 215 216 (.isub) 1 := ⟨by decide +kernel, rfl⟩
theorem dPo_216 : Brn method_2_code 216 219 226 (.goto 10) 10 := ⟨by decide +kernel, rfl, by decide, by decide⟩
theorem dPo_166 : Brn method_2_code 166 169 174 (.ifCond .ne 8) 8 := ⟨by decide +kernel, rfl, by decide, by decide⟩
theorem dPo_169 : Fet method_2_code 169 171 (.bipush 8) 2 := ⟨by decide +kernel, rfl⟩
theorem dPo_171 : Brn method_2_code 171 174 193 (.goto 22) 22 := ⟨by decide +kernel, rfl, by decide, by decide⟩
theorem dPo_174 : Fet method_2_code 174 175 (.iload_n 3) 1 := ⟨by decide +kernel, rfl⟩
theorem dPo_175 : Fet method_2_code 175 176 (.iconst 1) 1 := ⟨by decide +kernel, rfl⟩
theorem dPo_176 : Brn method_2_code 176 179 183 (.if_icmp .ne 7) 7 := ⟨by decide +kernel, rfl, by decide, by decide⟩
theorem dPo_179 : Fet method_2_code 179 180 (.iconst 5) 1 := ⟨by decide +kernel, rfl⟩
theorem dPo_180 : Brn method_2_code 180 183 193 (.goto 13) 13 := ⟨by decide +kernel, rfl, by decide, by decide⟩
theorem dPo_183 : Fet method_2_code 183 184 (.iload_n 3) 1 := ⟨by decide +kernel, rfl⟩
theorem dPo_184 : Fet method_2_code 184 185 (.iconst 2) 1 := ⟨by decide +kernel, rfl⟩
theorem dPo_185 : Brn method_2_code 185 188 192 (.if_icmp .ne 7) 7 := ⟨by decide +kernel, rfl, by decide, by decide⟩
theorem dPo_188 : Fet method_2_code 188 189 (.iconst 3) 1 := ⟨by decide +kernel, rfl⟩
theorem dPo_189 : Brn method_2_code 189 192 193 (.goto 4) 4 := ⟨by decide +kernel, rfl, by decide, by decide⟩
theorem dPo_192 : Fet method_2_code 192 193 (.iconst 1) 1 := ⟨by decide +kernel, rfl⟩
set_option maxRecDepth 65536 in
set_option maxHeartbeats 4000000 in
theorem rmPo (l : Launch) (Z : State) (a0 : Array Value) (hw : ∀ d ∈ tables_1, d.before a0 Z = true) (n0 : Nat) (kk : Int32) (h : Heap) :
    ConV l Z n0 (⟨"com/example/tickstep/tickstep/encoding/QrMatrixPlacePinLaw", "position", "(I)I"⟩ : MethodName) method_2_code 6 (some .int) [] ({ frames := 0, cells := 0, slots := 0, locals := 0 } : Room) #[(.int kk)] h (fun w h' => w = .int (own_pos kk) ∧ h = h') := by
  refine con_of_wp (Ls := #[.val (.int kk), .unset, .unset, .unset, .unset, .unset]) (plainFor_of_name pn_com_example_tickstep_tickstep_encoding_QrMatrixPlacePinLaw) (fun m => by first | (simp [entryFrame, mkF, argsToLocals, Value.category]; done) | rfl) ?_
  intro K ok
  replace ok : Ok Z K method_2_code "com/example/tickstep/tickstep/encoding/QrMatrixPlacePinLaw" "position" 6 (some .int) := ok
  show Wp l ({ frames := 0, cells := 0, slots := 0, locals := 0 } : Room) n0 K (fun v h' => ∃ w, v = some w ∧ w = .int (own_pos kk) ∧ h = h') h 0 0 0 #[.val (.int kk), .unset, .unset, .unset, .unset, .unset] []
  refine w_iloadN ok dPo_0 rfl ?_
  refine w_bipush ok (z := 96) dPo_1 rfl ?_
  refine w_ic_ge ok dPo_3 (fun q1 => ?_) (fun q1 => ?_)
  · refine w_iloadN ok dPo_56 rfl ?_
    refine w_sipush ok (z := 176) dPo_57 rfl ?_
    refine w_ic_ge ok dPo_60 (fun q2 => ?_) (fun q2 => ?_)
    · refine w_iloadN ok dPo_146 rfl ?_
      refine w_sipush ok (z := 176) dPo_147 rfl ?_
      refine w_isub ok dPo_150 ?_
      refine w_bipush ok (z := 8) dPo_151 rfl ?_
      refine w_idiv ok dPo_153 (by decide) ?_
      refine w_istoreN ok (Ls' := #[.val (.int kk), .unset, .unset, .val (.int ((kk - (176 : Int32)) / (8 : Int32))), .unset, .unset]) dPo_154 rfl ?_
      refine w_iloadN ok dPo_155 rfl ?_
      refine w_sipush ok (z := 176) dPo_156 rfl ?_
      refine w_isub ok dPo_159 ?_
      refine w_bipush ok (z := 8) dPo_160 rfl ?_
      refine w_irem ok dPo_162 (by decide) ?_
      refine w_istore ok (Ls' := #[.val (.int kk), .unset, .unset, .val (.int ((kk - (176 : Int32)) / (8 : Int32))), .val (.int ((kk - (176 : Int32)) % (8 : Int32))), .unset]) dPo_163 rfl ?_
      refine w_iloadN ok dPo_165 rfl ?_
      have J193 : ∀ (z : Int32) (hz : z = own_pb ((kk - 176) / 8)), Wp l ({ frames := 0, cells := 0, slots := 0, locals := 0 } : Room) n0 K (fun v h' => ∃ w, v = some w ∧ w = .int (own_pos kk) ∧ h = h') h 0 0 193 #[.val (.int kk), .unset, .unset, .val (.int ((kk - (176 : Int32)) / (8 : Int32))), .val (.int ((kk - (176 : Int32)) % (8 : Int32))), .unset] [(.int z)] := by
        intro z hz
        subst hz
        refine w_istore ok (Ls' := #[.val (.int kk), .unset, .unset, .val (.int ((kk - (176 : Int32)) / (8 : Int32))), .val (.int ((kk - (176 : Int32)) % (8 : Int32))), .val (.int (own_pb ((kk - 176) / 8)))]) dPo_193 rfl ?_
        refine w_iload ok dPo_195 rfl ?_
        refine w_iload ok dPo_197 rfl ?_
        refine w_iconst ok (z := 2) dPo_199 rfl ?_
        refine w_irem ok dPo_200 (by decide) ?_
        refine w_isub ok dPo_201 ?_
        refine w_istoreN ok (Ls' := #[.val (.int kk), .unset, .val (.int ((own_pb ((kk - 176) / 8)) - (((kk - (176 : Int32)) % (8 : Int32)) % (2 : Int32)))), .val (.int ((kk - (176 : Int32)) / (8 : Int32))), .val (.int ((kk - (176 : Int32)) % (8 : Int32))), .val (.int (own_pb ((kk - 176) / 8)))]) dPo_202 rfl ?_
        refine w_iloadN ok dPo_203 rfl ?_
        refine w_iconst ok (z := 2) dPo_204 rfl ?_
        refine w_irem ok dPo_205 (by decide) ?_
        refine w_if_ne ok dPo_206 (fun q3 => ?_) (fun q3 => ?_)
        · refine w_bipush ok (z := 9) dPo_219 rfl ?_
          refine w_iload ok dPo_221 rfl ?_
          refine w_iconst ok (z := 2) dPo_223 rfl ?_
          refine w_idiv ok dPo_224 (by decide) ?_
          refine w_iadd ok dPo_225 ?_
          refine w_istoreN ok (Ls' := #[.val (.int kk), .val (.int ((9 : Int32) + (((kk - (176 : Int32)) % (8 : Int32)) / (2 : Int32)))), .val (.int ((own_pb ((kk - 176) / 8)) - (((kk - (176 : Int32)) % (8 : Int32)) % (2 : Int32)))), .val (.int ((kk - (176 : Int32)) / (8 : Int32))), .val (.int ((kk - (176 : Int32)) % (8 : Int32))), .val (.int (own_pb ((kk - 176) / 8)))]) dPo_226 rfl ?_
          refine w_iloadN ok dPo_227 rfl ?_
          refine w_bipush ok (z := 21) dPo_228 rfl ?_
          refine w_imul ok dPo_230 ?_
          refine w_iloadN ok dPo_231 rfl ?_
          refine w_iadd ok dPo_232 ?_
          refine w_ireturnI ok dPo_233 (Nat.le_of_ble_eq_true rfl) (Nat.le_of_ble_eq_true rfl) ?_
          exact ⟨_, rfl, by simp only [own_pos, own_prow, own_pcol, if_neg q1, if_neg q2, if_neg q3], rfl⟩
        · refine w_bipush ok (z := 12) dPo_209 rfl ?_
          refine w_iload ok dPo_211 rfl ?_
          refine w_iconst ok (z := 2) dPo_213 rfl ?_
          refine w_idiv ok dPo_214 (by decide) ?_
          refine w_isub ok dPo_215 ?_
          refine w_goto ok dPo_216 ?_
          refine w_istoreN ok (Ls' := #[.val (.int kk), .val (.int ((12 : Int32) - (((kk - (176 : Int32)) % (8 : Int32)) / (2 : Int32)))), .val (.int ((own_pb ((kk - 176) / 8)) - (((kk - (176 : Int32)) % (8 : Int32)) % (2 : Int32)))), .val (.int ((kk - (176 : Int32)) / (8 : Int32))), .val (.int ((kk - (176 : Int32)) % (8 : Int32))), .val (.int (own_pb ((kk - 176) / 8)))]) dPo_226 rfl ?_
          refine w_iloadN ok dPo_227 rfl ?_
          refine w_bipush ok (z := 21) dPo_228 rfl ?_
          refine w_imul ok dPo_230 ?_
          refine w_iloadN ok dPo_231 rfl ?_
          refine w_iadd ok dPo_232 ?_
          refine w_ireturnI ok dPo_233 (Nat.le_of_ble_eq_true rfl) (Nat.le_of_ble_eq_true rfl) ?_
          exact ⟨_, rfl, by simp only [own_pos, own_prow, own_pcol, if_neg q1, if_neg q2, if_pos q3], rfl⟩
      refine w_if_ne ok dPo_166 (fun q4 => ?_) (fun q4 => ?_)
      · refine w_iloadN ok dPo_174 rfl ?_
        refine w_iconst ok (z := 1) dPo_175 rfl ?_
        refine w_ic_ne ok dPo_176 (fun q5 => ?_) (fun q5 => ?_)
        · refine w_iloadN ok dPo_183 rfl ?_
          refine w_iconst ok (z := 2) dPo_184 rfl ?_
          refine w_ic_ne ok dPo_185 (fun q6 => ?_) (fun q6 => ?_)
          · refine w_iconst ok (z := 1) dPo_192 rfl ?_
            exact J193 _ (by rw [own_pb, if_neg q4, if_neg q5, if_neg q6])
          · refine w_iconst ok (z := 3) dPo_188 rfl ?_
            refine w_goto ok dPo_189 ?_
            exact J193 _ (by rw [own_pb, if_neg q4, if_neg q5, if_pos q6])
        · refine w_iconst ok (z := 5) dPo_179 rfl ?_
          refine w_goto ok dPo_180 ?_
          exact J193 _ (by rw [own_pb, if_neg q4, if_pos q5])
      · refine w_bipush ok (z := 8) dPo_169 rfl ?_
        refine w_goto ok dPo_171 ?_
        exact J193 _ (by rw [own_pb, if_pos q4])
    · refine w_iloadN ok dPo_63 rfl ?_
      refine w_bipush ok (z := 96) dPo_64 rfl ?_
      refine w_isub ok dPo_66 ?_
      refine w_bipush ok (z := 40) dPo_67 rfl ?_
      refine w_idiv ok dPo_69 (by decide) ?_
      refine w_istoreN ok (Ls' := #[.val (.int kk), .unset, .unset, .val (.int ((kk - (96 : Int32)) / (40 : Int32))), .unset, .unset]) dPo_70 rfl ?_
      refine w_iloadN ok dPo_71 rfl ?_
      refine w_bipush ok (z := 96) dPo_72 rfl ?_
      refine w_isub ok dPo_74 ?_
      refine w_bipush ok (z := 40) dPo_75 rfl ?_
      refine w_irem ok dPo_77 (by decide) ?_
      refine w_istore ok (Ls' := #[.val (.int kk), .unset, .unset, .val (.int ((kk - (96 : Int32)) / (40 : Int32))), .val (.int ((kk - (96 : Int32)) % (40 : Int32))), .unset]) dPo_78 rfl ?_
      refine w_iload ok dPo_80 rfl ?_
      refine w_iconst ok (z := 2) dPo_82 rfl ?_
      refine w_idiv ok dPo_83 (by decide) ?_
      refine w_istore ok (Ls' := #[.val (.int kk), .unset, .unset, .val (.int ((kk - (96 : Int32)) / (40 : Int32))), .val (.int ((kk - (96 : Int32)) % (40 : Int32))), .val (.int (((kk - (96 : Int32)) % (40 : Int32)) / (2 : Int32)))]) dPo_84 rfl ?_
      refine w_bipush ok (z := 12) dPo_86 rfl ?_
      refine w_iconst ok (z := 2) dPo_88 rfl ?_
      refine w_iloadN ok dPo_89 rfl ?_
      refine w_imul ok dPo_90 ?_
      refine w_isub ok dPo_91 ?_
      refine w_iload ok dPo_92 rfl ?_
      refine w_iconst ok (z := 2) dPo_94 rfl ?_
      refine w_irem ok dPo_95 (by decide) ?_
      refine w_isub ok dPo_96 ?_
      refine w_istoreN ok (Ls' := #[.val (.int kk), .unset, .val (.int (((12 : Int32) - ((2 : Int32) * ((kk - (96 : Int32)) / (40 : Int32)))) - (((kk - (96 : Int32)) % (40 : Int32)) % (2 : Int32)))), .val (.int ((kk - (96 : Int32)) / (40 : Int32))), .val (.int ((kk - (96 : Int32)) % (40 : Int32))), .val (.int (((kk - (96 : Int32)) % (40 : Int32)) / (2 : Int32)))]) dPo_97 rfl ?_
      refine w_iloadN ok dPo_98 rfl ?_
      refine w_if_ne ok dPo_99 (fun q3 => ?_) (fun q3 => ?_)
      · refine w_iload ok dPo_126 rfl ?_
        refine w_bipush ok (z := 6) dPo_128 rfl ?_
        refine w_ic_ge ok dPo_130 (fun q4 => ?_) (fun q4 => ?_)
        · refine w_iload ok dPo_138 rfl ?_
          refine w_iconst ok (z := 1) dPo_140 rfl ?_
          refine w_iadd ok dPo_141 ?_
          refine w_istoreN ok (Ls' := #[.val (.int kk), .val (.int ((((kk - (96 : Int32)) % (40 : Int32)) / (2 : Int32)) + (1 : Int32))), .val (.int (((12 : Int32) - ((2 : Int32) * ((kk - (96 : Int32)) / (40 : Int32)))) - (((kk - (96 : Int32)) % (40 : Int32)) % (2 : Int32)))), .val (.int ((kk - (96 : Int32)) / (40 : Int32))), .val (.int ((kk - (96 : Int32)) % (40 : Int32))), .val (.int (((kk - (96 : Int32)) % (40 : Int32)) / (2 : Int32)))]) dPo_142 rfl ?_
          refine w_goto ok dPo_143 ?_
          refine w_iloadN ok dPo_227 rfl ?_
          refine w_bipush ok (z := 21) dPo_228 rfl ?_
          refine w_imul ok dPo_230 ?_
          refine w_iloadN ok dPo_231 rfl ?_
          refine w_iadd ok dPo_232 ?_
          refine w_ireturnI ok dPo_233 (Nat.le_of_ble_eq_true rfl) (Nat.le_of_ble_eq_true rfl) ?_
          exact ⟨_, rfl, by simp only [own_pos, own_prow, own_pcol, if_neg q1, if_pos q2, if_neg q3, if_neg q4], rfl⟩
        · refine w_iload ok dPo_133 rfl ?_
          refine w_goto ok dPo_135 ?_
          refine w_istoreN ok (Ls' := #[.val (.int kk), .val (.int (((kk - (96 : Int32)) % (40 : Int32)) / (2 : Int32))), .val (.int (((12 : Int32) - ((2 : Int32) * ((kk - (96 : Int32)) / (40 : Int32)))) - (((kk - (96 : Int32)) % (40 : Int32)) % (2 : Int32)))), .val (.int ((kk - (96 : Int32)) / (40 : Int32))), .val (.int ((kk - (96 : Int32)) % (40 : Int32))), .val (.int (((kk - (96 : Int32)) % (40 : Int32)) / (2 : Int32)))]) dPo_142 rfl ?_
          refine w_goto ok dPo_143 ?_
          refine w_iloadN ok dPo_227 rfl ?_
          refine w_bipush ok (z := 21) dPo_228 rfl ?_
          refine w_imul ok dPo_230 ?_
          refine w_iloadN ok dPo_231 rfl ?_
          refine w_iadd ok dPo_232 ?_
          refine w_ireturnI ok dPo_233 (Nat.le_of_ble_eq_true rfl) (Nat.le_of_ble_eq_true rfl) ?_
          exact ⟨_, rfl, by simp only [own_pos, own_prow, own_pcol, if_neg q1, if_pos q2, if_neg q3, if_pos q4], rfl⟩
      · refine w_iload ok dPo_102 rfl ?_
        refine w_bipush ok (z := 14) dPo_104 rfl ?_
        refine w_ic_ge ok dPo_106 (fun q4 => ?_) (fun q4 => ?_)
        · refine w_bipush ok (z := 19) dPo_117 rfl ?_
          refine w_iload ok dPo_119 rfl ?_
          refine w_isub ok dPo_121 ?_
          refine w_istoreN ok (Ls' := #[.val (.int kk), .val (.int ((19 : Int32) - (((kk - (96 : Int32)) % (40 : Int32)) / (2 : Int32)))), .val (.int (((12 : Int32) - ((2 : Int32) * ((kk - (96 : Int32)) / (40 : Int32)))) - (((kk - (96 : Int32)) % (40 : Int32)) % (2 : Int32)))), .val (.int ((kk - (96 : Int32)) / (40 : Int32))), .val (.int ((kk - (96 : Int32)) % (40 : Int32))), .val (.int (((kk - (96 : Int32)) % (40 : Int32)) / (2 : Int32)))]) dPo_122 rfl ?_
          refine w_goto ok dPo_123 ?_
          refine w_goto ok dPo_143 ?_
          refine w_iloadN ok dPo_227 rfl ?_
          refine w_bipush ok (z := 21) dPo_228 rfl ?_
          refine w_imul ok dPo_230 ?_
          refine w_iloadN ok dPo_231 rfl ?_
          refine w_iadd ok dPo_232 ?_
          refine w_ireturnI ok dPo_233 (Nat.le_of_ble_eq_true rfl) (Nat.le_of_ble_eq_true rfl) ?_
          exact ⟨_, rfl, by simp only [own_pos, own_prow, own_pcol, if_neg q1, if_pos q2, if_pos q3, if_neg q4], rfl⟩
        · refine w_bipush ok (z := 20) dPo_109 rfl ?_
          refine w_iload ok dPo_111 rfl ?_
          refine w_isub ok dPo_113 ?_
          refine w_goto ok dPo_114 ?_
          refine w_istoreN ok (Ls' := #[.val (.int kk), .val (.int ((20 : Int32) - (((kk - (96 : Int32)) % (40 : Int32)) / (2 : Int32)))), .val (.int (((12 : Int32) - ((2 : Int32) * ((kk - (96 : Int32)) / (40 : Int32)))) - (((kk - (96 : Int32)) % (40 : Int32)) % (2 : Int32)))), .val (.int ((kk - (96 : Int32)) / (40 : Int32))), .val (.int ((kk - (96 : Int32)) % (40 : Int32))), .val (.int (((kk - (96 : Int32)) % (40 : Int32)) / (2 : Int32)))]) dPo_122 rfl ?_
          refine w_goto ok dPo_123 ?_
          refine w_goto ok dPo_143 ?_
          refine w_iloadN ok dPo_227 rfl ?_
          refine w_bipush ok (z := 21) dPo_228 rfl ?_
          refine w_imul ok dPo_230 ?_
          refine w_iloadN ok dPo_231 rfl ?_
          refine w_iadd ok dPo_232 ?_
          refine w_ireturnI ok dPo_233 (Nat.le_of_ble_eq_true rfl) (Nat.le_of_ble_eq_true rfl) ?_
          exact ⟨_, rfl, by simp only [own_pos, own_prow, own_pcol, if_neg q1, if_pos q2, if_pos q3, if_pos q4], rfl⟩
  · refine w_iloadN ok dPo_6 rfl ?_
    refine w_bipush ok (z := 24) dPo_7 rfl ?_
    refine w_idiv ok dPo_9 (by decide) ?_
    refine w_istoreN ok (Ls' := #[.val (.int kk), .unset, .unset, .val (.int (kk / (24 : Int32))), .unset, .unset]) dPo_10 rfl ?_
    refine w_iloadN ok dPo_11 rfl ?_
    refine w_bipush ok (z := 24) dPo_12 rfl ?_
    refine w_irem ok dPo_14 (by decide) ?_
    refine w_istore ok (Ls' := #[.val (.int kk), .unset, .unset, .val (.int (kk / (24 : Int32))), .val (.int (kk % (24 : Int32))), .unset]) dPo_15 rfl ?_
    refine w_bipush ok (z := 20) dPo_17 rfl ?_
    refine w_iconst ok (z := 2) dPo_19 rfl ?_
    refine w_iloadN ok dPo_20 rfl ?_
    refine w_imul ok dPo_21 ?_
    refine w_isub ok dPo_22 ?_
    refine w_iload ok dPo_23 rfl ?_
    refine w_iconst ok (z := 2) dPo_25 rfl ?_
    refine w_irem ok dPo_26 (by decide) ?_
    refine w_isub ok dPo_27 ?_
    refine w_istoreN ok (Ls' := #[.val (.int kk), .unset, .val (.int (((20 : Int32) - ((2 : Int32) * (kk / (24 : Int32)))) - ((kk % (24 : Int32)) % (2 : Int32)))), .val (.int (kk / (24 : Int32))), .val (.int (kk % (24 : Int32))), .unset]) dPo_28 rfl ?_
    refine w_iloadN ok dPo_29 rfl ?_
    refine w_iconst ok (z := 2) dPo_30 rfl ?_
    refine w_irem ok dPo_31 (by decide) ?_
    refine w_if_ne ok dPo_32 (fun q2 => ?_) (fun q2 => ?_)
    · refine w_bipush ok (z := 9) dPo_45 rfl ?_
      refine w_iload ok dPo_47 rfl ?_
      refine w_iconst ok (z := 2) dPo_49 rfl ?_
      refine w_idiv ok dPo_50 (by decide) ?_
      refine w_iadd ok dPo_51 ?_
      refine w_istoreN ok (Ls' := #[.val (.int kk), .val (.int ((9 : Int32) + ((kk % (24 : Int32)) / (2 : Int32)))), .val (.int (((20 : Int32) - ((2 : Int32) * (kk / (24 : Int32)))) - ((kk % (24 : Int32)) % (2 : Int32)))), .val (.int (kk / (24 : Int32))), .val (.int (kk % (24 : Int32))), .unset]) dPo_52 rfl ?_
      refine w_goto ok dPo_53 ?_
      refine w_iloadN ok dPo_227 rfl ?_
      refine w_bipush ok (z := 21) dPo_228 rfl ?_
      refine w_imul ok dPo_230 ?_
      refine w_iloadN ok dPo_231 rfl ?_
      refine w_iadd ok dPo_232 ?_
      refine w_ireturnI ok dPo_233 (Nat.le_of_ble_eq_true rfl) (Nat.le_of_ble_eq_true rfl) ?_
      exact ⟨_, rfl, by simp only [own_pos, own_prow, own_pcol, if_pos q1, if_neg q2], rfl⟩
    · refine w_bipush ok (z := 20) dPo_35 rfl ?_
      refine w_iload ok dPo_37 rfl ?_
      refine w_iconst ok (z := 2) dPo_39 rfl ?_
      refine w_idiv ok dPo_40 (by decide) ?_
      refine w_isub ok dPo_41 ?_
      refine w_goto ok dPo_42 ?_
      refine w_istoreN ok (Ls' := #[.val (.int kk), .val (.int ((20 : Int32) - ((kk % (24 : Int32)) / (2 : Int32)))), .val (.int (((20 : Int32) - ((2 : Int32) * (kk / (24 : Int32)))) - ((kk % (24 : Int32)) % (2 : Int32)))), .val (.int (kk / (24 : Int32))), .val (.int (kk % (24 : Int32))), .unset]) dPo_52 rfl ?_
      refine w_goto ok dPo_53 ?_
      refine w_iloadN ok dPo_227 rfl ?_
      refine w_bipush ok (z := 21) dPo_228 rfl ?_
      refine w_imul ok dPo_230 ?_
      refine w_iloadN ok dPo_231 rfl ?_
      refine w_iadd ok dPo_232 ?_
      refine w_ireturnI ok dPo_233 (Nat.le_of_ble_eq_true rfl) (Nat.le_of_ble_eq_true rfl) ?_
      exact ⟨_, rfl, by simp only [own_pos, own_prow, own_pcol, if_pos q1, if_pos q2], rfl⟩
theorem d0_0 : Fet code 0 2 (.iload 6) 2 := ⟨by decide +kernel, rfl⟩
theorem d0_2 : Fet code 2 3 (.iconst 1) 1 := ⟨by decide +kernel, rfl⟩
theorem d0_3 : Fet code 3 4 (.iand) 1 := ⟨by decide +kernel, rfl⟩
theorem d0_4 : Brn code 4 7 11 (.ifCond .eq 7) 7 := ⟨by decide +kernel, rfl, by decide, by decide⟩
theorem d0_11 : Fet code 11 12 (.iconst 0) 1 := ⟨by decide +kernel, rfl⟩
theorem d0_12 : Fet code 12 14 (.istore 8) 2 := ⟨by decide +kernel, rfl⟩
theorem d0_14 : Fet code 14 16 (.iload 8) 2 := ⟨by decide +kernel, rfl⟩
theorem d0_16 : Brn code 16 19 26 (.ifCond .eq 10) 10 := ⟨by decide +kernel, rfl, by decide, by decide⟩
theorem d0_26 : Fet code 26 28 (.bipush 8) 2 := ⟨by decide +kernel, rfl⟩
theorem d0_28 : Fet code 28 30 (.newarray .byte) 2 := ⟨by decide +kernel, rfl⟩
theorem d0_30 : Fet code 30 32 (.astore 9) 2 := ⟨by decide +kernel, rfl⟩
theorem d0_32 : Fet code 32 34 (.aload 9) 2 := ⟨by decide +kernel, rfl⟩
theorem d0_34 : Fet code 34 35 (.iconst 0) 1 := ⟨by decide +kernel, rfl⟩
theorem d0_35 : Fet code 35 36 (.lload_n 0) 1 := ⟨by decide +kernel, rfl⟩
theorem d0_36 : Fet code 36 38 (.bipush 56) 2 := ⟨by decide +kernel, rfl⟩
theorem d0_38 : Fet code 38 39 (.lushr) 1 := ⟨by decide +kernel, rfl⟩
theorem d0_39 : Fet code 39 40 (.l2i) 1 := ⟨by decide +kernel, rfl⟩
theorem d0_40 : Fet code 40 41 (.i2b) 1 := ⟨by decide +kernel, rfl⟩
theorem d0_41 : Fet code 41 42 (.bastore) 1 := ⟨by decide +kernel, rfl⟩
theorem d0_42 : Fet code 42 44 (.aload 9) 2 := ⟨by decide +kernel, rfl⟩
theorem d0_44 : Fet code 44 45 (.iconst 1) 1 := ⟨by decide +kernel, rfl⟩
theorem d0_45 : Fet code 45 46 (.lload_n 0) 1 := ⟨by decide +kernel, rfl⟩
theorem d0_46 : Fet code 46 48 (.bipush 48) 2 := ⟨by decide +kernel, rfl⟩
theorem d0_48 : Fet code 48 49 (.lushr) 1 := ⟨by decide +kernel, rfl⟩
theorem d0_49 : Fet code 49 50 (.l2i) 1 := ⟨by decide +kernel, rfl⟩
theorem d0_50 : Fet code 50 51 (.i2b) 1 := ⟨by decide +kernel, rfl⟩
theorem d0_51 : Fet code 51 52 (.bastore) 1 := ⟨by decide +kernel, rfl⟩
theorem d0_52 : Fet code 52 54 (.aload 9) 2 := ⟨by decide +kernel, rfl⟩
theorem d0_54 : Fet code 54 55 (.iconst 2) 1 := ⟨by decide +kernel, rfl⟩
theorem d0_55 : Fet code 55 56 (.lload_n 0) 1 := ⟨by decide +kernel, rfl⟩
theorem d0_56 : Fet code 56 58 (.bipush 40) 2 := ⟨by decide +kernel, rfl⟩
theorem d0_58 : Fet code 58 59 (.lushr) 1 := ⟨by decide +kernel, rfl⟩
theorem d0_59 : Fet code 59 60 (.l2i) 1 := ⟨by decide +kernel, rfl⟩
theorem d0_60 : Fet code 60 61 (.i2b) 1 := ⟨by decide +kernel, rfl⟩
theorem d0_61 : Fet code 61 62 (.bastore) 1 := ⟨by decide +kernel, rfl⟩
theorem d0_62 : Fet code 62 64 (.aload 9) 2 := ⟨by decide +kernel, rfl⟩
theorem d0_64 : Fet code 64 65 (.iconst 3) 1 := ⟨by decide +kernel, rfl⟩
theorem d0_65 : Fet code 65 66 (.lload_n 0) 1 := ⟨by decide +kernel, rfl⟩
theorem d0_66 : Fet code 66 68 (.bipush 32) 2 := ⟨by decide +kernel, rfl⟩
theorem d0_68 : Fet code 68 69 (.lushr) 1 := ⟨by decide +kernel, rfl⟩
theorem d0_69 : Fet code 69 70 (.l2i) 1 := ⟨by decide +kernel, rfl⟩
theorem d0_70 : Fet code 70 71 (.i2b) 1 := ⟨by decide +kernel, rfl⟩
theorem d0_71 : Fet code 71 72 (.bastore) 1 := ⟨by decide +kernel, rfl⟩
theorem d0_72 : Fet code 72 74 (.aload 9) 2 := ⟨by decide +kernel, rfl⟩
theorem d0_74 : Fet code 74 75 (.iconst 4) 1 := ⟨by decide +kernel, rfl⟩
theorem d0_75 : Fet code 75 76 (.lload_n 0) 1 := ⟨by decide +kernel, rfl⟩
theorem d0_76 : Fet code 76 78 (.bipush 24) 2 := ⟨by decide +kernel, rfl⟩
theorem d0_78 : Fet code 78 79 (.lushr) 1 := ⟨by decide +kernel, rfl⟩
theorem d0_79 : Fet code 79 80 (.l2i) 1 := ⟨by decide +kernel, rfl⟩
theorem d0_80 : Fet code 80 81 (.i2b) 1 := ⟨by decide +kernel, rfl⟩
theorem d0_81 : Fet code 81 82 (.bastore) 1 := ⟨by decide +kernel, rfl⟩
theorem d0_82 : Fet code 82 84 (.aload 9) 2 := ⟨by decide +kernel, rfl⟩
theorem d0_84 : Fet code 84 85 (.iconst 5) 1 := ⟨by decide +kernel, rfl⟩
theorem d0_85 : Fet code 85 86 (.lload_n 0) 1 := ⟨by decide +kernel, rfl⟩
theorem d0_86 : Fet code 86 88 (.bipush 16) 2 := ⟨by decide +kernel, rfl⟩
theorem d0_88 : Fet code 88 89 (.lushr) 1 := ⟨by decide +kernel, rfl⟩
theorem d0_89 : Fet code 89 90 (.l2i) 1 := ⟨by decide +kernel, rfl⟩
theorem d0_90 : Fet code 90 91 (.i2b) 1 := ⟨by decide +kernel, rfl⟩
theorem d0_91 : Fet code 91 92 (.bastore) 1 := ⟨by decide +kernel, rfl⟩
theorem d0_92 : Fet code 92 94 (.aload 9) 2 := ⟨by decide +kernel, rfl⟩
theorem d0_94 : Fet code 94 96 (.bipush 6) 2 := ⟨by decide +kernel, rfl⟩
theorem d0_96 : Fet code 96 97 (.lload_n 0) 1 := ⟨by decide +kernel, rfl⟩
theorem d0_97 : Fet code 97 99 (.bipush 8) 2 := ⟨by decide +kernel, rfl⟩
theorem d0_99 : Fet code 99 100 (.lushr) 1 := ⟨by decide +kernel, rfl⟩
theorem d0_100 : Fet code 100 101 (.l2i) 1 := ⟨by decide +kernel, rfl⟩
theorem d0_101 : Fet code 101 102 (.i2b) 1 := ⟨by decide +kernel, rfl⟩
theorem d0_102 : Fet code 102 103 (.bastore) 1 := ⟨by decide +kernel, rfl⟩
theorem d0_103 : Fet code 103 105 (.aload 9) 2 := ⟨by decide +kernel, rfl⟩
theorem d0_105 : Fet code 105 107 (.bipush 7) 2 := ⟨by decide +kernel, rfl⟩
theorem d0_107 : Fet code 107 108 (.lload_n 0) 1 := ⟨by decide +kernel, rfl⟩
theorem d0_108 : Fet code 108 109 (.l2i) 1 := ⟨by decide +kernel, rfl⟩
theorem d0_109 : Fet code 109 110 (.i2b) 1 := ⟨by decide +kernel, rfl⟩
theorem d0_110 : Fet code 110 111 (.bastore) 1 := ⟨by decide +kernel, rfl⟩
theorem d0_111 : Fet code 111 113 (.iload 8) 2 := ⟨by decide +kernel, rfl⟩
theorem d0_113 : Brn code 113 116 316 (.ifCond .eq 203) 203 := ⟨by decide +kernel, rfl, by decide, by decide⟩
theorem d0_316 : Fet code 316 318 (.iload 7) 2 := ⟨by decide +kernel, rfl⟩
theorem d0_318 : Fet code 318 320 (.ldc 7) 2 := ⟨by decide +kernel, rfl⟩
theorem d0_320 : Fet code 320 321 (.iand) 1 := ⟨by decide +kernel, rfl⟩
theorem d0_321 : Fet code 321 324 (.sipush 208) 3 := ⟨by decide +kernel, rfl⟩
theorem d0_324 : Fet code 324 325 (.irem) 1 := ⟨by decide +kernel, rfl⟩
theorem d0_325 : Fet code 325 327 (.istore 10) 2 := ⟨by decide +kernel, rfl⟩
theorem d0_327 : Fet code 327 330 (.new 8) 3 := ⟨by decide +kernel, rfl⟩
theorem d0_330 : Fet code 330 331 (.dup) 1 := ⟨by decide +kernel, rfl⟩
theorem d0_331 : Fet code 331 332 (.iconst 1) 1 := ⟨by decide +kernel, rfl⟩
theorem d0_332 : Fet code 332 335 (.invokespecial 10) 3 := ⟨by decide +kernel, rfl⟩
theorem pd__I_V : parseMethodDescriptor "(I)V" = some ⟨[.int], none⟩ := by decide +kernel
theorem d0_335 : Fet code 335 337 (.astore 11) 2 := ⟨by decide +kernel, rfl⟩
theorem d0_337 : Fet code 337 339 (.aload 11) 2 := ⟨by decide +kernel, rfl⟩
theorem d0_339 : Fet code 339 341 (.aload 9) 2 := ⟨by decide +kernel, rfl⟩
theorem d0_341 : Fet code 341 344 (.invokevirtual 13) 3 := ⟨by decide +kernel, rfl⟩
theorem pd__ArB_V : parseMethodDescriptor "([B)V" = some ⟨[(.array .byte)], none⟩ := by decide +kernel
theorem d0_344 : Fet code 344 346 (.aload 11) 2 := ⟨by decide +kernel, rfl⟩
theorem d0_346 : Fet code 346 349 (.invokevirtual 17) 3 := ⟨by decide +kernel, rfl⟩
theorem pd___ArZ : parseMethodDescriptor "()[Z" = some ⟨[], some (.array .boolean)⟩ := by decide +kernel
theorem d0_349 : Fet code 349 351 (.astore 12) 2 := ⟨by decide +kernel, rfl⟩
theorem d0_351 : Fet code 351 353 (.aload 12) 2 := ⟨by decide +kernel, rfl⟩
theorem d0_353 : Fet code 353 354 (.arraylength) 1 := ⟨by decide +kernel, rfl⟩
theorem d0_354 : Fet code 354 357 (.sipush 441) 3 := ⟨by decide +kernel, rfl⟩
theorem d0_357 : Brn code 357 360 362 (.if_icmp .eq 5) 5 := ⟨by decide +kernel, rfl, by decide, by decide⟩
theorem d0_393 : Fet code 393 395 (.istore 13) 2 := ⟨by decide +kernel, rfl⟩
theorem d0_395 : Fet code 395 397 (.aload 12) 2 := ⟨by decide +kernel, rfl⟩
theorem d0_397 : Fet code 397 399 (.iload 10) 2 := ⟨by decide +kernel, rfl⟩
theorem d0_399 : Fet code 399 402 (.invokestatic 27) 3 := ⟨by decide +kernel, rfl⟩
theorem d0_402 : Fet code 402 403 (.baload) 1 := ⟨by decide +kernel, rfl⟩
theorem d0_403 : Fet code 403 405 (.iload 13) 2 := ⟨by decide +kernel, rfl⟩
theorem d0_405 : Brn code 405 408 438 (.if_icmp .ne 33) 33 := ⟨by decide +kernel, rfl, by decide, by decide⟩
theorem d0_408 : Fet code 408 410 (.aload 12) 2 := ⟨by decide +kernel, rfl⟩
theorem d0_410 : Fet code 410 413 (.sipush 281) 3 := ⟨by decide +kernel, rfl⟩
theorem d0_413 : Fet code 413 414 (.baload) 1 := ⟨by decide +kernel, rfl⟩
theorem d0_414 : Brn code 414 417 438 (.ifCond .eq 24) 24 := ⟨by decide +kernel, rfl, by decide, by decide⟩
theorem d0_417 : Fet code 417 419 (.aload 12) 2 := ⟨by decide +kernel, rfl⟩
theorem d0_419 : Fet code 419 422 (.sipush 138) 3 := ⟨by decide +kernel, rfl⟩
theorem d0_422 : Fet code 422 423 (.baload) 1 := ⟨by decide +kernel, rfl⟩
theorem d0_423 : Brn code 423 426 438 (.ifCond .eq 15) 15 := ⟨by decide +kernel, rfl, by decide, by decide⟩
theorem d0_426 : Fet code 426 428 (.aload 12) 2 := ⟨by decide +kernel, rfl⟩
theorem d0_428 : Fet code 428 430 (.bipush 20) 2 := ⟨by decide +kernel, rfl⟩
theorem d0_430 : Fet code 430 431 (.baload) 1 := ⟨by decide +kernel, rfl⟩
theorem d0_431 : Brn code 431 434 438 (.ifCond .eq 7) 7 := ⟨by decide +kernel, rfl, by decide, by decide⟩
theorem d0_434 : Fet code 434 435 (.iconst 1) 1 := ⟨by decide +kernel, rfl⟩
theorem d0_435 : Brn code 435 438 439 (.goto 4) 4 := ⟨by decide +kernel, rfl, by decide, by decide⟩
theorem d0_439 : Fet code 439 440 (.ireturn) 1 := ⟨by decide +kernel, rfl⟩
theorem d0_362 : Fet code 362 364 (.iload 8) 2 := ⟨by decide +kernel, rfl⟩
theorem d0_364 : Brn code 364 367 374 (.ifCond .ne 10) 10 := ⟨by decide +kernel, rfl, by decide, by decide⟩
theorem d0_367 : Fet code 367 369 (.iload 10) 2 := ⟨by decide +kernel, rfl⟩
theorem d0_369 : Fet code 369 371 (.bipush 64) 2 := ⟨by decide +kernel, rfl⟩
theorem d0_371 : Brn code 371 374 392 (.if_icmp .ge 21) 21 := ⟨by decide +kernel, rfl, by decide, by decide⟩
theorem d0_392 : Fet code 392 393 (.iconst 0) 1 := ⟨by decide +kernel, rfl⟩
theorem d0_374 : Fet code 374 375 (.lload_n 0) 1 := ⟨by decide +kernel, rfl⟩
theorem d0_375 : Fet code 375 376 (.lload_n 2) 1 := ⟨by decide +kernel, rfl⟩
theorem d0_376 : Fet code 376 378 (.lload 4) 2 := ⟨by decide +kernel, rfl⟩
theorem d0_378 : Fet code 378 380 (.iload 6) 2 := ⟨by decide +kernel, rfl⟩
theorem d0_380 : Fet code 380 382 (.iload 10) 2 := ⟨by decide +kernel, rfl⟩
theorem d0_382 : Fet code 382 385 (.invokestatic 21) 3 := ⟨by decide +kernel, rfl⟩
theorem pd__JJJII_Z : parseMethodDescriptor "(JJJII)Z" = some ⟨[.long, .long, .long, .int, .int], some .boolean⟩ := by decide +kernel
theorem d0_385 : Brn code 385 388 392 (.ifCond .eq 7) 7 := ⟨by decide +kernel, rfl, by decide, by decide⟩
theorem d0_388 : Fet code 388 389 (.iconst 1) 1 := ⟨by decide +kernel, rfl⟩
theorem d0_389 : Brn code 389 392 393 (.goto 4) 4 := ⟨by decide +kernel, rfl, by decide, by decide⟩
theorem d0_7 : Fet code 7 8 (.iconst 1) 1 := ⟨by decide +kernel, rfl⟩
theorem d0_8 : Brn code 8 11 12 (.goto 4) 4 := ⟨by decide +kernel, rfl, by decide, by decide⟩
theorem d0_19 : Fet code 19 21 (.bipush 26) 2 := ⟨by decide +kernel, rfl⟩
theorem d0_21 : Fet code 21 23 (.newarray .byte) 2 := ⟨by decide +kernel, rfl⟩
theorem d0_23 : Brn code 23 26 30 (.goto 7) 7 := ⟨by decide +kernel, rfl, by decide, by decide⟩
theorem d0_116 : Fet code 116 118 (.aload 9) 2 := ⟨by decide +kernel, rfl⟩
theorem d0_118 : Fet code 118 120 (.bipush 8) 2 := ⟨by decide +kernel, rfl⟩
theorem d0_120 : Fet code 120 121 (.lload_n 2) 1 := ⟨by decide +kernel, rfl⟩
theorem d0_121 : Fet code 121 123 (.bipush 56) 2 := ⟨by decide +kernel, rfl⟩
theorem d0_123 : Fet code 123 124 (.lushr) 1 := ⟨by decide +kernel, rfl⟩
theorem d0_124 : Fet code 124 125 (.l2i) 1 := ⟨by decide +kernel, rfl⟩
theorem d0_125 : Fet code 125 126 (.i2b) 1 := ⟨by decide +kernel, rfl⟩
theorem d0_126 : Fet code 126 127 (.bastore) 1 := ⟨by decide +kernel, rfl⟩
theorem d0_127 : Fet code 127 129 (.aload 9) 2 := ⟨by decide +kernel, rfl⟩
theorem d0_129 : Fet code 129 131 (.bipush 9) 2 := ⟨by decide +kernel, rfl⟩
theorem d0_131 : Fet code 131 132 (.lload_n 2) 1 := ⟨by decide +kernel, rfl⟩
theorem d0_132 : Fet code 132 134 (.bipush 48) 2 := ⟨by decide +kernel, rfl⟩
theorem d0_134 : Fet code 134 135 (.lushr) 1 := ⟨by decide +kernel, rfl⟩
theorem d0_135 : Fet code 135 136 (.l2i) 1 := ⟨by decide +kernel, rfl⟩
theorem d0_136 : Fet code 136 137 (.i2b) 1 := ⟨by decide +kernel, rfl⟩
theorem d0_137 : Fet code 137 138 (.bastore) 1 := ⟨by decide +kernel, rfl⟩
theorem d0_138 : Fet code 138 140 (.aload 9) 2 := ⟨by decide +kernel, rfl⟩
theorem d0_140 : Fet code 140 142 (.bipush 10) 2 := ⟨by decide +kernel, rfl⟩
theorem d0_142 : Fet code 142 143 (.lload_n 2) 1 := ⟨by decide +kernel, rfl⟩
theorem d0_143 : Fet code 143 145 (.bipush 40) 2 := ⟨by decide +kernel, rfl⟩
theorem d0_145 : Fet code 145 146 (.lushr) 1 := ⟨by decide +kernel, rfl⟩
theorem d0_146 : Fet code 146 147 (.l2i) 1 := ⟨by decide +kernel, rfl⟩
theorem d0_147 : Fet code 147 148 (.i2b) 1 := ⟨by decide +kernel, rfl⟩
theorem d0_148 : Fet code 148 149 (.bastore) 1 := ⟨by decide +kernel, rfl⟩
theorem d0_149 : Fet code 149 151 (.aload 9) 2 := ⟨by decide +kernel, rfl⟩
theorem d0_151 : Fet code 151 153 (.bipush 11) 2 := ⟨by decide +kernel, rfl⟩
theorem d0_153 : Fet code 153 154 (.lload_n 2) 1 := ⟨by decide +kernel, rfl⟩
theorem d0_154 : Fet code 154 156 (.bipush 32) 2 := ⟨by decide +kernel, rfl⟩
theorem d0_156 : Fet code 156 157 (.lushr) 1 := ⟨by decide +kernel, rfl⟩
theorem d0_157 : Fet code 157 158 (.l2i) 1 := ⟨by decide +kernel, rfl⟩
theorem d0_158 : Fet code 158 159 (.i2b) 1 := ⟨by decide +kernel, rfl⟩
theorem d0_159 : Fet code 159 160 (.bastore) 1 := ⟨by decide +kernel, rfl⟩
theorem d0_160 : Fet code 160 162 (.aload 9) 2 := ⟨by decide +kernel, rfl⟩
theorem d0_162 : Fet code 162 164 (.bipush 12) 2 := ⟨by decide +kernel, rfl⟩
theorem d0_164 : Fet code 164 165 (.lload_n 2) 1 := ⟨by decide +kernel, rfl⟩
theorem d0_165 : Fet code 165 167 (.bipush 24) 2 := ⟨by decide +kernel, rfl⟩
theorem d0_167 : Fet code 167 168 (.lushr) 1 := ⟨by decide +kernel, rfl⟩
theorem d0_168 : Fet code 168 169 (.l2i) 1 := ⟨by decide +kernel, rfl⟩
theorem d0_169 : Fet code 169 170 (.i2b) 1 := ⟨by decide +kernel, rfl⟩
theorem d0_170 : Fet code 170 171 (.bastore) 1 := ⟨by decide +kernel, rfl⟩
theorem d0_171 : Fet code 171 173 (.aload 9) 2 := ⟨by decide +kernel, rfl⟩
theorem d0_173 : Fet code 173 175 (.bipush 13) 2 := ⟨by decide +kernel, rfl⟩
theorem d0_175 : Fet code 175 176 (.lload_n 2) 1 := ⟨by decide +kernel, rfl⟩
theorem d0_176 : Fet code 176 178 (.bipush 16) 2 := ⟨by decide +kernel, rfl⟩
theorem d0_178 : Fet code 178 179 (.lushr) 1 := ⟨by decide +kernel, rfl⟩
theorem d0_179 : Fet code 179 180 (.l2i) 1 := ⟨by decide +kernel, rfl⟩
theorem d0_180 : Fet code 180 181 (.i2b) 1 := ⟨by decide +kernel, rfl⟩
theorem d0_181 : Fet code 181 182 (.bastore) 1 := ⟨by decide +kernel, rfl⟩
theorem d0_182 : Fet code 182 184 (.aload 9) 2 := ⟨by decide +kernel, rfl⟩
theorem d0_184 : Fet code 184 186 (.bipush 14) 2 := ⟨by decide +kernel, rfl⟩
theorem d0_186 : Fet code 186 187 (.lload_n 2) 1 := ⟨by decide +kernel, rfl⟩
theorem d0_187 : Fet code 187 189 (.bipush 8) 2 := ⟨by decide +kernel, rfl⟩
theorem d0_189 : Fet code 189 190 (.lushr) 1 := ⟨by decide +kernel, rfl⟩
theorem d0_190 : Fet code 190 191 (.l2i) 1 := ⟨by decide +kernel, rfl⟩
theorem d0_191 : Fet code 191 192 (.i2b) 1 := ⟨by decide +kernel, rfl⟩
theorem d0_192 : Fet code 192 193 (.bastore) 1 := ⟨by decide +kernel, rfl⟩
theorem d0_193 : Fet code 193 195 (.aload 9) 2 := ⟨by decide +kernel, rfl⟩
theorem d0_195 : Fet code 195 197 (.bipush 15) 2 := ⟨by decide +kernel, rfl⟩
theorem d0_197 : Fet code 197 198 (.lload_n 2) 1 := ⟨by decide +kernel, rfl⟩
theorem d0_198 : Fet code 198 199 (.l2i) 1 := ⟨by decide +kernel, rfl⟩
theorem d0_199 : Fet code 199 200 (.i2b) 1 := ⟨by decide +kernel, rfl⟩
theorem d0_200 : Fet code 200 201 (.bastore) 1 := ⟨by decide +kernel, rfl⟩
theorem d0_201 : Fet code 201 203 (.aload 9) 2 := ⟨by decide +kernel, rfl⟩
theorem d0_203 : Fet code 203 205 (.bipush 16) 2 := ⟨by decide +kernel, rfl⟩
theorem d0_205 : Fet code 205 207 (.lload 4) 2 := ⟨by decide +kernel, rfl⟩
theorem d0_207 : Fet code 207 209 (.bipush 56) 2 := ⟨by decide +kernel, rfl⟩
theorem d0_209 : Fet code 209 210 (.lushr) 1 := ⟨by decide +kernel, rfl⟩
theorem d0_210 : Fet code 210 211 (.l2i) 1 := ⟨by decide +kernel, rfl⟩
theorem d0_211 : Fet code 211 212 (.i2b) 1 := ⟨by decide +kernel, rfl⟩
theorem d0_212 : Fet code 212 213 (.bastore) 1 := ⟨by decide +kernel, rfl⟩
theorem d0_213 : Fet code 213 215 (.aload 9) 2 := ⟨by decide +kernel, rfl⟩
theorem d0_215 : Fet code 215 217 (.bipush 17) 2 := ⟨by decide +kernel, rfl⟩
theorem d0_217 : Fet code 217 219 (.lload 4) 2 := ⟨by decide +kernel, rfl⟩
theorem d0_219 : Fet code 219 221 (.bipush 48) 2 := ⟨by decide +kernel, rfl⟩
theorem d0_221 : Fet code 221 222 (.lushr) 1 := ⟨by decide +kernel, rfl⟩
theorem d0_222 : Fet code 222 223 (.l2i) 1 := ⟨by decide +kernel, rfl⟩
theorem d0_223 : Fet code 223 224 (.i2b) 1 := ⟨by decide +kernel, rfl⟩
theorem d0_224 : Fet code 224 225 (.bastore) 1 := ⟨by decide +kernel, rfl⟩
theorem d0_225 : Fet code 225 227 (.aload 9) 2 := ⟨by decide +kernel, rfl⟩
theorem d0_227 : Fet code 227 229 (.bipush 18) 2 := ⟨by decide +kernel, rfl⟩
theorem d0_229 : Fet code 229 231 (.lload 4) 2 := ⟨by decide +kernel, rfl⟩
theorem d0_231 : Fet code 231 233 (.bipush 40) 2 := ⟨by decide +kernel, rfl⟩
theorem d0_233 : Fet code 233 234 (.lushr) 1 := ⟨by decide +kernel, rfl⟩
theorem d0_234 : Fet code 234 235 (.l2i) 1 := ⟨by decide +kernel, rfl⟩
theorem d0_235 : Fet code 235 236 (.i2b) 1 := ⟨by decide +kernel, rfl⟩
theorem d0_236 : Fet code 236 237 (.bastore) 1 := ⟨by decide +kernel, rfl⟩
theorem d0_237 : Fet code 237 239 (.aload 9) 2 := ⟨by decide +kernel, rfl⟩
theorem d0_239 : Fet code 239 241 (.bipush 19) 2 := ⟨by decide +kernel, rfl⟩
theorem d0_241 : Fet code 241 243 (.lload 4) 2 := ⟨by decide +kernel, rfl⟩
theorem d0_243 : Fet code 243 245 (.bipush 32) 2 := ⟨by decide +kernel, rfl⟩
theorem d0_245 : Fet code 245 246 (.lushr) 1 := ⟨by decide +kernel, rfl⟩
theorem d0_246 : Fet code 246 247 (.l2i) 1 := ⟨by decide +kernel, rfl⟩
theorem d0_247 : Fet code 247 248 (.i2b) 1 := ⟨by decide +kernel, rfl⟩
theorem d0_248 : Fet code 248 249 (.bastore) 1 := ⟨by decide +kernel, rfl⟩
theorem d0_249 : Fet code 249 251 (.aload 9) 2 := ⟨by decide +kernel, rfl⟩
theorem d0_251 : Fet code 251 253 (.bipush 20) 2 := ⟨by decide +kernel, rfl⟩
theorem d0_253 : Fet code 253 255 (.lload 4) 2 := ⟨by decide +kernel, rfl⟩
theorem d0_255 : Fet code 255 257 (.bipush 24) 2 := ⟨by decide +kernel, rfl⟩
theorem d0_257 : Fet code 257 258 (.lushr) 1 := ⟨by decide +kernel, rfl⟩
theorem d0_258 : Fet code 258 259 (.l2i) 1 := ⟨by decide +kernel, rfl⟩
theorem d0_259 : Fet code 259 260 (.i2b) 1 := ⟨by decide +kernel, rfl⟩
theorem d0_260 : Fet code 260 261 (.bastore) 1 := ⟨by decide +kernel, rfl⟩
theorem d0_261 : Fet code 261 263 (.aload 9) 2 := ⟨by decide +kernel, rfl⟩
theorem d0_263 : Fet code 263 265 (.bipush 21) 2 := ⟨by decide +kernel, rfl⟩
theorem d0_265 : Fet code 265 267 (.lload 4) 2 := ⟨by decide +kernel, rfl⟩
theorem d0_267 : Fet code 267 269 (.bipush 16) 2 := ⟨by decide +kernel, rfl⟩
theorem d0_269 : Fet code 269 270 (.lushr) 1 := ⟨by decide +kernel, rfl⟩
theorem d0_270 : Fet code 270 271 (.l2i) 1 := ⟨by decide +kernel, rfl⟩
theorem d0_271 : Fet code 271 272 (.i2b) 1 := ⟨by decide +kernel, rfl⟩
theorem d0_272 : Fet code 272 273 (.bastore) 1 := ⟨by decide +kernel, rfl⟩
theorem d0_273 : Fet code 273 275 (.aload 9) 2 := ⟨by decide +kernel, rfl⟩
theorem d0_275 : Fet code 275 277 (.bipush 22) 2 := ⟨by decide +kernel, rfl⟩
theorem d0_277 : Fet code 277 279 (.lload 4) 2 := ⟨by decide +kernel, rfl⟩
theorem d0_279 : Fet code 279 281 (.bipush 8) 2 := ⟨by decide +kernel, rfl⟩
theorem d0_281 : Fet code 281 282 (.lushr) 1 := ⟨by decide +kernel, rfl⟩
theorem d0_282 : Fet code 282 283 (.l2i) 1 := ⟨by decide +kernel, rfl⟩
theorem d0_283 : Fet code 283 284 (.i2b) 1 := ⟨by decide +kernel, rfl⟩
theorem d0_284 : Fet code 284 285 (.bastore) 1 := ⟨by decide +kernel, rfl⟩
theorem d0_285 : Fet code 285 287 (.aload 9) 2 := ⟨by decide +kernel, rfl⟩
theorem d0_287 : Fet code 287 289 (.bipush 23) 2 := ⟨by decide +kernel, rfl⟩
theorem d0_289 : Fet code 289 291 (.lload 4) 2 := ⟨by decide +kernel, rfl⟩
theorem d0_291 : Fet code 291 292 (.l2i) 1 := ⟨by decide +kernel, rfl⟩
theorem d0_292 : Fet code 292 293 (.i2b) 1 := ⟨by decide +kernel, rfl⟩
theorem d0_293 : Fet code 293 294 (.bastore) 1 := ⟨by decide +kernel, rfl⟩
theorem d0_294 : Fet code 294 296 (.aload 9) 2 := ⟨by decide +kernel, rfl⟩
theorem d0_296 : Fet code 296 298 (.bipush 24) 2 := ⟨by decide +kernel, rfl⟩
theorem d0_298 : Fet code 298 300 (.iload 6) 2 := ⟨by decide +kernel, rfl⟩
theorem d0_300 : Fet code 300 302 (.bipush 24) 2 := ⟨by decide +kernel, rfl⟩
theorem d0_302 : Fet code 302 303 (.iushr) 1 := ⟨by decide +kernel, rfl⟩
theorem d0_303 : Fet code 303 304 (.i2b) 1 := ⟨by decide +kernel, rfl⟩
theorem d0_304 : Fet code 304 305 (.bastore) 1 := ⟨by decide +kernel, rfl⟩
theorem d0_305 : Fet code 305 307 (.aload 9) 2 := ⟨by decide +kernel, rfl⟩
theorem d0_307 : Fet code 307 309 (.bipush 25) 2 := ⟨by decide +kernel, rfl⟩
theorem d0_309 : Fet code 309 311 (.iload 6) 2 := ⟨by decide +kernel, rfl⟩
theorem d0_311 : Fet code 311 313 (.bipush 16) 2 := ⟨by decide +kernel, rfl⟩
theorem d0_313 : Fet code 313 314 (.iushr) 1 := ⟨by decide +kernel, rfl⟩
theorem d0_314 : Fet code 314 315 (.i2b) 1 := ⟨by decide +kernel, rfl⟩
theorem d0_315 : Fet code 315 316 (.bastore) 1 := ⟨by decide +kernel, rfl⟩
set_option maxRecDepth 65536 in
set_option maxHeartbeats 4000000 in
theorem rm0 (l : Launch) (Z : State) (a0 : Array Value) (hw : ∀ d ∈ tables_1, d.before a0 Z = true) (n0 : Nat) (ja jb jc : Int64) (dd xx : Int32) (h : Heap) (Z0 : n0 ≤ h.size) :
    ConV l Z n0 x code maxLocals ret tables_1 room_1 #[(.long ja), (.long jb), (.long jc), (.int dd), (.int xx)] h (fun w h' => w = .int 1) := by
  refine con_of_wp (Ls := #[.val (.long ja), .second, .val (.long jb), .second, .val (.long jc), .second, .val (.int dd), .val (.int xx), .unset, .unset, .unset, .unset, .unset, .unset]) (plainFor_of_name pn_com_example_tickstep_tickstep_encoding_QrMatrixPlacePinLaw) (fun m => by first | (simp [entryFrame, mkF, argsToLocals, Value.category, maxLocals]; done) | rfl) ?_
  intro K ok
  replace ok : Ok Z K code "com/example/tickstep/tickstep/encoding/QrMatrixPlacePinLaw" "law" 14 (some .boolean) := ok
  show Wp l room_1 n0 K (fun v h' => ∃ w, v = some w ∧ w = .int 1) h 0 0 0 #[.val (.long ja), .second, .val (.long jb), .second, .val (.long jc), .second, .val (.int dd), .val (.int xx), .unset, .unset, .unset, .unset, .unset, .unset] []
  obtain ⟨k, hk, e⟩ := own_mod xx (m := 208) (by decide) (by decide)
  obtain ⟨st', pt, hct, hpl, z1, z2, z3, hpos⟩ := own_fin
  obtain ⟨hpj, hpv⟩ := hpos k hk
  refine w_iload ok d0_0 rfl ?_
  refine w_iconst ok (z := 1) d0_2 rfl ?_
  refine w_iand ok d0_3 ?_
  refine w_if_eq ok d0_4 (fun q => ?_) (fun q => ?_)
  · refine w_iconst ok (z := 0) d0_11 rfl ?_
    refine w_istore ok (Ls' := #[.val (.long ja), .second, .val (.long jb), .second, .val (.long jc), .second, .val (.int dd), .val (.int xx), .val (.int (0 : Int32)), .unset, .unset, .unset, .unset, .unset]) d0_12 rfl ?_
    refine w_iload ok d0_14 rfl ?_
    refine w_if_eq ok d0_16 (fun _ => ?_) (fun q => absurd (by decide) q)
    refine w_bipush ok (z := 8) d0_26 rfl ?_
    refine w_newarray ok (cap := 8) (hw _ (List.mem_of_getElem? (i := 0) rfl)) d0_28 (by decide) (by decide) (by decide) (k' := 1) (n' := 8) rfl rfl (Nat.le_of_ble_eq_true rfl) (Nat.le_of_ble_eq_true rfl) (fun h1 b1 cA1 g1 E1 A1 => ?_)
    have gn_b1 : n0 ≤ b1 := Nat.le_trans Z0 (Nat.le_of_eq g1.symm)
    have Z0 := Nat.le_trans Z0 E1.1
    have V_b1 : Ary Z h1 b1 .byte [(.int (0 : Int32)), (.int (0 : Int32)), (.int (0 : Int32)), (.int (0 : Int32)), (.int (0 : Int32)), (.int (0 : Int32)), (.int (0 : Int32)), (.int (0 : Int32))] := ary_new A1
    refine w_astore ok (Ls' := #[.val (.long ja), .second, .val (.long jb), .second, .val (.long jc), .second, .val (.int dd), .val (.int xx), .val (.int (0 : Int32)), .val (.ref b1), .unset, .unset, .unset, .unset]) d0_30 rfl rfl ?_
    refine w_aload ok d0_32 rfl rfl ?_
    refine w_iconst ok (z := 0) d0_34 rfl ?_
    refine w_lloadN ok d0_35 rfl ?_
    refine w_bipush ok (z := 56) d0_36 rfl ?_
    refine w_lushr ok d0_38 ?_
    refine w_l2i ok d0_39 ?_
    refine w_i2b ok d0_40 ?_
    refine w_bastoreB' ok (i := 0) V_b1 (Nat.le_of_ble_eq_true rfl) (Nat.le_of_ble_eq_true rfl) gn_b1 d0_41 (fun h2 W2 V_b1 => ?_)
    have Z0 := Nat.le_trans Z0 (Keep.of_wr W2).1
    replace V_b1 : Ary Z h2 b1 .byte [(.int (nar .byte ((((ja.toUInt64 >>> ((56 : Int32) &&& 0x3f).toInt64.toUInt64).toInt64).toInt32).toInt8.toInt32))), (.int (0 : Int32)), (.int (0 : Int32)), (.int (0 : Int32)), (.int (0 : Int32)), (.int (0 : Int32)), (.int (0 : Int32)), (.int (0 : Int32))] := V_b1
    refine w_aload ok d0_42 rfl rfl ?_
    refine w_iconst ok (z := 1) d0_44 rfl ?_
    refine w_lloadN ok d0_45 rfl ?_
    refine w_bipush ok (z := 48) d0_46 rfl ?_
    refine w_lushr ok d0_48 ?_
    refine w_l2i ok d0_49 ?_
    refine w_i2b ok d0_50 ?_
    refine w_bastoreB' ok (i := 1) V_b1 (Nat.le_of_ble_eq_true rfl) (Nat.le_of_ble_eq_true rfl) gn_b1 d0_51 (fun h3 W3 V_b1 => ?_)
    have Z0 := Nat.le_trans Z0 (Keep.of_wr W3).1
    replace V_b1 : Ary Z h3 b1 .byte [(.int (nar .byte ((((ja.toUInt64 >>> ((56 : Int32) &&& 0x3f).toInt64.toUInt64).toInt64).toInt32).toInt8.toInt32))), (.int (nar .byte ((((ja.toUInt64 >>> ((48 : Int32) &&& 0x3f).toInt64.toUInt64).toInt64).toInt32).toInt8.toInt32))), (.int (0 : Int32)), (.int (0 : Int32)), (.int (0 : Int32)), (.int (0 : Int32)), (.int (0 : Int32)), (.int (0 : Int32))] := V_b1
    refine w_aload ok d0_52 rfl rfl ?_
    refine w_iconst ok (z := 2) d0_54 rfl ?_
    refine w_lloadN ok d0_55 rfl ?_
    refine w_bipush ok (z := 40) d0_56 rfl ?_
    refine w_lushr ok d0_58 ?_
    refine w_l2i ok d0_59 ?_
    refine w_i2b ok d0_60 ?_
    refine w_bastoreB' ok (i := 2) V_b1 (Nat.le_of_ble_eq_true rfl) (Nat.le_of_ble_eq_true rfl) gn_b1 d0_61 (fun h4 W4 V_b1 => ?_)
    have Z0 := Nat.le_trans Z0 (Keep.of_wr W4).1
    replace V_b1 : Ary Z h4 b1 .byte [(.int (nar .byte ((((ja.toUInt64 >>> ((56 : Int32) &&& 0x3f).toInt64.toUInt64).toInt64).toInt32).toInt8.toInt32))), (.int (nar .byte ((((ja.toUInt64 >>> ((48 : Int32) &&& 0x3f).toInt64.toUInt64).toInt64).toInt32).toInt8.toInt32))), (.int (nar .byte ((((ja.toUInt64 >>> ((40 : Int32) &&& 0x3f).toInt64.toUInt64).toInt64).toInt32).toInt8.toInt32))), (.int (0 : Int32)), (.int (0 : Int32)), (.int (0 : Int32)), (.int (0 : Int32)), (.int (0 : Int32))] := V_b1
    refine w_aload ok d0_62 rfl rfl ?_
    refine w_iconst ok (z := 3) d0_64 rfl ?_
    refine w_lloadN ok d0_65 rfl ?_
    refine w_bipush ok (z := 32) d0_66 rfl ?_
    refine w_lushr ok d0_68 ?_
    refine w_l2i ok d0_69 ?_
    refine w_i2b ok d0_70 ?_
    refine w_bastoreB' ok (i := 3) V_b1 (Nat.le_of_ble_eq_true rfl) (Nat.le_of_ble_eq_true rfl) gn_b1 d0_71 (fun h5 W5 V_b1 => ?_)
    have Z0 := Nat.le_trans Z0 (Keep.of_wr W5).1
    replace V_b1 : Ary Z h5 b1 .byte [(.int (nar .byte ((((ja.toUInt64 >>> ((56 : Int32) &&& 0x3f).toInt64.toUInt64).toInt64).toInt32).toInt8.toInt32))), (.int (nar .byte ((((ja.toUInt64 >>> ((48 : Int32) &&& 0x3f).toInt64.toUInt64).toInt64).toInt32).toInt8.toInt32))), (.int (nar .byte ((((ja.toUInt64 >>> ((40 : Int32) &&& 0x3f).toInt64.toUInt64).toInt64).toInt32).toInt8.toInt32))), (.int (nar .byte ((((ja.toUInt64 >>> ((32 : Int32) &&& 0x3f).toInt64.toUInt64).toInt64).toInt32).toInt8.toInt32))), (.int (0 : Int32)), (.int (0 : Int32)), (.int (0 : Int32)), (.int (0 : Int32))] := V_b1
    refine w_aload ok d0_72 rfl rfl ?_
    refine w_iconst ok (z := 4) d0_74 rfl ?_
    refine w_lloadN ok d0_75 rfl ?_
    refine w_bipush ok (z := 24) d0_76 rfl ?_
    refine w_lushr ok d0_78 ?_
    refine w_l2i ok d0_79 ?_
    refine w_i2b ok d0_80 ?_
    refine w_bastoreB' ok (i := 4) V_b1 (Nat.le_of_ble_eq_true rfl) (Nat.le_of_ble_eq_true rfl) gn_b1 d0_81 (fun h6 W6 V_b1 => ?_)
    have Z0 := Nat.le_trans Z0 (Keep.of_wr W6).1
    replace V_b1 : Ary Z h6 b1 .byte [(.int (nar .byte ((((ja.toUInt64 >>> ((56 : Int32) &&& 0x3f).toInt64.toUInt64).toInt64).toInt32).toInt8.toInt32))), (.int (nar .byte ((((ja.toUInt64 >>> ((48 : Int32) &&& 0x3f).toInt64.toUInt64).toInt64).toInt32).toInt8.toInt32))), (.int (nar .byte ((((ja.toUInt64 >>> ((40 : Int32) &&& 0x3f).toInt64.toUInt64).toInt64).toInt32).toInt8.toInt32))), (.int (nar .byte ((((ja.toUInt64 >>> ((32 : Int32) &&& 0x3f).toInt64.toUInt64).toInt64).toInt32).toInt8.toInt32))), (.int (nar .byte ((((ja.toUInt64 >>> ((24 : Int32) &&& 0x3f).toInt64.toUInt64).toInt64).toInt32).toInt8.toInt32))), (.int (0 : Int32)), (.int (0 : Int32)), (.int (0 : Int32))] := V_b1
    refine w_aload ok d0_82 rfl rfl ?_
    refine w_iconst ok (z := 5) d0_84 rfl ?_
    refine w_lloadN ok d0_85 rfl ?_
    refine w_bipush ok (z := 16) d0_86 rfl ?_
    refine w_lushr ok d0_88 ?_
    refine w_l2i ok d0_89 ?_
    refine w_i2b ok d0_90 ?_
    refine w_bastoreB' ok (i := 5) V_b1 (Nat.le_of_ble_eq_true rfl) (Nat.le_of_ble_eq_true rfl) gn_b1 d0_91 (fun h7 W7 V_b1 => ?_)
    have Z0 := Nat.le_trans Z0 (Keep.of_wr W7).1
    replace V_b1 : Ary Z h7 b1 .byte [(.int (nar .byte ((((ja.toUInt64 >>> ((56 : Int32) &&& 0x3f).toInt64.toUInt64).toInt64).toInt32).toInt8.toInt32))), (.int (nar .byte ((((ja.toUInt64 >>> ((48 : Int32) &&& 0x3f).toInt64.toUInt64).toInt64).toInt32).toInt8.toInt32))), (.int (nar .byte ((((ja.toUInt64 >>> ((40 : Int32) &&& 0x3f).toInt64.toUInt64).toInt64).toInt32).toInt8.toInt32))), (.int (nar .byte ((((ja.toUInt64 >>> ((32 : Int32) &&& 0x3f).toInt64.toUInt64).toInt64).toInt32).toInt8.toInt32))), (.int (nar .byte ((((ja.toUInt64 >>> ((24 : Int32) &&& 0x3f).toInt64.toUInt64).toInt64).toInt32).toInt8.toInt32))), (.int (nar .byte ((((ja.toUInt64 >>> ((16 : Int32) &&& 0x3f).toInt64.toUInt64).toInt64).toInt32).toInt8.toInt32))), (.int (0 : Int32)), (.int (0 : Int32))] := V_b1
    refine w_aload ok d0_92 rfl rfl ?_
    refine w_bipush ok (z := 6) d0_94 rfl ?_
    refine w_lloadN ok d0_96 rfl ?_
    refine w_bipush ok (z := 8) d0_97 rfl ?_
    refine w_lushr ok d0_99 ?_
    refine w_l2i ok d0_100 ?_
    refine w_i2b ok d0_101 ?_
    refine w_bastoreB' ok (i := 6) V_b1 (Nat.le_of_ble_eq_true rfl) (Nat.le_of_ble_eq_true rfl) gn_b1 d0_102 (fun h8 W8 V_b1 => ?_)
    have Z0 := Nat.le_trans Z0 (Keep.of_wr W8).1
    replace V_b1 : Ary Z h8 b1 .byte [(.int (nar .byte ((((ja.toUInt64 >>> ((56 : Int32) &&& 0x3f).toInt64.toUInt64).toInt64).toInt32).toInt8.toInt32))), (.int (nar .byte ((((ja.toUInt64 >>> ((48 : Int32) &&& 0x3f).toInt64.toUInt64).toInt64).toInt32).toInt8.toInt32))), (.int (nar .byte ((((ja.toUInt64 >>> ((40 : Int32) &&& 0x3f).toInt64.toUInt64).toInt64).toInt32).toInt8.toInt32))), (.int (nar .byte ((((ja.toUInt64 >>> ((32 : Int32) &&& 0x3f).toInt64.toUInt64).toInt64).toInt32).toInt8.toInt32))), (.int (nar .byte ((((ja.toUInt64 >>> ((24 : Int32) &&& 0x3f).toInt64.toUInt64).toInt64).toInt32).toInt8.toInt32))), (.int (nar .byte ((((ja.toUInt64 >>> ((16 : Int32) &&& 0x3f).toInt64.toUInt64).toInt64).toInt32).toInt8.toInt32))), (.int (nar .byte ((((ja.toUInt64 >>> ((8 : Int32) &&& 0x3f).toInt64.toUInt64).toInt64).toInt32).toInt8.toInt32))), (.int (0 : Int32))] := V_b1
    refine w_aload ok d0_103 rfl rfl ?_
    refine w_bipush ok (z := 7) d0_105 rfl ?_
    refine w_lloadN ok d0_107 rfl ?_
    refine w_l2i ok d0_108 ?_
    refine w_i2b ok d0_109 ?_
    refine w_bastoreB' ok (i := 7) V_b1 (Nat.le_of_ble_eq_true rfl) (Nat.le_of_ble_eq_true rfl) gn_b1 d0_110 (fun h9 W9 V_b1 => ?_)
    have Z0 := Nat.le_trans Z0 (Keep.of_wr W9).1
    replace V_b1 : Ary Z h9 b1 .byte [(.int (nar .byte ((((ja.toUInt64 >>> ((56 : Int32) &&& 0x3f).toInt64.toUInt64).toInt64).toInt32).toInt8.toInt32))), (.int (nar .byte ((((ja.toUInt64 >>> ((48 : Int32) &&& 0x3f).toInt64.toUInt64).toInt64).toInt32).toInt8.toInt32))), (.int (nar .byte ((((ja.toUInt64 >>> ((40 : Int32) &&& 0x3f).toInt64.toUInt64).toInt64).toInt32).toInt8.toInt32))), (.int (nar .byte ((((ja.toUInt64 >>> ((32 : Int32) &&& 0x3f).toInt64.toUInt64).toInt64).toInt32).toInt8.toInt32))), (.int (nar .byte ((((ja.toUInt64 >>> ((24 : Int32) &&& 0x3f).toInt64.toUInt64).toInt64).toInt32).toInt8.toInt32))), (.int (nar .byte ((((ja.toUInt64 >>> ((16 : Int32) &&& 0x3f).toInt64.toUInt64).toInt64).toInt32).toInt8.toInt32))), (.int (nar .byte ((((ja.toUInt64 >>> ((8 : Int32) &&& 0x3f).toInt64.toUInt64).toInt64).toInt32).toInt8.toInt32))), (.int (nar .byte ((ja.toInt32).toInt8.toInt32)))] := V_b1
    refine w_iload ok d0_111 rfl ?_
    refine w_if_eq ok d0_113 (fun _ => ?_) (fun q => absurd (by decide) q)
    refine w_iload ok d0_316 rfl ?_
    refine w_ldc ok (hw _ (List.mem_of_getElem? (i := 1) rfl)) d0_318 ?_
    refine w_iand ok d0_320 ?_
    refine w_sipush ok (z := 208) d0_321 rfl ?_
    refine w_irem ok d0_324 (by decide) ?_
    refine w_int (b := (Int32.ofNat k)) (by rw [← e]; rfl) ?_
    replace V_b1 : Ary Z h9 b1 .byte ((own_cb8 ja).map Value.int) := V_b1
    refine w_istore ok (Ls' := #[.val (.long ja), .second, .val (.long jb), .second, .val (.long jc), .second, .val (.int dd), .val (.int xx), .val (.int (0 : Int32)), .val (.ref b1), .val (.int (Int32.ofNat k)), .unset, .unset, .unset]) d0_325 rfl ?_
    refine w_new ok (hw _ (List.mem_of_getElem? (i := 2) rfl)) (hw _ (List.mem_of_getElem? (i := 3) rfl)) (hw _ (List.mem_of_getElem? (i := 4) rfl)) d0_327 (k' := 2) (n' := 12) rfl rfl (Nat.le_of_ble_eq_true rfl) (Nat.le_of_ble_eq_true rfl) (fun h10 b10 g10 E10 A10 D10 => ?_)
    have ne_b1_b10 : b1 ≠ b10 := Nat.ne_of_lt (Nat.lt_of_lt_of_le V_b1.lt (Nat.le_of_eq g10.symm))
    have gn_b10 : n0 ≤ b10 := Nat.le_trans Z0 (Nat.le_of_eq g10.symm)
    have Z0 := Nat.le_trans Z0 E10.1
    have V_b1 := V_b1.ext E10
    have F_b10_version : Fld Z h10 b10 "com/example/tickstep/tickstep/encoding/QrMatrix" "version" "I" (.int (0 : Int32)) := D10 (Or.inr (hw _ (List.mem_of_getElem? (i := 12) rfl))) (ty := .int) (by decide)
    have F_b10_size : Fld Z h10 b10 "com/example/tickstep/tickstep/encoding/QrMatrix" "size" "I" (.int (0 : Int32)) := D10 (Or.inr (hw _ (List.mem_of_getElem? (i := 17) rfl))) (ty := .int) (by decide)
    have F_b10_dark : Fld Z h10 b10 "com/example/tickstep/tickstep/encoding/QrMatrix" "dark" "[Z" .null := D10 (Or.inr (hw _ (List.mem_of_getElem? (i := 20) rfl))) (ty := (.array .boolean)) (by decide)
    have F_b10_function : Fld Z h10 b10 "com/example/tickstep/tickstep/encoding/QrMatrix" "function" "[Z" .null := D10 (Or.inr (hw _ (List.mem_of_getElem? (i := 22) rfl))) (ty := (.array .boolean)) (by decide)
    refine w_dup ok d0_330 rfl ?_
    refine w_iconst ok (z := 1) d0_331 rfl ?_
    refine w_init ok (argsL := [(.int (1 : Int32))]) (rest := [(.ref b10)]) rfl rfl (hw _ (List.mem_of_getElem? (i := 5) rfl)) (hw _ (List.mem_of_getElem? (i := 6) rfl)) (hw _ (List.mem_of_getElem? (i := 4) rfl)) (hw _ (List.mem_of_getElem? (i := 7) rfl)) (by decide) (rmIn l Z a0 hw n0 b10 1 21 441 st' h10 (by decide) (by decide) (by decide) (by decide) hct (by decide) Z0 gn_b10 A10 F_b10_version F_b10_size F_b10_dark F_b10_function) d0_332 (lenOf pd__I_V rfl) rfl rfl (Nat.le_of_ble_eq_true rfl) (Nat.le_of_ble_eq_true rfl) (k' := 20) (n' := 961) rfl rfl (Nat.le_of_ble_eq_true rfl) (Nat.le_of_ble_eq_true rfl) ?_
    rintro hi ⟨ad, af, D, M, hD, ga1, ga2⟩
    obtain rfl := hD (by decide)
    obtain ⟨Z0, E_b, F_v, F_size, F_dark, F_function, A_d, A_f, ⟨gn_ad, gn_af, nda, na1, na2⟩, hpc, Kb⟩ := id M
    have nc1 : b1 ≠ ad := Nat.ne_of_lt (Nat.lt_of_lt_of_le V_b1.lt ga1)
    have nc2 : b1 ≠ af := Nat.ne_of_lt (Nat.lt_of_lt_of_le V_b1.lt ga2)
    replace V_b1 := V_b1.keep Kb (ninS ne_b1_b10 (ninS nc1 (ninS nc2 nin0)))
    have P : own_P Z n0 hi b10 21 ad af b1 441 st'.1 (own_cb8 ja) (own_l0 st'.2.1 441) := ⟨Z0, E_b, F_size, F_dark, F_function, A_d.cast (own_l0_vals _ _ _), A_f, V_b1, ⟨gn_ad, nda, na1, nc1⟩, by rw [own_l0, List.length_map, List.length_range]⟩
    refine w_astore ok (Ls' := #[.val (.long ja), .second, .val (.long jb), .second, .val (.long jc), .second, .val (.int dd), .val (.int xx), .val (.int (0 : Int32)), .val (.ref b1), .val (.int (Int32.ofNat k)), .val (.ref b10), .unset, .unset]) d0_335 rfl rfl ?_
    refine w_aload ok d0_337 rfl rfl ?_
    refine w_aload ok d0_339 rfl rfl ?_
    refine w_virtN ok (argsL := [(.ref b1)]) (rest := []) (hw _ (List.mem_of_getElem? (i := 51) rfl)) (hw _ (List.mem_of_getElem? (i := 52) rfl)) (hw _ (List.mem_of_getElem? (i := 54) rfl)) (hw _ (List.mem_of_getElem? (i := 53) rfl)) (hw _ (List.mem_of_getElem? (i := 4) rfl)) (hw _ (List.mem_of_getElem? (i := 55) rfl)) E_b (by decide) (rmPl l Z a0 hw n0 b10 ad af b1 21 441 st'.1 (own_cb8 ja) _ pt hi (Or.inl rfl) P hpl) d0_341 (lenOf pd__ArB_V rfl) rfl rfl (Nat.le_of_ble_eq_true rfl) (Nat.le_of_ble_eq_true rfl) (k' := 20) (n' := 961) rfl rfl (Nat.le_of_ble_eq_true rfl) (Nat.le_of_ble_eq_true rfl) ?_
    rintro hq P
    obtain ⟨Z0, E_b, F_size, F_dark, F_function, A_d, A_f, A_c, -, hls⟩ := id P
    refine w_aload ok d0_344 rfl rfl ?_
    refine w_virtV ok (argsL := []) (rest := []) (hw _ (List.mem_of_getElem? (i := 56) rfl)) (hw _ (List.mem_of_getElem? (i := 57) rfl)) (hw _ (List.mem_of_getElem? (i := 59) rfl)) (hw _ (List.mem_of_getElem? (i := 58) rfl)) (hw _ (List.mem_of_getElem? (i := 4) rfl)) (hw _ (List.mem_of_getElem? (i := 60) rfl)) E_b (by decide) (rmMo l Z a0 hw n0 b10 ad hq E_b F_dark) d0_346 (lenOf pd___ArZ rfl) rfl rfl (Nat.le_of_ble_eq_true rfl) (Nat.le_of_ble_eq_true rfl) (k' := 20) (n' := 961) rfl rfl (Nat.le_of_ble_eq_true rfl) (Nat.le_of_ble_eq_true rfl) ?_
    rintro _ _ ⟨rfl, rfl⟩
    refine w_astore ok (Ls' := #[.val (.long ja), .second, .val (.long jb), .second, .val (.long jc), .second, .val (.int dd), .val (.int xx), .val (.int (0 : Int32)), .val (.ref b1), .val (.int (Int32.ofNat k)), .val (.ref b10), .val (.ref ad), .unset]) d0_349 rfl rfl ?_
    refine w_aload ok d0_351 rfl rfl ?_
    refine w_arraylength ok A_d d0_353 ?_
    refine w_int (b := (441 : Int32)) (by rw [List.length_map, hls]; rfl) ?_
    refine w_sipush ok (z := 441) d0_354 rfl ?_
    refine w_ic_eq ok d0_357 (fun _ => ?_) (fun q => absurd (by decide) q)
    have J393 : ∀ (z : Int32) (hz : z = own_w (own_cb8 ja) k), Wp l room_1 n0 K (fun v h' => ∃ w, v = some w ∧ w = .int 1) hq 20 961 393 #[.val (.long ja), .second, .val (.long jb), .second, .val (.long jc), .second, .val (.int dd), .val (.int xx), .val (.int (0 : Int32)), .val (.ref b1), .val (.int (Int32.ofNat k)), .val (.ref b10), .val (.ref ad), .unset] [(.int z)] := by
      intro z hz
      subst hz
      refine w_istore ok (Ls' := #[.val (.long ja), .second, .val (.long jb), .second, .val (.long jc), .second, .val (.int dd), .val (.int xx), .val (.int (0 : Int32)), .val (.ref b1), .val (.int (Int32.ofNat k)), .val (.ref b10), .val (.ref ad), .val (.int (own_w (own_cb8 ja) k))]) d0_393 rfl ?_
      refine w_aload ok d0_395 rfl rfl ?_
      refine w_iload ok d0_397 rfl ?_
      refine w_callSV ok (argsL := [(.int (Int32.ofNat k))]) (rest := [(.ref ad)]) (hw _ (List.mem_of_getElem? (i := 65) rfl)) (hw _ (List.mem_of_getElem? (i := 66) rfl)) (hw _ (List.mem_of_getElem? (i := 63) rfl)) (hw _ (List.mem_of_getElem? (i := 67) rfl)) (by decide) (rmPo l Z a0 hw n0 (Int32.ofNat k) hq) d0_399 (lenOf pd__I_I rfl) rfl rfl (Nat.le_of_ble_eq_true rfl) (Nat.le_of_ble_eq_true rfl) (k' := 20) (n' := 961) rfl rfl (Nat.le_of_ble_eq_true rfl) (Nat.le_of_ble_eq_true rfl) ?_
      rintro _ _ ⟨rfl, rfl⟩
      refine w_baloadZJ ok A_d (by rw [List.length_map, hls]; exact hpj) (show _ = some (.int (own_w (own_cb8 ja) k)) from by rw [List.getElem?_map, hpv, Option.map_some, own_iv2]) d0_402 ?_
      refine w_iload ok d0_403 rfl ?_
      refine w_ic_ne ok d0_405 (fun q1 => ?_) (fun q1 => ?_)
      · exact absurd rfl q1
      · refine w_aload ok d0_408 rfl rfl ?_
        refine w_sipush ok (z := 281) d0_410 rfl ?_
        refine w_baloadZ ok (i := 281) A_d (by rw [List.length_map, hls]; decide) (show _ = some (.int 1) from by rw [List.getElem?_map, z1]; rfl) d0_413 ?_
        refine w_if_eq ok d0_414 (fun q => absurd q (by decide)) (fun _ => ?_)
        refine w_aload ok d0_417 rfl rfl ?_
        refine w_sipush ok (z := 138) d0_419 rfl ?_
        refine w_baloadZ ok (i := 138) A_d (by rw [List.length_map, hls]; decide) (show _ = some (.int 1) from by rw [List.getElem?_map, z2]; rfl) d0_422 ?_
        refine w_if_eq ok d0_423 (fun q => absurd q (by decide)) (fun _ => ?_)
        refine w_aload ok d0_426 rfl rfl ?_
        refine w_bipush ok (z := 20) d0_428 rfl ?_
        refine w_baloadZ ok (i := 20) A_d (by rw [List.length_map, hls]; decide) (show _ = some (.int 1) from by rw [List.getElem?_map, z3]; rfl) d0_430 ?_
        refine w_if_eq ok d0_431 (fun q => absurd q (by decide)) (fun _ => ?_)
        refine w_iconst ok (z := 1) d0_434 rfl ?_
        refine w_goto ok d0_435 ?_
        refine w_ireturnN ok (by simp) d0_439 (Nat.le_of_ble_eq_true rfl) (Nat.le_of_ble_eq_true rfl) ?_
        exact ⟨_, rfl, rfl⟩
    refine w_iload ok d0_362 rfl ?_
    refine w_if_ne ok d0_364 (fun q => absurd (by decide) q) (fun _ => ?_)
    refine w_iload ok d0_367 rfl ?_
    refine w_bipush ok (z := 64) d0_369 rfl ?_
    refine w_ic_ge ok d0_371 (fun q2 => ?_) (fun q2 => ?_)
    · refine w_iconst ok (z := 0) d0_392 rfl ?_
      exact J393 _ (by rw [own_w8n ja hk q2])
    · have hk6 : k < 64 := (own_tt ⟨k, hk⟩).2.2.2.2.2.1.mpr q2
      refine w_lloadN ok d0_374 rfl ?_
      refine w_lloadN ok d0_375 rfl ?_
      refine w_lload ok d0_376 rfl ?_
      refine w_iload ok d0_378 rfl ?_
      refine w_iload ok d0_380 rfl ?_
      refine w_callSV ok (argsL := [(.long ja), (.long jb), (.long jc), (.int dd), (.int (Int32.ofNat k))]) (rest := []) (hw _ (List.mem_of_getElem? (i := 61) rfl)) (hw _ (List.mem_of_getElem? (i := 62) rfl)) (hw _ (List.mem_of_getElem? (i := 63) rfl)) (hw _ (List.mem_of_getElem? (i := 64) rfl)) (by decide) (rmBt l Z a0 hw n0 ja jb jc dd (Int32.ofNat k) hq) d0_382 (lenOf pd__JJJII_Z rfl) rfl rfl (Nat.le_of_ble_eq_true rfl) (Nat.le_of_ble_eq_true rfl) (k' := 20) (n' := 961) rfl rfl (Nat.le_of_ble_eq_true rfl) (Nat.le_of_ble_eq_true rfl) ?_
      rintro _ _ ⟨rfl, rfl⟩
      refine w_if_eq ok d0_385 (fun p => ?_) (fun p => ?_)
      · refine w_iconst ok (z := 0) d0_392 rfl ?_
        exact J393 _ (by rw [own_w8 ja jb jc dd hk6, p])
      · refine w_iconst ok (z := 1) d0_388 rfl ?_
        refine w_goto ok d0_389 ?_
        exact J393 _ (by rw [own_w8 ja jb jc dd hk6, (own_bt01 ja jb jc dd (Int32.ofNat k)).resolve_left p])
  · refine w_iconst ok (z := 1) d0_7 rfl ?_
    refine w_goto ok d0_8 ?_
    refine w_istore ok (Ls' := #[.val (.long ja), .second, .val (.long jb), .second, .val (.long jc), .second, .val (.int dd), .val (.int xx), .val (.int (1 : Int32)), .unset, .unset, .unset, .unset, .unset]) d0_12 rfl ?_
    refine w_iload ok d0_14 rfl ?_
    refine w_if_eq ok d0_16 (fun q => absurd q (by decide)) (fun _ => ?_)
    refine w_bipush ok (z := 26) d0_19 rfl ?_
    refine w_newarray ok (cap := 26) (hw _ (List.mem_of_getElem? (i := 0) rfl)) d0_21 (by decide) (by decide) (by decide) (k' := 1) (n' := 26) rfl rfl (Nat.le_of_ble_eq_true rfl) (Nat.le_of_ble_eq_true rfl) (fun h11 b11 cA11 g11 E11 A11 => ?_)
    have gn_b11 : n0 ≤ b11 := Nat.le_trans Z0 (Nat.le_of_eq g11.symm)
    have Z0 := Nat.le_trans Z0 E11.1
    have V_b11 : Ary Z h11 b11 .byte [(.int (0 : Int32)), (.int (0 : Int32)), (.int (0 : Int32)), (.int (0 : Int32)), (.int (0 : Int32)), (.int (0 : Int32)), (.int (0 : Int32)), (.int (0 : Int32)), (.int (0 : Int32)), (.int (0 : Int32)), (.int (0 : Int32)), (.int (0 : Int32)), (.int (0 : Int32)), (.int (0 : Int32)), (.int (0 : Int32)), (.int (0 : Int32)), (.int (0 : Int32)), (.int (0 : Int32)), (.int (0 : Int32)), (.int (0 : Int32)), (.int (0 : Int32)), (.int (0 : Int32)), (.int (0 : Int32)), (.int (0 : Int32)), (.int (0 : Int32)), (.int (0 : Int32))] := ary_new A11
    refine w_goto ok d0_23 ?_
    refine w_astore ok (Ls' := #[.val (.long ja), .second, .val (.long jb), .second, .val (.long jc), .second, .val (.int dd), .val (.int xx), .val (.int (1 : Int32)), .val (.ref b11), .unset, .unset, .unset, .unset]) d0_30 rfl rfl ?_
    refine w_aload ok d0_32 rfl rfl ?_
    refine w_iconst ok (z := 0) d0_34 rfl ?_
    refine w_lloadN ok d0_35 rfl ?_
    refine w_bipush ok (z := 56) d0_36 rfl ?_
    refine w_lushr ok d0_38 ?_
    refine w_l2i ok d0_39 ?_
    refine w_i2b ok d0_40 ?_
    refine w_bastoreB' ok (i := 0) V_b11 (Nat.le_of_ble_eq_true rfl) (Nat.le_of_ble_eq_true rfl) gn_b11 d0_41 (fun h12 W12 V_b11 => ?_)
    have Z0 := Nat.le_trans Z0 (Keep.of_wr W12).1
    replace V_b11 : Ary Z h12 b11 .byte [(.int (nar .byte ((((ja.toUInt64 >>> ((56 : Int32) &&& 0x3f).toInt64.toUInt64).toInt64).toInt32).toInt8.toInt32))), (.int (0 : Int32)), (.int (0 : Int32)), (.int (0 : Int32)), (.int (0 : Int32)), (.int (0 : Int32)), (.int (0 : Int32)), (.int (0 : Int32)), (.int (0 : Int32)), (.int (0 : Int32)), (.int (0 : Int32)), (.int (0 : Int32)), (.int (0 : Int32)), (.int (0 : Int32)), (.int (0 : Int32)), (.int (0 : Int32)), (.int (0 : Int32)), (.int (0 : Int32)), (.int (0 : Int32)), (.int (0 : Int32)), (.int (0 : Int32)), (.int (0 : Int32)), (.int (0 : Int32)), (.int (0 : Int32)), (.int (0 : Int32)), (.int (0 : Int32))] := V_b11
    refine w_aload ok d0_42 rfl rfl ?_
    refine w_iconst ok (z := 1) d0_44 rfl ?_
    refine w_lloadN ok d0_45 rfl ?_
    refine w_bipush ok (z := 48) d0_46 rfl ?_
    refine w_lushr ok d0_48 ?_
    refine w_l2i ok d0_49 ?_
    refine w_i2b ok d0_50 ?_
    refine w_bastoreB' ok (i := 1) V_b11 (Nat.le_of_ble_eq_true rfl) (Nat.le_of_ble_eq_true rfl) gn_b11 d0_51 (fun h13 W13 V_b11 => ?_)
    have Z0 := Nat.le_trans Z0 (Keep.of_wr W13).1
    replace V_b11 : Ary Z h13 b11 .byte [(.int (nar .byte ((((ja.toUInt64 >>> ((56 : Int32) &&& 0x3f).toInt64.toUInt64).toInt64).toInt32).toInt8.toInt32))), (.int (nar .byte ((((ja.toUInt64 >>> ((48 : Int32) &&& 0x3f).toInt64.toUInt64).toInt64).toInt32).toInt8.toInt32))), (.int (0 : Int32)), (.int (0 : Int32)), (.int (0 : Int32)), (.int (0 : Int32)), (.int (0 : Int32)), (.int (0 : Int32)), (.int (0 : Int32)), (.int (0 : Int32)), (.int (0 : Int32)), (.int (0 : Int32)), (.int (0 : Int32)), (.int (0 : Int32)), (.int (0 : Int32)), (.int (0 : Int32)), (.int (0 : Int32)), (.int (0 : Int32)), (.int (0 : Int32)), (.int (0 : Int32)), (.int (0 : Int32)), (.int (0 : Int32)), (.int (0 : Int32)), (.int (0 : Int32)), (.int (0 : Int32)), (.int (0 : Int32))] := V_b11
    refine w_aload ok d0_52 rfl rfl ?_
    refine w_iconst ok (z := 2) d0_54 rfl ?_
    refine w_lloadN ok d0_55 rfl ?_
    refine w_bipush ok (z := 40) d0_56 rfl ?_
    refine w_lushr ok d0_58 ?_
    refine w_l2i ok d0_59 ?_
    refine w_i2b ok d0_60 ?_
    refine w_bastoreB' ok (i := 2) V_b11 (Nat.le_of_ble_eq_true rfl) (Nat.le_of_ble_eq_true rfl) gn_b11 d0_61 (fun h14 W14 V_b11 => ?_)
    have Z0 := Nat.le_trans Z0 (Keep.of_wr W14).1
    replace V_b11 : Ary Z h14 b11 .byte [(.int (nar .byte ((((ja.toUInt64 >>> ((56 : Int32) &&& 0x3f).toInt64.toUInt64).toInt64).toInt32).toInt8.toInt32))), (.int (nar .byte ((((ja.toUInt64 >>> ((48 : Int32) &&& 0x3f).toInt64.toUInt64).toInt64).toInt32).toInt8.toInt32))), (.int (nar .byte ((((ja.toUInt64 >>> ((40 : Int32) &&& 0x3f).toInt64.toUInt64).toInt64).toInt32).toInt8.toInt32))), (.int (0 : Int32)), (.int (0 : Int32)), (.int (0 : Int32)), (.int (0 : Int32)), (.int (0 : Int32)), (.int (0 : Int32)), (.int (0 : Int32)), (.int (0 : Int32)), (.int (0 : Int32)), (.int (0 : Int32)), (.int (0 : Int32)), (.int (0 : Int32)), (.int (0 : Int32)), (.int (0 : Int32)), (.int (0 : Int32)), (.int (0 : Int32)), (.int (0 : Int32)), (.int (0 : Int32)), (.int (0 : Int32)), (.int (0 : Int32)), (.int (0 : Int32)), (.int (0 : Int32)), (.int (0 : Int32))] := V_b11
    refine w_aload ok d0_62 rfl rfl ?_
    refine w_iconst ok (z := 3) d0_64 rfl ?_
    refine w_lloadN ok d0_65 rfl ?_
    refine w_bipush ok (z := 32) d0_66 rfl ?_
    refine w_lushr ok d0_68 ?_
    refine w_l2i ok d0_69 ?_
    refine w_i2b ok d0_70 ?_
    refine w_bastoreB' ok (i := 3) V_b11 (Nat.le_of_ble_eq_true rfl) (Nat.le_of_ble_eq_true rfl) gn_b11 d0_71 (fun h15 W15 V_b11 => ?_)
    have Z0 := Nat.le_trans Z0 (Keep.of_wr W15).1
    replace V_b11 : Ary Z h15 b11 .byte [(.int (nar .byte ((((ja.toUInt64 >>> ((56 : Int32) &&& 0x3f).toInt64.toUInt64).toInt64).toInt32).toInt8.toInt32))), (.int (nar .byte ((((ja.toUInt64 >>> ((48 : Int32) &&& 0x3f).toInt64.toUInt64).toInt64).toInt32).toInt8.toInt32))), (.int (nar .byte ((((ja.toUInt64 >>> ((40 : Int32) &&& 0x3f).toInt64.toUInt64).toInt64).toInt32).toInt8.toInt32))), (.int (nar .byte ((((ja.toUInt64 >>> ((32 : Int32) &&& 0x3f).toInt64.toUInt64).toInt64).toInt32).toInt8.toInt32))), (.int (0 : Int32)), (.int (0 : Int32)), (.int (0 : Int32)), (.int (0 : Int32)), (.int (0 : Int32)), (.int (0 : Int32)), (.int (0 : Int32)), (.int (0 : Int32)), (.int (0 : Int32)), (.int (0 : Int32)), (.int (0 : Int32)), (.int (0 : Int32)), (.int (0 : Int32)), (.int (0 : Int32)), (.int (0 : Int32)), (.int (0 : Int32)), (.int (0 : Int32)), (.int (0 : Int32)), (.int (0 : Int32)), (.int (0 : Int32)), (.int (0 : Int32)), (.int (0 : Int32))] := V_b11
    refine w_aload ok d0_72 rfl rfl ?_
    refine w_iconst ok (z := 4) d0_74 rfl ?_
    refine w_lloadN ok d0_75 rfl ?_
    refine w_bipush ok (z := 24) d0_76 rfl ?_
    refine w_lushr ok d0_78 ?_
    refine w_l2i ok d0_79 ?_
    refine w_i2b ok d0_80 ?_
    refine w_bastoreB' ok (i := 4) V_b11 (Nat.le_of_ble_eq_true rfl) (Nat.le_of_ble_eq_true rfl) gn_b11 d0_81 (fun h16 W16 V_b11 => ?_)
    have Z0 := Nat.le_trans Z0 (Keep.of_wr W16).1
    replace V_b11 : Ary Z h16 b11 .byte [(.int (nar .byte ((((ja.toUInt64 >>> ((56 : Int32) &&& 0x3f).toInt64.toUInt64).toInt64).toInt32).toInt8.toInt32))), (.int (nar .byte ((((ja.toUInt64 >>> ((48 : Int32) &&& 0x3f).toInt64.toUInt64).toInt64).toInt32).toInt8.toInt32))), (.int (nar .byte ((((ja.toUInt64 >>> ((40 : Int32) &&& 0x3f).toInt64.toUInt64).toInt64).toInt32).toInt8.toInt32))), (.int (nar .byte ((((ja.toUInt64 >>> ((32 : Int32) &&& 0x3f).toInt64.toUInt64).toInt64).toInt32).toInt8.toInt32))), (.int (nar .byte ((((ja.toUInt64 >>> ((24 : Int32) &&& 0x3f).toInt64.toUInt64).toInt64).toInt32).toInt8.toInt32))), (.int (0 : Int32)), (.int (0 : Int32)), (.int (0 : Int32)), (.int (0 : Int32)), (.int (0 : Int32)), (.int (0 : Int32)), (.int (0 : Int32)), (.int (0 : Int32)), (.int (0 : Int32)), (.int (0 : Int32)), (.int (0 : Int32)), (.int (0 : Int32)), (.int (0 : Int32)), (.int (0 : Int32)), (.int (0 : Int32)), (.int (0 : Int32)), (.int (0 : Int32)), (.int (0 : Int32)), (.int (0 : Int32)), (.int (0 : Int32)), (.int (0 : Int32))] := V_b11
    refine w_aload ok d0_82 rfl rfl ?_
    refine w_iconst ok (z := 5) d0_84 rfl ?_
    refine w_lloadN ok d0_85 rfl ?_
    refine w_bipush ok (z := 16) d0_86 rfl ?_
    refine w_lushr ok d0_88 ?_
    refine w_l2i ok d0_89 ?_
    refine w_i2b ok d0_90 ?_
    refine w_bastoreB' ok (i := 5) V_b11 (Nat.le_of_ble_eq_true rfl) (Nat.le_of_ble_eq_true rfl) gn_b11 d0_91 (fun h17 W17 V_b11 => ?_)
    have Z0 := Nat.le_trans Z0 (Keep.of_wr W17).1
    replace V_b11 : Ary Z h17 b11 .byte [(.int (nar .byte ((((ja.toUInt64 >>> ((56 : Int32) &&& 0x3f).toInt64.toUInt64).toInt64).toInt32).toInt8.toInt32))), (.int (nar .byte ((((ja.toUInt64 >>> ((48 : Int32) &&& 0x3f).toInt64.toUInt64).toInt64).toInt32).toInt8.toInt32))), (.int (nar .byte ((((ja.toUInt64 >>> ((40 : Int32) &&& 0x3f).toInt64.toUInt64).toInt64).toInt32).toInt8.toInt32))), (.int (nar .byte ((((ja.toUInt64 >>> ((32 : Int32) &&& 0x3f).toInt64.toUInt64).toInt64).toInt32).toInt8.toInt32))), (.int (nar .byte ((((ja.toUInt64 >>> ((24 : Int32) &&& 0x3f).toInt64.toUInt64).toInt64).toInt32).toInt8.toInt32))), (.int (nar .byte ((((ja.toUInt64 >>> ((16 : Int32) &&& 0x3f).toInt64.toUInt64).toInt64).toInt32).toInt8.toInt32))), (.int (0 : Int32)), (.int (0 : Int32)), (.int (0 : Int32)), (.int (0 : Int32)), (.int (0 : Int32)), (.int (0 : Int32)), (.int (0 : Int32)), (.int (0 : Int32)), (.int (0 : Int32)), (.int (0 : Int32)), (.int (0 : Int32)), (.int (0 : Int32)), (.int (0 : Int32)), (.int (0 : Int32)), (.int (0 : Int32)), (.int (0 : Int32)), (.int (0 : Int32)), (.int (0 : Int32)), (.int (0 : Int32)), (.int (0 : Int32))] := V_b11
    refine w_aload ok d0_92 rfl rfl ?_
    refine w_bipush ok (z := 6) d0_94 rfl ?_
    refine w_lloadN ok d0_96 rfl ?_
    refine w_bipush ok (z := 8) d0_97 rfl ?_
    refine w_lushr ok d0_99 ?_
    refine w_l2i ok d0_100 ?_
    refine w_i2b ok d0_101 ?_
    refine w_bastoreB' ok (i := 6) V_b11 (Nat.le_of_ble_eq_true rfl) (Nat.le_of_ble_eq_true rfl) gn_b11 d0_102 (fun h18 W18 V_b11 => ?_)
    have Z0 := Nat.le_trans Z0 (Keep.of_wr W18).1
    replace V_b11 : Ary Z h18 b11 .byte [(.int (nar .byte ((((ja.toUInt64 >>> ((56 : Int32) &&& 0x3f).toInt64.toUInt64).toInt64).toInt32).toInt8.toInt32))), (.int (nar .byte ((((ja.toUInt64 >>> ((48 : Int32) &&& 0x3f).toInt64.toUInt64).toInt64).toInt32).toInt8.toInt32))), (.int (nar .byte ((((ja.toUInt64 >>> ((40 : Int32) &&& 0x3f).toInt64.toUInt64).toInt64).toInt32).toInt8.toInt32))), (.int (nar .byte ((((ja.toUInt64 >>> ((32 : Int32) &&& 0x3f).toInt64.toUInt64).toInt64).toInt32).toInt8.toInt32))), (.int (nar .byte ((((ja.toUInt64 >>> ((24 : Int32) &&& 0x3f).toInt64.toUInt64).toInt64).toInt32).toInt8.toInt32))), (.int (nar .byte ((((ja.toUInt64 >>> ((16 : Int32) &&& 0x3f).toInt64.toUInt64).toInt64).toInt32).toInt8.toInt32))), (.int (nar .byte ((((ja.toUInt64 >>> ((8 : Int32) &&& 0x3f).toInt64.toUInt64).toInt64).toInt32).toInt8.toInt32))), (.int (0 : Int32)), (.int (0 : Int32)), (.int (0 : Int32)), (.int (0 : Int32)), (.int (0 : Int32)), (.int (0 : Int32)), (.int (0 : Int32)), (.int (0 : Int32)), (.int (0 : Int32)), (.int (0 : Int32)), (.int (0 : Int32)), (.int (0 : Int32)), (.int (0 : Int32)), (.int (0 : Int32)), (.int (0 : Int32)), (.int (0 : Int32)), (.int (0 : Int32)), (.int (0 : Int32)), (.int (0 : Int32))] := V_b11
    refine w_aload ok d0_103 rfl rfl ?_
    refine w_bipush ok (z := 7) d0_105 rfl ?_
    refine w_lloadN ok d0_107 rfl ?_
    refine w_l2i ok d0_108 ?_
    refine w_i2b ok d0_109 ?_
    refine w_bastoreB' ok (i := 7) V_b11 (Nat.le_of_ble_eq_true rfl) (Nat.le_of_ble_eq_true rfl) gn_b11 d0_110 (fun h19 W19 V_b11 => ?_)
    have Z0 := Nat.le_trans Z0 (Keep.of_wr W19).1
    replace V_b11 : Ary Z h19 b11 .byte [(.int (nar .byte ((((ja.toUInt64 >>> ((56 : Int32) &&& 0x3f).toInt64.toUInt64).toInt64).toInt32).toInt8.toInt32))), (.int (nar .byte ((((ja.toUInt64 >>> ((48 : Int32) &&& 0x3f).toInt64.toUInt64).toInt64).toInt32).toInt8.toInt32))), (.int (nar .byte ((((ja.toUInt64 >>> ((40 : Int32) &&& 0x3f).toInt64.toUInt64).toInt64).toInt32).toInt8.toInt32))), (.int (nar .byte ((((ja.toUInt64 >>> ((32 : Int32) &&& 0x3f).toInt64.toUInt64).toInt64).toInt32).toInt8.toInt32))), (.int (nar .byte ((((ja.toUInt64 >>> ((24 : Int32) &&& 0x3f).toInt64.toUInt64).toInt64).toInt32).toInt8.toInt32))), (.int (nar .byte ((((ja.toUInt64 >>> ((16 : Int32) &&& 0x3f).toInt64.toUInt64).toInt64).toInt32).toInt8.toInt32))), (.int (nar .byte ((((ja.toUInt64 >>> ((8 : Int32) &&& 0x3f).toInt64.toUInt64).toInt64).toInt32).toInt8.toInt32))), (.int (nar .byte ((ja.toInt32).toInt8.toInt32))), (.int (0 : Int32)), (.int (0 : Int32)), (.int (0 : Int32)), (.int (0 : Int32)), (.int (0 : Int32)), (.int (0 : Int32)), (.int (0 : Int32)), (.int (0 : Int32)), (.int (0 : Int32)), (.int (0 : Int32)), (.int (0 : Int32)), (.int (0 : Int32)), (.int (0 : Int32)), (.int (0 : Int32)), (.int (0 : Int32)), (.int (0 : Int32)), (.int (0 : Int32)), (.int (0 : Int32))] := V_b11
    refine w_iload ok d0_111 rfl ?_
    refine w_if_eq ok d0_113 (fun q => absurd q (by decide)) (fun _ => ?_)
    refine w_aload ok d0_116 rfl rfl ?_
    refine w_bipush ok (z := 8) d0_118 rfl ?_
    refine w_lloadN ok d0_120 rfl ?_
    refine w_bipush ok (z := 56) d0_121 rfl ?_
    refine w_lushr ok d0_123 ?_
    refine w_l2i ok d0_124 ?_
    refine w_i2b ok d0_125 ?_
    refine w_bastoreB' ok (i := 8) V_b11 (Nat.le_of_ble_eq_true rfl) (Nat.le_of_ble_eq_true rfl) gn_b11 d0_126 (fun h20 W20 V_b11 => ?_)
    have Z0 := Nat.le_trans Z0 (Keep.of_wr W20).1
    replace V_b11 : Ary Z h20 b11 .byte [(.int (nar .byte ((((ja.toUInt64 >>> ((56 : Int32) &&& 0x3f).toInt64.toUInt64).toInt64).toInt32).toInt8.toInt32))), (.int (nar .byte ((((ja.toUInt64 >>> ((48 : Int32) &&& 0x3f).toInt64.toUInt64).toInt64).toInt32).toInt8.toInt32))), (.int (nar .byte ((((ja.toUInt64 >>> ((40 : Int32) &&& 0x3f).toInt64.toUInt64).toInt64).toInt32).toInt8.toInt32))), (.int (nar .byte ((((ja.toUInt64 >>> ((32 : Int32) &&& 0x3f).toInt64.toUInt64).toInt64).toInt32).toInt8.toInt32))), (.int (nar .byte ((((ja.toUInt64 >>> ((24 : Int32) &&& 0x3f).toInt64.toUInt64).toInt64).toInt32).toInt8.toInt32))), (.int (nar .byte ((((ja.toUInt64 >>> ((16 : Int32) &&& 0x3f).toInt64.toUInt64).toInt64).toInt32).toInt8.toInt32))), (.int (nar .byte ((((ja.toUInt64 >>> ((8 : Int32) &&& 0x3f).toInt64.toUInt64).toInt64).toInt32).toInt8.toInt32))), (.int (nar .byte ((ja.toInt32).toInt8.toInt32))), (.int (nar .byte ((((jb.toUInt64 >>> ((56 : Int32) &&& 0x3f).toInt64.toUInt64).toInt64).toInt32).toInt8.toInt32))), (.int (0 : Int32)), (.int (0 : Int32)), (.int (0 : Int32)), (.int (0 : Int32)), (.int (0 : Int32)), (.int (0 : Int32)), (.int (0 : Int32)), (.int (0 : Int32)), (.int (0 : Int32)), (.int (0 : Int32)), (.int (0 : Int32)), (.int (0 : Int32)), (.int (0 : Int32)), (.int (0 : Int32)), (.int (0 : Int32)), (.int (0 : Int32)), (.int (0 : Int32))] := V_b11
    refine w_aload ok d0_127 rfl rfl ?_
    refine w_bipush ok (z := 9) d0_129 rfl ?_
    refine w_lloadN ok d0_131 rfl ?_
    refine w_bipush ok (z := 48) d0_132 rfl ?_
    refine w_lushr ok d0_134 ?_
    refine w_l2i ok d0_135 ?_
    refine w_i2b ok d0_136 ?_
    refine w_bastoreB' ok (i := 9) V_b11 (Nat.le_of_ble_eq_true rfl) (Nat.le_of_ble_eq_true rfl) gn_b11 d0_137 (fun h21 W21 V_b11 => ?_)
    have Z0 := Nat.le_trans Z0 (Keep.of_wr W21).1
    replace V_b11 : Ary Z h21 b11 .byte [(.int (nar .byte ((((ja.toUInt64 >>> ((56 : Int32) &&& 0x3f).toInt64.toUInt64).toInt64).toInt32).toInt8.toInt32))), (.int (nar .byte ((((ja.toUInt64 >>> ((48 : Int32) &&& 0x3f).toInt64.toUInt64).toInt64).toInt32).toInt8.toInt32))), (.int (nar .byte ((((ja.toUInt64 >>> ((40 : Int32) &&& 0x3f).toInt64.toUInt64).toInt64).toInt32).toInt8.toInt32))), (.int (nar .byte ((((ja.toUInt64 >>> ((32 : Int32) &&& 0x3f).toInt64.toUInt64).toInt64).toInt32).toInt8.toInt32))), (.int (nar .byte ((((ja.toUInt64 >>> ((24 : Int32) &&& 0x3f).toInt64.toUInt64).toInt64).toInt32).toInt8.toInt32))), (.int (nar .byte ((((ja.toUInt64 >>> ((16 : Int32) &&& 0x3f).toInt64.toUInt64).toInt64).toInt32).toInt8.toInt32))), (.int (nar .byte ((((ja.toUInt64 >>> ((8 : Int32) &&& 0x3f).toInt64.toUInt64).toInt64).toInt32).toInt8.toInt32))), (.int (nar .byte ((ja.toInt32).toInt8.toInt32))), (.int (nar .byte ((((jb.toUInt64 >>> ((56 : Int32) &&& 0x3f).toInt64.toUInt64).toInt64).toInt32).toInt8.toInt32))), (.int (nar .byte ((((jb.toUInt64 >>> ((48 : Int32) &&& 0x3f).toInt64.toUInt64).toInt64).toInt32).toInt8.toInt32))), (.int (0 : Int32)), (.int (0 : Int32)), (.int (0 : Int32)), (.int (0 : Int32)), (.int (0 : Int32)), (.int (0 : Int32)), (.int (0 : Int32)), (.int (0 : Int32)), (.int (0 : Int32)), (.int (0 : Int32)), (.int (0 : Int32)), (.int (0 : Int32)), (.int (0 : Int32)), (.int (0 : Int32)), (.int (0 : Int32)), (.int (0 : Int32))] := V_b11
    refine w_aload ok d0_138 rfl rfl ?_
    refine w_bipush ok (z := 10) d0_140 rfl ?_
    refine w_lloadN ok d0_142 rfl ?_
    refine w_bipush ok (z := 40) d0_143 rfl ?_
    refine w_lushr ok d0_145 ?_
    refine w_l2i ok d0_146 ?_
    refine w_i2b ok d0_147 ?_
    refine w_bastoreB' ok (i := 10) V_b11 (Nat.le_of_ble_eq_true rfl) (Nat.le_of_ble_eq_true rfl) gn_b11 d0_148 (fun h22 W22 V_b11 => ?_)
    have Z0 := Nat.le_trans Z0 (Keep.of_wr W22).1
    replace V_b11 : Ary Z h22 b11 .byte [(.int (nar .byte ((((ja.toUInt64 >>> ((56 : Int32) &&& 0x3f).toInt64.toUInt64).toInt64).toInt32).toInt8.toInt32))), (.int (nar .byte ((((ja.toUInt64 >>> ((48 : Int32) &&& 0x3f).toInt64.toUInt64).toInt64).toInt32).toInt8.toInt32))), (.int (nar .byte ((((ja.toUInt64 >>> ((40 : Int32) &&& 0x3f).toInt64.toUInt64).toInt64).toInt32).toInt8.toInt32))), (.int (nar .byte ((((ja.toUInt64 >>> ((32 : Int32) &&& 0x3f).toInt64.toUInt64).toInt64).toInt32).toInt8.toInt32))), (.int (nar .byte ((((ja.toUInt64 >>> ((24 : Int32) &&& 0x3f).toInt64.toUInt64).toInt64).toInt32).toInt8.toInt32))), (.int (nar .byte ((((ja.toUInt64 >>> ((16 : Int32) &&& 0x3f).toInt64.toUInt64).toInt64).toInt32).toInt8.toInt32))), (.int (nar .byte ((((ja.toUInt64 >>> ((8 : Int32) &&& 0x3f).toInt64.toUInt64).toInt64).toInt32).toInt8.toInt32))), (.int (nar .byte ((ja.toInt32).toInt8.toInt32))), (.int (nar .byte ((((jb.toUInt64 >>> ((56 : Int32) &&& 0x3f).toInt64.toUInt64).toInt64).toInt32).toInt8.toInt32))), (.int (nar .byte ((((jb.toUInt64 >>> ((48 : Int32) &&& 0x3f).toInt64.toUInt64).toInt64).toInt32).toInt8.toInt32))), (.int (nar .byte ((((jb.toUInt64 >>> ((40 : Int32) &&& 0x3f).toInt64.toUInt64).toInt64).toInt32).toInt8.toInt32))), (.int (0 : Int32)), (.int (0 : Int32)), (.int (0 : Int32)), (.int (0 : Int32)), (.int (0 : Int32)), (.int (0 : Int32)), (.int (0 : Int32)), (.int (0 : Int32)), (.int (0 : Int32)), (.int (0 : Int32)), (.int (0 : Int32)), (.int (0 : Int32)), (.int (0 : Int32)), (.int (0 : Int32)), (.int (0 : Int32))] := V_b11
    refine w_aload ok d0_149 rfl rfl ?_
    refine w_bipush ok (z := 11) d0_151 rfl ?_
    refine w_lloadN ok d0_153 rfl ?_
    refine w_bipush ok (z := 32) d0_154 rfl ?_
    refine w_lushr ok d0_156 ?_
    refine w_l2i ok d0_157 ?_
    refine w_i2b ok d0_158 ?_
    refine w_bastoreB' ok (i := 11) V_b11 (Nat.le_of_ble_eq_true rfl) (Nat.le_of_ble_eq_true rfl) gn_b11 d0_159 (fun h23 W23 V_b11 => ?_)
    have Z0 := Nat.le_trans Z0 (Keep.of_wr W23).1
    replace V_b11 : Ary Z h23 b11 .byte [(.int (nar .byte ((((ja.toUInt64 >>> ((56 : Int32) &&& 0x3f).toInt64.toUInt64).toInt64).toInt32).toInt8.toInt32))), (.int (nar .byte ((((ja.toUInt64 >>> ((48 : Int32) &&& 0x3f).toInt64.toUInt64).toInt64).toInt32).toInt8.toInt32))), (.int (nar .byte ((((ja.toUInt64 >>> ((40 : Int32) &&& 0x3f).toInt64.toUInt64).toInt64).toInt32).toInt8.toInt32))), (.int (nar .byte ((((ja.toUInt64 >>> ((32 : Int32) &&& 0x3f).toInt64.toUInt64).toInt64).toInt32).toInt8.toInt32))), (.int (nar .byte ((((ja.toUInt64 >>> ((24 : Int32) &&& 0x3f).toInt64.toUInt64).toInt64).toInt32).toInt8.toInt32))), (.int (nar .byte ((((ja.toUInt64 >>> ((16 : Int32) &&& 0x3f).toInt64.toUInt64).toInt64).toInt32).toInt8.toInt32))), (.int (nar .byte ((((ja.toUInt64 >>> ((8 : Int32) &&& 0x3f).toInt64.toUInt64).toInt64).toInt32).toInt8.toInt32))), (.int (nar .byte ((ja.toInt32).toInt8.toInt32))), (.int (nar .byte ((((jb.toUInt64 >>> ((56 : Int32) &&& 0x3f).toInt64.toUInt64).toInt64).toInt32).toInt8.toInt32))), (.int (nar .byte ((((jb.toUInt64 >>> ((48 : Int32) &&& 0x3f).toInt64.toUInt64).toInt64).toInt32).toInt8.toInt32))), (.int (nar .byte ((((jb.toUInt64 >>> ((40 : Int32) &&& 0x3f).toInt64.toUInt64).toInt64).toInt32).toInt8.toInt32))), (.int (nar .byte ((((jb.toUInt64 >>> ((32 : Int32) &&& 0x3f).toInt64.toUInt64).toInt64).toInt32).toInt8.toInt32))), (.int (0 : Int32)), (.int (0 : Int32)), (.int (0 : Int32)), (.int (0 : Int32)), (.int (0 : Int32)), (.int (0 : Int32)), (.int (0 : Int32)), (.int (0 : Int32)), (.int (0 : Int32)), (.int (0 : Int32)), (.int (0 : Int32)), (.int (0 : Int32)), (.int (0 : Int32)), (.int (0 : Int32))] := V_b11
    refine w_aload ok d0_160 rfl rfl ?_
    refine w_bipush ok (z := 12) d0_162 rfl ?_
    refine w_lloadN ok d0_164 rfl ?_
    refine w_bipush ok (z := 24) d0_165 rfl ?_
    refine w_lushr ok d0_167 ?_
    refine w_l2i ok d0_168 ?_
    refine w_i2b ok d0_169 ?_
    refine w_bastoreB' ok (i := 12) V_b11 (Nat.le_of_ble_eq_true rfl) (Nat.le_of_ble_eq_true rfl) gn_b11 d0_170 (fun h24 W24 V_b11 => ?_)
    have Z0 := Nat.le_trans Z0 (Keep.of_wr W24).1
    replace V_b11 : Ary Z h24 b11 .byte [(.int (nar .byte ((((ja.toUInt64 >>> ((56 : Int32) &&& 0x3f).toInt64.toUInt64).toInt64).toInt32).toInt8.toInt32))), (.int (nar .byte ((((ja.toUInt64 >>> ((48 : Int32) &&& 0x3f).toInt64.toUInt64).toInt64).toInt32).toInt8.toInt32))), (.int (nar .byte ((((ja.toUInt64 >>> ((40 : Int32) &&& 0x3f).toInt64.toUInt64).toInt64).toInt32).toInt8.toInt32))), (.int (nar .byte ((((ja.toUInt64 >>> ((32 : Int32) &&& 0x3f).toInt64.toUInt64).toInt64).toInt32).toInt8.toInt32))), (.int (nar .byte ((((ja.toUInt64 >>> ((24 : Int32) &&& 0x3f).toInt64.toUInt64).toInt64).toInt32).toInt8.toInt32))), (.int (nar .byte ((((ja.toUInt64 >>> ((16 : Int32) &&& 0x3f).toInt64.toUInt64).toInt64).toInt32).toInt8.toInt32))), (.int (nar .byte ((((ja.toUInt64 >>> ((8 : Int32) &&& 0x3f).toInt64.toUInt64).toInt64).toInt32).toInt8.toInt32))), (.int (nar .byte ((ja.toInt32).toInt8.toInt32))), (.int (nar .byte ((((jb.toUInt64 >>> ((56 : Int32) &&& 0x3f).toInt64.toUInt64).toInt64).toInt32).toInt8.toInt32))), (.int (nar .byte ((((jb.toUInt64 >>> ((48 : Int32) &&& 0x3f).toInt64.toUInt64).toInt64).toInt32).toInt8.toInt32))), (.int (nar .byte ((((jb.toUInt64 >>> ((40 : Int32) &&& 0x3f).toInt64.toUInt64).toInt64).toInt32).toInt8.toInt32))), (.int (nar .byte ((((jb.toUInt64 >>> ((32 : Int32) &&& 0x3f).toInt64.toUInt64).toInt64).toInt32).toInt8.toInt32))), (.int (nar .byte ((((jb.toUInt64 >>> ((24 : Int32) &&& 0x3f).toInt64.toUInt64).toInt64).toInt32).toInt8.toInt32))), (.int (0 : Int32)), (.int (0 : Int32)), (.int (0 : Int32)), (.int (0 : Int32)), (.int (0 : Int32)), (.int (0 : Int32)), (.int (0 : Int32)), (.int (0 : Int32)), (.int (0 : Int32)), (.int (0 : Int32)), (.int (0 : Int32)), (.int (0 : Int32)), (.int (0 : Int32))] := V_b11
    refine w_aload ok d0_171 rfl rfl ?_
    refine w_bipush ok (z := 13) d0_173 rfl ?_
    refine w_lloadN ok d0_175 rfl ?_
    refine w_bipush ok (z := 16) d0_176 rfl ?_
    refine w_lushr ok d0_178 ?_
    refine w_l2i ok d0_179 ?_
    refine w_i2b ok d0_180 ?_
    refine w_bastoreB' ok (i := 13) V_b11 (Nat.le_of_ble_eq_true rfl) (Nat.le_of_ble_eq_true rfl) gn_b11 d0_181 (fun h25 W25 V_b11 => ?_)
    have Z0 := Nat.le_trans Z0 (Keep.of_wr W25).1
    replace V_b11 : Ary Z h25 b11 .byte [(.int (nar .byte ((((ja.toUInt64 >>> ((56 : Int32) &&& 0x3f).toInt64.toUInt64).toInt64).toInt32).toInt8.toInt32))), (.int (nar .byte ((((ja.toUInt64 >>> ((48 : Int32) &&& 0x3f).toInt64.toUInt64).toInt64).toInt32).toInt8.toInt32))), (.int (nar .byte ((((ja.toUInt64 >>> ((40 : Int32) &&& 0x3f).toInt64.toUInt64).toInt64).toInt32).toInt8.toInt32))), (.int (nar .byte ((((ja.toUInt64 >>> ((32 : Int32) &&& 0x3f).toInt64.toUInt64).toInt64).toInt32).toInt8.toInt32))), (.int (nar .byte ((((ja.toUInt64 >>> ((24 : Int32) &&& 0x3f).toInt64.toUInt64).toInt64).toInt32).toInt8.toInt32))), (.int (nar .byte ((((ja.toUInt64 >>> ((16 : Int32) &&& 0x3f).toInt64.toUInt64).toInt64).toInt32).toInt8.toInt32))), (.int (nar .byte ((((ja.toUInt64 >>> ((8 : Int32) &&& 0x3f).toInt64.toUInt64).toInt64).toInt32).toInt8.toInt32))), (.int (nar .byte ((ja.toInt32).toInt8.toInt32))), (.int (nar .byte ((((jb.toUInt64 >>> ((56 : Int32) &&& 0x3f).toInt64.toUInt64).toInt64).toInt32).toInt8.toInt32))), (.int (nar .byte ((((jb.toUInt64 >>> ((48 : Int32) &&& 0x3f).toInt64.toUInt64).toInt64).toInt32).toInt8.toInt32))), (.int (nar .byte ((((jb.toUInt64 >>> ((40 : Int32) &&& 0x3f).toInt64.toUInt64).toInt64).toInt32).toInt8.toInt32))), (.int (nar .byte ((((jb.toUInt64 >>> ((32 : Int32) &&& 0x3f).toInt64.toUInt64).toInt64).toInt32).toInt8.toInt32))), (.int (nar .byte ((((jb.toUInt64 >>> ((24 : Int32) &&& 0x3f).toInt64.toUInt64).toInt64).toInt32).toInt8.toInt32))), (.int (nar .byte ((((jb.toUInt64 >>> ((16 : Int32) &&& 0x3f).toInt64.toUInt64).toInt64).toInt32).toInt8.toInt32))), (.int (0 : Int32)), (.int (0 : Int32)), (.int (0 : Int32)), (.int (0 : Int32)), (.int (0 : Int32)), (.int (0 : Int32)), (.int (0 : Int32)), (.int (0 : Int32)), (.int (0 : Int32)), (.int (0 : Int32)), (.int (0 : Int32)), (.int (0 : Int32))] := V_b11
    refine w_aload ok d0_182 rfl rfl ?_
    refine w_bipush ok (z := 14) d0_184 rfl ?_
    refine w_lloadN ok d0_186 rfl ?_
    refine w_bipush ok (z := 8) d0_187 rfl ?_
    refine w_lushr ok d0_189 ?_
    refine w_l2i ok d0_190 ?_
    refine w_i2b ok d0_191 ?_
    refine w_bastoreB' ok (i := 14) V_b11 (Nat.le_of_ble_eq_true rfl) (Nat.le_of_ble_eq_true rfl) gn_b11 d0_192 (fun h26 W26 V_b11 => ?_)
    have Z0 := Nat.le_trans Z0 (Keep.of_wr W26).1
    replace V_b11 : Ary Z h26 b11 .byte [(.int (nar .byte ((((ja.toUInt64 >>> ((56 : Int32) &&& 0x3f).toInt64.toUInt64).toInt64).toInt32).toInt8.toInt32))), (.int (nar .byte ((((ja.toUInt64 >>> ((48 : Int32) &&& 0x3f).toInt64.toUInt64).toInt64).toInt32).toInt8.toInt32))), (.int (nar .byte ((((ja.toUInt64 >>> ((40 : Int32) &&& 0x3f).toInt64.toUInt64).toInt64).toInt32).toInt8.toInt32))), (.int (nar .byte ((((ja.toUInt64 >>> ((32 : Int32) &&& 0x3f).toInt64.toUInt64).toInt64).toInt32).toInt8.toInt32))), (.int (nar .byte ((((ja.toUInt64 >>> ((24 : Int32) &&& 0x3f).toInt64.toUInt64).toInt64).toInt32).toInt8.toInt32))), (.int (nar .byte ((((ja.toUInt64 >>> ((16 : Int32) &&& 0x3f).toInt64.toUInt64).toInt64).toInt32).toInt8.toInt32))), (.int (nar .byte ((((ja.toUInt64 >>> ((8 : Int32) &&& 0x3f).toInt64.toUInt64).toInt64).toInt32).toInt8.toInt32))), (.int (nar .byte ((ja.toInt32).toInt8.toInt32))), (.int (nar .byte ((((jb.toUInt64 >>> ((56 : Int32) &&& 0x3f).toInt64.toUInt64).toInt64).toInt32).toInt8.toInt32))), (.int (nar .byte ((((jb.toUInt64 >>> ((48 : Int32) &&& 0x3f).toInt64.toUInt64).toInt64).toInt32).toInt8.toInt32))), (.int (nar .byte ((((jb.toUInt64 >>> ((40 : Int32) &&& 0x3f).toInt64.toUInt64).toInt64).toInt32).toInt8.toInt32))), (.int (nar .byte ((((jb.toUInt64 >>> ((32 : Int32) &&& 0x3f).toInt64.toUInt64).toInt64).toInt32).toInt8.toInt32))), (.int (nar .byte ((((jb.toUInt64 >>> ((24 : Int32) &&& 0x3f).toInt64.toUInt64).toInt64).toInt32).toInt8.toInt32))), (.int (nar .byte ((((jb.toUInt64 >>> ((16 : Int32) &&& 0x3f).toInt64.toUInt64).toInt64).toInt32).toInt8.toInt32))), (.int (nar .byte ((((jb.toUInt64 >>> ((8 : Int32) &&& 0x3f).toInt64.toUInt64).toInt64).toInt32).toInt8.toInt32))), (.int (0 : Int32)), (.int (0 : Int32)), (.int (0 : Int32)), (.int (0 : Int32)), (.int (0 : Int32)), (.int (0 : Int32)), (.int (0 : Int32)), (.int (0 : Int32)), (.int (0 : Int32)), (.int (0 : Int32)), (.int (0 : Int32))] := V_b11
    refine w_aload ok d0_193 rfl rfl ?_
    refine w_bipush ok (z := 15) d0_195 rfl ?_
    refine w_lloadN ok d0_197 rfl ?_
    refine w_l2i ok d0_198 ?_
    refine w_i2b ok d0_199 ?_
    refine w_bastoreB' ok (i := 15) V_b11 (Nat.le_of_ble_eq_true rfl) (Nat.le_of_ble_eq_true rfl) gn_b11 d0_200 (fun h27 W27 V_b11 => ?_)
    have Z0 := Nat.le_trans Z0 (Keep.of_wr W27).1
    replace V_b11 : Ary Z h27 b11 .byte [(.int (nar .byte ((((ja.toUInt64 >>> ((56 : Int32) &&& 0x3f).toInt64.toUInt64).toInt64).toInt32).toInt8.toInt32))), (.int (nar .byte ((((ja.toUInt64 >>> ((48 : Int32) &&& 0x3f).toInt64.toUInt64).toInt64).toInt32).toInt8.toInt32))), (.int (nar .byte ((((ja.toUInt64 >>> ((40 : Int32) &&& 0x3f).toInt64.toUInt64).toInt64).toInt32).toInt8.toInt32))), (.int (nar .byte ((((ja.toUInt64 >>> ((32 : Int32) &&& 0x3f).toInt64.toUInt64).toInt64).toInt32).toInt8.toInt32))), (.int (nar .byte ((((ja.toUInt64 >>> ((24 : Int32) &&& 0x3f).toInt64.toUInt64).toInt64).toInt32).toInt8.toInt32))), (.int (nar .byte ((((ja.toUInt64 >>> ((16 : Int32) &&& 0x3f).toInt64.toUInt64).toInt64).toInt32).toInt8.toInt32))), (.int (nar .byte ((((ja.toUInt64 >>> ((8 : Int32) &&& 0x3f).toInt64.toUInt64).toInt64).toInt32).toInt8.toInt32))), (.int (nar .byte ((ja.toInt32).toInt8.toInt32))), (.int (nar .byte ((((jb.toUInt64 >>> ((56 : Int32) &&& 0x3f).toInt64.toUInt64).toInt64).toInt32).toInt8.toInt32))), (.int (nar .byte ((((jb.toUInt64 >>> ((48 : Int32) &&& 0x3f).toInt64.toUInt64).toInt64).toInt32).toInt8.toInt32))), (.int (nar .byte ((((jb.toUInt64 >>> ((40 : Int32) &&& 0x3f).toInt64.toUInt64).toInt64).toInt32).toInt8.toInt32))), (.int (nar .byte ((((jb.toUInt64 >>> ((32 : Int32) &&& 0x3f).toInt64.toUInt64).toInt64).toInt32).toInt8.toInt32))), (.int (nar .byte ((((jb.toUInt64 >>> ((24 : Int32) &&& 0x3f).toInt64.toUInt64).toInt64).toInt32).toInt8.toInt32))), (.int (nar .byte ((((jb.toUInt64 >>> ((16 : Int32) &&& 0x3f).toInt64.toUInt64).toInt64).toInt32).toInt8.toInt32))), (.int (nar .byte ((((jb.toUInt64 >>> ((8 : Int32) &&& 0x3f).toInt64.toUInt64).toInt64).toInt32).toInt8.toInt32))), (.int (nar .byte ((jb.toInt32).toInt8.toInt32))), (.int (0 : Int32)), (.int (0 : Int32)), (.int (0 : Int32)), (.int (0 : Int32)), (.int (0 : Int32)), (.int (0 : Int32)), (.int (0 : Int32)), (.int (0 : Int32)), (.int (0 : Int32)), (.int (0 : Int32))] := V_b11
    refine w_aload ok d0_201 rfl rfl ?_
    refine w_bipush ok (z := 16) d0_203 rfl ?_
    refine w_lload ok d0_205 rfl ?_
    refine w_bipush ok (z := 56) d0_207 rfl ?_
    refine w_lushr ok d0_209 ?_
    refine w_l2i ok d0_210 ?_
    refine w_i2b ok d0_211 ?_
    refine w_bastoreB' ok (i := 16) V_b11 (Nat.le_of_ble_eq_true rfl) (Nat.le_of_ble_eq_true rfl) gn_b11 d0_212 (fun h28 W28 V_b11 => ?_)
    have Z0 := Nat.le_trans Z0 (Keep.of_wr W28).1
    replace V_b11 : Ary Z h28 b11 .byte [(.int (nar .byte ((((ja.toUInt64 >>> ((56 : Int32) &&& 0x3f).toInt64.toUInt64).toInt64).toInt32).toInt8.toInt32))), (.int (nar .byte ((((ja.toUInt64 >>> ((48 : Int32) &&& 0x3f).toInt64.toUInt64).toInt64).toInt32).toInt8.toInt32))), (.int (nar .byte ((((ja.toUInt64 >>> ((40 : Int32) &&& 0x3f).toInt64.toUInt64).toInt64).toInt32).toInt8.toInt32))), (.int (nar .byte ((((ja.toUInt64 >>> ((32 : Int32) &&& 0x3f).toInt64.toUInt64).toInt64).toInt32).toInt8.toInt32))), (.int (nar .byte ((((ja.toUInt64 >>> ((24 : Int32) &&& 0x3f).toInt64.toUInt64).toInt64).toInt32).toInt8.toInt32))), (.int (nar .byte ((((ja.toUInt64 >>> ((16 : Int32) &&& 0x3f).toInt64.toUInt64).toInt64).toInt32).toInt8.toInt32))), (.int (nar .byte ((((ja.toUInt64 >>> ((8 : Int32) &&& 0x3f).toInt64.toUInt64).toInt64).toInt32).toInt8.toInt32))), (.int (nar .byte ((ja.toInt32).toInt8.toInt32))), (.int (nar .byte ((((jb.toUInt64 >>> ((56 : Int32) &&& 0x3f).toInt64.toUInt64).toInt64).toInt32).toInt8.toInt32))), (.int (nar .byte ((((jb.toUInt64 >>> ((48 : Int32) &&& 0x3f).toInt64.toUInt64).toInt64).toInt32).toInt8.toInt32))), (.int (nar .byte ((((jb.toUInt64 >>> ((40 : Int32) &&& 0x3f).toInt64.toUInt64).toInt64).toInt32).toInt8.toInt32))), (.int (nar .byte ((((jb.toUInt64 >>> ((32 : Int32) &&& 0x3f).toInt64.toUInt64).toInt64).toInt32).toInt8.toInt32))), (.int (nar .byte ((((jb.toUInt64 >>> ((24 : Int32) &&& 0x3f).toInt64.toUInt64).toInt64).toInt32).toInt8.toInt32))), (.int (nar .byte ((((jb.toUInt64 >>> ((16 : Int32) &&& 0x3f).toInt64.toUInt64).toInt64).toInt32).toInt8.toInt32))), (.int (nar .byte ((((jb.toUInt64 >>> ((8 : Int32) &&& 0x3f).toInt64.toUInt64).toInt64).toInt32).toInt8.toInt32))), (.int (nar .byte ((jb.toInt32).toInt8.toInt32))), (.int (nar .byte ((((jc.toUInt64 >>> ((56 : Int32) &&& 0x3f).toInt64.toUInt64).toInt64).toInt32).toInt8.toInt32))), (.int (0 : Int32)), (.int (0 : Int32)), (.int (0 : Int32)), (.int (0 : Int32)), (.int (0 : Int32)), (.int (0 : Int32)), (.int (0 : Int32)), (.int (0 : Int32)), (.int (0 : Int32))] := V_b11
    refine w_aload ok d0_213 rfl rfl ?_
    refine w_bipush ok (z := 17) d0_215 rfl ?_
    refine w_lload ok d0_217 rfl ?_
    refine w_bipush ok (z := 48) d0_219 rfl ?_
    refine w_lushr ok d0_221 ?_
    refine w_l2i ok d0_222 ?_
    refine w_i2b ok d0_223 ?_
    refine w_bastoreB' ok (i := 17) V_b11 (Nat.le_of_ble_eq_true rfl) (Nat.le_of_ble_eq_true rfl) gn_b11 d0_224 (fun h29 W29 V_b11 => ?_)
    have Z0 := Nat.le_trans Z0 (Keep.of_wr W29).1
    replace V_b11 : Ary Z h29 b11 .byte [(.int (nar .byte ((((ja.toUInt64 >>> ((56 : Int32) &&& 0x3f).toInt64.toUInt64).toInt64).toInt32).toInt8.toInt32))), (.int (nar .byte ((((ja.toUInt64 >>> ((48 : Int32) &&& 0x3f).toInt64.toUInt64).toInt64).toInt32).toInt8.toInt32))), (.int (nar .byte ((((ja.toUInt64 >>> ((40 : Int32) &&& 0x3f).toInt64.toUInt64).toInt64).toInt32).toInt8.toInt32))), (.int (nar .byte ((((ja.toUInt64 >>> ((32 : Int32) &&& 0x3f).toInt64.toUInt64).toInt64).toInt32).toInt8.toInt32))), (.int (nar .byte ((((ja.toUInt64 >>> ((24 : Int32) &&& 0x3f).toInt64.toUInt64).toInt64).toInt32).toInt8.toInt32))), (.int (nar .byte ((((ja.toUInt64 >>> ((16 : Int32) &&& 0x3f).toInt64.toUInt64).toInt64).toInt32).toInt8.toInt32))), (.int (nar .byte ((((ja.toUInt64 >>> ((8 : Int32) &&& 0x3f).toInt64.toUInt64).toInt64).toInt32).toInt8.toInt32))), (.int (nar .byte ((ja.toInt32).toInt8.toInt32))), (.int (nar .byte ((((jb.toUInt64 >>> ((56 : Int32) &&& 0x3f).toInt64.toUInt64).toInt64).toInt32).toInt8.toInt32))), (.int (nar .byte ((((jb.toUInt64 >>> ((48 : Int32) &&& 0x3f).toInt64.toUInt64).toInt64).toInt32).toInt8.toInt32))), (.int (nar .byte ((((jb.toUInt64 >>> ((40 : Int32) &&& 0x3f).toInt64.toUInt64).toInt64).toInt32).toInt8.toInt32))), (.int (nar .byte ((((jb.toUInt64 >>> ((32 : Int32) &&& 0x3f).toInt64.toUInt64).toInt64).toInt32).toInt8.toInt32))), (.int (nar .byte ((((jb.toUInt64 >>> ((24 : Int32) &&& 0x3f).toInt64.toUInt64).toInt64).toInt32).toInt8.toInt32))), (.int (nar .byte ((((jb.toUInt64 >>> ((16 : Int32) &&& 0x3f).toInt64.toUInt64).toInt64).toInt32).toInt8.toInt32))), (.int (nar .byte ((((jb.toUInt64 >>> ((8 : Int32) &&& 0x3f).toInt64.toUInt64).toInt64).toInt32).toInt8.toInt32))), (.int (nar .byte ((jb.toInt32).toInt8.toInt32))), (.int (nar .byte ((((jc.toUInt64 >>> ((56 : Int32) &&& 0x3f).toInt64.toUInt64).toInt64).toInt32).toInt8.toInt32))), (.int (nar .byte ((((jc.toUInt64 >>> ((48 : Int32) &&& 0x3f).toInt64.toUInt64).toInt64).toInt32).toInt8.toInt32))), (.int (0 : Int32)), (.int (0 : Int32)), (.int (0 : Int32)), (.int (0 : Int32)), (.int (0 : Int32)), (.int (0 : Int32)), (.int (0 : Int32)), (.int (0 : Int32))] := V_b11
    refine w_aload ok d0_225 rfl rfl ?_
    refine w_bipush ok (z := 18) d0_227 rfl ?_
    refine w_lload ok d0_229 rfl ?_
    refine w_bipush ok (z := 40) d0_231 rfl ?_
    refine w_lushr ok d0_233 ?_
    refine w_l2i ok d0_234 ?_
    refine w_i2b ok d0_235 ?_
    refine w_bastoreB' ok (i := 18) V_b11 (Nat.le_of_ble_eq_true rfl) (Nat.le_of_ble_eq_true rfl) gn_b11 d0_236 (fun h30 W30 V_b11 => ?_)
    have Z0 := Nat.le_trans Z0 (Keep.of_wr W30).1
    replace V_b11 : Ary Z h30 b11 .byte [(.int (nar .byte ((((ja.toUInt64 >>> ((56 : Int32) &&& 0x3f).toInt64.toUInt64).toInt64).toInt32).toInt8.toInt32))), (.int (nar .byte ((((ja.toUInt64 >>> ((48 : Int32) &&& 0x3f).toInt64.toUInt64).toInt64).toInt32).toInt8.toInt32))), (.int (nar .byte ((((ja.toUInt64 >>> ((40 : Int32) &&& 0x3f).toInt64.toUInt64).toInt64).toInt32).toInt8.toInt32))), (.int (nar .byte ((((ja.toUInt64 >>> ((32 : Int32) &&& 0x3f).toInt64.toUInt64).toInt64).toInt32).toInt8.toInt32))), (.int (nar .byte ((((ja.toUInt64 >>> ((24 : Int32) &&& 0x3f).toInt64.toUInt64).toInt64).toInt32).toInt8.toInt32))), (.int (nar .byte ((((ja.toUInt64 >>> ((16 : Int32) &&& 0x3f).toInt64.toUInt64).toInt64).toInt32).toInt8.toInt32))), (.int (nar .byte ((((ja.toUInt64 >>> ((8 : Int32) &&& 0x3f).toInt64.toUInt64).toInt64).toInt32).toInt8.toInt32))), (.int (nar .byte ((ja.toInt32).toInt8.toInt32))), (.int (nar .byte ((((jb.toUInt64 >>> ((56 : Int32) &&& 0x3f).toInt64.toUInt64).toInt64).toInt32).toInt8.toInt32))), (.int (nar .byte ((((jb.toUInt64 >>> ((48 : Int32) &&& 0x3f).toInt64.toUInt64).toInt64).toInt32).toInt8.toInt32))), (.int (nar .byte ((((jb.toUInt64 >>> ((40 : Int32) &&& 0x3f).toInt64.toUInt64).toInt64).toInt32).toInt8.toInt32))), (.int (nar .byte ((((jb.toUInt64 >>> ((32 : Int32) &&& 0x3f).toInt64.toUInt64).toInt64).toInt32).toInt8.toInt32))), (.int (nar .byte ((((jb.toUInt64 >>> ((24 : Int32) &&& 0x3f).toInt64.toUInt64).toInt64).toInt32).toInt8.toInt32))), (.int (nar .byte ((((jb.toUInt64 >>> ((16 : Int32) &&& 0x3f).toInt64.toUInt64).toInt64).toInt32).toInt8.toInt32))), (.int (nar .byte ((((jb.toUInt64 >>> ((8 : Int32) &&& 0x3f).toInt64.toUInt64).toInt64).toInt32).toInt8.toInt32))), (.int (nar .byte ((jb.toInt32).toInt8.toInt32))), (.int (nar .byte ((((jc.toUInt64 >>> ((56 : Int32) &&& 0x3f).toInt64.toUInt64).toInt64).toInt32).toInt8.toInt32))), (.int (nar .byte ((((jc.toUInt64 >>> ((48 : Int32) &&& 0x3f).toInt64.toUInt64).toInt64).toInt32).toInt8.toInt32))), (.int (nar .byte ((((jc.toUInt64 >>> ((40 : Int32) &&& 0x3f).toInt64.toUInt64).toInt64).toInt32).toInt8.toInt32))), (.int (0 : Int32)), (.int (0 : Int32)), (.int (0 : Int32)), (.int (0 : Int32)), (.int (0 : Int32)), (.int (0 : Int32)), (.int (0 : Int32))] := V_b11
    refine w_aload ok d0_237 rfl rfl ?_
    refine w_bipush ok (z := 19) d0_239 rfl ?_
    refine w_lload ok d0_241 rfl ?_
    refine w_bipush ok (z := 32) d0_243 rfl ?_
    refine w_lushr ok d0_245 ?_
    refine w_l2i ok d0_246 ?_
    refine w_i2b ok d0_247 ?_
    refine w_bastoreB' ok (i := 19) V_b11 (Nat.le_of_ble_eq_true rfl) (Nat.le_of_ble_eq_true rfl) gn_b11 d0_248 (fun h31 W31 V_b11 => ?_)
    have Z0 := Nat.le_trans Z0 (Keep.of_wr W31).1
    replace V_b11 : Ary Z h31 b11 .byte [(.int (nar .byte ((((ja.toUInt64 >>> ((56 : Int32) &&& 0x3f).toInt64.toUInt64).toInt64).toInt32).toInt8.toInt32))), (.int (nar .byte ((((ja.toUInt64 >>> ((48 : Int32) &&& 0x3f).toInt64.toUInt64).toInt64).toInt32).toInt8.toInt32))), (.int (nar .byte ((((ja.toUInt64 >>> ((40 : Int32) &&& 0x3f).toInt64.toUInt64).toInt64).toInt32).toInt8.toInt32))), (.int (nar .byte ((((ja.toUInt64 >>> ((32 : Int32) &&& 0x3f).toInt64.toUInt64).toInt64).toInt32).toInt8.toInt32))), (.int (nar .byte ((((ja.toUInt64 >>> ((24 : Int32) &&& 0x3f).toInt64.toUInt64).toInt64).toInt32).toInt8.toInt32))), (.int (nar .byte ((((ja.toUInt64 >>> ((16 : Int32) &&& 0x3f).toInt64.toUInt64).toInt64).toInt32).toInt8.toInt32))), (.int (nar .byte ((((ja.toUInt64 >>> ((8 : Int32) &&& 0x3f).toInt64.toUInt64).toInt64).toInt32).toInt8.toInt32))), (.int (nar .byte ((ja.toInt32).toInt8.toInt32))), (.int (nar .byte ((((jb.toUInt64 >>> ((56 : Int32) &&& 0x3f).toInt64.toUInt64).toInt64).toInt32).toInt8.toInt32))), (.int (nar .byte ((((jb.toUInt64 >>> ((48 : Int32) &&& 0x3f).toInt64.toUInt64).toInt64).toInt32).toInt8.toInt32))), (.int (nar .byte ((((jb.toUInt64 >>> ((40 : Int32) &&& 0x3f).toInt64.toUInt64).toInt64).toInt32).toInt8.toInt32))), (.int (nar .byte ((((jb.toUInt64 >>> ((32 : Int32) &&& 0x3f).toInt64.toUInt64).toInt64).toInt32).toInt8.toInt32))), (.int (nar .byte ((((jb.toUInt64 >>> ((24 : Int32) &&& 0x3f).toInt64.toUInt64).toInt64).toInt32).toInt8.toInt32))), (.int (nar .byte ((((jb.toUInt64 >>> ((16 : Int32) &&& 0x3f).toInt64.toUInt64).toInt64).toInt32).toInt8.toInt32))), (.int (nar .byte ((((jb.toUInt64 >>> ((8 : Int32) &&& 0x3f).toInt64.toUInt64).toInt64).toInt32).toInt8.toInt32))), (.int (nar .byte ((jb.toInt32).toInt8.toInt32))), (.int (nar .byte ((((jc.toUInt64 >>> ((56 : Int32) &&& 0x3f).toInt64.toUInt64).toInt64).toInt32).toInt8.toInt32))), (.int (nar .byte ((((jc.toUInt64 >>> ((48 : Int32) &&& 0x3f).toInt64.toUInt64).toInt64).toInt32).toInt8.toInt32))), (.int (nar .byte ((((jc.toUInt64 >>> ((40 : Int32) &&& 0x3f).toInt64.toUInt64).toInt64).toInt32).toInt8.toInt32))), (.int (nar .byte ((((jc.toUInt64 >>> ((32 : Int32) &&& 0x3f).toInt64.toUInt64).toInt64).toInt32).toInt8.toInt32))), (.int (0 : Int32)), (.int (0 : Int32)), (.int (0 : Int32)), (.int (0 : Int32)), (.int (0 : Int32)), (.int (0 : Int32))] := V_b11
    refine w_aload ok d0_249 rfl rfl ?_
    refine w_bipush ok (z := 20) d0_251 rfl ?_
    refine w_lload ok d0_253 rfl ?_
    refine w_bipush ok (z := 24) d0_255 rfl ?_
    refine w_lushr ok d0_257 ?_
    refine w_l2i ok d0_258 ?_
    refine w_i2b ok d0_259 ?_
    refine w_bastoreB' ok (i := 20) V_b11 (Nat.le_of_ble_eq_true rfl) (Nat.le_of_ble_eq_true rfl) gn_b11 d0_260 (fun h32 W32 V_b11 => ?_)
    have Z0 := Nat.le_trans Z0 (Keep.of_wr W32).1
    replace V_b11 : Ary Z h32 b11 .byte [(.int (nar .byte ((((ja.toUInt64 >>> ((56 : Int32) &&& 0x3f).toInt64.toUInt64).toInt64).toInt32).toInt8.toInt32))), (.int (nar .byte ((((ja.toUInt64 >>> ((48 : Int32) &&& 0x3f).toInt64.toUInt64).toInt64).toInt32).toInt8.toInt32))), (.int (nar .byte ((((ja.toUInt64 >>> ((40 : Int32) &&& 0x3f).toInt64.toUInt64).toInt64).toInt32).toInt8.toInt32))), (.int (nar .byte ((((ja.toUInt64 >>> ((32 : Int32) &&& 0x3f).toInt64.toUInt64).toInt64).toInt32).toInt8.toInt32))), (.int (nar .byte ((((ja.toUInt64 >>> ((24 : Int32) &&& 0x3f).toInt64.toUInt64).toInt64).toInt32).toInt8.toInt32))), (.int (nar .byte ((((ja.toUInt64 >>> ((16 : Int32) &&& 0x3f).toInt64.toUInt64).toInt64).toInt32).toInt8.toInt32))), (.int (nar .byte ((((ja.toUInt64 >>> ((8 : Int32) &&& 0x3f).toInt64.toUInt64).toInt64).toInt32).toInt8.toInt32))), (.int (nar .byte ((ja.toInt32).toInt8.toInt32))), (.int (nar .byte ((((jb.toUInt64 >>> ((56 : Int32) &&& 0x3f).toInt64.toUInt64).toInt64).toInt32).toInt8.toInt32))), (.int (nar .byte ((((jb.toUInt64 >>> ((48 : Int32) &&& 0x3f).toInt64.toUInt64).toInt64).toInt32).toInt8.toInt32))), (.int (nar .byte ((((jb.toUInt64 >>> ((40 : Int32) &&& 0x3f).toInt64.toUInt64).toInt64).toInt32).toInt8.toInt32))), (.int (nar .byte ((((jb.toUInt64 >>> ((32 : Int32) &&& 0x3f).toInt64.toUInt64).toInt64).toInt32).toInt8.toInt32))), (.int (nar .byte ((((jb.toUInt64 >>> ((24 : Int32) &&& 0x3f).toInt64.toUInt64).toInt64).toInt32).toInt8.toInt32))), (.int (nar .byte ((((jb.toUInt64 >>> ((16 : Int32) &&& 0x3f).toInt64.toUInt64).toInt64).toInt32).toInt8.toInt32))), (.int (nar .byte ((((jb.toUInt64 >>> ((8 : Int32) &&& 0x3f).toInt64.toUInt64).toInt64).toInt32).toInt8.toInt32))), (.int (nar .byte ((jb.toInt32).toInt8.toInt32))), (.int (nar .byte ((((jc.toUInt64 >>> ((56 : Int32) &&& 0x3f).toInt64.toUInt64).toInt64).toInt32).toInt8.toInt32))), (.int (nar .byte ((((jc.toUInt64 >>> ((48 : Int32) &&& 0x3f).toInt64.toUInt64).toInt64).toInt32).toInt8.toInt32))), (.int (nar .byte ((((jc.toUInt64 >>> ((40 : Int32) &&& 0x3f).toInt64.toUInt64).toInt64).toInt32).toInt8.toInt32))), (.int (nar .byte ((((jc.toUInt64 >>> ((32 : Int32) &&& 0x3f).toInt64.toUInt64).toInt64).toInt32).toInt8.toInt32))), (.int (nar .byte ((((jc.toUInt64 >>> ((24 : Int32) &&& 0x3f).toInt64.toUInt64).toInt64).toInt32).toInt8.toInt32))), (.int (0 : Int32)), (.int (0 : Int32)), (.int (0 : Int32)), (.int (0 : Int32)), (.int (0 : Int32))] := V_b11
    refine w_aload ok d0_261 rfl rfl ?_
    refine w_bipush ok (z := 21) d0_263 rfl ?_
    refine w_lload ok d0_265 rfl ?_
    refine w_bipush ok (z := 16) d0_267 rfl ?_
    refine w_lushr ok d0_269 ?_
    refine w_l2i ok d0_270 ?_
    refine w_i2b ok d0_271 ?_
    refine w_bastoreB' ok (i := 21) V_b11 (Nat.le_of_ble_eq_true rfl) (Nat.le_of_ble_eq_true rfl) gn_b11 d0_272 (fun h33 W33 V_b11 => ?_)
    have Z0 := Nat.le_trans Z0 (Keep.of_wr W33).1
    replace V_b11 : Ary Z h33 b11 .byte [(.int (nar .byte ((((ja.toUInt64 >>> ((56 : Int32) &&& 0x3f).toInt64.toUInt64).toInt64).toInt32).toInt8.toInt32))), (.int (nar .byte ((((ja.toUInt64 >>> ((48 : Int32) &&& 0x3f).toInt64.toUInt64).toInt64).toInt32).toInt8.toInt32))), (.int (nar .byte ((((ja.toUInt64 >>> ((40 : Int32) &&& 0x3f).toInt64.toUInt64).toInt64).toInt32).toInt8.toInt32))), (.int (nar .byte ((((ja.toUInt64 >>> ((32 : Int32) &&& 0x3f).toInt64.toUInt64).toInt64).toInt32).toInt8.toInt32))), (.int (nar .byte ((((ja.toUInt64 >>> ((24 : Int32) &&& 0x3f).toInt64.toUInt64).toInt64).toInt32).toInt8.toInt32))), (.int (nar .byte ((((ja.toUInt64 >>> ((16 : Int32) &&& 0x3f).toInt64.toUInt64).toInt64).toInt32).toInt8.toInt32))), (.int (nar .byte ((((ja.toUInt64 >>> ((8 : Int32) &&& 0x3f).toInt64.toUInt64).toInt64).toInt32).toInt8.toInt32))), (.int (nar .byte ((ja.toInt32).toInt8.toInt32))), (.int (nar .byte ((((jb.toUInt64 >>> ((56 : Int32) &&& 0x3f).toInt64.toUInt64).toInt64).toInt32).toInt8.toInt32))), (.int (nar .byte ((((jb.toUInt64 >>> ((48 : Int32) &&& 0x3f).toInt64.toUInt64).toInt64).toInt32).toInt8.toInt32))), (.int (nar .byte ((((jb.toUInt64 >>> ((40 : Int32) &&& 0x3f).toInt64.toUInt64).toInt64).toInt32).toInt8.toInt32))), (.int (nar .byte ((((jb.toUInt64 >>> ((32 : Int32) &&& 0x3f).toInt64.toUInt64).toInt64).toInt32).toInt8.toInt32))), (.int (nar .byte ((((jb.toUInt64 >>> ((24 : Int32) &&& 0x3f).toInt64.toUInt64).toInt64).toInt32).toInt8.toInt32))), (.int (nar .byte ((((jb.toUInt64 >>> ((16 : Int32) &&& 0x3f).toInt64.toUInt64).toInt64).toInt32).toInt8.toInt32))), (.int (nar .byte ((((jb.toUInt64 >>> ((8 : Int32) &&& 0x3f).toInt64.toUInt64).toInt64).toInt32).toInt8.toInt32))), (.int (nar .byte ((jb.toInt32).toInt8.toInt32))), (.int (nar .byte ((((jc.toUInt64 >>> ((56 : Int32) &&& 0x3f).toInt64.toUInt64).toInt64).toInt32).toInt8.toInt32))), (.int (nar .byte ((((jc.toUInt64 >>> ((48 : Int32) &&& 0x3f).toInt64.toUInt64).toInt64).toInt32).toInt8.toInt32))), (.int (nar .byte ((((jc.toUInt64 >>> ((40 : Int32) &&& 0x3f).toInt64.toUInt64).toInt64).toInt32).toInt8.toInt32))), (.int (nar .byte ((((jc.toUInt64 >>> ((32 : Int32) &&& 0x3f).toInt64.toUInt64).toInt64).toInt32).toInt8.toInt32))), (.int (nar .byte ((((jc.toUInt64 >>> ((24 : Int32) &&& 0x3f).toInt64.toUInt64).toInt64).toInt32).toInt8.toInt32))), (.int (nar .byte ((((jc.toUInt64 >>> ((16 : Int32) &&& 0x3f).toInt64.toUInt64).toInt64).toInt32).toInt8.toInt32))), (.int (0 : Int32)), (.int (0 : Int32)), (.int (0 : Int32)), (.int (0 : Int32))] := V_b11
    refine w_aload ok d0_273 rfl rfl ?_
    refine w_bipush ok (z := 22) d0_275 rfl ?_
    refine w_lload ok d0_277 rfl ?_
    refine w_bipush ok (z := 8) d0_279 rfl ?_
    refine w_lushr ok d0_281 ?_
    refine w_l2i ok d0_282 ?_
    refine w_i2b ok d0_283 ?_
    refine w_bastoreB' ok (i := 22) V_b11 (Nat.le_of_ble_eq_true rfl) (Nat.le_of_ble_eq_true rfl) gn_b11 d0_284 (fun h34 W34 V_b11 => ?_)
    have Z0 := Nat.le_trans Z0 (Keep.of_wr W34).1
    replace V_b11 : Ary Z h34 b11 .byte [(.int (nar .byte ((((ja.toUInt64 >>> ((56 : Int32) &&& 0x3f).toInt64.toUInt64).toInt64).toInt32).toInt8.toInt32))), (.int (nar .byte ((((ja.toUInt64 >>> ((48 : Int32) &&& 0x3f).toInt64.toUInt64).toInt64).toInt32).toInt8.toInt32))), (.int (nar .byte ((((ja.toUInt64 >>> ((40 : Int32) &&& 0x3f).toInt64.toUInt64).toInt64).toInt32).toInt8.toInt32))), (.int (nar .byte ((((ja.toUInt64 >>> ((32 : Int32) &&& 0x3f).toInt64.toUInt64).toInt64).toInt32).toInt8.toInt32))), (.int (nar .byte ((((ja.toUInt64 >>> ((24 : Int32) &&& 0x3f).toInt64.toUInt64).toInt64).toInt32).toInt8.toInt32))), (.int (nar .byte ((((ja.toUInt64 >>> ((16 : Int32) &&& 0x3f).toInt64.toUInt64).toInt64).toInt32).toInt8.toInt32))), (.int (nar .byte ((((ja.toUInt64 >>> ((8 : Int32) &&& 0x3f).toInt64.toUInt64).toInt64).toInt32).toInt8.toInt32))), (.int (nar .byte ((ja.toInt32).toInt8.toInt32))), (.int (nar .byte ((((jb.toUInt64 >>> ((56 : Int32) &&& 0x3f).toInt64.toUInt64).toInt64).toInt32).toInt8.toInt32))), (.int (nar .byte ((((jb.toUInt64 >>> ((48 : Int32) &&& 0x3f).toInt64.toUInt64).toInt64).toInt32).toInt8.toInt32))), (.int (nar .byte ((((jb.toUInt64 >>> ((40 : Int32) &&& 0x3f).toInt64.toUInt64).toInt64).toInt32).toInt8.toInt32))), (.int (nar .byte ((((jb.toUInt64 >>> ((32 : Int32) &&& 0x3f).toInt64.toUInt64).toInt64).toInt32).toInt8.toInt32))), (.int (nar .byte ((((jb.toUInt64 >>> ((24 : Int32) &&& 0x3f).toInt64.toUInt64).toInt64).toInt32).toInt8.toInt32))), (.int (nar .byte ((((jb.toUInt64 >>> ((16 : Int32) &&& 0x3f).toInt64.toUInt64).toInt64).toInt32).toInt8.toInt32))), (.int (nar .byte ((((jb.toUInt64 >>> ((8 : Int32) &&& 0x3f).toInt64.toUInt64).toInt64).toInt32).toInt8.toInt32))), (.int (nar .byte ((jb.toInt32).toInt8.toInt32))), (.int (nar .byte ((((jc.toUInt64 >>> ((56 : Int32) &&& 0x3f).toInt64.toUInt64).toInt64).toInt32).toInt8.toInt32))), (.int (nar .byte ((((jc.toUInt64 >>> ((48 : Int32) &&& 0x3f).toInt64.toUInt64).toInt64).toInt32).toInt8.toInt32))), (.int (nar .byte ((((jc.toUInt64 >>> ((40 : Int32) &&& 0x3f).toInt64.toUInt64).toInt64).toInt32).toInt8.toInt32))), (.int (nar .byte ((((jc.toUInt64 >>> ((32 : Int32) &&& 0x3f).toInt64.toUInt64).toInt64).toInt32).toInt8.toInt32))), (.int (nar .byte ((((jc.toUInt64 >>> ((24 : Int32) &&& 0x3f).toInt64.toUInt64).toInt64).toInt32).toInt8.toInt32))), (.int (nar .byte ((((jc.toUInt64 >>> ((16 : Int32) &&& 0x3f).toInt64.toUInt64).toInt64).toInt32).toInt8.toInt32))), (.int (nar .byte ((((jc.toUInt64 >>> ((8 : Int32) &&& 0x3f).toInt64.toUInt64).toInt64).toInt32).toInt8.toInt32))), (.int (0 : Int32)), (.int (0 : Int32)), (.int (0 : Int32))] := V_b11
    refine w_aload ok d0_285 rfl rfl ?_
    refine w_bipush ok (z := 23) d0_287 rfl ?_
    refine w_lload ok d0_289 rfl ?_
    refine w_l2i ok d0_291 ?_
    refine w_i2b ok d0_292 ?_
    refine w_bastoreB' ok (i := 23) V_b11 (Nat.le_of_ble_eq_true rfl) (Nat.le_of_ble_eq_true rfl) gn_b11 d0_293 (fun h35 W35 V_b11 => ?_)
    have Z0 := Nat.le_trans Z0 (Keep.of_wr W35).1
    replace V_b11 : Ary Z h35 b11 .byte [(.int (nar .byte ((((ja.toUInt64 >>> ((56 : Int32) &&& 0x3f).toInt64.toUInt64).toInt64).toInt32).toInt8.toInt32))), (.int (nar .byte ((((ja.toUInt64 >>> ((48 : Int32) &&& 0x3f).toInt64.toUInt64).toInt64).toInt32).toInt8.toInt32))), (.int (nar .byte ((((ja.toUInt64 >>> ((40 : Int32) &&& 0x3f).toInt64.toUInt64).toInt64).toInt32).toInt8.toInt32))), (.int (nar .byte ((((ja.toUInt64 >>> ((32 : Int32) &&& 0x3f).toInt64.toUInt64).toInt64).toInt32).toInt8.toInt32))), (.int (nar .byte ((((ja.toUInt64 >>> ((24 : Int32) &&& 0x3f).toInt64.toUInt64).toInt64).toInt32).toInt8.toInt32))), (.int (nar .byte ((((ja.toUInt64 >>> ((16 : Int32) &&& 0x3f).toInt64.toUInt64).toInt64).toInt32).toInt8.toInt32))), (.int (nar .byte ((((ja.toUInt64 >>> ((8 : Int32) &&& 0x3f).toInt64.toUInt64).toInt64).toInt32).toInt8.toInt32))), (.int (nar .byte ((ja.toInt32).toInt8.toInt32))), (.int (nar .byte ((((jb.toUInt64 >>> ((56 : Int32) &&& 0x3f).toInt64.toUInt64).toInt64).toInt32).toInt8.toInt32))), (.int (nar .byte ((((jb.toUInt64 >>> ((48 : Int32) &&& 0x3f).toInt64.toUInt64).toInt64).toInt32).toInt8.toInt32))), (.int (nar .byte ((((jb.toUInt64 >>> ((40 : Int32) &&& 0x3f).toInt64.toUInt64).toInt64).toInt32).toInt8.toInt32))), (.int (nar .byte ((((jb.toUInt64 >>> ((32 : Int32) &&& 0x3f).toInt64.toUInt64).toInt64).toInt32).toInt8.toInt32))), (.int (nar .byte ((((jb.toUInt64 >>> ((24 : Int32) &&& 0x3f).toInt64.toUInt64).toInt64).toInt32).toInt8.toInt32))), (.int (nar .byte ((((jb.toUInt64 >>> ((16 : Int32) &&& 0x3f).toInt64.toUInt64).toInt64).toInt32).toInt8.toInt32))), (.int (nar .byte ((((jb.toUInt64 >>> ((8 : Int32) &&& 0x3f).toInt64.toUInt64).toInt64).toInt32).toInt8.toInt32))), (.int (nar .byte ((jb.toInt32).toInt8.toInt32))), (.int (nar .byte ((((jc.toUInt64 >>> ((56 : Int32) &&& 0x3f).toInt64.toUInt64).toInt64).toInt32).toInt8.toInt32))), (.int (nar .byte ((((jc.toUInt64 >>> ((48 : Int32) &&& 0x3f).toInt64.toUInt64).toInt64).toInt32).toInt8.toInt32))), (.int (nar .byte ((((jc.toUInt64 >>> ((40 : Int32) &&& 0x3f).toInt64.toUInt64).toInt64).toInt32).toInt8.toInt32))), (.int (nar .byte ((((jc.toUInt64 >>> ((32 : Int32) &&& 0x3f).toInt64.toUInt64).toInt64).toInt32).toInt8.toInt32))), (.int (nar .byte ((((jc.toUInt64 >>> ((24 : Int32) &&& 0x3f).toInt64.toUInt64).toInt64).toInt32).toInt8.toInt32))), (.int (nar .byte ((((jc.toUInt64 >>> ((16 : Int32) &&& 0x3f).toInt64.toUInt64).toInt64).toInt32).toInt8.toInt32))), (.int (nar .byte ((((jc.toUInt64 >>> ((8 : Int32) &&& 0x3f).toInt64.toUInt64).toInt64).toInt32).toInt8.toInt32))), (.int (nar .byte ((jc.toInt32).toInt8.toInt32))), (.int (0 : Int32)), (.int (0 : Int32))] := V_b11
    refine w_aload ok d0_294 rfl rfl ?_
    refine w_bipush ok (z := 24) d0_296 rfl ?_
    refine w_iload ok d0_298 rfl ?_
    refine w_bipush ok (z := 24) d0_300 rfl ?_
    refine w_iushr ok d0_302 ?_
    refine w_i2b ok d0_303 ?_
    refine w_bastoreB' ok (i := 24) V_b11 (Nat.le_of_ble_eq_true rfl) (Nat.le_of_ble_eq_true rfl) gn_b11 d0_304 (fun h36 W36 V_b11 => ?_)
    have Z0 := Nat.le_trans Z0 (Keep.of_wr W36).1
    replace V_b11 : Ary Z h36 b11 .byte [(.int (nar .byte ((((ja.toUInt64 >>> ((56 : Int32) &&& 0x3f).toInt64.toUInt64).toInt64).toInt32).toInt8.toInt32))), (.int (nar .byte ((((ja.toUInt64 >>> ((48 : Int32) &&& 0x3f).toInt64.toUInt64).toInt64).toInt32).toInt8.toInt32))), (.int (nar .byte ((((ja.toUInt64 >>> ((40 : Int32) &&& 0x3f).toInt64.toUInt64).toInt64).toInt32).toInt8.toInt32))), (.int (nar .byte ((((ja.toUInt64 >>> ((32 : Int32) &&& 0x3f).toInt64.toUInt64).toInt64).toInt32).toInt8.toInt32))), (.int (nar .byte ((((ja.toUInt64 >>> ((24 : Int32) &&& 0x3f).toInt64.toUInt64).toInt64).toInt32).toInt8.toInt32))), (.int (nar .byte ((((ja.toUInt64 >>> ((16 : Int32) &&& 0x3f).toInt64.toUInt64).toInt64).toInt32).toInt8.toInt32))), (.int (nar .byte ((((ja.toUInt64 >>> ((8 : Int32) &&& 0x3f).toInt64.toUInt64).toInt64).toInt32).toInt8.toInt32))), (.int (nar .byte ((ja.toInt32).toInt8.toInt32))), (.int (nar .byte ((((jb.toUInt64 >>> ((56 : Int32) &&& 0x3f).toInt64.toUInt64).toInt64).toInt32).toInt8.toInt32))), (.int (nar .byte ((((jb.toUInt64 >>> ((48 : Int32) &&& 0x3f).toInt64.toUInt64).toInt64).toInt32).toInt8.toInt32))), (.int (nar .byte ((((jb.toUInt64 >>> ((40 : Int32) &&& 0x3f).toInt64.toUInt64).toInt64).toInt32).toInt8.toInt32))), (.int (nar .byte ((((jb.toUInt64 >>> ((32 : Int32) &&& 0x3f).toInt64.toUInt64).toInt64).toInt32).toInt8.toInt32))), (.int (nar .byte ((((jb.toUInt64 >>> ((24 : Int32) &&& 0x3f).toInt64.toUInt64).toInt64).toInt32).toInt8.toInt32))), (.int (nar .byte ((((jb.toUInt64 >>> ((16 : Int32) &&& 0x3f).toInt64.toUInt64).toInt64).toInt32).toInt8.toInt32))), (.int (nar .byte ((((jb.toUInt64 >>> ((8 : Int32) &&& 0x3f).toInt64.toUInt64).toInt64).toInt32).toInt8.toInt32))), (.int (nar .byte ((jb.toInt32).toInt8.toInt32))), (.int (nar .byte ((((jc.toUInt64 >>> ((56 : Int32) &&& 0x3f).toInt64.toUInt64).toInt64).toInt32).toInt8.toInt32))), (.int (nar .byte ((((jc.toUInt64 >>> ((48 : Int32) &&& 0x3f).toInt64.toUInt64).toInt64).toInt32).toInt8.toInt32))), (.int (nar .byte ((((jc.toUInt64 >>> ((40 : Int32) &&& 0x3f).toInt64.toUInt64).toInt64).toInt32).toInt8.toInt32))), (.int (nar .byte ((((jc.toUInt64 >>> ((32 : Int32) &&& 0x3f).toInt64.toUInt64).toInt64).toInt32).toInt8.toInt32))), (.int (nar .byte ((((jc.toUInt64 >>> ((24 : Int32) &&& 0x3f).toInt64.toUInt64).toInt64).toInt32).toInt8.toInt32))), (.int (nar .byte ((((jc.toUInt64 >>> ((16 : Int32) &&& 0x3f).toInt64.toUInt64).toInt64).toInt32).toInt8.toInt32))), (.int (nar .byte ((((jc.toUInt64 >>> ((8 : Int32) &&& 0x3f).toInt64.toUInt64).toInt64).toInt32).toInt8.toInt32))), (.int (nar .byte ((jc.toInt32).toInt8.toInt32))), (.int (nar .byte (((dd.toUInt32 >>> ((24 : Int32) &&& 31).toUInt32).toInt32).toInt8.toInt32))), (.int (0 : Int32))] := V_b11
    refine w_aload ok d0_305 rfl rfl ?_
    refine w_bipush ok (z := 25) d0_307 rfl ?_
    refine w_iload ok d0_309 rfl ?_
    refine w_bipush ok (z := 16) d0_311 rfl ?_
    refine w_iushr ok d0_313 ?_
    refine w_i2b ok d0_314 ?_
    refine w_bastoreB' ok (i := 25) V_b11 (Nat.le_of_ble_eq_true rfl) (Nat.le_of_ble_eq_true rfl) gn_b11 d0_315 (fun h37 W37 V_b11 => ?_)
    have Z0 := Nat.le_trans Z0 (Keep.of_wr W37).1
    replace V_b11 : Ary Z h37 b11 .byte [(.int (nar .byte ((((ja.toUInt64 >>> ((56 : Int32) &&& 0x3f).toInt64.toUInt64).toInt64).toInt32).toInt8.toInt32))), (.int (nar .byte ((((ja.toUInt64 >>> ((48 : Int32) &&& 0x3f).toInt64.toUInt64).toInt64).toInt32).toInt8.toInt32))), (.int (nar .byte ((((ja.toUInt64 >>> ((40 : Int32) &&& 0x3f).toInt64.toUInt64).toInt64).toInt32).toInt8.toInt32))), (.int (nar .byte ((((ja.toUInt64 >>> ((32 : Int32) &&& 0x3f).toInt64.toUInt64).toInt64).toInt32).toInt8.toInt32))), (.int (nar .byte ((((ja.toUInt64 >>> ((24 : Int32) &&& 0x3f).toInt64.toUInt64).toInt64).toInt32).toInt8.toInt32))), (.int (nar .byte ((((ja.toUInt64 >>> ((16 : Int32) &&& 0x3f).toInt64.toUInt64).toInt64).toInt32).toInt8.toInt32))), (.int (nar .byte ((((ja.toUInt64 >>> ((8 : Int32) &&& 0x3f).toInt64.toUInt64).toInt64).toInt32).toInt8.toInt32))), (.int (nar .byte ((ja.toInt32).toInt8.toInt32))), (.int (nar .byte ((((jb.toUInt64 >>> ((56 : Int32) &&& 0x3f).toInt64.toUInt64).toInt64).toInt32).toInt8.toInt32))), (.int (nar .byte ((((jb.toUInt64 >>> ((48 : Int32) &&& 0x3f).toInt64.toUInt64).toInt64).toInt32).toInt8.toInt32))), (.int (nar .byte ((((jb.toUInt64 >>> ((40 : Int32) &&& 0x3f).toInt64.toUInt64).toInt64).toInt32).toInt8.toInt32))), (.int (nar .byte ((((jb.toUInt64 >>> ((32 : Int32) &&& 0x3f).toInt64.toUInt64).toInt64).toInt32).toInt8.toInt32))), (.int (nar .byte ((((jb.toUInt64 >>> ((24 : Int32) &&& 0x3f).toInt64.toUInt64).toInt64).toInt32).toInt8.toInt32))), (.int (nar .byte ((((jb.toUInt64 >>> ((16 : Int32) &&& 0x3f).toInt64.toUInt64).toInt64).toInt32).toInt8.toInt32))), (.int (nar .byte ((((jb.toUInt64 >>> ((8 : Int32) &&& 0x3f).toInt64.toUInt64).toInt64).toInt32).toInt8.toInt32))), (.int (nar .byte ((jb.toInt32).toInt8.toInt32))), (.int (nar .byte ((((jc.toUInt64 >>> ((56 : Int32) &&& 0x3f).toInt64.toUInt64).toInt64).toInt32).toInt8.toInt32))), (.int (nar .byte ((((jc.toUInt64 >>> ((48 : Int32) &&& 0x3f).toInt64.toUInt64).toInt64).toInt32).toInt8.toInt32))), (.int (nar .byte ((((jc.toUInt64 >>> ((40 : Int32) &&& 0x3f).toInt64.toUInt64).toInt64).toInt32).toInt8.toInt32))), (.int (nar .byte ((((jc.toUInt64 >>> ((32 : Int32) &&& 0x3f).toInt64.toUInt64).toInt64).toInt32).toInt8.toInt32))), (.int (nar .byte ((((jc.toUInt64 >>> ((24 : Int32) &&& 0x3f).toInt64.toUInt64).toInt64).toInt32).toInt8.toInt32))), (.int (nar .byte ((((jc.toUInt64 >>> ((16 : Int32) &&& 0x3f).toInt64.toUInt64).toInt64).toInt32).toInt8.toInt32))), (.int (nar .byte ((((jc.toUInt64 >>> ((8 : Int32) &&& 0x3f).toInt64.toUInt64).toInt64).toInt32).toInt8.toInt32))), (.int (nar .byte ((jc.toInt32).toInt8.toInt32))), (.int (nar .byte (((dd.toUInt32 >>> ((24 : Int32) &&& 31).toUInt32).toInt32).toInt8.toInt32))), (.int (nar .byte (((dd.toUInt32 >>> ((16 : Int32) &&& 31).toUInt32).toInt32).toInt8.toInt32)))] := V_b11
    refine w_iload ok d0_316 rfl ?_
    refine w_ldc ok (hw _ (List.mem_of_getElem? (i := 1) rfl)) d0_318 ?_
    refine w_iand ok d0_320 ?_
    refine w_sipush ok (z := 208) d0_321 rfl ?_
    refine w_irem ok d0_324 (by decide) ?_
    refine w_int (b := (Int32.ofNat k)) (by rw [← e]; rfl) ?_
    replace V_b11 : Ary Z h37 b11 .byte ((own_cb26 ja jb jc dd).map Value.int) := V_b11
    refine w_istore ok (Ls' := #[.val (.long ja), .second, .val (.long jb), .second, .val (.long jc), .second, .val (.int dd), .val (.int xx), .val (.int (1 : Int32)), .val (.ref b11), .val (.int (Int32.ofNat k)), .unset, .unset, .unset]) d0_325 rfl ?_
    refine w_new ok (hw _ (List.mem_of_getElem? (i := 2) rfl)) (hw _ (List.mem_of_getElem? (i := 3) rfl)) (hw _ (List.mem_of_getElem? (i := 4) rfl)) d0_327 (k' := 2) (n' := 30) rfl rfl (Nat.le_of_ble_eq_true rfl) (Nat.le_of_ble_eq_true rfl) (fun h38 b38 g38 E38 A38 D38 => ?_)
    have ne_b11_b38 : b11 ≠ b38 := Nat.ne_of_lt (Nat.lt_of_lt_of_le V_b11.lt (Nat.le_of_eq g38.symm))
    have gn_b38 : n0 ≤ b38 := Nat.le_trans Z0 (Nat.le_of_eq g38.symm)
    have Z0 := Nat.le_trans Z0 E38.1
    have V_b11 := V_b11.ext E38
    have F_b38_version : Fld Z h38 b38 "com/example/tickstep/tickstep/encoding/QrMatrix" "version" "I" (.int (0 : Int32)) := D38 (Or.inr (hw _ (List.mem_of_getElem? (i := 12) rfl))) (ty := .int) (by decide)
    have F_b38_size : Fld Z h38 b38 "com/example/tickstep/tickstep/encoding/QrMatrix" "size" "I" (.int (0 : Int32)) := D38 (Or.inr (hw _ (List.mem_of_getElem? (i := 17) rfl))) (ty := .int) (by decide)
    have F_b38_dark : Fld Z h38 b38 "com/example/tickstep/tickstep/encoding/QrMatrix" "dark" "[Z" .null := D38 (Or.inr (hw _ (List.mem_of_getElem? (i := 20) rfl))) (ty := (.array .boolean)) (by decide)
    have F_b38_function : Fld Z h38 b38 "com/example/tickstep/tickstep/encoding/QrMatrix" "function" "[Z" .null := D38 (Or.inr (hw _ (List.mem_of_getElem? (i := 22) rfl))) (ty := (.array .boolean)) (by decide)
    refine w_dup ok d0_330 rfl ?_
    refine w_iconst ok (z := 1) d0_331 rfl ?_
    refine w_init ok (argsL := [(.int (1 : Int32))]) (rest := [(.ref b38)]) rfl rfl (hw _ (List.mem_of_getElem? (i := 5) rfl)) (hw _ (List.mem_of_getElem? (i := 6) rfl)) (hw _ (List.mem_of_getElem? (i := 4) rfl)) (hw _ (List.mem_of_getElem? (i := 7) rfl)) (by decide) (rmIn l Z a0 hw n0 b38 1 21 441 st' h38 (by decide) (by decide) (by decide) (by decide) hct (by decide) Z0 gn_b38 A38 F_b38_version F_b38_size F_b38_dark F_b38_function) d0_332 (lenOf pd__I_V rfl) rfl rfl (Nat.le_of_ble_eq_true rfl) (Nat.le_of_ble_eq_true rfl) (k' := 20) (n' := 979) rfl rfl (Nat.le_of_ble_eq_true rfl) (Nat.le_of_ble_eq_true rfl) ?_
    rintro hi ⟨ad, af, D, M, hD, ga1, ga2⟩
    obtain rfl := hD (by decide)
    obtain ⟨Z0, E_b, F_v, F_size, F_dark, F_function, A_d, A_f, ⟨gn_ad, gn_af, nda, na1, na2⟩, hpc, Kb⟩ := id M
    have nc1 : b11 ≠ ad := Nat.ne_of_lt (Nat.lt_of_lt_of_le V_b11.lt ga1)
    have nc2 : b11 ≠ af := Nat.ne_of_lt (Nat.lt_of_lt_of_le V_b11.lt ga2)
    replace V_b11 := V_b11.keep Kb (ninS ne_b11_b38 (ninS nc1 (ninS nc2 nin0)))
    have P : own_P Z n0 hi b38 21 ad af b11 441 st'.1 (own_cb26 ja jb jc dd) (own_l0 st'.2.1 441) := ⟨Z0, E_b, F_size, F_dark, F_function, A_d.cast (own_l0_vals _ _ _), A_f, V_b11, ⟨gn_ad, nda, na1, nc1⟩, by rw [own_l0, List.length_map, List.length_range]⟩
    refine w_astore ok (Ls' := #[.val (.long ja), .second, .val (.long jb), .second, .val (.long jc), .second, .val (.int dd), .val (.int xx), .val (.int (1 : Int32)), .val (.ref b11), .val (.int (Int32.ofNat k)), .val (.ref b38), .unset, .unset]) d0_335 rfl rfl ?_
    refine w_aload ok d0_337 rfl rfl ?_
    refine w_aload ok d0_339 rfl rfl ?_
    refine w_virtN ok (argsL := [(.ref b11)]) (rest := []) (hw _ (List.mem_of_getElem? (i := 51) rfl)) (hw _ (List.mem_of_getElem? (i := 52) rfl)) (hw _ (List.mem_of_getElem? (i := 54) rfl)) (hw _ (List.mem_of_getElem? (i := 53) rfl)) (hw _ (List.mem_of_getElem? (i := 4) rfl)) (hw _ (List.mem_of_getElem? (i := 55) rfl)) E_b (by decide) (rmPl l Z a0 hw n0 b38 ad af b11 21 441 st'.1 (own_cb26 ja jb jc dd) _ pt hi (Or.inr rfl) P hpl) d0_341 (lenOf pd__ArB_V rfl) rfl rfl (Nat.le_of_ble_eq_true rfl) (Nat.le_of_ble_eq_true rfl) (k' := 20) (n' := 979) rfl rfl (Nat.le_of_ble_eq_true rfl) (Nat.le_of_ble_eq_true rfl) ?_
    rintro hq P
    obtain ⟨Z0, E_b, F_size, F_dark, F_function, A_d, A_f, A_c, -, hls⟩ := id P
    refine w_aload ok d0_344 rfl rfl ?_
    refine w_virtV ok (argsL := []) (rest := []) (hw _ (List.mem_of_getElem? (i := 56) rfl)) (hw _ (List.mem_of_getElem? (i := 57) rfl)) (hw _ (List.mem_of_getElem? (i := 59) rfl)) (hw _ (List.mem_of_getElem? (i := 58) rfl)) (hw _ (List.mem_of_getElem? (i := 4) rfl)) (hw _ (List.mem_of_getElem? (i := 60) rfl)) E_b (by decide) (rmMo l Z a0 hw n0 b38 ad hq E_b F_dark) d0_346 (lenOf pd___ArZ rfl) rfl rfl (Nat.le_of_ble_eq_true rfl) (Nat.le_of_ble_eq_true rfl) (k' := 20) (n' := 979) rfl rfl (Nat.le_of_ble_eq_true rfl) (Nat.le_of_ble_eq_true rfl) ?_
    rintro _ _ ⟨rfl, rfl⟩
    refine w_astore ok (Ls' := #[.val (.long ja), .second, .val (.long jb), .second, .val (.long jc), .second, .val (.int dd), .val (.int xx), .val (.int (1 : Int32)), .val (.ref b11), .val (.int (Int32.ofNat k)), .val (.ref b38), .val (.ref ad), .unset]) d0_349 rfl rfl ?_
    refine w_aload ok d0_351 rfl rfl ?_
    refine w_arraylength ok A_d d0_353 ?_
    refine w_int (b := (441 : Int32)) (by rw [List.length_map, hls]; rfl) ?_
    refine w_sipush ok (z := 441) d0_354 rfl ?_
    refine w_ic_eq ok d0_357 (fun _ => ?_) (fun q => absurd (by decide) q)
    have J393 : ∀ (z : Int32) (hz : z = own_w (own_cb26 ja jb jc dd) k), Wp l room_1 n0 K (fun v h' => ∃ w, v = some w ∧ w = .int 1) hq 20 979 393 #[.val (.long ja), .second, .val (.long jb), .second, .val (.long jc), .second, .val (.int dd), .val (.int xx), .val (.int (1 : Int32)), .val (.ref b11), .val (.int (Int32.ofNat k)), .val (.ref b38), .val (.ref ad), .unset] [(.int z)] := by
      intro z hz
      subst hz
      refine w_istore ok (Ls' := #[.val (.long ja), .second, .val (.long jb), .second, .val (.long jc), .second, .val (.int dd), .val (.int xx), .val (.int (1 : Int32)), .val (.ref b11), .val (.int (Int32.ofNat k)), .val (.ref b38), .val (.ref ad), .val (.int (own_w (own_cb26 ja jb jc dd) k))]) d0_393 rfl ?_
      refine w_aload ok d0_395 rfl rfl ?_
      refine w_iload ok d0_397 rfl ?_
      refine w_callSV ok (argsL := [(.int (Int32.ofNat k))]) (rest := [(.ref ad)]) (hw _ (List.mem_of_getElem? (i := 65) rfl)) (hw _ (List.mem_of_getElem? (i := 66) rfl)) (hw _ (List.mem_of_getElem? (i := 63) rfl)) (hw _ (List.mem_of_getElem? (i := 67) rfl)) (by decide) (rmPo l Z a0 hw n0 (Int32.ofNat k) hq) d0_399 (lenOf pd__I_I rfl) rfl rfl (Nat.le_of_ble_eq_true rfl) (Nat.le_of_ble_eq_true rfl) (k' := 20) (n' := 979) rfl rfl (Nat.le_of_ble_eq_true rfl) (Nat.le_of_ble_eq_true rfl) ?_
      rintro _ _ ⟨rfl, rfl⟩
      refine w_baloadZJ ok A_d (by rw [List.length_map, hls]; exact hpj) (show _ = some (.int (own_w (own_cb26 ja jb jc dd) k)) from by rw [List.getElem?_map, hpv, Option.map_some, own_iv2]) d0_402 ?_
      refine w_iload ok d0_403 rfl ?_
      refine w_ic_ne ok d0_405 (fun q1 => ?_) (fun q1 => ?_)
      · exact absurd rfl q1
      · refine w_aload ok d0_408 rfl rfl ?_
        refine w_sipush ok (z := 281) d0_410 rfl ?_
        refine w_baloadZ ok (i := 281) A_d (by rw [List.length_map, hls]; decide) (show _ = some (.int 1) from by rw [List.getElem?_map, z1]; rfl) d0_413 ?_
        refine w_if_eq ok d0_414 (fun q => absurd q (by decide)) (fun _ => ?_)
        refine w_aload ok d0_417 rfl rfl ?_
        refine w_sipush ok (z := 138) d0_419 rfl ?_
        refine w_baloadZ ok (i := 138) A_d (by rw [List.length_map, hls]; decide) (show _ = some (.int 1) from by rw [List.getElem?_map, z2]; rfl) d0_422 ?_
        refine w_if_eq ok d0_423 (fun q => absurd q (by decide)) (fun _ => ?_)
        refine w_aload ok d0_426 rfl rfl ?_
        refine w_bipush ok (z := 20) d0_428 rfl ?_
        refine w_baloadZ ok (i := 20) A_d (by rw [List.length_map, hls]; decide) (show _ = some (.int 1) from by rw [List.getElem?_map, z3]; rfl) d0_430 ?_
        refine w_if_eq ok d0_431 (fun q => absurd q (by decide)) (fun _ => ?_)
        refine w_iconst ok (z := 1) d0_434 rfl ?_
        refine w_goto ok d0_435 ?_
        refine w_ireturnN ok (by simp) d0_439 (Nat.le_of_ble_eq_true rfl) (Nat.le_of_ble_eq_true rfl) ?_
        exact ⟨_, rfl, rfl⟩
    refine w_iload ok d0_362 rfl ?_
    refine w_if_ne ok d0_364 (fun _ => ?_) (fun q => absurd q (by decide))
    refine w_lloadN ok d0_374 rfl ?_
    refine w_lloadN ok d0_375 rfl ?_
    refine w_lload ok d0_376 rfl ?_
    refine w_iload ok d0_378 rfl ?_
    refine w_iload ok d0_380 rfl ?_
    refine w_callSV ok (argsL := [(.long ja), (.long jb), (.long jc), (.int dd), (.int (Int32.ofNat k))]) (rest := []) (hw _ (List.mem_of_getElem? (i := 61) rfl)) (hw _ (List.mem_of_getElem? (i := 62) rfl)) (hw _ (List.mem_of_getElem? (i := 63) rfl)) (hw _ (List.mem_of_getElem? (i := 64) rfl)) (by decide) (rmBt l Z a0 hw n0 ja jb jc dd (Int32.ofNat k) hq) d0_382 (lenOf pd__JJJII_Z rfl) rfl rfl (Nat.le_of_ble_eq_true rfl) (Nat.le_of_ble_eq_true rfl) (k' := 20) (n' := 979) rfl rfl (Nat.le_of_ble_eq_true rfl) (Nat.le_of_ble_eq_true rfl) ?_
    rintro _ _ ⟨rfl, rfl⟩
    refine w_if_eq ok d0_385 (fun p => ?_) (fun p => ?_)
    · refine w_iconst ok (z := 0) d0_392 rfl ?_
      exact J393 _ (by rw [own_w26 ja jb jc dd hk, p])
    · refine w_iconst ok (z := 1) d0_388 rfl ?_
      refine w_goto ok d0_389 ?_
      exact J393 _ (by rw [own_w26 ja jb jc dd hk, (own_bt01 ja jb jc dd (Int32.ofNat k)).resolve_left p])
set_option maxRecDepth 65536 in
set_option maxHeartbeats 4000000 in
theorem comes_1 {Post : Tables → Env → Array Value → State → Outcome → State → Prop} (hpost : ∀ tb e args s v u, (limb_1_1.after args s (.returned v) u = true ∧ limb_1_2.after args s (.returned v) u = true ∧ True) → FrameEnd s (.returned v) u (Jvm.fieldLocs frame_1_writes args s ++ Jvm.arrayLocs frame_1_arrays args s ++ Jvm.staticLocs frame_1_statics s) 48 2048 → Post tb e args s (.returned v) u) :
    ArmFor flags0 classFile x code maxLocals ret World_1 tables_1 room_1 Calls_1 rest_1 Pre_1 Post := by
  intro l hfl _ _ p e ha hc hk s m args below hf hA hF happ hP
  obtain ⟨hcalls, hrest, hpre⟩ := hP
  obtain ⟨-, -, -, hnamed, -, -, -, hat⟩ := (Spec.applies_iff hf).mp happ
  obtain ⟨hg, hn⟩ := and_e (Cond.before_iff.mp (show (Jvm.Cond.and given_1 narrow_1).before args s = true from hpre))
  obtain ⟨hct, hg0⟩ := and_e hg
  obtain ⟨hk0, hg1⟩ := and_e hg0
  obtain ⟨hk1, hg2⟩ := and_e hg1
  obtain ⟨hk2, hg3⟩ := and_e hg2
  obtain ⟨hk3, hg4⟩ := and_e hg3
  have hk4 := hg4
  obtain ⟨w0, w1, w2, w3, w4, rfl⟩ : ∃ w0 w1 w2 w3 w4 : Value, args = #[w0, w1, w2, w3, w4] := by
    have hs : args.size = 5 := by simpa [Cond.value, given_1] using hct
    obtain ⟨L⟩ := args
    match L, hs with
    | [w0, w1, w2, w3, w4], _ => exact ⟨w0, w1, w2, w3, w4, rfl⟩
  have hw := fun d (hd : d ∈ tables_1) => atoms_spec (ws := Jvm.Cond.code x code maxLocals ret :: tables_1) hat d (List.mem_cons_of_mem _ hd)
  obtain ⟨i0, ei0⟩ := isL_v hk0
  obtain rfl : w0 = (.long i0) := Option.some.inj ei0
  obtain ⟨i1, ei1⟩ := isL_v hk1
  obtain rfl : w1 = (.long i1) := Option.some.inj ei1
  obtain ⟨i2, ei2⟩ := isL_v hk2
  obtain rfl : w2 = (.long i2) := Option.some.inj ei2
  obtain ⟨i3, ei3⟩ := is_v hk3
  obtain rfl : w3 = (.int i3) := Option.some.inj ei3
  obtain ⟨i4, ei4⟩ := is_v hk4
  obtain rfl : w4 = (.int i4) := Option.some.inj ei4
  obtain ⟨n, o, h1, h2, h3, _, L, rfl, ⟨⟨_, rfl, rfl⟩, N⟩, hq⟩ := rm0 l s _ hw s.heap.size i0 i1 i2 i3 i4 s.heap (Nat.le_refl _) p e ha hc hk s m _ below hf ((Spec.applies_iff_loose hf).mp happ).1 ⟨rfl, State.Warmed39.refl s, rfl⟩ trivial
  refine ⟨n, _, h1, h2, h3, hpost _ _ _ _ _ _ ⟨Cond.after_iff.mpr rfl, Cond.after_iff.mpr (eq_i res_at (Term.int_eval (1)) rfl), trivial⟩ ⟨hq.1, hq.2.1, (hq.2.2.sift fun y hy => Or.inr (N y hy)).mono (by decide) (by decide)⟩⟩
theorem main_1_1 : Claimed_1_1 := comes_1 fun _ _ _ _ _ _ h hF => ⟨h.1, hF⟩
theorem main_1_2 : Claimed_1_2 := comes_1 fun _ _ _ _ _ _ h hF => ⟨h.2.1, hF⟩
end Jvm.Pilot.@@N@@
namespace Jvm.Pilot.@@N@@
open Jvm Jvm.ClassFile Sem Op Lib Jvm.Free Jvm.Stand Jvm.Pilot.@@N@@.Jvm.D
/-! MADE BY PROGRAM (witnessworld.py) out of the Statement's table words and the real class files: 12 classes; the members and pool entries that the words name. The judged class is class 1, her method 3. -/
namespace start1
open Jvm.ClassFile
def u (s : String) : CpInfo := .utf8 (stringToUtf16 s)
/-- a pool by its gaps: so many unusable entries, then the entry; so many at the end -/
def gap : Nat → List CpInfo → List CpInfo
  | 0, r => r
  | n + 1, r => .unusable :: gap n r
def poolList (es : List (Nat × CpInfo)) (last : Nat) : List CpInfo := es.foldr (fun e r => gap e.1 (e.2 :: r)) (gap last [])
def pool (es : List (Nat × CpInfo)) (last : Nat) : Array CpInfo := ⟨poolList es last⟩
def fileOf (pool : Array CpInfo) (this : Nat) (attrs : Array Attribute := #[]) (ms : Array MethodInfo := #[]) (fl : Nat := 33) (sup : Nat := 0) (ifs : Array Nat := #[]) (fds : Array FieldInfo := #[]) : ClassFile where
  minorVersion := 0
  majorVersion := 65
  constantPool := pool
  accessFlags := fl
  thisClass := this
  superClass := sup
  interfaces := ifs
  fields := fds
  methods := ms
  attributes := attrs
def plain (name : String) (sup : Option ClassId) : Class where
  name := name
  kind := .ordinary
  loader := none
  accessFlags := 33
  super := sup
  interfaces := #[]
  cf := none
  fields := #[]
  methods := #[]
  instanceTypes := #[]
  staticTypes := #[]
  resolved := #[]
  callSites := []
  init := .initialized
  statics := none
  mirror := none

def pool0 : Array CpInfo := pool [(5, u "<init>"), (0, u "()V"), (1, .class_ 10), (1, u "java/lang/Object")] 113

def k0c0 : Code := { maxStack := 0, maxLocals := 1, code := object_method_1_code, exceptionTable := #[], attributes := #[] }
def k0m0 : Method := { name := "<init>", desc := "()V", sig := { parameters := [], returnType := none }, accessFlags := 1, code := some k0c0 }
/-- java/lang/Object -/
def k0 : Class := { plain "java/lang/Object" none with
  accessFlags := 33
  interfaces := #[]
  cf := some (fileOf pool0 8 #[] #[{ accessFlags := 1, nameIndex := 5, descriptorIndex := 6, attributes := #[] }] 33 0 #[] #[])
  fields := #[]
  methods := #[k0m0]
  instanceTypes := #[]
  staticTypes := #[]
  resolved := Array.replicate 124 none
  statics := none }

def pool1 : Array CpInfo := pool [(2, .class_ 4), (1, u "java/lang/Object"), (0, u "<init>"), (0, u "()V"), (0, .integer 2147483647), (0, .class_ 9), (0, u "com/example/tickstep/tickstep/encoding/QrMatrix"), (0, .methodref 8 11), (0, .nameAndType 5 12), (0, u "(I)V"), (0, .methodref 8 14), (0, .nameAndType 15 16), (0, u "place"), (0, u "([B)V"), (0, .methodref 8 18), (0, .nameAndType 19 20), (0, u "modules"), (0, u "()[Z"), (0, .methodref 22 23), (0, .class_ 24), (0, .nameAndType 25 26), (0, u "com/example/tickstep/tickstep/encoding/QrMatrixPlacePinLaw"), (0, u "bit"), (0, u "(JJJII)Z"), (0, .methodref 22 28), (0, .nameAndType 29 30), (0, u "position"), (0, u "(I)I"), (3, u "law")] 6

def k1m0 : Method := { name := "<init>", desc := "()V", sig := { parameters := [], returnType := none }, accessFlags := 1, code := none }
def k1c1 : Code := { maxStack := 3, maxLocals := 6, code := method_2_code, exceptionTable := #[], attributes := #[] }
def k1m1 : Method := { name := "position", desc := "(I)I", sig := { parameters := [.int], returnType := some .int }, accessFlags := 10, code := some k1c1 }
def k1c2 : Code := { maxStack := 4, maxLocals := 8, code := method_3_code, exceptionTable := #[], attributes := #[] }
def k1m2 : Method := { name := "bit", desc := "(JJJII)Z", sig := { parameters := [.long, .long, .long, .int, .int], returnType := some .boolean }, accessFlags := 10, code := some k1c2 }
def k1c3 : Code := { maxStack := 8, maxLocals := 14, code := code, exceptionTable := #[], attributes := #[] }
def k1m3 : Method := { name := "law", desc := "(JJJII)Z", sig := { parameters := [.long, .long, .long, .int, .int], returnType := some .boolean }, accessFlags := 9, code := some k1c3 }
/-- com/example/tickstep/tickstep/encoding/QrMatrixPlacePinLaw -/
def k1 : Class := { plain "com/example/tickstep/tickstep/encoding/QrMatrixPlacePinLaw" (some 0) with
  accessFlags := 49
  interfaces := #[]
  cf := some (fileOf pool1 22 #[] #[{ accessFlags := 1, nameIndex := 5, descriptorIndex := 6, attributes := #[] }, { accessFlags := 10, nameIndex := 29, descriptorIndex := 30, attributes := #[] }, { accessFlags := 10, nameIndex := 25, descriptorIndex := 26, attributes := #[] }, { accessFlags := 9, nameIndex := 34, descriptorIndex := 26, attributes := #[] }] 49 2 #[] #[])
  fields := #[]
  methods := #[k1m0, k1m1, k1m2, k1m3]
  instanceTypes := #[]
  staticTypes := #[]
  resolved := Array.replicate 41 none
  statics := none }

def pool2 : Array CpInfo := pool [(1, .methodref 2 3), (0, .class_ 4), (0, .nameAndType 5 6), (0, u "java/lang/Object"), (0, u "<init>"), (0, u "()V"), (0, .fieldref 8 9), (0, .class_ 10), (0, .nameAndType 11 12), (0, u "com/example/tickstep/tickstep/encoding/QrMatrix"), (0, u "version"), (0, u "I"), (0, .methodref 8 14), (0, .nameAndType 15 16), (0, u "size"), (0, u "(I)I"), (0, .fieldref 8 18), (0, .nameAndType 15 12), (0, .fieldref 8 20), (0, .nameAndType 21 22), (0, u "dark"), (0, u "[Z"), (0, .fieldref 8 24), (0, .nameAndType 25 22), (0, u "function"), (0, .methodref 8 27), (0, .nameAndType 28 29), (0, u "drawFinder"), (0, u "(II)V"), (0, .methodref 8 31), (0, .nameAndType 32 6), (0, u "drawAlignmentPatterns"), (0, .methodref 8 34), (0, .nameAndType 35 36), (0, u "drawFunction"), (0, u "(IIZ)V"), (0, .methodref 8 38), (0, .nameAndType 39 40), (0, u "formatModules"), (0, u "(I)[I"), (18, u "(II)I"), (26, .methodref 87 88), (0, .class_ 89), (0, .nameAndType 90 16), (0, u "java/lang/Math"), (0, u "abs"), (0, .methodref 87 92), (0, .nameAndType 93 59), (0, u "max"), (0, .methodref 8 95), (0, .nameAndType 96 97), (0, u "alignmentCentres"), (0, u "()[I"), (24, u "MIN_VERSION"), (2, u "MAX_VERSION"), (1, u "FINDER"), (1, u "TIMING"), (1, u "MASKS"), (1, u "FORMAT_GENERATOR"), (1, u "VERSION_GENERATOR"), (1, u "FORMAT_XOR"), (1, u "PENALTY_RUN"), (1, u "PENALTY_BLOCK"), (0, u "PENALTY_FINDER_LIKE"), (0, u "PENALTY_BALANCE"), (1, u "(I)V"), (5, u "place"), (0, u "([B)V"), (3, u "modules"), (0, u "()[Z")] 19

def k2c0 : Code := { maxStack := 5, maxLocals := 4, code := prog_33_method_1_code, exceptionTable := #[], attributes := #[] }
def k2m0 : Method := { name := "<init>", desc := "(I)V", sig := { parameters := [.int], returnType := none }, accessFlags := 0, code := some k2c0 }
def k2c1 : Code := { maxStack := 3, maxLocals := 1, code := prog_33_method_2_code, exceptionTable := #[], attributes := #[] }
def k2m1 : Method := { name := "size", desc := "(I)I", sig := { parameters := [.int], returnType := some .int }, accessFlags := 8, code := some k2c1 }
def k2c2 : Code := { maxStack := 6, maxLocals := 9, code := prog_33_method_5_code, exceptionTable := #[], attributes := #[] }
def k2m2 : Method := { name := "place", desc := "([B)V", sig := { parameters := [(.array .byte)], returnType := none }, accessFlags := 0, code := some k2c2 }
def k2c3 : Code := { maxStack := 1, maxLocals := 1, code := prog_33_method_7_code, exceptionTable := #[], attributes := #[] }
def k2m3 : Method := { name := "modules", desc := "()[Z", sig := { parameters := [], returnType := some (.array .boolean) }, accessFlags := 0, code := some k2c3 }
def k2c4 : Code := { maxStack := 5, maxLocals := 6, code := prog_33_method_10_code, exceptionTable := #[], attributes := #[] }
def k2m4 : Method := { name := "drawFinder", desc := "(II)V", sig := { parameters := [.int, .int], returnType := none }, accessFlags := 2, code := some k2c4 }
def k2c5 : Code := { maxStack := 6, maxLocals := 14, code := prog_33_method_11_code, exceptionTable := #[], attributes := #[] }
def k2m5 : Method := { name := "drawAlignmentPatterns", desc := "()V", sig := { parameters := [], returnType := none }, accessFlags := 2, code := some k2c5 }
def k2c6 : Code := { maxStack := 5, maxLocals := 6, code := prog_33_method_12_code, exceptionTable := #[], attributes := #[] }
def k2m6 : Method := { name := "alignmentCentres", desc := "()[I", sig := { parameters := [], returnType := some (.array .int) }, accessFlags := 2, code := some k2c6 }
def k2c7 : Code := { maxStack := 4, maxLocals := 3, code := prog_33_method_15_code, exceptionTable := #[], attributes := #[] }
def k2m7 : Method := { name := "formatModules", desc := "(I)[I", sig := { parameters := [.int], returnType := some (.array .int) }, accessFlags := 2, code := some k2c7 }
def k2c8 : Code := { maxStack := 3, maxLocals := 4, code := prog_33_method_16_code, exceptionTable := #[], attributes := #[] }
def k2m8 : Method := { name := "drawFunction", desc := "(IIZ)V", sig := { parameters := [.int, .int, .boolean], returnType := none }, accessFlags := 2, code := some k2c8 }
/-- com/example/tickstep/tickstep/encoding/QrMatrix -/
def k2 : Class := { plain "com/example/tickstep/tickstep/encoding/QrMatrix" (some 0) with
  accessFlags := 48
  interfaces := #[]
  cf := some (fileOf pool2 8 #[] #[{ accessFlags := 0, nameIndex := 5, descriptorIndex := 145, attributes := #[] }, { accessFlags := 8, nameIndex := 15, descriptorIndex := 16, attributes := #[] }, { accessFlags := 0, nameIndex := 151, descriptorIndex := 152, attributes := #[] }, { accessFlags := 0, nameIndex := 156, descriptorIndex := 157, attributes := #[] }, { accessFlags := 2, nameIndex := 28, descriptorIndex := 29, attributes := #[] }, { accessFlags := 2, nameIndex := 32, descriptorIndex := 6, attributes := #[] }, { accessFlags := 2, nameIndex := 96, descriptorIndex := 97, attributes := #[] }, { accessFlags := 2, nameIndex := 39, descriptorIndex := 40, attributes := #[] }, { accessFlags := 2, nameIndex := 35, descriptorIndex := 36, attributes := #[] }] 48 2 #[] #[{ accessFlags := 24, nameIndex := 122, descriptorIndex := 12, attributes := #[] }, { accessFlags := 24, nameIndex := 125, descriptorIndex := 12, attributes := #[] }, { accessFlags := 26, nameIndex := 127, descriptorIndex := 12, attributes := #[] }, { accessFlags := 26, nameIndex := 129, descriptorIndex := 12, attributes := #[] }, { accessFlags := 26, nameIndex := 131, descriptorIndex := 12, attributes := #[] }, { accessFlags := 26, nameIndex := 133, descriptorIndex := 12, attributes := #[] }, { accessFlags := 26, nameIndex := 135, descriptorIndex := 12, attributes := #[] }, { accessFlags := 26, nameIndex := 137, descriptorIndex := 12, attributes := #[] }, { accessFlags := 26, nameIndex := 139, descriptorIndex := 12, attributes := #[] }, { accessFlags := 26, nameIndex := 141, descriptorIndex := 12, attributes := #[] }, { accessFlags := 26, nameIndex := 142, descriptorIndex := 12, attributes := #[] }, { accessFlags := 26, nameIndex := 143, descriptorIndex := 12, attributes := #[] }, { accessFlags := 18, nameIndex := 11, descriptorIndex := 12, attributes := #[] }, { accessFlags := 18, nameIndex := 15, descriptorIndex := 12, attributes := #[] }, { accessFlags := 18, nameIndex := 21, descriptorIndex := 22, attributes := #[] }, { accessFlags := 18, nameIndex := 25, descriptorIndex := 22, attributes := #[] }])
  fields := #[{ name := "MIN_VERSION", type := .int, accessFlags := 24, slot := 0, constantValue := 0 }, { name := "MAX_VERSION", type := .int, accessFlags := 24, slot := 1, constantValue := 0 }, { name := "FINDER", type := .int, accessFlags := 26, slot := 2, constantValue := 0 }, { name := "TIMING", type := .int, accessFlags := 26, slot := 3, constantValue := 0 }, { name := "MASKS", type := .int, accessFlags := 26, slot := 4, constantValue := 0 }, { name := "FORMAT_GENERATOR", type := .int, accessFlags := 26, slot := 5, constantValue := 0 }, { name := "VERSION_GENERATOR", type := .int, accessFlags := 26, slot := 6, constantValue := 0 }, { name := "FORMAT_XOR", type := .int, accessFlags := 26, slot := 7, constantValue := 0 }, { name := "PENALTY_RUN", type := .int, accessFlags := 26, slot := 8, constantValue := 0 }, { name := "PENALTY_BLOCK", type := .int, accessFlags := 26, slot := 9, constantValue := 0 }, { name := "PENALTY_FINDER_LIKE", type := .int, accessFlags := 26, slot := 10, constantValue := 0 }, { name := "PENALTY_BALANCE", type := .int, accessFlags := 26, slot := 11, constantValue := 0 }, { name := "version", type := .int, accessFlags := 18, slot := 0, constantValue := 0 }, { name := "size", type := .int, accessFlags := 18, slot := 1, constantValue := 0 }, { name := "dark", type := (.array .boolean), accessFlags := 18, slot := 2, constantValue := 0 }, { name := "function", type := (.array .boolean), accessFlags := 18, slot := 3, constantValue := 0 }]
  methods := #[k2m0, k2m1, k2m2, k2m3, k2m4, k2m5, k2m6, k2m7, k2m8]
  instanceTypes := #[.int, .int, (.array .boolean), (.array .boolean)]
  staticTypes := #[.int, .int, .int, .int, .int, .int, .int, .int, .int, .int, .int, .int]
  resolved := Array.replicate 177 none
  statics := none }

def pool3 : Array CpInfo := pool [(1, .class_ 2), (0, u "java/lang/Math"), (1, .class_ 6), (1, u "java/lang/Object"), (0, u "<init>"), (0, u "()V"), (89, .class_ 100), (1, u "java/lang/Math$RandomNumberGeneratorHolder"), (23, u "abs"), (34, u "(I)I"), (12, u "negativeZeroFloatBits"), (0, u "J"), (2, u "negativeZeroDoubleBits"), (21, u "max"), (46, u "$assertionsDisabled"), (0, u "Z"), (88, u "(II)I"), (2, u "twoToTheDoubleScaleDown"), (0, u "D"), (4, u "twoToTheDoubleScaleUp"), (9, u "E"), (3, u "PI"), (2, u "TAU"), (2, u "DEGREES_TO_RADIANS"), (0, u "RADIANS_TO_DEGREES")] 94

def k3m0 : Method := { name := "<init>", desc := "()V", sig := { parameters := [], returnType := none }, accessFlags := 2, code := none }
def k3c1 : Code := { maxStack := 1, maxLocals := 1, code := jdk_29_method_59_code, exceptionTable := #[], attributes := #[] }
def k3m1 : Method := { name := "abs", desc := "(I)I", sig := { parameters := [.int], returnType := some .int }, accessFlags := 9, code := some k3c1 }
def k3c2 : Code := { maxStack := 2, maxLocals := 2, code := jdk_29_method_65_code, exceptionTable := #[], attributes := #[] }
def k3m2 : Method := { name := "max", desc := "(II)I", sig := { parameters := [.int, .int], returnType := some .int }, accessFlags := 9, code := some k3c2 }
/-- java/lang/Math -/
def k3 : Class := { plain "java/lang/Math" (some 0) with
  accessFlags := 49
  interfaces := #[]
  cf := some (fileOf pool3 1 #[.nestMembers #[98]] #[{ accessFlags := 2, nameIndex := 7, descriptorIndex := 8, attributes := #[] }, { accessFlags := 9, nameIndex := 124, descriptorIndex := 159, attributes := #[] }, { accessFlags := 9, nameIndex := 198, descriptorIndex := 335, attributes := #[] }] 49 4 #[] #[{ accessFlags := 25, nameIndex := 354, descriptorIndex := 339, attributes := #[] }, { accessFlags := 25, nameIndex := 358, descriptorIndex := 339, attributes := #[] }, { accessFlags := 25, nameIndex := 361, descriptorIndex := 339, attributes := #[] }, { accessFlags := 26, nameIndex := 364, descriptorIndex := 339, attributes := #[] }, { accessFlags := 26, nameIndex := 365, descriptorIndex := 339, attributes := #[] }, { accessFlags := 26, nameIndex := 172, descriptorIndex := 173, attributes := #[] }, { accessFlags := 26, nameIndex := 176, descriptorIndex := 173, attributes := #[] }, { accessFlags := 8, nameIndex := 344, descriptorIndex := 339, attributes := #[] }, { accessFlags := 8, nameIndex := 338, descriptorIndex := 339, attributes := #[] }, { accessFlags := 4120, nameIndex := 245, descriptorIndex := 246, attributes := #[] }])
  fields := #[{ name := "E", type := .double, accessFlags := 25, slot := 0, constantValue := 0 }, { name := "PI", type := .double, accessFlags := 25, slot := 1, constantValue := 0 }, { name := "TAU", type := .double, accessFlags := 25, slot := 2, constantValue := 0 }, { name := "DEGREES_TO_RADIANS", type := .double, accessFlags := 26, slot := 3, constantValue := 0 }, { name := "RADIANS_TO_DEGREES", type := .double, accessFlags := 26, slot := 4, constantValue := 0 }, { name := "negativeZeroFloatBits", type := .long, accessFlags := 26, slot := 5, constantValue := 0 }, { name := "negativeZeroDoubleBits", type := .long, accessFlags := 26, slot := 6, constantValue := 0 }, { name := "twoToTheDoubleScaleUp", type := .double, accessFlags := 8, slot := 7, constantValue := 0 }, { name := "twoToTheDoubleScaleDown", type := .double, accessFlags := 8, slot := 8, constantValue := 0 }, { name := "$assertionsDisabled", type := .boolean, accessFlags := 4120, slot := 9, constantValue := 0 }]
  methods := #[k3m0, k3m1, k3m2]
  instanceTypes := #[]
  staticTypes := #[.double, .double, .double, .double, .double, .long, .long, .double, .double, .boolean]
  resolved := Array.replicate 460 none
  statics := none }

def pool4 : Array CpInfo := pool [(1, u "java/lang/Cloneable"), (0, .class_ 1), (0, u "java/lang/Object"), (0, .class_ 3)] 3

/-- java/lang/Cloneable -/
def k4 : Class := { plain "java/lang/Cloneable" (some 0) with
  accessFlags := 1537
  interfaces := #[]
  cf := some (fileOf pool4 2 #[] #[] 1537 4 #[] #[])
  fields := #[]
  methods := #[]
  instanceTypes := #[]
  staticTypes := #[]
  resolved := Array.replicate 8 none
  statics := none }

def pool5 : Array CpInfo := pool [(1, u "java/io/Serializable"), (0, .class_ 1), (0, u "java/lang/Object"), (0, .class_ 3)] 3

/-- java/io/Serializable -/
def k5 : Class := { plain "java/io/Serializable" (some 0) with
  accessFlags := 1537
  interfaces := #[]
  cf := some (fileOf pool5 2 #[] #[] 1537 4 #[] #[])
  fields := #[]
  methods := #[]
  instanceTypes := #[]
  staticTypes := #[]
  resolved := Array.replicate 8 none
  statics := none }

/-- the primitive boolean -/
def k6 : Class := { plain "boolean" none with kind := .primitive 'Z', accessFlags := 0x411 }
/-- [Z -/
def k7 : Class := { plain "[Z" (some 0) with kind := .array 6 .boolean, interfaces := #[4, 5], accessFlags := 1041 }

/-- the primitive byte -/
def k8 : Class := { plain "byte" none with kind := .primitive 'B', accessFlags := 0x411 }
/-- [B -/
def k9 : Class := { plain "[B" (some 0) with kind := .array 8 .byte, interfaces := #[4, 5], accessFlags := 1041 }

/-- the primitive int -/
def k10 : Class := { plain "int" none with kind := .primitive 'I', accessFlags := 0x411 }
/-- [I -/
def k11 : Class := { plain "[I" (some 0) with kind := .array 10 .int, interfaces := #[4, 5], accessFlags := 1041 }

def heap : Heap := #[]
def classes : Array Class := #[k0, k1, k2, k3, k4, k5, k6, k7, k8, k9, k10, k11]
def interned : List (Array UInt16 × Addr) := []
def slotsUsed : Nat := 0
def theMethod : MethodId := ⟨1, 3⟩
def args0 : Array Value := #[.long 0, .long 0, .long 0, .int 0, .int 0]
def aboutOver (below : List Frame) : State where
  vm := { classes := classes, interned := interned.toArray }
  heap := heap
  slotsUsed := slotsUsed
  threads := #[{ frames := .invoking theMethod args0 :: below }]
def below0 : List Frame := [.native { method := ⟨0, 0⟩, args := #[] }]
def about1 : State := aboutOver below0
def p0 : Program := .bare "" "" ""
def e0 : Env := launch0.env 0 0 0
theorem w_frames : about1.frames = Frame.invoking theMethod args0 :: below0 := rfl
set_option maxRecDepth 65536 in
theorem w_args : argsFit about1.vm theMethod args0 = true := by decide +kernel
set_option maxRecDepth 65536 in
theorem w_heap : heapFits about1 = true := by decide +kernel
set_option maxRecDepth 65536 in
theorem w_runnable : about1.curStatus? = some .runnable := by decide +kernel
set_option maxRecDepth 65536 in
theorem w_alone : about1.alone = true := by decide +kernel
set_option maxRecDepth 65536 in
theorem w_named : about1.methodNamed? x = some theMethod := by decide +kernel
set_option maxRecDepth 65536 in
theorem w_hears : about1.hears theMethod below0 = true := by decide +kernel
set_option maxRecDepth 65536 in
theorem w_ripe : about1.ripe theMethod args0 below0 = true := by decide +kernel
theorem w_running : about1.status = .running := rfl
set_option maxRecDepth 65536 in
theorem w_room : about1.hasRoom e0.platform room_1 = true :=
  launch0.hasRoom_least _ room_1 (by decide +kernel) (by decide +kernel) (by decide +kernel) (by decide +kernel) (by decide +kernel) (by decide +kernel)
theorem allAtoms_all (ts : List Jvm.Cond) (a : Array Jvm.Value) (st : Jvm.State) : (allAtoms ts).before a st = ts.all (fun c => c.before a st) := by
  induction ts with
  | nil => rfl
  | cons c t ih =>
    show (Jvm.Cond.and c (allAtoms t)).before a st = _
    rw [Jvm.Cond.before_and, ih, List.all_cons]
def words1 : List Jvm.Cond := Jvm.Cond.code x code maxLocals ret :: tables_1
/-- a 'code' word, met by the world's own term for the bytes: nothing is compared byte by byte -/
theorem code_word {y : MethodName} {bytes : ByteArray} {mx : Nat} {rt : Option FieldType} {a : Array Value} {s : State} {m : MethodId} {meth : Method} {c : Code} (h1 : s.methodNamed? y = some m) (h2 : s.vm.method? m = some meth) (h3 : meth.code = some c) (h4 : c.code = bytes)
    (h5 : (c.maxLocals == mx && c.exceptionTable.isEmpty && decide (c.maxStack ≤ mostOperands) && decide (meth.sig.returnType = rt) && !meth.locks && decide (parseMethodDescriptor y.desc = some meth.sig)) = true) : (Jvm.Cond.code y bytes mx rt).before a s = true := by
  simp only [Bool.and_eq_true, beq_iff_eq, Bool.not_eq_true', decide_eq_true_eq] at h5
  obtain ⟨⟨⟨⟨⟨g1, g2⟩, g3⟩, g4⟩, g5⟩, g6⟩ := h5
  simp [Cond.before, Cond.holds, Cond.value, h1, h2, h3, h4, g1, g2, g3, g4, g5, g6]
def isCode : Jvm.Cond → Bool
  | .code _ _ _ _ => true
  | _ => false
theorem all_split {L : List Jvm.Cond} {P : Jvm.Cond → Bool} (h1 : L.all (fun c => isCode c || P c) = true) (h2 : ∀ c ∈ L.filter isCode, P c = true) : L.all P = true := by
  refine List.all_eq_true.mpr fun c hc => ?_
  have h := List.all_eq_true.mp h1 c hc
  rcases Bool.eq_false_or_eq_true (isCode c) with hi | hi
  · exact h2 c (List.mem_filter.mpr ⟨hc, hi⟩)
  · simpa [hi] using h
set_option maxRecDepth 65536 in
theorem w_c0 : (Jvm.Cond.code x code maxLocals ret).before args0 about1 = true := code_word (m := ⟨1, 3⟩) (meth := k1m3) (c := k1c3) (by decide +kernel) rfl rfl rfl (by decide +kernel)
set_option maxRecDepth 65536 in
theorem w_c1 : (Jvm.Cond.code ({ cls := "com/example/tickstep/tickstep/encoding/QrMatrix", name := "<init>", desc := "(I)V" } : Jvm.MethodName) prog_33_method_1_code (4 : Nat) (Option.none : Option Jvm.ClassFile.FieldType)).before args0 about1 = true := code_word (m := ⟨2, 0⟩) (meth := k2m0) (c := k2c0) (by decide +kernel) rfl rfl rfl (by decide +kernel)
set_option maxRecDepth 65536 in
theorem w_c2 : (Jvm.Cond.code ({ cls := "java/lang/Object", name := "<init>", desc := "()V" } : Jvm.MethodName) object_method_1_code (1 : Nat) (Option.none : Option Jvm.ClassFile.FieldType)).before args0 about1 = true := code_word (m := ⟨0, 0⟩) (meth := k0m0) (c := k0c0) (by decide +kernel) rfl rfl rfl (by decide +kernel)
set_option maxRecDepth 65536 in
theorem w_c3 : (Jvm.Cond.code ({ cls := "com/example/tickstep/tickstep/encoding/QrMatrix", name := "size", desc := "(I)I" } : Jvm.MethodName) prog_33_method_2_code (1 : Nat) (Option.some Jvm.ClassFile.FieldType.int)).before args0 about1 = true := code_word (m := ⟨2, 1⟩) (meth := k2m1) (c := k2c1) (by decide +kernel) rfl rfl rfl (by decide +kernel)
set_option maxRecDepth 65536 in
theorem w_c4 : (Jvm.Cond.code ({ cls := "com/example/tickstep/tickstep/encoding/QrMatrix", name := "drawFinder", desc := "(II)V" } : Jvm.MethodName) prog_33_method_10_code (6 : Nat) (Option.none : Option Jvm.ClassFile.FieldType)).before args0 about1 = true := code_word (m := ⟨2, 4⟩) (meth := k2m4) (c := k2c4) (by decide +kernel) rfl rfl rfl (by decide +kernel)
set_option maxRecDepth 65536 in
theorem w_c5 : (Jvm.Cond.code ({ cls := "java/lang/Math", name := "abs", desc := "(I)I" } : Jvm.MethodName) jdk_29_method_59_code (1 : Nat) (Option.some Jvm.ClassFile.FieldType.int)).before args0 about1 = true := code_word (m := ⟨3, 1⟩) (meth := k3m1) (c := k3c1) (by decide +kernel) rfl rfl rfl (by decide +kernel)
set_option maxRecDepth 65536 in
theorem w_c6 : (Jvm.Cond.code ({ cls := "java/lang/Math", name := "max", desc := "(II)I" } : Jvm.MethodName) jdk_29_method_65_code (2 : Nat) (Option.some Jvm.ClassFile.FieldType.int)).before args0 about1 = true := code_word (m := ⟨3, 2⟩) (meth := k3m2) (c := k3c2) (by decide +kernel) rfl rfl rfl (by decide +kernel)
set_option maxRecDepth 65536 in
theorem w_c7 : (Jvm.Cond.code ({ cls := "com/example/tickstep/tickstep/encoding/QrMatrix", name := "drawFunction", desc := "(IIZ)V" } : Jvm.MethodName) prog_33_method_16_code (4 : Nat) (Option.none : Option Jvm.ClassFile.FieldType)).before args0 about1 = true := code_word (m := ⟨2, 8⟩) (meth := k2m8) (c := k2c8) (by decide +kernel) rfl rfl rfl (by decide +kernel)
set_option maxRecDepth 65536 in
theorem w_c8 : (Jvm.Cond.code ({ cls := "com/example/tickstep/tickstep/encoding/QrMatrix", name := "drawAlignmentPatterns", desc := "()V" } : Jvm.MethodName) prog_33_method_11_code (14 : Nat) (Option.none : Option Jvm.ClassFile.FieldType)).before args0 about1 = true := code_word (m := ⟨2, 5⟩) (meth := k2m5) (c := k2c5) (by decide +kernel) rfl rfl rfl (by decide +kernel)
set_option maxRecDepth 65536 in
theorem w_c9 : (Jvm.Cond.code ({ cls := "com/example/tickstep/tickstep/encoding/QrMatrix", name := "alignmentCentres", desc := "()[I" } : Jvm.MethodName) prog_33_method_12_code (6 : Nat) (Option.some (Jvm.ClassFile.FieldType.array Jvm.ClassFile.FieldType.int))).before args0 about1 = true := code_word (m := ⟨2, 6⟩) (meth := k2m6) (c := k2c6) (by decide +kernel) rfl rfl rfl (by decide +kernel)
set_option maxRecDepth 65536 in
theorem w_c10 : (Jvm.Cond.code ({ cls := "com/example/tickstep/tickstep/encoding/QrMatrix", name := "formatModules", desc := "(I)[I" } : Jvm.MethodName) prog_33_method_15_code (3 : Nat) (Option.some (Jvm.ClassFile.FieldType.array Jvm.ClassFile.FieldType.int))).before args0 about1 = true := code_word (m := ⟨2, 7⟩) (meth := k2m7) (c := k2c7) (by decide +kernel) rfl rfl rfl (by decide +kernel)
set_option maxRecDepth 65536 in
theorem w_c11 : (Jvm.Cond.code ({ cls := "com/example/tickstep/tickstep/encoding/QrMatrix", name := "place", desc := "([B)V" } : Jvm.MethodName) prog_33_method_5_code (9 : Nat) (Option.none : Option Jvm.ClassFile.FieldType)).before args0 about1 = true := code_word (m := ⟨2, 2⟩) (meth := k2m2) (c := k2c2) (by decide +kernel) rfl rfl rfl (by decide +kernel)
set_option maxRecDepth 65536 in
theorem w_c12 : (Jvm.Cond.code ({ cls := "com/example/tickstep/tickstep/encoding/QrMatrix", name := "modules", desc := "()[Z" } : Jvm.MethodName) prog_33_method_7_code (1 : Nat) (Option.some (Jvm.ClassFile.FieldType.array Jvm.ClassFile.FieldType.boolean))).before args0 about1 = true := code_word (m := ⟨2, 3⟩) (meth := k2m3) (c := k2c3) (by decide +kernel) rfl rfl rfl (by decide +kernel)
set_option maxRecDepth 65536 in
theorem w_c13 : (Jvm.Cond.code ({ cls := "com/example/tickstep/tickstep/encoding/QrMatrixPlacePinLaw", name := "bit", desc := "(JJJII)Z" } : Jvm.MethodName) method_3_code (8 : Nat) (Option.some Jvm.ClassFile.FieldType.boolean)).before args0 about1 = true := code_word (m := ⟨1, 2⟩) (meth := k1m2) (c := k1c2) (by decide +kernel) rfl rfl rfl (by decide +kernel)
set_option maxRecDepth 65536 in
theorem w_c14 : (Jvm.Cond.code ({ cls := "com/example/tickstep/tickstep/encoding/QrMatrixPlacePinLaw", name := "position", desc := "(I)I" } : Jvm.MethodName) method_2_code (6 : Nat) (Option.some Jvm.ClassFile.FieldType.int)).before args0 about1 = true := code_word (m := ⟨1, 1⟩) (meth := k1m1) (c := k1c1) (by decide +kernel) rfl rfl rfl (by decide +kernel)
def codes1 : List Jvm.Cond := [Jvm.Cond.code x code maxLocals ret, Jvm.Cond.code ({ cls := "com/example/tickstep/tickstep/encoding/QrMatrix", name := "<init>", desc := "(I)V" } : Jvm.MethodName) prog_33_method_1_code (4 : Nat) (Option.none : Option Jvm.ClassFile.FieldType), Jvm.Cond.code ({ cls := "java/lang/Object", name := "<init>", desc := "()V" } : Jvm.MethodName) object_method_1_code (1 : Nat) (Option.none : Option Jvm.ClassFile.FieldType), Jvm.Cond.code ({ cls := "com/example/tickstep/tickstep/encoding/QrMatrix", name := "size", desc := "(I)I" } : Jvm.MethodName) prog_33_method_2_code (1 : Nat) (Option.some Jvm.ClassFile.FieldType.int), Jvm.Cond.code ({ cls := "com/example/tickstep/tickstep/encoding/QrMatrix", name := "drawFinder", desc := "(II)V" } : Jvm.MethodName) prog_33_method_10_code (6 : Nat) (Option.none : Option Jvm.ClassFile.FieldType), Jvm.Cond.code ({ cls := "java/lang/Math", name := "abs", desc := "(I)I" } : Jvm.MethodName) jdk_29_method_59_code (1 : Nat) (Option.some Jvm.ClassFile.FieldType.int), Jvm.Cond.code ({ cls := "java/lang/Math", name := "max", desc := "(II)I" } : Jvm.MethodName) jdk_29_method_65_code (2 : Nat) (Option.some Jvm.ClassFile.FieldType.int), Jvm.Cond.code ({ cls := "com/example/tickstep/tickstep/encoding/QrMatrix", name := "drawFunction", desc := "(IIZ)V" } : Jvm.MethodName) prog_33_method_16_code (4 : Nat) (Option.none : Option Jvm.ClassFile.FieldType), Jvm.Cond.code ({ cls := "com/example/tickstep/tickstep/encoding/QrMatrix", name := "drawAlignmentPatterns", desc := "()V" } : Jvm.MethodName) prog_33_method_11_code (14 : Nat) (Option.none : Option Jvm.ClassFile.FieldType), Jvm.Cond.code ({ cls := "com/example/tickstep/tickstep/encoding/QrMatrix", name := "alignmentCentres", desc := "()[I" } : Jvm.MethodName) prog_33_method_12_code (6 : Nat) (Option.some (Jvm.ClassFile.FieldType.array Jvm.ClassFile.FieldType.int)), Jvm.Cond.code ({ cls := "com/example/tickstep/tickstep/encoding/QrMatrix", name := "formatModules", desc := "(I)[I" } : Jvm.MethodName) prog_33_method_15_code (3 : Nat) (Option.some (Jvm.ClassFile.FieldType.array Jvm.ClassFile.FieldType.int)), Jvm.Cond.code ({ cls := "com/example/tickstep/tickstep/encoding/QrMatrix", name := "place", desc := "([B)V" } : Jvm.MethodName) prog_33_method_5_code (9 : Nat) (Option.none : Option Jvm.ClassFile.FieldType), Jvm.Cond.code ({ cls := "com/example/tickstep/tickstep/encoding/QrMatrix", name := "modules", desc := "()[Z" } : Jvm.MethodName) prog_33_method_7_code (1 : Nat) (Option.some (Jvm.ClassFile.FieldType.array Jvm.ClassFile.FieldType.boolean)), Jvm.Cond.code ({ cls := "com/example/tickstep/tickstep/encoding/QrMatrixPlacePinLaw", name := "bit", desc := "(JJJII)Z" } : Jvm.MethodName) method_3_code (8 : Nat) (Option.some Jvm.ClassFile.FieldType.boolean), Jvm.Cond.code ({ cls := "com/example/tickstep/tickstep/encoding/QrMatrixPlacePinLaw", name := "position", desc := "(I)I" } : Jvm.MethodName) method_2_code (6 : Nat) (Option.some Jvm.ClassFile.FieldType.int)]
set_option maxRecDepth 65536 in
theorem codes_eq : words1.filter isCode = codes1 := rfl
theorem w_codes : ∀ c ∈ words1.filter isCode, c.before args0 about1 = true := by
  rw [codes_eq]
  intro c hc
  simp only [codes1, List.mem_cons, List.not_mem_nil, or_false] at hc
  rcases hc with rfl | rfl | rfl | rfl | rfl | rfl | rfl | rfl | rfl | rfl | rfl | rfl | rfl | rfl | rfl
  · exact w_c0
  · exact w_c1
  · exact w_c2
  · exact w_c3
  · exact w_c4
  · exact w_c5
  · exact w_c6
  · exact w_c7
  · exact w_c8
  · exact w_c9
  · exact w_c10
  · exact w_c11
  · exact w_c12
  · exact w_c13
  · exact w_c14
set_option maxRecDepth 65536 in
theorem w_t1 : (words1.take 24).all (fun c => isCode c || c.before args0 about1) = true := by decide +kernel
set_option maxRecDepth 65536 in
theorem w_t2 : ((words1.drop 24).take 24).all (fun c => isCode c || c.before args0 about1) = true := by decide +kernel
set_option maxRecDepth 65536 in
theorem w_t3 : ((words1.drop 24).drop 24).all (fun c => isCode c || c.before args0 about1) = true := by decide +kernel
theorem w_tables : (allAtoms (Jvm.Cond.code x code maxLocals ret :: tables_1)).before args0 about1 = true := by
  rw [allAtoms_all]
  show words1.all (fun c => c.before args0 about1) = true
  refine all_split ?_ w_codes
  rw [← List.take_append_drop 24 words1, List.all_append, w_t1, ← List.take_append_drop 24 (words1.drop 24), List.all_append, w_t2, w_t3]
  rfl
set_option maxRecDepth 65536 in
theorem w_case : (Jvm.Cond.and given_1 narrow_1).before args0 about1 = true := by decide +kernel
theorem w_applies : (headSpec (Jvm.Cond.code x code maxLocals ret :: tables_1) room_1).applies x e0.platform about1 = true :=
  (Spec.applies_iff w_frames).mpr ⟨w_running, w_runnable, w_alone, w_named, w_hears, w_ripe, w_room, w_tables⟩
theorem atStart : AtStart classFile x code maxLocals ret World_1 tables_1 room_1 Calls_1 rest_1 Pre_1 launch0 p0 e0 about1 theMethod args0 below0 :=
  ⟨lists_1, trivial, launch0.admits_env _ _ _, launch0.least_env, fairChoices_fair.cas, fairChoices_fair.clock, w_frames, w_args, w_heap, w_applies, trivial, trivial, w_case⟩
end start1
theorem witness_1 : WitnessClaimed_1 := ⟨start1.p0, start1.e0, start1.about1, start1.theMethod, start1.args0, start1.below0, start1.atStart⟩
end Jvm.Pilot.@@N@@
