import JvmDerived
import JvmDerived.Pilot.@@N@@Statement
import JvmDerived.Pilot.@@N@@Code
set_option linter.unusedVariables false
set_option linter.unusedSimpArgs false
namespace Jvm.WpK
open Sem ClassFile Op Lib Jvm.Stand Jvm.Free Jvm.LawKit Jvm.RoadKit
/-- the run's own unknowns: program, environment, the invocation's state, method, arguments, frames below, the method's record, its code -/
abbrev Cx : Type := Program × Env × State × MethodId × Array Value × List Frame × Method × Code
/-- a decoded instruction and the pc behind it -/
def Fet (code : ByteArray) (pc pc' : Nat) (i : Instr) (len : Nat) : Prop := decode code pc = .ok (i, len) ∧ pc + len = pc'
/-- a decoded branch: the pc behind it and its target -/
def Brn (code : ByteArray) (pc pcN pcT : Nat) (i : Instr) (o : Int) : Prop := decode code pc = .ok (i, 3) ∧ pc + 3 = pcN ∧ 0 ≤ (pc : Int) + o ∧ ((pc : Int) + o).toNat = pcT
/-- what is known of the body that is walked -/
def Ok (Z : State) (K : Cx) (code : ByteArray) (own nm : String) (maxL : Nat) (ret : Option FieldType) : Prop :=
  match K with
  | (p, _, s, m, _, _, meth, c) => p.tables.exec = Jvm.exec ∧ c.code = code ∧ Z.Warmed39 s.vm ∧ s.vm.findClass own = some m.cls ∧ meth.name = nm ∧ c.maxLocals = maxL ∧ meth.sig.returnType = ret ∧ meth.locks = false
/-- from this point (heap h, k cells and n slots made so far) the body ends in Q, having written nothing below n0 -/
def Wp (l : Launch) (R : Room) (n0 : Nat) (K : Cx) (Q : Option Value → Heap → Prop) (h : Heap) (k n : Nat) (pc : Nat) (Ls : Array Slot) (st : List Value) : Prop :=
  match K with
  | (p, e, s, m, args, below, meth, c) => ∀ (T : State) (locs : List Loc), Stand p l e R s m args below meth c T locs k n → T.heap = h → Fr n0 locs →
      ∃ s₂ o, Steps p.tables e below (T.setTop (mkF m pc Ls st)) s₂ ∧ s₂.status = .running ∧ Ended s₂ below o ∧ ∃ v L, o = .returned v ∧ (Q v s₂.heap ∧ Fr n0 L) ∧ FrameEnd s o s₂ L R.cells R.slots
/-- a body's contract at one call -/
def Con (l : Launch) (Z : State) (n0 : Nat) (y : MethodName) (bytes : ByteArray) (maxL : Nat) (ret : Option FieldType) (ws : List Cond) (rm : Room) (as : Array Value) (h : Heap) (Q : Option Value → Heap → Prop) : Prop :=
  MetFree l y (head1 (Cond.code y bytes maxL ret :: ws) rm) (fun a U => a = as ∧ Z.Warmed39 U.vm ∧ U.heap = h) (fun _ _ _ _ _ => True) (fun _ U o U' => ∃ v L, o = .returned v ∧ (Q v U'.heap ∧ Fr n0 L) ∧ FrameEnd U o U' L rm.cells rm.slots)
abbrev ConV (l : Launch) (Z : State) (n0 : Nat) (y : MethodName) (bytes : ByteArray) (maxL : Nat) (ret : Option FieldType) (ws : List Cond) (rm : Room) (as : Array Value) (h : Heap) (Q : Value → Heap → Prop) : Prop :=
  Con l Z n0 y bytes maxL ret ws rm as h (fun v h' => ∃ w, v = some w ∧ Q w h')
abbrev ConN (l : Launch) (Z : State) (n0 : Nat) (y : MethodName) (bytes : ByteArray) (maxL : Nat) (ret : Option FieldType) (ws : List Cond) (rm : Room) (as : Array Value) (h : Heap) (Q : Heap → Prop) : Prop :=
  Con l Z n0 y bytes maxL ret ws rm as h (fun v h' => v = none ∧ Q h')
theorem con_of_wp {l : Launch} {Z : State} {n0 : Nat} {y : MethodName} {bytes : ByteArray} {maxL : Nat} {ret : Option FieldType} {ws : List Cond} {rm : Room} {as : Array Value} {h : Heap} {Q : Option Value → Heap → Prop} {Ls : Array Slot}
    (hpl : plainFor y = true) (hef : ∀ m, entryFrame m as maxL = mkF m 0 Ls []) (H : ∀ K, Ok Z K bytes y.cls y.name maxL ret → Wp l rm n0 K Q h 0 0 0 Ls []) : Con l Z n0 y bytes maxL ret ws rm as h Q := by
  refine MetFree.of_bodySF hpl hisR ?_
  intro p e s m args below meth c s₁ Bd hml0 hP hK
  obtain ⟨rfl, hZ, hh⟩ := hP
  have X0 : Stand p l e rm s m args below meth c s₁ [] 0 0 := Stand.of_body Bd
  have e0 : s₁.heap = h := by rw [← hh, Bd.state]; rfl
  obtain ⟨s₂, o, h1, h2, h3, h4⟩ := H (p, e, s, m, args, below, meth, c) ⟨Bd.exec, Bd.bytes, hZ, findClass_of_methodNamed Bd.named, (name_of_methodNamed Bd.named Bd.method).1, hml0, Bd.returns, Bd.notSynchronized⟩ s₁ [] X0 e0 (Fr.nil n0)
  exact ⟨s₂, o, castTop (hef m) h1, h2, h3, h4⟩
section Rules
variable {l : Launch} {R : Room} {n0 : Nat} {K : Cx} {Q : Option Value → Heap → Prop} {h : Heap} {k n k' n' : Nat} {pc pc' : Nat} {Ls Ls' : Array Slot} {st rest : List Value} {Z : State} {code : ByteArray} {own nm : String} {maxL : Nat} {ret : Option FieldType} {a0 : Array Value}
theorem w_cast {pc1 : Nat} {L1 : Array Slot} {s1 : List Value} (hr : Wp l R n0 K Q h k n pc1 L1 s1) (q1 : pc1 = pc) (q2 : L1 = Ls) (q3 : s1 = st) : Wp l R n0 K Q h k n pc Ls st := by
  subst q1 q2 q3; exact hr
theorem w_mono {Q' : Option Value → Heap → Prop} (hr : Wp l R n0 K Q' h k n pc Ls st) (hq : ∀ v h', Q' v h' → Q v h') : Wp l R n0 K Q h k n pc Ls st := by
  obtain ⟨p, e, s, m, args, below, meth, c⟩ := K
  intro T locs X hT hF
  obtain ⟨s₂, o, h1, h2, h3, v, L, h4, ⟨h5, h6⟩, h7⟩ := hr T locs X hT hF
  exact ⟨s₂, o, h1, h2, h3, v, L, h4, ⟨hq _ _ h5, h6⟩, h7⟩
theorem w_int {a b : Int32} (e : a = b) (hr : Wp l R n0 K Q h k n pc Ls (.int b :: st)) : Wp l R n0 K Q h k n pc Ls (.int a :: st) := e ▸ hr
theorem w_long {a b : Int64} (e : a = b) (hr : Wp l R n0 K Q h k n pc Ls (.long b :: st)) : Wp l R n0 K Q h k n pc Ls (.long a :: st) := e ▸ hr
/-- more cells or slots may be booked -/
theorem w_more {k1 n1 : Nat} (hr : Wp l R n0 K Q h k1 n1 pc Ls st) (hk : k ≤ k1) (hn : n ≤ n1) : Wp l R n0 K Q h k n pc Ls st := by
  obtain ⟨p, e, s, m, args, below, meth, c⟩ := K
  intro T locs X hT hF
  exact hr T locs (X.more hk hn) hT hF

theorem w_iloadN (ok : Ok Z K code own nm maxL ret) {j : Fin 4} {x : Int32} (hd : Fet code pc pc' (.iload_n j) 1) (hl : Ls[j.val]? = some (.val (.int x))) (hr : Wp l R n0 K Q h k n pc' Ls (.int x :: st)) : Wp l R n0 K Q h k n pc Ls st := by
  obtain ⟨p, e, s, m, args, below, meth, c⟩ := K
  obtain ⟨hx, hby, hZ, hown, hnm, hml, hret, hlk⟩ := ok
  obtain ⟨hd, rfl⟩ := hd
  intro T locs X hT hF
  obtain ⟨s₂, o, h1, h2⟩ := hr T locs X hT hF
  exact ⟨s₂, o, XS.iloadN X.here hx rfl (hb hby hd) hl h1, h2⟩
theorem w_iload (ok : Ok Z K code own nm maxL ret) {j : Nat} {x : Int32} (hd : Fet code pc pc' (.iload j) 2) (hl : Ls[j]? = some (.val (.int x))) (hr : Wp l R n0 K Q h k n pc' Ls (.int x :: st)) : Wp l R n0 K Q h k n pc Ls st := by
  obtain ⟨p, e, s, m, args, below, meth, c⟩ := K
  obtain ⟨hx, hby, hZ, hown, hnm, hml, hret, hlk⟩ := ok
  obtain ⟨hd, rfl⟩ := hd
  intro T locs X hT hF
  obtain ⟨s₂, o, h1, h2⟩ := hr T locs X hT hF
  exact ⟨s₂, o, XS.iload X.here hx rfl (hb hby hd) hl h1, h2⟩
theorem w_lloadN (ok : Ok Z K code own nm maxL ret) {j : Fin 4} {x : Int64} (hd : Fet code pc pc' (.lload_n j) 1) (hl : Ls[j.val]? = some (.val (.long x))) (hr : Wp l R n0 K Q h k n pc' Ls (.long x :: st)) : Wp l R n0 K Q h k n pc Ls st := by
  obtain ⟨p, e, s, m, args, below, meth, c⟩ := K
  obtain ⟨hx, hby, hZ, hown, hnm, hml, hret, hlk⟩ := ok
  obtain ⟨hd, rfl⟩ := hd
  intro T locs X hT hF
  obtain ⟨s₂, o, h1, h2⟩ := hr T locs X hT hF
  exact ⟨s₂, o, XS.lloadN X.here hx rfl (hb hby hd) hl h1, h2⟩
theorem w_lload (ok : Ok Z K code own nm maxL ret) {j : Nat} {x : Int64} (hd : Fet code pc pc' (.lload j) 2) (hl : Ls[j]? = some (.val (.long x))) (hr : Wp l R n0 K Q h k n pc' Ls (.long x :: st)) : Wp l R n0 K Q h k n pc Ls st := by
  obtain ⟨p, e, s, m, args, below, meth, c⟩ := K
  obtain ⟨hx, hby, hZ, hown, hnm, hml, hret, hlk⟩ := ok
  obtain ⟨hd, rfl⟩ := hd
  intro T locs X hT hF
  obtain ⟨s₂, o, h1, h2⟩ := hr T locs X hT hF
  exact ⟨s₂, o, XS.lload X.here hx rfl (hb hby hd) hl h1, h2⟩
theorem w_aloadN (ok : Ok Z K code own nm maxL ret) {j : Fin 4} {x : Value} (hd : Fet code pc pc' (.aload_n j) 1) (hl : Ls[j.val]? = some (.val x)) (hv : x.isRef = true) (hr : Wp l R n0 K Q h k n pc' Ls (x :: st)) : Wp l R n0 K Q h k n pc Ls st := by
  obtain ⟨p, e, s, m, args, below, meth, c⟩ := K
  obtain ⟨hx, hby, hZ, hown, hnm, hml, hret, hlk⟩ := ok
  obtain ⟨hd, rfl⟩ := hd
  intro T locs X hT hF
  obtain ⟨s₂, o, h1, h2⟩ := hr T locs X hT hF
  exact ⟨s₂, o, XS.aloadN X.here hx rfl (hb hby hd) hl hv h1, h2⟩
theorem w_aload (ok : Ok Z K code own nm maxL ret) {j : Nat} {x : Value} (hd : Fet code pc pc' (.aload j) 2) (hl : Ls[j]? = some (.val x)) (hv : x.isRef = true) (hr : Wp l R n0 K Q h k n pc' Ls (x :: st)) : Wp l R n0 K Q h k n pc Ls st := by
  obtain ⟨p, e, s, m, args, below, meth, c⟩ := K
  obtain ⟨hx, hby, hZ, hown, hnm, hml, hret, hlk⟩ := ok
  obtain ⟨hd, rfl⟩ := hd
  intro T locs X hT hF
  obtain ⟨s₂, o, h1, h2⟩ := hr T locs X hT hF
  exact ⟨s₂, o, XS.aload X.here hx rfl (hb hby hd) hl hv h1, h2⟩
theorem w_istoreN (ok : Ok Z K code own nm maxL ret) {j : Fin 4} {x : Int32} (hd : Fet code pc pc' (.istore_n j) 1) (hl : storeLocals Ls j.val (.int x) = some Ls') (hr : Wp l R n0 K Q h k n pc' Ls' st) : Wp l R n0 K Q h k n pc Ls (.int x :: st) := by
  obtain ⟨p, e, s, m, args, below, meth, c⟩ := K
  obtain ⟨hx, hby, hZ, hown, hnm, hml, hret, hlk⟩ := ok
  obtain ⟨hd, rfl⟩ := hd
  intro T locs X hT hF
  obtain ⟨s₂, o, h1, h2⟩ := hr T locs X hT hF
  exact ⟨s₂, o, XS.istoreN X.here hx rfl (hb hby hd) rfl hl h1, h2⟩
theorem w_istore (ok : Ok Z K code own nm maxL ret) {j : Nat} {x : Int32} (hd : Fet code pc pc' (.istore j) 2) (hl : storeLocals Ls j (.int x) = some Ls') (hr : Wp l R n0 K Q h k n pc' Ls' st) : Wp l R n0 K Q h k n pc Ls (.int x :: st) := by
  obtain ⟨p, e, s, m, args, below, meth, c⟩ := K
  obtain ⟨hx, hby, hZ, hown, hnm, hml, hret, hlk⟩ := ok
  obtain ⟨hd, rfl⟩ := hd
  intro T locs X hT hF
  obtain ⟨s₂, o, h1, h2⟩ := hr T locs X hT hF
  exact ⟨s₂, o, XS.istore X.here hx rfl (hb hby hd) rfl hl h1, h2⟩
theorem w_lstoreN (ok : Ok Z K code own nm maxL ret) {j : Fin 4} {x : Int64} (hd : Fet code pc pc' (.lstore_n j) 1) (hl : storeLocals Ls j.val (.long x) = some Ls') (hr : Wp l R n0 K Q h k n pc' Ls' st) : Wp l R n0 K Q h k n pc Ls (.long x :: st) := by
  obtain ⟨p, e, s, m, args, below, meth, c⟩ := K
  obtain ⟨hx, hby, hZ, hown, hnm, hml, hret, hlk⟩ := ok
  obtain ⟨hd, rfl⟩ := hd
  intro T locs X hT hF
  obtain ⟨s₂, o, h1, h2⟩ := hr T locs X hT hF
  exact ⟨s₂, o, XS.lstoreN X.here hx rfl (hb hby hd) rfl hl h1, h2⟩
theorem w_lstore (ok : Ok Z K code own nm maxL ret) {j : Nat} {x : Int64} (hd : Fet code pc pc' (.lstore j) 2) (hl : storeLocals Ls j (.long x) = some Ls') (hr : Wp l R n0 K Q h k n pc' Ls' st) : Wp l R n0 K Q h k n pc Ls (.long x :: st) := by
  obtain ⟨p, e, s, m, args, below, meth, c⟩ := K
  obtain ⟨hx, hby, hZ, hown, hnm, hml, hret, hlk⟩ := ok
  obtain ⟨hd, rfl⟩ := hd
  intro T locs X hT hF
  obtain ⟨s₂, o, h1, h2⟩ := hr T locs X hT hF
  exact ⟨s₂, o, XS.lstore X.here hx rfl (hb hby hd) rfl hl h1, h2⟩
theorem w_astoreN (ok : Ok Z K code own nm maxL ret) {j : Fin 4} {x : Value} (hd : Fet code pc pc' (.astore_n j) 1) (hl : storeLocals Ls j.val x = some Ls') (hv : x.isRef = true) (hr : Wp l R n0 K Q h k n pc' Ls' st) : Wp l R n0 K Q h k n pc Ls (x :: st) := by
  obtain ⟨p, e, s, m, args, below, meth, c⟩ := K
  obtain ⟨hx, hby, hZ, hown, hnm, hml, hret, hlk⟩ := ok
  obtain ⟨hd, rfl⟩ := hd
  intro T locs X hT hF
  obtain ⟨s₂, o, h1, h2⟩ := hr T locs X hT hF
  exact ⟨s₂, o, XS.astoreN X.here hx rfl (hb hby hd) rfl hv hl h1, h2⟩
theorem w_astore (ok : Ok Z K code own nm maxL ret) {j : Nat} {x : Value} (hd : Fet code pc pc' (.astore j) 2) (hl : storeLocals Ls j x = some Ls') (hv : x.isRef = true) (hr : Wp l R n0 K Q h k n pc' Ls' st) : Wp l R n0 K Q h k n pc Ls (x :: st) := by
  obtain ⟨p, e, s, m, args, below, meth, c⟩ := K
  obtain ⟨hx, hby, hZ, hown, hnm, hml, hret, hlk⟩ := ok
  obtain ⟨hd, rfl⟩ := hd
  intro T locs X hT hF
  obtain ⟨s₂, o, h1, h2⟩ := hr T locs X hT hF
  exact ⟨s₂, o, XS.astore X.here hx rfl (hb hby hd) rfl hv hl h1, h2⟩
theorem w_iinc (ok : Ok Z K code own nm maxL ret) {j : Nat} {cst : Int} {x : Int32} (hd : Fet code pc pc' (.iinc j cst) 3) (hl : Ls[j]? = some (.val (.int x))) (hl' : storeLocals Ls j (.int (x + Int32.ofInt cst)) = some Ls') (hr : Wp l R n0 K Q h k n pc' Ls' st) : Wp l R n0 K Q h k n pc Ls st := by
  obtain ⟨p, e, s, m, args, below, meth, c⟩ := K
  obtain ⟨hx, hby, hZ, hown, hnm, hml, hret, hlk⟩ := ok
  obtain ⟨hd, rfl⟩ := hd
  intro T locs X hT hF
  obtain ⟨s₂, o, h1, h2⟩ := hr T locs X hT hF
  exact ⟨s₂, o, XS.iinc X.here hx rfl (hb hby hd) hl hl' h1, h2⟩
theorem w_iconst (ok : Ok Z K code own nm maxL ret) {i : Int} {z : Int32} (hd : Fet code pc pc' (.iconst i) 1) (hz : Int32.ofInt i = z) (hr : Wp l R n0 K Q h k n pc' Ls (.int z :: st)) : Wp l R n0 K Q h k n pc Ls st := by
  obtain ⟨p, e, s, m, args, below, meth, c⟩ := K
  obtain ⟨hx, hby, hZ, hown, hnm, hml, hret, hlk⟩ := ok
  obtain ⟨hd, rfl⟩ := hd
  intro T locs X hT hF
  subst hz
  obtain ⟨s₂, o, h1, h2⟩ := hr T locs X hT hF
  exact ⟨s₂, o, XS.iconst X.here hx rfl (hb hby hd) h1, h2⟩
theorem w_bipush (ok : Ok Z K code own nm maxL ret) {i : Int} {z : Int32} (hd : Fet code pc pc' (.bipush i) 2) (hz : (Int8.ofInt i).toInt32 = z) (hr : Wp l R n0 K Q h k n pc' Ls (.int z :: st)) : Wp l R n0 K Q h k n pc Ls st := by
  obtain ⟨p, e, s, m, args, below, meth, c⟩ := K
  obtain ⟨hx, hby, hZ, hown, hnm, hml, hret, hlk⟩ := ok
  obtain ⟨hd, rfl⟩ := hd
  intro T locs X hT hF
  subst hz
  obtain ⟨s₂, o, h1, h2⟩ := hr T locs X hT hF
  exact ⟨s₂, o, XS.bipush X.here hx rfl (hb hby hd) h1, h2⟩
theorem w_sipush (ok : Ok Z K code own nm maxL ret) {i : Int} {z : Int32} (hd : Fet code pc pc' (.sipush i) 3) (hz : (Int16.ofInt i).toInt32 = z) (hr : Wp l R n0 K Q h k n pc' Ls (.int z :: st)) : Wp l R n0 K Q h k n pc Ls st := by
  obtain ⟨p, e, s, m, args, below, meth, c⟩ := K
  obtain ⟨hx, hby, hZ, hown, hnm, hml, hret, hlk⟩ := ok
  obtain ⟨hd, rfl⟩ := hd
  intro T locs X hT hF
  subst hz
  obtain ⟨s₂, o, h1, h2⟩ := hr T locs X hT hF
  exact ⟨s₂, o, XS.sipush X.here hx rfl (hb hby hd) h1, h2⟩
theorem w_lconst (ok : Ok Z K code own nm maxL ret) {i : Fin 2} {z : Int64} (hd : Fet code pc pc' (.lconst i) 1) (hz : Int64.ofNat i = z) (hr : Wp l R n0 K Q h k n pc' Ls (.long z :: st)) : Wp l R n0 K Q h k n pc Ls st := by
  obtain ⟨p, e, s, m, args, below, meth, c⟩ := K
  obtain ⟨hx, hby, hZ, hown, hnm, hml, hret, hlk⟩ := ok
  obtain ⟨hd, rfl⟩ := hd
  intro T locs X hT hF
  subst hz
  obtain ⟨s₂, o, h1, h2⟩ := hr T locs X hT hF
  exact ⟨s₂, o, XS.lconst X.here hx rfl (hb hby hd) h1, h2⟩
theorem w_aconstNull (ok : Ok Z K code own nm maxL ret)  (hd : Fet code pc pc' (.aconst_null) 1)  (hr : Wp l R n0 K Q h k n pc' Ls (.null :: st)) : Wp l R n0 K Q h k n pc Ls st := by
  obtain ⟨p, e, s, m, args, below, meth, c⟩ := K
  obtain ⟨hx, hby, hZ, hown, hnm, hml, hret, hlk⟩ := ok
  obtain ⟨hd, rfl⟩ := hd
  intro T locs X hT hF
  obtain ⟨s₂, o, h1, h2⟩ := hr T locs X hT hF
  exact ⟨s₂, o, XS.aconstNull X.here hx rfl (hb hby hd)  h1, h2⟩
theorem w_iadd (ok : Ok Z K code own nm maxL ret) {x y : Int32} (hd : Fet code pc pc' (.iadd) 1)  (hr : Wp l R n0 K Q h k n pc' Ls (.int (x + y) :: st)) : Wp l R n0 K Q h k n pc Ls (.int y :: .int x :: st) := by
  obtain ⟨p, e, s, m, args, below, meth, c⟩ := K
  obtain ⟨hx, hby, hZ, hown, hnm, hml, hret, hlk⟩ := ok
  obtain ⟨hd, rfl⟩ := hd
  intro T locs X hT hF
  obtain ⟨s₂, o, h1, h2⟩ := hr T locs X hT hF
  exact ⟨s₂, o, XS.iadd X.here hx rfl (hb hby hd) rfl h1, h2⟩
theorem w_isub (ok : Ok Z K code own nm maxL ret) {x y : Int32} (hd : Fet code pc pc' (.isub) 1)  (hr : Wp l R n0 K Q h k n pc' Ls (.int (x - y) :: st)) : Wp l R n0 K Q h k n pc Ls (.int y :: .int x :: st) := by
  obtain ⟨p, e, s, m, args, below, meth, c⟩ := K
  obtain ⟨hx, hby, hZ, hown, hnm, hml, hret, hlk⟩ := ok
  obtain ⟨hd, rfl⟩ := hd
  intro T locs X hT hF
  obtain ⟨s₂, o, h1, h2⟩ := hr T locs X hT hF
  exact ⟨s₂, o, XS.isub X.here hx rfl (hb hby hd) rfl h1, h2⟩
theorem w_imul (ok : Ok Z K code own nm maxL ret) {x y : Int32} (hd : Fet code pc pc' (.imul) 1)  (hr : Wp l R n0 K Q h k n pc' Ls (.int (x * y) :: st)) : Wp l R n0 K Q h k n pc Ls (.int y :: .int x :: st) := by
  obtain ⟨p, e, s, m, args, below, meth, c⟩ := K
  obtain ⟨hx, hby, hZ, hown, hnm, hml, hret, hlk⟩ := ok
  obtain ⟨hd, rfl⟩ := hd
  intro T locs X hT hF
  obtain ⟨s₂, o, h1, h2⟩ := hr T locs X hT hF
  exact ⟨s₂, o, XS.imul X.here hx rfl (hb hby hd) rfl h1, h2⟩
theorem w_iand (ok : Ok Z K code own nm maxL ret) {x y : Int32} (hd : Fet code pc pc' (.iand) 1)  (hr : Wp l R n0 K Q h k n pc' Ls (.int (x &&& y) :: st)) : Wp l R n0 K Q h k n pc Ls (.int y :: .int x :: st) := by
  obtain ⟨p, e, s, m, args, below, meth, c⟩ := K
  obtain ⟨hx, hby, hZ, hown, hnm, hml, hret, hlk⟩ := ok
  obtain ⟨hd, rfl⟩ := hd
  intro T locs X hT hF
  obtain ⟨s₂, o, h1, h2⟩ := hr T locs X hT hF
  exact ⟨s₂, o, XS.iand X.here hx rfl (hb hby hd) rfl h1, h2⟩
theorem w_ior (ok : Ok Z K code own nm maxL ret) {x y : Int32} (hd : Fet code pc pc' (.ior) 1)  (hr : Wp l R n0 K Q h k n pc' Ls (.int (x ||| y) :: st)) : Wp l R n0 K Q h k n pc Ls (.int y :: .int x :: st) := by
  obtain ⟨p, e, s, m, args, below, meth, c⟩ := K
  obtain ⟨hx, hby, hZ, hown, hnm, hml, hret, hlk⟩ := ok
  obtain ⟨hd, rfl⟩ := hd
  intro T locs X hT hF
  obtain ⟨s₂, o, h1, h2⟩ := hr T locs X hT hF
  exact ⟨s₂, o, XS.ior X.here hx rfl (hb hby hd) rfl h1, h2⟩
theorem w_ixor (ok : Ok Z K code own nm maxL ret) {x y : Int32} (hd : Fet code pc pc' (.ixor) 1)  (hr : Wp l R n0 K Q h k n pc' Ls (.int (x ^^^ y) :: st)) : Wp l R n0 K Q h k n pc Ls (.int y :: .int x :: st) := by
  obtain ⟨p, e, s, m, args, below, meth, c⟩ := K
  obtain ⟨hx, hby, hZ, hown, hnm, hml, hret, hlk⟩ := ok
  obtain ⟨hd, rfl⟩ := hd
  intro T locs X hT hF
  obtain ⟨s₂, o, h1, h2⟩ := hr T locs X hT hF
  exact ⟨s₂, o, XS.ixor X.here hx rfl (hb hby hd) rfl h1, h2⟩
theorem w_ladd (ok : Ok Z K code own nm maxL ret) {x y : Int64} (hd : Fet code pc pc' (.ladd) 1)  (hr : Wp l R n0 K Q h k n pc' Ls (.long (x + y) :: st)) : Wp l R n0 K Q h k n pc Ls (.long y :: .long x :: st) := by
  obtain ⟨p, e, s, m, args, below, meth, c⟩ := K
  obtain ⟨hx, hby, hZ, hown, hnm, hml, hret, hlk⟩ := ok
  obtain ⟨hd, rfl⟩ := hd
  intro T locs X hT hF
  obtain ⟨s₂, o, h1, h2⟩ := hr T locs X hT hF
  exact ⟨s₂, o, XS.ladd X.here hx rfl (hb hby hd) rfl h1, h2⟩
theorem w_lsub (ok : Ok Z K code own nm maxL ret) {x y : Int64} (hd : Fet code pc pc' (.lsub) 1)  (hr : Wp l R n0 K Q h k n pc' Ls (.long (x - y) :: st)) : Wp l R n0 K Q h k n pc Ls (.long y :: .long x :: st) := by
  obtain ⟨p, e, s, m, args, below, meth, c⟩ := K
  obtain ⟨hx, hby, hZ, hown, hnm, hml, hret, hlk⟩ := ok
  obtain ⟨hd, rfl⟩ := hd
  intro T locs X hT hF
  obtain ⟨s₂, o, h1, h2⟩ := hr T locs X hT hF
  exact ⟨s₂, o, XS.lsub X.here hx rfl (hb hby hd) rfl h1, h2⟩
theorem w_lmul (ok : Ok Z K code own nm maxL ret) {x y : Int64} (hd : Fet code pc pc' (.lmul) 1)  (hr : Wp l R n0 K Q h k n pc' Ls (.long (x * y) :: st)) : Wp l R n0 K Q h k n pc Ls (.long y :: .long x :: st) := by
  obtain ⟨p, e, s, m, args, below, meth, c⟩ := K
  obtain ⟨hx, hby, hZ, hown, hnm, hml, hret, hlk⟩ := ok
  obtain ⟨hd, rfl⟩ := hd
  intro T locs X hT hF
  obtain ⟨s₂, o, h1, h2⟩ := hr T locs X hT hF
  exact ⟨s₂, o, XS.lmul X.here hx rfl (hb hby hd) rfl h1, h2⟩
theorem w_land (ok : Ok Z K code own nm maxL ret) {x y : Int64} (hd : Fet code pc pc' (.land) 1)  (hr : Wp l R n0 K Q h k n pc' Ls (.long (x &&& y) :: st)) : Wp l R n0 K Q h k n pc Ls (.long y :: .long x :: st) := by
  obtain ⟨p, e, s, m, args, below, meth, c⟩ := K
  obtain ⟨hx, hby, hZ, hown, hnm, hml, hret, hlk⟩ := ok
  obtain ⟨hd, rfl⟩ := hd
  intro T locs X hT hF
  obtain ⟨s₂, o, h1, h2⟩ := hr T locs X hT hF
  exact ⟨s₂, o, XS.land X.here hx rfl (hb hby hd) rfl h1, h2⟩
theorem w_lor (ok : Ok Z K code own nm maxL ret) {x y : Int64} (hd : Fet code pc pc' (.lor) 1)  (hr : Wp l R n0 K Q h k n pc' Ls (.long (x ||| y) :: st)) : Wp l R n0 K Q h k n pc Ls (.long y :: .long x :: st) := by
  obtain ⟨p, e, s, m, args, below, meth, c⟩ := K
  obtain ⟨hx, hby, hZ, hown, hnm, hml, hret, hlk⟩ := ok
  obtain ⟨hd, rfl⟩ := hd
  intro T locs X hT hF
  obtain ⟨s₂, o, h1, h2⟩ := hr T locs X hT hF
  exact ⟨s₂, o, XS.lor X.here hx rfl (hb hby hd) rfl h1, h2⟩
theorem w_lxor (ok : Ok Z K code own nm maxL ret) {x y : Int64} (hd : Fet code pc pc' (.lxor) 1)  (hr : Wp l R n0 K Q h k n pc' Ls (.long (x ^^^ y) :: st)) : Wp l R n0 K Q h k n pc Ls (.long y :: .long x :: st) := by
  obtain ⟨p, e, s, m, args, below, meth, c⟩ := K
  obtain ⟨hx, hby, hZ, hown, hnm, hml, hret, hlk⟩ := ok
  obtain ⟨hd, rfl⟩ := hd
  intro T locs X hT hF
  obtain ⟨s₂, o, h1, h2⟩ := hr T locs X hT hF
  exact ⟨s₂, o, XS.lxor X.here hx rfl (hb hby hd) rfl h1, h2⟩
theorem w_ishl (ok : Ok Z K code own nm maxL ret) {x y : Int32} (hd : Fet code pc pc' (.ishl) 1)  (hr : Wp l R n0 K Q h k n pc' Ls (.int (x <<< (y &&& 31)) :: st)) : Wp l R n0 K Q h k n pc Ls (.int y :: .int x :: st) := by
  obtain ⟨p, e, s, m, args, below, meth, c⟩ := K
  obtain ⟨hx, hby, hZ, hown, hnm, hml, hret, hlk⟩ := ok
  obtain ⟨hd, rfl⟩ := hd
  intro T locs X hT hF
  obtain ⟨s₂, o, h1, h2⟩ := hr T locs X hT hF
  exact ⟨s₂, o, XS.ishl X.here hx rfl (hb hby hd) rfl h1, h2⟩
theorem w_ishr (ok : Ok Z K code own nm maxL ret) {x y : Int32} (hd : Fet code pc pc' (.ishr) 1)  (hr : Wp l R n0 K Q h k n pc' Ls (.int (x >>> (y &&& 31)) :: st)) : Wp l R n0 K Q h k n pc Ls (.int y :: .int x :: st) := by
  obtain ⟨p, e, s, m, args, below, meth, c⟩ := K
  obtain ⟨hx, hby, hZ, hown, hnm, hml, hret, hlk⟩ := ok
  obtain ⟨hd, rfl⟩ := hd
  intro T locs X hT hF
  obtain ⟨s₂, o, h1, h2⟩ := hr T locs X hT hF
  exact ⟨s₂, o, XS.ishr X.here hx rfl (hb hby hd) rfl h1, h2⟩
theorem w_iushr (ok : Ok Z K code own nm maxL ret) {x y : Int32} (hd : Fet code pc pc' (.iushr) 1)  (hr : Wp l R n0 K Q h k n pc' Ls (.int ((x.toUInt32 >>> (y &&& 31).toUInt32).toInt32) :: st)) : Wp l R n0 K Q h k n pc Ls (.int y :: .int x :: st) := by
  obtain ⟨p, e, s, m, args, below, meth, c⟩ := K
  obtain ⟨hx, hby, hZ, hown, hnm, hml, hret, hlk⟩ := ok
  obtain ⟨hd, rfl⟩ := hd
  intro T locs X hT hF
  obtain ⟨s₂, o, h1, h2⟩ := hr T locs X hT hF
  exact ⟨s₂, o, XS.iushr X.here hx rfl (hb hby hd) rfl h1, h2⟩
theorem w_lshl (ok : Ok Z K code own nm maxL ret) {x : Int64} {y : Int32} (hd : Fet code pc pc' (.lshl) 1)  (hr : Wp l R n0 K Q h k n pc' Ls (.long (x <<< (y &&& 0x3f).toInt64) :: st)) : Wp l R n0 K Q h k n pc Ls (.int y :: .long x :: st) := by
  obtain ⟨p, e, s, m, args, below, meth, c⟩ := K
  obtain ⟨hx, hby, hZ, hown, hnm, hml, hret, hlk⟩ := ok
  obtain ⟨hd, rfl⟩ := hd
  intro T locs X hT hF
  obtain ⟨s₂, o, h1, h2⟩ := hr T locs X hT hF
  exact ⟨s₂, o, XS.lshl X.here hx rfl (hb hby hd) rfl h1, h2⟩
theorem w_lshr (ok : Ok Z K code own nm maxL ret) {x : Int64} {y : Int32} (hd : Fet code pc pc' (.lshr) 1)  (hr : Wp l R n0 K Q h k n pc' Ls (.long (x >>> (y &&& 0x3f).toInt64) :: st)) : Wp l R n0 K Q h k n pc Ls (.int y :: .long x :: st) := by
  obtain ⟨p, e, s, m, args, below, meth, c⟩ := K
  obtain ⟨hx, hby, hZ, hown, hnm, hml, hret, hlk⟩ := ok
  obtain ⟨hd, rfl⟩ := hd
  intro T locs X hT hF
  obtain ⟨s₂, o, h1, h2⟩ := hr T locs X hT hF
  exact ⟨s₂, o, XS.lshr X.here hx rfl (hb hby hd) rfl h1, h2⟩
theorem w_lushr (ok : Ok Z K code own nm maxL ret) {x : Int64} {y : Int32} (hd : Fet code pc pc' (.lushr) 1)  (hr : Wp l R n0 K Q h k n pc' Ls (.long ((x.toUInt64 >>> (y &&& 0x3f).toInt64.toUInt64).toInt64) :: st)) : Wp l R n0 K Q h k n pc Ls (.int y :: .long x :: st) := by
  obtain ⟨p, e, s, m, args, below, meth, c⟩ := K
  obtain ⟨hx, hby, hZ, hown, hnm, hml, hret, hlk⟩ := ok
  obtain ⟨hd, rfl⟩ := hd
  intro T locs X hT hF
  obtain ⟨s₂, o, h1, h2⟩ := hr T locs X hT hF
  exact ⟨s₂, o, XS.lushr X.here hx rfl (hb hby hd) rfl h1, h2⟩
theorem w_idiv (ok : Ok Z K code own nm maxL ret) {x y : Int32} (hd : Fet code pc pc' (.idiv) 1) (hy : y ≠ 0) (hr : Wp l R n0 K Q h k n pc' Ls (.int (x / y) :: st)) : Wp l R n0 K Q h k n pc Ls (.int y :: .int x :: st) := by
  obtain ⟨p, e, s, m, args, below, meth, c⟩ := K
  obtain ⟨hx, hby, hZ, hown, hnm, hml, hret, hlk⟩ := ok
  obtain ⟨hd, rfl⟩ := hd
  intro T locs X hT hF
  obtain ⟨s₂, o, h1, h2⟩ := hr T locs X hT hF
  exact ⟨s₂, o, XS.idiv X.here hx rfl (hb hby hd) rfl hy h1, h2⟩
theorem w_ldiv (ok : Ok Z K code own nm maxL ret) {x y : Int64} (hd : Fet code pc pc' (.ldiv) 1) (hy : y ≠ 0) (hr : Wp l R n0 K Q h k n pc' Ls (.long (x / y) :: st)) : Wp l R n0 K Q h k n pc Ls (.long y :: .long x :: st) := by
  obtain ⟨p, e, s, m, args, below, meth, c⟩ := K
  obtain ⟨hx, hby, hZ, hown, hnm, hml, hret, hlk⟩ := ok
  obtain ⟨hd, rfl⟩ := hd
  intro T locs X hT hF
  obtain ⟨s₂, o, h1, h2⟩ := hr T locs X hT hF
  exact ⟨s₂, o, XS.ldiv X.here hx rfl (hb hby hd) rfl hy h1, h2⟩
theorem w_ineg (ok : Ok Z K code own nm maxL ret) {x : Int32} (hd : Fet code pc pc' (.ineg) 1)  (hr : Wp l R n0 K Q h k n pc' Ls (.int (-x) :: st)) : Wp l R n0 K Q h k n pc Ls (.int x :: st) := by
  obtain ⟨p, e, s, m, args, below, meth, c⟩ := K
  obtain ⟨hx, hby, hZ, hown, hnm, hml, hret, hlk⟩ := ok
  obtain ⟨hd, rfl⟩ := hd
  intro T locs X hT hF
  obtain ⟨s₂, o, h1, h2⟩ := hr T locs X hT hF
  exact ⟨s₂, o, XS.ineg X.here hx rfl (hb hby hd) rfl h1, h2⟩
theorem w_lneg (ok : Ok Z K code own nm maxL ret) {x : Int64} (hd : Fet code pc pc' (.lneg) 1)  (hr : Wp l R n0 K Q h k n pc' Ls (.long (-x) :: st)) : Wp l R n0 K Q h k n pc Ls (.long x :: st) := by
  obtain ⟨p, e, s, m, args, below, meth, c⟩ := K
  obtain ⟨hx, hby, hZ, hown, hnm, hml, hret, hlk⟩ := ok
  obtain ⟨hd, rfl⟩ := hd
  intro T locs X hT hF
  obtain ⟨s₂, o, h1, h2⟩ := hr T locs X hT hF
  exact ⟨s₂, o, XS.lneg X.here hx rfl (hb hby hd) rfl h1, h2⟩
theorem w_i2l (ok : Ok Z K code own nm maxL ret) {x : Int32} (hd : Fet code pc pc' (.i2l) 1)  (hr : Wp l R n0 K Q h k n pc' Ls (.long x.toInt64 :: st)) : Wp l R n0 K Q h k n pc Ls (.int x :: st) := by
  obtain ⟨p, e, s, m, args, below, meth, c⟩ := K
  obtain ⟨hx, hby, hZ, hown, hnm, hml, hret, hlk⟩ := ok
  obtain ⟨hd, rfl⟩ := hd
  intro T locs X hT hF
  obtain ⟨s₂, o, h1, h2⟩ := hr T locs X hT hF
  exact ⟨s₂, o, XS.i2l X.here hx rfl (hb hby hd) rfl h1, h2⟩
theorem w_l2i (ok : Ok Z K code own nm maxL ret) {x : Int64} (hd : Fet code pc pc' (.l2i) 1)  (hr : Wp l R n0 K Q h k n pc' Ls (.int x.toInt32 :: st)) : Wp l R n0 K Q h k n pc Ls (.long x :: st) := by
  obtain ⟨p, e, s, m, args, below, meth, c⟩ := K
  obtain ⟨hx, hby, hZ, hown, hnm, hml, hret, hlk⟩ := ok
  obtain ⟨hd, rfl⟩ := hd
  intro T locs X hT hF
  obtain ⟨s₂, o, h1, h2⟩ := hr T locs X hT hF
  exact ⟨s₂, o, XS.l2i X.here hx rfl (hb hby hd) rfl h1, h2⟩
theorem w_i2b (ok : Ok Z K code own nm maxL ret) {x : Int32} (hd : Fet code pc pc' (.i2b) 1)  (hr : Wp l R n0 K Q h k n pc' Ls (.int x.toInt8.toInt32 :: st)) : Wp l R n0 K Q h k n pc Ls (.int x :: st) := by
  obtain ⟨p, e, s, m, args, below, meth, c⟩ := K
  obtain ⟨hx, hby, hZ, hown, hnm, hml, hret, hlk⟩ := ok
  obtain ⟨hd, rfl⟩ := hd
  intro T locs X hT hF
  obtain ⟨s₂, o, h1, h2⟩ := hr T locs X hT hF
  exact ⟨s₂, o, XS.i2b X.here hx rfl (hb hby hd) rfl h1, h2⟩
theorem w_i2s (ok : Ok Z K code own nm maxL ret) {x : Int32} (hd : Fet code pc pc' (.i2s) 1)  (hr : Wp l R n0 K Q h k n pc' Ls (.int x.toInt16.toInt32 :: st)) : Wp l R n0 K Q h k n pc Ls (.int x :: st) := by
  obtain ⟨p, e, s, m, args, below, meth, c⟩ := K
  obtain ⟨hx, hby, hZ, hown, hnm, hml, hret, hlk⟩ := ok
  obtain ⟨hd, rfl⟩ := hd
  intro T locs X hT hF
  obtain ⟨s₂, o, h1, h2⟩ := hr T locs X hT hF
  exact ⟨s₂, o, XS.i2s X.here hx rfl (hb hby hd) rfl h1, h2⟩
theorem w_i2c (ok : Ok Z K code own nm maxL ret) {x : Int32} (hd : Fet code pc pc' (.i2c) 1)  (hr : Wp l R n0 K Q h k n pc' Ls (.int x.toUInt32.toUInt16.toUInt32.toInt32 :: st)) : Wp l R n0 K Q h k n pc Ls (.int x :: st) := by
  obtain ⟨p, e, s, m, args, below, meth, c⟩ := K
  obtain ⟨hx, hby, hZ, hown, hnm, hml, hret, hlk⟩ := ok
  obtain ⟨hd, rfl⟩ := hd
  intro T locs X hT hF
  obtain ⟨s₂, o, h1, h2⟩ := hr T locs X hT hF
  exact ⟨s₂, o, XS.i2c X.here hx rfl (hb hby hd) rfl h1, h2⟩
theorem w_dup (ok : Ok Z K code own nm maxL ret) {x : Value} (hd : Fet code pc pc' (.dup) 1) (hc : x.category = 1) (hr : Wp l R n0 K Q h k n pc' Ls (x :: x :: st)) : Wp l R n0 K Q h k n pc Ls (x :: st) := by
  obtain ⟨p, e, s, m, args, below, meth, c⟩ := K
  obtain ⟨hx, hby, hZ, hown, hnm, hml, hret, hlk⟩ := ok
  obtain ⟨hd, rfl⟩ := hd
  intro T locs X hT hF
  obtain ⟨s₂, o, h1, h2⟩ := hr T locs X hT hF
  exact ⟨s₂, o, XS.dup X.here hx rfl (hb hby hd) rfl hc h1, h2⟩
theorem w_pop (ok : Ok Z K code own nm maxL ret) {x : Value} (hd : Fet code pc pc' (.pop) 1) (hc : x.category = 1) (hr : Wp l R n0 K Q h k n pc' Ls st) : Wp l R n0 K Q h k n pc Ls (x :: st) := by
  obtain ⟨p, e, s, m, args, below, meth, c⟩ := K
  obtain ⟨hx, hby, hZ, hown, hnm, hml, hret, hlk⟩ := ok
  obtain ⟨hd, rfl⟩ := hd
  intro T locs X hT hF
  obtain ⟨s₂, o, h1, h2⟩ := hr T locs X hT hF
  exact ⟨s₂, o, XS.pop X.here hx rfl (hb hby hd) rfl hc h1, h2⟩
theorem w_dupX1 (ok : Ok Z K code own nm maxL ret) {x y : Value} (hd : Fet code pc pc' (.dup_x1) 1) (hc : x.category = 1) (hc' : y.category = 1) (hr : Wp l R n0 K Q h k n pc' Ls (x :: y :: x :: st)) : Wp l R n0 K Q h k n pc Ls (x :: y :: st) := by
  obtain ⟨p, e, s, m, args, below, meth, c⟩ := K
  obtain ⟨hx, hby, hZ, hown, hnm, hml, hret, hlk⟩ := ok
  obtain ⟨hd, rfl⟩ := hd
  intro T locs X hT hF
  obtain ⟨s₂, o, h1, h2⟩ := hr T locs X hT hF
  exact ⟨s₂, o, XS.dupX1 X.here hx rfl (hb hby hd) rfl hc hc' h1, h2⟩
theorem w_dup2 (ok : Ok Z K code own nm maxL ret) {x y : Value} (hd : Fet code pc pc' (.dup2) 1) (hc : x.category = 1) (hc' : y.category = 1) (hr : Wp l R n0 K Q h k n pc' Ls (x :: y :: x :: y :: st)) : Wp l R n0 K Q h k n pc Ls (x :: y :: st) := by
  obtain ⟨p, e, s, m, args, below, meth, c⟩ := K
  obtain ⟨hx, hby, hZ, hown, hnm, hml, hret, hlk⟩ := ok
  obtain ⟨hd, rfl⟩ := hd
  intro T locs X hT hF
  obtain ⟨s₂, o, h1, h2⟩ := hr T locs X hT hF
  exact ⟨s₂, o, Jvm.Free.XT.dup2 X.here hx rfl (hb hby hd) rfl hc hc' h1, h2⟩
theorem w_dup2L (ok : Ok Z K code own nm maxL ret) {x : Int64} (hd : Fet code pc pc' (.dup2) 1)  (hr : Wp l R n0 K Q h k n pc' Ls (.long x :: .long x :: st)) : Wp l R n0 K Q h k n pc Ls (.long x :: st) := by
  obtain ⟨p, e, s, m, args, below, meth, c⟩ := K
  obtain ⟨hx, hby, hZ, hown, hnm, hml, hret, hlk⟩ := ok
  obtain ⟨hd, rfl⟩ := hd
  intro T locs X hT hF
  obtain ⟨s₂, o, h1, h2⟩ := hr T locs X hT hF
  exact ⟨s₂, o, Jvm.Free.XT.dup2L X.here hx rfl (hb hby hd) rfl h1, h2⟩
theorem w_irem (ok : Ok Z K code own nm maxL ret) {x y : Int32} (hd : Fet code pc pc' (.irem) 1) (hy : y ≠ 0) (hr : Wp l R n0 K Q h k n pc' Ls (.int (x % y) :: st)) : Wp l R n0 K Q h k n pc Ls (.int y :: .int x :: st) := by
  obtain ⟨p, e, s, m, args, below, meth, c⟩ := K
  obtain ⟨hx, hby, hZ, hown, hnm, hml, hret, hlk⟩ := ok
  obtain ⟨hd, rfl⟩ := hd
  intro T locs X hT hF
  obtain ⟨s₂, o, h1, h2⟩ := hr T locs X hT hF
  exact ⟨s₂, o, iremM X hx rfl (hb hby hd) rfl hy h1, h2⟩
theorem lrem_mod (x y : Int64) : x - (x / y) * y = x % y := by
  apply Int64.toInt_inj.mp
  have h1 := Int64.le_toInt (x % y)
  have h2 := Int64.toInt_lt (x % y)
  rw [Int64.toInt_sub, Int64.toInt_mul, Int64.toInt_div, Int.bmod_mul_bmod, Int.sub_bmod_bmod, Int.mul_comm (x.toInt.tdiv y.toInt), ← Int.tmod_def, ← Int64.toInt_mod]
  exact Int.bmod_eq_of_le_mul_two (by omega) (by omega)

theorem w_lrem (ok : Ok Z K code own nm maxL ret) {x y : Int64} (hd : Fet code pc pc' (.lrem) 1) (hy : y ≠ 0) (hr : Wp l R n0 K Q h k n pc' Ls (.long (x % y) :: st)) : Wp l R n0 K Q h k n pc Ls (.long y :: .long x :: st) := by
  obtain ⟨p, e, s, m, args, below, meth, c⟩ := K
  obtain ⟨hx, hby, hZ, hown, hnm, hml, hret, hlk⟩ := ok
  obtain ⟨hd, rfl⟩ := hd
  intro T locs X hT hF
  obtain ⟨s₂, o, h1, h2⟩ := hr T locs X hT hF
  exact ⟨s₂, o, XS.lrem X.here hx rfl (hb hby hd) rfl hy (by rw [lrem_mod]; exact h1), h2⟩
theorem w_ldc (ok : Ok Z K code own nm maxL ret) {i : Nat} {x : Int32} (w : (Cond.constant own i x).before a0 Z = true) (hd : Fet code pc pc' (.ldc i) 2) (hr : Wp l R n0 K Q h k n pc' Ls (.int x :: st)) : Wp l R n0 K Q h k n pc Ls st := by
  obtain ⟨p, e, s, m, args, below, meth, c⟩ := K
  obtain ⟨hx, hby, hZ, hown, hnm, hml, hret, hlk⟩ := ok
  obtain ⟨hd, rfl⟩ := hd
  intro T locs X hT hF
  obtain ⟨s₂, o, h1, h2⟩ := hr T locs X hT hF
  exact ⟨s₂, o, X.ldcInt hx hown (mvT hZ w) (g := mkF m pc Ls st) rfl (hb hby hd) _ h1, h2⟩
theorem w_ldc2 (ok : Ok Z K code own nm maxL ret) {i : Nat} {x : Int64} (w : (Cond.constantLong own i x).before a0 Z = true) (hd : Fet code pc pc' (.ldc2_w i) 3) (hr : Wp l R n0 K Q h k n pc' Ls (.long x :: st)) : Wp l R n0 K Q h k n pc Ls st := by
  obtain ⟨p, e, s, m, args, below, meth, c⟩ := K
  obtain ⟨hx, hby, hZ, hown, hnm, hml, hret, hlk⟩ := ok
  obtain ⟨hd, rfl⟩ := hd
  intro T locs X hT hF
  obtain ⟨s₂, o, h1, h2⟩ := hr T locs X hT hF
  exact ⟨s₂, o, X.ldc2Long hx hown (mvT hZ w) (g := mkF m pc Ls st) rfl (hb hby hd) _ h1, h2⟩
theorem w_goto (ok : Ok Z K code own nm maxL ret) {pcN : Nat} {o : Int} (hd : Brn code pc pcN pc' (.goto o) o) (hr : Wp l R n0 K Q h k n pc' Ls st) : Wp l R n0 K Q h k n pc Ls st := by
  obtain ⟨p, e, s, m, args, below, meth, c⟩ := K
  obtain ⟨hx, hby, hZ, hown, hnm, hml, hret, hlk⟩ := ok
  obtain ⟨hd, rfl, ho, hp⟩ := hd
  intro T locs X hT hF
  obtain ⟨s₂, o, h1, h2⟩ := hr T locs X hT hF
  exact ⟨s₂, o, XS.goto X.here hx rfl rfl (hb hby hd) ho hp h1, h2⟩
theorem w_if0 (ok : Ok Z K code own nm maxL ret) {pcN pcT : Nat} {o : Int} {cd : ClassFile.Cond} {x : Int32} (hd : Brn code pc pcN pcT (.ifCond cd o) o) (hy : ifCond.holds cd x = true → Wp l R n0 K Q h k n pcT Ls st) (hn : ifCond.holds cd x = false → Wp l R n0 K Q h k n pcN Ls st) : Wp l R n0 K Q h k n pc Ls (.int x :: st) := by
  obtain ⟨p, e, s, m, args, below, meth, c⟩ := K
  obtain ⟨hx, hby, hZ, hown, hnm, hml, hret, hlk⟩ := ok
  obtain ⟨hd, rfl, ho, hp⟩ := hd
  intro T locs X hT hF
  cases hc : ifCond.holds cd x
  · obtain ⟨s₂, o, h1, h2⟩ := hn hc T locs X hT hF
    exact ⟨s₂, o, XS.ifNo X.here hx rfl (hb hby hd) rfl hc h1, h2⟩
  · obtain ⟨s₂, o, h1, h2⟩ := hy hc T locs X hT hF
    exact ⟨s₂, o, XS.ifYes X.here hx rfl rfl (hb hby hd) rfl hc ho hp h1, h2⟩
theorem w_ic (ok : Ok Z K code own nm maxL ret) {pcN pcT : Nat} {o : Int} {cd : ClassFile.Cond} {x y : Int32} (hd : Brn code pc pcN pcT (.if_icmp cd o) o) (hy : if_icmp.holds cd x y = true → Wp l R n0 K Q h k n pcT Ls st) (hn : if_icmp.holds cd x y = false → Wp l R n0 K Q h k n pcN Ls st) : Wp l R n0 K Q h k n pc Ls (.int y :: .int x :: st) := by
  obtain ⟨p, e, s, m, args, below, meth, c⟩ := K
  obtain ⟨hx, hby, hZ, hown, hnm, hml, hret, hlk⟩ := ok
  obtain ⟨hd, rfl, ho, hp⟩ := hd
  intro T locs X hT hF
  cases hc : if_icmp.holds cd x y
  · obtain ⟨s₂, o, h1, h2⟩ := hn hc T locs X hT hF
    exact ⟨s₂, o, XS.icmpNo X.here hx rfl (hb hby hd) rfl hc h1, h2⟩
  · obtain ⟨s₂, o, h1, h2⟩ := hy hc T locs X hT hF
    exact ⟨s₂, o, XS.icmpYes X.here hx rfl rfl (hb hby hd) rfl hc ho hp h1, h2⟩
theorem w_lcmp (ok : Ok Z K code own nm maxL ret) {x y : Int64} (hd : Fet code pc pc' .lcmp 1) (hr : Wp l R n0 K Q h k n pc' Ls (.int (lcmpW x y) :: st)) : Wp l R n0 K Q h k n pc Ls (.long y :: .long x :: st) := by
  obtain ⟨p, e, s, m, args, below, meth, c⟩ := K
  obtain ⟨hx, hby, hZ, hown, hnm, hml, hret, hlk⟩ := ok
  obtain ⟨hd, rfl⟩ := hd
  intro T locs X hT hF
  obtain ⟨s₂, o, h1, h2⟩ := hr T locs X hT hF
  exact ⟨s₂, o, XS.lcmp X.here hx rfl (hb hby hd) rfl h1, h2⟩
theorem h_eq {x y : Int32} : if_icmp.holds .eq x y = decide (x = y) := by rw [Bool.eq_iff_iff]; simp [if_icmp.holds]
theorem h_ne {x y : Int32} : if_icmp.holds .ne x y = decide (¬ x = y) := by rw [Bool.eq_iff_iff]; simp [if_icmp.holds]
theorem h_lt {x y : Int32} : if_icmp.holds .lt x y = decide (x < y) := by simp [if_icmp.holds]
theorem h_ge {x y : Int32} : if_icmp.holds .ge x y = decide (¬ x < y) := by simp [if_icmp.holds]
theorem h_gt {x y : Int32} : if_icmp.holds .gt x y = decide (y < x) := by simp [if_icmp.holds]
theorem h_le {x y : Int32} : if_icmp.holds .le x y = decide (¬ y < x) := by simp [if_icmp.holds]
theorem w_ic_eq (ok : Ok Z K code own nm maxL ret) {pcN pcT : Nat} {o : Int} {x y : Int32} (hd : Brn code pc pcN pcT (.if_icmp .eq o) o) (hy : x = y → Wp l R n0 K Q h k n pcT Ls st) (hn : ¬ x = y → Wp l R n0 K Q h k n pcN Ls st) : Wp l R n0 K Q h k n pc Ls (.int y :: .int x :: st) :=
  w_ic ok hd (fun q => hy (by rw [h_eq] at q; simpa using q)) (fun q => hn (by rw [h_eq] at q; simpa using q))
theorem w_if_eq (ok : Ok Z K code own nm maxL ret) {pcN pcT : Nat} {o : Int} {x : Int32} (hd : Brn code pc pcN pcT (.ifCond .eq o) o) (hy : x = 0 → Wp l R n0 K Q h k n pcT Ls st) (hn : ¬ x = 0 → Wp l R n0 K Q h k n pcN Ls st) : Wp l R n0 K Q h k n pc Ls (.int x :: st) :=
  w_if0 ok hd (fun q => hy (by rw [if0, h_eq] at q; simpa using q)) (fun q => hn (by rw [if0, h_eq] at q; simpa using q))
theorem w_lc_eq (ok : Ok Z K code own nm maxL ret) {pcM pcN pcT : Nat} {o : Int} {x y : Int64} (hd1 : Fet code pc pcM .lcmp 1) (hd : Brn code pcM pcN pcT (.ifCond .eq o) o) (hy : x = y → Wp l R n0 K Q h k n pcT Ls st) (hn : ¬ x = y → Wp l R n0 K Q h k n pcN Ls st) : Wp l R n0 K Q h k n pc Ls (.long y :: .long x :: st) :=
  w_lcmp ok hd1 (w_if_eq ok hd (fun q => hy ((lw_eq x y).mp q)) (fun q => hn (fun r => q ((lw_eq x y).mpr r))))
theorem w_ic_ne (ok : Ok Z K code own nm maxL ret) {pcN pcT : Nat} {o : Int} {x y : Int32} (hd : Brn code pc pcN pcT (.if_icmp .ne o) o) (hy : ¬ x = y → Wp l R n0 K Q h k n pcT Ls st) (hn : x = y → Wp l R n0 K Q h k n pcN Ls st) : Wp l R n0 K Q h k n pc Ls (.int y :: .int x :: st) :=
  w_ic ok hd (fun q => hy (by rw [h_ne] at q; simpa using q)) (fun q => hn (by rw [h_ne] at q; simpa using q))
theorem w_if_ne (ok : Ok Z K code own nm maxL ret) {pcN pcT : Nat} {o : Int} {x : Int32} (hd : Brn code pc pcN pcT (.ifCond .ne o) o) (hy : ¬ x = 0 → Wp l R n0 K Q h k n pcT Ls st) (hn : x = 0 → Wp l R n0 K Q h k n pcN Ls st) : Wp l R n0 K Q h k n pc Ls (.int x :: st) :=
  w_if0 ok hd (fun q => hy (by rw [if0, h_ne] at q; simpa using q)) (fun q => hn (by rw [if0, h_ne] at q; simpa using q))
theorem w_lc_ne (ok : Ok Z K code own nm maxL ret) {pcM pcN pcT : Nat} {o : Int} {x y : Int64} (hd1 : Fet code pc pcM .lcmp 1) (hd : Brn code pcM pcN pcT (.ifCond .ne o) o) (hy : ¬ x = y → Wp l R n0 K Q h k n pcT Ls st) (hn : x = y → Wp l R n0 K Q h k n pcN Ls st) : Wp l R n0 K Q h k n pc Ls (.long y :: .long x :: st) :=
  w_lcmp ok hd1 (w_if_ne ok hd (fun q => hy (fun r => q ((lw_eq x y).mpr r))) (fun q => hn ((lw_eq x y).mp q)))
theorem w_ic_lt (ok : Ok Z K code own nm maxL ret) {pcN pcT : Nat} {o : Int} {x y : Int32} (hd : Brn code pc pcN pcT (.if_icmp .lt o) o) (hy : x < y → Wp l R n0 K Q h k n pcT Ls st) (hn : ¬ x < y → Wp l R n0 K Q h k n pcN Ls st) : Wp l R n0 K Q h k n pc Ls (.int y :: .int x :: st) :=
  w_ic ok hd (fun q => hy (by rw [h_lt] at q; simpa using q)) (fun q => hn (by rw [h_lt] at q; simpa using q))
theorem w_if_lt (ok : Ok Z K code own nm maxL ret) {pcN pcT : Nat} {o : Int} {x : Int32} (hd : Brn code pc pcN pcT (.ifCond .lt o) o) (hy : x < 0 → Wp l R n0 K Q h k n pcT Ls st) (hn : ¬ x < 0 → Wp l R n0 K Q h k n pcN Ls st) : Wp l R n0 K Q h k n pc Ls (.int x :: st) :=
  w_if0 ok hd (fun q => hy (by rw [if0, h_lt] at q; simpa using q)) (fun q => hn (by rw [if0, h_lt] at q; simpa using q))
theorem w_lc_lt (ok : Ok Z K code own nm maxL ret) {pcM pcN pcT : Nat} {o : Int} {x y : Int64} (hd1 : Fet code pc pcM .lcmp 1) (hd : Brn code pcM pcN pcT (.ifCond .lt o) o) (hy : x < y → Wp l R n0 K Q h k n pcT Ls st) (hn : ¬ x < y → Wp l R n0 K Q h k n pcN Ls st) : Wp l R n0 K Q h k n pc Ls (.long y :: .long x :: st) :=
  w_lcmp ok hd1 (w_if_lt ok hd (fun q => hy ((lw_lt x y).mp q)) (fun q => hn (fun r => q ((lw_lt x y).mpr r))))
theorem w_ic_ge (ok : Ok Z K code own nm maxL ret) {pcN pcT : Nat} {o : Int} {x y : Int32} (hd : Brn code pc pcN pcT (.if_icmp .ge o) o) (hy : ¬ x < y → Wp l R n0 K Q h k n pcT Ls st) (hn : x < y → Wp l R n0 K Q h k n pcN Ls st) : Wp l R n0 K Q h k n pc Ls (.int y :: .int x :: st) :=
  w_ic ok hd (fun q => hy (by rw [h_ge] at q; simpa using q)) (fun q => hn (by rw [h_ge] at q; simpa using q))
theorem w_if_ge (ok : Ok Z K code own nm maxL ret) {pcN pcT : Nat} {o : Int} {x : Int32} (hd : Brn code pc pcN pcT (.ifCond .ge o) o) (hy : ¬ x < 0 → Wp l R n0 K Q h k n pcT Ls st) (hn : x < 0 → Wp l R n0 K Q h k n pcN Ls st) : Wp l R n0 K Q h k n pc Ls (.int x :: st) :=
  w_if0 ok hd (fun q => hy (by rw [if0, h_ge] at q; simpa using q)) (fun q => hn (by rw [if0, h_ge] at q; simpa using q))
theorem w_lc_ge (ok : Ok Z K code own nm maxL ret) {pcM pcN pcT : Nat} {o : Int} {x y : Int64} (hd1 : Fet code pc pcM .lcmp 1) (hd : Brn code pcM pcN pcT (.ifCond .ge o) o) (hy : ¬ x < y → Wp l R n0 K Q h k n pcT Ls st) (hn : x < y → Wp l R n0 K Q h k n pcN Ls st) : Wp l R n0 K Q h k n pc Ls (.long y :: .long x :: st) :=
  w_lcmp ok hd1 (w_if_ge ok hd (fun q => hy (fun r => q ((lw_lt x y).mpr r))) (fun q => hn ((lw_lt x y).mp q)))
theorem w_ic_gt (ok : Ok Z K code own nm maxL ret) {pcN pcT : Nat} {o : Int} {x y : Int32} (hd : Brn code pc pcN pcT (.if_icmp .gt o) o) (hy : y < x → Wp l R n0 K Q h k n pcT Ls st) (hn : ¬ y < x → Wp l R n0 K Q h k n pcN Ls st) : Wp l R n0 K Q h k n pc Ls (.int y :: .int x :: st) :=
  w_ic ok hd (fun q => hy (by rw [h_gt] at q; simpa using q)) (fun q => hn (by rw [h_gt] at q; simpa using q))
theorem w_if_gt (ok : Ok Z K code own nm maxL ret) {pcN pcT : Nat} {o : Int} {x : Int32} (hd : Brn code pc pcN pcT (.ifCond .gt o) o) (hy : 0 < x → Wp l R n0 K Q h k n pcT Ls st) (hn : ¬ 0 < x → Wp l R n0 K Q h k n pcN Ls st) : Wp l R n0 K Q h k n pc Ls (.int x :: st) :=
  w_if0 ok hd (fun q => hy (by rw [if0, h_gt] at q; simpa using q)) (fun q => hn (by rw [if0, h_gt] at q; simpa using q))
theorem w_lc_gt (ok : Ok Z K code own nm maxL ret) {pcM pcN pcT : Nat} {o : Int} {x y : Int64} (hd1 : Fet code pc pcM .lcmp 1) (hd : Brn code pcM pcN pcT (.ifCond .gt o) o) (hy : y < x → Wp l R n0 K Q h k n pcT Ls st) (hn : ¬ y < x → Wp l R n0 K Q h k n pcN Ls st) : Wp l R n0 K Q h k n pc Ls (.long y :: .long x :: st) :=
  w_lcmp ok hd1 (w_if_gt ok hd (fun q => hy ((lw_gt x y).mp q)) (fun q => hn (fun r => q ((lw_gt x y).mpr r))))
theorem w_ic_le (ok : Ok Z K code own nm maxL ret) {pcN pcT : Nat} {o : Int} {x y : Int32} (hd : Brn code pc pcN pcT (.if_icmp .le o) o) (hy : ¬ y < x → Wp l R n0 K Q h k n pcT Ls st) (hn : y < x → Wp l R n0 K Q h k n pcN Ls st) : Wp l R n0 K Q h k n pc Ls (.int y :: .int x :: st) :=
  w_ic ok hd (fun q => hy (by rw [h_le] at q; simpa using q)) (fun q => hn (by rw [h_le] at q; simpa using q))
theorem w_if_le (ok : Ok Z K code own nm maxL ret) {pcN pcT : Nat} {o : Int} {x : Int32} (hd : Brn code pc pcN pcT (.ifCond .le o) o) (hy : ¬ 0 < x → Wp l R n0 K Q h k n pcT Ls st) (hn : 0 < x → Wp l R n0 K Q h k n pcN Ls st) : Wp l R n0 K Q h k n pc Ls (.int x :: st) :=
  w_if0 ok hd (fun q => hy (by rw [if0, h_le] at q; simpa using q)) (fun q => hn (by rw [if0, h_le] at q; simpa using q))
theorem w_lc_le (ok : Ok Z K code own nm maxL ret) {pcM pcN pcT : Nat} {o : Int} {x y : Int64} (hd1 : Fet code pc pcM .lcmp 1) (hd : Brn code pcM pcN pcT (.ifCond .le o) o) (hy : ¬ y < x → Wp l R n0 K Q h k n pcT Ls st) (hn : y < x → Wp l R n0 K Q h k n pcN Ls st) : Wp l R n0 K Q h k n pc Ls (.long y :: .long x :: st) :=
  w_lcmp ok hd1 (w_if_le ok hd (fun q => hy (fun r => q ((lw_gt x y).mpr r))) (fun q => hn ((lw_gt x y).mp q)))
theorem w_ifnull_yes (ok : Ok Z K code own nm maxL ret) {pcN pcT : Nat} {o : Int} (hd : Brn code pc pcN pcT (.ifnull o) o) (hr : Wp l R n0 K Q h k n pcT Ls st) : Wp l R n0 K Q h k n pc Ls (.null :: st) := by
  obtain ⟨p, e, s, m, args, below, meth, c⟩ := K
  obtain ⟨hx, hby, hZ, hown, hnm, hml, hret, hlk⟩ := ok
  obtain ⟨hd, rfl, ho, hp⟩ := hd
  intro T locs X hT hF
  obtain ⟨s₂, o, h1, h2⟩ := hr T locs X hT hF
  exact ⟨s₂, o, XS.ifnullYes X.here hx rfl rfl (hb hby hd) rfl ho hp h1, h2⟩
theorem w_ifnull_no (ok : Ok Z K code own nm maxL ret) {pcN pcT : Nat} {o : Int} {b : Addr} (hd : Brn code pc pcN pcT (.ifnull o) o) (hr : Wp l R n0 K Q h k n pcN Ls st) : Wp l R n0 K Q h k n pc Ls (.ref b :: st) := by
  obtain ⟨p, e, s, m, args, below, meth, c⟩ := K
  obtain ⟨hx, hby, hZ, hown, hnm, hml, hret, hlk⟩ := ok
  obtain ⟨hd, rfl, ho, hp⟩ := hd
  intro T locs X hT hF
  obtain ⟨s₂, o, h1, h2⟩ := hr T locs X hT hF
  exact ⟨s₂, o, XS.ifnullNo X.here hx rfl (hb hby hd) rfl h1, h2⟩
theorem w_ifnonnull_yes (ok : Ok Z K code own nm maxL ret) {pcN pcT : Nat} {o : Int} {b : Addr} (hd : Brn code pc pcN pcT (.ifnonnull o) o) (hr : Wp l R n0 K Q h k n pcT Ls st) : Wp l R n0 K Q h k n pc Ls (.ref b :: st) := by
  obtain ⟨p, e, s, m, args, below, meth, c⟩ := K
  obtain ⟨hx, hby, hZ, hown, hnm, hml, hret, hlk⟩ := ok
  obtain ⟨hd, rfl, ho, hp⟩ := hd
  intro T locs X hT hF
  obtain ⟨s₂, o, h1, h2⟩ := hr T locs X hT hF
  exact ⟨s₂, o, XS.ifnonnullYes X.here hx rfl rfl (hb hby hd) rfl ho hp h1, h2⟩
theorem w_ifnonnull_no (ok : Ok Z K code own nm maxL ret) {pcN pcT : Nat} {o : Int} (hd : Brn code pc pcN pcT (.ifnonnull o) o) (hr : Wp l R n0 K Q h k n pcN Ls st) : Wp l R n0 K Q h k n pc Ls (.null :: st) := by
  obtain ⟨p, e, s, m, args, below, meth, c⟩ := K
  obtain ⟨hx, hby, hZ, hown, hnm, hml, hret, hlk⟩ := ok
  obtain ⟨hd, rfl, ho, hp⟩ := hd
  intro T locs X hT hF
  obtain ⟨s₂, o, h1, h2⟩ := hr T locs X hT hF
  exact ⟨s₂, o, XS.ifnonnullNo X.here hx rfl (hb hby hd) rfl h1, h2⟩
theorem w_acmp_eq (ok : Ok Z K code own nm maxL ret) {pcN pcT : Nat} {o : Int} {x y : Value} (hd : Brn code pc pcN pcT (.if_acmp .eq o) o) (hx' : x.isRef = true) (hy' : y.isRef = true) (hy : x = y → Wp l R n0 K Q h k n pcT Ls st) (hn : ¬ x = y → Wp l R n0 K Q h k n pcN Ls st) : Wp l R n0 K Q h k n pc Ls (y :: x :: st) := by
  obtain ⟨p, e, s, m, args, below, meth, c⟩ := K
  obtain ⟨hx, hby, hZ, hown, hnm, hml, hret, hlk⟩ := ok
  obtain ⟨hd, rfl, ho, hp⟩ := hd
  intro T locs X hT hF
  by_cases q : x = y
  · obtain ⟨s₂, o, h1, h2⟩ := hy q T locs X hT hF
    exact ⟨s₂, o, Jvm.RoadKit.acmp X hx rfl hx' hy' rfl (hb hby hd) rfl (decide_eq_true q) ho (by simp [acV, hp]) h1, h2⟩
  · obtain ⟨s₂, o, h1, h2⟩ := hn q T locs X hT hF
    exact ⟨s₂, o, Jvm.RoadKit.acmp X hx rfl hx' hy' rfl (hb hby hd) rfl (decide_eq_false q) ho (by simp [acV, hp]) h1, h2⟩
theorem w_acmp_ne (ok : Ok Z K code own nm maxL ret) {pcN pcT : Nat} {o : Int} {x y : Value} (hd : Brn code pc pcN pcT (.if_acmp .ne o) o) (hx' : x.isRef = true) (hy' : y.isRef = true) (hy : ¬ x = y → Wp l R n0 K Q h k n pcT Ls st) (hn : x = y → Wp l R n0 K Q h k n pcN Ls st) : Wp l R n0 K Q h k n pc Ls (y :: x :: st) := by
  obtain ⟨p, e, s, m, args, below, meth, c⟩ := K
  obtain ⟨hx, hby, hZ, hown, hnm, hml, hret, hlk⟩ := ok
  obtain ⟨hd, rfl, ho, hp⟩ := hd
  intro T locs X hT hF
  by_cases q : x = y
  · obtain ⟨s₂, o, h1, h2⟩ := hn q T locs X hT hF
    exact ⟨s₂, o, Jvm.RoadKit.acmp X hx rfl hx' hy' rfl (hb hby hd) rfl (decide_eq_true q) ho (by simp [acV, hp]) h1, h2⟩
  · obtain ⟨s₂, o, h1, h2⟩ := hy q T locs X hT hF
    exact ⟨s₂, o, Jvm.RoadKit.acmp X hx rfl hx' hy' rfl (hb hby hd) rfl (decide_eq_false q) ho (by simp [acV, hp]) h1, h2⟩
theorem w_return (ok : Ok Z K code own nm maxL none) (hd : Fet code pc pc' .return_ 1) (hk : k ≤ R.cells) (hn : n ≤ R.slots) (hQ : Q none h) : Wp l R n0 K Q h k n pc Ls [] := by
  obtain ⟨p, e, s, m, args, below, meth, c⟩ := K
  obtain ⟨hx, hby, hZ, hown, hnm, hml, hret, hlk⟩ := ok
  obtain ⟨hd, -⟩ := hd
  intro T locs X hT hF
  obtain ⟨fs, hr, hrun, hended, hW, hsame⟩ := X.leave (v := none) (fun _ => rfl) hlk
  refine ⟨_, _, X.returnOut hx hret (hb hby hd) hr, hrun, hended, _, locs, rfl, ⟨?_, hF⟩, ⟨_, rfl⟩, hW, hsame.mono hk hn⟩
  show Q _ T.heap
  rw [hT]; exact hQ
theorem w_ireturnN {t : FieldType} (ok : Ok Z K code own nm maxL (some t)) {x : Int32} (ht : t = .boolean ∨ t = .byte ∨ t = .char ∨ t = .short) (hd : Fet code pc pc' .ireturn 1) (hk : k ≤ R.cells) (hn : n ≤ R.slots) (hQ : Q (some (.int (nar t x))) h) : Wp l R n0 K Q h k n pc Ls (.int x :: st) := by
  obtain ⟨p, e, s, m, args, below, meth, c⟩ := K
  obtain ⟨hx, hby, hZ, hown, hnm, hml, hret, hlk⟩ := ok
  obtain ⟨hd, -⟩ := hd
  intro T locs X hT hF
  obtain ⟨fs, hr, hrun, hended, hW, hsame⟩ := X.leave (v := some (.int (nar t x))) (fun q => by rw [hret] at q; cases q) hlk
  refine ⟨_, _, retN X hx hret ht (hb hby hd) hr, hrun, hended, _, locs, rfl, ⟨?_, hF⟩, ⟨_, rfl⟩, hW, hsame.mono hk hn⟩
  show Q _ T.heap
  rw [hT]; exact hQ
theorem w_ireturnI (ok : Ok Z K code own nm maxL (some .int)) {x : Int32} (hd : Fet code pc pc' .ireturn 1) (hk : k ≤ R.cells) (hn : n ≤ R.slots) (hQ : Q (some (.int x)) h) : Wp l R n0 K Q h k n pc Ls (.int x :: st) := by
  obtain ⟨p, e, s, m, args, below, meth, c⟩ := K
  obtain ⟨hx, hby, hZ, hown, hnm, hml, hret, hlk⟩ := ok
  obtain ⟨hd, -⟩ := hd
  intro T locs X hT hF
  obtain ⟨fs, hr, hrun, hended, hW, hsame⟩ := X.leave (v := some (.int x)) (fun q => by rw [hret] at q; cases q) hlk
  refine ⟨_, _, retOut X hx hret (by rfl) (Or.inl ⟨rfl, Or.inl rfl, _, rfl⟩) (hb hby hd) hr, hrun, hended, _, locs, rfl, ⟨?_, hF⟩, ⟨_, rfl⟩, hW, hsame.mono hk hn⟩
  show Q _ T.heap
  rw [hT]; exact hQ
theorem w_lreturn (ok : Ok Z K code own nm maxL (some .long)) {x : Int64} (hd : Fet code pc pc' .lreturn 1) (hk : k ≤ R.cells) (hn : n ≤ R.slots) (hQ : Q (some (.long x)) h) : Wp l R n0 K Q h k n pc Ls (.long x :: st) := by
  obtain ⟨p, e, s, m, args, below, meth, c⟩ := K
  obtain ⟨hx, hby, hZ, hown, hnm, hml, hret, hlk⟩ := ok
  obtain ⟨hd, -⟩ := hd
  intro T locs X hT hF
  obtain ⟨fs, hr, hrun, hended, hW, hsame⟩ := X.leave (v := some (.long x)) (fun q => by rw [hret] at q; cases q) hlk
  refine ⟨_, _, retOut X hx hret (by rfl) (Or.inr (Or.inl ⟨rfl, rfl, _, rfl⟩)) (hb hby hd) hr, hrun, hended, _, locs, rfl, ⟨?_, hF⟩, ⟨_, rfl⟩, hW, hsame.mono hk hn⟩
  show Q _ T.heap
  rw [hT]; exact hQ
theorem w_areturn {t : FieldType} (ok : Ok Z K code own nm maxL (some t)) {x : Value} (ht : t.isReference = true) (hv : x.isRef = true) (hnar : narrow t x = x) (hd : Fet code pc pc' .areturn 1) (hk : k ≤ R.cells) (hn : n ≤ R.slots) (hQ : Q (some x) h) : Wp l R n0 K Q h k n pc Ls (x :: st) := by
  obtain ⟨p, e, s, m, args, below, meth, c⟩ := K
  obtain ⟨hx, hby, hZ, hown, hnm, hml, hret, hlk⟩ := ok
  obtain ⟨hd, -⟩ := hd
  intro T locs X hT hF
  obtain ⟨fs, hr, hrun, hended, hW, hsame⟩ := X.leave (v := some x) (fun q => by rw [hret] at q; cases q) hlk
  refine ⟨_, _, retOut X hx hret hnar (Or.inr (Or.inr (Or.inr (Or.inr ⟨rfl, ht, hv⟩)))) (hb hby hd) hr, hrun, hended, _, locs, rfl, ⟨?_, hF⟩, ⟨_, rfl⟩, hW, hsame.mono hk hn⟩
  show Q _ T.heap
  rw [hT]; exact hQ
theorem w_getfield (ok : Ok Z K code own nm maxL ret) {R0 O f d host : String} {i : Nat} {a : Addr} {x : Value} (w : (Cond.fieldLink own i R0 f d).before a0 Z = true ∨ (Cond.fieldLinkNest own i R0 f d host).before a0 Z = true) (via : Via Z R0 O f d) (F : Fld Z h a O f d x) (hd : Fet code pc pc' (.getfield i) 3) (hr : Wp l R n0 K Q h k n pc' Ls (x :: st)) : Wp l R n0 K Q h k n pc Ls (.ref a :: st) := by
  obtain ⟨p, e, s, m, args, below, meth, c⟩ := K
  obtain ⟨hx, hby, hZ, hown, hnm, hml, hret, hlk⟩ := ok
  obtain ⟨hd, rfl⟩ := hd
  intro T locs X hT hF
  obtain ⟨T', X', e', stp⟩ := getF X hx hZ hown w via hT F (g := mkF m pc Ls (.ref a :: st)) rfl rfl (hb hby hd)
  obtain ⟨s₂, o, h1, h2⟩ := hr T' locs X' e' hF
  exact ⟨s₂, o, stp _ h1, h2⟩
theorem w_getstatic (ok : Ok Z K code own nm maxL ret) {R0 O f d : String} {i : Nat} {x : Value} (w : (Cond.fieldLink own i R0 f d).before a0 Z = true) (via : Via Z R0 O f d) (F : Sta Z h O f d x) (hd : Fet code pc pc' (.getstatic i) 3) (hr : Wp l R n0 K Q h k n pc' Ls (x :: st)) : Wp l R n0 K Q h k n pc Ls st := by
  obtain ⟨p, e, s, m, args, below, meth, c⟩ := K
  obtain ⟨hx, hby, hZ, hown, hnm, hml, hret, hlk⟩ := ok
  obtain ⟨hd, rfl⟩ := hd
  intro T locs X hT hF
  obtain ⟨T', X', e', stp⟩ := getS (host := "") X hx hZ hown w via hT F (g := mkF m pc Ls st) rfl (hb hby hd)
  obtain ⟨s₂, o, h1, h2⟩ := hr T' locs X' e' hF
  exact ⟨s₂, o, stp _ h1, h2⟩
theorem w_putfield (ok : Ok Z K code own nm maxL ret) {R0 O f d host C : String} {i kk : Nat} {ty : FieldType} {a : Addr} {x old : Value} (w : (Cond.fieldLink own i R0 f d).before a0 Z = true ∨ (Cond.fieldLinkNest own i R0 f d host).before a0 Z = true) (via : Via Z R0 O f d) (F : Fld Z h a O f d old) (E : Exa Z h a C)
    (L : (Cond.lays C O f d).before a0 Z = true ∨ ((Cond.laysFinal C O f d).before a0 Z = true ∧ own = O ∧ nm = "<init>")) (wi : (Cond.instantiable C kk).before a0 Z = true) (hty : parseFieldDescriptor d = some ty) (hna : narrow ty x = x) (hfi : fits ty x = true) (ha : n0 ≤ a) (hd : Fet code pc pc' (.putfield i) 3)
    (hr : ∀ h', Wr h h' a (Jvm.RoadKit.slotOf Z O f d) x → Wp l R n0 K Q h' k n pc' Ls st) : Wp l R n0 K Q h k n pc Ls (x :: .ref a :: st) := by
  obtain ⟨p, e, s, m, args, below, meth, c⟩ := K
  obtain ⟨hx, hby, hZ, hown, hnm, hml, hret, hlk⟩ := ok
  obtain ⟨hd, rfl⟩ := hd
  intro T locs X hT hF
  obtain ⟨T', h', X', e', W', stp⟩ := putF X hx hZ hown w via hT F E (L.imp id fun q => ⟨q.1, q.2.1, hnm.trans q.2.2⟩) wi hty hna hfi (g := mkF m pc Ls (x :: .ref a :: st)) rfl rfl (hb hby hd)
  obtain ⟨s₂, o, h1, h2⟩ := hr h' W' T' _ X' e' (Fr.snoc X' hF ha)
  exact ⟨s₂, o, stp _ h1, h2⟩
theorem w_putfieldN (ok : Ok Z K code own nm maxL ret) {R0 O f d C : String} {i kk : Nat} {ty : FieldType} {a : Addr} {x x' old : Value} (w : (Cond.fieldLink own i R0 f d).before a0 Z = true) (via : Via Z R0 O f d) (F : Fld Z h a O f d old) (E : Exa Z h a C)
    (L : (Cond.lays C O f d).before a0 Z = true ∨ ((Cond.laysFinal C O f d).before a0 Z = true ∧ own = O ∧ nm = "<init>")) (wi : (Cond.instantiable C kk).before a0 Z = true) (hty : parseFieldDescriptor d = some ty) (hna : narrow ty x = x') (hfi : fits ty x' = true) (ha : n0 ≤ a) (hd : Fet code pc pc' (.putfield i) 3)
    (hr : ∀ h', Wr h h' a (Jvm.RoadKit.slotOf Z O f d) x' → Wp l R n0 K Q h' k n pc' Ls st) : Wp l R n0 K Q h k n pc Ls (x :: .ref a :: st) := by
  obtain ⟨p, e, s, m, args, below, meth, c⟩ := K
  obtain ⟨hx, hby, hZ, hown, hnm, hml, hret, hlk⟩ := ok
  obtain ⟨hd, rfl⟩ := hd
  intro T locs X hT hF
  obtain ⟨T', h', X', e', W', stp⟩ := putFN X hx hZ hown w via hT F E (L.imp id fun q => ⟨q.1, q.2.1, hnm.trans q.2.2⟩) wi hty hna hfi (g := mkF m pc Ls (x :: .ref a :: st)) rfl rfl (hb hby hd)
  obtain ⟨s₂, o, h1, h2⟩ := hr h' W' T' _ X' e' (Fr.snoc X' hF ha)
  exact ⟨s₂, o, stp _ h1, h2⟩
theorem w_new (ok : Ok Z K code own nm maxL ret) {C : String} {i nn : Nat} (w : (Cond.classLink own i C).before a0 Z = true) (wi : (Cond.instantiable C nn).before a0 Z = true) (wz : (Cond.initialized C).before a0 Z = true) (hd : Fet code pc pc' (.new i) 3) (ek : k + 1 = k') (en : n + nn = n') (hc : k' ≤ R.cells) (hl : n' ≤ R.slots)
    (hr : ∀ h' b, b = h.size → Ext h h' → Exa Z h' b C → (∀ {O f d : String} {ty : FieldType}, Laid Z a0 C O f d → parseFieldDescriptor d = some ty → Fld Z h' b O f d (defaultValue ty)) → Wp l R n0 K Q h' k' n' pc' Ls (.ref b :: st)) : Wp l R n0 K Q h k n pc Ls st := by
  obtain ⟨p, e, s, m, args, below, meth, c⟩ := K
  obtain ⟨hx, hby, hZ, hown, hnm, hml, hret, hlk⟩ := ok
  obtain ⟨hd, rfl⟩ := hd
  intro T locs X hT hF
  subst ek en
  obtain ⟨T', h', X', e', E', A', D', -, stp⟩ := newO X hx hZ hown w wi wz hT (g := mkF m pc Ls st) rfl (hb hby hd) hc hl
  obtain ⟨s₂, o, h1, h2⟩ := hr h' _ rfl E' A' D' T' _ X' e' hF
  exact ⟨s₂, o, stp _ h1, h2⟩
theorem w_newarray (ok : Ok Z K code own nm maxL ret) {aty : ArrayType} {z : Int32} {cap : Nat} (w : (Cond.arrayClass (newarray.typeOf aty)).before a0 Z = true) (hd : Fet code pc pc' (.newarray aty) 2) (hz : ¬ z < 0) (hcap : z.toNatClampNeg ≤ cap) (hb8 : cap * 8 ≤ 536870912) (ek : k + 1 = k') (en : n + cap = n') (hc : k' ≤ R.cells) (hl : n' ≤ R.slots)
    (hr : ∀ h' b cA, b = h.size → Ext h h' → Arr Z h' b (newA cA (newarray.typeOf aty) z) (newarray.typeOf aty) → Wp l R n0 K Q h' k' n' pc' Ls (.ref b :: st)) : Wp l R n0 K Q h k n pc Ls (.int z :: st) := by
  obtain ⟨p, e, s, m, args, below, meth, c⟩ := K
  obtain ⟨hx, hby, hZ, hown, hnm, hml, hret, hlk⟩ := ok
  obtain ⟨hd, rfl⟩ := hd
  intro T locs X hT hF
  subst ek en
  obtain ⟨T', h', cA, X', e', E', A', stp⟩ := newP X hx hZ w hT (g := mkF m pc Ls (.int z :: st)) rfl (hb hby hd) rfl hz hcap hb8 hc hl
  obtain ⟨s₂, o, h1, h2⟩ := hr h' _ cA rfl E' A' T' _ X' e' hF
  exact ⟨s₂, o, stp _ h1, h2⟩
theorem w_initO (ok : Ok Z K code own nm maxL ret) {i : Nat} {a : Addr} (w1 : (Cond.methodLink own i Lib.objectInit).before a0 Z = true) (w2 : (Cond.instanceMethod Lib.objectInit).before a0 Z = true) (w3 : (Cond.code Lib.objectInit ⟨#[0xb1]⟩ 1 none).before a0 Z = true) (hd : Fet code pc pc' (.invokespecial i) 3)
    (hsz : Ls.size = maxL) (hf : 1 ≤ R.frames) (hl : (st.map fun v => v.category).sum + 12 ≤ R.locals) (hr : Wp l R n0 K Q h k n pc' Ls st) : Wp l R n0 K Q h k n pc Ls (.ref a :: st) := by
  obtain ⟨p, e, s, m, args, below, meth, c⟩ := K
  obtain ⟨hx, hby, hZ, hown, hnm, hml, hret, hlk⟩ := ok
  obtain ⟨hd, rfl⟩ := hd
  intro T locs X hT hF
  obtain ⟨T', X', e', stp⟩ := initO X hx hZ hown w1 w2 w3 hT (g := mkF m pc Ls (.ref a :: st)) rfl (hsz.trans hml.symm) rfl (hb hby hd) hf (W := (st.map fun v => v.category).sum) (by show 2 * 0 + _ ≤ _; omega) hl
  obtain ⟨s₂, o, h1, h2⟩ := hr T' locs X' e' hF
  exact ⟨s₂, o, stp _ h1, h2⟩
theorem w_iastore (ok : Ok Z K code own nm maxL ret) {a : Addr} {cl : Cell} {j : Int32} {x : Int32} (A : Arr Z h a cl .int) (hj : ¬ (j < 0 ∨ cl.slots.size ≤ j.toNatClampNeg)) (ha : n0 ≤ a) (hd : Fet code pc pc' .iastore 1)
    (hr : ∀ h', Wr h h' a j.toNatClampNeg (.int x) → Wp l R n0 K Q h' k n pc' Ls st) : Wp l R n0 K Q h k n pc Ls ((.int x) :: .int j :: .ref a :: st) := by
  obtain ⟨p, e, s, m, args, below, meth, c⟩ := K
  obtain ⟨hx, hby, hZ, hown, hnm, hml, hret, hlk⟩ := ok
  obtain ⟨hd, rfl⟩ := hd
  intro T locs X hT hF
  obtain ⟨T', h', X', e', W', stp⟩ := stI X hx hZ hT A hj (g := mkF m pc Ls ((.int x) :: .int j :: .ref a :: st)) rfl rfl (hb hby hd)
  obtain ⟨s₂, o, h1, h2⟩ := hr h' W' T' _ X' e' (Fr.snoc X' hF ha)
  exact ⟨s₂, o, stp _ h1, h2⟩
theorem w_lastore (ok : Ok Z K code own nm maxL ret) {a : Addr} {cl : Cell} {j : Int32} {x : Int64} (A : Arr Z h a cl .long) (hj : ¬ (j < 0 ∨ cl.slots.size ≤ j.toNatClampNeg)) (ha : n0 ≤ a) (hd : Fet code pc pc' .lastore 1)
    (hr : ∀ h', Wr h h' a j.toNatClampNeg (.long x) → Wp l R n0 K Q h' k n pc' Ls st) : Wp l R n0 K Q h k n pc Ls ((.long x) :: .int j :: .ref a :: st) := by
  obtain ⟨p, e, s, m, args, below, meth, c⟩ := K
  obtain ⟨hx, hby, hZ, hown, hnm, hml, hret, hlk⟩ := ok
  obtain ⟨hd, rfl⟩ := hd
  intro T locs X hT hF
  obtain ⟨T', h', X', e', W', stp⟩ := stJ X hx hZ hT A hj (g := mkF m pc Ls ((.long x) :: .int j :: .ref a :: st)) rfl rfl (hb hby hd)
  obtain ⟨s₂, o, h1, h2⟩ := hr h' W' T' _ X' e' (Fr.snoc X' hF ha)
  exact ⟨s₂, o, stp _ h1, h2⟩
theorem w_castore (ok : Ok Z K code own nm maxL ret) {a : Addr} {cl : Cell} {j : Int32} {x : Int32} (A : Arr Z h a cl .char) (hj : ¬ (j < 0 ∨ cl.slots.size ≤ j.toNatClampNeg)) (ha : n0 ≤ a) (hd : Fet code pc pc' .castore 1)
    (hr : ∀ h', Wr h h' a j.toNatClampNeg (.int (nar .char x)) → Wp l R n0 K Q h' k n pc' Ls st) : Wp l R n0 K Q h k n pc Ls ((.int x) :: .int j :: .ref a :: st) := by
  obtain ⟨p, e, s, m, args, below, meth, c⟩ := K
  obtain ⟨hx, hby, hZ, hown, hnm, hml, hret, hlk⟩ := ok
  obtain ⟨hd, rfl⟩ := hd
  intro T locs X hT hF
  obtain ⟨T', h', X', e', W', stp⟩ := stC X hx hZ hT A hj (g := mkF m pc Ls ((.int x) :: .int j :: .ref a :: st)) rfl rfl (hb hby hd)
  obtain ⟨s₂, o, h1, h2⟩ := hr h' W' T' _ X' e' (Fr.snoc X' hF ha)
  exact ⟨s₂, o, stp _ h1, h2⟩
theorem w_bastoreB (ok : Ok Z K code own nm maxL ret) {a : Addr} {cl : Cell} {j : Int32} {x : Int32} (A : Arr Z h a cl .byte) (hj : ¬ (j < 0 ∨ cl.slots.size ≤ j.toNatClampNeg)) (ha : n0 ≤ a) (hd : Fet code pc pc' .bastore 1)
    (hr : ∀ h', Wr h h' a j.toNatClampNeg (.int (nar .byte x)) → Wp l R n0 K Q h' k n pc' Ls st) : Wp l R n0 K Q h k n pc Ls ((.int x) :: .int j :: .ref a :: st) := by
  obtain ⟨p, e, s, m, args, below, meth, c⟩ := K
  obtain ⟨hx, hby, hZ, hown, hnm, hml, hret, hlk⟩ := ok
  obtain ⟨hd, rfl⟩ := hd
  intro T locs X hT hF
  obtain ⟨T', h', X', e', W', stp⟩ := stB X hx hZ hT A hj (g := mkF m pc Ls ((.int x) :: .int j :: .ref a :: st)) rfl rfl (hb hby hd)
  obtain ⟨s₂, o, h1, h2⟩ := hr h' W' T' _ X' e' (Fr.snoc X' hF ha)
  exact ⟨s₂, o, stp _ h1, h2⟩
theorem w_bastoreZ (ok : Ok Z K code own nm maxL ret) {a : Addr} {cl : Cell} {j : Int32} {x : Int32} (A : Arr Z h a cl .boolean) (hj : ¬ (j < 0 ∨ cl.slots.size ≤ j.toNatClampNeg)) (ha : n0 ≤ a) (hd : Fet code pc pc' .bastore 1)
    (hr : ∀ h', Wr h h' a j.toNatClampNeg (.int (nar .boolean x)) → Wp l R n0 K Q h' k n pc' Ls st) : Wp l R n0 K Q h k n pc Ls ((.int x) :: .int j :: .ref a :: st) := by
  obtain ⟨p, e, s, m, args, below, meth, c⟩ := K
  obtain ⟨hx, hby, hZ, hown, hnm, hml, hret, hlk⟩ := ok
  obtain ⟨hd, rfl⟩ := hd
  intro T locs X hT hF
  obtain ⟨T', h', X', e', W', stp⟩ := stZ X hx hZ hT A hj (g := mkF m pc Ls ((.int x) :: .int j :: .ref a :: st)) rfl rfl (hb hby hd)
  obtain ⟨s₂, o, h1, h2⟩ := hr h' W' T' _ X' e' (Fr.snoc X' hF ha)
  exact ⟨s₂, o, stp _ h1, h2⟩
theorem w_callSV (ok : Ok Z K code own nm maxL ret) {y : MethodName} {bytes : ByteArray} {mL i : Nat} {rt : Option FieldType} {rm : Room} {Qc : Value → Heap → Prop} {argsL : List Value}  (w1 : (Cond.methodLink own i y).before a0 Z = true) (w2 : (Cond.static y).before a0 Z = true) (wz : (Cond.initialized y.cls).before a0 Z = true) (wc : (Cond.code y bytes mL rt).before a0 Z = true) (hy : y.cls ≠ "java/lang/invoke/MethodHandle" ∧ y.cls ≠ "java/lang/invoke/VarHandle")
    (hM : ConV l Z n0 y bytes mL rt [] rm (argsL).toArray h Qc) (hd : Fet code pc pc' (.invokestatic i) 3) (hlen : ∀ sig, parseMethodDescriptor y.desc = some sig → argsL.length = sig.parameters.length) (hst : st = argsL.reverse ++ rest) (hsz : Ls.size = maxL) (hf : rm.frames + 1 ≤ R.frames) (hl : (rest.map fun v => v.category).sum + (mL + 11) + rm.locals ≤ R.locals)
    (ek : k + rm.cells = k') (en : n + rm.slots = n') (hc : k' ≤ R.cells) (hs : n' ≤ R.slots) (hr : ∀ w h', Qc w h' → Wp l R n0 K Q h' k' n' pc' Ls (w :: rest)) : Wp l R n0 K Q h k n pc Ls st := by
  obtain ⟨p, e, s, m, args, below, meth, c⟩ := K
  obtain ⟨hx, hby, hZ, hown, hnm, hml, hret, hlk⟩ := ok
  obtain ⟨hd, rfl⟩ := hd
  intro T locs X hT hF
  subst hst ek en
  obtain ⟨v, _, ⟨T', L', k1, n1⟩, -, X', ⟨Lc, hQ, l1, y1, z1⟩, stp⟩ := Jvm.LawKit.callS X hx (y := y) hown (mvT hZ w1) (mvT hZ w2) (mvT hZ wz) (mvT hZ wc) hy (backOf (W := (rest.map fun v => v.category).sum) (Q := fun v h' L => (∃ w, v = some w ∧ Qc w h') ∧ Fr n0 L) (as' := (argsL).toArray) (rm := rm) (bytes := bytes) (maxL := mL) (ret := rt) (h := h) (Z := Z) hM hZ wc wz hf hl) (g := mkF m pc Ls (argsL.reverse ++ rest)) rfl (hsz.trans hml.symm) (argsL := argsL) (rest := rest) hlen rfl (by show 2 * 0 + _ ≤ _; omega) (hb hby hd) (fun _ _ => ⟨rfl, hT, hc, hs⟩)
  dsimp only [Pt.U, Pt.locs, Pt.cells, Pt.slots] at X' l1 y1 z1 stp hQ
  subst l1 y1 z1

  obtain ⟨⟨w, rfl, hQ⟩, hFc⟩ := hQ
  obtain ⟨s₂, o, h1, h2⟩ := hr _ _ hQ T' _ X' rfl (Fr.app hF hFc)
  exact ⟨s₂, o, stp _ h1, h2⟩
theorem w_callSN (ok : Ok Z K code own nm maxL ret) {y : MethodName} {bytes : ByteArray} {mL i : Nat} {rt : Option FieldType} {rm : Room} {Qc : Heap → Prop} {argsL : List Value}  (w1 : (Cond.methodLink own i y).before a0 Z = true) (w2 : (Cond.static y).before a0 Z = true) (wz : (Cond.initialized y.cls).before a0 Z = true) (wc : (Cond.code y bytes mL rt).before a0 Z = true) (hy : y.cls ≠ "java/lang/invoke/MethodHandle" ∧ y.cls ≠ "java/lang/invoke/VarHandle")
    (hM : ConN l Z n0 y bytes mL rt [] rm (argsL).toArray h Qc) (hd : Fet code pc pc' (.invokestatic i) 3) (hlen : ∀ sig, parseMethodDescriptor y.desc = some sig → argsL.length = sig.parameters.length) (hst : st = argsL.reverse ++ rest) (hsz : Ls.size = maxL) (hf : rm.frames + 1 ≤ R.frames) (hl : (rest.map fun v => v.category).sum + (mL + 11) + rm.locals ≤ R.locals)
    (ek : k + rm.cells = k') (en : n + rm.slots = n') (hc : k' ≤ R.cells) (hs : n' ≤ R.slots) (hr : ∀ h', Qc h' → Wp l R n0 K Q h' k' n' pc' Ls rest) : Wp l R n0 K Q h k n pc Ls st := by
  obtain ⟨p, e, s, m, args, below, meth, c⟩ := K
  obtain ⟨hx, hby, hZ, hown, hnm, hml, hret, hlk⟩ := ok
  obtain ⟨hd, rfl⟩ := hd
  intro T locs X hT hF
  subst hst ek en
  obtain ⟨v, _, ⟨T', L', k1, n1⟩, -, X', ⟨Lc, hQ, l1, y1, z1⟩, stp⟩ := Jvm.LawKit.callS X hx (y := y) hown (mvT hZ w1) (mvT hZ w2) (mvT hZ wz) (mvT hZ wc) hy (backOf (W := (rest.map fun v => v.category).sum) (Q := fun v h' L => (v = none ∧ Qc h') ∧ Fr n0 L) (as' := (argsL).toArray) (rm := rm) (bytes := bytes) (maxL := mL) (ret := rt) (h := h) (Z := Z) hM hZ wc wz hf hl) (g := mkF m pc Ls (argsL.reverse ++ rest)) rfl (hsz.trans hml.symm) (argsL := argsL) (rest := rest) hlen rfl (by show 2 * 0 + _ ≤ _; omega) (hb hby hd) (fun _ _ => ⟨rfl, hT, hc, hs⟩)
  dsimp only [Pt.U, Pt.locs, Pt.cells, Pt.slots] at X' l1 y1 z1 stp hQ
  subst l1 y1 z1

  obtain ⟨⟨rfl, hQ⟩, hFc⟩ := hQ
  obtain ⟨s₂, o, h1, h2⟩ := hr _ hQ T' _ X' rfl (Fr.app hF hFc)
  exact ⟨s₂, o, stp _ h1, h2⟩
theorem w_init (ok : Ok Z K code own nm maxL ret) {y : MethodName} {bytes : ByteArray} {mL i : Nat} {rt : Option FieldType} {rm : Room} {Qc : Heap → Prop} {argsL : List Value} {a : Addr} (hy1 : y.name = "<init>") (hrt : rt = none) (w1 : (Cond.methodLink own i y).before a0 Z = true) (w2 : (Cond.instanceMethod y).before a0 Z = true) (wz : (Cond.initialized y.cls).before a0 Z = true) (wc : (Cond.code y bytes mL rt).before a0 Z = true) (hy : y.cls ≠ "java/lang/invoke/MethodHandle" ∧ y.cls ≠ "java/lang/invoke/VarHandle")
    (hM : ConN l Z n0 y bytes mL rt [] rm (.ref a :: argsL).toArray h Qc) (hd : Fet code pc pc' (.invokespecial i) 3) (hlen : ∀ sig, parseMethodDescriptor y.desc = some sig → argsL.length = sig.parameters.length) (hst : st = argsL.reverse ++ .ref a :: rest) (hsz : Ls.size = maxL) (hf : rm.frames + 1 ≤ R.frames) (hl : (rest.map fun v => v.category).sum + (mL + 11) + rm.locals ≤ R.locals)
    (ek : k + rm.cells = k') (en : n + rm.slots = n') (hc : k' ≤ R.cells) (hs : n' ≤ R.slots) (hr : ∀ h', Qc h' → Wp l R n0 K Q h' k' n' pc' Ls rest) : Wp l R n0 K Q h k n pc Ls st := by
  obtain ⟨p, e, s, m, args, below, meth, c⟩ := K
  obtain ⟨hx, hby, hZ, hown, hnm, hml, hret, hlk⟩ := ok
  obtain ⟨hd, rfl⟩ := hd
  intro T locs X hT hF
  subst hst ek en
  subst hrt
  obtain ⟨v, _, ⟨T', L', k1, n1⟩, -, X', ⟨Lc, hQ, l1, y1, z1⟩, stp⟩ := X.specialBack hx (y := y) hy1 hown (mvT hZ w1) (mvT hZ w2) (mvT hZ wc) hy (backOf (W := (rest.map fun v => v.category).sum) (Q := fun v h' L => (v = none ∧ Qc h') ∧ Fr n0 L) (as' := (Value.ref a :: argsL).toArray) (rm := rm) (bytes := bytes) (maxL := mL) (ret := none) (h := h) (Z := Z) hM hZ wc wz hf hl) (g := mkF m pc Ls (argsL.reverse ++ .ref a :: rest)) rfl (hsz.trans hml.symm) (Steps.refl _) (a := a) (argsL := argsL) (rest := rest) hlen rfl (by show 2 * 0 + _ ≤ _; omega) (hb hby hd) (fun _ _ => ⟨rfl, hT, hc, hs⟩)
  dsimp only [Pt.U, Pt.locs, Pt.cells, Pt.slots] at X' l1 y1 z1 stp hQ
  subst l1 y1 z1

  obtain ⟨⟨rfl, hQ⟩, hFc⟩ := hQ
  obtain ⟨s₂, o, h1, h2⟩ := hr _ hQ T' _ X' rfl (Fr.app hF hFc)
  exact ⟨s₂, o, stp.trans h1, h2⟩
theorem w_virtV (ok : Ok Z K code own nm maxL ret) {y : MethodName} {bytes : ByteArray} {mL i : Nat} {rt : Option FieldType} {rm : Room} {Qc : Value → Heap → Prop} {argsL : List Value} {a : Addr} {C : String} (w1 : (Cond.methodLink own i y).before a0 Z = true) (w2 : (Cond.declares y).before a0 Z = true) (w3 : (Cond.selects C y y).before a0 Z = true) (w4 : (Cond.instanceMethod y).before a0 Z = true) (wz : (Cond.initialized y.cls).before a0 Z = true) (wc : (Cond.code y bytes mL rt).before a0 Z = true) (E : Exa Z h a C) (hy : y.cls ≠ "java/lang/invoke/MethodHandle" ∧ y.cls ≠ "java/lang/invoke/VarHandle")
    (hM : ConV l Z n0 y bytes mL rt [] rm (.ref a :: argsL).toArray h Qc) (hd : Fet code pc pc' (.invokevirtual i) 3) (hlen : ∀ sig, parseMethodDescriptor y.desc = some sig → argsL.length = sig.parameters.length) (hst : st = argsL.reverse ++ .ref a :: rest) (hsz : Ls.size = maxL) (hf : rm.frames + 1 ≤ R.frames) (hl : (rest.map fun v => v.category).sum + (mL + 11) + rm.locals ≤ R.locals)
    (ek : k + rm.cells = k') (en : n + rm.slots = n') (hc : k' ≤ R.cells) (hs : n' ≤ R.slots) (hr : ∀ w h', Qc w h' → Wp l R n0 K Q h' k' n' pc' Ls (w :: rest)) : Wp l R n0 K Q h k n pc Ls st := by
  obtain ⟨p, e, s, m, args, below, meth, c⟩ := K
  obtain ⟨hx, hby, hZ, hown, hnm, hml, hret, hlk⟩ := ok
  obtain ⟨hd, rfl⟩ := hd
  intro T locs X hT hF
  subst hst ek en
  obtain ⟨cB, kB, qa, qb, qc⟩ := isOf hZ hT E
  obtain ⟨v, _, ⟨T', L', k1, n1⟩, -, X', ⟨Lc, hQ, l1, y1, z1⟩, stp⟩ := X.virtualBack hx (y := y) (z := y) hown (mvT hZ w1) (mvT hZ w2) (notFace_of_selects (args := #[]) (mvT hZ w3)) (mvT hZ w3) (mvT hZ w4) hy (backOf (W := (rest.map fun v => v.category).sum) (Q := fun v h' L => (∃ w, v = some w ∧ Qc w h') ∧ Fr n0 L) (as' := (Value.ref a :: argsL).toArray) (rm := rm) (bytes := bytes) (maxL := mL) (ret := rt) (h := h) (Z := Z) hM hZ wc wz hf hl) qa qc (g := mkF m pc Ls (argsL.reverse ++ .ref a :: rest)) rfl (hsz.trans hml.symm) (Steps.refl _) (argsL := argsL) (rest := rest) hlen rfl (by show 2 * 0 + _ ≤ _; omega) (hb hby hd) (fun _ _ => ⟨rfl, hT, hc, hs⟩)
  dsimp only [Pt.U, Pt.locs, Pt.cells, Pt.slots] at X' l1 y1 z1 stp hQ
  subst l1 y1 z1

  obtain ⟨⟨w, rfl, hQ⟩, hFc⟩ := hQ
  obtain ⟨s₂, o, h1, h2⟩ := hr _ _ hQ T' _ X' rfl (Fr.app hF hFc)
  exact ⟨s₂, o, stp.trans h1, h2⟩
theorem w_virtN (ok : Ok Z K code own nm maxL ret) {y : MethodName} {bytes : ByteArray} {mL i : Nat} {rt : Option FieldType} {rm : Room} {Qc : Heap → Prop} {argsL : List Value} {a : Addr} {C : String} (w1 : (Cond.methodLink own i y).before a0 Z = true) (w2 : (Cond.declares y).before a0 Z = true) (w3 : (Cond.selects C y y).before a0 Z = true) (w4 : (Cond.instanceMethod y).before a0 Z = true) (wz : (Cond.initialized y.cls).before a0 Z = true) (wc : (Cond.code y bytes mL rt).before a0 Z = true) (E : Exa Z h a C) (hy : y.cls ≠ "java/lang/invoke/MethodHandle" ∧ y.cls ≠ "java/lang/invoke/VarHandle")
    (hM : ConN l Z n0 y bytes mL rt [] rm (.ref a :: argsL).toArray h Qc) (hd : Fet code pc pc' (.invokevirtual i) 3) (hlen : ∀ sig, parseMethodDescriptor y.desc = some sig → argsL.length = sig.parameters.length) (hst : st = argsL.reverse ++ .ref a :: rest) (hsz : Ls.size = maxL) (hf : rm.frames + 1 ≤ R.frames) (hl : (rest.map fun v => v.category).sum + (mL + 11) + rm.locals ≤ R.locals)
    (ek : k + rm.cells = k') (en : n + rm.slots = n') (hc : k' ≤ R.cells) (hs : n' ≤ R.slots) (hr : ∀ h', Qc h' → Wp l R n0 K Q h' k' n' pc' Ls rest) : Wp l R n0 K Q h k n pc Ls st := by
  obtain ⟨p, e, s, m, args, below, meth, c⟩ := K
  obtain ⟨hx, hby, hZ, hown, hnm, hml, hret, hlk⟩ := ok
  obtain ⟨hd, rfl⟩ := hd
  intro T locs X hT hF
  subst hst ek en
  obtain ⟨cB, kB, qa, qb, qc⟩ := isOf hZ hT E
  obtain ⟨v, _, ⟨T', L', k1, n1⟩, -, X', ⟨Lc, hQ, l1, y1, z1⟩, stp⟩ := X.virtualBack hx (y := y) (z := y) hown (mvT hZ w1) (mvT hZ w2) (notFace_of_selects (args := #[]) (mvT hZ w3)) (mvT hZ w3) (mvT hZ w4) hy (backOf (W := (rest.map fun v => v.category).sum) (Q := fun v h' L => (v = none ∧ Qc h') ∧ Fr n0 L) (as' := (Value.ref a :: argsL).toArray) (rm := rm) (bytes := bytes) (maxL := mL) (ret := rt) (h := h) (Z := Z) hM hZ wc wz hf hl) qa qc (g := mkF m pc Ls (argsL.reverse ++ .ref a :: rest)) rfl (hsz.trans hml.symm) (Steps.refl _) (argsL := argsL) (rest := rest) hlen rfl (by show 2 * 0 + _ ≤ _; omega) (hb hby hd) (fun _ _ => ⟨rfl, hT, hc, hs⟩)
  dsimp only [Pt.U, Pt.locs, Pt.cells, Pt.slots] at X' l1 y1 z1 stp hQ
  subst l1 y1 z1

  obtain ⟨⟨rfl, hQ⟩, hFc⟩ := hQ
  obtain ⟨s₂, o, h1, h2⟩ := hr _ hQ T' _ X' rfl (Fr.app hF hFc)
  exact ⟨s₂, o, stp.trans h1, h2⟩
end Rules
/-- an array of this kind with these values -/
def Ary (Z : State) (h : Heap) (a : Addr) (ty : FieldType) (vs : List Value) : Prop := ∃ c : Cell, Arr Z h a c ty ∧ c.slots.toList = vs
section AryFacts
variable {Z : State} {h h' : Heap} {a b : Addr} {ty : FieldType} {vs : List Value} {v : Value} {sl i : Nat} {ws : List Addr}
theorem Ary.lt (A : Ary Z h a ty vs) : a < h.size := by obtain ⟨c, A, -⟩ := A; exact A.lt
theorem Ary.ext (A : Ary Z h a ty vs) (E : Ext h h') : Ary Z h' a ty vs := by obtain ⟨c, A, r⟩ := A; exact ⟨c, A.ext E, r⟩
theorem Ary.other (A : Ary Z h b ty vs) (W : Wr h h' a sl v) (q : b ≠ a) : Ary Z h' b ty vs := by obtain ⟨c, A, r⟩ := A; exact ⟨c, A.other W q, r⟩
theorem Ary.keep (A : Ary Z h a ty vs) (K : Keep h h' ws) (q : a ∉ ws) : Ary Z h' a ty vs := by obtain ⟨c, A, r⟩ := A; exact ⟨c, ⟨K.2.1 a c A.1 q, A.2⟩, r⟩
theorem Ary.same (A : Ary Z h a ty vs) (W : Wr h h' a i v) : Ary Z h' a ty (vs.set i v) := by
  obtain ⟨c, A, r⟩ := A
  refine ⟨_, A.same W, ?_⟩
  rw [← r]
  simp [Cell.setSlot, Array.toList_setIfInBounds]
theorem Ary.cast {vs' : List Value} (A : Ary Z h a ty vs) (e : vs = vs') : Ary Z h a ty vs' := e ▸ A
theorem ary_new {cA : ClassId} {z : Int32} (A : Arr Z h a (newA cA ty z) ty) : Ary Z h a ty (List.replicate z.toNatClampNeg (defaultValue ty)) := ⟨_, A, by simp [newA]⟩
theorem idx_ok {i n : Nat} (hi : i < n) (hn : n < 2 ^ 31) : ¬ (Int32.ofNat i < 0 ∨ n ≤ (Int32.ofNat i).toNatClampNeg) := idx_in hi hn
theorem idx_nat {i : Nat} (hi : i < 2 ^ 31) : (Int32.ofNat i).toNatClampNeg = i := by
  have q : (Int32.ofNat i).toInt = i := Int32.toInt_ofNat_of_lt (by omega)
  simp only [Int32.toNatClampNeg, q]; omega
end AryFacts
section AryRules
variable {l : Launch} {R : Room} {n0 : Nat} {K : Cx} {Q : Option Value → Heap → Prop} {h : Heap} {k n k' n' : Nat} {pc pc' : Nat} {Ls Ls' : Array Slot} {st rest : List Value} {Z : State} {code : ByteArray} {own nm : String} {maxL : Nat} {ret : Option FieldType} {a0 : Array Value}
theorem w_arraylength (ok : Ok Z K code own nm maxL ret) {a : Addr} {ty : FieldType} {vs : List Value} (A : Ary Z h a ty vs) (hd : Fet code pc pc' .arraylength 1) (hr : Wp l R n0 K Q h k n pc' Ls (.int (Int32.ofNat vs.length) :: st)) : Wp l R n0 K Q h k n pc Ls (.ref a :: st) := by
  obtain ⟨p, e, s, m, args, below, meth, c⟩ := K
  obtain ⟨hx, hby, hZ, hown, hnm, hml, hret, hlk⟩ := ok
  obtain ⟨hd, rfl⟩ := hd
  intro T locs X hT hF
  obtain ⟨c, A, rfl⟩ := A
  obtain ⟨s₂, o, h1, h2⟩ := hr T locs X hT hF
  exact ⟨s₂, o, X.arraylength hx (by rw [hT]; exact A.1) (State.isArrayOf_alike hZ.alike A.2.1) (g := mkF m pc Ls (.ref a :: st)) rfl rfl (hb hby hd) _ (by rw [Array.length_toList] at h1; exact h1), h2⟩
theorem w_iaload (ok : Ok Z K code own nm maxL ret) {a : Addr} {i : Nat} {v : Value} {vs : List Value} (A : Ary Z h a .int vs) (hl : vs.length < 2 ^ 31) (hv : vs[i]? = some v) (hd : Fet code pc pc' .iaload 1) (hr : Wp l R n0 K Q h k n pc' Ls (v :: st)) : Wp l R n0 K Q h k n pc Ls (.int (Int32.ofNat i) :: .ref a :: st) := by
  obtain ⟨p, e, s, m, args, below, meth, c⟩ := K
  obtain ⟨hx, hby, hZ, hown, hnm, hml, hret, hlk⟩ := ok
  obtain ⟨hd, rfl⟩ := hd
  intro T locs X hT hF
  obtain ⟨c, A, rfl⟩ := A
  obtain ⟨s₂, o, h1, h2⟩ := hr T locs X hT hF
  have hi : i < c.slots.toList.length := (List.getElem?_eq_some_iff.mp hv).1
  rw [Array.length_toList] at hi hl
  exact ⟨s₂, o, X.iaload hx (j := Int32.ofNat i) (v := v) (by rw [hT]; exact A.1) (State.isArrayOf_alike hZ.alike A.2.1) A.2.2 (idx_ok hi hl) (by rw [idx_nat (Nat.lt_trans hi hl), ← hv, Array.getElem?_toList]) (g := mkF m pc Ls (.int (Int32.ofNat i) :: .ref a :: st)) rfl rfl (hb hby hd) _ h1, h2⟩
theorem w_laload (ok : Ok Z K code own nm maxL ret) {a : Addr} {i : Nat} {v : Value} {vs : List Value} (A : Ary Z h a .long vs) (hl : vs.length < 2 ^ 31) (hv : vs[i]? = some v) (hd : Fet code pc pc' .laload 1) (hr : Wp l R n0 K Q h k n pc' Ls (v :: st)) : Wp l R n0 K Q h k n pc Ls (.int (Int32.ofNat i) :: .ref a :: st) := by
  obtain ⟨p, e, s, m, args, below, meth, c⟩ := K
  obtain ⟨hx, hby, hZ, hown, hnm, hml, hret, hlk⟩ := ok
  obtain ⟨hd, rfl⟩ := hd
  intro T locs X hT hF
  obtain ⟨c, A, rfl⟩ := A
  obtain ⟨s₂, o, h1, h2⟩ := hr T locs X hT hF
  have hi : i < c.slots.toList.length := (List.getElem?_eq_some_iff.mp hv).1
  rw [Array.length_toList] at hi hl
  exact ⟨s₂, o, X.laload hx (j := Int32.ofNat i) (v := v) (by rw [hT]; exact A.1) (State.isArrayOf_alike hZ.alike A.2.1) A.2.2 (idx_ok hi hl) (by rw [idx_nat (Nat.lt_trans hi hl), ← hv, Array.getElem?_toList]) (g := mkF m pc Ls (.int (Int32.ofNat i) :: .ref a :: st)) rfl rfl (hb hby hd) _ h1, h2⟩
theorem w_baloadB (ok : Ok Z K code own nm maxL ret) {a : Addr} {i : Nat} {v : Value} {vs : List Value} (A : Ary Z h a .byte vs) (hl : vs.length < 2 ^ 31) (hv : vs[i]? = some v) (hd : Fet code pc pc' .baload 1) (hr : Wp l R n0 K Q h k n pc' Ls (v :: st)) : Wp l R n0 K Q h k n pc Ls (.int (Int32.ofNat i) :: .ref a :: st) := by
  obtain ⟨p, e, s, m, args, below, meth, c⟩ := K
  obtain ⟨hx, hby, hZ, hown, hnm, hml, hret, hlk⟩ := ok
  obtain ⟨hd, rfl⟩ := hd
  intro T locs X hT hF
  obtain ⟨c, A, rfl⟩ := A
  obtain ⟨s₂, o, h1, h2⟩ := hr T locs X hT hF
  have hi : i < c.slots.toList.length := (List.getElem?_eq_some_iff.mp hv).1
  rw [Array.length_toList] at hi hl
  exact ⟨s₂, o, X.baloadBytes hx (j := Int32.ofNat i) (v := v) (by rw [hT]; exact A.1) (State.isArrayOf_alike hZ.alike A.2.1) A.2.2 (idx_ok hi hl) (by rw [idx_nat (Nat.lt_trans hi hl), ← hv, Array.getElem?_toList]) (g := mkF m pc Ls (.int (Int32.ofNat i) :: .ref a :: st)) rfl rfl (hb hby hd) _ h1, h2⟩
theorem w_baloadZ (ok : Ok Z K code own nm maxL ret) {a : Addr} {i : Nat} {v : Value} {vs : List Value} (A : Ary Z h a .boolean vs) (hl : vs.length < 2 ^ 31) (hv : vs[i]? = some v) (hd : Fet code pc pc' .baload 1) (hr : Wp l R n0 K Q h k n pc' Ls (v :: st)) : Wp l R n0 K Q h k n pc Ls (.int (Int32.ofNat i) :: .ref a :: st) := by
  obtain ⟨p, e, s, m, args, below, meth, c⟩ := K
  obtain ⟨hx, hby, hZ, hown, hnm, hml, hret, hlk⟩ := ok
  obtain ⟨hd, rfl⟩ := hd
  intro T locs X hT hF
  obtain ⟨c, A, rfl⟩ := A
  obtain ⟨s₂, o, h1, h2⟩ := hr T locs X hT hF
  have hi : i < c.slots.toList.length := (List.getElem?_eq_some_iff.mp hv).1
  rw [Array.length_toList] at hi hl
  exact ⟨s₂, o, X.baloadBooleans hx (j := Int32.ofNat i) (v := v) (by rw [hT]; exact A.1) (State.isArrayOf_alike hZ.alike A.2.1) A.2.2 (idx_ok hi hl) (by rw [idx_nat (Nat.lt_trans hi hl), ← hv, Array.getElem?_toList]) (g := mkF m pc Ls (.int (Int32.ofNat i) :: .ref a :: st)) rfl rfl (hb hby hd) _ h1, h2⟩
theorem w_iastore' (ok : Ok Z K code own nm maxL ret) {a : Addr} {i : Nat} {x : Int32} {vs : List Value} (A : Ary Z h a .int vs) (hl : vs.length < 2 ^ 31) (hi : i < vs.length) (ha : n0 ≤ a) (hd : Fet code pc pc' .iastore 1)
    (hr : ∀ h', Wr h h' a i (.int x) → Ary Z h' a .int (vs.set i (.int x)) → Wp l R n0 K Q h' k n pc' Ls st) : Wp l R n0 K Q h k n pc Ls ((.int x) :: .int (Int32.ofNat i) :: .ref a :: st) := by
  have A0 := A
  obtain ⟨c, A, rfl⟩ := A
  rw [Array.length_toList] at hi hl
  refine w_iastore ok A (idx_ok hi hl) ha hd (fun h' W => ?_)
  rw [idx_nat (Nat.lt_trans hi hl)] at W
  exact hr h' W (A0.same W)
theorem w_lastore' (ok : Ok Z K code own nm maxL ret) {a : Addr} {i : Nat} {x : Int64} {vs : List Value} (A : Ary Z h a .long vs) (hl : vs.length < 2 ^ 31) (hi : i < vs.length) (ha : n0 ≤ a) (hd : Fet code pc pc' .lastore 1)
    (hr : ∀ h', Wr h h' a i (.long x) → Ary Z h' a .long (vs.set i (.long x)) → Wp l R n0 K Q h' k n pc' Ls st) : Wp l R n0 K Q h k n pc Ls ((.long x) :: .int (Int32.ofNat i) :: .ref a :: st) := by
  have A0 := A
  obtain ⟨c, A, rfl⟩ := A
  rw [Array.length_toList] at hi hl
  refine w_lastore ok A (idx_ok hi hl) ha hd (fun h' W => ?_)
  rw [idx_nat (Nat.lt_trans hi hl)] at W
  exact hr h' W (A0.same W)
theorem w_bastoreB' (ok : Ok Z K code own nm maxL ret) {a : Addr} {i : Nat} {x : Int32} {vs : List Value} (A : Ary Z h a .byte vs) (hl : vs.length < 2 ^ 31) (hi : i < vs.length) (ha : n0 ≤ a) (hd : Fet code pc pc' .bastore 1)
    (hr : ∀ h', Wr h h' a i (.int (nar .byte x)) → Ary Z h' a .byte (vs.set i (.int (nar .byte x))) → Wp l R n0 K Q h' k n pc' Ls st) : Wp l R n0 K Q h k n pc Ls ((.int x) :: .int (Int32.ofNat i) :: .ref a :: st) := by
  have A0 := A
  obtain ⟨c, A, rfl⟩ := A
  rw [Array.length_toList] at hi hl
  refine w_bastoreB ok A (idx_ok hi hl) ha hd (fun h' W => ?_)
  rw [idx_nat (Nat.lt_trans hi hl)] at W
  exact hr h' W (A0.same W)
theorem w_bastoreZ' (ok : Ok Z K code own nm maxL ret) {a : Addr} {i : Nat} {x : Int32} {vs : List Value} (A : Ary Z h a .boolean vs) (hl : vs.length < 2 ^ 31) (hi : i < vs.length) (ha : n0 ≤ a) (hd : Fet code pc pc' .bastore 1)
    (hr : ∀ h', Wr h h' a i (.int (nar .boolean x)) → Ary Z h' a .boolean (vs.set i (.int (nar .boolean x))) → Wp l R n0 K Q h' k n pc' Ls st) : Wp l R n0 K Q h k n pc Ls ((.int x) :: .int (Int32.ofNat i) :: .ref a :: st) := by
  have A0 := A
  obtain ⟨c, A, rfl⟩ := A
  rw [Array.length_toList] at hi hl
  refine w_bastoreZ ok A (idx_ok hi hl) ha hd (fun h' W => ?_)
  rw [idx_nat (Nat.lt_trans hi hl)] at W
  exact hr h' W (A0.same W)
end AryRules
end Jvm.WpK
namespace Jvm.Pilot.@@N@@
open Jvm Jvm.ClassFile Sem Op Lib Jvm.Free Jvm.Stand Jvm.LawKit Jvm.RoadKit Jvm.WpK Bundle Jvm.Pilot.@@N@@.Jvm.D
/-- x >>> k of a long, as the step leaves it -/
abbrev own_sr (x : Int64) (k : Int32) : Int64 := (x.toUInt64 >>> (k &&& 0x3f).toInt64.toUInt64).toInt64
def own_mix (x : Int64) : Int64 :=
  let z1 := (x ^^^ own_sr x 30) * (-4658895280553007687)
  let z2 := (z1 ^^^ own_sr z1 27) * (-7723592293110705685)
  z2 ^^^ own_sr z2 31
def own_k1 : Int64 := -7575587736534282103
def own_k2 : Int64 := 3573116690164977347
def own_un (r : Int64) : Int64 :=
  let y1 := (r ^^^ own_sr r 31) ^^^ own_sr r 62
  let y2 := y1 * own_k2
  let y3 := (y2 ^^^ own_sr y2 27) ^^^ own_sr y2 54
  let y4 := y3 * own_k1
  (y4 ^^^ own_sr y4 30) ^^^ own_sr y4 60
theorem own_bits (x : BitVec 64) (k : Nat) (hk : 64 ≤ 3 * k) : ((x ^^^ x >>> k) ^^^ (x ^^^ x >>> k) >>> k) ^^^ (x ^^^ x >>> k) >>> (2 * k) = x := by
  ext i hi
  simp only [BitVec.getElem_xor, BitVec.getElem_ushiftRight, BitVec.getLsbD_xor, BitVec.getLsbD_ushiftRight]
  have e1 : k + (k + i) = 2 * k + i := by omega
  have e2 : x.getLsbD (k + (2 * k + i)) = false := BitVec.getLsbD_of_ge _ _ (by omega)
  rw [e1, e2]
  cases x[i] <;> cases x.getLsbD (k + i) <;> cases x.getLsbD (2 * k + i) <;> rfl
theorem own_uns31 (x : Int64) : ((x ^^^ own_sr x 31) ^^^ own_sr (x ^^^ own_sr x 31) 31) ^^^ own_sr (x ^^^ own_sr x 31) 62 = x := by
  apply Int64.toBitVec_inj.mp
  exact own_bits x.toBitVec 31 (by decide)
theorem own_uns27 (x : Int64) : ((x ^^^ own_sr x 27) ^^^ own_sr (x ^^^ own_sr x 27) 27) ^^^ own_sr (x ^^^ own_sr x 27) 54 = x := by
  apply Int64.toBitVec_inj.mp
  exact own_bits x.toBitVec 27 (by decide)
theorem own_uns30 (x : Int64) : ((x ^^^ own_sr x 30) ^^^ own_sr (x ^^^ own_sr x 30) 30) ^^^ own_sr (x ^^^ own_sr x 30) 60 = x := by
  apply Int64.toBitVec_inj.mp
  exact own_bits x.toBitVec 30 (by decide)
theorem own_k1_inv (x : Int64) : x * (-4658895280553007687) * own_k1 = x := by
  rw [Int64.mul_assoc, show (-4658895280553007687 : Int64) * own_k1 = 1 by decide, Int64.mul_one]
theorem own_k2_inv (x : Int64) : x * (-7723592293110705685) * own_k2 = x := by
  rw [Int64.mul_assoc, show (-7723592293110705685 : Int64) * own_k2 = 1 by decide, Int64.mul_one]
theorem own_un_mix (x : Int64) : own_un (own_mix x) = x := by
  unfold own_un own_mix
  simp only []
  rw [own_uns31, own_k2_inv, own_uns27, own_k1_inv, own_uns30]
abbrev own_g : Int64 := -7046029254386353131
theorem own_next {m : Nat} {s t : Int64} (hn : s + Int64.ofNat (m + 1 + 1) * own_g = t) : s + own_g + Int64.ofNat (m + 1) * own_g = t := by
  rw [← hn, Int64.ofNat_add (m + 1) 1, Int64.add_mul, Int64.add_assoc, Int64.add_comm own_g]
  congr 2
theorem own_reach (s t : Int64) : ∃ n : Nat, s + Int64.ofNat (n + 1) * own_g = t := by
  refine ⟨((t - s) * (-1018231460777725123)).toBitVec.toNat + (2 ^ 64 - 1), ?_⟩
  have e : ∀ y : Int64, Int64.ofNat (y.toBitVec.toNat + (2 ^ 64 - 1) + 1) = y := fun y => by
    apply Int64.toBitVec_inj.mp
    apply BitVec.eq_of_toNat_eq
    have hy := y.toBitVec.isLt
    show (BitVec.ofNat 64 (y.toBitVec.toNat + (2 ^ 64 - 1) + 1)).toNat = _
    rw [BitVec.toNat_ofNat]
    omega
  rw [e, Int64.mul_assoc, show (-1018231460777725123 : Int64) * own_g = 1 by decide, Int64.mul_one, Int64.add_comm]
  apply Int64.toBitVec_inj.mp
  simp only [Int64.toBitVec_add, Int64.toBitVec_sub]
  bv_omega
/-- how many of the 2^63 draws are refused -/
def own_rej (b : Int64) : Int64 := ((9223372036854775807 : Int64) % b + 1) % b
def own_hd (s : Int64) : Int64 := own_sr (own_mix s) 1
def own_acc (b x : Int64) : Prop := ¬ ((9223372036854775807 : Int64) - own_rej b < x)
def own_fits (x b : Int64) : Int32 := if (9223372036854775807 : Int64) - b + 1 < x - x % b then 0 else 1
def own_hist (b q s : Int64) : Prop := s = q ∨ (s = q + own_g ∧ ¬ own_acc b (own_hd (q + own_g))) ∨ (¬ own_acc b (own_hd (q + own_g)) ∧ ¬ own_acc b (own_hd (q + own_g + own_g)))
def own_post (b q r s : Int64) : Prop := (0 ≤ r ∧ r < b) ∧ (own_acc b (own_hd (q + own_g)) → r = own_hd (q + own_g) % b ∧ s = q + own_g) ∧ (¬ own_acc b (own_hd (q + own_g)) → own_acc b (own_hd (q + own_g + own_g)) → r = own_hd (q + own_g + own_g) % b ∧ s = q + own_g + own_g)
theorem own_max : (9223372036854775807 : Int64).toInt = 9223372036854775807 := by decide
theorem own_pos {b : Int64} (hb : 0 < b) : 0 < b.toInt := by
  have h := Int64.lt_iff_toInt_lt.mp hb
  simpa using h
theorem own_hd_nonneg (s : Int64) : 0 ≤ own_hd s := by
  have e : (own_hd s).toInt = (((own_mix s).toBitVec >>> 1).toNat : Int) := by
    have e1 : (own_hd s).toBitVec = (own_mix s).toBitVec >>> 1 := rfl
    rw [Int64.toInt, e1]
    apply BitVec.toInt_eq_toNat_of_lt
    rw [BitVec.toNat_ushiftRight]
    have := (own_mix s).toBitVec.isLt
    omega
  rw [Int64.le_iff_toInt_le, e]
  exact Int.natCast_nonneg _
theorem own_not_neg {r : Int64} (h : 0 ≤ r) : ¬ r < 0 := by
  rw [Int64.le_iff_toInt_le] at h
  rw [Int64.lt_iff_toInt_lt]; omega
theorem own_mod_toInt {x b : Int64} (hx : 0 ≤ x.toInt) : (x % b).toInt = x.toInt % b.toInt := by
  rw [Int64.toInt_mod, Int.tmod_eq_emod_of_nonneg hx]
theorem own_rej_toInt {b : Int64} (hb : 0 < b) : (own_rej b).toInt = 9223372036854775808 % b.toInt := by
  have B0 := own_pos hb
  have B1 := Int64.toInt_lt b
  have e1 : ((9223372036854775807 : Int64) % b).toInt = 9223372036854775807 % b.toInt := by rw [own_mod_toInt (by decide), own_max]
  have l1 := Int.emod_nonneg 9223372036854775807 (show b.toInt ≠ 0 by omega)
  have l2 := Int.emod_lt_of_pos 9223372036854775807 B0
  have e2 : ((9223372036854775807 : Int64) % b + 1).toInt = 9223372036854775807 % b.toInt + 1 := by
    rw [Int64.toInt_add, e1, show (1 : Int64).toInt = 1 by decide]
    exact Int.bmod_eq_of_le (by omega) (by omega)
  rw [own_rej, own_mod_toInt (by omega), e2, Int.emod_add_emod]
  rfl
theorem own_arith {B X N : Int} (hB : 0 < B) : (N - 1 - N % B < X) ↔ (N - B < X - X % B) := by
  have e1 := Int.mul_ediv_add_emod N B
  have e2 := Int.mul_ediv_add_emod X B
  have k1 : N / B ≤ X / B ↔ B * (N / B) ≤ X := by rw [Int.le_ediv_iff_mul_le hB, Int.mul_comm]
  have k2 : N / B < X / B + 1 ↔ N < B * (X / B + 1) := by rw [Int.ediv_lt_iff_lt_mul hB, Int.mul_comm]
  have e3 : B * (X / B + 1) = B * (X / B) + B := by rw [Int.mul_add, Int.mul_one]
  rw [e3] at k2
  constructor
  · intro q
    have : N / B ≤ X / B := k1.mpr (by omega)
    have := k2.mp (by omega)
    omega
  · intro q
    have : N / B < X / B + 1 := k2.mpr (by omega)
    have := k1.mp (by omega)
    omega
theorem own_acc_iff {b x : Int64} (hb : 0 < b) (hx : 0 ≤ x) : own_acc b x ↔ own_fits x b = 1 := by
  have B0 := own_pos hb
  have B1 := Int64.toInt_lt b
  have X1 := Int64.toInt_lt x
  have X0 : 0 ≤ x.toInt := by have h := Int64.le_iff_toInt_le.mp hx; simpa using h
  have l1 := Int.emod_nonneg 9223372036854775808 (show b.toInt ≠ 0 by omega)
  have l2 := Int.emod_lt_of_pos 9223372036854775808 B0
  have m1 := Int.emod_nonneg x.toInt (show b.toInt ≠ 0 by omega)
  have m2 : x.toInt % b.toInt ≤ x.toInt := by
    have k1 := Int.mul_ediv_add_emod x.toInt b.toInt
    have k2 := Int.mul_nonneg (Int.le_of_lt B0) (Int.ediv_nonneg X0 (Int.le_of_lt B0))
    omega
  have e1 : ((9223372036854775807 : Int64) - own_rej b).toInt = 9223372036854775807 - 9223372036854775808 % b.toInt := by
    rw [Int64.toInt_sub, own_rej_toInt hb, own_max]
    exact Int.bmod_eq_of_le (by omega) (by omega)
  have e2 : ((9223372036854775807 : Int64) - b).toInt = 9223372036854775807 - b.toInt := by
    rw [Int64.toInt_sub, own_max]
    exact Int.bmod_eq_of_le (by omega) (by omega)
  have e3 : ((9223372036854775807 : Int64) - b + 1).toInt = 9223372036854775808 - b.toInt := by
    rw [Int64.toInt_add, e2, show (1 : Int64).toInt = 1 by decide, Int.bmod_eq_of_le (by omega) (by omega)]
    omega
  have e4 : (x - x % b).toInt = x.toInt - x.toInt % b.toInt := by
    rw [Int64.toInt_sub, own_mod_toInt X0]
    exact Int.bmod_eq_of_le (by omega) (by omega)
  have key := own_arith (B := b.toInt) (X := x.toInt) (N := 9223372036854775808) B0
  have key' : ((9223372036854775807 : Int64) - own_rej b < x) ↔ ((9223372036854775807 : Int64) - b + 1 < x - x % b) := by
    rw [Int64.lt_iff_toInt_lt, Int64.lt_iff_toInt_lt, e1, e3, e4, ← key]
    constructor <;> intro q <;> omega
  unfold own_acc own_fits
  rw [key']
  by_cases q : (9223372036854775807 : Int64) - b + 1 < x - x % b
  · rw [if_pos q]; simp [q]
  · rw [if_neg q]; simp [q]
theorem own_fits_yes {b x : Int64} (hb : 0 < b) (hx : 0 ≤ x) (q : ¬ own_fits x b = 0) : own_acc b x := by
  rw [own_acc_iff hb hx]
  unfold own_fits at q ⊢
  split at q
  · exact absurd rfl q
  · rename_i r; simp [r]
theorem own_fits_no {b x : Int64} (hb : 0 < b) (hx : 0 ≤ x) (q : own_fits x b = 0) : ¬ own_acc b x := by
  rw [own_acc_iff hb hx, q]; decide
theorem own_hist_no {b q s : Int64} (hi : own_hist b q s) (hn : (9223372036854775807 : Int64) - own_rej b < own_hd (s + own_g)) : own_hist b q (s + own_g) := by
  rcases hi with rfl | ⟨rfl, h1⟩ | h
  · exact Or.inr (Or.inl ⟨rfl, fun a => a hn⟩)
  · exact Or.inr (Or.inr ⟨h1, fun a => a hn⟩)
  · exact Or.inr (Or.inr h)
theorem own_mod_range {x b : Int64} (hb : 0 < b) (hx : 0 ≤ x) : 0 ≤ x % b ∧ x % b < b := by
  have B0 := own_pos hb
  have X0 : 0 ≤ x.toInt := by have h := Int64.le_iff_toInt_le.mp hx; simpa using h
  rw [Int64.le_iff_toInt_le, Int64.lt_iff_toInt_lt, own_mod_toInt X0]
  exact ⟨Int.emod_nonneg _ (by omega), Int.emod_lt_of_pos _ B0⟩
theorem own_hist_yes {b q s : Int64} (hb : 0 < b) (hi : own_hist b q s) (hy : ¬ (9223372036854775807 : Int64) - own_rej b < own_hd (s + own_g)) : own_post b q (own_hd (s + own_g) % b) (s + own_g) := by
  refine ⟨own_mod_range hb (own_hd_nonneg _), ?_⟩
  rcases hi with rfl | ⟨rfl, h1⟩ | h
  · exact ⟨fun _ => ⟨rfl, rfl⟩, fun a => absurd hy a⟩
  · exact ⟨fun a => absurd a h1, fun _ _ => ⟨rfl, rfl⟩⟩
  · exact ⟨fun a => absurd a h.1, fun _ a => absurd a h.2⟩
theorem own_zero_acc {b s : Int64} (hb : 0 < b) (hn : s + Int64.ofNat (0 + 1) * own_g = 0) : ¬ (9223372036854775807 : Int64) - own_rej b < own_hd (s + own_g) := by
  have e : s + own_g = 0 := by rw [← hn]; congr 1
  have z : own_hd (s + own_g) = 0 := by rw [e]; decide
  rw [z, Int64.lt_iff_toInt_lt, Int64.toInt_sub, own_rej_toInt hb, own_max]
  have B0 := own_pos hb
  have B1 := Int64.toInt_lt b
  have l1 := Int.emod_nonneg 9223372036854775808 (show b.toInt ≠ 0 by omega)
  have l2 := Int.emod_lt_of_pos 9223372036854775808 B0
  rw [Int.bmod_eq_of_le (by omega) (by omega), show (0 : Int64).toInt = 0 by decide]
  omega
theorem own_start (s : Int64) : ∃ n : Nat, s + Int64.ofNat (n + 1) * own_g = 0 := own_reach s 0
theorem own_bound_pos {x : Int64} {k : Int32} (h : ¬ own_sr (x &&& 9223372036854775807) k = 0) : 0 < own_sr (x &&& 9223372036854775807) k := by
  have h1 : (x &&& 9223372036854775807).toBitVec.toNat < 2 ^ 63 := by
    rw [Int64.toBitVec_and, BitVec.toNat_and]
    exact Nat.lt_of_le_of_lt Nat.and_le_right (by decide)
  have h2 : (own_sr (x &&& 9223372036854775807) k).toBitVec.toNat ≤ (x &&& 9223372036854775807).toBitVec.toNat := by
    have e : (own_sr (x &&& 9223372036854775807) k).toBitVec.toNat = ((x &&& 9223372036854775807).toUInt64 >>> (k &&& 0x3f).toInt64.toUInt64).toNat := rfl
    rw [e, UInt64.toNat_shiftRight]
    exact Nat.shiftRight_le _ _
  have e3 : (own_sr (x &&& 9223372036854775807) k).toInt = ((own_sr (x &&& 9223372036854775807) k).toBitVec.toNat : Int) := BitVec.toInt_eq_toNat_of_lt (by omega)
  have e4 : (own_sr (x &&& 9223372036854775807) k).toInt ≠ 0 := fun q => h (Int64.toInt_inj.mp (q.trans (by decide)))
  rw [Int64.lt_iff_toInt_lt, show (0 : Int64).toInt = 0 by decide]
  omega
theorem dI_0 : Fet prog_10_method_1_code 0 1 (.aload_n 0) 1 := ⟨by decide +kernel, rfl⟩
theorem dI_1 : Fet prog_10_method_1_code 1 4 (.invokespecial 1) 3 := ⟨by decide +kernel, rfl⟩
theorem dI_4 : Fet prog_10_method_1_code 4 5 (.aload_n 0) 1 := ⟨by decide +kernel, rfl⟩
theorem dI_5 : Fet prog_10_method_1_code 5 6 (.lload_n 1) 1 := ⟨by decide +kernel, rfl⟩
theorem dI_6 : Fet prog_10_method_1_code 6 9 (.putfield 7) 3 := ⟨by decide +kernel, rfl⟩
theorem dI_9 : Fet prog_10_method_1_code 9 10 (.return_) 1 := ⟨by decide +kernel, rfl⟩
theorem pn_com_example_lodestake_lodestake_cli_SeededRandom : plainName "com/example/lodestake/lodestake/cli/SeededRandom" = true := by first | (simp [plainName, overriddenIn]; done) | decide +kernel
set_option maxRecDepth 65536 in
set_option maxHeartbeats 4000000 in
theorem rmI (l : Launch) (Z : State) (a0 : Array Value) (hw : ∀ d ∈ tables_1, d.before a0 Z = true) (n0 : Nat) (a : Addr) (q : Int64) (h : Heap) (Z0 : n0 ≤ h.size) (gn_a : n0 ≤ a) (E_a : Exa Z h a "com/example/lodestake/lodestake/cli/SeededRandom") (F_a : Fld Z h a "com/example/lodestake/lodestake/cli/SeededRandom" "state" "J" (.long (0 : Int64))) :
    ConN l Z n0 (⟨"com/example/lodestake/lodestake/cli/SeededRandom", "<init>", "(J)V"⟩ : MethodName) prog_10_method_1_code 3 none [] ({ frames := 1, cells := 0, slots := 0, locals := 12 } : Room) #[(.ref a), (.long q)] h (fun h' => Keep h h' [a] ∧ Exa Z h' a "com/example/lodestake/lodestake/cli/SeededRandom" ∧ Fld Z h' a "com/example/lodestake/lodestake/cli/SeededRandom" "state" "J" (.long q)) := by
  refine con_of_wp (Ls := #[.val (.ref a), .val (.long q), .second]) (plainFor_of_name pn_com_example_lodestake_lodestake_cli_SeededRandom) (fun m => by first | (simp [entryFrame, mkF, argsToLocals, Value.category]; done) | rfl) ?_
  intro K ok
  replace ok : Ok Z K prog_10_method_1_code "com/example/lodestake/lodestake/cli/SeededRandom" "<init>" 3 none := ok
  show Wp l ({ frames := 1, cells := 0, slots := 0, locals := 12 } : Room) n0 K (fun v h' => v = none ∧ Keep h h' [a] ∧ Exa Z h' a "com/example/lodestake/lodestake/cli/SeededRandom" ∧ Fld Z h' a "com/example/lodestake/lodestake/cli/SeededRandom" "state" "J" (.long q)) h 0 0 0 #[.val (.ref a), .val (.long q), .second] []
  have Kp : Keep h h [a] := Keep.refl _ _
  refine w_aloadN ok dI_0 rfl rfl ?_
  refine w_initO ok (hw _ (List.mem_of_getElem? (i := 7) rfl)) (hw _ (List.mem_of_getElem? (i := 8) rfl)) (hw _ (List.mem_of_getElem? (i := 9) rfl)) dI_1 rfl (Nat.le_of_ble_eq_true rfl) (Nat.le_of_ble_eq_true rfl) ?_
  refine w_aloadN ok dI_4 rfl rfl ?_
  refine w_lloadN ok dI_5 rfl ?_
  refine w_putfield ok (host := "") (Or.inl (hw _ (List.mem_of_getElem? (i := 10) rfl))) Via.refl F_a E_a (Or.inl (hw _ (List.mem_of_getElem? (i := 11) rfl))) (hw _ (List.mem_of_getElem? (i := 2) rfl)) (ty := .long) (by decide) rfl rfl gn_a dI_6 (fun h1 W1 => ?_)
  have E_a := E_a.wr W1
  have F_a := F_a.same W1
  have Z0 := Nat.le_trans Z0 (Keep.of_wr W1).1
  have Kp := Kp.wr W1 (Or.inl (List.mem_of_getElem? (i := 0) rfl))
  refine w_return ok dI_9 (Nat.le_of_ble_eq_true rfl) (Nat.le_of_ble_eq_true rfl) ?_
  exact ⟨rfl, Kp, E_a, F_a⟩
theorem dN_0 : Fet prog_10_method_2_code 0 1 (.aload_n 0) 1 := ⟨by decide +kernel, rfl⟩
theorem dN_1 : Fet prog_10_method_2_code 1 2 (.dup) 1 := ⟨by decide +kernel, rfl⟩
theorem dN_2 : Fet prog_10_method_2_code 2 5 (.getfield 7) 3 := ⟨by decide +kernel, rfl⟩
theorem dN_5 : Fet prog_10_method_2_code 5 8 (.ldc2_w 13) 3 := ⟨by decide +kernel, rfl⟩
theorem dN_8 : Fet prog_10_method_2_code 8 9 (.ladd) 1 := ⟨by decide +kernel, rfl⟩
theorem dN_9 : Fet prog_10_method_2_code 9 12 (.putfield 7) 3 := ⟨by decide +kernel, rfl⟩
theorem dN_12 : Fet prog_10_method_2_code 12 13 (.aload_n 0) 1 := ⟨by decide +kernel, rfl⟩
theorem dN_13 : Fet prog_10_method_2_code 13 16 (.getfield 7) 3 := ⟨by decide +kernel, rfl⟩
theorem dN_16 : Fet prog_10_method_2_code 16 17 (.lstore_n 1) 1 := ⟨by decide +kernel, rfl⟩
theorem dN_17 : Fet prog_10_method_2_code 17 18 (.lload_n 1) 1 := ⟨by decide +kernel, rfl⟩
theorem dN_18 : Fet prog_10_method_2_code 18 19 (.lload_n 1) 1 := ⟨by decide +kernel, rfl⟩
theorem dN_19 : Fet prog_10_method_2_code 19 21 (.bipush 30) 2 := ⟨by decide +kernel, rfl⟩
theorem dN_21 : Fet prog_10_method_2_code 21 22 (.lushr) 1 := ⟨by decide +kernel, rfl⟩
theorem dN_22 : Fet prog_10_method_2_code 22 23 (.lxor) 1 := ⟨by decide +kernel, rfl⟩
theorem dN_23 : Fet prog_10_method_2_code 23 26 (.ldc2_w 15) 3 := ⟨by decide +kernel, rfl⟩
theorem dN_26 : Fet prog_10_method_2_code 26 27 (.lmul) 1 := ⟨by decide +kernel, rfl⟩
theorem dN_27 : Fet prog_10_method_2_code 27 28 (.lstore_n 1) 1 := ⟨by decide +kernel, rfl⟩
theorem dN_28 : Fet prog_10_method_2_code 28 29 (.lload_n 1) 1 := ⟨by decide +kernel, rfl⟩
theorem dN_29 : Fet prog_10_method_2_code 29 30 (.lload_n 1) 1 := ⟨by decide +kernel, rfl⟩
theorem dN_30 : Fet prog_10_method_2_code 30 32 (.bipush 27) 2 := ⟨by decide +kernel, rfl⟩
theorem dN_32 : Fet prog_10_method_2_code 32 33 (.lushr) 1 := ⟨by decide +kernel, rfl⟩
theorem dN_33 : Fet prog_10_method_2_code 33 34 (.lxor) 1 := ⟨by decide +kernel, rfl⟩
theorem dN_34 : Fet prog_10_method_2_code 34 37 (.ldc2_w 17) 3 := ⟨by decide +kernel, rfl⟩
theorem dN_37 : Fet prog_10_method_2_code 37 38 (.lmul) 1 := ⟨by decide +kernel, rfl⟩
theorem dN_38 : Fet prog_10_method_2_code 38 39 (.lstore_n 1) 1 := ⟨by decide +kernel, rfl⟩
theorem dN_39 : Fet prog_10_method_2_code 39 40 (.lload_n 1) 1 := ⟨by decide +kernel, rfl⟩
theorem dN_40 : Fet prog_10_method_2_code 40 41 (.lload_n 1) 1 := ⟨by decide +kernel, rfl⟩
theorem dN_41 : Fet prog_10_method_2_code 41 43 (.bipush 31) 2 := ⟨by decide +kernel, rfl⟩
theorem dN_43 : Fet prog_10_method_2_code 43 44 (.lushr) 1 := ⟨by decide +kernel, rfl⟩
theorem dN_44 : Fet prog_10_method_2_code 44 45 (.lxor) 1 := ⟨by decide +kernel, rfl⟩
theorem dN_45 : Fet prog_10_method_2_code 45 46 (.lreturn) 1 := ⟨by decide +kernel, rfl⟩
set_option maxRecDepth 65536 in
set_option maxHeartbeats 4000000 in
theorem rmN (l : Launch) (Z : State) (a0 : Array Value) (hw : ∀ d ∈ tables_1, d.before a0 Z = true) (n0 : Nat) (a : Addr) (q : Int64) (h : Heap) (Z0 : n0 ≤ h.size) (gn_a : n0 ≤ a) (E_a : Exa Z h a "com/example/lodestake/lodestake/cli/SeededRandom") (F_a : Fld Z h a "com/example/lodestake/lodestake/cli/SeededRandom" "state" "J" (.long q)) :
    ConV l Z n0 (⟨"com/example/lodestake/lodestake/cli/SeededRandom", "nextLong", "()J"⟩ : MethodName) prog_10_method_2_code 3 (some .long) [] ({ frames := 0, cells := 0, slots := 0, locals := 0 } : Room) #[(.ref a)] h (fun w h' => w = .long (own_mix (q + (-7046029254386353131 : Int64))) ∧ Keep h h' [a] ∧ Exa Z h' a "com/example/lodestake/lodestake/cli/SeededRandom" ∧ Fld Z h' a "com/example/lodestake/lodestake/cli/SeededRandom" "state" "J" (.long (q + (-7046029254386353131 : Int64)))) := by
  refine con_of_wp (Ls := #[.val (.ref a), .unset, .unset]) (plainFor_of_name pn_com_example_lodestake_lodestake_cli_SeededRandom) (fun m => by first | (simp [entryFrame, mkF, argsToLocals, Value.category]; done) | rfl) ?_
  intro K ok
  replace ok : Ok Z K prog_10_method_2_code "com/example/lodestake/lodestake/cli/SeededRandom" "nextLong" 3 (some .long) := ok
  show Wp l ({ frames := 0, cells := 0, slots := 0, locals := 0 } : Room) n0 K (fun v h' => ∃ w, v = some w ∧ w = .long (own_mix (q + (-7046029254386353131 : Int64))) ∧ Keep h h' [a] ∧ Exa Z h' a "com/example/lodestake/lodestake/cli/SeededRandom" ∧ Fld Z h' a "com/example/lodestake/lodestake/cli/SeededRandom" "state" "J" (.long (q + (-7046029254386353131 : Int64)))) h 0 0 0 #[.val (.ref a), .unset, .unset] []
  have Kp : Keep h h [a] := Keep.refl _ _
  refine w_aloadN ok dN_0 rfl rfl ?_
  refine w_dup ok dN_1 rfl ?_
  refine w_getfield ok (host := "") (Or.inl (hw _ (List.mem_of_getElem? (i := 10) rfl))) Via.refl F_a dN_2 ?_
  refine w_ldc2 ok (hw _ (List.mem_of_getElem? (i := 17) rfl)) dN_5 ?_
  refine w_ladd ok dN_8 ?_
  refine w_putfield ok (host := "") (Or.inl (hw _ (List.mem_of_getElem? (i := 10) rfl))) Via.refl F_a E_a (Or.inl (hw _ (List.mem_of_getElem? (i := 11) rfl))) (hw _ (List.mem_of_getElem? (i := 2) rfl)) (ty := .long) (by decide) rfl rfl gn_a dN_9 (fun h1 W1 => ?_)
  have E_a := E_a.wr W1
  have F_a := F_a.same W1
  have Z0 := Nat.le_trans Z0 (Keep.of_wr W1).1
  have Kp := Kp.wr W1 (Or.inl (List.mem_of_getElem? (i := 0) rfl))
  refine w_aloadN ok dN_12 rfl rfl ?_
  refine w_getfield ok (host := "") (Or.inl (hw _ (List.mem_of_getElem? (i := 10) rfl))) Via.refl F_a dN_13 ?_
  refine w_lstoreN ok (Ls' := #[.val (.ref a), .val (.long (q + (-7046029254386353131 : Int64))), .second]) dN_16 rfl ?_
  generalize hz0 : (q + (-7046029254386353131 : Int64)) = z0
  refine w_lloadN ok dN_17 rfl ?_
  refine w_lloadN ok dN_18 rfl ?_
  refine w_bipush ok (z := 30) dN_19 rfl ?_
  refine w_lushr ok dN_21 ?_
  refine w_lxor ok dN_22 ?_
  refine w_ldc2 ok (hw _ (List.mem_of_getElem? (i := 18) rfl)) dN_23 ?_
  refine w_lmul ok dN_26 ?_
  refine w_lstoreN ok (Ls' := #[.val (.ref a), .val (.long ((z0 ^^^ ((z0.toUInt64 >>> ((30 : Int32) &&& 0x3f).toInt64.toUInt64).toInt64)) * (-4658895280553007687 : Int64))), .second]) dN_27 rfl ?_
  generalize hz1 : ((z0 ^^^ ((z0.toUInt64 >>> ((30 : Int32) &&& 0x3f).toInt64.toUInt64).toInt64)) * (-4658895280553007687 : Int64)) = z1
  refine w_lloadN ok dN_28 rfl ?_
  refine w_lloadN ok dN_29 rfl ?_
  refine w_bipush ok (z := 27) dN_30 rfl ?_
  refine w_lushr ok dN_32 ?_
  refine w_lxor ok dN_33 ?_
  refine w_ldc2 ok (hw _ (List.mem_of_getElem? (i := 19) rfl)) dN_34 ?_
  refine w_lmul ok dN_37 ?_
  refine w_lstoreN ok (Ls' := #[.val (.ref a), .val (.long ((z1 ^^^ ((z1.toUInt64 >>> ((27 : Int32) &&& 0x3f).toInt64.toUInt64).toInt64)) * (-7723592293110705685 : Int64))), .second]) dN_38 rfl ?_
  generalize hz2 : ((z1 ^^^ ((z1.toUInt64 >>> ((27 : Int32) &&& 0x3f).toInt64.toUInt64).toInt64)) * (-7723592293110705685 : Int64)) = z2
  refine w_lloadN ok dN_39 rfl ?_
  refine w_lloadN ok dN_40 rfl ?_
  refine w_bipush ok (z := 31) dN_41 rfl ?_
  refine w_lushr ok dN_43 ?_
  refine w_lxor ok dN_44 ?_
  refine w_lreturn ok dN_45 (Nat.le_of_ble_eq_true rfl) (Nat.le_of_ble_eq_true rfl) ?_
  subst hz2 hz1 hz0
  exact ⟨_, rfl, rfl, Kp, E_a, F_a⟩
theorem dB_0 : Fet prog_10_method_3_code 0 1 (.lload_n 1) 1 := ⟨by decide +kernel, rfl⟩
theorem dB_1 : Fet prog_10_method_3_code 1 2 (.lconst 0) 1 := ⟨by decide +kernel, rfl⟩
theorem dB_2 : Fet prog_10_method_3_code 2 3 (.lcmp) 1 := ⟨by decide +kernel, rfl⟩
theorem dB_3 : Brn prog_10_method_3_code 3 6 20 (.ifCond .gt 17) 17 := ⟨by decide +kernel, rfl, by decide, by decide⟩
theorem dB_20 : Fet prog_10_method_3_code 20 23 (.ldc2_w 30) 3 := ⟨by decide +kernel, rfl⟩
theorem dB_23 : Fet prog_10_method_3_code 23 24 (.lload_n 1) 1 := ⟨by decide +kernel, rfl⟩
theorem dB_24 : Fet prog_10_method_3_code 24 25 (.lrem) 1 := ⟨by decide +kernel, rfl⟩
theorem dB_25 : Fet prog_10_method_3_code 25 26 (.lconst 1) 1 := ⟨by decide +kernel, rfl⟩
theorem dB_26 : Fet prog_10_method_3_code 26 27 (.ladd) 1 := ⟨by decide +kernel, rfl⟩
theorem dB_27 : Fet prog_10_method_3_code 27 28 (.lload_n 1) 1 := ⟨by decide +kernel, rfl⟩
theorem dB_28 : Fet prog_10_method_3_code 28 29 (.lrem) 1 := ⟨by decide +kernel, rfl⟩
theorem dB_29 : Fet prog_10_method_3_code 29 30 (.lstore_n 3) 1 := ⟨by decide +kernel, rfl⟩
theorem dB_30 : Fet prog_10_method_3_code 30 31 (.aload_n 0) 1 := ⟨by decide +kernel, rfl⟩
theorem dB_31 : Fet prog_10_method_3_code 31 34 (.invokevirtual 32) 3 := ⟨by decide +kernel, rfl⟩
theorem pd___J : parseMethodDescriptor "()J" = some ⟨[], some .long⟩ := by decide +kernel
theorem dB_34 : Fet prog_10_method_3_code 34 35 (.iconst 1) 1 := ⟨by decide +kernel, rfl⟩
theorem dB_35 : Fet prog_10_method_3_code 35 36 (.lushr) 1 := ⟨by decide +kernel, rfl⟩
theorem dB_38 : Fet prog_10_method_3_code 38 40 (.lload 5) 2 := ⟨by decide +kernel, rfl⟩
theorem dB_40 : Fet prog_10_method_3_code 40 43 (.ldc2_w 30) 3 := ⟨by decide +kernel, rfl⟩
theorem dB_43 : Fet prog_10_method_3_code 43 44 (.lload_n 3) 1 := ⟨by decide +kernel, rfl⟩
theorem dB_44 : Fet prog_10_method_3_code 44 45 (.lsub) 1 := ⟨by decide +kernel, rfl⟩
theorem dB_45 : Fet prog_10_method_3_code 45 46 (.lcmp) 1 := ⟨by decide +kernel, rfl⟩
theorem dB_46 : Brn prog_10_method_3_code 46 49 30 (.ifCond .gt (-16)) (-16) := ⟨by decide +kernel, rfl, by decide, by decide⟩
theorem dB_49 : Fet prog_10_method_3_code 49 51 (.lload 5) 2 := ⟨by decide +kernel, rfl⟩
theorem dB_51 : Fet prog_10_method_3_code 51 52 (.lload_n 1) 1 := ⟨by decide +kernel, rfl⟩
theorem dB_52 : Fet prog_10_method_3_code 52 53 (.lrem) 1 := ⟨by decide +kernel, rfl⟩
theorem dB_53 : Fet prog_10_method_3_code 53 54 (.lreturn) 1 := ⟨by decide +kernel, rfl⟩
theorem dB_36 : Fet prog_10_method_3_code 36 38 (.lstore 5) 2 := ⟨by decide +kernel, rfl⟩
set_option maxRecDepth 65536 in
set_option maxHeartbeats 4000000 in
theorem rmB (l : Launch) (Z : State) (a0 : Array Value) (hw : ∀ d ∈ tables_1, d.before a0 Z = true) (n0 : Nat) (a : Addr) (q b : Int64) (h : Heap) (Z0 : n0 ≤ h.size) (gn_a : n0 ≤ a) (E_a : Exa Z h a "com/example/lodestake/lodestake/cli/SeededRandom") (F_a : Fld Z h a "com/example/lodestake/lodestake/cli/SeededRandom" "state" "J" (.long q)) (hb : 0 < b) (hb0 : b ≠ 0) :
    ConV l Z n0 (⟨"com/example/lodestake/lodestake/cli/SeededRandom", "below", "(J)J"⟩ : MethodName) prog_10_method_3_code 7 (some .long) [] ({ frames := 1, cells := 0, slots := 0, locals := 14 } : Room) #[(.ref a), (.long b)] h (fun w h' => ∃ (r s : Int64), w = .long r ∧ Keep h h' [a] ∧ Exa Z h' a "com/example/lodestake/lodestake/cli/SeededRandom" ∧ Fld Z h' a "com/example/lodestake/lodestake/cli/SeededRandom" "state" "J" (.long s) ∧ own_post b q r s) := by
  refine con_of_wp (Ls := #[.val (.ref a), .val (.long b), .second, .unset, .unset, .unset, .unset]) (plainFor_of_name pn_com_example_lodestake_lodestake_cli_SeededRandom) (fun m => by first | (simp [entryFrame, mkF, argsToLocals, Value.category]; done) | rfl) ?_
  intro K ok
  replace ok : Ok Z K prog_10_method_3_code "com/example/lodestake/lodestake/cli/SeededRandom" "below" 7 (some .long) := ok
  show Wp l ({ frames := 1, cells := 0, slots := 0, locals := 14 } : Room) n0 K (fun v h' => ∃ w, v = some w ∧ ∃ (r s : Int64), w = .long r ∧ Keep h h' [a] ∧ Exa Z h' a "com/example/lodestake/lodestake/cli/SeededRandom" ∧ Fld Z h' a "com/example/lodestake/lodestake/cli/SeededRandom" "state" "J" (.long s) ∧ own_post b q r s) h 0 0 0 #[.val (.ref a), .val (.long b), .second, .unset, .unset, .unset, .unset] []
  have Kp : Keep h h [a] := Keep.refl _ _
  refine w_lloadN ok dB_0 rfl ?_
  refine w_lconst ok (z := 0) dB_1 rfl ?_
  refine w_lc_gt ok dB_2 dB_3 (fun q0 => ?_) (fun q0 => ?_)
  · refine w_ldc2 ok (hw _ (List.mem_of_getElem? (i := 25) rfl)) dB_20 ?_
    refine w_lloadN ok dB_23 rfl ?_
    refine w_lrem ok dB_24 hb0 ?_
    refine w_lconst ok (z := 1) dB_25 rfl ?_
    refine w_ladd ok dB_26 ?_
    refine w_lloadN ok dB_27 rfl ?_
    refine w_lrem ok dB_28 hb0 ?_
    refine w_lstoreN ok (Ls' := #[.val (.ref a), .val (.long b), .second, .val (.long ((((9223372036854775807 : Int64) % b) + (1 : Int64)) % b)), .second, .unset, .unset]) dB_29 rfl ?_
    show Wp l ({ frames := 1, cells := 0, slots := 0, locals := 14 } : Room) n0 K (fun v h' => ∃ w, v = some w ∧ ∃ (r s : Int64), w = .long r ∧ Keep h h' [a] ∧ Exa Z h' a "com/example/lodestake/lodestake/cli/SeededRandom" ∧ Fld Z h' a "com/example/lodestake/lodestake/cli/SeededRandom" "state" "J" (.long s) ∧ own_post b q r s) h 0 0 30 #[.val (.ref a), .val (.long b), .second, .val (.long (own_rej b)), .second, .unset, .unset] []
    have loop : ∀ (n : Nat) (s : Int64) (hh : Heap) (s5 s6 : Slot) (hs : (s5 = .unset ∧ s6 = .unset) ∨ ∃ z : Int64, s5 = .val (.long z) ∧ s6 = .second) (Z0 : n0 ≤ hh.size) (Kp : Keep h hh [a]) (E_a : Exa Z hh a "com/example/lodestake/lodestake/cli/SeededRandom") (F_a : Fld Z hh a "com/example/lodestake/lodestake/cli/SeededRandom" "state" "J" (.long s)) (hn : s + Int64.ofNat (n + 1) * (-7046029254386353131 : Int64) = 0) (hi : own_hist b q s), Wp l ({ frames := 1, cells := 0, slots := 0, locals := 14 } : Room) n0 K (fun v h' => ∃ w, v = some w ∧ ∃ (r s : Int64), w = .long r ∧ Keep h h' [a] ∧ Exa Z h' a "com/example/lodestake/lodestake/cli/SeededRandom" ∧ Fld Z h' a "com/example/lodestake/lodestake/cli/SeededRandom" "state" "J" (.long s) ∧ own_post b q r s) hh 0 0 30 #[.val (.ref a), .val (.long b), .second, .val (.long (own_rej b)), .second, s5, s6] [] := by
      intro n
      induction n using Nat.strongRecOn with
      | _ n ih =>
        intro s hh s5 s6 hs Z0 Kp E_a F_a hn hi
        refine w_aloadN ok dB_30 rfl rfl ?_
        refine w_virtV ok (argsL := []) (rest := []) (hw _ (List.mem_of_getElem? (i := 26) rfl)) (hw _ (List.mem_of_getElem? (i := 13) rfl)) (hw _ (List.mem_of_getElem? (i := 15) rfl)) (hw _ (List.mem_of_getElem? (i := 14) rfl)) (hw _ (List.mem_of_getElem? (i := 3) rfl)) (hw _ (List.mem_of_getElem? (i := 16) rfl)) E_a (by decide) (rmN l Z a0 hw n0 a s hh Z0 gn_a E_a F_a) dB_31 (lenOf pd___J rfl) rfl rfl (Nat.le_of_ble_eq_true rfl) (Nat.le_of_ble_eq_true rfl) (k' := 0) (n' := 0) rfl rfl (Nat.le_of_ble_eq_true rfl) (Nat.le_of_ble_eq_true rfl) ?_
        rintro _ h2 ⟨rfl, Kc, E_a, F_a⟩
        have Z0 := Nat.le_trans Z0 Kc.1
        have Kp := Kp.trans Kc (allS (Or.inl (List.mem_of_getElem? (i := 0) rfl)) all0)
        refine w_iconst ok (z := 1) dB_34 rfl ?_
        refine w_lushr ok dB_35 ?_
        refine w_long (b := own_hd (s + (-7046029254386353131 : Int64))) rfl ?_
        have J38 : Wp l ({ frames := 1, cells := 0, slots := 0, locals := 14 } : Room) n0 K (fun v h' => ∃ w, v = some w ∧ ∃ (r s : Int64), w = .long r ∧ Keep h h' [a] ∧ Exa Z h' a "com/example/lodestake/lodestake/cli/SeededRandom" ∧ Fld Z h' a "com/example/lodestake/lodestake/cli/SeededRandom" "state" "J" (.long s) ∧ own_post b q r s) h2 0 0 38 #[.val (.ref a), .val (.long b), .second, .val (.long (own_rej b)), .second, .val (.long (own_hd (s + (-7046029254386353131 : Int64)))), .second] [] := by
          refine w_lload ok dB_38 rfl ?_
          refine w_ldc2 ok (hw _ (List.mem_of_getElem? (i := 25) rfl)) dB_40 ?_
          refine w_lloadN ok dB_43 rfl ?_
          refine w_lsub ok dB_44 ?_
          refine w_lc_gt ok dB_45 dB_46 (fun qq => ?_) (fun qq => ?_)
          · obtain ⟨m, rfl⟩ : ∃ m, n = m + 1 := by
              cases n with
              | zero => exact absurd qq (own_zero_acc hb hn)
              | succ m => exact ⟨m, rfl⟩
            exact ih m (by omega) _ _ _ _ (Or.inr ⟨_, rfl, rfl⟩) Z0 Kp E_a F_a (own_next hn) (own_hist_no hi qq)
          · refine w_lload ok dB_49 rfl ?_
            refine w_lloadN ok dB_51 rfl ?_
            refine w_lrem ok dB_52 hb0 ?_
            refine w_lreturn ok dB_53 (Nat.le_of_ble_eq_true rfl) (Nat.le_of_ble_eq_true rfl) ?_
            exact ⟨_, rfl, _, _, rfl, Kp, E_a, F_a, own_hist_yes hb hi qq⟩
        rcases hs with ⟨rfl, rfl⟩ | ⟨z, rfl, rfl⟩ <;> exact w_lstore ok (Ls' := #[.val (.ref a), .val (.long b), .second, .val (.long (own_rej b)), .second, .val (.long (own_hd (s + (-7046029254386353131 : Int64)))), .second]) dB_36 rfl J38
    obtain ⟨n, hn⟩ := own_start q
    exact loop n q h .unset .unset (Or.inl ⟨rfl, rfl⟩) Z0 Kp E_a F_a hn (Or.inl rfl)
  · exact absurd hb q0
theorem dF_0 : Fet method_3_code 0 1 (.lload_n 0) 1 := ⟨by decide +kernel, rfl⟩
theorem dF_1 : Fet method_3_code 1 2 (.lload_n 0) 1 := ⟨by decide +kernel, rfl⟩
theorem dF_2 : Fet method_3_code 2 3 (.lload_n 2) 1 := ⟨by decide +kernel, rfl⟩
theorem dF_3 : Fet method_3_code 3 4 (.lrem) 1 := ⟨by decide +kernel, rfl⟩
theorem dF_4 : Fet method_3_code 4 5 (.lsub) 1 := ⟨by decide +kernel, rfl⟩
theorem dF_5 : Fet method_3_code 5 8 (.ldc2_w 9) 3 := ⟨by decide +kernel, rfl⟩
theorem dF_8 : Fet method_3_code 8 9 (.lload_n 2) 1 := ⟨by decide +kernel, rfl⟩
theorem dF_9 : Fet method_3_code 9 10 (.lsub) 1 := ⟨by decide +kernel, rfl⟩
theorem dF_10 : Fet method_3_code 10 11 (.lconst 1) 1 := ⟨by decide +kernel, rfl⟩
theorem dF_11 : Fet method_3_code 11 12 (.ladd) 1 := ⟨by decide +kernel, rfl⟩
theorem dF_12 : Fet method_3_code 12 13 (.lcmp) 1 := ⟨by decide +kernel, rfl⟩
theorem dF_13 : Brn method_3_code 13 16 20 (.ifCond .gt 7) 7 := ⟨by decide +kernel, rfl, by decide, by decide⟩
theorem dF_20 : Fet method_3_code 20 21 (.iconst 0) 1 := ⟨by decide +kernel, rfl⟩
theorem dF_21 : Fet method_3_code 21 22 (.ireturn) 1 := ⟨by decide +kernel, rfl⟩
theorem dF_16 : Fet method_3_code 16 17 (.iconst 1) 1 := ⟨by decide +kernel, rfl⟩
theorem dF_17 : Brn method_3_code 17 20 21 (.goto 4) 4 := ⟨by decide +kernel, rfl, by decide, by decide⟩
theorem pn_com_example_lodestake_lodestake_cli_SeededRandomBelowPinLaw : plainName "com/example/lodestake/lodestake/cli/SeededRandomBelowPinLaw" = true := by first | (simp [plainName, overriddenIn]; done) | decide +kernel
set_option maxRecDepth 65536 in
set_option maxHeartbeats 4000000 in
theorem rmF (l : Launch) (Z : State) (a0 : Array Value) (hw : ∀ d ∈ tables_1, d.before a0 Z = true) (n0 : Nat) (x b : Int64) (h : Heap) (hb0 : b ≠ 0) :
    ConV l Z n0 (⟨"com/example/lodestake/lodestake/cli/SeededRandomBelowPinLaw", "fits", "(JJ)Z"⟩ : MethodName) method_3_code 4 (some .boolean) [] ({ frames := 0, cells := 0, slots := 0, locals := 0 } : Room) #[(.long x), (.long b)] h (fun w h' => w = .int (own_fits x b) ∧ h = h') := by
  refine con_of_wp (Ls := #[.val (.long x), .second, .val (.long b), .second]) (plainFor_of_name pn_com_example_lodestake_lodestake_cli_SeededRandomBelowPinLaw) (fun m => by first | (simp [entryFrame, mkF, argsToLocals, Value.category]; done) | rfl) ?_
  intro K ok
  replace ok : Ok Z K method_3_code "com/example/lodestake/lodestake/cli/SeededRandomBelowPinLaw" "fits" 4 (some .boolean) := ok
  show Wp l ({ frames := 0, cells := 0, slots := 0, locals := 0 } : Room) n0 K (fun v h' => ∃ w, v = some w ∧ w = .int (own_fits x b) ∧ h = h') h 0 0 0 #[.val (.long x), .second, .val (.long b), .second] []
  refine w_lloadN ok dF_0 rfl ?_
  refine w_lloadN ok dF_1 rfl ?_
  refine w_lloadN ok dF_2 rfl ?_
  refine w_lrem ok dF_3 hb0 ?_
  refine w_lsub ok dF_4 ?_
  refine w_ldc2 ok (hw _ (List.mem_of_getElem? (i := 0) rfl)) dF_5 ?_
  refine w_lloadN ok dF_8 rfl ?_
  refine w_lsub ok dF_9 ?_
  refine w_lconst ok (z := 1) dF_10 rfl ?_
  refine w_ladd ok dF_11 ?_
  refine w_lc_gt ok dF_12 dF_13 (fun q0 => ?_) (fun q0 => ?_)
  · refine w_iconst ok (z := 0) dF_20 rfl ?_
    refine w_ireturnN ok (by simp) dF_21 (Nat.le_of_ble_eq_true rfl) (Nat.le_of_ble_eq_true rfl) ?_
    exact ⟨_, rfl, by rw [show own_fits x b = 0 by simp [own_fits, q0]]; rfl, rfl⟩
  · refine w_iconst ok (z := 1) dF_16 rfl ?_
    refine w_goto ok dF_17 ?_
    refine w_ireturnN ok (by simp) dF_21 (Nat.le_of_ble_eq_true rfl) (Nat.le_of_ble_eq_true rfl) ?_
    exact ⟨_, rfl, by rw [show own_fits x b = 1 by simp [own_fits, q0]]; rfl, rfl⟩
theorem d0_0 : Fet code 0 1 (.lload_n 2) 1 := ⟨by decide +kernel, rfl⟩
theorem d0_1 : Fet code 1 4 (.ldc2_w 9) 3 := ⟨by decide +kernel, rfl⟩
theorem d0_4 : Fet code 4 5 (.land) 1 := ⟨by decide +kernel, rfl⟩
theorem d0_5 : Fet code 5 7 (.iload 4) 2 := ⟨by decide +kernel, rfl⟩
theorem d0_7 : Fet code 7 9 (.bipush 63) 2 := ⟨by decide +kernel, rfl⟩
theorem d0_9 : Fet code 9 10 (.iand) 1 := ⟨by decide +kernel, rfl⟩
theorem d0_10 : Fet code 10 11 (.lushr) 1 := ⟨by decide +kernel, rfl⟩
theorem d0_11 : Fet code 11 13 (.lstore 5) 2 := ⟨by decide +kernel, rfl⟩
theorem d0_13 : Fet code 13 15 (.lload 5) 2 := ⟨by decide +kernel, rfl⟩
theorem d0_15 : Fet code 15 16 (.lconst 0) 1 := ⟨by decide +kernel, rfl⟩
theorem d0_23 : Fet code 23 26 (.new 11) 3 := ⟨by decide +kernel, rfl⟩
theorem d0_26 : Fet code 26 27 (.dup) 1 := ⟨by decide +kernel, rfl⟩
theorem d0_27 : Fet code 27 28 (.lload_n 0) 1 := ⟨by decide +kernel, rfl⟩
theorem d0_28 : Fet code 28 31 (.invokespecial 13) 3 := ⟨by decide +kernel, rfl⟩
theorem pd__J_V : parseMethodDescriptor "(J)V" = some ⟨[.long], none⟩ := by decide +kernel
theorem d0_31 : Fet code 31 33 (.astore 7) 2 := ⟨by decide +kernel, rfl⟩
theorem d0_33 : Fet code 33 36 (.new 11) 3 := ⟨by decide +kernel, rfl⟩
theorem d0_36 : Fet code 36 37 (.dup) 1 := ⟨by decide +kernel, rfl⟩
theorem d0_37 : Fet code 37 38 (.lload_n 0) 1 := ⟨by decide +kernel, rfl⟩
theorem d0_38 : Fet code 38 41 (.invokespecial 13) 3 := ⟨by decide +kernel, rfl⟩
theorem d0_41 : Fet code 41 43 (.astore 8) 2 := ⟨by decide +kernel, rfl⟩
theorem d0_43 : Fet code 43 45 (.aload 8) 2 := ⟨by decide +kernel, rfl⟩
theorem d0_45 : Fet code 45 48 (.invokevirtual 16) 3 := ⟨by decide +kernel, rfl⟩
theorem d0_48 : Fet code 48 50 (.lstore 9) 2 := ⟨by decide +kernel, rfl⟩
theorem d0_50 : Fet code 50 52 (.aload 8) 2 := ⟨by decide +kernel, rfl⟩
theorem d0_52 : Fet code 52 55 (.invokevirtual 16) 3 := ⟨by decide +kernel, rfl⟩
theorem d0_55 : Fet code 55 57 (.lstore 11) 2 := ⟨by decide +kernel, rfl⟩
theorem d0_57 : Fet code 57 59 (.aload 8) 2 := ⟨by decide +kernel, rfl⟩
theorem d0_59 : Fet code 59 62 (.invokevirtual 16) 3 := ⟨by decide +kernel, rfl⟩
theorem d0_62 : Fet code 62 64 (.lstore 13) 2 := ⟨by decide +kernel, rfl⟩
theorem d0_64 : Fet code 64 66 (.aload 7) 2 := ⟨by decide +kernel, rfl⟩
theorem d0_66 : Fet code 66 68 (.lload 5) 2 := ⟨by decide +kernel, rfl⟩
theorem d0_68 : Fet code 68 71 (.invokevirtual 20) 3 := ⟨by decide +kernel, rfl⟩
theorem pd__J_J : parseMethodDescriptor "(J)J" = some ⟨[.long], some .long⟩ := by decide +kernel
theorem d0_71 : Fet code 71 73 (.lstore 15) 2 := ⟨by decide +kernel, rfl⟩
theorem d0_73 : Fet code 73 75 (.aload 7) 2 := ⟨by decide +kernel, rfl⟩
theorem d0_75 : Fet code 75 78 (.invokevirtual 16) 3 := ⟨by decide +kernel, rfl⟩
theorem d0_78 : Fet code 78 80 (.lstore 17) 2 := ⟨by decide +kernel, rfl⟩
theorem d0_80 : Fet code 80 82 (.lload 15) 2 := ⟨by decide +kernel, rfl⟩
theorem d0_82 : Fet code 82 83 (.lconst 0) 1 := ⟨by decide +kernel, rfl⟩
theorem d0_83 : Fet code 83 84 (.lcmp) 1 := ⟨by decide +kernel, rfl⟩
theorem d0_84 : Brn code 84 87 95 (.ifCond .lt 11) 11 := ⟨by decide +kernel, rfl, by decide, by decide⟩
theorem d0_87 : Fet code 87 89 (.lload 15) 2 := ⟨by decide +kernel, rfl⟩
theorem d0_89 : Fet code 89 91 (.lload 5) 2 := ⟨by decide +kernel, rfl⟩
theorem d0_91 : Fet code 91 92 (.lcmp) 1 := ⟨by decide +kernel, rfl⟩
theorem d0_92 : Brn code 92 95 97 (.ifCond .lt 5) 5 := ⟨by decide +kernel, rfl, by decide, by decide⟩
theorem d0_97 : Fet code 97 99 (.lload 9) 2 := ⟨by decide +kernel, rfl⟩
theorem d0_99 : Fet code 99 100 (.iconst 1) 1 := ⟨by decide +kernel, rfl⟩
theorem d0_100 : Fet code 100 101 (.lushr) 1 := ⟨by decide +kernel, rfl⟩
theorem d0_101 : Fet code 101 103 (.lstore 19) 2 := ⟨by decide +kernel, rfl⟩
theorem d0_103 : Fet code 103 105 (.lload 11) 2 := ⟨by decide +kernel, rfl⟩
theorem d0_105 : Fet code 105 106 (.iconst 1) 1 := ⟨by decide +kernel, rfl⟩
theorem d0_106 : Fet code 106 107 (.lushr) 1 := ⟨by decide +kernel, rfl⟩
theorem d0_107 : Fet code 107 109 (.lstore 21) 2 := ⟨by decide +kernel, rfl⟩
theorem d0_109 : Fet code 109 111 (.lload 19) 2 := ⟨by decide +kernel, rfl⟩
theorem d0_111 : Fet code 111 113 (.lload 5) 2 := ⟨by decide +kernel, rfl⟩
theorem d0_113 : Fet code 113 116 (.invokestatic 24) 3 := ⟨by decide +kernel, rfl⟩
theorem pd__JJ_Z : parseMethodDescriptor "(JJ)Z" = some ⟨[.long, .long], some .boolean⟩ := by decide +kernel
theorem d0_116 : Brn code 116 119 144 (.ifCond .eq 28) 28 := ⟨by decide +kernel, rfl, by decide, by decide⟩
theorem d0_119 : Fet code 119 121 (.lload 15) 2 := ⟨by decide +kernel, rfl⟩
theorem d0_121 : Fet code 121 123 (.lload 19) 2 := ⟨by decide +kernel, rfl⟩
theorem d0_123 : Fet code 123 125 (.lload 5) 2 := ⟨by decide +kernel, rfl⟩
theorem d0_125 : Fet code 125 126 (.lrem) 1 := ⟨by decide +kernel, rfl⟩
theorem d0_126 : Fet code 126 127 (.lcmp) 1 := ⟨by decide +kernel, rfl⟩
theorem d0_127 : Brn code 127 130 142 (.ifCond .ne 15) 15 := ⟨by decide +kernel, rfl, by decide, by decide⟩
theorem d0_130 : Fet code 130 132 (.lload 17) 2 := ⟨by decide +kernel, rfl⟩
theorem d0_132 : Fet code 132 134 (.lload 11) 2 := ⟨by decide +kernel, rfl⟩
theorem d0_134 : Fet code 134 135 (.lcmp) 1 := ⟨by decide +kernel, rfl⟩
theorem d0_135 : Brn code 135 138 142 (.ifCond .ne 7) 7 := ⟨by decide +kernel, rfl, by decide, by decide⟩
theorem d0_138 : Fet code 138 139 (.iconst 1) 1 := ⟨by decide +kernel, rfl⟩
theorem d0_139 : Brn code 139 142 143 (.goto 4) 4 := ⟨by decide +kernel, rfl, by decide, by decide⟩
theorem d0_143 : Fet code 143 144 (.ireturn) 1 := ⟨by decide +kernel, rfl⟩
theorem d0_144 : Fet code 144 146 (.lload 21) 2 := ⟨by decide +kernel, rfl⟩
theorem d0_146 : Fet code 146 148 (.lload 5) 2 := ⟨by decide +kernel, rfl⟩
theorem d0_148 : Fet code 148 151 (.invokestatic 24) 3 := ⟨by decide +kernel, rfl⟩
theorem d0_151 : Brn code 151 154 179 (.ifCond .eq 28) 28 := ⟨by decide +kernel, rfl, by decide, by decide⟩
theorem d0_154 : Fet code 154 156 (.lload 15) 2 := ⟨by decide +kernel, rfl⟩
theorem d0_156 : Fet code 156 158 (.lload 21) 2 := ⟨by decide +kernel, rfl⟩
theorem d0_158 : Fet code 158 160 (.lload 5) 2 := ⟨by decide +kernel, rfl⟩
theorem d0_160 : Fet code 160 161 (.lrem) 1 := ⟨by decide +kernel, rfl⟩
theorem d0_161 : Fet code 161 162 (.lcmp) 1 := ⟨by decide +kernel, rfl⟩
theorem d0_162 : Brn code 162 165 177 (.ifCond .ne 15) 15 := ⟨by decide +kernel, rfl, by decide, by decide⟩
theorem d0_165 : Fet code 165 167 (.lload 17) 2 := ⟨by decide +kernel, rfl⟩
theorem d0_167 : Fet code 167 169 (.lload 13) 2 := ⟨by decide +kernel, rfl⟩
theorem d0_169 : Fet code 169 170 (.lcmp) 1 := ⟨by decide +kernel, rfl⟩
theorem d0_170 : Brn code 170 173 177 (.ifCond .ne 7) 7 := ⟨by decide +kernel, rfl, by decide, by decide⟩
theorem d0_173 : Fet code 173 174 (.iconst 1) 1 := ⟨by decide +kernel, rfl⟩
theorem d0_174 : Brn code 174 177 178 (.goto 4) 4 := ⟨by decide +kernel, rfl, by decide, by decide⟩
theorem d0_178 : Fet code 178 179 (.ireturn) 1 := ⟨by decide +kernel, rfl⟩
theorem d0_179 : Fet code 179 180 (.iconst 1) 1 := ⟨by decide +kernel, rfl⟩
theorem d0_180 : Fet code 180 181 (.ireturn) 1 := ⟨by decide +kernel, rfl⟩
theorem d0_16 : Fet code 16 17 (.lcmp) 1 := ⟨by decide +kernel, rfl⟩
theorem d0_17 : Brn code 17 20 23 (.ifCond .ne 6) 6 := ⟨by decide +kernel, rfl, by decide, by decide⟩
theorem d0_20 : Fet code 20 21 (.lconst 1) 1 := ⟨by decide +kernel, rfl⟩
theorem d0_21 : Fet code 21 23 (.lstore 5) 2 := ⟨by decide +kernel, rfl⟩
set_option maxRecDepth 65536 in
set_option maxHeartbeats 4000000 in
theorem rm0 (l : Launch) (Z : State) (a0 : Array Value) (hw : ∀ d ∈ tables_1, d.before a0 Z = true) (n0 : Nat) (q xv : Int64) (kv : Int32) (h : Heap) (Z0 : n0 ≤ h.size) :
    ConV l Z n0 x code maxLocals ret tables_1 room_1 #[(.long q), (.long xv), (.int kv)] h (fun w h' => w = .int 1) := by
  refine con_of_wp (Ls := #[.val (.long q), .second, .val (.long xv), .second, .val (.int kv), .unset, .unset, .unset, .unset, .unset, .unset, .unset, .unset, .unset, .unset, .unset, .unset, .unset, .unset, .unset, .unset, .unset, .unset]) (plainFor_of_name pn_com_example_lodestake_lodestake_cli_SeededRandomBelowPinLaw) (fun m => by first | (simp [entryFrame, mkF, argsToLocals, Value.category, maxLocals]; done) | rfl) ?_
  intro K ok
  replace ok : Ok Z K code "com/example/lodestake/lodestake/cli/SeededRandomBelowPinLaw" "law" 23 (some .boolean) := ok
  show Wp l room_1 n0 K (fun v h' => ∃ w, v = some w ∧ w = .int 1) h 0 0 0 #[.val (.long q), .second, .val (.long xv), .second, .val (.int kv), .unset, .unset, .unset, .unset, .unset, .unset, .unset, .unset, .unset, .unset, .unset, .unset, .unset, .unset, .unset, .unset, .unset, .unset] []
  refine w_lloadN ok d0_0 rfl ?_
  refine w_ldc2 ok (hw _ (List.mem_of_getElem? (i := 0) rfl)) d0_1 ?_
  refine w_land ok d0_4 ?_
  refine w_iload ok d0_5 rfl ?_
  refine w_bipush ok (z := 63) d0_7 rfl ?_
  refine w_iand ok d0_9 ?_
  refine w_lushr ok d0_10 ?_
  refine w_lstore ok (Ls' := #[.val (.long q), .second, .val (.long xv), .second, .val (.int kv), .val (.long (((xv &&& (9223372036854775807 : Int64)).toUInt64 >>> ((kv &&& (63 : Int32)) &&& 0x3f).toInt64.toUInt64).toInt64)), .second, .unset, .unset, .unset, .unset, .unset, .unset, .unset, .unset, .unset, .unset, .unset, .unset, .unset, .unset, .unset, .unset]) d0_11 rfl ?_
  refine w_lload ok d0_13 rfl ?_
  refine w_lconst ok (z := 0) d0_15 rfl ?_
  have J23 : ∀ (b : Int64) (hb : 0 < b), Wp l room_1 n0 K (fun v h' => ∃ w, v = some w ∧ w = .int 1) h 0 0 23 #[.val (.long q), .second, .val (.long xv), .second, .val (.int kv), .val (.long b), .second, .unset, .unset, .unset, .unset, .unset, .unset, .unset, .unset, .unset, .unset, .unset, .unset, .unset, .unset, .unset, .unset] [] := by
    intro b hb
    have hb0 : b ≠ 0 := fun e => absurd (e ▸ hb) (by decide)
    refine w_new ok (hw _ (List.mem_of_getElem? (i := 1) rfl)) (hw _ (List.mem_of_getElem? (i := 2) rfl)) (hw _ (List.mem_of_getElem? (i := 3) rfl)) d0_23 (k' := 1) (n' := 1) rfl rfl (Nat.le_of_ble_eq_true rfl) (Nat.le_of_ble_eq_true rfl) (fun h1 b1 g1 E1 A1 D1 => ?_)
    have gn_b1 : n0 ≤ b1 := Nat.le_trans Z0 (Nat.le_of_eq g1.symm)
    have Z0 := Nat.le_trans Z0 E1.1
    have F_b1_state : Fld Z h1 b1 "com/example/lodestake/lodestake/cli/SeededRandom" "state" "J" (.long (0 : Int64)) := D1 (Or.inl (hw _ (List.mem_of_getElem? (i := 11) rfl))) (ty := .long) (by decide)
    refine w_dup ok d0_26 rfl ?_
    refine w_lloadN ok d0_27 rfl ?_
    refine w_init ok (argsL := [(.long q)]) (rest := [(.ref b1)]) rfl rfl (hw _ (List.mem_of_getElem? (i := 4) rfl)) (hw _ (List.mem_of_getElem? (i := 5) rfl)) (hw _ (List.mem_of_getElem? (i := 3) rfl)) (hw _ (List.mem_of_getElem? (i := 6) rfl)) (by decide) (rmI l Z a0 hw n0 b1 q h1 Z0 gn_b1 A1 F_b1_state) d0_28 (lenOf pd__J_V rfl) rfl rfl (Nat.le_of_ble_eq_true rfl) (Nat.le_of_ble_eq_true rfl) (k' := 1) (n' := 1) rfl rfl (Nat.le_of_ble_eq_true rfl) (Nat.le_of_ble_eq_true rfl) ?_
    rintro hc1 ⟨Kc, A1, F_b1_state⟩
    have Z0 := Nat.le_trans Z0 Kc.1
    refine w_astore ok (Ls' := #[.val (.long q), .second, .val (.long xv), .second, .val (.int kv), .val (.long b), .second, .val (.ref b1), .unset, .unset, .unset, .unset, .unset, .unset, .unset, .unset, .unset, .unset, .unset, .unset, .unset, .unset, .unset]) d0_31 rfl rfl ?_
    refine w_new ok (hw _ (List.mem_of_getElem? (i := 1) rfl)) (hw _ (List.mem_of_getElem? (i := 2) rfl)) (hw _ (List.mem_of_getElem? (i := 3) rfl)) d0_33 (k' := 2) (n' := 2) rfl rfl (Nat.le_of_ble_eq_true rfl) (Nat.le_of_ble_eq_true rfl) (fun h2 b2 g2 E2 A2 D2 => ?_)
    have ne_b1_b2 : b1 ≠ b2 := Nat.ne_of_lt (Nat.lt_of_lt_of_le A1.lt (Nat.le_of_eq g2.symm))
    have gn_b2 : n0 ≤ b2 := Nat.le_trans Z0 (Nat.le_of_eq g2.symm)
    have Z0 := Nat.le_trans Z0 E2.1
    have A1 := A1.ext E2
    have F_b1_state := F_b1_state.ext E2
    have F_b2_state : Fld Z h2 b2 "com/example/lodestake/lodestake/cli/SeededRandom" "state" "J" (.long (0 : Int64)) := D2 (Or.inl (hw _ (List.mem_of_getElem? (i := 11) rfl))) (ty := .long) (by decide)
    refine w_dup ok d0_36 rfl ?_
    refine w_lloadN ok d0_37 rfl ?_
    refine w_init ok (argsL := [(.long q)]) (rest := [(.ref b2)]) rfl rfl (hw _ (List.mem_of_getElem? (i := 4) rfl)) (hw _ (List.mem_of_getElem? (i := 5) rfl)) (hw _ (List.mem_of_getElem? (i := 3) rfl)) (hw _ (List.mem_of_getElem? (i := 6) rfl)) (by decide) (rmI l Z a0 hw n0 b2 q h2 Z0 gn_b2 A2 F_b2_state) d0_38 (lenOf pd__J_V rfl) rfl rfl (Nat.le_of_ble_eq_true rfl) (Nat.le_of_ble_eq_true rfl) (k' := 2) (n' := 2) rfl rfl (Nat.le_of_ble_eq_true rfl) (Nat.le_of_ble_eq_true rfl) ?_
    rintro hc2 ⟨Kc, A2, F_b2_state⟩
    have A1 := A1.keep Kc
    have F_b1_state := F_b1_state.keep Kc (ninS ne_b1_b2 nin0)
    have Z0 := Nat.le_trans Z0 Kc.1
    refine w_astore ok (Ls' := #[.val (.long q), .second, .val (.long xv), .second, .val (.int kv), .val (.long b), .second, .val (.ref b1), .val (.ref b2), .unset, .unset, .unset, .unset, .unset, .unset, .unset, .unset, .unset, .unset, .unset, .unset, .unset, .unset]) d0_41 rfl rfl ?_
    refine w_aload ok d0_43 rfl rfl ?_
    refine w_virtV ok (argsL := []) (rest := []) (hw _ (List.mem_of_getElem? (i := 12) rfl)) (hw _ (List.mem_of_getElem? (i := 13) rfl)) (hw _ (List.mem_of_getElem? (i := 15) rfl)) (hw _ (List.mem_of_getElem? (i := 14) rfl)) (hw _ (List.mem_of_getElem? (i := 3) rfl)) (hw _ (List.mem_of_getElem? (i := 16) rfl)) A2 (by decide) (rmN l Z a0 hw n0 b2 q hc2 Z0 gn_b2 A2 F_b2_state) d0_45 (lenOf pd___J rfl) rfl rfl (Nat.le_of_ble_eq_true rfl) (Nat.le_of_ble_eq_true rfl) (k' := 2) (n' := 2) rfl rfl (Nat.le_of_ble_eq_true rfl) (Nat.le_of_ble_eq_true rfl) ?_
    rintro _ hn3 ⟨rfl, Kc, A2, F_b2_state⟩
    have A1 := A1.keep Kc
    have F_b1_state := F_b1_state.keep Kc (ninS ne_b1_b2 nin0)
    have Z0 := Nat.le_trans Z0 Kc.1
    refine w_lstore ok (Ls' := #[.val (.long q), .second, .val (.long xv), .second, .val (.int kv), .val (.long b), .second, .val (.ref b1), .val (.ref b2), .val (.long (own_mix (q + (-7046029254386353131 : Int64)))), .second, .unset, .unset, .unset, .unset, .unset, .unset, .unset, .unset, .unset, .unset, .unset, .unset]) d0_48 rfl ?_
    refine w_aload ok d0_50 rfl rfl ?_
    refine w_virtV ok (argsL := []) (rest := []) (hw _ (List.mem_of_getElem? (i := 12) rfl)) (hw _ (List.mem_of_getElem? (i := 13) rfl)) (hw _ (List.mem_of_getElem? (i := 15) rfl)) (hw _ (List.mem_of_getElem? (i := 14) rfl)) (hw _ (List.mem_of_getElem? (i := 3) rfl)) (hw _ (List.mem_of_getElem? (i := 16) rfl)) A2 (by decide) (rmN l Z a0 hw n0 b2 (q + (-7046029254386353131 : Int64)) hn3 Z0 gn_b2 A2 F_b2_state) d0_52 (lenOf pd___J rfl) rfl rfl (Nat.le_of_ble_eq_true rfl) (Nat.le_of_ble_eq_true rfl) (k' := 2) (n' := 2) rfl rfl (Nat.le_of_ble_eq_true rfl) (Nat.le_of_ble_eq_true rfl) ?_
    rintro _ hn4 ⟨rfl, Kc, A2, F_b2_state⟩
    have A1 := A1.keep Kc
    have F_b1_state := F_b1_state.keep Kc (ninS ne_b1_b2 nin0)
    have Z0 := Nat.le_trans Z0 Kc.1
    refine w_lstore ok (Ls' := #[.val (.long q), .second, .val (.long xv), .second, .val (.int kv), .val (.long b), .second, .val (.ref b1), .val (.ref b2), .val (.long (own_mix (q + (-7046029254386353131 : Int64)))), .second, .val (.long (own_mix ((q + (-7046029254386353131 : Int64)) + (-7046029254386353131 : Int64)))), .second, .unset, .unset, .unset, .unset, .unset, .unset, .unset, .unset, .unset, .unset]) d0_55 rfl ?_
    refine w_aload ok d0_57 rfl rfl ?_
    refine w_virtV ok (argsL := []) (rest := []) (hw _ (List.mem_of_getElem? (i := 12) rfl)) (hw _ (List.mem_of_getElem? (i := 13) rfl)) (hw _ (List.mem_of_getElem? (i := 15) rfl)) (hw _ (List.mem_of_getElem? (i := 14) rfl)) (hw _ (List.mem_of_getElem? (i := 3) rfl)) (hw _ (List.mem_of_getElem? (i := 16) rfl)) A2 (by decide) (rmN l Z a0 hw n0 b2 ((q + (-7046029254386353131 : Int64)) + (-7046029254386353131 : Int64)) hn4 Z0 gn_b2 A2 F_b2_state) d0_59 (lenOf pd___J rfl) rfl rfl (Nat.le_of_ble_eq_true rfl) (Nat.le_of_ble_eq_true rfl) (k' := 2) (n' := 2) rfl rfl (Nat.le_of_ble_eq_true rfl) (Nat.le_of_ble_eq_true rfl) ?_
    rintro _ hn5 ⟨rfl, Kc, A2, F_b2_state⟩
    have A1 := A1.keep Kc
    have F_b1_state := F_b1_state.keep Kc (ninS ne_b1_b2 nin0)
    have Z0 := Nat.le_trans Z0 Kc.1
    refine w_lstore ok (Ls' := #[.val (.long q), .second, .val (.long xv), .second, .val (.int kv), .val (.long b), .second, .val (.ref b1), .val (.ref b2), .val (.long (own_mix (q + (-7046029254386353131 : Int64)))), .second, .val (.long (own_mix ((q + (-7046029254386353131 : Int64)) + (-7046029254386353131 : Int64)))), .second, .val (.long (own_mix (((q + (-7046029254386353131 : Int64)) + (-7046029254386353131 : Int64)) + (-7046029254386353131 : Int64)))), .second, .unset, .unset, .unset, .unset, .unset, .unset, .unset, .unset]) d0_62 rfl ?_
    refine w_aload ok d0_64 rfl rfl ?_
    refine w_lload ok d0_66 rfl ?_
    refine w_virtV ok (argsL := [(.long b)]) (rest := []) (hw _ (List.mem_of_getElem? (i := 20) rfl)) (hw _ (List.mem_of_getElem? (i := 21) rfl)) (hw _ (List.mem_of_getElem? (i := 23) rfl)) (hw _ (List.mem_of_getElem? (i := 22) rfl)) (hw _ (List.mem_of_getElem? (i := 3) rfl)) (hw _ (List.mem_of_getElem? (i := 24) rfl)) A1 (by decide) (rmB l Z a0 hw n0 b1 q b hn5 Z0 gn_b1 A1 F_b1_state hb hb0) d0_68 (lenOf pd__J_J rfl) rfl rfl (Nat.le_of_ble_eq_true rfl) (Nat.le_of_ble_eq_true rfl) (k' := 2) (n' := 2) rfl rfl (Nat.le_of_ble_eq_true rfl) (Nat.le_of_ble_eq_true rfl) ?_
    rintro _ hB ⟨r, s1, rfl, Kc, A1, F_b1_state, ⟨hr0, hr1⟩, hp1, hp2⟩
    have A2 := A2.keep Kc
    have F_b2_state := F_b2_state.keep Kc (ninS (Ne.symm ne_b1_b2) nin0)
    have Z0 := Nat.le_trans Z0 Kc.1
    refine w_lstore ok (Ls' := #[.val (.long q), .second, .val (.long xv), .second, .val (.int kv), .val (.long b), .second, .val (.ref b1), .val (.ref b2), .val (.long (own_mix (q + (-7046029254386353131 : Int64)))), .second, .val (.long (own_mix ((q + (-7046029254386353131 : Int64)) + (-7046029254386353131 : Int64)))), .second, .val (.long (own_mix (((q + (-7046029254386353131 : Int64)) + (-7046029254386353131 : Int64)) + (-7046029254386353131 : Int64)))), .second, .val (.long r), .second, .unset, .unset, .unset, .unset, .unset, .unset]) d0_71 rfl ?_
    refine w_aload ok d0_73 rfl rfl ?_
    refine w_virtV ok (argsL := []) (rest := []) (hw _ (List.mem_of_getElem? (i := 12) rfl)) (hw _ (List.mem_of_getElem? (i := 13) rfl)) (hw _ (List.mem_of_getElem? (i := 15) rfl)) (hw _ (List.mem_of_getElem? (i := 14) rfl)) (hw _ (List.mem_of_getElem? (i := 3) rfl)) (hw _ (List.mem_of_getElem? (i := 16) rfl)) A1 (by decide) (rmN l Z a0 hw n0 b1 s1 hB Z0 gn_b1 A1 F_b1_state) d0_75 (lenOf pd___J rfl) rfl rfl (Nat.le_of_ble_eq_true rfl) (Nat.le_of_ble_eq_true rfl) (k' := 2) (n' := 2) rfl rfl (Nat.le_of_ble_eq_true rfl) (Nat.le_of_ble_eq_true rfl) ?_
    rintro _ hn6 ⟨rfl, Kc, A1, F_b1_state⟩
    have A2 := A2.keep Kc
    have F_b2_state := F_b2_state.keep Kc (ninS (Ne.symm ne_b1_b2) nin0)
    have Z0 := Nat.le_trans Z0 Kc.1
    refine w_lstore ok (Ls' := #[.val (.long q), .second, .val (.long xv), .second, .val (.int kv), .val (.long b), .second, .val (.ref b1), .val (.ref b2), .val (.long (own_mix (q + (-7046029254386353131 : Int64)))), .second, .val (.long (own_mix ((q + (-7046029254386353131 : Int64)) + (-7046029254386353131 : Int64)))), .second, .val (.long (own_mix (((q + (-7046029254386353131 : Int64)) + (-7046029254386353131 : Int64)) + (-7046029254386353131 : Int64)))), .second, .val (.long r), .second, .val (.long (own_mix (s1 + (-7046029254386353131 : Int64)))), .second, .unset, .unset, .unset, .unset]) d0_78 rfl ?_
    refine w_lload ok d0_80 rfl ?_
    refine w_lconst ok (z := 0) d0_82 rfl ?_
    refine w_lc_lt ok d0_83 d0_84 (fun e0 => ?_) (fun e0 => ?_)
    · exact absurd e0 (own_not_neg hr0)
    · refine w_lload ok d0_87 rfl ?_
      refine w_lload ok d0_89 rfl ?_
      refine w_lc_lt ok d0_91 d0_92 (fun e1 => ?_) (fun e1 => ?_)
      · refine w_lload ok d0_97 rfl ?_
        refine w_iconst ok (z := 1) d0_99 rfl ?_
        refine w_lushr ok d0_100 ?_
        refine w_lstore ok (Ls' := #[.val (.long q), .second, .val (.long xv), .second, .val (.int kv), .val (.long b), .second, .val (.ref b1), .val (.ref b2), .val (.long (own_mix (q + (-7046029254386353131 : Int64)))), .second, .val (.long (own_mix ((q + (-7046029254386353131 : Int64)) + (-7046029254386353131 : Int64)))), .second, .val (.long (own_mix (((q + (-7046029254386353131 : Int64)) + (-7046029254386353131 : Int64)) + (-7046029254386353131 : Int64)))), .second, .val (.long r), .second, .val (.long (own_mix (s1 + (-7046029254386353131 : Int64)))), .second, .val (.long (((own_mix (q + (-7046029254386353131 : Int64))).toUInt64 >>> ((1 : Int32) &&& 0x3f).toInt64.toUInt64).toInt64)), .second, .unset, .unset]) d0_101 rfl ?_
        show Wp l room_1 n0 K (fun v h' => ∃ w, v = some w ∧ w = .int 1) hn6 2 2 103 #[.val (.long q), .second, .val (.long xv), .second, .val (.int kv), .val (.long b), .second, .val (.ref b1), .val (.ref b2), .val (.long (own_mix (q + (-7046029254386353131 : Int64)))), .second, .val (.long (own_mix ((q + (-7046029254386353131 : Int64)) + (-7046029254386353131 : Int64)))), .second, .val (.long (own_mix (((q + (-7046029254386353131 : Int64)) + (-7046029254386353131 : Int64)) + (-7046029254386353131 : Int64)))), .second, .val (.long r), .second, .val (.long (own_mix (s1 + (-7046029254386353131 : Int64)))), .second, .val (.long (own_hd (q + (-7046029254386353131 : Int64)))), .second, .unset, .unset] []
        refine w_lload ok d0_103 rfl ?_
        refine w_iconst ok (z := 1) d0_105 rfl ?_
        refine w_lushr ok d0_106 ?_
        refine w_lstore ok (Ls' := #[.val (.long q), .second, .val (.long xv), .second, .val (.int kv), .val (.long b), .second, .val (.ref b1), .val (.ref b2), .val (.long (own_mix (q + (-7046029254386353131 : Int64)))), .second, .val (.long (own_mix ((q + (-7046029254386353131 : Int64)) + (-7046029254386353131 : Int64)))), .second, .val (.long (own_mix (((q + (-7046029254386353131 : Int64)) + (-7046029254386353131 : Int64)) + (-7046029254386353131 : Int64)))), .second, .val (.long r), .second, .val (.long (own_mix (s1 + (-7046029254386353131 : Int64)))), .second, .val (.long (own_hd (q + (-7046029254386353131 : Int64)))), .second, .val (.long (((own_mix ((q + (-7046029254386353131 : Int64)) + (-7046029254386353131 : Int64))).toUInt64 >>> ((1 : Int32) &&& 0x3f).toInt64.toUInt64).toInt64)), .second]) d0_107 rfl ?_
        show Wp l room_1 n0 K (fun v h' => ∃ w, v = some w ∧ w = .int 1) hn6 2 2 109 #[.val (.long q), .second, .val (.long xv), .second, .val (.int kv), .val (.long b), .second, .val (.ref b1), .val (.ref b2), .val (.long (own_mix (q + (-7046029254386353131 : Int64)))), .second, .val (.long (own_mix ((q + (-7046029254386353131 : Int64)) + (-7046029254386353131 : Int64)))), .second, .val (.long (own_mix (((q + (-7046029254386353131 : Int64)) + (-7046029254386353131 : Int64)) + (-7046029254386353131 : Int64)))), .second, .val (.long r), .second, .val (.long (own_mix (s1 + (-7046029254386353131 : Int64)))), .second, .val (.long (own_hd (q + (-7046029254386353131 : Int64)))), .second, .val (.long (own_hd (q + (-7046029254386353131 : Int64) + (-7046029254386353131 : Int64)))), .second] []
        refine w_lload ok d0_109 rfl ?_
        refine w_lload ok d0_111 rfl ?_
        refine w_callSV ok (argsL := [(.long (own_hd (q + (-7046029254386353131 : Int64)))), (.long b)]) (rest := []) (hw _ (List.mem_of_getElem? (i := 27) rfl)) (hw _ (List.mem_of_getElem? (i := 28) rfl)) (hw _ (List.mem_of_getElem? (i := 29) rfl)) (hw _ (List.mem_of_getElem? (i := 30) rfl)) (by decide) (rmF l Z a0 hw n0 _ b _ hb0) d0_113 (lenOf pd__JJ_Z rfl) rfl rfl (Nat.le_of_ble_eq_true rfl) (Nat.le_of_ble_eq_true rfl) (k' := 2) (n' := 2) rfl rfl (Nat.le_of_ble_eq_true rfl) (Nat.le_of_ble_eq_true rfl) ?_
        rintro _ _ ⟨rfl, rfl⟩
        refine w_if_eq ok d0_116 (fun f0 => ?_) (fun f0 => ?_)
        · refine w_lload ok d0_144 rfl ?_
          refine w_lload ok d0_146 rfl ?_
          refine w_callSV ok (argsL := [(.long (own_hd (q + (-7046029254386353131 : Int64) + (-7046029254386353131 : Int64)))), (.long b)]) (rest := []) (hw _ (List.mem_of_getElem? (i := 27) rfl)) (hw _ (List.mem_of_getElem? (i := 28) rfl)) (hw _ (List.mem_of_getElem? (i := 29) rfl)) (hw _ (List.mem_of_getElem? (i := 30) rfl)) (by decide) (rmF l Z a0 hw n0 _ b _ hb0) d0_148 (lenOf pd__JJ_Z rfl) rfl rfl (Nat.le_of_ble_eq_true rfl) (Nat.le_of_ble_eq_true rfl) (k' := 2) (n' := 2) rfl rfl (Nat.le_of_ble_eq_true rfl) (Nat.le_of_ble_eq_true rfl) ?_
          rintro _ _ ⟨rfl, rfl⟩
          refine w_if_eq ok d0_151 (fun f1 => ?_) (fun f1 => ?_)
          · refine w_iconst ok (z := 1) d0_179 rfl ?_
            refine w_ireturnN ok (by simp) d0_180 (Nat.le_of_ble_eq_true rfl) (Nat.le_of_ble_eq_true rfl) ?_
            exact ⟨_, rfl, rfl⟩
          · obtain ⟨hr, rfl⟩ := hp2 (own_fits_no hb (own_hd_nonneg _) f0) (own_fits_yes hb (own_hd_nonneg _) f1)
            refine w_lload ok d0_154 rfl ?_
            refine w_lload ok d0_156 rfl ?_
            refine w_lload ok d0_158 rfl ?_
            refine w_lrem ok d0_160 hb0 ?_
            refine w_lc_ne ok d0_161 d0_162 (fun e => ?_) (fun e => ?_)
            · exact absurd hr e
            · refine w_lload ok d0_165 rfl ?_
              refine w_lload ok d0_167 rfl ?_
              refine w_lc_ne ok d0_169 d0_170 (fun e2 => ?_) (fun e2 => ?_)
              · exact absurd rfl e2
              · refine w_iconst ok (z := 1) d0_173 rfl ?_
                refine w_goto ok d0_174 ?_
                refine w_ireturnN ok (by simp) d0_178 (Nat.le_of_ble_eq_true rfl) (Nat.le_of_ble_eq_true rfl) ?_
                exact ⟨_, rfl, rfl⟩
        · obtain ⟨hr, rfl⟩ := hp1 (own_fits_yes hb (own_hd_nonneg _) f0)
          refine w_lload ok d0_119 rfl ?_
          refine w_lload ok d0_121 rfl ?_
          refine w_lload ok d0_123 rfl ?_
          refine w_lrem ok d0_125 hb0 ?_
          refine w_lc_ne ok d0_126 d0_127 (fun e => ?_) (fun e => ?_)
          · exact absurd hr e
          · refine w_lload ok d0_130 rfl ?_
            refine w_lload ok d0_132 rfl ?_
            refine w_lc_ne ok d0_134 d0_135 (fun e2 => ?_) (fun e2 => ?_)
            · exact absurd rfl e2
            · refine w_iconst ok (z := 1) d0_138 rfl ?_
              refine w_goto ok d0_139 ?_
              refine w_ireturnN ok (by simp) d0_143 (Nat.le_of_ble_eq_true rfl) (Nat.le_of_ble_eq_true rfl) ?_
              exact ⟨_, rfl, rfl⟩
      · exact absurd hr1 e1
  refine w_lc_ne ok d0_16 d0_17 (fun e => ?_) (fun e => ?_)
  · exact J23 _ (own_bound_pos e)
  · refine w_lconst ok (z := 1) d0_20 rfl ?_
    refine w_lstore ok (Ls' := #[.val (.long q), .second, .val (.long xv), .second, .val (.int kv), .val (.long (1 : Int64)), .second, .unset, .unset, .unset, .unset, .unset, .unset, .unset, .unset, .unset, .unset, .unset, .unset, .unset, .unset, .unset, .unset]) d0_21 rfl ?_
    exact J23 _ (by decide)
set_option maxRecDepth 65536 in
set_option maxHeartbeats 4000000 in
theorem comes_1 {Post : Tables → Env → Array Value → State → Outcome → State → Prop} (hpost : ∀ tb e args s v u, (limb_1_1.after args s (.returned v) u = true ∧ limb_1_2.after args s (.returned v) u = true ∧ True) → FrameEnd s (.returned v) u (Jvm.fieldLocs frame_1_writes args s ++ Jvm.arrayLocs frame_1_arrays args s ++ Jvm.staticLocs frame_1_statics s) 16 128 → Post tb e args s (.returned v) u) :
    ArmFor flags0 classFile x code maxLocals ret World_1 tables_1 room_1 Calls_1 rest_1 Pre_1 Post := by
  intro l hfl _ _ p e ha hc hk s m args below hf hA hF happ hP
  obtain ⟨hcalls, hrest, hpre⟩ := hP
  obtain ⟨-, -, -, hnamed, -, -, -, hat⟩ := (Spec.applies_iff hf).mp happ
  obtain ⟨hg, hn⟩ := and_e (Cond.before_iff.mp (show (Jvm.Cond.and given_1 narrow_1).before args s = true from hpre))
  obtain ⟨hct, hg0⟩ := and_e hg
  obtain ⟨hk0, hg1⟩ := and_e hg0
  obtain ⟨hk1, hg2⟩ := and_e hg1
  have hk2 := hg2
  obtain ⟨w0, w1, w2, rfl⟩ : ∃ w0 w1 w2 : Value, args = #[w0, w1, w2] := by
    have hs : args.size = 3 := by simpa [Cond.value, given_1] using hct
    obtain ⟨L⟩ := args
    match L, hs with
    | [w0, w1, w2], _ => exact ⟨w0, w1, w2, rfl⟩
  have hw := fun d (hd : d ∈ tables_1) => atoms_spec (ws := Jvm.Cond.code x code maxLocals ret :: tables_1) hat d (List.mem_cons_of_mem _ hd)
  obtain ⟨i0, ei0⟩ := isL_v hk0
  obtain rfl : w0 = (.long i0) := Option.some.inj ei0
  obtain ⟨i1, ei1⟩ := isL_v hk1
  obtain rfl : w1 = (.long i1) := Option.some.inj ei1
  obtain ⟨i2, ei2⟩ := is_v hk2
  obtain rfl : w2 = (.int i2) := Option.some.inj ei2
  obtain ⟨n, o, h1, h2, h3, _, L, rfl, ⟨⟨_, rfl, rfl⟩, N⟩, hq⟩ := rm0 l s _ hw s.heap.size i0 i1 i2 s.heap (Nat.le_refl _) p e ha hc hk s m _ below hf ((Spec.applies_iff_loose hf).mp happ).1 ⟨rfl, State.Warmed39.refl s, rfl⟩ trivial
  refine ⟨n, _, h1, h2, h3, hpost _ _ _ _ _ _ ⟨Cond.after_iff.mpr rfl, Cond.after_iff.mpr (eq_i res_at (Term.int_eval (1)) rfl), trivial⟩ ⟨hq.1, hq.2.1, (hq.2.2.sift fun y hy => Or.inr (N y hy)).mono (by decide) (by decide)⟩⟩
theorem main_1_1 : Claimed_1_1 := comes_1 fun _ _ _ _ _ _ h hF => ⟨h.1, hF⟩
theorem main_1_2 : Claimed_1_2 := comes_1 fun _ _ _ _ _ _ h hF => ⟨h.2.1, hF⟩
end Jvm.Pilot.@@N@@
namespace Jvm.Pilot.@@N@@
open Jvm Jvm.ClassFile Sem Op Lib Jvm.Free Jvm.Stand Jvm.Pilot.@@N@@.Jvm.D
/-! MADE BY PROGRAM (witnessworld.py) out of the Statement's table words and the real class files: 9 classes; the members and pool entries that the words name. The judged class is class 1, her method 1. -/
namespace start1
open Jvm.ClassFile
def u (s : String) : CpInfo := .utf8 (stringToUtf16 s)
/-- a pool by its gaps: so many unusable entries, then the entry; so many at the end -/
def gap : Nat → List CpInfo → List CpInfo
  | 0, r => r
  | n + 1, r => .unusable :: gap n r
def poolList (es : List (Nat × CpInfo)) (last : Nat) : List CpInfo := es.foldr (fun e r => gap e.1 (e.2 :: r)) (gap last [])
def pool (es : List (Nat × CpInfo)) (last : Nat) : Array CpInfo := ⟨poolList es last⟩
def fileOf (pool : Array CpInfo) (this : Nat) (attrs : Array Attribute := #[]) (ms : Array MethodInfo := #[]) (fl : Nat := 33) (sup : Nat := 0) (ifs : Array Nat := #[]) (fds : Array FieldInfo := #[]) : ClassFile where
  minorVersion := 0
  majorVersion := 65
  constantPool := pool
  accessFlags := fl
  thisClass := this
  superClass := sup
  interfaces := ifs
  fields := fds
  methods := ms
  attributes := attrs
def plain (name : String) (sup : Option ClassId) : Class where
  name := name
  kind := .ordinary
  loader := none
  accessFlags := 33
  super := sup
  interfaces := #[]
  cf := none
  fields := #[]
  methods := #[]
  instanceTypes := #[]
  staticTypes := #[]
  resolved := #[]
  callSites := []
  init := .initialized
  statics := none
  mirror := none

def pool0 : Array CpInfo := pool [(5, u "<init>"), (0, u "()V"), (1, .class_ 10), (1, u "java/lang/Object")] 113

def k0c0 : Code := { maxStack := 0, maxLocals := 1, code := object_method_1_code, exceptionTable := #[], attributes := #[] }
def k0m0 : Method := { name := "<init>", desc := "()V", sig := { parameters := [], returnType := none }, accessFlags := 1, code := some k0c0 }
/-- java/lang/Object -/
def k0 : Class := { plain "java/lang/Object" none with
  accessFlags := 33
  interfaces := #[]
  cf := some (fileOf pool0 8 #[] #[{ accessFlags := 1, nameIndex := 5, descriptorIndex := 6, attributes := #[] }] 33 0 #[] #[])
  fields := #[]
  methods := #[k0m0]
  instanceTypes := #[]
  staticTypes := #[]
  resolved := Array.replicate 124 none
  statics := none }

def pool1 : Array CpInfo := pool [(2, .class_ 4), (1, u "java/lang/Object"), (0, u "<init>"), (0, u "()V"), (2, .long 9223372036854775807), (1, .class_ 12), (0, u "com/example/lodestake/lodestake/cli/SeededRandom"), (0, .methodref 11 14), (0, .nameAndType 5 15), (0, u "(J)V"), (0, .methodref 11 17), (0, .nameAndType 18 19), (0, u "nextLong"), (0, u "()J"), (0, .methodref 11 21), (0, .nameAndType 22 23), (0, u "below"), (0, u "(J)J"), (0, .methodref 25 26), (0, .class_ 27), (0, .nameAndType 28 29), (0, u "com/example/lodestake/lodestake/cli/SeededRandomBelowPinLaw"), (0, u "fits"), (0, u "(JJ)Z"), (2, u "law"), (0, u "(JJI)Z")] 3

def k1m0 : Method := { name := "<init>", desc := "()V", sig := { parameters := [], returnType := none }, accessFlags := 1, code := none }
def k1c1 : Code := { maxStack := 6, maxLocals := 23, code := code, exceptionTable := #[], attributes := #[] }
def k1m1 : Method := { name := "law", desc := "(JJI)Z", sig := { parameters := [.long, .long, .int], returnType := some .boolean }, accessFlags := 9, code := some k1c1 }
def k1c2 : Code := { maxStack := 6, maxLocals := 4, code := method_3_code, exceptionTable := #[], attributes := #[] }
def k1m2 : Method := { name := "fits", desc := "(JJ)Z", sig := { parameters := [.long, .long], returnType := some .boolean }, accessFlags := 10, code := some k1c2 }
/-- com/example/lodestake/lodestake/cli/SeededRandomBelowPinLaw -/
def k1 : Class := { plain "com/example/lodestake/lodestake/cli/SeededRandomBelowPinLaw" (some 0) with
  accessFlags := 49
  interfaces := #[]
  cf := some (fileOf pool1 25 #[] #[{ accessFlags := 1, nameIndex := 5, descriptorIndex := 6, attributes := #[] }, { accessFlags := 9, nameIndex := 32, descriptorIndex := 33, attributes := #[] }, { accessFlags := 10, nameIndex := 28, descriptorIndex := 29, attributes := #[] }] 49 2 #[] #[])
  fields := #[]
  methods := #[k1m0, k1m1, k1m2]
  instanceTypes := #[]
  staticTypes := #[]
  resolved := Array.replicate 37 none
  statics := none }

def pool2 : Array CpInfo := pool [(1, .methodref 2 3), (0, .class_ 4), (0, .nameAndType 5 6), (0, u "java/lang/Object"), (0, u "<init>"), (0, u "()V"), (0, .fieldref 8 9), (0, .class_ 10), (0, .nameAndType 11 12), (0, u "com/example/lodestake/lodestake/cli/SeededRandom"), (0, u "state"), (0, u "J"), (0, .long 11400714819323198485), (1, .long 13787848793156543929), (1, .long 10723151780598845931), (12, .long 9223372036854775807), (1, .methodref 8 33), (0, .nameAndType 34 35), (0, u "nextLong"), (0, u "()J"), (0, u "GOLDEN_GAMMA"), (1, u "(J)V"), (2, u "below"), (0, u "(J)J")] 18

def k2c0 : Code := { maxStack := 3, maxLocals := 3, code := prog_10_method_1_code, exceptionTable := #[], attributes := #[] }
def k2m0 : Method := { name := "<init>", desc := "(J)V", sig := { parameters := [.long], returnType := none }, accessFlags := 0, code := some k2c0 }
def k2c1 : Code := { maxStack := 5, maxLocals := 3, code := prog_10_method_2_code, exceptionTable := #[], attributes := #[] }
def k2m1 : Method := { name := "nextLong", desc := "()J", sig := { parameters := [], returnType := some .long }, accessFlags := 0, code := some k2c1 }
def k2c2 : Code := { maxStack := 6, maxLocals := 7, code := prog_10_method_3_code, exceptionTable := #[], attributes := #[] }
def k2m2 : Method := { name := "below", desc := "(J)J", sig := { parameters := [.long], returnType := some .long }, accessFlags := 0, code := some k2c2 }
/-- com/example/lodestake/lodestake/cli/SeededRandom -/
def k2 : Class := { plain "com/example/lodestake/lodestake/cli/SeededRandom" (some 0) with
  accessFlags := 48
  interfaces := #[]
  cf := some (fileOf pool2 8 #[] #[{ accessFlags := 0, nameIndex := 5, descriptorIndex := 38, attributes := #[] }, { accessFlags := 0, nameIndex := 34, descriptorIndex := 35, attributes := #[] }, { accessFlags := 0, nameIndex := 41, descriptorIndex := 42, attributes := #[] }] 48 2 #[] #[{ accessFlags := 26, nameIndex := 36, descriptorIndex := 12, attributes := #[] }, { accessFlags := 2, nameIndex := 11, descriptorIndex := 12, attributes := #[] }])
  fields := #[{ name := "GOLDEN_GAMMA", type := .long, accessFlags := 26, slot := 0, constantValue := 0 }, { name := "state", type := .long, accessFlags := 2, slot := 0, constantValue := 0 }]
  methods := #[k2m0, k2m1, k2m2]
  instanceTypes := #[.long]
  staticTypes := #[.long]
  resolved := Array.replicate 61 none
  statics := none }

def pool3 : Array CpInfo := pool [(1, u "java/lang/Cloneable"), (0, .class_ 1), (0, u "java/lang/Object"), (0, .class_ 3)] 3

/-- java/lang/Cloneable -/
def k3 : Class := { plain "java/lang/Cloneable" (some 0) with
  accessFlags := 1537
  interfaces := #[]
  cf := some (fileOf pool3 2 #[] #[] 1537 4 #[] #[])
  fields := #[]
  methods := #[]
  instanceTypes := #[]
  staticTypes := #[]
  resolved := Array.replicate 8 none
  statics := none }

def pool4 : Array CpInfo := pool [(1, u "java/io/Serializable"), (0, .class_ 1), (0, u "java/lang/Object"), (0, .class_ 3)] 3

/-- java/io/Serializable -/
def k4 : Class := { plain "java/io/Serializable" (some 0) with
  accessFlags := 1537
  interfaces := #[]
  cf := some (fileOf pool4 2 #[] #[] 1537 4 #[] #[])
  fields := #[]
  methods := #[]
  instanceTypes := #[]
  staticTypes := #[]
  resolved := Array.replicate 8 none
  statics := none }

/-- the primitive byte -/
def k5 : Class := { plain "byte" none with kind := .primitive 'B', accessFlags := 0x411 }
/-- [B -/
def k6 : Class := { plain "[B" (some 0) with kind := .array 5 .byte, interfaces := #[3, 4], accessFlags := 1041 }

/-- the primitive int -/
def k7 : Class := { plain "int" none with kind := .primitive 'I', accessFlags := 0x411 }
/-- [I -/
def k8 : Class := { plain "[I" (some 0) with kind := .array 7 .int, interfaces := #[3, 4], accessFlags := 1041 }

def heap : Heap := #[]
def classes : Array Class := #[k0, k1, k2, k3, k4, k5, k6, k7, k8]
def interned : List (Array UInt16 × Addr) := []
def slotsUsed : Nat := 0
def theMethod : MethodId := ⟨1, 1⟩
def args0 : Array Value := #[.long 2, .long 100, .int 0]
def aboutOver (below : List Frame) : State where
  vm := { classes := classes, interned := interned.toArray }
  heap := heap
  slotsUsed := slotsUsed
  threads := #[{ frames := .invoking theMethod args0 :: below }]
def below0 : List Frame := [.native { method := ⟨0, 0⟩, args := #[] }]
def about1 : State := aboutOver below0
def p0 : Program := .bare "" "" ""
def e0 : Env := launch0.env 0 0 0
theorem w_frames : about1.frames = Frame.invoking theMethod args0 :: below0 := rfl
set_option maxRecDepth 65536 in
theorem w_args : argsFit about1.vm theMethod args0 = true := by decide +kernel
set_option maxRecDepth 65536 in
theorem w_heap : heapFits about1 = true := by decide +kernel
set_option maxRecDepth 65536 in
theorem w_runnable : about1.curStatus? = some .runnable := by decide +kernel
set_option maxRecDepth 65536 in
theorem w_alone : about1.alone = true := by decide +kernel
set_option maxRecDepth 65536 in
theorem w_named : about1.methodNamed? x = some theMethod := by decide +kernel
set_option maxRecDepth 65536 in
theorem w_hears : about1.hears theMethod below0 = true := by decide +kernel
set_option maxRecDepth 65536 in
theorem w_ripe : about1.ripe theMethod args0 below0 = true := by decide +kernel
theorem w_running : about1.status = .running := rfl
set_option maxRecDepth 65536 in
theorem w_room : about1.hasRoom e0.platform room_1 = true :=
  launch0.hasRoom_least _ room_1 (by decide +kernel) (by decide +kernel) (by decide +kernel) (by decide +kernel) (by decide +kernel) (by decide +kernel)
theorem allAtoms_all (ts : List Jvm.Cond) (a : Array Jvm.Value) (st : Jvm.State) : (allAtoms ts).before a st = ts.all (fun c => c.before a st) := by
  induction ts with
  | nil => rfl
  | cons c t ih =>
    show (Jvm.Cond.and c (allAtoms t)).before a st = _
    rw [Jvm.Cond.before_and, ih, List.all_cons]
def words1 : List Jvm.Cond := Jvm.Cond.code x code maxLocals ret :: tables_1
/-- a 'code' word, met by the world's own term for the bytes: nothing is compared byte by byte -/
theorem code_word {y : MethodName} {bytes : ByteArray} {mx : Nat} {rt : Option FieldType} {a : Array Value} {s : State} {m : MethodId} {meth : Method} {c : Code} (h1 : s.methodNamed? y = some m) (h2 : s.vm.method? m = some meth) (h3 : meth.code = some c) (h4 : c.code = bytes)
    (h5 : (c.maxLocals == mx && c.exceptionTable.isEmpty && decide (c.maxStack ≤ mostOperands) && decide (meth.sig.returnType = rt) && !meth.locks && decide (parseMethodDescriptor y.desc = some meth.sig)) = true) : (Jvm.Cond.code y bytes mx rt).before a s = true := by
  simp only [Bool.and_eq_true, beq_iff_eq, Bool.not_eq_true', decide_eq_true_eq] at h5
  obtain ⟨⟨⟨⟨⟨g1, g2⟩, g3⟩, g4⟩, g5⟩, g6⟩ := h5
  simp [Cond.before, Cond.holds, Cond.value, h1, h2, h3, h4, g1, g2, g3, g4, g5, g6]
def isCode : Jvm.Cond → Bool
  | .code _ _ _ _ => true
  | _ => false
theorem all_split {L : List Jvm.Cond} {P : Jvm.Cond → Bool} (h1 : L.all (fun c => isCode c || P c) = true) (h2 : ∀ c ∈ L.filter isCode, P c = true) : L.all P = true := by
  refine List.all_eq_true.mpr fun c hc => ?_
  have h := List.all_eq_true.mp h1 c hc
  rcases Bool.eq_false_or_eq_true (isCode c) with hi | hi
  · exact h2 c (List.mem_filter.mpr ⟨hc, hi⟩)
  · simpa [hi] using h
set_option maxRecDepth 65536 in
theorem w_c0 : (Jvm.Cond.code x code maxLocals ret).before args0 about1 = true := code_word (m := ⟨1, 1⟩) (meth := k1m1) (c := k1c1) (by decide +kernel) rfl rfl rfl (by decide +kernel)
set_option maxRecDepth 65536 in
theorem w_c1 : (Jvm.Cond.code ({ cls := "com/example/lodestake/lodestake/cli/SeededRandom", name := "<init>", desc := "(J)V" } : Jvm.MethodName) prog_10_method_1_code (3 : Nat) (Option.none : Option Jvm.ClassFile.FieldType)).before args0 about1 = true := code_word (m := ⟨2, 0⟩) (meth := k2m0) (c := k2c0) (by decide +kernel) rfl rfl rfl (by decide +kernel)
set_option maxRecDepth 65536 in
theorem w_c2 : (Jvm.Cond.code ({ cls := "java/lang/Object", name := "<init>", desc := "()V" } : Jvm.MethodName) object_method_1_code (1 : Nat) (Option.none : Option Jvm.ClassFile.FieldType)).before args0 about1 = true := code_word (m := ⟨0, 0⟩) (meth := k0m0) (c := k0c0) (by decide +kernel) rfl rfl rfl (by decide +kernel)
set_option maxRecDepth 65536 in
theorem w_c3 : (Jvm.Cond.code ({ cls := "com/example/lodestake/lodestake/cli/SeededRandom", name := "nextLong", desc := "()J" } : Jvm.MethodName) prog_10_method_2_code (3 : Nat) (Option.some Jvm.ClassFile.FieldType.long)).before args0 about1 = true := code_word (m := ⟨2, 1⟩) (meth := k2m1) (c := k2c1) (by decide +kernel) rfl rfl rfl (by decide +kernel)
set_option maxRecDepth 65536 in
theorem w_c4 : (Jvm.Cond.code ({ cls := "com/example/lodestake/lodestake/cli/SeededRandom", name := "below", desc := "(J)J" } : Jvm.MethodName) prog_10_method_3_code (7 : Nat) (Option.some Jvm.ClassFile.FieldType.long)).before args0 about1 = true := code_word (m := ⟨2, 2⟩) (meth := k2m2) (c := k2c2) (by decide +kernel) rfl rfl rfl (by decide +kernel)
set_option maxRecDepth 65536 in
theorem w_c5 : (Jvm.Cond.code ({ cls := "com/example/lodestake/lodestake/cli/SeededRandomBelowPinLaw", name := "fits", desc := "(JJ)Z" } : Jvm.MethodName) method_3_code (4 : Nat) (Option.some Jvm.ClassFile.FieldType.boolean)).before args0 about1 = true := code_word (m := ⟨1, 2⟩) (meth := k1m2) (c := k1c2) (by decide +kernel) rfl rfl rfl (by decide +kernel)
def codes1 : List Jvm.Cond := [Jvm.Cond.code x code maxLocals ret, Jvm.Cond.code ({ cls := "com/example/lodestake/lodestake/cli/SeededRandom", name := "<init>", desc := "(J)V" } : Jvm.MethodName) prog_10_method_1_code (3 : Nat) (Option.none : Option Jvm.ClassFile.FieldType), Jvm.Cond.code ({ cls := "java/lang/Object", name := "<init>", desc := "()V" } : Jvm.MethodName) object_method_1_code (1 : Nat) (Option.none : Option Jvm.ClassFile.FieldType), Jvm.Cond.code ({ cls := "com/example/lodestake/lodestake/cli/SeededRandom", name := "nextLong", desc := "()J" } : Jvm.MethodName) prog_10_method_2_code (3 : Nat) (Option.some Jvm.ClassFile.FieldType.long), Jvm.Cond.code ({ cls := "com/example/lodestake/lodestake/cli/SeededRandom", name := "below", desc := "(J)J" } : Jvm.MethodName) prog_10_method_3_code (7 : Nat) (Option.some Jvm.ClassFile.FieldType.long), Jvm.Cond.code ({ cls := "com/example/lodestake/lodestake/cli/SeededRandomBelowPinLaw", name := "fits", desc := "(JJ)Z" } : Jvm.MethodName) method_3_code (4 : Nat) (Option.some Jvm.ClassFile.FieldType.boolean)]
set_option maxRecDepth 65536 in
theorem codes_eq : words1.filter isCode = codes1 := rfl
theorem w_codes : ∀ c ∈ words1.filter isCode, c.before args0 about1 = true := by
  rw [codes_eq]
  intro c hc
  simp only [codes1, List.mem_cons, List.not_mem_nil, or_false] at hc
  rcases hc with rfl | rfl | rfl | rfl | rfl | rfl
  · exact w_c0
  · exact w_c1
  · exact w_c2
  · exact w_c3
  · exact w_c4
  · exact w_c5
set_option maxRecDepth 65536 in
theorem w_t1 : (words1.take 24).all (fun c => isCode c || c.before args0 about1) = true := by decide +kernel
set_option maxRecDepth 65536 in
theorem w_t2 : (words1.drop 24).all (fun c => isCode c || c.before args0 about1) = true := by decide +kernel
theorem w_tables : (allAtoms (Jvm.Cond.code x code maxLocals ret :: tables_1)).before args0 about1 = true := by
  rw [allAtoms_all]
  show words1.all (fun c => c.before args0 about1) = true
  refine all_split ?_ w_codes
  rw [← List.take_append_drop 24 words1, List.all_append, w_t1, w_t2]
  rfl
set_option maxRecDepth 65536 in
theorem w_case : (Jvm.Cond.and given_1 narrow_1).before args0 about1 = true := by decide +kernel
theorem w_applies : (headSpec (Jvm.Cond.code x code maxLocals ret :: tables_1) room_1).applies x e0.platform about1 = true :=
  (Spec.applies_iff w_frames).mpr ⟨w_running, w_runnable, w_alone, w_named, w_hears, w_ripe, w_room, w_tables⟩
theorem atStart : AtStart classFile x code maxLocals ret World_1 tables_1 room_1 Calls_1 rest_1 Pre_1 launch0 p0 e0 about1 theMethod args0 below0 :=
  ⟨lists_1, trivial, launch0.admits_env _ _ _, launch0.least_env, fairChoices_fair.cas, fairChoices_fair.clock, w_frames, w_args, w_heap, w_applies, trivial, trivial, w_case⟩
end start1
theorem witness_1 : WitnessClaimed_1 := ⟨start1.p0, start1.e0, start1.about1, start1.theMethod, start1.args0, start1.below0, start1.atStart⟩
end Jvm.Pilot.@@N@@
