import JvmDerived
import JvmDerived.Pilot.@@N@@Statement
import JvmDerived.Pilot.@@N@@Code
set_option linter.unusedVariables false
set_option linter.unusedSimpArgs false
namespace Jvm.Own
open Sem ClassFile Op Lib Jvm.Stand Jvm.Free Jvm.LawKit Jvm.RoadKit
/-! A walk, forward: 'Run' says that the invocation's first state reaches this frame. -/
abbrev Cx := Program × Launch × Env × State × MethodId × Array Value × List Frame × Method × Code × State
def RunI (p : Program) (l : Launch) (e : Env) (s : State) (m : MethodId) (args : Array Value) (below : List Frame) (meth : Method) (c : Code) (A : State) (R : Room) (Z : State) (n0 : Nat) (own nm : String) (ret : Option FieldType) (bytes : ByteArray) (mx : Nat) (h : Heap) (cells slots pc : Nat) (L : Array Slot) (S : List Value) : Prop :=
  p.tables.exec = Jvm.exec ∧ c.code = bytes ∧ c.maxLocals = mx ∧ meth.name = nm ∧ meth.sig.returnType = ret ∧ meth.locks = false ∧
    ∃ (vm0 : Vm) (k0 : Nat), s.Since vm0 k0 ∧ k0 ≤ h.size ∧ (s.setVm vm0).vm.findClass own = some m.cls ∧ Z.Warmed39 (s.setVm vm0).vm ∧
    ∃ (T : State) (locs : List Loc), Stand p l e R (s.setVm vm0) m args below meth c T locs cells slots ∧ Fr n0 locs ∧ T.heap = h ∧ ∀ t, Steps p.tables e below (T.setTop (mkF m pc L S)) t → Steps p.tables e below A t
def Run (C : Cx) (R : Room) (Z : State) (n0 : Nat) (own nm : String) (ret : Option FieldType) (bytes : ByteArray) (mx : Nat) (h : Heap) (cells slots pc : Nat) (L : Array Slot) (S : List Value) : Prop :=
  RunI C.1 C.2.1 C.2.2.1 C.2.2.2.1 C.2.2.2.2.1 C.2.2.2.2.2.1 C.2.2.2.2.2.2.1 C.2.2.2.2.2.2.2.1 C.2.2.2.2.2.2.2.2.1 C.2.2.2.2.2.2.2.2.2 R Z n0 own nm ret bytes mx h cells slots pc L S
def FinI (p : Program) (e : Env) (s : State) (below : List Frame) (A : State) (R : Room) (n0 : Nat) (Q : Option Value → Heap → Prop) : Prop :=
  ∃ s₂ o, Steps p.tables e below A s₂ ∧ s₂.status = .running ∧ Ended s₂ below o ∧ ∃ v L, o = .returned v ∧ (Q v s₂.heap ∧ Fr n0 L) ∧ ReturnedEndW s o s₂ L R.cells R.slots
def Fini (C : Cx) (R : Room) (n0 : Nat) (Q : Option Value → Heap → Prop) : Prop := FinI C.1 C.2.2.1 C.2.2.2.1 C.2.2.2.2.2.2.1 C.2.2.2.2.2.2.2.2.2 R n0 Q
/-- a method's contract: called with 'as' at the heap h0 it returns, and Q says what; nothing that stood below n0 is written -/
def Con (Z : State) (n0 : Nat) (y : MethodName) (bytes : ByteArray) (mx : Nat) (ret : Option FieldType) (ws : List Jvm.Cond) (rm : Room) (as : Array Value) (h0 : Heap) (Q : Option Value → Heap → Prop) : Prop :=
  ∀ l : Launch, MetFree l y (head1 (Jvm.Cond.code y bytes mx ret :: ws) rm) (fun a U => a = as ∧ Z.Warmed39 U.vm ∧ U.heap = h0) (fun _ _ _ _ _ => True) (fun _ U o U' => ∃ v L, o = .returned v ∧ (Q v U'.heap ∧ Fr n0 L) ∧ ReturnedEndW U o U' L rm.cells rm.slots)
theorem own_since0 (s : State) : s.Since s.vm 0 := (State.WarmedH.refl s).since 0
theorem Con.intro {Z : State} {n0 : Nat} {y : MethodName} {bytes : ByteArray} {mx : Nat} {ret : Option FieldType} {ws : List Jvm.Cond} {rm : Room} {as : Array Value} {h0 : Heap} {Q : Option Value → Heap → Prop} {L0 : Array Slot}
    (hp : plainFor y = true) (hef : ∀ m, entryFrame m as mx = mkF m 0 L0 []) (body : ∀ C : Cx, Run C rm Z n0 y.cls y.name ret bytes mx h0 0 0 0 L0 [] → Fini C rm n0 Q) : Con Z n0 y bytes mx ret ws rm as h0 Q := by
  intro l
  refine MetFree.of_bodySF hp hisR ?_
  intro p e s m args below meth c s₁ Bd hml0 hP hK
  obtain ⟨rfl, hZ, hh⟩ := hP
  have hown : s.vm.findClass y.cls = some m.cls := findClass_of_methodNamed Bd.named
  have X0 : Stand p l e rm s m args below meth c s₁ [] 0 0 := Stand.of_body Bd
  have e0 : s₁.heap = h0 := by rw [← hh, Bd.state]; rfl
  have k : Run (p, l, e, s, m, args, below, meth, c, s₁.setTop (entryFrame m args mx)) rm Z n0 y.cls y.name ret bytes mx h0 0 0 0 L0 [] :=
    ⟨Bd.exec, Bd.bytes, hml0, (name_of_methodNamed Bd.named Bd.method).1, Bd.returns, Bd.notSynchronized, s.vm, 0, own_since0 s, Nat.zero_le _, hown, hZ, s₁, [], X0, Fr.nil n0, e0, fun t kt => castTop (hef m) kt⟩
  exact body _ k
theorem ac_eq {x y : Value} (q : x = y) : XT.acmp .eq x y = true ∧ XT.acmp .ne x y = false := ⟨decide_eq_true q, decide_eq_false (fun z => z q)⟩
theorem ac_ne {x y : Value} (q : x ≠ y) : XT.acmp .eq x y = false ∧ XT.acmp .ne x y = true := ⟨decide_eq_false q, decide_eq_true q⟩
/-! an array by a function of the place -/
def updV (f : Nat → Value) (i : Nat) (v : Value) : Nat → Value := fun j => if j = i then v else f j
theorem updV_same (f : Nat → Value) (i : Nat) (v : Value) : updV f i v i = v := if_pos rfl
theorem updV_ne {f : Nat → Value} {i j : Nat} {v : Value} (q : j ≠ i) : updV f i v j = f j := if_neg q
def Arf (Z : State) (h : Heap) (a : Addr) (ty : FieldType) (n : Nat) (f : Nat → Value) : Prop := ∃ c : Cell, Arr Z h a c ty ∧ c.slots.size = n ∧ ∀ i, i < n → c.slots[i]? = some (f i)
section Arrays
variable {Z : State} {h h' : Heap} {a b : Addr} {ty : FieldType} {n sl : Nat} {f g : Nat → Value} {v : Value} {ws : List Addr}
theorem Arf.lt (F : Arf Z h a ty n f) : a < h.size := by obtain ⟨c, A, -⟩ := F; exact A.lt
theorem Arf.ext (F : Arf Z h a ty n f) (E : Ext h h') : Arf Z h' a ty n f := by obtain ⟨c, A, r⟩ := F; exact ⟨c, Arr.ext E A, r⟩
theorem Arf.other (F : Arf Z h b ty n f) (W : Wr h h' a sl v) (q : b ≠ a) : Arf Z h' b ty n f := by obtain ⟨c, A, r⟩ := F; exact ⟨c, Arr.other W A q, r⟩
theorem Arf.keep (F : Arf Z h a ty n f) (K : Keep h h' ws) (q : a ∉ ws) : Arf Z h' a ty n f := by obtain ⟨c, A, r⟩ := F; exact ⟨c, ⟨K.2.1 a c A.1 q, A.2⟩, r⟩
theorem Arf.set (F : Arf Z h a ty n f) {i : Nat} (W : Wr h h' a i v) (hi : i < n) : Arf Z h' a ty n (updV f i v) := by
  obtain ⟨c, A, S, H⟩ := F
  refine ⟨_, Arr.same W A, (sz_set _ _ _).trans S, fun j hj => ?_⟩
  by_cases q : j = i
  · subst q
    rw [updV_same]
    have hs : j < c.slots.size := by omega
    simp [Cell.setSlot, hs]
  · rw [updV_ne q]
    simp only [Cell.setSlot]
    rw [Array.getElem?_setIfInBounds_ne (Ne.symm q)]
    exact H j hj
theorem Arf.congr (F : Arf Z h a ty n f) (q : ∀ i, i < n → f i = g i) : Arf Z h a ty n g := by obtain ⟨c, A, S, H⟩ := F; exact ⟨c, A, S, fun i hi => q i hi ▸ H i hi⟩
theorem Sta.keepN {Cn m d : String} (F : Sta Z h Cn m d v) (K : Keep h h' ws) (q : ∀ x ∈ ws, ∀ c : Cell, h[x]? = some c → c.vm.isStatics = false) : Sta Z h' Cn m d v := by
  obtain ⟨cf, i, k, f, st, cell, h1, h2, h3, h4, h5, h6, h7⟩ := F
  refine ⟨cf, i, k, f, st, cell, h1, h2, h3, h4, K.2.1 st cell h5 (fun z => ?_), h6, h7⟩
  rw [q st z cell h5] at h6; cases h6
theorem Exa.nost {Cn : String} (F : Exa Z h a Cn) : ∀ c : Cell, h[a]? = some c → c.vm.isStatics = false := fun c hc => by
  obtain ⟨cell, k, h1, -, -, h4, -⟩ := F
  cases hc.symm.trans h1; exact h4
theorem Arf.nost (F : Arf Z h a ty n f) : ∀ c : Cell, h[a]? = some c → c.vm.isStatics = false := fun c hc => by
  obtain ⟨cell, A, -⟩ := F
  cases hc.symm.trans A.1; exact A.plain
end Arrays
section Steps
variable {C : Cx} {R : Room} {Z : State} {n0 : Nat} {own nm : String} {ret : Option FieldType} {bytes : ByteArray} {mx : Nat} {h : Heap} {cells slots pc : Nat} {L : Array Slot} {S : List Value}

theorem Run.iloadN {k : Fin 4} {v : Int32} (K : Run C R Z n0 own nm ret bytes mx h cells slots pc L S) (hd : decode bytes pc = .ok (.iload_n k, 1)) (hl : L[k.val]? = some (.val (.int v))) : Run C R Z n0 own nm ret bytes mx h cells slots (pc + 1) L (.int v :: S) := by
  obtain ⟨hx, hby, hml, hnm, hrt, hlk, vm0, k0, hS, hk, hown, hZ, T, locs, X, N, eT, st⟩ := K
  exact ⟨hx, hby, hml, hnm, hrt, hlk, vm0, k0, hS, hk, hown, hZ, T, locs, X, N, eT, fun t kt => st t (XS.iloadN X.here hx rfl (hb hby hd) hl kt)⟩
theorem Run.iload {k : Nat} {v : Int32} (K : Run C R Z n0 own nm ret bytes mx h cells slots pc L S) (hd : decode bytes pc = .ok (.iload k, 2)) (hl : L[k]? = some (.val (.int v))) : Run C R Z n0 own nm ret bytes mx h cells slots (pc + 2) L (.int v :: S) := by
  obtain ⟨hx, hby, hml, hnm, hrt, hlk, vm0, k0, hS, hk, hown, hZ, T, locs, X, N, eT, st⟩ := K
  exact ⟨hx, hby, hml, hnm, hrt, hlk, vm0, k0, hS, hk, hown, hZ, T, locs, X, N, eT, fun t kt => st t (XS.iload X.here hx rfl (hb hby hd) hl kt)⟩
theorem Run.lloadN {k : Fin 4} {v : Int64} (K : Run C R Z n0 own nm ret bytes mx h cells slots pc L S) (hd : decode bytes pc = .ok (.lload_n k, 1)) (hl : L[k.val]? = some (.val (.long v))) : Run C R Z n0 own nm ret bytes mx h cells slots (pc + 1) L (.long v :: S) := by
  obtain ⟨hx, hby, hml, hnm, hrt, hlk, vm0, k0, hS, hk, hown, hZ, T, locs, X, N, eT, st⟩ := K
  exact ⟨hx, hby, hml, hnm, hrt, hlk, vm0, k0, hS, hk, hown, hZ, T, locs, X, N, eT, fun t kt => st t (XS.lloadN X.here hx rfl (hb hby hd) hl kt)⟩
theorem Run.lload {k : Nat} {v : Int64} (K : Run C R Z n0 own nm ret bytes mx h cells slots pc L S) (hd : decode bytes pc = .ok (.lload k, 2)) (hl : L[k]? = some (.val (.long v))) : Run C R Z n0 own nm ret bytes mx h cells slots (pc + 2) L (.long v :: S) := by
  obtain ⟨hx, hby, hml, hnm, hrt, hlk, vm0, k0, hS, hk, hown, hZ, T, locs, X, N, eT, st⟩ := K
  exact ⟨hx, hby, hml, hnm, hrt, hlk, vm0, k0, hS, hk, hown, hZ, T, locs, X, N, eT, fun t kt => st t (XS.lload X.here hx rfl (hb hby hd) hl kt)⟩
theorem Run.aloadN {k : Fin 4} {v : Value} (K : Run C R Z n0 own nm ret bytes mx h cells slots pc L S) (hd : decode bytes pc = .ok (.aload_n k, 1)) (hl : L[k.val]? = some (.val v)) (hv : v.isRef = true) : Run C R Z n0 own nm ret bytes mx h cells slots (pc + 1) L (v :: S) := by
  obtain ⟨hx, hby, hml, hnm, hrt, hlk, vm0, k0, hS, hk, hown, hZ, T, locs, X, N, eT, st⟩ := K
  exact ⟨hx, hby, hml, hnm, hrt, hlk, vm0, k0, hS, hk, hown, hZ, T, locs, X, N, eT, fun t kt => st t (XS.aloadN X.here hx rfl (hb hby hd) hl hv kt)⟩
theorem Run.aload {k : Nat} {v : Value} (K : Run C R Z n0 own nm ret bytes mx h cells slots pc L S) (hd : decode bytes pc = .ok (.aload k, 2)) (hl : L[k]? = some (.val v)) (hv : v.isRef = true) : Run C R Z n0 own nm ret bytes mx h cells slots (pc + 2) L (v :: S) := by
  obtain ⟨hx, hby, hml, hnm, hrt, hlk, vm0, k0, hS, hk, hown, hZ, T, locs, X, N, eT, st⟩ := K
  exact ⟨hx, hby, hml, hnm, hrt, hlk, vm0, k0, hS, hk, hown, hZ, T, locs, X, N, eT, fun t kt => st t (XS.aload X.here hx rfl (hb hby hd) hl hv kt)⟩
theorem Run.istoreN {k : Fin 4} {v : Int32} (l' : Array Slot) (K : Run C R Z n0 own nm ret bytes mx h cells slots pc L (.int v :: S)) (hd : decode bytes pc = .ok (.istore_n k, 1)) (hl : storeLocals L k.val (.int v) = some l') : Run C R Z n0 own nm ret bytes mx h cells slots (pc + 1) l' S := by
  obtain ⟨hx, hby, hml, hnm, hrt, hlk, vm0, k0, hS, hk, hown, hZ, T, locs, X, N, eT, st⟩ := K
  exact ⟨hx, hby, hml, hnm, hrt, hlk, vm0, k0, hS, hk, hown, hZ, T, locs, X, N, eT, fun t kt => st t (XS.istoreN X.here hx rfl (hb hby hd) rfl hl kt)⟩
theorem Run.istore {k : Nat} {v : Int32} (l' : Array Slot) (K : Run C R Z n0 own nm ret bytes mx h cells slots pc L (.int v :: S)) (hd : decode bytes pc = .ok (.istore k, 2)) (hl : storeLocals L k (.int v) = some l') : Run C R Z n0 own nm ret bytes mx h cells slots (pc + 2) l' S := by
  obtain ⟨hx, hby, hml, hnm, hrt, hlk, vm0, k0, hS, hk, hown, hZ, T, locs, X, N, eT, st⟩ := K
  exact ⟨hx, hby, hml, hnm, hrt, hlk, vm0, k0, hS, hk, hown, hZ, T, locs, X, N, eT, fun t kt => st t (XS.istore X.here hx rfl (hb hby hd) rfl hl kt)⟩
theorem Run.lstoreN {k : Fin 4} {v : Int64} (l' : Array Slot) (K : Run C R Z n0 own nm ret bytes mx h cells slots pc L (.long v :: S)) (hd : decode bytes pc = .ok (.lstore_n k, 1)) (hl : storeLocals L k.val (.long v) = some l') : Run C R Z n0 own nm ret bytes mx h cells slots (pc + 1) l' S := by
  obtain ⟨hx, hby, hml, hnm, hrt, hlk, vm0, k0, hS, hk, hown, hZ, T, locs, X, N, eT, st⟩ := K
  exact ⟨hx, hby, hml, hnm, hrt, hlk, vm0, k0, hS, hk, hown, hZ, T, locs, X, N, eT, fun t kt => st t (XS.lstoreN X.here hx rfl (hb hby hd) rfl hl kt)⟩
theorem Run.lstore {k : Nat} {v : Int64} (l' : Array Slot) (K : Run C R Z n0 own nm ret bytes mx h cells slots pc L (.long v :: S)) (hd : decode bytes pc = .ok (.lstore k, 2)) (hl : storeLocals L k (.long v) = some l') : Run C R Z n0 own nm ret bytes mx h cells slots (pc + 2) l' S := by
  obtain ⟨hx, hby, hml, hnm, hrt, hlk, vm0, k0, hS, hk, hown, hZ, T, locs, X, N, eT, st⟩ := K
  exact ⟨hx, hby, hml, hnm, hrt, hlk, vm0, k0, hS, hk, hown, hZ, T, locs, X, N, eT, fun t kt => st t (XS.lstore X.here hx rfl (hb hby hd) rfl hl kt)⟩
theorem Run.astoreN {k : Fin 4} {v : Value} (l' : Array Slot) (K : Run C R Z n0 own nm ret bytes mx h cells slots pc L (v :: S)) (hd : decode bytes pc = .ok (.astore_n k, 1)) (hv : v.isRef = true) (hl : storeLocals L k.val v = some l') : Run C R Z n0 own nm ret bytes mx h cells slots (pc + 1) l' S := by
  obtain ⟨hx, hby, hml, hnm, hrt, hlk, vm0, k0, hS, hk, hown, hZ, T, locs, X, N, eT, st⟩ := K
  exact ⟨hx, hby, hml, hnm, hrt, hlk, vm0, k0, hS, hk, hown, hZ, T, locs, X, N, eT, fun t kt => st t (XS.astoreN X.here hx rfl (hb hby hd) rfl hv hl kt)⟩
theorem Run.astore {k : Nat} {v : Value} (l' : Array Slot) (K : Run C R Z n0 own nm ret bytes mx h cells slots pc L (v :: S)) (hd : decode bytes pc = .ok (.astore k, 2)) (hv : v.isRef = true) (hl : storeLocals L k v = some l') : Run C R Z n0 own nm ret bytes mx h cells slots (pc + 2) l' S := by
  obtain ⟨hx, hby, hml, hnm, hrt, hlk, vm0, k0, hS, hk, hown, hZ, T, locs, X, N, eT, st⟩ := K
  exact ⟨hx, hby, hml, hnm, hrt, hlk, vm0, k0, hS, hk, hown, hZ, T, locs, X, N, eT, fun t kt => st t (XS.astore X.here hx rfl (hb hby hd) rfl hv hl kt)⟩
theorem Run.iconst {i : Int} (z : Int32) (K : Run C R Z n0 own nm ret bytes mx h cells slots pc L S) (hd : decode bytes pc = .ok (.iconst i, 1)) (hz : Int32.ofInt i = z) : Run C R Z n0 own nm ret bytes mx h cells slots (pc + 1) L (.int z :: S) := by
  obtain ⟨hx, hby, hml, hnm, hrt, hlk, vm0, k0, hS, hk, hown, hZ, T, locs, X, N, eT, st⟩ := K
  exact ⟨hx, hby, hml, hnm, hrt, hlk, vm0, k0, hS, hk, hown, hZ, T, locs, X, N, eT, fun t kt => st t (XS.iconst X.here hx rfl (hb hby hd) (by rw [hz]; exact kt))⟩
theorem Run.bipush {i : Int} (z : Int32) (K : Run C R Z n0 own nm ret bytes mx h cells slots pc L S) (hd : decode bytes pc = .ok (.bipush i, 2)) (hz : (Int8.ofInt i).toInt32 = z) : Run C R Z n0 own nm ret bytes mx h cells slots (pc + 2) L (.int z :: S) := by
  obtain ⟨hx, hby, hml, hnm, hrt, hlk, vm0, k0, hS, hk, hown, hZ, T, locs, X, N, eT, st⟩ := K
  exact ⟨hx, hby, hml, hnm, hrt, hlk, vm0, k0, hS, hk, hown, hZ, T, locs, X, N, eT, fun t kt => st t (XS.bipush X.here hx rfl (hb hby hd) (by rw [hz]; exact kt))⟩
theorem Run.sipush {i : Int} (z : Int32) (K : Run C R Z n0 own nm ret bytes mx h cells slots pc L S) (hd : decode bytes pc = .ok (.sipush i, 3)) (hz : (Int16.ofInt i).toInt32 = z) : Run C R Z n0 own nm ret bytes mx h cells slots (pc + 3) L (.int z :: S) := by
  obtain ⟨hx, hby, hml, hnm, hrt, hlk, vm0, k0, hS, hk, hown, hZ, T, locs, X, N, eT, st⟩ := K
  exact ⟨hx, hby, hml, hnm, hrt, hlk, vm0, k0, hS, hk, hown, hZ, T, locs, X, N, eT, fun t kt => st t (XS.sipush X.here hx rfl (hb hby hd) (by rw [hz]; exact kt))⟩
theorem Run.lconst {i : Fin 2} (z : Int64) (K : Run C R Z n0 own nm ret bytes mx h cells slots pc L S) (hd : decode bytes pc = .ok (.lconst i, 1)) (hz : Int64.ofNat i = z) : Run C R Z n0 own nm ret bytes mx h cells slots (pc + 1) L (.long z :: S) := by
  obtain ⟨hx, hby, hml, hnm, hrt, hlk, vm0, k0, hS, hk, hown, hZ, T, locs, X, N, eT, st⟩ := K
  exact ⟨hx, hby, hml, hnm, hrt, hlk, vm0, k0, hS, hk, hown, hZ, T, locs, X, N, eT, fun t kt => st t (XS.lconst X.here hx rfl (hb hby hd) (by rw [hz]; exact kt))⟩
theorem Run.aconstNull  (K : Run C R Z n0 own nm ret bytes mx h cells slots pc L S) (hd : decode bytes pc = .ok (.aconst_null, 1))  : Run C R Z n0 own nm ret bytes mx h cells slots (pc + 1) L (.null :: S) := by
  obtain ⟨hx, hby, hml, hnm, hrt, hlk, vm0, k0, hS, hk, hown, hZ, T, locs, X, N, eT, st⟩ := K
  exact ⟨hx, hby, hml, hnm, hrt, hlk, vm0, k0, hS, hk, hown, hZ, T, locs, X, N, eT, fun t kt => st t (XS.aconstNull X.here hx rfl (hb hby hd) kt)⟩
theorem Run.iadd {x y : Int32} (K : Run C R Z n0 own nm ret bytes mx h cells slots pc L (.int y :: .int x :: S)) (hd : decode bytes pc = .ok (.iadd, 1))  : Run C R Z n0 own nm ret bytes mx h cells slots (pc + 1) L (.int (x + y) :: S) := by
  obtain ⟨hx, hby, hml, hnm, hrt, hlk, vm0, k0, hS, hk, hown, hZ, T, locs, X, N, eT, st⟩ := K
  exact ⟨hx, hby, hml, hnm, hrt, hlk, vm0, k0, hS, hk, hown, hZ, T, locs, X, N, eT, fun t kt => st t (XS.iadd X.here hx rfl (hb hby hd) rfl kt)⟩
theorem Run.isub {x y : Int32} (K : Run C R Z n0 own nm ret bytes mx h cells slots pc L (.int y :: .int x :: S)) (hd : decode bytes pc = .ok (.isub, 1))  : Run C R Z n0 own nm ret bytes mx h cells slots (pc + 1) L (.int (x - y) :: S) := by
  obtain ⟨hx, hby, hml, hnm, hrt, hlk, vm0, k0, hS, hk, hown, hZ, T, locs, X, N, eT, st⟩ := K
  exact ⟨hx, hby, hml, hnm, hrt, hlk, vm0, k0, hS, hk, hown, hZ, T, locs, X, N, eT, fun t kt => st t (XS.isub X.here hx rfl (hb hby hd) rfl kt)⟩
theorem Run.imul {x y : Int32} (K : Run C R Z n0 own nm ret bytes mx h cells slots pc L (.int y :: .int x :: S)) (hd : decode bytes pc = .ok (.imul, 1))  : Run C R Z n0 own nm ret bytes mx h cells slots (pc + 1) L (.int (x * y) :: S) := by
  obtain ⟨hx, hby, hml, hnm, hrt, hlk, vm0, k0, hS, hk, hown, hZ, T, locs, X, N, eT, st⟩ := K
  exact ⟨hx, hby, hml, hnm, hrt, hlk, vm0, k0, hS, hk, hown, hZ, T, locs, X, N, eT, fun t kt => st t (XS.imul X.here hx rfl (hb hby hd) rfl kt)⟩
theorem Run.iand {x y : Int32} (K : Run C R Z n0 own nm ret bytes mx h cells slots pc L (.int y :: .int x :: S)) (hd : decode bytes pc = .ok (.iand, 1))  : Run C R Z n0 own nm ret bytes mx h cells slots (pc + 1) L (.int (x &&& y) :: S) := by
  obtain ⟨hx, hby, hml, hnm, hrt, hlk, vm0, k0, hS, hk, hown, hZ, T, locs, X, N, eT, st⟩ := K
  exact ⟨hx, hby, hml, hnm, hrt, hlk, vm0, k0, hS, hk, hown, hZ, T, locs, X, N, eT, fun t kt => st t (XS.iand X.here hx rfl (hb hby hd) rfl kt)⟩
theorem Run.ior {x y : Int32} (K : Run C R Z n0 own nm ret bytes mx h cells slots pc L (.int y :: .int x :: S)) (hd : decode bytes pc = .ok (.ior, 1))  : Run C R Z n0 own nm ret bytes mx h cells slots (pc + 1) L (.int (x ||| y) :: S) := by
  obtain ⟨hx, hby, hml, hnm, hrt, hlk, vm0, k0, hS, hk, hown, hZ, T, locs, X, N, eT, st⟩ := K
  exact ⟨hx, hby, hml, hnm, hrt, hlk, vm0, k0, hS, hk, hown, hZ, T, locs, X, N, eT, fun t kt => st t (XS.ior X.here hx rfl (hb hby hd) rfl kt)⟩
theorem Run.ixor {x y : Int32} (K : Run C R Z n0 own nm ret bytes mx h cells slots pc L (.int y :: .int x :: S)) (hd : decode bytes pc = .ok (.ixor, 1))  : Run C R Z n0 own nm ret bytes mx h cells slots (pc + 1) L (.int (x ^^^ y) :: S) := by
  obtain ⟨hx, hby, hml, hnm, hrt, hlk, vm0, k0, hS, hk, hown, hZ, T, locs, X, N, eT, st⟩ := K
  exact ⟨hx, hby, hml, hnm, hrt, hlk, vm0, k0, hS, hk, hown, hZ, T, locs, X, N, eT, fun t kt => st t (XS.ixor X.here hx rfl (hb hby hd) rfl kt)⟩
theorem Run.ishl {x y : Int32} (K : Run C R Z n0 own nm ret bytes mx h cells slots pc L (.int y :: .int x :: S)) (hd : decode bytes pc = .ok (.ishl, 1))  : Run C R Z n0 own nm ret bytes mx h cells slots (pc + 1) L (.int (x <<< (y &&& 31)) :: S) := by
  obtain ⟨hx, hby, hml, hnm, hrt, hlk, vm0, k0, hS, hk, hown, hZ, T, locs, X, N, eT, st⟩ := K
  exact ⟨hx, hby, hml, hnm, hrt, hlk, vm0, k0, hS, hk, hown, hZ, T, locs, X, N, eT, fun t kt => st t (XS.ishl X.here hx rfl (hb hby hd) rfl kt)⟩
theorem Run.ishr {x y : Int32} (K : Run C R Z n0 own nm ret bytes mx h cells slots pc L (.int y :: .int x :: S)) (hd : decode bytes pc = .ok (.ishr, 1))  : Run C R Z n0 own nm ret bytes mx h cells slots (pc + 1) L (.int (x >>> (y &&& 31)) :: S) := by
  obtain ⟨hx, hby, hml, hnm, hrt, hlk, vm0, k0, hS, hk, hown, hZ, T, locs, X, N, eT, st⟩ := K
  exact ⟨hx, hby, hml, hnm, hrt, hlk, vm0, k0, hS, hk, hown, hZ, T, locs, X, N, eT, fun t kt => st t (XS.ishr X.here hx rfl (hb hby hd) rfl kt)⟩
theorem Run.iushr {x y : Int32} (K : Run C R Z n0 own nm ret bytes mx h cells slots pc L (.int y :: .int x :: S)) (hd : decode bytes pc = .ok (.iushr, 1))  : Run C R Z n0 own nm ret bytes mx h cells slots (pc + 1) L (.int ((x.toUInt32 >>> (y &&& 31).toUInt32).toInt32) :: S) := by
  obtain ⟨hx, hby, hml, hnm, hrt, hlk, vm0, k0, hS, hk, hown, hZ, T, locs, X, N, eT, st⟩ := K
  exact ⟨hx, hby, hml, hnm, hrt, hlk, vm0, k0, hS, hk, hown, hZ, T, locs, X, N, eT, fun t kt => st t (XS.iushr X.here hx rfl (hb hby hd) rfl kt)⟩
theorem Run.irem {x y : Int32} (K : Run C R Z n0 own nm ret bytes mx h cells slots pc L (.int y :: .int x :: S)) (hd : decode bytes pc = .ok (.irem, 1)) (hy : y ≠ 0) : Run C R Z n0 own nm ret bytes mx h cells slots (pc + 1) L (.int (x % y) :: S) := by
  obtain ⟨hx, hby, hml, hnm, hrt, hlk, vm0, k0, hS, hk, hown, hZ, T, locs, X, N, eT, st⟩ := K
  exact ⟨hx, hby, hml, hnm, hrt, hlk, vm0, k0, hS, hk, hown, hZ, T, locs, X, N, eT, fun t kt => st t (iremM X hx rfl (hb hby hd) rfl hy kt)⟩
theorem Run.idiv {x y : Int32} (K : Run C R Z n0 own nm ret bytes mx h cells slots pc L (.int y :: .int x :: S)) (hd : decode bytes pc = .ok (.idiv, 1)) (hy : y ≠ 0) : Run C R Z n0 own nm ret bytes mx h cells slots (pc + 1) L (.int (x / y) :: S) := by
  obtain ⟨hx, hby, hml, hnm, hrt, hlk, vm0, k0, hS, hk, hown, hZ, T, locs, X, N, eT, st⟩ := K
  exact ⟨hx, hby, hml, hnm, hrt, hlk, vm0, k0, hS, hk, hown, hZ, T, locs, X, N, eT, fun t kt => st t (XS.idiv X.here hx rfl (hb hby hd) rfl hy kt)⟩
theorem Run.ineg {x : Int32} (K : Run C R Z n0 own nm ret bytes mx h cells slots pc L (.int x :: S)) (hd : decode bytes pc = .ok (.ineg, 1))  : Run C R Z n0 own nm ret bytes mx h cells slots (pc + 1) L (.int (-x) :: S) := by
  obtain ⟨hx, hby, hml, hnm, hrt, hlk, vm0, k0, hS, hk, hown, hZ, T, locs, X, N, eT, st⟩ := K
  exact ⟨hx, hby, hml, hnm, hrt, hlk, vm0, k0, hS, hk, hown, hZ, T, locs, X, N, eT, fun t kt => st t (XS.ineg X.here hx rfl (hb hby hd) rfl kt)⟩
theorem Run.ladd {x y : Int64} (K : Run C R Z n0 own nm ret bytes mx h cells slots pc L (.long y :: .long x :: S)) (hd : decode bytes pc = .ok (.ladd, 1))  : Run C R Z n0 own nm ret bytes mx h cells slots (pc + 1) L (.long (x + y) :: S) := by
  obtain ⟨hx, hby, hml, hnm, hrt, hlk, vm0, k0, hS, hk, hown, hZ, T, locs, X, N, eT, st⟩ := K
  exact ⟨hx, hby, hml, hnm, hrt, hlk, vm0, k0, hS, hk, hown, hZ, T, locs, X, N, eT, fun t kt => st t (XS.ladd X.here hx rfl (hb hby hd) rfl kt)⟩
theorem Run.lsub {x y : Int64} (K : Run C R Z n0 own nm ret bytes mx h cells slots pc L (.long y :: .long x :: S)) (hd : decode bytes pc = .ok (.lsub, 1))  : Run C R Z n0 own nm ret bytes mx h cells slots (pc + 1) L (.long (x - y) :: S) := by
  obtain ⟨hx, hby, hml, hnm, hrt, hlk, vm0, k0, hS, hk, hown, hZ, T, locs, X, N, eT, st⟩ := K
  exact ⟨hx, hby, hml, hnm, hrt, hlk, vm0, k0, hS, hk, hown, hZ, T, locs, X, N, eT, fun t kt => st t (XS.lsub X.here hx rfl (hb hby hd) rfl kt)⟩
theorem Run.lmul {x y : Int64} (K : Run C R Z n0 own nm ret bytes mx h cells slots pc L (.long y :: .long x :: S)) (hd : decode bytes pc = .ok (.lmul, 1))  : Run C R Z n0 own nm ret bytes mx h cells slots (pc + 1) L (.long (x * y) :: S) := by
  obtain ⟨hx, hby, hml, hnm, hrt, hlk, vm0, k0, hS, hk, hown, hZ, T, locs, X, N, eT, st⟩ := K
  exact ⟨hx, hby, hml, hnm, hrt, hlk, vm0, k0, hS, hk, hown, hZ, T, locs, X, N, eT, fun t kt => st t (XS.lmul X.here hx rfl (hb hby hd) rfl kt)⟩
theorem Run.land {x y : Int64} (K : Run C R Z n0 own nm ret bytes mx h cells slots pc L (.long y :: .long x :: S)) (hd : decode bytes pc = .ok (.land, 1))  : Run C R Z n0 own nm ret bytes mx h cells slots (pc + 1) L (.long (x &&& y) :: S) := by
  obtain ⟨hx, hby, hml, hnm, hrt, hlk, vm0, k0, hS, hk, hown, hZ, T, locs, X, N, eT, st⟩ := K
  exact ⟨hx, hby, hml, hnm, hrt, hlk, vm0, k0, hS, hk, hown, hZ, T, locs, X, N, eT, fun t kt => st t (XS.land X.here hx rfl (hb hby hd) rfl kt)⟩
theorem Run.lor {x y : Int64} (K : Run C R Z n0 own nm ret bytes mx h cells slots pc L (.long y :: .long x :: S)) (hd : decode bytes pc = .ok (.lor, 1))  : Run C R Z n0 own nm ret bytes mx h cells slots (pc + 1) L (.long (x ||| y) :: S) := by
  obtain ⟨hx, hby, hml, hnm, hrt, hlk, vm0, k0, hS, hk, hown, hZ, T, locs, X, N, eT, st⟩ := K
  exact ⟨hx, hby, hml, hnm, hrt, hlk, vm0, k0, hS, hk, hown, hZ, T, locs, X, N, eT, fun t kt => st t (XS.lor X.here hx rfl (hb hby hd) rfl kt)⟩
theorem Run.lxor {x y : Int64} (K : Run C R Z n0 own nm ret bytes mx h cells slots pc L (.long y :: .long x :: S)) (hd : decode bytes pc = .ok (.lxor, 1))  : Run C R Z n0 own nm ret bytes mx h cells slots (pc + 1) L (.long (x ^^^ y) :: S) := by
  obtain ⟨hx, hby, hml, hnm, hrt, hlk, vm0, k0, hS, hk, hown, hZ, T, locs, X, N, eT, st⟩ := K
  exact ⟨hx, hby, hml, hnm, hrt, hlk, vm0, k0, hS, hk, hown, hZ, T, locs, X, N, eT, fun t kt => st t (XS.lxor X.here hx rfl (hb hby hd) rfl kt)⟩
theorem Run.lcmp {x y : Int64} (K : Run C R Z n0 own nm ret bytes mx h cells slots pc L (.long y :: .long x :: S)) (hd : decode bytes pc = .ok (.lcmp, 1))  : Run C R Z n0 own nm ret bytes mx h cells slots (pc + 1) L (.int (lcmpW x y) :: S) := by
  obtain ⟨hx, hby, hml, hnm, hrt, hlk, vm0, k0, hS, hk, hown, hZ, T, locs, X, N, eT, st⟩ := K
  exact ⟨hx, hby, hml, hnm, hrt, hlk, vm0, k0, hS, hk, hown, hZ, T, locs, X, N, eT, fun t kt => st t (XS.lcmp X.here hx rfl (hb hby hd) rfl kt)⟩
theorem Run.lushr {x : Int64} {y : Int32} (K : Run C R Z n0 own nm ret bytes mx h cells slots pc L (.int y :: .long x :: S)) (hd : decode bytes pc = .ok (.lushr, 1))  : Run C R Z n0 own nm ret bytes mx h cells slots (pc + 1) L (.long ((x.toUInt64 >>> (y &&& 0x3f).toInt64.toUInt64).toInt64) :: S) := by
  obtain ⟨hx, hby, hml, hnm, hrt, hlk, vm0, k0, hS, hk, hown, hZ, T, locs, X, N, eT, st⟩ := K
  exact ⟨hx, hby, hml, hnm, hrt, hlk, vm0, k0, hS, hk, hown, hZ, T, locs, X, N, eT, fun t kt => st t (XS.lushr X.here hx rfl (hb hby hd) rfl kt)⟩
theorem Run.lshr {x : Int64} {y : Int32} (K : Run C R Z n0 own nm ret bytes mx h cells slots pc L (.int y :: .long x :: S)) (hd : decode bytes pc = .ok (.lshr, 1))  : Run C R Z n0 own nm ret bytes mx h cells slots (pc + 1) L (.long (x >>> (y &&& 0x3f).toInt64) :: S) := by
  obtain ⟨hx, hby, hml, hnm, hrt, hlk, vm0, k0, hS, hk, hown, hZ, T, locs, X, N, eT, st⟩ := K
  exact ⟨hx, hby, hml, hnm, hrt, hlk, vm0, k0, hS, hk, hown, hZ, T, locs, X, N, eT, fun t kt => st t (XS.lshr X.here hx rfl (hb hby hd) rfl kt)⟩
theorem Run.lshl {x : Int64} {y : Int32} (K : Run C R Z n0 own nm ret bytes mx h cells slots pc L (.int y :: .long x :: S)) (hd : decode bytes pc = .ok (.lshl, 1))  : Run C R Z n0 own nm ret bytes mx h cells slots (pc + 1) L (.long (x <<< (y &&& 0x3f).toInt64) :: S) := by
  obtain ⟨hx, hby, hml, hnm, hrt, hlk, vm0, k0, hS, hk, hown, hZ, T, locs, X, N, eT, st⟩ := K
  exact ⟨hx, hby, hml, hnm, hrt, hlk, vm0, k0, hS, hk, hown, hZ, T, locs, X, N, eT, fun t kt => st t (XS.lshl X.here hx rfl (hb hby hd) rfl kt)⟩
theorem Run.i2l {x : Int32} (K : Run C R Z n0 own nm ret bytes mx h cells slots pc L (.int x :: S)) (hd : decode bytes pc = .ok (.i2l, 1))  : Run C R Z n0 own nm ret bytes mx h cells slots (pc + 1) L (.long (x.toInt64) :: S) := by
  obtain ⟨hx, hby, hml, hnm, hrt, hlk, vm0, k0, hS, hk, hown, hZ, T, locs, X, N, eT, st⟩ := K
  exact ⟨hx, hby, hml, hnm, hrt, hlk, vm0, k0, hS, hk, hown, hZ, T, locs, X, N, eT, fun t kt => st t (XS.i2l X.here hx rfl (hb hby hd) rfl kt)⟩
theorem Run.l2i {x : Int64} (K : Run C R Z n0 own nm ret bytes mx h cells slots pc L (.long x :: S)) (hd : decode bytes pc = .ok (.l2i, 1))  : Run C R Z n0 own nm ret bytes mx h cells slots (pc + 1) L (.int (x.toInt32) :: S) := by
  obtain ⟨hx, hby, hml, hnm, hrt, hlk, vm0, k0, hS, hk, hown, hZ, T, locs, X, N, eT, st⟩ := K
  exact ⟨hx, hby, hml, hnm, hrt, hlk, vm0, k0, hS, hk, hown, hZ, T, locs, X, N, eT, fun t kt => st t (XS.l2i X.here hx rfl (hb hby hd) rfl kt)⟩
theorem Run.i2b {x : Int32} (K : Run C R Z n0 own nm ret bytes mx h cells slots pc L (.int x :: S)) (hd : decode bytes pc = .ok (.i2b, 1))  : Run C R Z n0 own nm ret bytes mx h cells slots (pc + 1) L (.int (x.toInt8.toInt32) :: S) := by
  obtain ⟨hx, hby, hml, hnm, hrt, hlk, vm0, k0, hS, hk, hown, hZ, T, locs, X, N, eT, st⟩ := K
  exact ⟨hx, hby, hml, hnm, hrt, hlk, vm0, k0, hS, hk, hown, hZ, T, locs, X, N, eT, fun t kt => st t (XS.i2b X.here hx rfl (hb hby hd) rfl kt)⟩
theorem Run.i2s {x : Int32} (K : Run C R Z n0 own nm ret bytes mx h cells slots pc L (.int x :: S)) (hd : decode bytes pc = .ok (.i2s, 1))  : Run C R Z n0 own nm ret bytes mx h cells slots (pc + 1) L (.int (x.toInt16.toInt32) :: S) := by
  obtain ⟨hx, hby, hml, hnm, hrt, hlk, vm0, k0, hS, hk, hown, hZ, T, locs, X, N, eT, st⟩ := K
  exact ⟨hx, hby, hml, hnm, hrt, hlk, vm0, k0, hS, hk, hown, hZ, T, locs, X, N, eT, fun t kt => st t (XS.i2s X.here hx rfl (hb hby hd) rfl kt)⟩
theorem Run.i2c {x : Int32} (K : Run C R Z n0 own nm ret bytes mx h cells slots pc L (.int x :: S)) (hd : decode bytes pc = .ok (.i2c, 1))  : Run C R Z n0 own nm ret bytes mx h cells slots (pc + 1) L (.int (x.toUInt32.toUInt16.toUInt32.toInt32) :: S) := by
  obtain ⟨hx, hby, hml, hnm, hrt, hlk, vm0, k0, hS, hk, hown, hZ, T, locs, X, N, eT, st⟩ := K
  exact ⟨hx, hby, hml, hnm, hrt, hlk, vm0, k0, hS, hk, hown, hZ, T, locs, X, N, eT, fun t kt => st t (XS.i2c X.here hx rfl (hb hby hd) rfl kt)⟩
theorem Run.iinc {k : Nat} {cst : Int} {x : Int32} (z : Int32) (l' : Array Slot) (K : Run C R Z n0 own nm ret bytes mx h cells slots pc L S) (hd : decode bytes pc = .ok (.iinc k cst, 3)) (hl : L[k]? = some (.val (.int x))) (hz : Int32.ofInt cst = z) (hl' : storeLocals L k (.int (x + z)) = some l') : Run C R Z n0 own nm ret bytes mx h cells slots (pc + 3) l' S := by
  obtain ⟨hx, hby, hml, hnm, hrt, hlk, vm0, k0, hS, hk, hown, hZ, T, locs, X, N, eT, st⟩ := K
  exact ⟨hx, hby, hml, hnm, hrt, hlk, vm0, k0, hS, hk, hown, hZ, T, locs, X, N, eT, fun t kt => st t (XS.iinc X.here hx rfl (hb hby hd) hl (by rw [hz]; exact hl') kt)⟩
theorem Run.dup {x : Value} (K : Run C R Z n0 own nm ret bytes mx h cells slots pc L (x :: S)) (hd : decode bytes pc = .ok (.dup, 1)) (hc : x.category = 1) : Run C R Z n0 own nm ret bytes mx h cells slots (pc + 1) L (x :: x :: S) := by
  obtain ⟨hx, hby, hml, hnm, hrt, hlk, vm0, k0, hS, hk, hown, hZ, T, locs, X, N, eT, st⟩ := K
  exact ⟨hx, hby, hml, hnm, hrt, hlk, vm0, k0, hS, hk, hown, hZ, T, locs, X, N, eT, fun t kt => st t (XS.dup X.here hx rfl (hb hby hd) rfl hc kt)⟩
theorem Run.dupX1 {x y : Value} (K : Run C R Z n0 own nm ret bytes mx h cells slots pc L (x :: y :: S)) (hd : decode bytes pc = .ok (.dup_x1, 1)) (hc : x.category = 1) (hc' : y.category = 1) : Run C R Z n0 own nm ret bytes mx h cells slots (pc + 1) L (x :: y :: x :: S) := by
  obtain ⟨hx, hby, hml, hnm, hrt, hlk, vm0, k0, hS, hk, hown, hZ, T, locs, X, N, eT, st⟩ := K
  exact ⟨hx, hby, hml, hnm, hrt, hlk, vm0, k0, hS, hk, hown, hZ, T, locs, X, N, eT, fun t kt => st t (XS.dupX1 X.here hx rfl (hb hby hd) rfl hc hc' kt)⟩
theorem Run.pop {x : Value} (K : Run C R Z n0 own nm ret bytes mx h cells slots pc L (x :: S)) (hd : decode bytes pc = .ok (.pop, 1)) (hc : x.category = 1) : Run C R Z n0 own nm ret bytes mx h cells slots (pc + 1) L S := by
  obtain ⟨hx, hby, hml, hnm, hrt, hlk, vm0, k0, hS, hk, hown, hZ, T, locs, X, N, eT, st⟩ := K
  exact ⟨hx, hby, hml, hnm, hrt, hlk, vm0, k0, hS, hk, hown, hZ, T, locs, X, N, eT, fun t kt => st t (XS.pop X.here hx rfl (hb hby hd) rfl hc kt)⟩
theorem Run.goto {o : Int} {pc' : Nat} (K : Run C R Z n0 own nm ret bytes mx h cells slots pc L S) (hd : decode bytes pc = .ok (.goto o, 3)) (ho : 0 ≤ (pc : Int) + o) (hp : ((pc : Int) + o).toNat = pc') : Run C R Z n0 own nm ret bytes mx h cells slots pc' L S := by
  obtain ⟨hx, hby, hml, hnm, hrt, hlk, vm0, k0, hS, hk, hown, hZ, T, locs, X, N, eT, st⟩ := K
  exact ⟨hx, hby, hml, hnm, hrt, hlk, vm0, k0, hS, hk, hown, hZ, T, locs, X, N, eT, fun t kt => st t (XS.goto X.here hx rfl (pc0 := pc) rfl (hb hby hd) ho hp kt)⟩
theorem Run.ifYes {cd : ClassFile.Cond} {x : Int32} {o : Int} {pc' : Nat} (K : Run C R Z n0 own nm ret bytes mx h cells slots pc L (.int x :: S)) (hd : decode bytes pc = .ok (.ifCond cd o, 3)) (hc : if_icmp.holds cd x 0 = true) (ho : 0 ≤ (pc : Int) + o) (hp : ((pc : Int) + o).toNat = pc') : Run C R Z n0 own nm ret bytes mx h cells slots pc' L S := by
  obtain ⟨hx, hby, hml, hnm, hrt, hlk, vm0, k0, hS, hk, hown, hZ, T, locs, X, N, eT, st⟩ := K
  exact ⟨hx, hby, hml, hnm, hrt, hlk, vm0, k0, hS, hk, hown, hZ, T, locs, X, N, eT, fun t kt => st t (XS.ifYes X.here hx rfl (pc0 := pc) rfl (hb hby hd) rfl ((if0 _ _).trans hc) ho hp kt)⟩
theorem Run.ifNo {cd : ClassFile.Cond} {x : Int32} {o : Int} (K : Run C R Z n0 own nm ret bytes mx h cells slots pc L (.int x :: S)) (hd : decode bytes pc = .ok (.ifCond cd o, 3)) (hc : if_icmp.holds cd x 0 = false) : Run C R Z n0 own nm ret bytes mx h cells slots (pc + 3) L S := by
  obtain ⟨hx, hby, hml, hnm, hrt, hlk, vm0, k0, hS, hk, hown, hZ, T, locs, X, N, eT, st⟩ := K
  exact ⟨hx, hby, hml, hnm, hrt, hlk, vm0, k0, hS, hk, hown, hZ, T, locs, X, N, eT, fun t kt => st t (XS.ifNo X.here hx rfl (hb hby hd) rfl ((if0 _ _).trans hc) kt)⟩
theorem Run.icmpYes {cd : ClassFile.Cond} {x y : Int32} {o : Int} {pc' : Nat} (K : Run C R Z n0 own nm ret bytes mx h cells slots pc L (.int y :: .int x :: S)) (hd : decode bytes pc = .ok (.if_icmp cd o, 3)) (hc : if_icmp.holds cd x y = true) (ho : 0 ≤ (pc : Int) + o) (hp : ((pc : Int) + o).toNat = pc') : Run C R Z n0 own nm ret bytes mx h cells slots pc' L S := by
  obtain ⟨hx, hby, hml, hnm, hrt, hlk, vm0, k0, hS, hk, hown, hZ, T, locs, X, N, eT, st⟩ := K
  exact ⟨hx, hby, hml, hnm, hrt, hlk, vm0, k0, hS, hk, hown, hZ, T, locs, X, N, eT, fun t kt => st t (XS.icmpYes X.here hx rfl (pc0 := pc) rfl (hb hby hd) rfl hc ho hp kt)⟩
theorem Run.icmpNo {cd : ClassFile.Cond} {x y : Int32} {o : Int} (K : Run C R Z n0 own nm ret bytes mx h cells slots pc L (.int y :: .int x :: S)) (hd : decode bytes pc = .ok (.if_icmp cd o, 3)) (hc : if_icmp.holds cd x y = false) : Run C R Z n0 own nm ret bytes mx h cells slots (pc + 3) L S := by
  obtain ⟨hx, hby, hml, hnm, hrt, hlk, vm0, k0, hS, hk, hown, hZ, T, locs, X, N, eT, st⟩ := K
  exact ⟨hx, hby, hml, hnm, hrt, hlk, vm0, k0, hS, hk, hown, hZ, T, locs, X, N, eT, fun t kt => st t (XS.icmpNo X.here hx rfl (hb hby hd) rfl hc kt)⟩
theorem Run.ifnullYes {o : Int} {pc' : Nat} (K : Run C R Z n0 own nm ret bytes mx h cells slots pc L (.null :: S)) (hd : decode bytes pc = .ok (.ifnull o, 3)) (ho : 0 ≤ (pc : Int) + o) (hp : ((pc : Int) + o).toNat = pc') : Run C R Z n0 own nm ret bytes mx h cells slots pc' L S := by
  obtain ⟨hx, hby, hml, hnm, hrt, hlk, vm0, k0, hS, hk, hown, hZ, T, locs, X, N, eT, st⟩ := K
  exact ⟨hx, hby, hml, hnm, hrt, hlk, vm0, k0, hS, hk, hown, hZ, T, locs, X, N, eT, fun t kt => st t (XS.ifnullYes X.here hx rfl (pc0 := pc) rfl (hb hby hd) rfl ho hp kt)⟩
theorem Run.ifnullNo {o : Int} {b : Addr} (K : Run C R Z n0 own nm ret bytes mx h cells slots pc L (.ref b :: S)) (hd : decode bytes pc = .ok (.ifnull o, 3))  : Run C R Z n0 own nm ret bytes mx h cells slots (pc + 3) L S := by
  obtain ⟨hx, hby, hml, hnm, hrt, hlk, vm0, k0, hS, hk, hown, hZ, T, locs, X, N, eT, st⟩ := K
  exact ⟨hx, hby, hml, hnm, hrt, hlk, vm0, k0, hS, hk, hown, hZ, T, locs, X, N, eT, fun t kt => st t (XS.ifnullNo X.here hx rfl (hb hby hd) rfl kt)⟩
theorem Run.ifnonnullYes {o : Int} {b : Addr} {pc' : Nat} (K : Run C R Z n0 own nm ret bytes mx h cells slots pc L (.ref b :: S)) (hd : decode bytes pc = .ok (.ifnonnull o, 3)) (ho : 0 ≤ (pc : Int) + o) (hp : ((pc : Int) + o).toNat = pc') : Run C R Z n0 own nm ret bytes mx h cells slots pc' L S := by
  obtain ⟨hx, hby, hml, hnm, hrt, hlk, vm0, k0, hS, hk, hown, hZ, T, locs, X, N, eT, st⟩ := K
  exact ⟨hx, hby, hml, hnm, hrt, hlk, vm0, k0, hS, hk, hown, hZ, T, locs, X, N, eT, fun t kt => st t (XS.ifnonnullYes X.here hx rfl (pc0 := pc) rfl (hb hby hd) rfl ho hp kt)⟩
theorem Run.ifnonnullNo {o : Int} (K : Run C R Z n0 own nm ret bytes mx h cells slots pc L (.null :: S)) (hd : decode bytes pc = .ok (.ifnonnull o, 3))  : Run C R Z n0 own nm ret bytes mx h cells slots (pc + 3) L S := by
  obtain ⟨hx, hby, hml, hnm, hrt, hlk, vm0, k0, hS, hk, hown, hZ, T, locs, X, N, eT, st⟩ := K
  exact ⟨hx, hby, hml, hnm, hrt, hlk, vm0, k0, hS, hk, hown, hZ, T, locs, X, N, eT, fun t kt => st t (XS.ifnonnullNo X.here hx rfl (hb hby hd) rfl kt)⟩
theorem Run.acmpYes {cd : ClassFile.ACond} {x y : Value} {o : Int} {pc' : Nat} (K : Run C R Z n0 own nm ret bytes mx h cells slots pc L (y :: x :: S)) (hd : decode bytes pc = .ok (.if_acmp cd o, 3)) (h1 : x.isRef = true) (h2 : y.isRef = true) (hc : XT.acmp cd x y = true) (ho : 0 ≤ (pc : Int) + o) (hp : ((pc : Int) + o).toNat = pc') : Run C R Z n0 own nm ret bytes mx h cells slots pc' L S := by
  obtain ⟨hx, hby, hml, hnm, hrt, hlk, vm0, k0, hS, hk, hown, hZ, T, locs, X, N, eT, st⟩ := K
  exact ⟨hx, hby, hml, hnm, hrt, hlk, vm0, k0, hS, hk, hown, hZ, T, locs, X, N, eT, fun t kt => st t (XT.acmpYes X.here hx rfl (pc0 := pc) rfl (hb hby hd) rfl h1 h2 hc ho hp kt)⟩
theorem Run.acmpNo {cd : ClassFile.ACond} {x y : Value} {o : Int} (K : Run C R Z n0 own nm ret bytes mx h cells slots pc L (y :: x :: S)) (hd : decode bytes pc = .ok (.if_acmp cd o, 3)) (h1 : x.isRef = true) (h2 : y.isRef = true) (hc : XT.acmp cd x y = false) : Run C R Z n0 own nm ret bytes mx h cells slots (pc + 3) L S := by
  obtain ⟨hx, hby, hml, hnm, hrt, hlk, vm0, k0, hS, hk, hown, hZ, T, locs, X, N, eT, st⟩ := K
  exact ⟨hx, hby, hml, hnm, hrt, hlk, vm0, k0, hS, hk, hown, hZ, T, locs, X, N, eT, fun t kt => st t (XT.acmpNo X.here hx rfl (hb hby hd) rfl h1 h2 hc kt)⟩
theorem Run.dloadN {k : Fin 4} {v : UInt64} (K : Run C R Z n0 own nm ret bytes mx h cells slots pc L S) (hd : decode bytes pc = .ok (.dload_n k, 1)) (hl : L[k.val]? = some (.val (.double v))) : Run C R Z n0 own nm ret bytes mx h cells slots (pc + 1) L (.double v :: S) := by
  obtain ⟨hx, hby, hml, hnm, hrt, hlk, vm0, k0, hS, hk, hown, hZ, T, locs, X, N, eT, st⟩ := K
  exact ⟨hx, hby, hml, hnm, hrt, hlk, vm0, k0, hS, hk, hown, hZ, T, locs, X, N, eT, fun t kt => st t (XS.dloadN X.here hx rfl (hb hby hd) hl kt)⟩
theorem Run.dload {k : Nat} {v : UInt64} (K : Run C R Z n0 own nm ret bytes mx h cells slots pc L S) (hd : decode bytes pc = .ok (.dload k, 2)) (hl : L[k]? = some (.val (.double v))) : Run C R Z n0 own nm ret bytes mx h cells slots (pc + 2) L (.double v :: S) := by
  obtain ⟨hx, hby, hml, hnm, hrt, hlk, vm0, k0, hS, hk, hown, hZ, T, locs, X, N, eT, st⟩ := K
  exact ⟨hx, hby, hml, hnm, hrt, hlk, vm0, k0, hS, hk, hown, hZ, T, locs, X, N, eT, fun t kt => st t (XS.dload X.here hx rfl (hb hby hd) hl kt)⟩
theorem Run.dstoreN {k : Fin 4} {v : UInt64} (l' : Array Slot) (K : Run C R Z n0 own nm ret bytes mx h cells slots pc L (.double v :: S)) (hd : decode bytes pc = .ok (.dstore_n k, 1)) (hl : storeLocals L k.val (.double v) = some l') : Run C R Z n0 own nm ret bytes mx h cells slots (pc + 1) l' S := by
  obtain ⟨hx, hby, hml, hnm, hrt, hlk, vm0, k0, hS, hk, hown, hZ, T, locs, X, N, eT, st⟩ := K
  exact ⟨hx, hby, hml, hnm, hrt, hlk, vm0, k0, hS, hk, hown, hZ, T, locs, X, N, eT, fun t kt => st t (XS.dstoreN X.here hx rfl (hb hby hd) rfl hl kt)⟩
theorem Run.dstore {k : Nat} {v : UInt64} (l' : Array Slot) (K : Run C R Z n0 own nm ret bytes mx h cells slots pc L (.double v :: S)) (hd : decode bytes pc = .ok (.dstore k, 2)) (hl : storeLocals L k (.double v) = some l') : Run C R Z n0 own nm ret bytes mx h cells slots (pc + 2) l' S := by
  obtain ⟨hx, hby, hml, hnm, hrt, hlk, vm0, k0, hS, hk, hown, hZ, T, locs, X, N, eT, st⟩ := K
  exact ⟨hx, hby, hml, hnm, hrt, hlk, vm0, k0, hS, hk, hown, hZ, T, locs, X, N, eT, fun t kt => st t (XS.dstore X.here hx rfl (hb hby hd) rfl hl kt)⟩
theorem Run.dconst0 (z : UInt64) (K : Run C R Z n0 own nm ret bytes mx h cells slots pc L S) (hd : decode bytes pc = .ok (.dconst 0, 1)) (hz : FP.dconst0 = z) : Run C R Z n0 own nm ret bytes mx h cells slots (pc + 1) L (.double z :: S) := by
  obtain ⟨hx, hby, hml, hnm, hrt, hlk, vm0, k0, hS, hk, hown, hZ, T, locs, X, N, eT, st⟩ := K
  exact ⟨hx, hby, hml, hnm, hrt, hlk, vm0, k0, hS, hk, hown, hZ, T, locs, X, N, eT, fun t kt => st t (XS.dconst0 X.here hx rfl (hb hby hd) hz kt)⟩
theorem Run.i2d {x : Int32} (z : UInt64) (K : Run C R Z n0 own nm ret bytes mx h cells slots pc L (.int x :: S)) (hd : decode bytes pc = .ok (.i2d, 1)) (hz : FP.i2d x = z) : Run C R Z n0 own nm ret bytes mx h cells slots (pc + 1) L (.double z :: S) := by
  obtain ⟨hx, hby, hml, hnm, hrt, hlk, vm0, k0, hS, hk, hown, hZ, T, locs, X, N, eT, st⟩ := K
  exact ⟨hx, hby, hml, hnm, hrt, hlk, vm0, k0, hS, hk, hown, hZ, T, locs, X, N, eT, fun t kt => st t (XS.i2dS X.here hx rfl (hb hby hd) rfl hz kt)⟩
theorem Run.l2d {x : Int64} (z : UInt64) (K : Run C R Z n0 own nm ret bytes mx h cells slots pc L (.long x :: S)) (hd : decode bytes pc = .ok (.l2d, 1)) (hz : FP.l2d x = z) : Run C R Z n0 own nm ret bytes mx h cells slots (pc + 1) L (.double z :: S) := by
  obtain ⟨hx, hby, hml, hnm, hrt, hlk, vm0, k0, hS, hk, hown, hZ, T, locs, X, N, eT, st⟩ := K
  exact ⟨hx, hby, hml, hnm, hrt, hlk, vm0, k0, hS, hk, hown, hZ, T, locs, X, N, eT, fun t kt => st t (XS.l2dS X.here hx rfl (hb hby hd) rfl hz kt)⟩
theorem Run.dadd {x y : UInt64} (z : UInt64) (K : Run C R Z n0 own nm ret bytes mx h cells slots pc L (.double y :: .double x :: S)) (hd : decode bytes pc = .ok (.dadd, 1)) (hn : Jvm.Free.Fl.NoNaN64 (FP.dadd x y)) (hz : FP.dadd x y = z) : Run C R Z n0 own nm ret bytes mx h cells slots (pc + 1) L (.double z :: S) := by
  obtain ⟨hx, hby, hml, hnm, hrt, hlk, vm0, k0, hS, hk, hown, hZ, T, locs, X, N, eT, st⟩ := K
  exact ⟨hx, hby, hml, hnm, hrt, hlk, vm0, k0, hS, hk, hown, hZ, T, locs, X, N, eT, fun t kt => st t (XS.daddS X.here hx rfl (hb hby hd) rfl hn hz kt)⟩
theorem Run.ddiv {x y : UInt64} (z : UInt64) (K : Run C R Z n0 own nm ret bytes mx h cells slots pc L (.double y :: .double x :: S)) (hd : decode bytes pc = .ok (.ddiv, 1)) (hn : Jvm.Free.Fl.NoNaN64 (FP.ddiv x y)) (hz : FP.ddiv x y = z) : Run C R Z n0 own nm ret bytes mx h cells slots (pc + 1) L (.double z :: S) := by
  obtain ⟨hx, hby, hml, hnm, hrt, hlk, vm0, k0, hS, hk, hown, hZ, T, locs, X, N, eT, st⟩ := K
  exact ⟨hx, hby, hml, hnm, hrt, hlk, vm0, k0, hS, hk, hown, hZ, T, locs, X, N, eT, fun t kt => st t (XS.ddivS X.here hx rfl (hb hby hd) rfl hn hz kt)⟩
theorem Run.dcmp {o : CmpOp} {x y : UInt64} (z : Int32) (K : Run C R Z n0 own nm ret bytes mx h cells slots pc L (.double y :: .double x :: S)) (hd : decode bytes pc = .ok (.dcmp o, 1)) (hz : cmpValue (FP.dcmp x y) o = z) : Run C R Z n0 own nm ret bytes mx h cells slots (pc + 1) L (.int z :: S) := by
  obtain ⟨hx, hby, hml, hnm, hrt, hlk, vm0, k0, hS, hk, hown, hZ, T, locs, X, N, eT, st⟩ := K
  exact ⟨hx, hby, hml, hnm, hrt, hlk, vm0, k0, hS, hk, hown, hZ, T, locs, X, N, eT, fun t kt => st t (XS.dcmpS X.here hx rfl (hb hby hd) rfl hz kt)⟩
theorem Run.foldI {w : Int32} (K : Run C R Z n0 own nm ret bytes mx h cells slots pc L (.int w :: S)) (z : Int32) (q : w = z) : Run C R Z n0 own nm ret bytes mx h cells slots pc L (.int z :: S) := q ▸ K
theorem Run.foldJ {w : Int64} (K : Run C R Z n0 own nm ret bytes mx h cells slots pc L (.long w :: S)) (z : Int64) (q : w = z) : Run C R Z n0 own nm ret bytes mx h cells slots pc L (.long z :: S) := q ▸ K
theorem Run.stk (K : Run C R Z n0 own nm ret bytes mx h cells slots pc L S) (S' : List Value) (q : S = S') : Run C R Z n0 own nm ret bytes mx h cells slots pc L S' := q ▸ K
theorem Run.loc (K : Run C R Z n0 own nm ret bytes mx h cells slots pc L S) (L' : Array Slot) (q : L = L') : Run C R Z n0 own nm ret bytes mx h cells slots pc L' S := q ▸ K
theorem Run.atpc (K : Run C R Z n0 own nm ret bytes mx h cells slots pc L S) (pc' : Nat) (q : pc = pc') : Run C R Z n0 own nm ret bytes mx h cells slots pc' L S := q ▸ K
theorem Run.ldcInt {a0 : Array Value} {index : Nat} {v : Int32} (K : Run C R Z n0 own nm ret bytes mx h cells slots pc L S) (hd : decode bytes pc = .ok (.ldc index, 2)) (w : (Jvm.Cond.constant own index v).before a0 Z = true) : Run C R Z n0 own nm ret bytes mx h cells slots (pc + 2) L (.int v :: S) := by
  obtain ⟨hx, hby, hml, hnm, hrt, hlk, vm0, k0, hS, hk, hown, hZ, T, locs, X, N, eT, st⟩ := K
  exact ⟨hx, hby, hml, hnm, hrt, hlk, vm0, k0, hS, hk, hown, hZ, T, locs, X, N, eT, fun t kt => st t (X.ldcInt hx hown (mvT hZ w) (g := mkF C.2.2.2.2.1 pc L S) rfl (hb hby hd) t kt)⟩
theorem Run.ldc2Long {a0 : Array Value} {index : Nat} {v : Int64} (K : Run C R Z n0 own nm ret bytes mx h cells slots pc L S) (hd : decode bytes pc = .ok (.ldc2_w index, 3)) (w : (Jvm.Cond.constantLong own index v).before a0 Z = true) : Run C R Z n0 own nm ret bytes mx h cells slots (pc + 3) L (.long v :: S) := by
  obtain ⟨hx, hby, hml, hnm, hrt, hlk, vm0, k0, hS, hk, hown, hZ, T, locs, X, N, eT, st⟩ := K
  exact ⟨hx, hby, hml, hnm, hrt, hlk, vm0, k0, hS, hk, hown, hZ, T, locs, X, N, eT, fun t kt => st t (X.ldc2Long hx hown (mvT hZ w) (g := mkF C.2.2.2.2.1 pc L S) rfl (hb hby hd) t kt)⟩
/-! returns -/
theorem Run.iret {z : Int32} {Q : Option Value → Heap → Prop} (K : Run C R Z n0 own nm ret bytes mx h cells slots pc L (.int z :: S)) (hd : decode bytes pc = .ok (.ireturn, 1)) {ty : FieldType} (hr : ret = some ty) (ht : ty = .int ∨ ty = .boolean ∨ ty = .byte ∨ ty = .char ∨ ty = .short) (hn : narrow ty (.int z) = .int z) (hQ : Q (some (.int z)) h) (hc : cells ≤ R.cells) (hs : slots ≤ R.slots) : Fini C R n0 Q := by
  obtain ⟨hx, hby, hml, hnm, hrt, hlk, vm0, k0, hS, hk, hown, hZ, T, locs, X, N, eT, st⟩ := K
  obtain ⟨fs, hr', hrun, hended, hE⟩ := X.leaveW hS (by rw [eT]; exact hk) (v := some (.int z)) (fun q => by rw [hrt, hr] at q; cases q) hlk
  exact ⟨_, _, st _ (retOut X hx (hrt.trans hr) hn (Or.inl ⟨rfl, ht, _, rfl⟩) (hb hby hd) hr'), hrun, hended, _, _, rfl, ⟨by rw [show (T.setFrames fs).heap = T.heap from rfl, eT]; exact hQ, N⟩, hE.1, hE.2.1, hE.2.2.1, hE.2.2.2.mono hc hs⟩
theorem Run.lret {z : Int64} {Q : Option Value → Heap → Prop} (K : Run C R Z n0 own nm ret bytes mx h cells slots pc L (.long z :: S)) (hd : decode bytes pc = .ok (.lreturn, 1)) (hr : ret = some .long) (hQ : Q (some (.long z)) h) (hc : cells ≤ R.cells) (hs : slots ≤ R.slots) : Fini C R n0 Q := by
  obtain ⟨hx, hby, hml, hnm, hrt, hlk, vm0, k0, hS, hk, hown, hZ, T, locs, X, N, eT, st⟩ := K
  obtain ⟨fs, hr', hrun, hended, hE⟩ := X.leaveW hS (by rw [eT]; exact hk) (v := some (.long z)) (fun q => by rw [hrt, hr] at q; cases q) hlk
  exact ⟨_, _, st _ (retOut X hx (hrt.trans hr) rfl (Or.inr (Or.inl ⟨rfl, rfl, _, rfl⟩)) (hb hby hd) hr'), hrun, hended, _, _, rfl, ⟨by rw [show (T.setFrames fs).heap = T.heap from rfl, eT]; exact hQ, N⟩, hE.1, hE.2.1, hE.2.2.1, hE.2.2.2.mono hc hs⟩
theorem Run.dret {z : UInt64} {Q : Option Value → Heap → Prop} (K : Run C R Z n0 own nm ret bytes mx h cells slots pc L (.double z :: S)) (hd : decode bytes pc = .ok (.dreturn, 1)) (hr : ret = some .double) (hQ : Q (some (.double z)) h) (hc : cells ≤ R.cells) (hs : slots ≤ R.slots) : Fini C R n0 Q := by
  obtain ⟨hx, hby, hml, hnm, hrt, hlk, vm0, k0, hS, hk, hown, hZ, T, locs, X, N, eT, st⟩ := K
  obtain ⟨fs, hr', hrun, hended, hE⟩ := X.leaveW hS (by rw [eT]; exact hk) (v := some (.double z)) (fun q => by rw [hrt, hr] at q; cases q) hlk
  exact ⟨_, _, st _ (retOut X hx (hrt.trans hr) rfl (Or.inr (Or.inr (Or.inl ⟨rfl, rfl, _, rfl⟩))) (hb hby hd) hr'), hrun, hended, _, _, rfl, ⟨by rw [show (T.setFrames fs).heap = T.heap from rfl, eT]; exact hQ, N⟩, hE.1, hE.2.1, hE.2.2.1, hE.2.2.2.mono hc hs⟩
theorem Run.aret {w : Value} {Q : Option Value → Heap → Prop} (K : Run C R Z n0 own nm ret bytes mx h cells slots pc L (w :: S)) (hd : decode bytes pc = .ok (.areturn, 1)) {ty : FieldType} (hr : ret = some ty) (ht : ty.isReference = true) (hn : narrow ty w = w) (hw : w.isRef = true) (hQ : Q (some w) h) (hc : cells ≤ R.cells) (hs : slots ≤ R.slots) : Fini C R n0 Q := by
  obtain ⟨hx, hby, hml, hnm, hrt, hlk, vm0, k0, hS, hk, hown, hZ, T, locs, X, N, eT, st⟩ := K
  obtain ⟨fs, hr', hrun, hended, hE⟩ := X.leaveW hS (by rw [eT]; exact hk) (v := some w) (fun q => by rw [hrt, hr] at q; cases q) hlk
  exact ⟨_, _, st _ (retOut X hx (hrt.trans hr) hn (Or.inr (Or.inr (Or.inr (Or.inr ⟨rfl, ht, hw⟩)))) (hb hby hd) hr'), hrun, hended, _, _, rfl, ⟨by rw [show (T.setFrames fs).heap = T.heap from rfl, eT]; exact hQ, N⟩, hE.1, hE.2.1, hE.2.2.1, hE.2.2.2.mono hc hs⟩
theorem Run.vret {Q : Option Value → Heap → Prop} (K : Run C R Z n0 own nm ret bytes mx h cells slots pc L []) (hd : decode bytes pc = .ok (.return_, 1)) (hr : ret = none) (hQ : Q none h) (hc : cells ≤ R.cells) (hs : slots ≤ R.slots) : Fini C R n0 Q := by
  obtain ⟨hx, hby, hml, hnm, hrt, hlk, vm0, k0, hS, hk, hown, hZ, T, locs, X, N, eT, st⟩ := K
  obtain ⟨fs, hr', hrun, hended, hE⟩ := X.leaveW hS (by rw [eT]; exact hk) (v := none) (fun _ => rfl) hlk
  exact ⟨_, _, st _ (X.returnOut hx (hrt.trans hr) (hb hby hd) hr'), hrun, hended, _, _, rfl, ⟨by rw [show (T.setFrames fs).heap = T.heap from rfl, eT]; exact hQ, N⟩, hE.1, hE.2.1, hE.2.2.1, hE.2.2.2.mono hc hs⟩
/-! calls -/
theorem Run.callS {a0 : Array Value} {index : Nat} {y : MethodName} {by2 : ByteArray} {mx2 W : Nat} {rt2 : Option FieldType} {rm : Room} {argsL rest : List Value} {Q : Option Value → Heap → Prop} {ps : List FieldType} (K : Run C R Z n0 own nm ret bytes mx h cells slots pc L S) (hd : decode bytes pc = .ok (.invokestatic index, 3))
    (wl : (Jvm.Cond.methodLink own index y).before a0 Z = true) (wst : (Jvm.Cond.static y).before a0 Z = true) (wi : (Jvm.Cond.initialized y.cls).before a0 Z = true) (wc : (Jvm.Cond.code y by2 mx2 rt2).before a0 Z = true)
    (con : Con Z n0 y by2 mx2 rt2 [] rm argsL.toArray h Q) (hSt : S = argsL.reverse ++ rest) (hpd : parseMethodDescriptor y.desc = some ⟨ps, rt2⟩) (hlen : argsL.length = ps.length) (hW : (rest.map fun v => v.category).sum = W) (hLs : L.size = mx)
    (hfr : rm.frames + 1 ≤ R.frames) (hlo : W + (mx2 + 11) + rm.locals ≤ R.locals) (hce : cells + rm.cells ≤ R.cells) (hsl : slots + rm.slots ≤ R.slots) (hy : y.cls ≠ "java/lang/invoke/MethodHandle" ∧ y.cls ≠ "java/lang/invoke/VarHandle") :
    ∃ v h', Q v h' ∧ Run C R Z n0 own nm ret bytes mx h' (cells + rm.cells) (slots + rm.slots) (pc + 3) L (v.toList ++ rest) := by
  obtain ⟨hx, hby, hml, hnm, hrt, hlk, vm0, k0, hS, hk, hown, hZ, T, locs, X, N, eT, st⟩ := K
  obtain ⟨v, _, ⟨T', L', k', n'⟩, -, X', hS', hg', ⟨Lc, hQ, l1, y1, z1⟩, st'⟩ := callSS X hx (y := y) hown (mvT hZ wl) (mvT hZ wst) (mvT hZ wi) (mvT hZ wc) hy (backOfS (Q := fun v h L => Q v h ∧ Fr n0 L) (W := W) (con C.2.1) hZ wc wi hfr hlo) (g := mkF C.2.2.2.2.1 pc L S) rfl (by rw [hml]; exact hLs) (argsL := argsL) (rest := rest) (lenOf hpd hlen) hSt (by show 2 * 0 + _ ≤ _; omega) (hb hby hd) (fun _ _ => ⟨rfl, eT, hce, hsl⟩)
  dsimp only [Pt.U, Pt.locs, Pt.cells, Pt.slots] at X' hS' hg' l1 y1 z1 st' hQ
  subst l1 y1 z1
  obtain ⟨X'', hS'', hZ'', hown''⟩ := rebS hS (by rw [eT]; exact hk : k0 ≤ T.heap.size) X' hS' hg' hZ hown
  exact ⟨v, T'.heap, hQ.1, hx, hby, hml, hnm, hrt, hlk, _, _, hS'', Nat.le_refl _, hown'', hZ'', T', _, X'', Fr.app N hQ.2, rfl, fun t kt => st t (st'.trans kt)⟩
theorem Run.callI {a0 : Array Value} {index : Nat} {y : MethodName} {by2 : ByteArray} {mx2 W : Nat} {rm : Room} {a : Addr} {argsL rest : List Value} {Q : Option Value → Heap → Prop} {ps : List FieldType} (K : Run C R Z n0 own nm ret bytes mx h cells slots pc L S) (hd : decode bytes pc = .ok (.invokespecial index, 3))
    (hy1 : y.name = "<init>") (wl : (Jvm.Cond.methodLink own index y).before a0 Z = true) (wst : (Jvm.Cond.instanceMethod y).before a0 Z = true) (wi : (Jvm.Cond.initialized y.cls).before a0 Z = true) (wc : (Jvm.Cond.code y by2 mx2 none).before a0 Z = true)
    (con : Con Z n0 y by2 mx2 none [] rm (.ref a :: argsL).toArray h Q) (hSt : S = argsL.reverse ++ .ref a :: rest) (hpd : parseMethodDescriptor y.desc = some ⟨ps, none⟩) (hlen : argsL.length = ps.length) (hW : (rest.map fun v => v.category).sum = W) (hLs : L.size = mx)
    (hfr : rm.frames + 1 ≤ R.frames) (hlo : W + (mx2 + 11) + rm.locals ≤ R.locals) (hce : cells + rm.cells ≤ R.cells) (hsl : slots + rm.slots ≤ R.slots) (hy : y.cls ≠ "java/lang/invoke/MethodHandle" ∧ y.cls ≠ "java/lang/invoke/VarHandle") :
    ∃ v h', Q v h' ∧ Run C R Z n0 own nm ret bytes mx h' (cells + rm.cells) (slots + rm.slots) (pc + 3) L (v.toList ++ rest) := by
  obtain ⟨hx, hby, hml, hnm, hrt, hlk, vm0, k0, hS, hk, hown, hZ, T, locs, X, N, eT, st⟩ := K
  obtain ⟨v, _, ⟨T', L', k', n'⟩, -, X', hS', hg', ⟨Lc, hQ, l1, y1, z1⟩, st'⟩ := X.specialBackS hx (y := y) hy1 hown (mvT hZ wl) (mvT hZ wst) (mvT hZ wc) hy (backOfS (Q := fun v h L => Q v h ∧ Fr n0 L) (W := W) (con C.2.1) hZ wc wi hfr hlo) (g := mkF C.2.2.2.2.1 pc L S) rfl (by rw [hml]; exact hLs) (Steps.refl _) (a := a) (argsL := argsL) (rest := rest) (lenOf hpd hlen) hSt (by show 2 * 0 + _ ≤ _; omega) (hb hby hd) (fun _ _ => ⟨rfl, eT, hce, hsl⟩)
  dsimp only [Pt.U, Pt.locs, Pt.cells, Pt.slots] at X' hS' hg' l1 y1 z1 st' hQ
  subst l1 y1 z1
  obtain ⟨X'', hS'', hZ'', hown''⟩ := rebS hS (by rw [eT]; exact hk : k0 ≤ T.heap.size) X' hS' hg' hZ hown
  exact ⟨v, T'.heap, hQ.1, hx, hby, hml, hnm, hrt, hlk, _, _, hS'', Nat.le_refl _, hown'', hZ'', T', _, X'', Fr.app N hQ.2, rfl, fun t kt => st t (st'.trans kt)⟩
theorem Run.callV {a0 : Array Value} {index : Nat} {y z : MethodName} {Cl : String} {by2 : ByteArray} {mx2 W : Nat} {rt2 : Option FieldType} {rm : Room} {a : Addr} {argsL rest : List Value} {Q : Option Value → Heap → Prop} {ps : List FieldType} (K : Run C R Z n0 own nm ret bytes mx h cells slots pc L S) (hd : decode bytes pc = .ok (.invokevirtual index, 3))
    (wl : (Jvm.Cond.methodLink own index y).before a0 Z = true) (wd : (Jvm.Cond.declares y).before a0 Z = true) (nf : ∀ s : State, Z.Warmed39 s.vm → NotFace s y) (ws : (Jvm.Cond.selects Cl y z).before a0 Z = true) (wst : (Jvm.Cond.instanceMethod z).before a0 Z = true) (wi : (Jvm.Cond.initialized z.cls).before a0 Z = true) (wc : (Jvm.Cond.code z by2 mx2 rt2).before a0 Z = true)
    (E : Exa Z h a Cl) (con : Con Z n0 z by2 mx2 rt2 [] rm (.ref a :: argsL).toArray h Q) (hSt : S = argsL.reverse ++ .ref a :: rest) (hpd : parseMethodDescriptor y.desc = some ⟨ps, rt2⟩) (hlen : argsL.length = ps.length) (hW : (rest.map fun v => v.category).sum = W) (hLs : L.size = mx)
    (hfr : rm.frames + 1 ≤ R.frames) (hlo : W + (mx2 + 11) + rm.locals ≤ R.locals) (hce : cells + rm.cells ≤ R.cells) (hsl : slots + rm.slots ≤ R.slots) (hy : y.cls ≠ "java/lang/invoke/MethodHandle" ∧ y.cls ≠ "java/lang/invoke/VarHandle") :
    ∃ v h', Q v h' ∧ Run C R Z n0 own nm ret bytes mx h' (cells + rm.cells) (slots + rm.slots) (pc + 3) L (v.toList ++ rest) := by
  obtain ⟨hx, hby, hml, hnm, hrt, hlk, vm0, k0, hS, hk, hown, hZ, T, locs, X, N, eT, st⟩ := K
  obtain ⟨cq, kq, qa, qb, qc⟩ := isOf hZ eT E
  obtain ⟨v, _, ⟨T', L', k', n'⟩, -, X', hS', hg', ⟨Lc, hQ, l1, y1, z1⟩, st'⟩ := X.virtualBackS hx (y := y) (z := z) hown (mvT hZ wl) (mvT hZ wd) (nf _ hZ) (mvT hZ ws) (mvT hZ wst) hy (backOfS (Q := fun v h L => Q v h ∧ Fr n0 L) (W := W) (con C.2.1) hZ wc wi hfr hlo) qa qc (g := mkF C.2.2.2.2.1 pc L S) rfl (by rw [hml]; exact hLs) (Steps.refl _) (argsL := argsL) (rest := rest) (lenOf hpd hlen) hSt (by show 2 * 0 + _ ≤ _; omega) (hb hby hd) (fun _ _ => ⟨rfl, eT, hce, hsl⟩)
  dsimp only [Pt.U, Pt.locs, Pt.cells, Pt.slots] at X' hS' hg' l1 y1 z1 st' hQ
  subst l1 y1 z1
  obtain ⟨X'', hS'', hZ'', hown''⟩ := rebS hS (by rw [eT]; exact hk : k0 ≤ T.heap.size) X' hS' hg' hZ hown
  exact ⟨v, T'.heap, hQ.1, hx, hby, hml, hnm, hrt, hlk, _, _, hS'', Nat.le_refl _, hown'', hZ'', T', _, X'', Fr.app N hQ.2, rfl, fun t kt => st t (st'.trans kt)⟩
/-! fields, statics, objects -/
theorem Run.getF {a0 : Array Value} {index : Nat} {R0 O n d host : String} {a : Addr} {v : Value} (K : Run C R Z n0 own nm ret bytes mx h cells slots pc L (.ref a :: S)) (hd : decode bytes pc = .ok (.getfield index, 3)) (w : (Jvm.Cond.fieldLink own index R0 n d).before a0 Z = true ∨ (Jvm.Cond.fieldLinkNest own index R0 n d host).before a0 Z = true) (via : Via Z R0 O n d) (F : Fld Z h a O n d v) :
    Run C R Z n0 own nm ret bytes mx h cells slots (pc + 3) L (v :: S) := by
  obtain ⟨hx, hby, hml, hnm, hrt, hlk, vm0, k0, hS, hk, hown, hZ, T, locs, X, N, eT, st⟩ := K
  obtain ⟨T', X', e', st'⟩ := RoadKit.getF X hx hZ hown w via eT F (g := mkF C.2.2.2.2.1 pc L (.ref a :: S)) rfl rfl (hb hby hd)
  exact ⟨hx, hby, hml, hnm, hrt, hlk, vm0, k0, hS, hk, hown, hZ, T', locs, X', N, e', fun t kt => st t (st' t kt)⟩
theorem Run.getS {a0 : Array Value} {index : Nat} {R0 O n d host : String} {v : Value} (K : Run C R Z n0 own nm ret bytes mx h cells slots pc L S) (hd : decode bytes pc = .ok (.getstatic index, 3)) (w : (Jvm.Cond.fieldLink own index R0 n d).before a0 Z = true ∨ (Jvm.Cond.fieldLinkNest own index R0 n d host).before a0 Z = true) (via : Via Z R0 O n d) (F : Sta Z h O n d v) :
    Run C R Z n0 own nm ret bytes mx h cells slots (pc + 3) L (v :: S) := by
  obtain ⟨hx, hby, hml, hnm, hrt, hlk, vm0, k0, hS, hk, hown, hZ, T, locs, X, N, eT, st⟩ := K
  obtain ⟨T', X', e', st'⟩ := RoadKit.getS2 X hx hZ hown w via eT F (g := mkF C.2.2.2.2.1 pc L S) rfl (hb hby hd)
  exact ⟨hx, hby, hml, hnm, hrt, hlk, vm0, k0, hS, hk, hown, hZ, T', locs, X', N, e', fun t kt => st t (st' t kt)⟩
theorem Run.putF {a0 : Array Value} {index kk : Nat} {R0 O n d host Cl : String} {ty : FieldType} {a : Addr} {v old : Value} (K : Run C R Z n0 own nm ret bytes mx h cells slots pc L (v :: .ref a :: S)) (hd : decode bytes pc = .ok (.putfield index, 3)) (w : (Jvm.Cond.fieldLink own index R0 n d).before a0 Z = true ∨ (Jvm.Cond.fieldLinkNest own index R0 n d host).before a0 Z = true) (via : Via Z R0 O n d)
    (F : Fld Z h a O n d old) (E : Exa Z h a Cl) (Lw : (Jvm.Cond.lays Cl O n d).before a0 Z = true ∨ ((Jvm.Cond.laysFinal Cl O n d).before a0 Z = true ∧ own = O ∧ nm = "<init>")) (wi : (Jvm.Cond.instantiable Cl kk).before a0 Z = true) (hty : parseFieldDescriptor d = some ty) (hn : narrow ty v = v) (hf : fits ty v = true) (ga : n0 ≤ a) :
    ∃ h', Wr h h' a (RoadKit.slotOf Z O n d) v ∧ Run C R Z n0 own nm ret bytes mx h' cells slots (pc + 3) L S := by
  obtain ⟨hx, hby, hml, hnm, hrt, hlk, vm0, k0, hS, hk, hown, hZ, T, locs, X, N, eT, st⟩ := K
  obtain ⟨T', h', X', e', W', st'⟩ := RoadKit.putF X hx hZ hown w via eT F E (Lw.imp id fun q => ⟨q.1, q.2.1, hnm.trans q.2.2⟩) wi hty hn hf (g := mkF C.2.2.2.2.1 pc L (v :: .ref a :: S)) rfl rfl (hb hby hd)
  exact ⟨h', W', hx, hby, hml, hnm, hrt, hlk, vm0, k0, hS, (by rw [Wr.size W']; exact hk), hown, hZ, T', _, X', Fr.snoc X' N ga, e', fun t kt => st t (st' t kt)⟩
theorem Run.newO {a0 : Array Value} {index n : Nat} {Cl : String} (K : Run C R Z n0 own nm ret bytes mx h cells slots pc L S) (hd : decode bytes pc = .ok (.new index, 3)) (w : (Jvm.Cond.classLink own index Cl).before a0 Z = true) (wi : (Jvm.Cond.instantiable Cl n).before a0 Z = true) (wz : (Jvm.Cond.initialized Cl).before a0 Z = true) (hc : cells + 1 ≤ R.cells) (hl : slots + n ≤ R.slots) :
    ∃ (h' : Heap) (b : Addr), b = h.size ∧ Ext h h' ∧ Exa Z h' b Cl ∧ (∀ {O f d : String} {ty : FieldType}, Laid Z a0 Cl O f d → parseFieldDescriptor d = some ty → Fld Z h' b O f d (defaultValue ty)) ∧ Run C R Z n0 own nm ret bytes mx h' (cells + 1) (slots + n) (pc + 3) L (.ref b :: S) := by
  obtain ⟨hx, hby, hml, hnm, hrt, hlk, vm0, k0, hS, hk, hown, hZ, T, locs, X, N, eT, st⟩ := K
  obtain ⟨T', h', X', e', E', A', D', -, st'⟩ := RoadKit.newO X hx hZ hown w wi wz eT (g := mkF C.2.2.2.2.1 pc L S) rfl (hb hby hd) hc hl
  exact ⟨h', _, rfl, E', A', D', hx, hby, hml, hnm, hrt, hlk, vm0, k0, hS, Nat.le_trans hk E'.1, hown, hZ, T', _, X', N, e', fun t kt => st t (st' t kt)⟩
theorem Run.initO {a0 : Array Value} {index W : Nat} {a : Addr} (K : Run C R Z n0 own nm ret bytes mx h cells slots pc L (.ref a :: S)) (hd : decode bytes pc = .ok (.invokespecial index, 3)) (w1 : (Jvm.Cond.methodLink own index Lib.objectInit).before a0 Z = true) (w2 : (Jvm.Cond.instanceMethod Lib.objectInit).before a0 Z = true) (w3 : (Jvm.Cond.code Lib.objectInit ⟨#[0xb1]⟩ 1 none).before a0 Z = true) (hLs : L.size = mx) (hW : (S.map fun v => v.category).sum = W) (hf : 1 ≤ R.frames) (hl : W + 12 ≤ R.locals) :
    Run C R Z n0 own nm ret bytes mx h cells slots (pc + 3) L S := by
  obtain ⟨hx, hby, hml, hnm, hrt, hlk, vm0, k0, hS, hk, hown, hZ, T, locs, X, N, eT, st⟩ := K
  obtain ⟨T', X', e', st'⟩ := RoadKit.initO X hx hZ hown w1 w2 w3 eT (g := mkF C.2.2.2.2.1 pc L (.ref a :: S)) rfl (by rw [hml]; exact hLs) rfl (hb hby hd) hf (W := W) (by show 2 * 0 + _ ≤ _; omega) hl
  exact ⟨hx, hby, hml, hnm, hrt, hlk, vm0, k0, hS, hk, hown, hZ, T', locs, X', N, e', fun t kt => st t (st' t kt)⟩
theorem Run.castY {a0 : Array Value} {index : Nat} {Kl : String} {a : Addr} (K : Run C R Z n0 own nm ret bytes mx h cells slots pc L (.ref a :: S)) (hd : decode bytes pc = .ok (.checkcast index, 3)) (w : (Jvm.Cond.classLink own index Kl).before a0 Z = true) (F : Ins Z h a Kl true) : Run C R Z n0 own nm ret bytes mx h cells slots (pc + 3) L (.ref a :: S) := by
  obtain ⟨hx, hby, hml, hnm, hrt, hlk, vm0, k0, hS, hk, hown, hZ, T, locs, X, N, eT, st⟩ := K
  obtain ⟨T', X', e', st'⟩ := RoadKit.castY X hx hZ hown w eT F (g := mkF C.2.2.2.2.1 pc L (.ref a :: S)) rfl rfl (hb hby hd)
  exact ⟨hx, hby, hml, hnm, hrt, hlk, vm0, k0, hS, hk, hown, hZ, T', locs, X', N, e', fun t kt => st t (st' t kt)⟩
/-! arrays, by a function of the place -/
theorem Run.arrlen {a : Addr} {ty : FieldType} {n : Nat} {f : Nat → Value} (K : Run C R Z n0 own nm ret bytes mx h cells slots pc L (.ref a :: S)) (hd : decode bytes pc = .ok (.arraylength, 1)) (F : Arf Z h a ty n f) (z : Int32) (hz : n.toInt32 = z) : Run C R Z n0 own nm ret bytes mx h cells slots (pc + 1) L (.int z :: S) := by
  obtain ⟨hx, hby, hml, hnm, hrt, hlk, vm0, k0, hS, hk, hown, hZ, T, locs, X, N, eT, st⟩ := K
  obtain ⟨cl, Ar, Sz, H⟩ := F
  subst hz Sz
  exact ⟨hx, hby, hml, hnm, hrt, hlk, vm0, k0, hS, hk, hown, hZ, T, locs, X, N, eT, fun t kt => st t (X.arraylength hx (by rw [eT]; exact Ar.1) (State.isArrayOf_alike hZ.alike Ar.2.1) (g := mkF C.2.2.2.2.1 pc L (.ref a :: S)) rfl rfl (hb hby hd) t kt)⟩
theorem Run.iaload {a : Addr} {n : Nat} {f : Nat → Value} {j : Int32} (K : Run C R Z n0 own nm ret bytes mx h cells slots pc L (.int j :: .ref a :: S)) (hd : decode bytes pc = .ok (.iaload, 1)) (F : Arf Z h a .int n f) (i : Nat) (hj : j.toNatClampNeg = i) (h0 : ¬ j < 0) (hi : i < n) (v : Value) (hv : f i = v) : Run C R Z n0 own nm ret bytes mx h cells slots (pc + 1) L (v :: S) := by
  obtain ⟨hx, hby, hml, hnm, hrt, hlk, vm0, k0, hS, hk, hown, hZ, T, locs, X, N, eT, st⟩ := K
  obtain ⟨cl, Ar, Sz, H⟩ := F
  subst hj hv Sz
  exact ⟨hx, hby, hml, hnm, hrt, hlk, vm0, k0, hS, hk, hown, hZ, T, locs, X, N, eT, fun t kt => st t (X.iaload hx (j := j) (v := f j.toNatClampNeg) (by rw [eT]; exact Ar.1) (State.isArrayOf_alike hZ.alike Ar.2.1) Ar.2.2 (fun q => q.elim h0 (Nat.not_le.mpr hi)) (H _ hi) (g := mkF C.2.2.2.2.1 pc L (.int j :: .ref a :: S)) rfl rfl (hb hby hd) t kt)⟩
theorem Run.baload {a : Addr} {n : Nat} {f : Nat → Value} {j : Int32} (K : Run C R Z n0 own nm ret bytes mx h cells slots pc L (.int j :: .ref a :: S)) (hd : decode bytes pc = .ok (.baload, 1)) (F : Arf Z h a .byte n f) (i : Nat) (hj : j.toNatClampNeg = i) (h0 : ¬ j < 0) (hi : i < n) (v : Value) (hv : f i = v) : Run C R Z n0 own nm ret bytes mx h cells slots (pc + 1) L (v :: S) := by
  obtain ⟨hx, hby, hml, hnm, hrt, hlk, vm0, k0, hS, hk, hown, hZ, T, locs, X, N, eT, st⟩ := K
  obtain ⟨cl, Ar, Sz, H⟩ := F
  subst hj hv Sz
  exact ⟨hx, hby, hml, hnm, hrt, hlk, vm0, k0, hS, hk, hown, hZ, T, locs, X, N, eT, fun t kt => st t (X.baloadBytes hx (j := j) (v := f j.toNatClampNeg) (by rw [eT]; exact Ar.1) (State.isArrayOf_alike hZ.alike Ar.2.1) Ar.2.2 (fun q => q.elim h0 (Nat.not_le.mpr hi)) (H _ hi) (g := mkF C.2.2.2.2.1 pc L (.int j :: .ref a :: S)) rfl rfl (hb hby hd) t kt)⟩
theorem Run.aaload {a : Addr} {ty : FieldType} {n : Nat} {f : Nat → Value} {j : Int32} (K : Run C R Z n0 own nm ret bytes mx h cells slots pc L (.int j :: .ref a :: S)) (hd : decode bytes pc = .ok (.aaload, 1)) (F : Arf Z h a ty n f) (hty : ty.isReference = true) (i : Nat) (hj : j.toNatClampNeg = i) (h0 : ¬ j < 0) (hi : i < n) (v : Value) (hv : f i = v) : Run C R Z n0 own nm ret bytes mx h cells slots (pc + 1) L (v :: S) := by
  obtain ⟨hx, hby, hml, hnm, hrt, hlk, vm0, k0, hS, hk, hown, hZ, T, locs, X, N, eT, st⟩ := K
  obtain ⟨cl, Ar, Sz, H⟩ := F
  subst hj hv Sz
  exact ⟨hx, hby, hml, hnm, hrt, hlk, vm0, k0, hS, hk, hown, hZ, T, locs, X, N, eT, fun t kt => st t (X.aaload hx (j := j) (v := f j.toNatClampNeg) (by rw [eT]; exact Ar.1) (State.isArrayOf_alike hZ.alike Ar.2.1) hty Ar.2.2 (fun q => q.elim h0 (Nat.not_le.mpr hi)) (H _ hi) (g := mkF C.2.2.2.2.1 pc L (.int j :: .ref a :: S)) rfl rfl (hb hby hd) t kt)⟩
theorem Run.iastore {a : Addr} {n : Nat} {f : Nat → Value} {j x : Int32} (K : Run C R Z n0 own nm ret bytes mx h cells slots pc L (.int x :: .int j :: .ref a :: S)) (hd : decode bytes pc = .ok (.iastore, 1)) (F : Arf Z h a .int n f) (i : Nat) (hj : j.toNatClampNeg = i) (h0 : ¬ j < 0) (hi : i < n) (ga : n0 ≤ a) :
    ∃ h', Wr h h' a i (.int x) ∧ Arf Z h' a .int n (updV f i (.int x)) ∧ Run C R Z n0 own nm ret bytes mx h' cells slots (pc + 1) L S := by
  obtain ⟨hx, hby, hml, hnm, hrt, hlk, vm0, k0, hS, hk, hown, hZ, T, locs, X, N, eT, st⟩ := K
  obtain ⟨cl, Ar, Sz, H⟩ := F
  subst hj Sz
  obtain ⟨T', h', X', e', W', st'⟩ := RoadKit.stI X hx hZ eT Ar (j := j) (x := x) (fun q => q.elim h0 (Nat.not_le.mpr hi)) (g := mkF C.2.2.2.2.1 pc L (.int x :: .int j :: .ref a :: S)) rfl rfl (hb hby hd)
  exact ⟨h', W', Arf.set ⟨cl, Ar, rfl, H⟩ W' hi, hx, hby, hml, hnm, hrt, hlk, vm0, k0, hS, (by rw [Wr.size W']; exact hk), hown, hZ, T', _, X', Fr.snoc X' N ga, e', fun t kt => st t (st' t kt)⟩
theorem Run.bastore {a : Addr} {n : Nat} {f : Nat → Value} {j x : Int32} (K : Run C R Z n0 own nm ret bytes mx h cells slots pc L (.int x :: .int j :: .ref a :: S)) (hd : decode bytes pc = .ok (.bastore, 1)) (F : Arf Z h a .byte n f) (i : Nat) (hj : j.toNatClampNeg = i) (h0 : ¬ j < 0) (hi : i < n) (ga : n0 ≤ a) (x' : Int32) (hx' : x.toInt8.toInt32 = x') :
    ∃ h', Wr h h' a i (.int x') ∧ Arf Z h' a .byte n (updV f i (.int x')) ∧ Run C R Z n0 own nm ret bytes mx h' cells slots (pc + 1) L S := by
  obtain ⟨hx, hby, hml, hnm, hrt, hlk, vm0, k0, hS, hk, hown, hZ, T, locs, X, N, eT, st⟩ := K
  obtain ⟨cl, Ar, Sz, H⟩ := F
  subst hj Sz hx'
  obtain ⟨T', h', X', e', W', st'⟩ := RoadKit.stB X hx hZ eT Ar (j := j) (x := x) (fun q => q.elim h0 (Nat.not_le.mpr hi)) (g := mkF C.2.2.2.2.1 pc L (.int x :: .int j :: .ref a :: S)) rfl rfl (hb hby hd)
  exact ⟨h', W', Arf.set ⟨cl, Ar, rfl, H⟩ W' hi, hx, hby, hml, hnm, hrt, hlk, vm0, k0, hS, (by rw [Wr.size W']; exact hk), hown, hZ, T', _, X', Fr.snoc X' N ga, e', fun t kt => st t (st' t kt)⟩
theorem Run.caload {a : Addr} {n : Nat} {f : Nat → Value} {j : Int32} (K : Run C R Z n0 own nm ret bytes mx h cells slots pc L (.int j :: .ref a :: S)) (hd : decode bytes pc = .ok (.caload, 1)) (F : Arf Z h a .char n f) (i : Nat) (hj : j.toNatClampNeg = i) (h0 : ¬ j < 0) (hi : i < n) (v : Value) (hv : f i = v) : Run C R Z n0 own nm ret bytes mx h cells slots (pc + 1) L (v :: S) := by
  obtain ⟨hx, hby, hml, hnm, hrt, hlk, vm0, k0, hS, hk, hown, hZ, T, locs, X, N, eT, st⟩ := K
  obtain ⟨cl, Ar, Sz, H⟩ := F
  subst hj hv Sz
  exact ⟨hx, hby, hml, hnm, hrt, hlk, vm0, k0, hS, hk, hown, hZ, T, locs, X, N, eT, fun t kt => st t (X.caload hx (j := j) (v := f j.toNatClampNeg) (by rw [eT]; exact Ar.1) (State.isArrayOf_alike hZ.alike Ar.2.1) Ar.2.2 (fun q => q.elim h0 (Nat.not_le.mpr hi)) (H _ hi) (g := mkF C.2.2.2.2.1 pc L (.int j :: .ref a :: S)) rfl rfl (hb hby hd) t kt)⟩
theorem Run.daload {a : Addr} {n : Nat} {f : Nat → Value} {j : Int32} (K : Run C R Z n0 own nm ret bytes mx h cells slots pc L (.int j :: .ref a :: S)) (hd : decode bytes pc = .ok (.daload, 1)) (F : Arf Z h a .double n f) (i : Nat) (hj : j.toNatClampNeg = i) (h0 : ¬ j < 0) (hi : i < n) (v : Value) (hv : f i = v) : Run C R Z n0 own nm ret bytes mx h cells slots (pc + 1) L (v :: S) := by
  obtain ⟨hx, hby, hml, hnm, hrt, hlk, vm0, k0, hS, hk, hown, hZ, T, locs, X, N, eT, st⟩ := K
  obtain ⟨cl, Ar, Sz, H⟩ := F
  subst hj hv Sz
  exact ⟨hx, hby, hml, hnm, hrt, hlk, vm0, k0, hS, hk, hown, hZ, T, locs, X, N, eT, fun t kt => st t (X.daload hx (j := j) (v := f j.toNatClampNeg) (by rw [eT]; exact Ar.1) (State.isArrayOf_alike hZ.alike Ar.2.1) Ar.2.2 (fun q => q.elim h0 (Nat.not_le.mpr hi)) (H _ hi) (g := mkF C.2.2.2.2.1 pc L (.int j :: .ref a :: S)) rfl rfl (hb hby hd) t kt)⟩
theorem Run.castore {a : Addr} {n : Nat} {f : Nat → Value} {j x : Int32} (K : Run C R Z n0 own nm ret bytes mx h cells slots pc L (.int x :: .int j :: .ref a :: S)) (hd : decode bytes pc = .ok (.castore, 1)) (F : Arf Z h a .char n f) (i : Nat) (hj : j.toNatClampNeg = i) (h0 : ¬ j < 0) (hi : i < n) (ga : n0 ≤ a) (x' : Int32) (hx' : x.toUInt32.toUInt16.toUInt32.toInt32 = x') :
    ∃ h', Wr h h' a i (.int x') ∧ Arf Z h' a .char n (updV f i (.int x')) ∧ Run C R Z n0 own nm ret bytes mx h' cells slots (pc + 1) L S := by
  obtain ⟨hx, hby, hml, hnm, hrt, hlk, vm0, k0, hS, hk, hown, hZ, T, locs, X, N, eT, st⟩ := K
  obtain ⟨cl, Ar, Sz, H⟩ := F
  subst hj Sz hx'
  obtain ⟨T', h', X', e', W', st'⟩ := RoadKit.stC X hx hZ eT Ar (j := j) (x := x) (fun q => q.elim h0 (Nat.not_le.mpr hi)) (g := mkF C.2.2.2.2.1 pc L (.int x :: .int j :: .ref a :: S)) rfl rfl (hb hby hd)
  exact ⟨h', W', Arf.set ⟨cl, Ar, rfl, H⟩ W' hi, hx, hby, hml, hnm, hrt, hlk, vm0, k0, hS, (by rw [Wr.size W']; exact hk), hown, hZ, T', _, X', Fr.snoc X' N ga, e', fun t kt => st t (st' t kt)⟩
theorem Run.dastore {a : Addr} {n : Nat} {f : Nat → Value} {j : Int32} {x : UInt64} (K : Run C R Z n0 own nm ret bytes mx h cells slots pc L (.double x :: .int j :: .ref a :: S)) (hd : decode bytes pc = .ok (.dastore, 1)) (F : Arf Z h a .double n f) (i : Nat) (hj : j.toNatClampNeg = i) (h0 : ¬ j < 0) (hi : i < n) (ga : n0 ≤ a) :
    ∃ h', Wr h h' a i (.double x) ∧ Arf Z h' a .double n (updV f i (.double x)) ∧ Run C R Z n0 own nm ret bytes mx h' cells slots (pc + 1) L S := by
  obtain ⟨hx, hby, hml, hnm, hrt, hlk, vm0, k0, hS, hk, hown, hZ, T, locs, X, N, eT, st⟩ := K
  obtain ⟨cl, Ar, Sz, H⟩ := F
  subst hj Sz
  obtain ⟨T', h', X', e', W', st'⟩ := RoadKit.stD X hx hZ eT Ar (j := j) (x := x) (fun q => q.elim h0 (Nat.not_le.mpr hi)) (g := mkF C.2.2.2.2.1 pc L (.double x :: .int j :: .ref a :: S)) rfl rfl (hb hby hd)
  exact ⟨h', W', Arf.set ⟨cl, Ar, rfl, H⟩ W' hi, hx, hby, hml, hnm, hrt, hlk, vm0, k0, hS, (by rw [Wr.size W']; exact hk), hown, hZ, T', _, X', Fr.snoc X' N ga, e', fun t kt => st t (st' t kt)⟩
theorem Run.newarr {a0 : Array Value} {aty : ArrayType} {n : Int32} {ad : String} (K : Run C R Z n0 own nm ret bytes mx h cells slots pc L (.int n :: S)) (hd : decode bytes pc = .ok (.newarray aty, 2)) (w : (Jvm.Cond.arrayClass (newarray.typeOf aty)).before a0 Z = true) (hn : ¬ n < 0) (z : Nat) (hz : n.toNatClampNeg = z) (cap : Nat) (hcap : z ≤ cap) (hb8 : cap * 8 ≤ 536870912) (hc : cells + 1 ≤ R.cells) (hl : slots + cap ≤ R.slots) (had : "[" ++ (newarray.typeOf aty).toString = ad) :
    ∃ (h' : Heap) (b : Addr), b = h.size ∧ Ext h h' ∧ Arf Z h' b (newarray.typeOf aty) z (fun _ => defaultValue (newarray.typeOf aty)) ∧ Exa Z h' b ad ∧ Run C R Z n0 own nm ret bytes mx h' (cells + 1) (slots + cap) (pc + 2) L (.ref b :: S) := by
  obtain ⟨hx, hby, hml, hnm, hrt, hlk, vm0, k0, hS, hk, hown, hZ, T, locs, X, N, eT, st⟩ := K
  subst hz
  obtain ⟨T', h', cA, X', e', E', A', Ex', st'⟩ := RoadKit.newPE X hx hZ w eT (g := mkF C.2.2.2.2.1 pc L (.int n :: S)) rfl (hb hby hd) rfl hn hcap hb8 hc hl had
  exact ⟨h', _, rfl, E', ⟨_, A', sz_new _ _ _, fun i hi => by simp [newA, hi]⟩, Ex', hx, hby, hml, hnm, hrt, hlk, vm0, k0, hS, Nat.le_trans hk E'.1, hown, hZ, T', _, X', N, e', fun t kt => st t (st' t kt)⟩
theorem Run.clone {a0 : Array Value} {index W : Nat} {ad : String} {a : Addr} {ty : FieldType} {n : Nat} {f : Nat → Value} (K : Run C R Z n0 own nm ret bytes mx h cells slots pc L (.ref a :: S)) (hd : decode bytes pc = .ok (.invokevirtual index, 3))
    (w1 : (Jvm.Cond.methodLink own index ⟨ad, "clone", "()Ljava/lang/Object;"⟩).before a0 Z = true) (w2 : (Jvm.Cond.sameMethod ad "java/lang/Object" "clone" "()Ljava/lang/Object;").before a0 Z = true) (w3 : (Jvm.Cond.native ⟨"java/lang/Object", "clone", "()Ljava/lang/Object;"⟩).before a0 Z = true)
    (w4 : (Jvm.Cond.instanceMethod ⟨"java/lang/Object", "clone", "()Ljava/lang/Object;"⟩).before a0 Z = true) (w5 : (Jvm.Cond.selects ad ⟨ad, "clone", "()Ljava/lang/Object;"⟩ ⟨"java/lang/Object", "clone", "()Ljava/lang/Object;"⟩).before a0 Z = true) (w6 : (Jvm.Cond.castable ad "java/lang/Cloneable").before a0 Z = true)
    (F : Arf Z h a ty n f) (hfit : ∀ i, i < n → fits ty (f i) = true) (E : Exa Z h a ad) (cap : Nat) (hcap : n ≤ cap) (hW : (S.map fun v => v.category).sum = W) (hLs : L.size = mx) (hf : 1 ≤ R.frames) (hl : W + 14 ≤ R.locals) (hc : cells + 1 ≤ R.cells) (hsl : slots + cap ≤ R.slots) :
    ∃ (h' : Heap) (b : Addr), b = h.size ∧ Ext h h' ∧ Arf Z h' b ty n f ∧ Exa Z h' b ad ∧ Run C R Z n0 own nm ret bytes mx h' (cells + 1) (slots + cap) (pc + 3) L (.ref b :: S) := by
  obtain ⟨hx, hby, hml, hnm, hrt, hlk, vm0, k0, hS, hk, hown, hZ, T, locs, X, N, eT, st⟩ := K
  obtain ⟨cl, Ar, Sz, H⟩ := F
  subst Sz
  have FC : FitC Z cl := fitC_of Ar fun i hi v hv => by rw [H i hi] at hv; cases hv; exact hfit i hi
  obtain ⟨T', h', X', e', ex, A', E', st'⟩ := cloneA X hx hZ hown w1 w2 w3 w4 w5 w6 eT Ar E FC (g := mkF C.2.2.2.2.1 pc L (.ref a :: S)) rfl (by rw [hml]; exact hLs) rfl (hb hby hd) hf (W := W) (cap := cap) (by show 2 * 0 + _ ≤ _; omega) hl hcap hc hsl
  exact ⟨h', _, rfl, ex, ⟨cloneOf cl, A', rfl, H⟩, E', hx, hby, hml, hnm, hrt, hlk, vm0, k0, hS, Nat.le_trans hk ex.1, hown, hZ, T', _, X', N, e', fun t kt => st t (st' t kt)⟩
theorem Run.instY {a0 : Array Value} {index : Nat} {Kl : String} {a : Addr} (K : Run C R Z n0 own nm ret bytes mx h cells slots pc L (.ref a :: S)) (hd : decode bytes pc = .ok (.instanceof index, 3)) (w : (Jvm.Cond.classLink own index Kl).before a0 Z = true) (F : Ins Z h a Kl true) : Run C R Z n0 own nm ret bytes mx h cells slots (pc + 3) L (.int (1 : Int32) :: S) := by
  obtain ⟨hx, hby, hml, hnm, hrt, hlk, vm0, k0, hS, hk, hown, hZ, T, locs, X, N, eT, st⟩ := K
  obtain ⟨T', X', e', st'⟩ := RoadKit.instY X hx hZ hown w eT F (g := mkF C.2.2.2.2.1 pc L (.ref a :: S)) rfl rfl (hb hby hd)
  exact ⟨hx, hby, hml, hnm, hrt, hlk, vm0, k0, hS, hk, hown, hZ, T', locs, X', N, e', fun t kt => st t (st' t kt)⟩
theorem Run.castNull {index : Nat} (K : Run C R Z n0 own nm ret bytes mx h cells slots pc L (.null :: S)) (hd : decode bytes pc = .ok (.checkcast index, 3)) : Run C R Z n0 own nm ret bytes mx h cells slots (pc + 3) L (.null :: S) := by
  obtain ⟨hx, hby, hml, hnm, hrt, hlk, vm0, k0, hS, hk, hown, hZ, T, locs, X, N, eT, st⟩ := K
  exact ⟨hx, hby, hml, hnm, hrt, hlk, vm0, k0, hS, hk, hown, hZ, T, locs, X, N, eT, fun t kt => st t (X.checkcastNull hx (g := mkF C.2.2.2.2.1 pc L (.null :: S)) rfl rfl (hb hby hd) t kt)⟩
theorem Run.lswHit {x : Int32} {dflt : Int} {pairs : Array (Int × Int)} {len : Nat} {b off : Int} {pc' : Nat} (K : Run C R Z n0 own nm ret bytes mx h cells slots pc L (.int x :: S)) (hd : decode bytes pc = .ok (.lookupswitch dflt pairs, len)) (hsorted : (pairs.toList.zip (pairs.toList.drop 1)).all (fun (a, next) => a.1 < next.1) = true) (hfind : pairs.find? (·.1 == x.toInt) = some (b, off)) (ho : 0 ≤ (pc : Int) + off) (hp : ((pc : Int) + off).toNat = pc') : Run C R Z n0 own nm ret bytes mx h cells slots pc' L S := by
  obtain ⟨hx, hby, hml, hnm, hrt, hlk, vm0, k0, hS, hk, hown, hZ, T, locs, X, N, eT, st⟩ := K
  subst hp
  exact ⟨hx, hby, hml, hnm, hrt, hlk, vm0, k0, hS, hk, hown, hZ, T, locs, X, N, eT, fun t kt => st t (X.lookupswitchHit hx (g := mkF C.2.2.2.2.1 pc L (.int x :: S)) rfl rfl (hb hby hd) hsorted hfind ho t kt)⟩
theorem Run.lswMiss {x : Int32} {dflt : Int} {pairs : Array (Int × Int)} {len : Nat} {pc' : Nat} (K : Run C R Z n0 own nm ret bytes mx h cells slots pc L (.int x :: S)) (hd : decode bytes pc = .ok (.lookupswitch dflt pairs, len)) (hsorted : (pairs.toList.zip (pairs.toList.drop 1)).all (fun (a, next) => a.1 < next.1) = true) (hfind : ∀ p ∈ pairs.toList, p.1 ≠ x.toInt) (ho : 0 ≤ (pc : Int) + dflt) (hp : ((pc : Int) + dflt).toNat = pc') : Run C R Z n0 own nm ret bytes mx h cells slots pc' L S := by
  obtain ⟨hx, hby, hml, hnm, hrt, hlk, vm0, k0, hS, hk, hown, hZ, T, locs, X, N, eT, st⟩ := K
  subst hp
  exact ⟨hx, hby, hml, hnm, hrt, hlk, vm0, k0, hS, hk, hown, hZ, T, locs, X, N, eT, fun t kt => st t (X.lookupswitchMiss hx (g := mkF C.2.2.2.2.1 pc L (.int x :: S)) rfl rfl (hb hby hd) hsorted (find_miss hfind) ho t kt)⟩
theorem Run.ldcStr {a0 : Array Value} {index : Nat} {text : String} (K : Run C R Z n0 own nm ret bytes mx h cells slots pc L S) (hd : decode bytes pc = .ok (.ldc index, 2)) (w : (Jvm.Cond.stringLink own index text).before a0 Z = true) (wS : ∀ a ∈ Bundle.stringAtoms, a.before a0 Z = true) (n : Nat) (hn : 4 * text.toList.length ≤ n) (hbig : n ≤ 536870912) (hc : cells + 2 ≤ R.cells) (hl : slots + (n + 4) ≤ R.slots) :
    ∃ (h' : Heap) (b : Addr), Ext h h' ∧ Run C R Z n0 own nm ret bytes mx h' (cells + 2) (slots + (n + 4)) (pc + 2) L (.ref b :: S) := by
  obtain ⟨hx, hby, hml, hnm, hrt, hlk, vm0, k0, hS, hk, hown, hZ, T, locs, X, N, eT, st⟩ := K
  obtain ⟨b, T', h', k1, X', e', E', hS', hk', hZ', hown', st'⟩ := RoadKit.ldcS X hx hZ hown w wS eT hS hk (g := mkF C.2.2.2.2.1 pc L S) rfl (hb hby hd) hn hbig hc hl
  exact ⟨h', b, E', hx, hby, hml, hnm, hrt, hlk, _, k1, hS', hk', hown', hZ', T', _, X', N, e', fun t kt => st t (st' t kt)⟩
end Steps
end Jvm.Own


namespace Jvm.Pilot.@@N@@
open Jvm Jvm.ClassFile Sem Op Lib Jvm.Free Jvm.Stand Jvm.LawKit Jvm.RoadKit Jvm.Own Bundle Jvm.Pilot.@@N@@.Jvm.D
theorem pd_0 : parseMethodDescriptor "(Ljava/lang/Object;Ljava/lang/String;)Ljava/lang/Object;" = some ⟨[(.object "java/lang/Object"), (.object "java/lang/String")], some (.object "java/lang/Object")⟩ := by decide +kernel
theorem pd_1 : parseMethodDescriptor "(Lcom/example/mipart/mipart/model/Result$Status;[BLcom/example/mipart/mipart/model/Lease;I)V" = some ⟨[(.object "com/example/mipart/mipart/model/Result$Status"), (.array .byte), (.object "com/example/mipart/mipart/model/Lease"), .int], none⟩ := by decide +kernel
theorem pd_2 : parseMethodDescriptor "(IBBB)[B" = some ⟨[.int, .byte, .byte, .byte], some (.array .byte)⟩ := by decide +kernel
theorem pd_3 : parseMethodDescriptor "(Lcom/example/mipart/mipart/model/Result$Status;[B)V" = some ⟨[(.object "com/example/mipart/mipart/model/Result$Status"), (.array .byte)], none⟩ := by decide +kernel
theorem pd_4 : parseMethodDescriptor "()[B" = some ⟨[], some (.array .byte)⟩ := by decide +kernel
theorem pd_5 : parseMethodDescriptor "([BIBBB)Z" = some ⟨[(.array .byte), .int, .byte, .byte, .byte], some .boolean⟩ := by decide +kernel
def own_arr (l : List Int32) (i : Nat) : Value := .int (l.getD i 0)
theorem own_i2b (x : Int32) : x.toInt8.toInt32.toInt8.toInt32 = x.toInt8.toInt32 := by simp

section Narrow
variable {args : Array Value} {first s : State} {o : Option Outcome} {idx : List Nat} {t u : Term}
theorem own_eqv {n : Int32} (h : (Jvm.Cond.eq t (.int n)).value args first o s idx = some true) : t.eval args first o idx s = some (.int n) := by
  cases ht : t.eval args first o idx s with
  | none => simp [Cond.value, ht] at h
  | some x => cases x <;> simp [Cond.value, Term.int_eval, ht] at h ⊢; exact h
theorem own_ne0 {z n : Int32} (ev : t.eval args first o idx s = some (.int z)) (h : (Jvm.Cond.eq t (.int n)).value args first o s idx = some false) : ¬ (z = n) := by
  intro q; subst q
  simp [Cond.value, Term.int_eval, ev] at h
theorem own_eqr {b : Addr} (hu : u.eval args first o idx s = some (.ref b)) (h : (Jvm.Cond.eq t u).value args first o s idx = some true) : t.eval args first o idx s = some (.ref b) := by
  cases ht : t.eval args first o idx s with
  | none => simp [Cond.value, ht] at h
  | some x => cases x <;> simp [Cond.value, hu, ht] at h ⊢; exact h
theorem own_len {a : Addr} {cl : Cell} {ty : FieldType} {n : Int32} {k : Nat} (ev : t.eval args s none [] s = some (.ref a)) (A : Arr s s.heap a cl ty) (h : (Term.length t).eval args s none [] s = some (.int n)) (hk : n.toInt = (k : Int)) : cl.slots.size = k := by
  have q : s.arrayAt? a = some cl := A.fin (Vm.Alike.refl _)
  simp [Term.eval, ev, q] at h
  have r := len_toInt h.1
  rw [h.2, hk] at r
  omega
end Narrow
theorem own_cg1 {f : Nat → Value} {v0 : Int32} (i : Nat) (hi : i < 1) : (updV f 0 (.int v0)) i = own_arr [v0] i := by
  match i, hi with
  | 0, _ => rfl
theorem own_cg2 {f : Nat → Value} {v0 v1 : Int32} (i : Nat) (hi : i < 2) : (updV (updV f 0 (.int v0)) 1 (.int v1)) i = own_arr [v0, v1] i := by
  match i, hi with
  | 0, _ => rfl
  | 1, _ => rfl
theorem own_cg3 {f : Nat → Value} {v0 v1 v2 : Int32} (i : Nat) (hi : i < 3) : (updV (updV (updV f 0 (.int v0)) 1 (.int v1)) 2 (.int v2)) i = own_arr [v0, v1, v2] i := by
  match i, hi with
  | 0, _ => rfl
  | 1, _ => rfl
  | 2, _ => rfl
theorem own_sa : ∀ a ∈ Bundle.stringAtoms, a ∈ tables_1 := by decide +kernel
theorem own_fit0 (x y z : Int32) : ∀ i, i < 0 → fits .byte (own_arr [] i) = true := by
  intro i hi
  exact absurd hi (Nat.not_lt_zero _)
theorem own_fit1 (x y z : Int32) : ∀ i, i < 1 → fits .byte (own_arr [x.toInt8.toInt32] i) = true := by
  intro i hi
  match i, hi with
  | 0, _ => exact fits_nar_byte _
theorem own_fit2 (x y z : Int32) : ∀ i, i < 2 → fits .byte (own_arr [x.toInt8.toInt32, y.toInt8.toInt32] i) = true := by
  intro i hi
  match i, hi with
  | 0, _ => exact fits_nar_byte _
  | 1, _ => exact fits_nar_byte _
theorem own_fit3 (x y z : Int32) : ∀ i, i < 3 → fits .byte (own_arr [x.toInt8.toInt32, y.toInt8.toInt32, z.toInt8.toInt32] i) = true := by
  intro i hi
  match i, hi with
  | 0, _ => exact fits_nar_byte _
  | 1, _ => exact fits_nar_byte _
  | 2, _ => exact fits_nar_byte _
theorem own_and3 (x : Int32) : (x &&& (3 : Int32)) = 0 ∨ (x &&& (3 : Int32)) = 1 ∨ (x &&& (3 : Int32)) = 2 ∨ (x &&& (3 : Int32)) = 3 := by
  have h1 := c_mask x 3 2 (by decide) (by decide)
  simp only [← Int32.toInt_inj]
  have e0 : (0 : Int32).toInt = 0 := by decide
  have e1 : (1 : Int32).toInt = 1 := by decide
  have e2 : (2 : Int32).toInt = 2 := by decide
  have e3 : (3 : Int32).toInt = 3 := by decide
  have p : (2 ^ 2 : Nat) = 4 := by decide
  rw [e0, e1, e2, e3, h1, p]
  omega
theorem d5_0 : decode jdk_31_method_11_code 0 = .ok (.aload_n 0, 1) := by decide +kernel
theorem d5_1 : decode jdk_31_method_11_code 1 = .ok (.ifnonnull 12, 3) := by decide +kernel
theorem d5_13 : decode jdk_31_method_11_code 13 = .ok (.aload_n 0, 1) := by decide +kernel
theorem d5_14 : decode jdk_31_method_11_code 14 = .ok (.areturn, 1) := by decide +kernel
set_option maxRecDepth 65536 in
set_option maxHeartbeats 40000000 in
theorem rm5 (Z : State) (a0 : Array Value) (hw : ∀ d ∈ tables_1, d.before a0 Z = true) (a1 a2 : Addr) (h0 : Heap) (n0 : Nat)  :
    Con Z n0 (⟨"java/util/Objects", "requireNonNull", "(Ljava/lang/Object;Ljava/lang/String;)Ljava/lang/Object;"⟩ : MethodName) jdk_31_method_11_code 2 (some (.object "java/lang/Object")) [] ({ frames := 0, cells := 0, slots := 0, locals := 0 } : Room) #[(.ref a1), (.ref a2)] h0 (fun v h => v = some (.ref a1) ∧ h0 = h) := by
  refine Con.intro (L0 := #[.val (.ref a1), .val (.ref a2)]) (plainFor_of_name (by first | (simp [plainName, overriddenIn]; done) | decide +kernel)) (fun m => by first | (simp [entryFrame, mkF, argsToLocals, Value.category]; done) | rfl) ?_
  intro C k
  replace k := k.aloadN d5_0 rfl rfl
  replace k := k.ifnonnullYes (pc' := 13) d5_1 (by decide) (by decide)
  replace k := k.aloadN d5_13 rfl rfl
  exact k.aret d5_14 rfl rfl rfl rfl ⟨rfl, rfl⟩ (by decide) (by decide)

theorem d3_0 : decode prog_49_method_2_code 0 = .ok (.aload_n 0, 1) := by decide +kernel
theorem d3_1 : decode prog_49_method_2_code 1 = .ok (.invokespecial 13, 3) := by decide +kernel
theorem d3_4 : decode prog_49_method_2_code 4 = .ok (.aload_n 0, 1) := by decide +kernel
theorem d3_5 : decode prog_49_method_2_code 5 = .ok (.aload_n 1, 1) := by decide +kernel
theorem d3_6 : decode prog_49_method_2_code 6 = .ok (.ldc 18, 2) := by decide +kernel
theorem d3_8 : decode prog_49_method_2_code 8 = .ok (.invokestatic 20, 3) := by decide +kernel
theorem d3_11 : decode prog_49_method_2_code 11 = .ok (.checkcast 26, 3) := by decide +kernel
theorem d3_14 : decode prog_49_method_2_code 14 = .ok (.putfield 28, 3) := by decide +kernel
theorem d3_17 : decode prog_49_method_2_code 17 = .ok (.aload_n 0, 1) := by decide +kernel
theorem d3_18 : decode prog_49_method_2_code 18 = .ok (.aload_n 2, 1) := by decide +kernel
theorem d3_19 : decode prog_49_method_2_code 19 = .ok (.putfield 31, 3) := by decide +kernel
theorem d3_22 : decode prog_49_method_2_code 22 = .ok (.aload_n 0, 1) := by decide +kernel
theorem d3_23 : decode prog_49_method_2_code 23 = .ok (.aload_n 3, 1) := by decide +kernel
theorem d3_24 : decode prog_49_method_2_code 24 = .ok (.putfield 34, 3) := by decide +kernel
theorem d3_27 : decode prog_49_method_2_code 27 = .ok (.aload_n 0, 1) := by decide +kernel
theorem d3_28 : decode prog_49_method_2_code 28 = .ok (.iload 4, 2) := by decide +kernel
theorem d3_30 : decode prog_49_method_2_code 30 = .ok (.putfield 38, 3) := by decide +kernel
theorem d3_33 : decode prog_49_method_2_code 33 = .ok (.return_, 1) := by decide +kernel
set_option maxRecDepth 65536 in
set_option maxHeartbeats 40000000 in
theorem rm3_null (Z : State) (a0 : Array Value) (hw : ∀ d ∈ tables_1, d.before a0 Z = true) (a1 a2 a3 : Addr) (h0 : Heap) (n0 : Nat) (g1 : n0 ≤ a1) (E1 : Exa Z h0 a1 "com/example/mipart/mipart/model/Result") (E2 : Exa Z h0 a2 "com/example/mipart/mipart/model/Result$Status") (F0 : Fld Z h0 a1 "com/example/mipart/mipart/model/Result" "status" "Lcom/example/mipart/mipart/model/Result$Status;" .null) (F1 : Fld Z h0 a1 "com/example/mipart/mipart/model/Result" "value" "[B" .null) (F2 : Fld Z h0 a1 "com/example/mipart/mipart/model/Result" "lease" "Lcom/example/mipart/mipart/model/Lease;" .null) (F3 : Fld Z h0 a1 "com/example/mipart/mipart/model/Result" "queueLength" "I" (.int (0 : Int32))) :
    Con Z n0 (⟨"com/example/mipart/mipart/model/Result", "<init>", "(Lcom/example/mipart/mipart/model/Result$Status;[BLcom/example/mipart/mipart/model/Lease;I)V"⟩ : MethodName) prog_49_method_2_code 5 none [] ({ frames := 1, cells := 2, slots := 28, locals := 14 } : Room) #[(.ref a1), (.ref a2), .null, .null, (.int (-1 : Int32))] h0 (fun v h => v = none ∧ Keep h0 h [a1] ∧ Fld Z h a1 "com/example/mipart/mipart/model/Result" "value" "[B" .null) := by
  refine Con.intro (L0 := #[.val (.ref a1), .val (.ref a2), .val .null, .val .null, .val (.int (-1 : Int32))]) (plainFor_of_name (by first | (simp [plainName, overriddenIn]; done) | decide +kernel)) (fun m => by first | (simp [entryFrame, mkF, argsToLocals, Value.category]; done) | rfl) ?_
  intro C k
  replace k := k.aloadN d3_0 rfl rfl
  replace k := k.initO (W := 0) d3_1 (hw _ (List.mem_of_getElem? (i := 26) rfl)) (hw _ (List.mem_of_getElem? (i := 27) rfl)) (hw _ (List.mem_of_getElem? (i := 28) rfl)) rfl rfl (by decide) (by decide)
  replace k := k.aloadN d3_4 rfl rfl
  replace k := k.aloadN d3_5 rfl rfl
  obtain ⟨h101, b101, E101, k⟩ := k.ldcStr d3_6 (hw _ (List.mem_of_getElem? (i := 29) rfl)) (fun a ha => hw a (own_sa a ha)) 24 (by decide) (by decide) (by decide) (by decide)
  have K101 : Keep h0 h101 [a1] := (Keep.refl h0 ([a1] : List Addr)).ext E101
  obtain ⟨_, _, ⟨rfl, rfl⟩, k⟩ := k.callS (y := (⟨"java/util/Objects", "requireNonNull", "(Ljava/lang/Object;Ljava/lang/String;)Ljava/lang/Object;"⟩ : MethodName)) d3_8 (hw _ (List.mem_of_getElem? (i := 36) rfl)) (hw _ (List.mem_of_getElem? (i := 37) rfl)) (hw _ (List.mem_of_getElem? (i := 38) rfl)) (hw _ (List.mem_of_getElem? (i := 39) rfl)) (W := 1) (argsL := [(.ref a2), (.ref b101)]) (rest := [(.ref a1)]) (rm5 Z a0 hw a2 b101 h101 n0) rfl (pd_0) rfl rfl rfl (by decide) (by decide) (by decide) (by decide) (by decide)
  replace k := k.stk [(.ref a2), (.ref a1)] rfl
  replace k := k.castY d3_11 (hw _ (List.mem_of_getElem? (i := 40) rfl)) (Ins.self (Exa.ext E101 E2))
  obtain ⟨h102, W102, k⟩ := k.putF d3_14 (host := "") (Or.inl (hw _ (List.mem_of_getElem? (i := 42) rfl))) Via.refl (Fld.ext E101 F0) (Exa.ext E101 E1) (Or.inr ⟨(hw _ (List.mem_of_getElem? (i := 43) rfl)), rfl, rfl⟩) (hw _ (List.mem_of_getElem? (i := 9) rfl)) (ty := (.object "com/example/mipart/mipart/model/Result$Status")) (by decide) rfl rfl g1
  have Fw102 := Fld.same W102 (Fld.ext E101 F0)
  have K102 : Keep h0 h102 [a1] := K101.wr W102 (Or.inl (List.mem_of_getElem? (i := 0) rfl))
  replace k := k.aloadN d3_17 rfl rfl
  replace k := k.aloadN d3_18 rfl rfl
  obtain ⟨h103, W103, k⟩ := k.putF d3_19 (host := "") (Or.inl (hw _ (List.mem_of_getElem? (i := 44) rfl))) Via.refl (Fld.other W102 (Fld.ext E101 F1) (Or.inr (slot_ne (Or.inr (hw _ (List.mem_of_getElem? (i := 45) rfl))) (Or.inr (hw _ (List.mem_of_getElem? (i := 43) rfl))) (by decide) (t := (.array .byte)) (t' := (.object "com/example/mipart/mipart/model/Result$Status")) (by decide) (by decide)))) (Exa.wr W102 (Exa.ext E101 E1)) (Or.inr ⟨(hw _ (List.mem_of_getElem? (i := 45) rfl)), rfl, rfl⟩) (hw _ (List.mem_of_getElem? (i := 9) rfl)) (ty := (.array .byte)) (by decide) rfl rfl g1
  have Fw103 := Fld.same W103 (Fld.other W102 (Fld.ext E101 F1) (Or.inr (slot_ne (Or.inr (hw _ (List.mem_of_getElem? (i := 45) rfl))) (Or.inr (hw _ (List.mem_of_getElem? (i := 43) rfl))) (by decide) (t := (.array .byte)) (t' := (.object "com/example/mipart/mipart/model/Result$Status")) (by decide) (by decide))))
  have K103 : Keep h0 h103 [a1] := K102.wr W103 (Or.inl (List.mem_of_getElem? (i := 0) rfl))
  replace k := k.aloadN d3_22 rfl rfl
  replace k := k.aloadN d3_23 rfl rfl
  obtain ⟨h104, W104, k⟩ := k.putF d3_24 (host := "") (Or.inl (hw _ (List.mem_of_getElem? (i := 46) rfl))) Via.refl (Fld.other W103 (Fld.other W102 (Fld.ext E101 F2) (Or.inr (slot_ne (Or.inr (hw _ (List.mem_of_getElem? (i := 47) rfl))) (Or.inr (hw _ (List.mem_of_getElem? (i := 43) rfl))) (by decide) (t := (.object "com/example/mipart/mipart/model/Lease")) (t' := (.object "com/example/mipart/mipart/model/Result$Status")) (by decide) (by decide)))) (Or.inr (slot_ne (Or.inr (hw _ (List.mem_of_getElem? (i := 47) rfl))) (Or.inr (hw _ (List.mem_of_getElem? (i := 45) rfl))) (by decide) (t := (.object "com/example/mipart/mipart/model/Lease")) (t' := (.array .byte)) (by decide) (by decide)))) (Exa.wr W103 (Exa.wr W102 (Exa.ext E101 E1))) (Or.inr ⟨(hw _ (List.mem_of_getElem? (i := 47) rfl)), rfl, rfl⟩) (hw _ (List.mem_of_getElem? (i := 9) rfl)) (ty := (.object "com/example/mipart/mipart/model/Lease")) (by decide) rfl rfl g1
  have Fw104 := Fld.same W104 (Fld.other W103 (Fld.other W102 (Fld.ext E101 F2) (Or.inr (slot_ne (Or.inr (hw _ (List.mem_of_getElem? (i := 47) rfl))) (Or.inr (hw _ (List.mem_of_getElem? (i := 43) rfl))) (by decide) (t := (.object "com/example/mipart/mipart/model/Lease")) (t' := (.object "com/example/mipart/mipart/model/Result$Status")) (by decide) (by decide)))) (Or.inr (slot_ne (Or.inr (hw _ (List.mem_of_getElem? (i := 47) rfl))) (Or.inr (hw _ (List.mem_of_getElem? (i := 45) rfl))) (by decide) (t := (.object "com/example/mipart/mipart/model/Lease")) (t' := (.array .byte)) (by decide) (by decide))))
  have K104 : Keep h0 h104 [a1] := K103.wr W104 (Or.inl (List.mem_of_getElem? (i := 0) rfl))
  replace k := k.aloadN d3_27 rfl rfl
  replace k := k.iload d3_28 rfl
  obtain ⟨h105, W105, k⟩ := k.putF d3_30 (host := "") (Or.inl (hw _ (List.mem_of_getElem? (i := 48) rfl))) Via.refl (Fld.other W104 (Fld.other W103 (Fld.other W102 (Fld.ext E101 F3) (Or.inr (slot_ne (Or.inr (hw _ (List.mem_of_getElem? (i := 49) rfl))) (Or.inr (hw _ (List.mem_of_getElem? (i := 43) rfl))) (by decide) (t := .int) (t' := (.object "com/example/mipart/mipart/model/Result$Status")) (by decide) (by decide)))) (Or.inr (slot_ne (Or.inr (hw _ (List.mem_of_getElem? (i := 49) rfl))) (Or.inr (hw _ (List.mem_of_getElem? (i := 45) rfl))) (by decide) (t := .int) (t' := (.array .byte)) (by decide) (by decide)))) (Or.inr (slot_ne (Or.inr (hw _ (List.mem_of_getElem? (i := 49) rfl))) (Or.inr (hw _ (List.mem_of_getElem? (i := 47) rfl))) (by decide) (t := .int) (t' := (.object "com/example/mipart/mipart/model/Lease")) (by decide) (by decide)))) (Exa.wr W104 (Exa.wr W103 (Exa.wr W102 (Exa.ext E101 E1)))) (Or.inr ⟨(hw _ (List.mem_of_getElem? (i := 49) rfl)), rfl, rfl⟩) (hw _ (List.mem_of_getElem? (i := 9) rfl)) (ty := .int) (by decide) rfl rfl g1
  have Fw105 := Fld.same W105 (Fld.other W104 (Fld.other W103 (Fld.other W102 (Fld.ext E101 F3) (Or.inr (slot_ne (Or.inr (hw _ (List.mem_of_getElem? (i := 49) rfl))) (Or.inr (hw _ (List.mem_of_getElem? (i := 43) rfl))) (by decide) (t := .int) (t' := (.object "com/example/mipart/mipart/model/Result$Status")) (by decide) (by decide)))) (Or.inr (slot_ne (Or.inr (hw _ (List.mem_of_getElem? (i := 49) rfl))) (Or.inr (hw _ (List.mem_of_getElem? (i := 45) rfl))) (by decide) (t := .int) (t' := (.array .byte)) (by decide) (by decide)))) (Or.inr (slot_ne (Or.inr (hw _ (List.mem_of_getElem? (i := 49) rfl))) (Or.inr (hw _ (List.mem_of_getElem? (i := 47) rfl))) (by decide) (t := .int) (t' := (.object "com/example/mipart/mipart/model/Lease")) (by decide) (by decide))))
  have K105 : Keep h0 h105 [a1] := K104.wr W105 (Or.inl (List.mem_of_getElem? (i := 0) rfl))
  exact k.vret d3_33 rfl ⟨rfl, K105, (Fld.other W105 (Fld.other W104 Fw103 (Or.inr (slot_ne (Or.inr (hw _ (List.mem_of_getElem? (i := 45) rfl))) (Or.inr (hw _ (List.mem_of_getElem? (i := 47) rfl))) (by decide) (t := (.array .byte)) (t' := (.object "com/example/mipart/mipart/model/Lease")) (by decide) (by decide)))) (Or.inr (slot_ne (Or.inr (hw _ (List.mem_of_getElem? (i := 45) rfl))) (Or.inr (hw _ (List.mem_of_getElem? (i := 49) rfl))) (by decide) (t := (.array .byte)) (t' := .int) (by decide) (by decide))))⟩ (by decide) (by decide)

set_option maxRecDepth 65536 in
set_option maxHeartbeats 40000000 in
theorem rm3_ref (Z : State) (a0 : Array Value) (hw : ∀ d ∈ tables_1, d.before a0 Z = true) (a1 a2 a3 : Addr) (h0 : Heap) (n0 : Nat) (g1 : n0 ≤ a1) (E1 : Exa Z h0 a1 "com/example/mipart/mipart/model/Result") (E2 : Exa Z h0 a2 "com/example/mipart/mipart/model/Result$Status") (F0 : Fld Z h0 a1 "com/example/mipart/mipart/model/Result" "status" "Lcom/example/mipart/mipart/model/Result$Status;" .null) (F1 : Fld Z h0 a1 "com/example/mipart/mipart/model/Result" "value" "[B" .null) (F2 : Fld Z h0 a1 "com/example/mipart/mipart/model/Result" "lease" "Lcom/example/mipart/mipart/model/Lease;" .null) (F3 : Fld Z h0 a1 "com/example/mipart/mipart/model/Result" "queueLength" "I" (.int (0 : Int32))) :
    Con Z n0 (⟨"com/example/mipart/mipart/model/Result", "<init>", "(Lcom/example/mipart/mipart/model/Result$Status;[BLcom/example/mipart/mipart/model/Lease;I)V"⟩ : MethodName) prog_49_method_2_code 5 none [] ({ frames := 1, cells := 2, slots := 28, locals := 14 } : Room) #[(.ref a1), (.ref a2), (.ref a3), .null, (.int (-1 : Int32))] h0 (fun v h => v = none ∧ Keep h0 h [a1] ∧ Fld Z h a1 "com/example/mipart/mipart/model/Result" "value" "[B" (.ref a3)) := by
  refine Con.intro (L0 := #[.val (.ref a1), .val (.ref a2), .val (.ref a3), .val .null, .val (.int (-1 : Int32))]) (plainFor_of_name (by first | (simp [plainName, overriddenIn]; done) | decide +kernel)) (fun m => by first | (simp [entryFrame, mkF, argsToLocals, Value.category]; done) | rfl) ?_
  intro C k
  replace k := k.aloadN d3_0 rfl rfl
  replace k := k.initO (W := 0) d3_1 (hw _ (List.mem_of_getElem? (i := 26) rfl)) (hw _ (List.mem_of_getElem? (i := 27) rfl)) (hw _ (List.mem_of_getElem? (i := 28) rfl)) rfl rfl (by decide) (by decide)
  replace k := k.aloadN d3_4 rfl rfl
  replace k := k.aloadN d3_5 rfl rfl
  obtain ⟨h101, b101, E101, k⟩ := k.ldcStr d3_6 (hw _ (List.mem_of_getElem? (i := 29) rfl)) (fun a ha => hw a (own_sa a ha)) 24 (by decide) (by decide) (by decide) (by decide)
  have K101 : Keep h0 h101 [a1] := (Keep.refl h0 ([a1] : List Addr)).ext E101
  obtain ⟨_, _, ⟨rfl, rfl⟩, k⟩ := k.callS (y := (⟨"java/util/Objects", "requireNonNull", "(Ljava/lang/Object;Ljava/lang/String;)Ljava/lang/Object;"⟩ : MethodName)) d3_8 (hw _ (List.mem_of_getElem? (i := 36) rfl)) (hw _ (List.mem_of_getElem? (i := 37) rfl)) (hw _ (List.mem_of_getElem? (i := 38) rfl)) (hw _ (List.mem_of_getElem? (i := 39) rfl)) (W := 1) (argsL := [(.ref a2), (.ref b101)]) (rest := [(.ref a1)]) (rm5 Z a0 hw a2 b101 h101 n0) rfl (pd_0) rfl rfl rfl (by decide) (by decide) (by decide) (by decide) (by decide)
  replace k := k.stk [(.ref a2), (.ref a1)] rfl
  replace k := k.castY d3_11 (hw _ (List.mem_of_getElem? (i := 40) rfl)) (Ins.self (Exa.ext E101 E2))
  obtain ⟨h102, W102, k⟩ := k.putF d3_14 (host := "") (Or.inl (hw _ (List.mem_of_getElem? (i := 42) rfl))) Via.refl (Fld.ext E101 F0) (Exa.ext E101 E1) (Or.inr ⟨(hw _ (List.mem_of_getElem? (i := 43) rfl)), rfl, rfl⟩) (hw _ (List.mem_of_getElem? (i := 9) rfl)) (ty := (.object "com/example/mipart/mipart/model/Result$Status")) (by decide) rfl rfl g1
  have Fw102 := Fld.same W102 (Fld.ext E101 F0)
  have K102 : Keep h0 h102 [a1] := K101.wr W102 (Or.inl (List.mem_of_getElem? (i := 0) rfl))
  replace k := k.aloadN d3_17 rfl rfl
  replace k := k.aloadN d3_18 rfl rfl
  obtain ⟨h103, W103, k⟩ := k.putF d3_19 (host := "") (Or.inl (hw _ (List.mem_of_getElem? (i := 44) rfl))) Via.refl (Fld.other W102 (Fld.ext E101 F1) (Or.inr (slot_ne (Or.inr (hw _ (List.mem_of_getElem? (i := 45) rfl))) (Or.inr (hw _ (List.mem_of_getElem? (i := 43) rfl))) (by decide) (t := (.array .byte)) (t' := (.object "com/example/mipart/mipart/model/Result$Status")) (by decide) (by decide)))) (Exa.wr W102 (Exa.ext E101 E1)) (Or.inr ⟨(hw _ (List.mem_of_getElem? (i := 45) rfl)), rfl, rfl⟩) (hw _ (List.mem_of_getElem? (i := 9) rfl)) (ty := (.array .byte)) (by decide) rfl rfl g1
  have Fw103 := Fld.same W103 (Fld.other W102 (Fld.ext E101 F1) (Or.inr (slot_ne (Or.inr (hw _ (List.mem_of_getElem? (i := 45) rfl))) (Or.inr (hw _ (List.mem_of_getElem? (i := 43) rfl))) (by decide) (t := (.array .byte)) (t' := (.object "com/example/mipart/mipart/model/Result$Status")) (by decide) (by decide))))
  have K103 : Keep h0 h103 [a1] := K102.wr W103 (Or.inl (List.mem_of_getElem? (i := 0) rfl))
  replace k := k.aloadN d3_22 rfl rfl
  replace k := k.aloadN d3_23 rfl rfl
  obtain ⟨h104, W104, k⟩ := k.putF d3_24 (host := "") (Or.inl (hw _ (List.mem_of_getElem? (i := 46) rfl))) Via.refl (Fld.other W103 (Fld.other W102 (Fld.ext E101 F2) (Or.inr (slot_ne (Or.inr (hw _ (List.mem_of_getElem? (i := 47) rfl))) (Or.inr (hw _ (List.mem_of_getElem? (i := 43) rfl))) (by decide) (t := (.object "com/example/mipart/mipart/model/Lease")) (t' := (.object "com/example/mipart/mipart/model/Result$Status")) (by decide) (by decide)))) (Or.inr (slot_ne (Or.inr (hw _ (List.mem_of_getElem? (i := 47) rfl))) (Or.inr (hw _ (List.mem_of_getElem? (i := 45) rfl))) (by decide) (t := (.object "com/example/mipart/mipart/model/Lease")) (t' := (.array .byte)) (by decide) (by decide)))) (Exa.wr W103 (Exa.wr W102 (Exa.ext E101 E1))) (Or.inr ⟨(hw _ (List.mem_of_getElem? (i := 47) rfl)), rfl, rfl⟩) (hw _ (List.mem_of_getElem? (i := 9) rfl)) (ty := (.object "com/example/mipart/mipart/model/Lease")) (by decide) rfl rfl g1
  have Fw104 := Fld.same W104 (Fld.other W103 (Fld.other W102 (Fld.ext E101 F2) (Or.inr (slot_ne (Or.inr (hw _ (List.mem_of_getElem? (i := 47) rfl))) (Or.inr (hw _ (List.mem_of_getElem? (i := 43) rfl))) (by decide) (t := (.object "com/example/mipart/mipart/model/Lease")) (t' := (.object "com/example/mipart/mipart/model/Result$Status")) (by decide) (by decide)))) (Or.inr (slot_ne (Or.inr (hw _ (List.mem_of_getElem? (i := 47) rfl))) (Or.inr (hw _ (List.mem_of_getElem? (i := 45) rfl))) (by decide) (t := (.object "com/example/mipart/mipart/model/Lease")) (t' := (.array .byte)) (by decide) (by decide))))
  have K104 : Keep h0 h104 [a1] := K103.wr W104 (Or.inl (List.mem_of_getElem? (i := 0) rfl))
  replace k := k.aloadN d3_27 rfl rfl
  replace k := k.iload d3_28 rfl
  obtain ⟨h105, W105, k⟩ := k.putF d3_30 (host := "") (Or.inl (hw _ (List.mem_of_getElem? (i := 48) rfl))) Via.refl (Fld.other W104 (Fld.other W103 (Fld.other W102 (Fld.ext E101 F3) (Or.inr (slot_ne (Or.inr (hw _ (List.mem_of_getElem? (i := 49) rfl))) (Or.inr (hw _ (List.mem_of_getElem? (i := 43) rfl))) (by decide) (t := .int) (t' := (.object "com/example/mipart/mipart/model/Result$Status")) (by decide) (by decide)))) (Or.inr (slot_ne (Or.inr (hw _ (List.mem_of_getElem? (i := 49) rfl))) (Or.inr (hw _ (List.mem_of_getElem? (i := 45) rfl))) (by decide) (t := .int) (t' := (.array .byte)) (by decide) (by decide)))) (Or.inr (slot_ne (Or.inr (hw _ (List.mem_of_getElem? (i := 49) rfl))) (Or.inr (hw _ (List.mem_of_getElem? (i := 47) rfl))) (by decide) (t := .int) (t' := (.object "com/example/mipart/mipart/model/Lease")) (by decide) (by decide)))) (Exa.wr W104 (Exa.wr W103 (Exa.wr W102 (Exa.ext E101 E1)))) (Or.inr ⟨(hw _ (List.mem_of_getElem? (i := 49) rfl)), rfl, rfl⟩) (hw _ (List.mem_of_getElem? (i := 9) rfl)) (ty := .int) (by decide) rfl rfl g1
  have Fw105 := Fld.same W105 (Fld.other W104 (Fld.other W103 (Fld.other W102 (Fld.ext E101 F3) (Or.inr (slot_ne (Or.inr (hw _ (List.mem_of_getElem? (i := 49) rfl))) (Or.inr (hw _ (List.mem_of_getElem? (i := 43) rfl))) (by decide) (t := .int) (t' := (.object "com/example/mipart/mipart/model/Result$Status")) (by decide) (by decide)))) (Or.inr (slot_ne (Or.inr (hw _ (List.mem_of_getElem? (i := 49) rfl))) (Or.inr (hw _ (List.mem_of_getElem? (i := 45) rfl))) (by decide) (t := .int) (t' := (.array .byte)) (by decide) (by decide)))) (Or.inr (slot_ne (Or.inr (hw _ (List.mem_of_getElem? (i := 49) rfl))) (Or.inr (hw _ (List.mem_of_getElem? (i := 47) rfl))) (by decide) (t := .int) (t' := (.object "com/example/mipart/mipart/model/Lease")) (by decide) (by decide))))
  have K105 : Keep h0 h105 [a1] := K104.wr W105 (Or.inl (List.mem_of_getElem? (i := 0) rfl))
  exact k.vret d3_33 rfl ⟨rfl, K105, (Fld.other W105 (Fld.other W104 Fw103 (Or.inr (slot_ne (Or.inr (hw _ (List.mem_of_getElem? (i := 45) rfl))) (Or.inr (hw _ (List.mem_of_getElem? (i := 47) rfl))) (by decide) (t := (.array .byte)) (t' := (.object "com/example/mipart/mipart/model/Lease")) (by decide) (by decide)))) (Or.inr (slot_ne (Or.inr (hw _ (List.mem_of_getElem? (i := 45) rfl))) (Or.inr (hw _ (List.mem_of_getElem? (i := 49) rfl))) (by decide) (t := (.array .byte)) (t' := .int) (by decide) (by decide))))⟩ (by decide) (by decide)

theorem d2_0 : decode prog_49_method_1_code 0 = .ok (.aload_n 0, 1) := by decide +kernel
theorem d2_1 : decode prog_49_method_1_code 1 = .ok (.aload_n 1, 1) := by decide +kernel
theorem d2_2 : decode prog_49_method_1_code 2 = .ok (.aload_n 2, 1) := by decide +kernel
theorem d2_3 : decode prog_49_method_1_code 3 = .ok (.ifnonnull 7, 3) := by decide +kernel
theorem d2_6 : decode prog_49_method_1_code 6 = .ok (.aconst_null, 1) := by decide +kernel
theorem d2_7 : decode prog_49_method_1_code 7 = .ok (.goto 10, 3) := by decide +kernel
theorem d2_17 : decode prog_49_method_1_code 17 = .ok (.aconst_null, 1) := by decide +kernel
theorem d2_18 : decode prog_49_method_1_code 18 = .ok (.iconst (-1), 1) := by decide +kernel
theorem d2_19 : decode prog_49_method_1_code 19 = .ok (.invokespecial 9, 3) := by decide +kernel
theorem d2_22 : decode prog_49_method_1_code 22 = .ok (.return_, 1) := by decide +kernel
set_option maxRecDepth 65536 in
set_option maxHeartbeats 40000000 in
theorem rm2_null (Z : State) (a0 : Array Value) (hw : ∀ d ∈ tables_1, d.before a0 Z = true) (a1 a2 : Addr) (h0 : Heap) (n0 : Nat) (g1 : n0 ≤ a1) (E1 : Exa Z h0 a1 "com/example/mipart/mipart/model/Result") (E2 : Exa Z h0 a2 "com/example/mipart/mipart/model/Result$Status") (F0 : Fld Z h0 a1 "com/example/mipart/mipart/model/Result" "status" "Lcom/example/mipart/mipart/model/Result$Status;" .null) (F1 : Fld Z h0 a1 "com/example/mipart/mipart/model/Result" "value" "[B" .null) (F2 : Fld Z h0 a1 "com/example/mipart/mipart/model/Result" "lease" "Lcom/example/mipart/mipart/model/Lease;" .null) (F3 : Fld Z h0 a1 "com/example/mipart/mipart/model/Result" "queueLength" "I" (.int (0 : Int32))) :
    Con Z n0 (⟨"com/example/mipart/mipart/model/Result", "<init>", "(Lcom/example/mipart/mipart/model/Result$Status;[B)V"⟩ : MethodName) prog_49_method_1_code 3 none [] ({ frames := 2, cells := 2, slots := 28, locals := 30 } : Room) #[(.ref a1), (.ref a2), .null] h0 (fun v h => v = none ∧ Keep h0 h [a1] ∧ Fld Z h a1 "com/example/mipart/mipart/model/Result" "value" "[B" .null) := by
  refine Con.intro (L0 := #[.val (.ref a1), .val (.ref a2), .val .null]) (plainFor_of_name (by first | (simp [plainName, overriddenIn]; done) | decide +kernel)) (fun m => by first | (simp [entryFrame, mkF, argsToLocals, Value.category]; done) | rfl) ?_
  intro C k
  replace k := k.aloadN d2_0 rfl rfl
  replace k := k.aloadN d2_1 rfl rfl
  replace k := k.aloadN d2_2 rfl rfl
  replace k := k.ifnonnullNo d2_3
  replace k := k.aconstNull d2_6
  replace k := k.goto (pc' := 17) d2_7 (by decide) (by decide)
  replace k := k.aconstNull d2_17
  replace k := k.iconst (-1 : Int32) d2_18 rfl
  obtain ⟨_, hi101, ⟨rfl, Ki101, Fvi101⟩, k⟩ := k.callI (y := (⟨"com/example/mipart/mipart/model/Result", "<init>", "(Lcom/example/mipart/mipart/model/Result$Status;[BLcom/example/mipart/mipart/model/Lease;I)V"⟩ : MethodName)) (a := a1) d2_19 rfl (hw _ (List.mem_of_getElem? (i := 23) rfl)) (hw _ (List.mem_of_getElem? (i := 24) rfl)) (hw _ (List.mem_of_getElem? (i := 10) rfl)) (hw _ (List.mem_of_getElem? (i := 25) rfl)) (W := 0) (argsL := [(.ref a2), .null, .null, (.int (-1 : Int32))]) (rest := []) (rm3_null Z a0 hw a1 a2 0 h0 n0 g1 E1 E2 F0 F1 F2 F3) rfl (pd_1) rfl rfl rfl (by decide) (by decide) (by decide) (by decide) (by decide)
  have Kc102 : Keep h0 hi101 [a1] := (Keep.refl h0 ([a1] : List Addr)).trans Ki101 (allS (Or.inl (List.mem_of_getElem? (i := 0) rfl)) all0)
  replace k := k.stk [] rfl
  exact k.vret d2_22 rfl ⟨rfl, Kc102, Fvi101⟩ (by decide) (by decide)

theorem d2_10 : decode prog_49_method_1_code 10 = .ok (.aload_n 2, 1) := by decide +kernel
theorem d2_11 : decode prog_49_method_1_code 11 = .ok (.invokevirtual 1, 3) := by decide +kernel
theorem d2_14 : decode prog_49_method_1_code 14 = .ok (.checkcast 2, 3) := by decide +kernel
set_option maxRecDepth 65536 in
set_option maxHeartbeats 40000000 in
theorem rm2_ref (Z : State) (a0 : Array Value) (hw : ∀ d ∈ tables_1, d.before a0 Z = true) (a1 a2 a3 : Addr) (n1 : Nat) (f1 : Nat → Value) (h0 : Heap) (n0 : Nat) (Z0 : n0 ≤ h0.size) (g1 : n0 ≤ a1) (E1 : Exa Z h0 a1 "com/example/mipart/mipart/model/Result") (E2 : Exa Z h0 a2 "com/example/mipart/mipart/model/Result$Status") (F0 : Fld Z h0 a1 "com/example/mipart/mipart/model/Result" "status" "Lcom/example/mipart/mipart/model/Result$Status;" .null) (F1 : Fld Z h0 a1 "com/example/mipart/mipart/model/Result" "value" "[B" .null) (F2 : Fld Z h0 a1 "com/example/mipart/mipart/model/Result" "lease" "Lcom/example/mipart/mipart/model/Lease;" .null) (F3 : Fld Z h0 a1 "com/example/mipart/mipart/model/Result" "queueLength" "I" (.int (0 : Int32))) (hn1 : n1 ≤ 3) (hf1 : ∀ i, i < n1 → fits .byte (f1 i) = true) (A3 : Arf Z h0 a3 .byte n1 f1) (E3 : Exa Z h0 a3 "[B") :
    Con Z n0 (⟨"com/example/mipart/mipart/model/Result", "<init>", "(Lcom/example/mipart/mipart/model/Result$Status;[B)V"⟩ : MethodName) prog_49_method_1_code 3 none [] ({ frames := 2, cells := 3, slots := 31, locals := 30 } : Room) #[(.ref a1), (.ref a2), (.ref a3)] h0 (fun v h => v = none ∧ Keep h0 h [a1] ∧ ∃ t, n0 ≤ t ∧ h0.size ≤ t ∧ Fld Z h a1 "com/example/mipart/mipart/model/Result" "value" "[B" (.ref t) ∧ Arf Z h t .byte n1 f1 ∧ Exa Z h t "[B") := by
  refine Con.intro (L0 := #[.val (.ref a1), .val (.ref a2), .val (.ref a3)]) (plainFor_of_name (by first | (simp [plainName, overriddenIn]; done) | decide +kernel)) (fun m => by first | (simp [entryFrame, mkF, argsToLocals, Value.category]; done) | rfl) ?_
  intro C k
  replace k := k.aloadN d2_0 rfl rfl
  replace k := k.aloadN d2_1 rfl rfl
  replace k := k.aloadN d2_2 rfl rfl
  replace k := k.ifnonnullYes (pc' := 10) d2_3 (by decide) (by decide)
  replace k := k.aloadN d2_10 rfl rfl
  obtain ⟨h101, b101, g101, E101, A101, X101, k⟩ := k.clone (W := 2) d2_11 (hw _ (List.mem_of_getElem? (i := 14) rfl)) (hw _ (List.mem_of_getElem? (i := 15) rfl)) (hw _ (List.mem_of_getElem? (i := 19) rfl)) (hw _ (List.mem_of_getElem? (i := 17) rfl)) (hw _ (List.mem_of_getElem? (i := 18) rfl)) (hw _ (List.mem_of_getElem? (i := 20) rfl)) A3 hf1 E3 3 hn1 rfl rfl (by decide) (by decide) (by decide) (by decide)
  have ge_b101 : n0 ≤ b101 := Nat.le_trans Z0 (Nat.le_of_eq g101.symm)
  have sz_b101 : h0.size ≤ b101 := Nat.le_trans (Keep.refl h0 ([a1] : List Addr)).1 (Nat.le_of_eq g101.symm)
  have K101 : Keep h0 h101 [a1] := (Keep.refl h0 ([a1] : List Addr)).ext E101
  replace k := k.castY d2_14 (hw _ (List.mem_of_getElem? (i := 21) rfl)) (Ins.self X101)
  replace k := k.aconstNull d2_17
  replace k := k.iconst (-1 : Int32) d2_18 rfl
  obtain ⟨_, hi102, ⟨rfl, Ki102, Fvi102⟩, k⟩ := k.callI (y := (⟨"com/example/mipart/mipart/model/Result", "<init>", "(Lcom/example/mipart/mipart/model/Result$Status;[BLcom/example/mipart/mipart/model/Lease;I)V"⟩ : MethodName)) (a := a1) d2_19 rfl (hw _ (List.mem_of_getElem? (i := 23) rfl)) (hw _ (List.mem_of_getElem? (i := 24) rfl)) (hw _ (List.mem_of_getElem? (i := 10) rfl)) (hw _ (List.mem_of_getElem? (i := 25) rfl)) (W := 0) (argsL := [(.ref a2), (.ref b101), .null, (.int (-1 : Int32))]) (rest := []) (rm3_ref Z a0 hw a1 a2 b101 h101 n0 g1 (Exa.ext E101 E1) (Exa.ext E101 E2) (Fld.ext E101 F0) (Fld.ext E101 F1) (Fld.ext E101 F2) (Fld.ext E101 F3)) rfl (pd_1) rfl rfl rfl (by decide) (by decide) (by decide) (by decide) (by decide)
  have Kc103 : Keep h0 hi102 [a1] := K101.trans Ki102 (allS (Or.inl (List.mem_of_getElem? (i := 0) rfl)) all0)
  replace k := k.stk [] rfl
  exact k.vret d2_22 rfl ⟨rfl, Kc103, b101, ge_b101, sz_b101, Fvi102, (A101.keep Ki102 (ninS (Ne.symm (Nat.ne_of_lt (Nat.lt_of_lt_of_le E1.lt (Nat.le_of_eq g101.symm)))) nin0)), (X101.keep Ki102)⟩ (by decide) (by decide)

theorem d6_0 : decode prog_49_method_6_code 0 = .ok (.aload_n 0, 1) := by decide +kernel
theorem d6_1 : decode prog_49_method_6_code 1 = .ok (.getfield 31, 3) := by decide +kernel
theorem d6_4 : decode prog_49_method_6_code 4 = .ok (.ifnonnull 7, 3) := by decide +kernel
theorem d6_7 : decode prog_49_method_6_code 7 = .ok (.aconst_null, 1) := by decide +kernel
theorem d6_8 : decode prog_49_method_6_code 8 = .ok (.goto 13, 3) := by decide +kernel
theorem d6_21 : decode prog_49_method_6_code 21 = .ok (.areturn, 1) := by decide +kernel
set_option maxRecDepth 65536 in
set_option maxHeartbeats 40000000 in
theorem rm6_null (Z : State) (a0 : Array Value) (hw : ∀ d ∈ tables_1, d.before a0 Z = true) (a1 : Addr) (h0 : Heap) (n0 : Nat) (F1 : Fld Z h0 a1 "com/example/mipart/mipart/model/Result" "value" "[B" .null) :
    Con Z n0 (⟨"com/example/mipart/mipart/model/Result", "value", "()[B"⟩ : MethodName) prog_49_method_6_code 1 (some (.array .byte)) [] ({ frames := 0, cells := 0, slots := 0, locals := 0 } : Room) #[(.ref a1)] h0 (fun v h => v = some .null ∧ h0 = h) := by
  refine Con.intro (L0 := #[.val (.ref a1)]) (plainFor_of_name (by first | (simp [plainName, overriddenIn]; done) | decide +kernel)) (fun m => by first | (simp [entryFrame, mkF, argsToLocals, Value.category]; done) | rfl) ?_
  intro C k
  replace k := k.aloadN d6_0 rfl rfl
  replace k := k.getF d6_1 (host := "") (Or.inl (hw _ (List.mem_of_getElem? (i := 44) rfl))) Via.refl F1
  replace k := k.ifnonnullNo d6_4
  replace k := k.aconstNull d6_7
  replace k := k.goto (pc' := 21) d6_8 (by decide) (by decide)
  exact k.aret d6_21 rfl rfl rfl rfl ⟨rfl, rfl⟩ (by decide) (by decide)

theorem d6_11 : decode prog_49_method_6_code 11 = .ok (.aload_n 0, 1) := by decide +kernel
theorem d6_12 : decode prog_49_method_6_code 12 = .ok (.getfield 31, 3) := by decide +kernel
theorem d6_15 : decode prog_49_method_6_code 15 = .ok (.invokevirtual 1, 3) := by decide +kernel
theorem d6_18 : decode prog_49_method_6_code 18 = .ok (.checkcast 2, 3) := by decide +kernel
set_option maxRecDepth 65536 in
set_option maxHeartbeats 40000000 in
theorem rm6_ref (Z : State) (a0 : Array Value) (hw : ∀ d ∈ tables_1, d.before a0 Z = true) (a1 a3 : Addr) (n1 : Nat) (f1 : Nat → Value) (h0 : Heap) (n0 : Nat) (Z0 : n0 ≤ h0.size) (F1 : Fld Z h0 a1 "com/example/mipart/mipart/model/Result" "value" "[B" (.ref a3)) (hn1 : n1 ≤ 3) (hf1 : ∀ i, i < n1 → fits .byte (f1 i) = true) (A3 : Arf Z h0 a3 .byte n1 f1) (E3 : Exa Z h0 a3 "[B") :
    Con Z n0 (⟨"com/example/mipart/mipart/model/Result", "value", "()[B"⟩ : MethodName) prog_49_method_6_code 1 (some (.array .byte)) [] ({ frames := 1, cells := 1, slots := 3, locals := 14 } : Room) #[(.ref a1)] h0 (fun v h => ∃ b, v = some (.ref b) ∧ n0 ≤ b ∧ h0.size ≤ b ∧ Keep h0 h [] ∧ Arf Z h b .byte n1 f1) := by
  refine Con.intro (L0 := #[.val (.ref a1)]) (plainFor_of_name (by first | (simp [plainName, overriddenIn]; done) | decide +kernel)) (fun m => by first | (simp [entryFrame, mkF, argsToLocals, Value.category]; done) | rfl) ?_
  intro C k
  replace k := k.aloadN d6_0 rfl rfl
  replace k := k.getF d6_1 (host := "") (Or.inl (hw _ (List.mem_of_getElem? (i := 44) rfl))) Via.refl F1
  replace k := k.ifnonnullYes (pc' := 11) d6_4 (by decide) (by decide)
  replace k := k.aloadN d6_11 rfl rfl
  replace k := k.getF d6_12 (host := "") (Or.inl (hw _ (List.mem_of_getElem? (i := 44) rfl))) Via.refl F1
  obtain ⟨h101, b101, g101, E101, A101, X101, k⟩ := k.clone (W := 0) d6_15 (hw _ (List.mem_of_getElem? (i := 14) rfl)) (hw _ (List.mem_of_getElem? (i := 15) rfl)) (hw _ (List.mem_of_getElem? (i := 19) rfl)) (hw _ (List.mem_of_getElem? (i := 17) rfl)) (hw _ (List.mem_of_getElem? (i := 18) rfl)) (hw _ (List.mem_of_getElem? (i := 20) rfl)) A3 hf1 E3 3 hn1 rfl rfl (by decide) (by decide) (by decide) (by decide)
  have ge_b101 : n0 ≤ b101 := Nat.le_trans Z0 (Nat.le_of_eq g101.symm)
  have sz_b101 : h0.size ≤ b101 := Nat.le_trans (Keep.refl h0 ([] : List Addr)).1 (Nat.le_of_eq g101.symm)
  have K101 : Keep h0 h101 [] := (Keep.refl h0 ([] : List Addr)).ext E101
  replace k := k.castY d6_18 (hw _ (List.mem_of_getElem? (i := 21) rfl)) (Ins.self X101)
  exact k.aret d6_21 rfl rfl rfl rfl ⟨_, rfl, ge_b101, sz_b101, K101, A101⟩ (by decide) (by decide)

theorem d1_0 : decode method_3_code 0 = .ok (.iload_n 0, 1) := by decide +kernel
theorem d1_1 : decode method_3_code 1 = .ok (.ifCond .ne 7, 3) := by decide +kernel
theorem d1_4 : decode method_3_code 4 = .ok (.iconst 0, 1) := by decide +kernel
theorem d1_5 : decode method_3_code 5 = .ok (.newarray .byte, 2) := by decide +kernel
theorem d1_7 : decode method_3_code 7 = .ok (.areturn, 1) := by decide +kernel
set_option maxRecDepth 65536 in
set_option maxHeartbeats 40000000 in
theorem rm1_0 (Z : State) (a0 : Array Value) (hw : ∀ d ∈ tables_1, d.before a0 Z = true) (c0 c1 c2 : Int32) (h0 : Heap) (n0 : Nat) (Z0 : n0 ≤ h0.size) (hb0 : c0.toInt8.toInt32 = c0) (hb1 : c1.toInt8.toInt32 = c1) (hb2 : c2.toInt8.toInt32 = c2) :
    Con Z n0 (⟨"com/example/mipart/mipart/model/ResultValuePinLaw", "make", "(IBBB)[B"⟩ : MethodName) method_3_code 4 (some (.array .byte)) [] ({ frames := 0, cells := 1, slots := 0, locals := 0 } : Room) #[(.int (0 : Int32)), (.int c0), (.int c1), (.int c2)] h0 (fun v h => ∃ b, v = some (.ref b) ∧ n0 ≤ b ∧ h0.size ≤ b ∧ Keep h0 h [] ∧ Arf Z h b .byte 0 (own_arr []) ∧ Exa Z h b "[B") := by
  refine Con.intro (L0 := #[.val (.int (0 : Int32)), .val (.int c0), .val (.int c1), .val (.int c2)]) (plainFor_of_name (by first | (simp [plainName, overriddenIn]; done) | decide +kernel)) (fun m => by first | (simp [entryFrame, mkF, argsToLocals, Value.category]; done) | rfl) ?_
  intro C k
  replace k := k.iloadN d1_0 rfl
  replace k := k.ifNo d1_1 (by decide)
  replace k := k.iconst (0 : Int32) d1_4 rfl
  obtain ⟨h101, b101, g101, E101, A101, X101, k⟩ := k.newarr (ad := "[B") d1_5 (hw _ (List.mem_of_getElem? (i := 7) rfl)) (by decide) 0 (by decide) 0 (by decide) (by decide) (by decide) (by decide) (by decide)
  have ge_b101 : n0 ≤ b101 := Nat.le_trans Z0 (Nat.le_of_eq g101.symm)
  have sz_b101 : h0.size ≤ b101 := Nat.le_trans (Keep.refl h0 ([] : List Addr)).1 (Nat.le_of_eq g101.symm)
  have K101 : Keep h0 h101 [] := (Keep.refl h0 ([] : List Addr)).ext E101
  exact k.aret d1_7 rfl rfl rfl rfl ⟨_, rfl, ge_b101, sz_b101, K101, (A101.congr (fun i hi => absurd hi (Nat.not_lt_zero _))), X101⟩ (by decide) (by decide)

theorem d7_0 : decode method_4_code 0 = .ok (.aload_n 0, 1) := by decide +kernel
theorem d7_1 : decode method_4_code 1 = .ok (.ifnull 9, 3) := by decide +kernel
theorem d7_4 : decode method_4_code 4 = .ok (.aload_n 0, 1) := by decide +kernel
theorem d7_5 : decode method_4_code 5 = .ok (.arraylength, 1) := by decide +kernel
theorem d7_6 : decode method_4_code 6 = .ok (.iload_n 1, 1) := by decide +kernel
theorem d7_7 : decode method_4_code 7 = .ok (.if_icmp .eq 5, 3) := by decide +kernel
theorem d7_12 : decode method_4_code 12 = .ok (.iload_n 1, 1) := by decide +kernel
theorem d7_13 : decode method_4_code 13 = .ok (.iconst 1, 1) := by decide +kernel
theorem d7_14 : decode method_4_code 14 = .ok (.if_icmp .lt 10, 3) := by decide +kernel
theorem d7_24 : decode method_4_code 24 = .ok (.iload_n 1, 1) := by decide +kernel
theorem d7_25 : decode method_4_code 25 = .ok (.iconst 2, 1) := by decide +kernel
theorem d7_26 : decode method_4_code 26 = .ok (.if_icmp .lt 10, 3) := by decide +kernel
theorem d7_36 : decode method_4_code 36 = .ok (.iload_n 1, 1) := by decide +kernel
theorem d7_37 : decode method_4_code 37 = .ok (.iconst 3, 1) := by decide +kernel
theorem d7_38 : decode method_4_code 38 = .ok (.if_icmp .lt 11, 3) := by decide +kernel
theorem d7_49 : decode method_4_code 49 = .ok (.iconst 1, 1) := by decide +kernel
theorem d7_50 : decode method_4_code 50 = .ok (.goto 4, 3) := by decide +kernel
theorem d7_54 : decode method_4_code 54 = .ok (.ireturn, 1) := by decide +kernel
set_option maxRecDepth 65536 in
set_option maxHeartbeats 40000000 in
theorem rm7_0 (Z : State) (a0 : Array Value) (hw : ∀ d ∈ tables_1, d.before a0 Z = true) (a1 : Addr) (c0 c1 c2 : Int32) (h0 : Heap) (n0 : Nat) (A1 : Arf Z h0 a1 .byte 0 (own_arr [])) :
    Con Z n0 (⟨"com/example/mipart/mipart/model/ResultValuePinLaw", "same", "([BIBBB)Z"⟩ : MethodName) method_4_code 5 (some .boolean) [] ({ frames := 0, cells := 0, slots := 0, locals := 0 } : Room) #[(.ref a1), (.int (0 : Int32)), (.int c0), (.int c1), (.int c2)] h0 (fun v h => v = some (.int (1 : Int32)) ∧ h0 = h) := by
  refine Con.intro (L0 := #[.val (.ref a1), .val (.int (0 : Int32)), .val (.int c0), .val (.int c1), .val (.int c2)]) (plainFor_of_name (by first | (simp [plainName, overriddenIn]; done) | decide +kernel)) (fun m => by first | (simp [entryFrame, mkF, argsToLocals, Value.category]; done) | rfl) ?_
  intro C k
  replace k := k.aloadN d7_0 rfl rfl
  replace k := k.ifnullNo d7_1
  replace k := k.aloadN d7_4 rfl rfl
  replace k := k.arrlen d7_5 A1 (0 : Int32) (by decide)
  replace k := k.iloadN d7_6 rfl
  replace k := k.icmpYes (pc' := 12) d7_7 (by decide) (by decide) (by decide)
  replace k := k.iloadN d7_12 rfl
  replace k := k.iconst (1 : Int32) d7_13 rfl
  replace k := k.icmpYes (pc' := 24) d7_14 (by decide) (by decide) (by decide)
  replace k := k.iloadN d7_24 rfl
  replace k := k.iconst (2 : Int32) d7_25 rfl
  replace k := k.icmpYes (pc' := 36) d7_26 (by decide) (by decide) (by decide)
  replace k := k.iloadN d7_36 rfl
  replace k := k.iconst (3 : Int32) d7_37 rfl
  replace k := k.icmpYes (pc' := 49) d7_38 (by decide) (by decide) (by decide)
  replace k := k.iconst (1 : Int32) d7_49 rfl
  replace k := k.goto (pc' := 54) d7_50 (by decide) (by decide)
  exact k.iret d7_54 rfl (by simp) rfl ⟨rfl, rfl⟩ (by decide) (by decide)

theorem d1_8 : decode method_3_code 8 = .ok (.iload_n 0, 1) := by decide +kernel
theorem d1_9 : decode method_3_code 9 = .ok (.iconst 1, 1) := by decide +kernel
theorem d1_10 : decode method_3_code 10 = .ok (.if_icmp .ne 11, 3) := by decide +kernel
theorem d1_13 : decode method_3_code 13 = .ok (.iconst 1, 1) := by decide +kernel
theorem d1_14 : decode method_3_code 14 = .ok (.newarray .byte, 2) := by decide +kernel
theorem d1_16 : decode method_3_code 16 = .ok (.dup, 1) := by decide +kernel
theorem d1_17 : decode method_3_code 17 = .ok (.iconst 0, 1) := by decide +kernel
theorem d1_18 : decode method_3_code 18 = .ok (.iload_n 1, 1) := by decide +kernel
theorem d1_19 : decode method_3_code 19 = .ok (.bastore, 1) := by decide +kernel
theorem d1_20 : decode method_3_code 20 = .ok (.areturn, 1) := by decide +kernel
set_option maxRecDepth 65536 in
set_option maxHeartbeats 40000000 in
theorem rm1_1 (Z : State) (a0 : Array Value) (hw : ∀ d ∈ tables_1, d.before a0 Z = true) (c0 c1 c2 : Int32) (h0 : Heap) (n0 : Nat) (Z0 : n0 ≤ h0.size) (hb0 : c0.toInt8.toInt32 = c0) (hb1 : c1.toInt8.toInt32 = c1) (hb2 : c2.toInt8.toInt32 = c2) :
    Con Z n0 (⟨"com/example/mipart/mipart/model/ResultValuePinLaw", "make", "(IBBB)[B"⟩ : MethodName) method_3_code 4 (some (.array .byte)) [] ({ frames := 0, cells := 1, slots := 1, locals := 0 } : Room) #[(.int (1 : Int32)), (.int c0), (.int c1), (.int c2)] h0 (fun v h => ∃ b, v = some (.ref b) ∧ n0 ≤ b ∧ h0.size ≤ b ∧ Keep h0 h [] ∧ Arf Z h b .byte 1 (own_arr [c0]) ∧ Exa Z h b "[B") := by
  refine Con.intro (L0 := #[.val (.int (1 : Int32)), .val (.int c0), .val (.int c1), .val (.int c2)]) (plainFor_of_name (by first | (simp [plainName, overriddenIn]; done) | decide +kernel)) (fun m => by first | (simp [entryFrame, mkF, argsToLocals, Value.category]; done) | rfl) ?_
  intro C k
  replace k := k.iloadN d1_0 rfl
  replace k := k.ifYes (pc' := 8) d1_1 (by decide) (by decide) (by decide)
  replace k := k.iloadN d1_8 rfl
  replace k := k.iconst (1 : Int32) d1_9 rfl
  replace k := k.icmpNo d1_10 (by decide)
  replace k := k.iconst (1 : Int32) d1_13 rfl
  obtain ⟨h101, b101, g101, E101, A101, X101, k⟩ := k.newarr (ad := "[B") d1_14 (hw _ (List.mem_of_getElem? (i := 7) rfl)) (by decide) 1 (by decide) 1 (by decide) (by decide) (by decide) (by decide) (by decide)
  have ge_b101 : n0 ≤ b101 := Nat.le_trans Z0 (Nat.le_of_eq g101.symm)
  have sz_b101 : h0.size ≤ b101 := Nat.le_trans (Keep.refl h0 ([] : List Addr)).1 (Nat.le_of_eq g101.symm)
  have K101 : Keep h0 h101 [] := (Keep.refl h0 ([] : List Addr)).ext E101
  replace k := k.dup d1_16 rfl
  replace k := k.iconst (0 : Int32) d1_17 rfl
  replace k := k.iloadN d1_18 rfl
  obtain ⟨h102, W102, A102, k⟩ := k.bastore d1_19 A101 0 (by decide) (by decide) (by decide) ge_b101 c0 hb0
  have K102 : Keep h0 h102 [] := K101.wr W102 (Or.inr sz_b101)
  exact k.aret d1_20 rfl rfl rfl rfl ⟨_, rfl, ge_b101, sz_b101, K102, (A102.congr (fun i hi => own_cg1 i hi)), (Exa.wr W102 X101)⟩ (by decide) (by decide)

theorem d7_17 : decode method_4_code 17 = .ok (.aload_n 0, 1) := by decide +kernel
theorem d7_18 : decode method_4_code 18 = .ok (.iconst 0, 1) := by decide +kernel
theorem d7_19 : decode method_4_code 19 = .ok (.baload, 1) := by decide +kernel
theorem d7_20 : decode method_4_code 20 = .ok (.iload_n 2, 1) := by decide +kernel
theorem d7_21 : decode method_4_code 21 = .ok (.if_icmp .ne 32, 3) := by decide +kernel
set_option maxRecDepth 65536 in
set_option maxHeartbeats 40000000 in
theorem rm7_1 (Z : State) (a0 : Array Value) (hw : ∀ d ∈ tables_1, d.before a0 Z = true) (a1 : Addr) (c0 c1 c2 : Int32) (h0 : Heap) (n0 : Nat) (A1 : Arf Z h0 a1 .byte 1 (own_arr [c0])) :
    Con Z n0 (⟨"com/example/mipart/mipart/model/ResultValuePinLaw", "same", "([BIBBB)Z"⟩ : MethodName) method_4_code 5 (some .boolean) [] ({ frames := 0, cells := 0, slots := 0, locals := 0 } : Room) #[(.ref a1), (.int (1 : Int32)), (.int c0), (.int c1), (.int c2)] h0 (fun v h => v = some (.int (1 : Int32)) ∧ h0 = h) := by
  refine Con.intro (L0 := #[.val (.ref a1), .val (.int (1 : Int32)), .val (.int c0), .val (.int c1), .val (.int c2)]) (plainFor_of_name (by first | (simp [plainName, overriddenIn]; done) | decide +kernel)) (fun m => by first | (simp [entryFrame, mkF, argsToLocals, Value.category]; done) | rfl) ?_
  intro C k
  replace k := k.aloadN d7_0 rfl rfl
  replace k := k.ifnullNo d7_1
  replace k := k.aloadN d7_4 rfl rfl
  replace k := k.arrlen d7_5 A1 (1 : Int32) (by decide)
  replace k := k.iloadN d7_6 rfl
  replace k := k.icmpYes (pc' := 12) d7_7 (by decide) (by decide) (by decide)
  replace k := k.iloadN d7_12 rfl
  replace k := k.iconst (1 : Int32) d7_13 rfl
  replace k := k.icmpNo d7_14 (by decide)
  replace k := k.aloadN d7_17 rfl rfl
  replace k := k.iconst (0 : Int32) d7_18 rfl
  replace k := k.baload d7_19 A1  0 (by decide) (by decide) (by decide) (.int c0) rfl
  replace k := k.iloadN d7_20 rfl
  replace k := k.icmpNo d7_21 (teq rfl).2
  replace k := k.iloadN d7_24 rfl
  replace k := k.iconst (2 : Int32) d7_25 rfl
  replace k := k.icmpYes (pc' := 36) d7_26 (by decide) (by decide) (by decide)
  replace k := k.iloadN d7_36 rfl
  replace k := k.iconst (3 : Int32) d7_37 rfl
  replace k := k.icmpYes (pc' := 49) d7_38 (by decide) (by decide) (by decide)
  replace k := k.iconst (1 : Int32) d7_49 rfl
  replace k := k.goto (pc' := 54) d7_50 (by decide) (by decide)
  exact k.iret d7_54 rfl (by simp) rfl ⟨rfl, rfl⟩ (by decide) (by decide)

theorem d1_21 : decode method_3_code 21 = .ok (.iload_n 0, 1) := by decide +kernel
theorem d1_22 : decode method_3_code 22 = .ok (.iconst 2, 1) := by decide +kernel
theorem d1_23 : decode method_3_code 23 = .ok (.if_icmp .ne 15, 3) := by decide +kernel
theorem d1_26 : decode method_3_code 26 = .ok (.iconst 2, 1) := by decide +kernel
theorem d1_27 : decode method_3_code 27 = .ok (.newarray .byte, 2) := by decide +kernel
theorem d1_29 : decode method_3_code 29 = .ok (.dup, 1) := by decide +kernel
theorem d1_30 : decode method_3_code 30 = .ok (.iconst 0, 1) := by decide +kernel
theorem d1_31 : decode method_3_code 31 = .ok (.iload_n 1, 1) := by decide +kernel
theorem d1_32 : decode method_3_code 32 = .ok (.bastore, 1) := by decide +kernel
theorem d1_33 : decode method_3_code 33 = .ok (.dup, 1) := by decide +kernel
theorem d1_34 : decode method_3_code 34 = .ok (.iconst 1, 1) := by decide +kernel
theorem d1_35 : decode method_3_code 35 = .ok (.iload_n 2, 1) := by decide +kernel
theorem d1_36 : decode method_3_code 36 = .ok (.bastore, 1) := by decide +kernel
theorem d1_37 : decode method_3_code 37 = .ok (.areturn, 1) := by decide +kernel
set_option maxRecDepth 65536 in
set_option maxHeartbeats 40000000 in
theorem rm1_2 (Z : State) (a0 : Array Value) (hw : ∀ d ∈ tables_1, d.before a0 Z = true) (c0 c1 c2 : Int32) (h0 : Heap) (n0 : Nat) (Z0 : n0 ≤ h0.size) (hb0 : c0.toInt8.toInt32 = c0) (hb1 : c1.toInt8.toInt32 = c1) (hb2 : c2.toInt8.toInt32 = c2) :
    Con Z n0 (⟨"com/example/mipart/mipart/model/ResultValuePinLaw", "make", "(IBBB)[B"⟩ : MethodName) method_3_code 4 (some (.array .byte)) [] ({ frames := 0, cells := 1, slots := 2, locals := 0 } : Room) #[(.int (2 : Int32)), (.int c0), (.int c1), (.int c2)] h0 (fun v h => ∃ b, v = some (.ref b) ∧ n0 ≤ b ∧ h0.size ≤ b ∧ Keep h0 h [] ∧ Arf Z h b .byte 2 (own_arr [c0, c1]) ∧ Exa Z h b "[B") := by
  refine Con.intro (L0 := #[.val (.int (2 : Int32)), .val (.int c0), .val (.int c1), .val (.int c2)]) (plainFor_of_name (by first | (simp [plainName, overriddenIn]; done) | decide +kernel)) (fun m => by first | (simp [entryFrame, mkF, argsToLocals, Value.category]; done) | rfl) ?_
  intro C k
  replace k := k.iloadN d1_0 rfl
  replace k := k.ifYes (pc' := 8) d1_1 (by decide) (by decide) (by decide)
  replace k := k.iloadN d1_8 rfl
  replace k := k.iconst (1 : Int32) d1_9 rfl
  replace k := k.icmpYes (pc' := 21) d1_10 (by decide) (by decide) (by decide)
  replace k := k.iloadN d1_21 rfl
  replace k := k.iconst (2 : Int32) d1_22 rfl
  replace k := k.icmpNo d1_23 (by decide)
  replace k := k.iconst (2 : Int32) d1_26 rfl
  obtain ⟨h101, b101, g101, E101, A101, X101, k⟩ := k.newarr (ad := "[B") d1_27 (hw _ (List.mem_of_getElem? (i := 7) rfl)) (by decide) 2 (by decide) 2 (by decide) (by decide) (by decide) (by decide) (by decide)
  have ge_b101 : n0 ≤ b101 := Nat.le_trans Z0 (Nat.le_of_eq g101.symm)
  have sz_b101 : h0.size ≤ b101 := Nat.le_trans (Keep.refl h0 ([] : List Addr)).1 (Nat.le_of_eq g101.symm)
  have K101 : Keep h0 h101 [] := (Keep.refl h0 ([] : List Addr)).ext E101
  replace k := k.dup d1_29 rfl
  replace k := k.iconst (0 : Int32) d1_30 rfl
  replace k := k.iloadN d1_31 rfl
  obtain ⟨h102, W102, A102, k⟩ := k.bastore d1_32 A101 0 (by decide) (by decide) (by decide) ge_b101 c0 hb0
  have K102 : Keep h0 h102 [] := K101.wr W102 (Or.inr sz_b101)
  replace k := k.dup d1_33 rfl
  replace k := k.iconst (1 : Int32) d1_34 rfl
  replace k := k.iloadN d1_35 rfl
  obtain ⟨h103, W103, A103, k⟩ := k.bastore d1_36 A102 1 (by decide) (by decide) (by decide) ge_b101 c1 hb1
  have K103 : Keep h0 h103 [] := K102.wr W103 (Or.inr sz_b101)
  exact k.aret d1_37 rfl rfl rfl rfl ⟨_, rfl, ge_b101, sz_b101, K103, (A103.congr (fun i hi => own_cg2 i hi)), (Exa.wr W103 (Exa.wr W102 X101))⟩ (by decide) (by decide)

theorem d7_29 : decode method_4_code 29 = .ok (.aload_n 0, 1) := by decide +kernel
theorem d7_30 : decode method_4_code 30 = .ok (.iconst 1, 1) := by decide +kernel
theorem d7_31 : decode method_4_code 31 = .ok (.baload, 1) := by decide +kernel
theorem d7_32 : decode method_4_code 32 = .ok (.iload_n 3, 1) := by decide +kernel
theorem d7_33 : decode method_4_code 33 = .ok (.if_icmp .ne 20, 3) := by decide +kernel
set_option maxRecDepth 65536 in
set_option maxHeartbeats 40000000 in
theorem rm7_2 (Z : State) (a0 : Array Value) (hw : ∀ d ∈ tables_1, d.before a0 Z = true) (a1 : Addr) (c0 c1 c2 : Int32) (h0 : Heap) (n0 : Nat) (A1 : Arf Z h0 a1 .byte 2 (own_arr [c0, c1])) :
    Con Z n0 (⟨"com/example/mipart/mipart/model/ResultValuePinLaw", "same", "([BIBBB)Z"⟩ : MethodName) method_4_code 5 (some .boolean) [] ({ frames := 0, cells := 0, slots := 0, locals := 0 } : Room) #[(.ref a1), (.int (2 : Int32)), (.int c0), (.int c1), (.int c2)] h0 (fun v h => v = some (.int (1 : Int32)) ∧ h0 = h) := by
  refine Con.intro (L0 := #[.val (.ref a1), .val (.int (2 : Int32)), .val (.int c0), .val (.int c1), .val (.int c2)]) (plainFor_of_name (by first | (simp [plainName, overriddenIn]; done) | decide +kernel)) (fun m => by first | (simp [entryFrame, mkF, argsToLocals, Value.category]; done) | rfl) ?_
  intro C k
  replace k := k.aloadN d7_0 rfl rfl
  replace k := k.ifnullNo d7_1
  replace k := k.aloadN d7_4 rfl rfl
  replace k := k.arrlen d7_5 A1 (2 : Int32) (by decide)
  replace k := k.iloadN d7_6 rfl
  replace k := k.icmpYes (pc' := 12) d7_7 (by decide) (by decide) (by decide)
  replace k := k.iloadN d7_12 rfl
  replace k := k.iconst (1 : Int32) d7_13 rfl
  replace k := k.icmpNo d7_14 (by decide)
  replace k := k.aloadN d7_17 rfl rfl
  replace k := k.iconst (0 : Int32) d7_18 rfl
  replace k := k.baload d7_19 A1  0 (by decide) (by decide) (by decide) (.int c0) rfl
  replace k := k.iloadN d7_20 rfl
  replace k := k.icmpNo d7_21 (teq rfl).2
  replace k := k.iloadN d7_24 rfl
  replace k := k.iconst (2 : Int32) d7_25 rfl
  replace k := k.icmpNo d7_26 (by decide)
  replace k := k.aloadN d7_29 rfl rfl
  replace k := k.iconst (1 : Int32) d7_30 rfl
  replace k := k.baload d7_31 A1  1 (by decide) (by decide) (by decide) (.int c1) rfl
  replace k := k.iloadN d7_32 rfl
  replace k := k.icmpNo d7_33 (teq rfl).2
  replace k := k.iloadN d7_36 rfl
  replace k := k.iconst (3 : Int32) d7_37 rfl
  replace k := k.icmpYes (pc' := 49) d7_38 (by decide) (by decide) (by decide)
  replace k := k.iconst (1 : Int32) d7_49 rfl
  replace k := k.goto (pc' := 54) d7_50 (by decide) (by decide)
  exact k.iret d7_54 rfl (by simp) rfl ⟨rfl, rfl⟩ (by decide) (by decide)

theorem d1_38 : decode method_3_code 38 = .ok (.iconst 3, 1) := by decide +kernel
theorem d1_39 : decode method_3_code 39 = .ok (.newarray .byte, 2) := by decide +kernel
theorem d1_41 : decode method_3_code 41 = .ok (.dup, 1) := by decide +kernel
theorem d1_42 : decode method_3_code 42 = .ok (.iconst 0, 1) := by decide +kernel
theorem d1_43 : decode method_3_code 43 = .ok (.iload_n 1, 1) := by decide +kernel
theorem d1_44 : decode method_3_code 44 = .ok (.bastore, 1) := by decide +kernel
theorem d1_45 : decode method_3_code 45 = .ok (.dup, 1) := by decide +kernel
theorem d1_46 : decode method_3_code 46 = .ok (.iconst 1, 1) := by decide +kernel
theorem d1_47 : decode method_3_code 47 = .ok (.iload_n 2, 1) := by decide +kernel
theorem d1_48 : decode method_3_code 48 = .ok (.bastore, 1) := by decide +kernel
theorem d1_49 : decode method_3_code 49 = .ok (.dup, 1) := by decide +kernel
theorem d1_50 : decode method_3_code 50 = .ok (.iconst 2, 1) := by decide +kernel
theorem d1_51 : decode method_3_code 51 = .ok (.iload_n 3, 1) := by decide +kernel
theorem d1_52 : decode method_3_code 52 = .ok (.bastore, 1) := by decide +kernel
theorem d1_53 : decode method_3_code 53 = .ok (.areturn, 1) := by decide +kernel
set_option maxRecDepth 65536 in
set_option maxHeartbeats 40000000 in
theorem rm1_3 (Z : State) (a0 : Array Value) (hw : ∀ d ∈ tables_1, d.before a0 Z = true) (c0 c1 c2 : Int32) (h0 : Heap) (n0 : Nat) (Z0 : n0 ≤ h0.size) (hb0 : c0.toInt8.toInt32 = c0) (hb1 : c1.toInt8.toInt32 = c1) (hb2 : c2.toInt8.toInt32 = c2) :
    Con Z n0 (⟨"com/example/mipart/mipart/model/ResultValuePinLaw", "make", "(IBBB)[B"⟩ : MethodName) method_3_code 4 (some (.array .byte)) [] ({ frames := 0, cells := 1, slots := 3, locals := 0 } : Room) #[(.int (3 : Int32)), (.int c0), (.int c1), (.int c2)] h0 (fun v h => ∃ b, v = some (.ref b) ∧ n0 ≤ b ∧ h0.size ≤ b ∧ Keep h0 h [] ∧ Arf Z h b .byte 3 (own_arr [c0, c1, c2]) ∧ Exa Z h b "[B") := by
  refine Con.intro (L0 := #[.val (.int (3 : Int32)), .val (.int c0), .val (.int c1), .val (.int c2)]) (plainFor_of_name (by first | (simp [plainName, overriddenIn]; done) | decide +kernel)) (fun m => by first | (simp [entryFrame, mkF, argsToLocals, Value.category]; done) | rfl) ?_
  intro C k
  replace k := k.iloadN d1_0 rfl
  replace k := k.ifYes (pc' := 8) d1_1 (by decide) (by decide) (by decide)
  replace k := k.iloadN d1_8 rfl
  replace k := k.iconst (1 : Int32) d1_9 rfl
  replace k := k.icmpYes (pc' := 21) d1_10 (by decide) (by decide) (by decide)
  replace k := k.iloadN d1_21 rfl
  replace k := k.iconst (2 : Int32) d1_22 rfl
  replace k := k.icmpYes (pc' := 38) d1_23 (by decide) (by decide) (by decide)
  replace k := k.iconst (3 : Int32) d1_38 rfl
  obtain ⟨h101, b101, g101, E101, A101, X101, k⟩ := k.newarr (ad := "[B") d1_39 (hw _ (List.mem_of_getElem? (i := 7) rfl)) (by decide) 3 (by decide) 3 (by decide) (by decide) (by decide) (by decide) (by decide)
  have ge_b101 : n0 ≤ b101 := Nat.le_trans Z0 (Nat.le_of_eq g101.symm)
  have sz_b101 : h0.size ≤ b101 := Nat.le_trans (Keep.refl h0 ([] : List Addr)).1 (Nat.le_of_eq g101.symm)
  have K101 : Keep h0 h101 [] := (Keep.refl h0 ([] : List Addr)).ext E101
  replace k := k.dup d1_41 rfl
  replace k := k.iconst (0 : Int32) d1_42 rfl
  replace k := k.iloadN d1_43 rfl
  obtain ⟨h102, W102, A102, k⟩ := k.bastore d1_44 A101 0 (by decide) (by decide) (by decide) ge_b101 c0 hb0
  have K102 : Keep h0 h102 [] := K101.wr W102 (Or.inr sz_b101)
  replace k := k.dup d1_45 rfl
  replace k := k.iconst (1 : Int32) d1_46 rfl
  replace k := k.iloadN d1_47 rfl
  obtain ⟨h103, W103, A103, k⟩ := k.bastore d1_48 A102 1 (by decide) (by decide) (by decide) ge_b101 c1 hb1
  have K103 : Keep h0 h103 [] := K102.wr W103 (Or.inr sz_b101)
  replace k := k.dup d1_49 rfl
  replace k := k.iconst (2 : Int32) d1_50 rfl
  replace k := k.iloadN d1_51 rfl
  obtain ⟨h104, W104, A104, k⟩ := k.bastore d1_52 A103 2 (by decide) (by decide) (by decide) ge_b101 c2 hb2
  have K104 : Keep h0 h104 [] := K103.wr W104 (Or.inr sz_b101)
  exact k.aret d1_53 rfl rfl rfl rfl ⟨_, rfl, ge_b101, sz_b101, K104, (A104.congr (fun i hi => own_cg3 i hi)), (Exa.wr W104 (Exa.wr W103 (Exa.wr W102 X101)))⟩ (by decide) (by decide)

theorem d7_41 : decode method_4_code 41 = .ok (.aload_n 0, 1) := by decide +kernel
theorem d7_42 : decode method_4_code 42 = .ok (.iconst 2, 1) := by decide +kernel
theorem d7_43 : decode method_4_code 43 = .ok (.baload, 1) := by decide +kernel
theorem d7_44 : decode method_4_code 44 = .ok (.iload 4, 2) := by decide +kernel
theorem d7_46 : decode method_4_code 46 = .ok (.if_icmp .ne 7, 3) := by decide +kernel
set_option maxRecDepth 65536 in
set_option maxHeartbeats 40000000 in
theorem rm7_3 (Z : State) (a0 : Array Value) (hw : ∀ d ∈ tables_1, d.before a0 Z = true) (a1 : Addr) (c0 c1 c2 : Int32) (h0 : Heap) (n0 : Nat) (A1 : Arf Z h0 a1 .byte 3 (own_arr [c0, c1, c2])) :
    Con Z n0 (⟨"com/example/mipart/mipart/model/ResultValuePinLaw", "same", "([BIBBB)Z"⟩ : MethodName) method_4_code 5 (some .boolean) [] ({ frames := 0, cells := 0, slots := 0, locals := 0 } : Room) #[(.ref a1), (.int (3 : Int32)), (.int c0), (.int c1), (.int c2)] h0 (fun v h => v = some (.int (1 : Int32)) ∧ h0 = h) := by
  refine Con.intro (L0 := #[.val (.ref a1), .val (.int (3 : Int32)), .val (.int c0), .val (.int c1), .val (.int c2)]) (plainFor_of_name (by first | (simp [plainName, overriddenIn]; done) | decide +kernel)) (fun m => by first | (simp [entryFrame, mkF, argsToLocals, Value.category]; done) | rfl) ?_
  intro C k
  replace k := k.aloadN d7_0 rfl rfl
  replace k := k.ifnullNo d7_1
  replace k := k.aloadN d7_4 rfl rfl
  replace k := k.arrlen d7_5 A1 (3 : Int32) (by decide)
  replace k := k.iloadN d7_6 rfl
  replace k := k.icmpYes (pc' := 12) d7_7 (by decide) (by decide) (by decide)
  replace k := k.iloadN d7_12 rfl
  replace k := k.iconst (1 : Int32) d7_13 rfl
  replace k := k.icmpNo d7_14 (by decide)
  replace k := k.aloadN d7_17 rfl rfl
  replace k := k.iconst (0 : Int32) d7_18 rfl
  replace k := k.baload d7_19 A1  0 (by decide) (by decide) (by decide) (.int c0) rfl
  replace k := k.iloadN d7_20 rfl
  replace k := k.icmpNo d7_21 (teq rfl).2
  replace k := k.iloadN d7_24 rfl
  replace k := k.iconst (2 : Int32) d7_25 rfl
  replace k := k.icmpNo d7_26 (by decide)
  replace k := k.aloadN d7_29 rfl rfl
  replace k := k.iconst (1 : Int32) d7_30 rfl
  replace k := k.baload d7_31 A1  1 (by decide) (by decide) (by decide) (.int c1) rfl
  replace k := k.iloadN d7_32 rfl
  replace k := k.icmpNo d7_33 (teq rfl).2
  replace k := k.iloadN d7_36 rfl
  replace k := k.iconst (3 : Int32) d7_37 rfl
  replace k := k.icmpNo d7_38 (by decide)
  replace k := k.aloadN d7_41 rfl rfl
  replace k := k.iconst (2 : Int32) d7_42 rfl
  replace k := k.baload d7_43 A1  2 (by decide) (by decide) (by decide) (.int c2) rfl
  replace k := k.iload d7_44 rfl
  replace k := k.icmpNo d7_46 (teq rfl).2
  replace k := k.iconst (1 : Int32) d7_49 rfl
  replace k := k.goto (pc' := 54) d7_50 (by decide) (by decide)
  exact k.iret d7_54 rfl (by simp) rfl ⟨rfl, rfl⟩ (by decide) (by decide)

set_option maxRecDepth 65536 in
set_option maxHeartbeats 40000000 in
theorem rm0 (Z : State) (a0 : Array Value) (hw : ∀ d ∈ tables_1, d.before a0 Z = true) (p1 p2 p3 p4 : Int32) (a_QUEUE_FULL : Addr) (a_DONE : Addr) (h0 : Heap) (n0 : Nat) (Z0 : n0 ≤ h0.size) (S_QUEUE_FULL : Sta Z h0 "com/example/mipart/mipart/model/Result$Status" "QUEUE_FULL" "Lcom/example/mipart/mipart/model/Result$Status;" (.ref a_QUEUE_FULL)) (E_QUEUE_FULL : Exa Z h0 a_QUEUE_FULL "com/example/mipart/mipart/model/Result$Status") (S_DONE : Sta Z h0 "com/example/mipart/mipart/model/Result$Status" "DONE" "Lcom/example/mipart/mipart/model/Result$Status;" (.ref a_DONE)) (E_DONE : Exa Z h0 a_DONE "com/example/mipart/mipart/model/Result$Status") :
    Con Z n0 x code maxLocals ret tables_1 room_1 #[(.int p1), (.int p2), (.int p3), (.int p4)] h0 (fun v h => v = some (.int (1 : Int32))) := by
  refine Con.intro (L0 := #[.val (.int p1), .val (.int p2), .val (.int p3), .val (.int p4), .unset, .unset, .unset, .unset, .unset, .unset, .unset, .unset, .unset, .unset, .unset]) (plainFor_of_name (by first | (simp [plainName, overriddenIn]; done) | decide +kernel)) (fun m => by first | (simp [entryFrame, mkF, argsToLocals, Value.category, maxLocals]; done) | rfl) ?_
  intro C k
  replace k := k.iloadN at_0 rfl
  replace k := k.iconst (3 : Int32) at_1 rfl
  replace k := k.iand at_2
  replace k := k.istore #[.val (.int p1), .val (.int p2), .val (.int p3), .val (.int p4), .val (.int (p1 &&& (3 : Int32))), .unset, .unset, .unset, .unset, .unset, .unset, .unset, .unset, .unset, .unset] at_3 rfl
  replace k := k.iloadN at_5 rfl
  replace k := k.iconst (2 : Int32) at_6 rfl
  replace k := k.ishr at_7
  replace k := k.iconst (1 : Int32) at_8 rfl
  replace k := k.iand at_9
  by_cases hc101 : ((p1 >>> ((2 : Int32) &&& 31)) &&& (1 : Int32)) = (0 : Int32)
  · skip
    replace k := k.ifYes (pc' := 17) at_10 (teq hc101).1 (by decide) (by decide)
    replace k := k.iconst (0 : Int32) at_17 rfl
    replace k := k.istore #[.val (.int p1), .val (.int p2), .val (.int p3), .val (.int p4), .val (.int (p1 &&& (3 : Int32))), .val (.int (0 : Int32)), .unset, .unset, .unset, .unset, .unset, .unset, .unset, .unset, .unset] at_18 rfl
    replace k := k.iloadN at_20 rfl
    replace k := k.iconst (3 : Int32) at_21 rfl
    replace k := k.ishr at_22
    replace k := k.iconst (1 : Int32) at_23 rfl
    replace k := k.iand at_24
    obtain ⟨aS, Es, k⟩ : ∃ aS : Addr, Exa Z h0 aS "com/example/mipart/mipart/model/Result$Status" ∧ Run C room_1 Z n0 x.cls x.name ret code maxLocals h0 0 0 37 #[.val (.int p1), .val (.int p2), .val (.int p3), .val (.int p4), .val (.int (p1 &&& (3 : Int32))), .val (.int (0 : Int32)), .unset, .unset, .unset, .unset, .unset, .unset, .unset, .unset, .unset] [(.ref aS)] := by
      by_cases hc102 : ((p1 >>> ((3 : Int32) &&& 31)) &&& (1 : Int32)) = (0 : Int32)
      · skip
        replace k := k.ifYes (pc' := 34) at_25 (teq hc102).1 (by decide) (by decide)
        replace k := k.getS at_34 (host := "") (Or.inl (hw _ (List.mem_of_getElem? (i := 0) rfl))) Via.refl S_QUEUE_FULL
        exact ⟨_, E_QUEUE_FULL, k⟩
      · skip
        replace k := k.ifNo at_25 (feq hc102).1
        replace k := k.getS at_28 (host := "") (Or.inl (hw _ (List.mem_of_getElem? (i := 58) rfl))) Via.refl S_DONE
        replace k := k.goto (pc' := 37) at_31 (by decide) (by decide)
        exact ⟨_, E_DONE, k⟩
    replace k := k.astore #[.val (.int p1), .val (.int p2), .val (.int p3), .val (.int p4), .val (.int (p1 &&& (3 : Int32))), .val (.int (0 : Int32)), .val (.ref aS), .unset, .unset, .unset, .unset, .unset, .unset, .unset, .unset] at_37 rfl rfl
    replace k := k.iloadN at_39 rfl
    replace k := k.i2b at_40
    replace k := k.istore #[.val (.int p1), .val (.int p2), .val (.int p3), .val (.int p4), .val (.int (p1 &&& (3 : Int32))), .val (.int (0 : Int32)), .val (.ref aS), .val (.int (p2.toInt8.toInt32)), .unset, .unset, .unset, .unset, .unset, .unset, .unset] at_41 rfl
    replace k := k.iloadN at_43 rfl
    replace k := k.i2b at_44
    replace k := k.istore #[.val (.int p1), .val (.int p2), .val (.int p3), .val (.int p4), .val (.int (p1 &&& (3 : Int32))), .val (.int (0 : Int32)), .val (.ref aS), .val (.int (p2.toInt8.toInt32)), .val (.int (p3.toInt8.toInt32)), .unset, .unset, .unset, .unset, .unset, .unset] at_45 rfl
    replace k := k.iloadN at_47 rfl
    replace k := k.i2b at_48
    replace k := k.istore #[.val (.int p1), .val (.int p2), .val (.int p3), .val (.int p4), .val (.int (p1 &&& (3 : Int32))), .val (.int (0 : Int32)), .val (.ref aS), .val (.int (p2.toInt8.toInt32)), .val (.int (p3.toInt8.toInt32)), .val (.int (p4.toInt8.toInt32)), .unset, .unset, .unset, .unset, .unset] at_49 rfl
    replace k := k.iload at_51 rfl
    replace k := k.ifYes (pc' := 82) at_53 (by decide) (by decide) (by decide)
    rcases own_and3 p1 with hx3 | hx3 | hx3 | hx3
    · skip
      replace k := k.loc #[.val (.int p1), .val (.int p2), .val (.int p3), .val (.int p4), .val (.int (0 : Int32)), .val (.int (0 : Int32)), .val (.ref aS), .val (.int (p2.toInt8.toInt32)), .val (.int (p3.toInt8.toInt32)), .val (.int (p4.toInt8.toInt32)), .unset, .unset, .unset, .unset, .unset] (by rw [hx3])
      replace k := k.iload at_82 rfl
      replace k := k.iload at_84 rfl
      replace k := k.iload at_86 rfl
      replace k := k.iload at_88 rfl
      obtain ⟨_, hm103, ⟨bm103, rfl, gbm103, zbm103, Km103, Am103, Em103⟩, k⟩ := k.callS (y := (⟨"com/example/mipart/mipart/model/ResultValuePinLaw", "make", "(IBBB)[B"⟩ : MethodName)) at_90 (hw _ (List.mem_of_getElem? (i := 3) rfl)) (hw _ (List.mem_of_getElem? (i := 4) rfl)) (hw _ (List.mem_of_getElem? (i := 5) rfl)) (hw _ (List.mem_of_getElem? (i := 6) rfl)) (W := 0) (argsL := [(.int (0 : Int32)), (.int (p2.toInt8.toInt32)), (.int (p3.toInt8.toInt32)), (.int (p4.toInt8.toInt32))]) (rest := []) (rm1_0 Z a0 hw (p2.toInt8.toInt32) (p3.toInt8.toInt32) (p4.toInt8.toInt32) h0 n0 Z0 (own_i2b _) (own_i2b _) (own_i2b _)) rfl (pd_2) rfl rfl rfl (by decide) (by decide) (by decide) (by decide) (by decide)
      replace k := k.stk [(.ref bm103)] rfl
      replace k := k.astore #[.val (.int p1), .val (.int p2), .val (.int p3), .val (.int p4), .val (.int (0 : Int32)), .val (.int (0 : Int32)), .val (.ref aS), .val (.int (p2.toInt8.toInt32)), .val (.int (p3.toInt8.toInt32)), .val (.int (p4.toInt8.toInt32)), .val (.ref bm103), .unset, .unset, .unset, .unset] at_93 rfl rfl
      obtain ⟨h104, b104, g104, E104, A104, D104, k⟩ := k.newO at_95 (hw _ (List.mem_of_getElem? (i := 8) rfl)) (hw _ (List.mem_of_getElem? (i := 9) rfl)) (hw _ (List.mem_of_getElem? (i := 10) rfl)) (by decide) (by decide)
      have ge_b104 : n0 ≤ b104 := Nat.le_trans (Nat.le_trans Z0 Km103.1) (Nat.le_of_eq g104.symm)
      have F_status_b104 : Fld Z h104 b104 "com/example/mipart/mipart/model/Result" "status" "Lcom/example/mipart/mipart/model/Result$Status;" .null := D104 (Or.inr (hw _ (List.mem_of_getElem? (i := 43) rfl))) (ty := (.object "com/example/mipart/mipart/model/Result$Status")) (by decide)
      have F_value_b104 : Fld Z h104 b104 "com/example/mipart/mipart/model/Result" "value" "[B" .null := D104 (Or.inr (hw _ (List.mem_of_getElem? (i := 45) rfl))) (ty := (.array .byte)) (by decide)
      have F_lease_b104 : Fld Z h104 b104 "com/example/mipart/mipart/model/Result" "lease" "Lcom/example/mipart/mipart/model/Lease;" .null := D104 (Or.inr (hw _ (List.mem_of_getElem? (i := 47) rfl))) (ty := (.object "com/example/mipart/mipart/model/Lease")) (by decide)
      have F_queueLength_b104 : Fld Z h104 b104 "com/example/mipart/mipart/model/Result" "queueLength" "I" (.int (0 : Int32)) := D104 (Or.inr (hw _ (List.mem_of_getElem? (i := 49) rfl))) (ty := .int) (by decide)
      replace k := k.dup at_98 rfl
      replace k := k.aload at_99 rfl rfl
      replace k := k.aload at_101 rfl rfl
      obtain ⟨_, hj105, ⟨rfl, Kj105, tj105, gtj105, ztj105, Fvj105, Atj105, Etj105⟩, k⟩ := k.callI (y := (⟨"com/example/mipart/mipart/model/Result", "<init>", "(Lcom/example/mipart/mipart/model/Result$Status;[B)V"⟩ : MethodName)) (a := b104) at_103 rfl (hw _ (List.mem_of_getElem? (i := 11) rfl)) (hw _ (List.mem_of_getElem? (i := 12) rfl)) (hw _ (List.mem_of_getElem? (i := 10) rfl)) (hw _ (List.mem_of_getElem? (i := 13) rfl)) (W := 1) (argsL := [(.ref aS), (.ref bm103)]) (rest := [(.ref b104)]) (rm2_ref Z a0 hw b104 aS bm103 0 (own_arr []) h104 n0 (Nat.le_trans (Nat.le_trans Z0 Km103.1) E104.1) ge_b104 A104 (Exa.ext E104 (Es.keep Km103)) F_status_b104 F_value_b104 F_lease_b104 F_queueLength_b104 (by decide) (own_fit0 p2 p3 p4) (Am103.ext E104) (Exa.ext E104 Em103)) rfl (pd_3) rfl rfl rfl (by decide) (by decide) (by decide) (by decide) (by decide)
      replace k := k.stk [(.ref b104)] rfl
      replace k := k.astore #[.val (.int p1), .val (.int p2), .val (.int p3), .val (.int p4), .val (.int (0 : Int32)), .val (.int (0 : Int32)), .val (.ref aS), .val (.int (p2.toInt8.toInt32)), .val (.int (p3.toInt8.toInt32)), .val (.int (p4.toInt8.toInt32)), .val (.ref bm103), .val (.ref b104), .unset, .unset, .unset] at_106 rfl rfl
      replace k := k.iload at_108 rfl
      replace k := k.ifYes (pc' := 139) at_110 (by decide) (by decide) (by decide)
      replace k := k.aload at_139 rfl rfl
      obtain ⟨_, hv106, ⟨bv106, rfl, gbv106, zbv106, Kv106, Av106⟩, k⟩ := k.callV (y := (⟨"com/example/mipart/mipart/model/Result", "value", "()[B"⟩ : MethodName)) (z := (⟨"com/example/mipart/mipart/model/Result", "value", "()[B"⟩ : MethodName)) (a := b104) at_141 (hw _ (List.mem_of_getElem? (i := 50) rfl)) (hw _ (List.mem_of_getElem? (i := 51) rfl)) (fun s hs => notFace_of_selects (args := #[]) (mvT hs (hw _ (List.mem_of_getElem? (i := 53) rfl)))) (hw _ (List.mem_of_getElem? (i := 53) rfl)) (hw _ (List.mem_of_getElem? (i := 52) rfl)) (hw _ (List.mem_of_getElem? (i := 10) rfl)) (hw _ (List.mem_of_getElem? (i := 54) rfl)) (A104.keep Kj105) (W := 0) (argsL := []) (rest := []) (rm6_ref Z a0 hw b104 tj105 0 (own_arr []) hj105 n0 (Nat.le_trans (Nat.le_trans (Nat.le_trans Z0 Km103.1) E104.1) Kj105.1) Fvj105 (by decide) (own_fit0 p2 p3 p4) Atj105 Etj105) rfl (pd_4) rfl rfl rfl (by decide) (by decide) (by decide) (by decide) (by decide)
      replace k := k.stk [(.ref bv106)] rfl
      replace k := k.astore #[.val (.int p1), .val (.int p2), .val (.int p3), .val (.int p4), .val (.int (0 : Int32)), .val (.int (0 : Int32)), .val (.ref aS), .val (.int (p2.toInt8.toInt32)), .val (.int (p3.toInt8.toInt32)), .val (.int (p4.toInt8.toInt32)), .val (.ref bm103), .val (.ref b104), .val (.ref bv106), .unset, .unset] at_144 rfl rfl
      replace k := k.aload at_146 rfl rfl
      replace k := k.iload at_148 rfl
      replace k := k.iload at_150 rfl
      replace k := k.iload at_152 rfl
      replace k := k.iload at_154 rfl
      obtain ⟨_, _, ⟨rfl, rfl⟩, k⟩ := k.callS (y := (⟨"com/example/mipart/mipart/model/ResultValuePinLaw", "same", "([BIBBB)Z"⟩ : MethodName)) at_156 (hw _ (List.mem_of_getElem? (i := 55) rfl)) (hw _ (List.mem_of_getElem? (i := 56) rfl)) (hw _ (List.mem_of_getElem? (i := 5) rfl)) (hw _ (List.mem_of_getElem? (i := 57) rfl)) (W := 0) (argsL := [(.ref bv106), (.int (0 : Int32)), (.int (p2.toInt8.toInt32)), (.int (p3.toInt8.toInt32)), (.int (p4.toInt8.toInt32))]) (rest := []) (rm7_0 Z a0 hw bv106 (p2.toInt8.toInt32) (p3.toInt8.toInt32) (p4.toInt8.toInt32) hv106 n0 Av106) rfl (pd_5) rfl rfl rfl (by decide) (by decide) (by decide) (by decide) (by decide)
      replace k := k.stk [(.int (1 : Int32))] rfl
      replace k := k.istore #[.val (.int p1), .val (.int p2), .val (.int p3), .val (.int p4), .val (.int (0 : Int32)), .val (.int (0 : Int32)), .val (.ref aS), .val (.int (p2.toInt8.toInt32)), .val (.int (p3.toInt8.toInt32)), .val (.int (p4.toInt8.toInt32)), .val (.ref bm103), .val (.ref b104), .val (.ref bv106), .val (.int (1 : Int32)), .unset] at_159 rfl
      replace k := k.iload at_161 rfl
      replace k := k.ifNo at_163 (by decide)
      replace k := k.iload at_166 rfl
      replace k := k.ifYes (pc' := 197) at_168 (by decide) (by decide) (by decide)
      replace k := k.aload at_197 rfl rfl
      obtain ⟨_, hv107, ⟨bv107, rfl, gbv107, zbv107, Kv107, Av107⟩, k⟩ := k.callV (y := (⟨"com/example/mipart/mipart/model/Result", "value", "()[B"⟩ : MethodName)) (z := (⟨"com/example/mipart/mipart/model/Result", "value", "()[B"⟩ : MethodName)) (a := b104) at_199 (hw _ (List.mem_of_getElem? (i := 50) rfl)) (hw _ (List.mem_of_getElem? (i := 51) rfl)) (fun s hs => notFace_of_selects (args := #[]) (mvT hs (hw _ (List.mem_of_getElem? (i := 53) rfl)))) (hw _ (List.mem_of_getElem? (i := 53) rfl)) (hw _ (List.mem_of_getElem? (i := 52) rfl)) (hw _ (List.mem_of_getElem? (i := 10) rfl)) (hw _ (List.mem_of_getElem? (i := 54) rfl)) ((A104.keep Kj105).keep Kv106) (W := 0) (argsL := []) (rest := []) (rm6_ref Z a0 hw b104 tj105 0 (own_arr []) hv106 n0 (Nat.le_trans (Nat.le_trans (Nat.le_trans (Nat.le_trans Z0 Km103.1) E104.1) Kj105.1) Kv106.1) (Fvj105.keep Kv106 nin0) (by decide) (own_fit0 p2 p3 p4) (Atj105.keep Kv106 nin0) (Etj105.keep Kv106)) rfl (pd_4) rfl rfl rfl (by decide) (by decide) (by decide) (by decide) (by decide)
      replace k := k.stk [(.ref bv107)] rfl
      replace k := k.astore #[.val (.int p1), .val (.int p2), .val (.int p3), .val (.int p4), .val (.int (0 : Int32)), .val (.int (0 : Int32)), .val (.ref aS), .val (.int (p2.toInt8.toInt32)), .val (.int (p3.toInt8.toInt32)), .val (.int (p4.toInt8.toInt32)), .val (.ref bm103), .val (.ref b104), .val (.ref bv106), .val (.int (1 : Int32)), .val (.ref bv107)] at_202 rfl rfl
      replace k := k.iload at_204 rfl
      replace k := k.ifNo at_206 (by decide)
      replace k := k.aload at_209 rfl rfl
      replace k := k.iload at_211 rfl
      replace k := k.iload at_213 rfl
      replace k := k.iload at_215 rfl
      replace k := k.iload at_217 rfl
      obtain ⟨_, _, ⟨rfl, rfl⟩, k⟩ := k.callS (y := (⟨"com/example/mipart/mipart/model/ResultValuePinLaw", "same", "([BIBBB)Z"⟩ : MethodName)) at_219 (hw _ (List.mem_of_getElem? (i := 55) rfl)) (hw _ (List.mem_of_getElem? (i := 56) rfl)) (hw _ (List.mem_of_getElem? (i := 5) rfl)) (hw _ (List.mem_of_getElem? (i := 57) rfl)) (W := 0) (argsL := [(.ref bv107), (.int (0 : Int32)), (.int (p2.toInt8.toInt32)), (.int (p3.toInt8.toInt32)), (.int (p4.toInt8.toInt32))]) (rest := []) (rm7_0 Z a0 hw bv107 (p2.toInt8.toInt32) (p3.toInt8.toInt32) (p4.toInt8.toInt32) hv107 n0 Av107) rfl (pd_5) rfl rfl rfl (by decide) (by decide) (by decide) (by decide) (by decide)
      replace k := k.stk [(.int (1 : Int32))] rfl
      replace k := k.ifNo at_222 (by decide)
      replace k := k.iconst (1 : Int32) at_225 rfl
      replace k := k.goto (pc' := 230) at_226 (by decide) (by decide)
      exact k.iret at_230 rfl (by simp) rfl rfl (by decide) (by decide)
    · skip
      replace k := k.loc #[.val (.int p1), .val (.int p2), .val (.int p3), .val (.int p4), .val (.int (1 : Int32)), .val (.int (0 : Int32)), .val (.ref aS), .val (.int (p2.toInt8.toInt32)), .val (.int (p3.toInt8.toInt32)), .val (.int (p4.toInt8.toInt32)), .unset, .unset, .unset, .unset, .unset] (by rw [hx3])
      replace k := k.iload at_82 rfl
      replace k := k.iload at_84 rfl
      replace k := k.iload at_86 rfl
      replace k := k.iload at_88 rfl
      obtain ⟨_, hm108, ⟨bm108, rfl, gbm108, zbm108, Km108, Am108, Em108⟩, k⟩ := k.callS (y := (⟨"com/example/mipart/mipart/model/ResultValuePinLaw", "make", "(IBBB)[B"⟩ : MethodName)) at_90 (hw _ (List.mem_of_getElem? (i := 3) rfl)) (hw _ (List.mem_of_getElem? (i := 4) rfl)) (hw _ (List.mem_of_getElem? (i := 5) rfl)) (hw _ (List.mem_of_getElem? (i := 6) rfl)) (W := 0) (argsL := [(.int (1 : Int32)), (.int (p2.toInt8.toInt32)), (.int (p3.toInt8.toInt32)), (.int (p4.toInt8.toInt32))]) (rest := []) (rm1_1 Z a0 hw (p2.toInt8.toInt32) (p3.toInt8.toInt32) (p4.toInt8.toInt32) h0 n0 Z0 (own_i2b _) (own_i2b _) (own_i2b _)) rfl (pd_2) rfl rfl rfl (by decide) (by decide) (by decide) (by decide) (by decide)
      replace k := k.stk [(.ref bm108)] rfl
      replace k := k.astore #[.val (.int p1), .val (.int p2), .val (.int p3), .val (.int p4), .val (.int (1 : Int32)), .val (.int (0 : Int32)), .val (.ref aS), .val (.int (p2.toInt8.toInt32)), .val (.int (p3.toInt8.toInt32)), .val (.int (p4.toInt8.toInt32)), .val (.ref bm108), .unset, .unset, .unset, .unset] at_93 rfl rfl
      obtain ⟨h109, b109, g109, E109, A109, D109, k⟩ := k.newO at_95 (hw _ (List.mem_of_getElem? (i := 8) rfl)) (hw _ (List.mem_of_getElem? (i := 9) rfl)) (hw _ (List.mem_of_getElem? (i := 10) rfl)) (by decide) (by decide)
      have ge_b109 : n0 ≤ b109 := Nat.le_trans (Nat.le_trans Z0 Km108.1) (Nat.le_of_eq g109.symm)
      have F_status_b109 : Fld Z h109 b109 "com/example/mipart/mipart/model/Result" "status" "Lcom/example/mipart/mipart/model/Result$Status;" .null := D109 (Or.inr (hw _ (List.mem_of_getElem? (i := 43) rfl))) (ty := (.object "com/example/mipart/mipart/model/Result$Status")) (by decide)
      have F_value_b109 : Fld Z h109 b109 "com/example/mipart/mipart/model/Result" "value" "[B" .null := D109 (Or.inr (hw _ (List.mem_of_getElem? (i := 45) rfl))) (ty := (.array .byte)) (by decide)
      have F_lease_b109 : Fld Z h109 b109 "com/example/mipart/mipart/model/Result" "lease" "Lcom/example/mipart/mipart/model/Lease;" .null := D109 (Or.inr (hw _ (List.mem_of_getElem? (i := 47) rfl))) (ty := (.object "com/example/mipart/mipart/model/Lease")) (by decide)
      have F_queueLength_b109 : Fld Z h109 b109 "com/example/mipart/mipart/model/Result" "queueLength" "I" (.int (0 : Int32)) := D109 (Or.inr (hw _ (List.mem_of_getElem? (i := 49) rfl))) (ty := .int) (by decide)
      replace k := k.dup at_98 rfl
      replace k := k.aload at_99 rfl rfl
      replace k := k.aload at_101 rfl rfl
      obtain ⟨_, hj110, ⟨rfl, Kj110, tj110, gtj110, ztj110, Fvj110, Atj110, Etj110⟩, k⟩ := k.callI (y := (⟨"com/example/mipart/mipart/model/Result", "<init>", "(Lcom/example/mipart/mipart/model/Result$Status;[B)V"⟩ : MethodName)) (a := b109) at_103 rfl (hw _ (List.mem_of_getElem? (i := 11) rfl)) (hw _ (List.mem_of_getElem? (i := 12) rfl)) (hw _ (List.mem_of_getElem? (i := 10) rfl)) (hw _ (List.mem_of_getElem? (i := 13) rfl)) (W := 1) (argsL := [(.ref aS), (.ref bm108)]) (rest := [(.ref b109)]) (rm2_ref Z a0 hw b109 aS bm108 1 (own_arr [(p2.toInt8.toInt32)]) h109 n0 (Nat.le_trans (Nat.le_trans Z0 Km108.1) E109.1) ge_b109 A109 (Exa.ext E109 (Es.keep Km108)) F_status_b109 F_value_b109 F_lease_b109 F_queueLength_b109 (by decide) (own_fit1 p2 p3 p4) (Am108.ext E109) (Exa.ext E109 Em108)) rfl (pd_3) rfl rfl rfl (by decide) (by decide) (by decide) (by decide) (by decide)
      replace k := k.stk [(.ref b109)] rfl
      replace k := k.astore #[.val (.int p1), .val (.int p2), .val (.int p3), .val (.int p4), .val (.int (1 : Int32)), .val (.int (0 : Int32)), .val (.ref aS), .val (.int (p2.toInt8.toInt32)), .val (.int (p3.toInt8.toInt32)), .val (.int (p4.toInt8.toInt32)), .val (.ref bm108), .val (.ref b109), .unset, .unset, .unset] at_106 rfl rfl
      replace k := k.iload at_108 rfl
      replace k := k.ifNo at_110 (by decide)
      replace k := k.aload at_113 rfl rfl
      replace k := k.iconst (0 : Int32) at_115 rfl
      replace k := k.iload at_116 rfl
      replace k := k.iconst (-1 : Int32) at_118 rfl
      replace k := k.ixor at_119
      replace k := k.i2b at_120
      obtain ⟨h111, W111, A111, k⟩ := k.bastore at_121 ((Am108.ext E109).keep Kj110 (ninS (Nat.ne_of_lt (Nat.lt_of_lt_of_le Am108.lt (Nat.le_of_eq g109.symm))) nin0)) 0 (by decide) (by decide) (by decide) gbm108 (((p2.toInt8.toInt32) ^^^ (-1 : Int32)).toInt8.toInt32) (own_i2b _)
      replace k := k.aload at_122 rfl rfl
      replace k := k.iload at_124 rfl
      replace k := k.iconst (1 : Int32) at_126 rfl
      replace k := k.isub at_127
      replace k := k.foldI (0 : Int32) (by decide)
      replace k := k.aload at_128 rfl rfl
      replace k := k.iload at_130 rfl
      replace k := k.iconst (1 : Int32) at_132 rfl
      replace k := k.isub at_133
      replace k := k.foldI (0 : Int32) (by decide)
      replace k := k.baload at_134 A111  0 (by decide) (by decide) (by decide) (.int (((p2.toInt8.toInt32) ^^^ (-1 : Int32)).toInt8.toInt32)) rfl
      replace k := k.iconst (-1 : Int32) at_135 rfl
      replace k := k.ixor at_136
      replace k := k.i2b at_137
      obtain ⟨h112, W112, A112, k⟩ := k.bastore at_138 A111 0 (by decide) (by decide) (by decide) gbm108 (((((p2.toInt8.toInt32) ^^^ (-1 : Int32)).toInt8.toInt32) ^^^ (-1 : Int32)).toInt8.toInt32) (own_i2b _)
      replace k := k.aload at_139 rfl rfl
      obtain ⟨_, hv113, ⟨bv113, rfl, gbv113, zbv113, Kv113, Av113⟩, k⟩ := k.callV (y := (⟨"com/example/mipart/mipart/model/Result", "value", "()[B"⟩ : MethodName)) (z := (⟨"com/example/mipart/mipart/model/Result", "value", "()[B"⟩ : MethodName)) (a := b109) at_141 (hw _ (List.mem_of_getElem? (i := 50) rfl)) (hw _ (List.mem_of_getElem? (i := 51) rfl)) (fun s hs => notFace_of_selects (args := #[]) (mvT hs (hw _ (List.mem_of_getElem? (i := 53) rfl)))) (hw _ (List.mem_of_getElem? (i := 53) rfl)) (hw _ (List.mem_of_getElem? (i := 52) rfl)) (hw _ (List.mem_of_getElem? (i := 10) rfl)) (hw _ (List.mem_of_getElem? (i := 54) rfl)) (Exa.wr W112 (Exa.wr W111 (A109.keep Kj110))) (W := 0) (argsL := []) (rest := []) (rm6_ref Z a0 hw b109 tj110 1 (own_arr [(p2.toInt8.toInt32)]) h112 n0 (Nat.le_trans (Nat.le_trans (Nat.le_trans (Nat.le_trans (Nat.le_trans Z0 Km108.1) E109.1) Kj110.1) (Nat.le_of_eq (Wr.size W111).symm)) (Nat.le_of_eq (Wr.size W112).symm)) (Fld.other W112 (Fld.other W111 Fvj110 (Or.inl (Ne.symm (Nat.ne_of_lt (Nat.lt_of_lt_of_le Em108.lt (Nat.le_of_eq g109.symm)))))) (Or.inl (Ne.symm (Nat.ne_of_lt (Nat.lt_of_lt_of_le Em108.lt (Nat.le_of_eq g109.symm)))))) (by decide) (own_fit1 p2 p3 p4) ((Atj110.other W111 (Ne.symm (Nat.ne_of_lt (Nat.lt_of_lt_of_le (Am108.ext E109).lt ztj110)))).other W112 (Ne.symm (Nat.ne_of_lt (Nat.lt_of_lt_of_le (Am108.ext E109).lt ztj110)))) (Exa.wr W112 (Exa.wr W111 Etj110))) rfl (pd_4) rfl rfl rfl (by decide) (by decide) (by decide) (by decide) (by decide)
      replace k := k.stk [(.ref bv113)] rfl
      replace k := k.astore #[.val (.int p1), .val (.int p2), .val (.int p3), .val (.int p4), .val (.int (1 : Int32)), .val (.int (0 : Int32)), .val (.ref aS), .val (.int (p2.toInt8.toInt32)), .val (.int (p3.toInt8.toInt32)), .val (.int (p4.toInt8.toInt32)), .val (.ref bm108), .val (.ref b109), .val (.ref bv113), .unset, .unset] at_144 rfl rfl
      replace k := k.aload at_146 rfl rfl
      replace k := k.iload at_148 rfl
      replace k := k.iload at_150 rfl
      replace k := k.iload at_152 rfl
      replace k := k.iload at_154 rfl
      obtain ⟨_, _, ⟨rfl, rfl⟩, k⟩ := k.callS (y := (⟨"com/example/mipart/mipart/model/ResultValuePinLaw", "same", "([BIBBB)Z"⟩ : MethodName)) at_156 (hw _ (List.mem_of_getElem? (i := 55) rfl)) (hw _ (List.mem_of_getElem? (i := 56) rfl)) (hw _ (List.mem_of_getElem? (i := 5) rfl)) (hw _ (List.mem_of_getElem? (i := 57) rfl)) (W := 0) (argsL := [(.ref bv113), (.int (1 : Int32)), (.int (p2.toInt8.toInt32)), (.int (p3.toInt8.toInt32)), (.int (p4.toInt8.toInt32))]) (rest := []) (rm7_1 Z a0 hw bv113 (p2.toInt8.toInt32) (p3.toInt8.toInt32) (p4.toInt8.toInt32) hv113 n0 Av113) rfl (pd_5) rfl rfl rfl (by decide) (by decide) (by decide) (by decide) (by decide)
      replace k := k.stk [(.int (1 : Int32))] rfl
      replace k := k.istore #[.val (.int p1), .val (.int p2), .val (.int p3), .val (.int p4), .val (.int (1 : Int32)), .val (.int (0 : Int32)), .val (.ref aS), .val (.int (p2.toInt8.toInt32)), .val (.int (p3.toInt8.toInt32)), .val (.int (p4.toInt8.toInt32)), .val (.ref bm108), .val (.ref b109), .val (.ref bv113), .val (.int (1 : Int32)), .unset] at_159 rfl
      replace k := k.iload at_161 rfl
      replace k := k.ifNo at_163 (by decide)
      replace k := k.iload at_166 rfl
      replace k := k.ifNo at_168 (by decide)
      replace k := k.aload at_171 rfl rfl
      replace k := k.iconst (0 : Int32) at_173 rfl
      replace k := k.iload at_174 rfl
      replace k := k.iconst (-1 : Int32) at_176 rfl
      replace k := k.ixor at_177
      replace k := k.i2b at_178
      obtain ⟨h114, W114, A114, k⟩ := k.bastore at_179 Av113 0 (by decide) (by decide) (by decide) gbv113 (((p2.toInt8.toInt32) ^^^ (-1 : Int32)).toInt8.toInt32) (own_i2b _)
      replace k := k.aload at_180 rfl rfl
      replace k := k.iload at_182 rfl
      replace k := k.iconst (1 : Int32) at_184 rfl
      replace k := k.isub at_185
      replace k := k.foldI (0 : Int32) (by decide)
      replace k := k.aload at_186 rfl rfl
      replace k := k.iload at_188 rfl
      replace k := k.iconst (1 : Int32) at_190 rfl
      replace k := k.isub at_191
      replace k := k.foldI (0 : Int32) (by decide)
      replace k := k.baload at_192 A114  0 (by decide) (by decide) (by decide) (.int (((p2.toInt8.toInt32) ^^^ (-1 : Int32)).toInt8.toInt32)) rfl
      replace k := k.iconst (-1 : Int32) at_193 rfl
      replace k := k.ixor at_194
      replace k := k.i2b at_195
      obtain ⟨h115, W115, A115, k⟩ := k.bastore at_196 A114 0 (by decide) (by decide) (by decide) gbv113 (((((p2.toInt8.toInt32) ^^^ (-1 : Int32)).toInt8.toInt32) ^^^ (-1 : Int32)).toInt8.toInt32) (own_i2b _)
      replace k := k.aload at_197 rfl rfl
      obtain ⟨_, hv116, ⟨bv116, rfl, gbv116, zbv116, Kv116, Av116⟩, k⟩ := k.callV (y := (⟨"com/example/mipart/mipart/model/Result", "value", "()[B"⟩ : MethodName)) (z := (⟨"com/example/mipart/mipart/model/Result", "value", "()[B"⟩ : MethodName)) (a := b109) at_199 (hw _ (List.mem_of_getElem? (i := 50) rfl)) (hw _ (List.mem_of_getElem? (i := 51) rfl)) (fun s hs => notFace_of_selects (args := #[]) (mvT hs (hw _ (List.mem_of_getElem? (i := 53) rfl)))) (hw _ (List.mem_of_getElem? (i := 53) rfl)) (hw _ (List.mem_of_getElem? (i := 52) rfl)) (hw _ (List.mem_of_getElem? (i := 10) rfl)) (hw _ (List.mem_of_getElem? (i := 54) rfl)) (Exa.wr W115 (Exa.wr W114 ((Exa.wr W112 (Exa.wr W111 (A109.keep Kj110))).keep Kv113))) (W := 0) (argsL := []) (rest := []) (rm6_ref Z a0 hw b109 tj110 1 (own_arr [(p2.toInt8.toInt32)]) h115 n0 (Nat.le_trans (Nat.le_trans (Nat.le_trans (Nat.le_trans (Nat.le_trans (Nat.le_trans (Nat.le_trans (Nat.le_trans Z0 Km108.1) E109.1) Kj110.1) (Nat.le_of_eq (Wr.size W111).symm)) (Nat.le_of_eq (Wr.size W112).symm)) Kv113.1) (Nat.le_of_eq (Wr.size W114).symm)) (Nat.le_of_eq (Wr.size W115).symm)) (Fld.other W115 (Fld.other W114 ((Fld.other W112 (Fld.other W111 Fvj110 (Or.inl (Ne.symm (Nat.ne_of_lt (Nat.lt_of_lt_of_le Em108.lt (Nat.le_of_eq g109.symm)))))) (Or.inl (Ne.symm (Nat.ne_of_lt (Nat.lt_of_lt_of_le Em108.lt (Nat.le_of_eq g109.symm)))))).keep Kv113 nin0) (Or.inl (Nat.ne_of_lt (Nat.lt_of_lt_of_le (Exa.wr W112 (Exa.wr W111 (A109.keep Kj110))).lt zbv113)))) (Or.inl (Nat.ne_of_lt (Nat.lt_of_lt_of_le (Exa.wr W112 (Exa.wr W111 (A109.keep Kj110))).lt zbv113)))) (by decide) (own_fit1 p2 p3 p4) (((((Atj110.other W111 (Ne.symm (Nat.ne_of_lt (Nat.lt_of_lt_of_le (Am108.ext E109).lt ztj110)))).other W112 (Ne.symm (Nat.ne_of_lt (Nat.lt_of_lt_of_le (Am108.ext E109).lt ztj110)))).keep Kv113 nin0).other W114 (Nat.ne_of_lt (Nat.lt_of_lt_of_le ((Atj110.other W111 (Ne.symm (Nat.ne_of_lt (Nat.lt_of_lt_of_le (Am108.ext E109).lt ztj110)))).other W112 (Ne.symm (Nat.ne_of_lt (Nat.lt_of_lt_of_le (Am108.ext E109).lt ztj110)))).lt zbv113))).other W115 (Nat.ne_of_lt (Nat.lt_of_lt_of_le ((Atj110.other W111 (Ne.symm (Nat.ne_of_lt (Nat.lt_of_lt_of_le (Am108.ext E109).lt ztj110)))).other W112 (Ne.symm (Nat.ne_of_lt (Nat.lt_of_lt_of_le (Am108.ext E109).lt ztj110)))).lt zbv113))) (Exa.wr W115 (Exa.wr W114 ((Exa.wr W112 (Exa.wr W111 Etj110)).keep Kv113)))) rfl (pd_4) rfl rfl rfl (by decide) (by decide) (by decide) (by decide) (by decide)
      replace k := k.stk [(.ref bv116)] rfl
      replace k := k.astore #[.val (.int p1), .val (.int p2), .val (.int p3), .val (.int p4), .val (.int (1 : Int32)), .val (.int (0 : Int32)), .val (.ref aS), .val (.int (p2.toInt8.toInt32)), .val (.int (p3.toInt8.toInt32)), .val (.int (p4.toInt8.toInt32)), .val (.ref bm108), .val (.ref b109), .val (.ref bv113), .val (.int (1 : Int32)), .val (.ref bv116)] at_202 rfl rfl
      replace k := k.iload at_204 rfl
      replace k := k.ifNo at_206 (by decide)
      replace k := k.aload at_209 rfl rfl
      replace k := k.iload at_211 rfl
      replace k := k.iload at_213 rfl
      replace k := k.iload at_215 rfl
      replace k := k.iload at_217 rfl
      obtain ⟨_, _, ⟨rfl, rfl⟩, k⟩ := k.callS (y := (⟨"com/example/mipart/mipart/model/ResultValuePinLaw", "same", "([BIBBB)Z"⟩ : MethodName)) at_219 (hw _ (List.mem_of_getElem? (i := 55) rfl)) (hw _ (List.mem_of_getElem? (i := 56) rfl)) (hw _ (List.mem_of_getElem? (i := 5) rfl)) (hw _ (List.mem_of_getElem? (i := 57) rfl)) (W := 0) (argsL := [(.ref bv116), (.int (1 : Int32)), (.int (p2.toInt8.toInt32)), (.int (p3.toInt8.toInt32)), (.int (p4.toInt8.toInt32))]) (rest := []) (rm7_1 Z a0 hw bv116 (p2.toInt8.toInt32) (p3.toInt8.toInt32) (p4.toInt8.toInt32) hv116 n0 Av116) rfl (pd_5) rfl rfl rfl (by decide) (by decide) (by decide) (by decide) (by decide)
      replace k := k.stk [(.int (1 : Int32))] rfl
      replace k := k.ifNo at_222 (by decide)
      replace k := k.iconst (1 : Int32) at_225 rfl
      replace k := k.goto (pc' := 230) at_226 (by decide) (by decide)
      exact k.iret at_230 rfl (by simp) rfl rfl (by decide) (by decide)
    · skip
      replace k := k.loc #[.val (.int p1), .val (.int p2), .val (.int p3), .val (.int p4), .val (.int (2 : Int32)), .val (.int (0 : Int32)), .val (.ref aS), .val (.int (p2.toInt8.toInt32)), .val (.int (p3.toInt8.toInt32)), .val (.int (p4.toInt8.toInt32)), .unset, .unset, .unset, .unset, .unset] (by rw [hx3])
      replace k := k.iload at_82 rfl
      replace k := k.iload at_84 rfl
      replace k := k.iload at_86 rfl
      replace k := k.iload at_88 rfl
      obtain ⟨_, hm117, ⟨bm117, rfl, gbm117, zbm117, Km117, Am117, Em117⟩, k⟩ := k.callS (y := (⟨"com/example/mipart/mipart/model/ResultValuePinLaw", "make", "(IBBB)[B"⟩ : MethodName)) at_90 (hw _ (List.mem_of_getElem? (i := 3) rfl)) (hw _ (List.mem_of_getElem? (i := 4) rfl)) (hw _ (List.mem_of_getElem? (i := 5) rfl)) (hw _ (List.mem_of_getElem? (i := 6) rfl)) (W := 0) (argsL := [(.int (2 : Int32)), (.int (p2.toInt8.toInt32)), (.int (p3.toInt8.toInt32)), (.int (p4.toInt8.toInt32))]) (rest := []) (rm1_2 Z a0 hw (p2.toInt8.toInt32) (p3.toInt8.toInt32) (p4.toInt8.toInt32) h0 n0 Z0 (own_i2b _) (own_i2b _) (own_i2b _)) rfl (pd_2) rfl rfl rfl (by decide) (by decide) (by decide) (by decide) (by decide)
      replace k := k.stk [(.ref bm117)] rfl
      replace k := k.astore #[.val (.int p1), .val (.int p2), .val (.int p3), .val (.int p4), .val (.int (2 : Int32)), .val (.int (0 : Int32)), .val (.ref aS), .val (.int (p2.toInt8.toInt32)), .val (.int (p3.toInt8.toInt32)), .val (.int (p4.toInt8.toInt32)), .val (.ref bm117), .unset, .unset, .unset, .unset] at_93 rfl rfl
      obtain ⟨h118, b118, g118, E118, A118, D118, k⟩ := k.newO at_95 (hw _ (List.mem_of_getElem? (i := 8) rfl)) (hw _ (List.mem_of_getElem? (i := 9) rfl)) (hw _ (List.mem_of_getElem? (i := 10) rfl)) (by decide) (by decide)
      have ge_b118 : n0 ≤ b118 := Nat.le_trans (Nat.le_trans Z0 Km117.1) (Nat.le_of_eq g118.symm)
      have F_status_b118 : Fld Z h118 b118 "com/example/mipart/mipart/model/Result" "status" "Lcom/example/mipart/mipart/model/Result$Status;" .null := D118 (Or.inr (hw _ (List.mem_of_getElem? (i := 43) rfl))) (ty := (.object "com/example/mipart/mipart/model/Result$Status")) (by decide)
      have F_value_b118 : Fld Z h118 b118 "com/example/mipart/mipart/model/Result" "value" "[B" .null := D118 (Or.inr (hw _ (List.mem_of_getElem? (i := 45) rfl))) (ty := (.array .byte)) (by decide)
      have F_lease_b118 : Fld Z h118 b118 "com/example/mipart/mipart/model/Result" "lease" "Lcom/example/mipart/mipart/model/Lease;" .null := D118 (Or.inr (hw _ (List.mem_of_getElem? (i := 47) rfl))) (ty := (.object "com/example/mipart/mipart/model/Lease")) (by decide)
      have F_queueLength_b118 : Fld Z h118 b118 "com/example/mipart/mipart/model/Result" "queueLength" "I" (.int (0 : Int32)) := D118 (Or.inr (hw _ (List.mem_of_getElem? (i := 49) rfl))) (ty := .int) (by decide)
      replace k := k.dup at_98 rfl
      replace k := k.aload at_99 rfl rfl
      replace k := k.aload at_101 rfl rfl
      obtain ⟨_, hj119, ⟨rfl, Kj119, tj119, gtj119, ztj119, Fvj119, Atj119, Etj119⟩, k⟩ := k.callI (y := (⟨"com/example/mipart/mipart/model/Result", "<init>", "(Lcom/example/mipart/mipart/model/Result$Status;[B)V"⟩ : MethodName)) (a := b118) at_103 rfl (hw _ (List.mem_of_getElem? (i := 11) rfl)) (hw _ (List.mem_of_getElem? (i := 12) rfl)) (hw _ (List.mem_of_getElem? (i := 10) rfl)) (hw _ (List.mem_of_getElem? (i := 13) rfl)) (W := 1) (argsL := [(.ref aS), (.ref bm117)]) (rest := [(.ref b118)]) (rm2_ref Z a0 hw b118 aS bm117 2 (own_arr [(p2.toInt8.toInt32), (p3.toInt8.toInt32)]) h118 n0 (Nat.le_trans (Nat.le_trans Z0 Km117.1) E118.1) ge_b118 A118 (Exa.ext E118 (Es.keep Km117)) F_status_b118 F_value_b118 F_lease_b118 F_queueLength_b118 (by decide) (own_fit2 p2 p3 p4) (Am117.ext E118) (Exa.ext E118 Em117)) rfl (pd_3) rfl rfl rfl (by decide) (by decide) (by decide) (by decide) (by decide)
      replace k := k.stk [(.ref b118)] rfl
      replace k := k.astore #[.val (.int p1), .val (.int p2), .val (.int p3), .val (.int p4), .val (.int (2 : Int32)), .val (.int (0 : Int32)), .val (.ref aS), .val (.int (p2.toInt8.toInt32)), .val (.int (p3.toInt8.toInt32)), .val (.int (p4.toInt8.toInt32)), .val (.ref bm117), .val (.ref b118), .unset, .unset, .unset] at_106 rfl rfl
      replace k := k.iload at_108 rfl
      replace k := k.ifNo at_110 (by decide)
      replace k := k.aload at_113 rfl rfl
      replace k := k.iconst (0 : Int32) at_115 rfl
      replace k := k.iload at_116 rfl
      replace k := k.iconst (-1 : Int32) at_118 rfl
      replace k := k.ixor at_119
      replace k := k.i2b at_120
      obtain ⟨h120, W120, A120, k⟩ := k.bastore at_121 ((Am117.ext E118).keep Kj119 (ninS (Nat.ne_of_lt (Nat.lt_of_lt_of_le Am117.lt (Nat.le_of_eq g118.symm))) nin0)) 0 (by decide) (by decide) (by decide) gbm117 (((p2.toInt8.toInt32) ^^^ (-1 : Int32)).toInt8.toInt32) (own_i2b _)
      replace k := k.aload at_122 rfl rfl
      replace k := k.iload at_124 rfl
      replace k := k.iconst (1 : Int32) at_126 rfl
      replace k := k.isub at_127
      replace k := k.foldI (1 : Int32) (by decide)
      replace k := k.aload at_128 rfl rfl
      replace k := k.iload at_130 rfl
      replace k := k.iconst (1 : Int32) at_132 rfl
      replace k := k.isub at_133
      replace k := k.foldI (1 : Int32) (by decide)
      replace k := k.baload at_134 A120  1 (by decide) (by decide) (by decide) (.int (p3.toInt8.toInt32)) rfl
      replace k := k.iconst (-1 : Int32) at_135 rfl
      replace k := k.ixor at_136
      replace k := k.i2b at_137
      obtain ⟨h121, W121, A121, k⟩ := k.bastore at_138 A120 1 (by decide) (by decide) (by decide) gbm117 (((p3.toInt8.toInt32) ^^^ (-1 : Int32)).toInt8.toInt32) (own_i2b _)
      replace k := k.aload at_139 rfl rfl
      obtain ⟨_, hv122, ⟨bv122, rfl, gbv122, zbv122, Kv122, Av122⟩, k⟩ := k.callV (y := (⟨"com/example/mipart/mipart/model/Result", "value", "()[B"⟩ : MethodName)) (z := (⟨"com/example/mipart/mipart/model/Result", "value", "()[B"⟩ : MethodName)) (a := b118) at_141 (hw _ (List.mem_of_getElem? (i := 50) rfl)) (hw _ (List.mem_of_getElem? (i := 51) rfl)) (fun s hs => notFace_of_selects (args := #[]) (mvT hs (hw _ (List.mem_of_getElem? (i := 53) rfl)))) (hw _ (List.mem_of_getElem? (i := 53) rfl)) (hw _ (List.mem_of_getElem? (i := 52) rfl)) (hw _ (List.mem_of_getElem? (i := 10) rfl)) (hw _ (List.mem_of_getElem? (i := 54) rfl)) (Exa.wr W121 (Exa.wr W120 (A118.keep Kj119))) (W := 0) (argsL := []) (rest := []) (rm6_ref Z a0 hw b118 tj119 2 (own_arr [(p2.toInt8.toInt32), (p3.toInt8.toInt32)]) h121 n0 (Nat.le_trans (Nat.le_trans (Nat.le_trans (Nat.le_trans (Nat.le_trans Z0 Km117.1) E118.1) Kj119.1) (Nat.le_of_eq (Wr.size W120).symm)) (Nat.le_of_eq (Wr.size W121).symm)) (Fld.other W121 (Fld.other W120 Fvj119 (Or.inl (Ne.symm (Nat.ne_of_lt (Nat.lt_of_lt_of_le Em117.lt (Nat.le_of_eq g118.symm)))))) (Or.inl (Ne.symm (Nat.ne_of_lt (Nat.lt_of_lt_of_le Em117.lt (Nat.le_of_eq g118.symm)))))) (by decide) (own_fit2 p2 p3 p4) ((Atj119.other W120 (Ne.symm (Nat.ne_of_lt (Nat.lt_of_lt_of_le (Am117.ext E118).lt ztj119)))).other W121 (Ne.symm (Nat.ne_of_lt (Nat.lt_of_lt_of_le (Am117.ext E118).lt ztj119)))) (Exa.wr W121 (Exa.wr W120 Etj119))) rfl (pd_4) rfl rfl rfl (by decide) (by decide) (by decide) (by decide) (by decide)
      replace k := k.stk [(.ref bv122)] rfl
      replace k := k.astore #[.val (.int p1), .val (.int p2), .val (.int p3), .val (.int p4), .val (.int (2 : Int32)), .val (.int (0 : Int32)), .val (.ref aS), .val (.int (p2.toInt8.toInt32)), .val (.int (p3.toInt8.toInt32)), .val (.int (p4.toInt8.toInt32)), .val (.ref bm117), .val (.ref b118), .val (.ref bv122), .unset, .unset] at_144 rfl rfl
      replace k := k.aload at_146 rfl rfl
      replace k := k.iload at_148 rfl
      replace k := k.iload at_150 rfl
      replace k := k.iload at_152 rfl
      replace k := k.iload at_154 rfl
      obtain ⟨_, _, ⟨rfl, rfl⟩, k⟩ := k.callS (y := (⟨"com/example/mipart/mipart/model/ResultValuePinLaw", "same", "([BIBBB)Z"⟩ : MethodName)) at_156 (hw _ (List.mem_of_getElem? (i := 55) rfl)) (hw _ (List.mem_of_getElem? (i := 56) rfl)) (hw _ (List.mem_of_getElem? (i := 5) rfl)) (hw _ (List.mem_of_getElem? (i := 57) rfl)) (W := 0) (argsL := [(.ref bv122), (.int (2 : Int32)), (.int (p2.toInt8.toInt32)), (.int (p3.toInt8.toInt32)), (.int (p4.toInt8.toInt32))]) (rest := []) (rm7_2 Z a0 hw bv122 (p2.toInt8.toInt32) (p3.toInt8.toInt32) (p4.toInt8.toInt32) hv122 n0 Av122) rfl (pd_5) rfl rfl rfl (by decide) (by decide) (by decide) (by decide) (by decide)
      replace k := k.stk [(.int (1 : Int32))] rfl
      replace k := k.istore #[.val (.int p1), .val (.int p2), .val (.int p3), .val (.int p4), .val (.int (2 : Int32)), .val (.int (0 : Int32)), .val (.ref aS), .val (.int (p2.toInt8.toInt32)), .val (.int (p3.toInt8.toInt32)), .val (.int (p4.toInt8.toInt32)), .val (.ref bm117), .val (.ref b118), .val (.ref bv122), .val (.int (1 : Int32)), .unset] at_159 rfl
      replace k := k.iload at_161 rfl
      replace k := k.ifNo at_163 (by decide)
      replace k := k.iload at_166 rfl
      replace k := k.ifNo at_168 (by decide)
      replace k := k.aload at_171 rfl rfl
      replace k := k.iconst (0 : Int32) at_173 rfl
      replace k := k.iload at_174 rfl
      replace k := k.iconst (-1 : Int32) at_176 rfl
      replace k := k.ixor at_177
      replace k := k.i2b at_178
      obtain ⟨h123, W123, A123, k⟩ := k.bastore at_179 Av122 0 (by decide) (by decide) (by decide) gbv122 (((p2.toInt8.toInt32) ^^^ (-1 : Int32)).toInt8.toInt32) (own_i2b _)
      replace k := k.aload at_180 rfl rfl
      replace k := k.iload at_182 rfl
      replace k := k.iconst (1 : Int32) at_184 rfl
      replace k := k.isub at_185
      replace k := k.foldI (1 : Int32) (by decide)
      replace k := k.aload at_186 rfl rfl
      replace k := k.iload at_188 rfl
      replace k := k.iconst (1 : Int32) at_190 rfl
      replace k := k.isub at_191
      replace k := k.foldI (1 : Int32) (by decide)
      replace k := k.baload at_192 A123  1 (by decide) (by decide) (by decide) (.int (p3.toInt8.toInt32)) rfl
      replace k := k.iconst (-1 : Int32) at_193 rfl
      replace k := k.ixor at_194
      replace k := k.i2b at_195
      obtain ⟨h124, W124, A124, k⟩ := k.bastore at_196 A123 1 (by decide) (by decide) (by decide) gbv122 (((p3.toInt8.toInt32) ^^^ (-1 : Int32)).toInt8.toInt32) (own_i2b _)
      replace k := k.aload at_197 rfl rfl
      obtain ⟨_, hv125, ⟨bv125, rfl, gbv125, zbv125, Kv125, Av125⟩, k⟩ := k.callV (y := (⟨"com/example/mipart/mipart/model/Result", "value", "()[B"⟩ : MethodName)) (z := (⟨"com/example/mipart/mipart/model/Result", "value", "()[B"⟩ : MethodName)) (a := b118) at_199 (hw _ (List.mem_of_getElem? (i := 50) rfl)) (hw _ (List.mem_of_getElem? (i := 51) rfl)) (fun s hs => notFace_of_selects (args := #[]) (mvT hs (hw _ (List.mem_of_getElem? (i := 53) rfl)))) (hw _ (List.mem_of_getElem? (i := 53) rfl)) (hw _ (List.mem_of_getElem? (i := 52) rfl)) (hw _ (List.mem_of_getElem? (i := 10) rfl)) (hw _ (List.mem_of_getElem? (i := 54) rfl)) (Exa.wr W124 (Exa.wr W123 ((Exa.wr W121 (Exa.wr W120 (A118.keep Kj119))).keep Kv122))) (W := 0) (argsL := []) (rest := []) (rm6_ref Z a0 hw b118 tj119 2 (own_arr [(p2.toInt8.toInt32), (p3.toInt8.toInt32)]) h124 n0 (Nat.le_trans (Nat.le_trans (Nat.le_trans (Nat.le_trans (Nat.le_trans (Nat.le_trans (Nat.le_trans (Nat.le_trans Z0 Km117.1) E118.1) Kj119.1) (Nat.le_of_eq (Wr.size W120).symm)) (Nat.le_of_eq (Wr.size W121).symm)) Kv122.1) (Nat.le_of_eq (Wr.size W123).symm)) (Nat.le_of_eq (Wr.size W124).symm)) (Fld.other W124 (Fld.other W123 ((Fld.other W121 (Fld.other W120 Fvj119 (Or.inl (Ne.symm (Nat.ne_of_lt (Nat.lt_of_lt_of_le Em117.lt (Nat.le_of_eq g118.symm)))))) (Or.inl (Ne.symm (Nat.ne_of_lt (Nat.lt_of_lt_of_le Em117.lt (Nat.le_of_eq g118.symm)))))).keep Kv122 nin0) (Or.inl (Nat.ne_of_lt (Nat.lt_of_lt_of_le (Exa.wr W121 (Exa.wr W120 (A118.keep Kj119))).lt zbv122)))) (Or.inl (Nat.ne_of_lt (Nat.lt_of_lt_of_le (Exa.wr W121 (Exa.wr W120 (A118.keep Kj119))).lt zbv122)))) (by decide) (own_fit2 p2 p3 p4) (((((Atj119.other W120 (Ne.symm (Nat.ne_of_lt (Nat.lt_of_lt_of_le (Am117.ext E118).lt ztj119)))).other W121 (Ne.symm (Nat.ne_of_lt (Nat.lt_of_lt_of_le (Am117.ext E118).lt ztj119)))).keep Kv122 nin0).other W123 (Nat.ne_of_lt (Nat.lt_of_lt_of_le ((Atj119.other W120 (Ne.symm (Nat.ne_of_lt (Nat.lt_of_lt_of_le (Am117.ext E118).lt ztj119)))).other W121 (Ne.symm (Nat.ne_of_lt (Nat.lt_of_lt_of_le (Am117.ext E118).lt ztj119)))).lt zbv122))).other W124 (Nat.ne_of_lt (Nat.lt_of_lt_of_le ((Atj119.other W120 (Ne.symm (Nat.ne_of_lt (Nat.lt_of_lt_of_le (Am117.ext E118).lt ztj119)))).other W121 (Ne.symm (Nat.ne_of_lt (Nat.lt_of_lt_of_le (Am117.ext E118).lt ztj119)))).lt zbv122))) (Exa.wr W124 (Exa.wr W123 ((Exa.wr W121 (Exa.wr W120 Etj119)).keep Kv122)))) rfl (pd_4) rfl rfl rfl (by decide) (by decide) (by decide) (by decide) (by decide)
      replace k := k.stk [(.ref bv125)] rfl
      replace k := k.astore #[.val (.int p1), .val (.int p2), .val (.int p3), .val (.int p4), .val (.int (2 : Int32)), .val (.int (0 : Int32)), .val (.ref aS), .val (.int (p2.toInt8.toInt32)), .val (.int (p3.toInt8.toInt32)), .val (.int (p4.toInt8.toInt32)), .val (.ref bm117), .val (.ref b118), .val (.ref bv122), .val (.int (1 : Int32)), .val (.ref bv125)] at_202 rfl rfl
      replace k := k.iload at_204 rfl
      replace k := k.ifNo at_206 (by decide)
      replace k := k.aload at_209 rfl rfl
      replace k := k.iload at_211 rfl
      replace k := k.iload at_213 rfl
      replace k := k.iload at_215 rfl
      replace k := k.iload at_217 rfl
      obtain ⟨_, _, ⟨rfl, rfl⟩, k⟩ := k.callS (y := (⟨"com/example/mipart/mipart/model/ResultValuePinLaw", "same", "([BIBBB)Z"⟩ : MethodName)) at_219 (hw _ (List.mem_of_getElem? (i := 55) rfl)) (hw _ (List.mem_of_getElem? (i := 56) rfl)) (hw _ (List.mem_of_getElem? (i := 5) rfl)) (hw _ (List.mem_of_getElem? (i := 57) rfl)) (W := 0) (argsL := [(.ref bv125), (.int (2 : Int32)), (.int (p2.toInt8.toInt32)), (.int (p3.toInt8.toInt32)), (.int (p4.toInt8.toInt32))]) (rest := []) (rm7_2 Z a0 hw bv125 (p2.toInt8.toInt32) (p3.toInt8.toInt32) (p4.toInt8.toInt32) hv125 n0 Av125) rfl (pd_5) rfl rfl rfl (by decide) (by decide) (by decide) (by decide) (by decide)
      replace k := k.stk [(.int (1 : Int32))] rfl
      replace k := k.ifNo at_222 (by decide)
      replace k := k.iconst (1 : Int32) at_225 rfl
      replace k := k.goto (pc' := 230) at_226 (by decide) (by decide)
      exact k.iret at_230 rfl (by simp) rfl rfl (by decide) (by decide)
    · skip
      replace k := k.loc #[.val (.int p1), .val (.int p2), .val (.int p3), .val (.int p4), .val (.int (3 : Int32)), .val (.int (0 : Int32)), .val (.ref aS), .val (.int (p2.toInt8.toInt32)), .val (.int (p3.toInt8.toInt32)), .val (.int (p4.toInt8.toInt32)), .unset, .unset, .unset, .unset, .unset] (by rw [hx3])
      replace k := k.iload at_82 rfl
      replace k := k.iload at_84 rfl
      replace k := k.iload at_86 rfl
      replace k := k.iload at_88 rfl
      obtain ⟨_, hm126, ⟨bm126, rfl, gbm126, zbm126, Km126, Am126, Em126⟩, k⟩ := k.callS (y := (⟨"com/example/mipart/mipart/model/ResultValuePinLaw", "make", "(IBBB)[B"⟩ : MethodName)) at_90 (hw _ (List.mem_of_getElem? (i := 3) rfl)) (hw _ (List.mem_of_getElem? (i := 4) rfl)) (hw _ (List.mem_of_getElem? (i := 5) rfl)) (hw _ (List.mem_of_getElem? (i := 6) rfl)) (W := 0) (argsL := [(.int (3 : Int32)), (.int (p2.toInt8.toInt32)), (.int (p3.toInt8.toInt32)), (.int (p4.toInt8.toInt32))]) (rest := []) (rm1_3 Z a0 hw (p2.toInt8.toInt32) (p3.toInt8.toInt32) (p4.toInt8.toInt32) h0 n0 Z0 (own_i2b _) (own_i2b _) (own_i2b _)) rfl (pd_2) rfl rfl rfl (by decide) (by decide) (by decide) (by decide) (by decide)
      replace k := k.stk [(.ref bm126)] rfl
      replace k := k.astore #[.val (.int p1), .val (.int p2), .val (.int p3), .val (.int p4), .val (.int (3 : Int32)), .val (.int (0 : Int32)), .val (.ref aS), .val (.int (p2.toInt8.toInt32)), .val (.int (p3.toInt8.toInt32)), .val (.int (p4.toInt8.toInt32)), .val (.ref bm126), .unset, .unset, .unset, .unset] at_93 rfl rfl
      obtain ⟨h127, b127, g127, E127, A127, D127, k⟩ := k.newO at_95 (hw _ (List.mem_of_getElem? (i := 8) rfl)) (hw _ (List.mem_of_getElem? (i := 9) rfl)) (hw _ (List.mem_of_getElem? (i := 10) rfl)) (by decide) (by decide)
      have ge_b127 : n0 ≤ b127 := Nat.le_trans (Nat.le_trans Z0 Km126.1) (Nat.le_of_eq g127.symm)
      have F_status_b127 : Fld Z h127 b127 "com/example/mipart/mipart/model/Result" "status" "Lcom/example/mipart/mipart/model/Result$Status;" .null := D127 (Or.inr (hw _ (List.mem_of_getElem? (i := 43) rfl))) (ty := (.object "com/example/mipart/mipart/model/Result$Status")) (by decide)
      have F_value_b127 : Fld Z h127 b127 "com/example/mipart/mipart/model/Result" "value" "[B" .null := D127 (Or.inr (hw _ (List.mem_of_getElem? (i := 45) rfl))) (ty := (.array .byte)) (by decide)
      have F_lease_b127 : Fld Z h127 b127 "com/example/mipart/mipart/model/Result" "lease" "Lcom/example/mipart/mipart/model/Lease;" .null := D127 (Or.inr (hw _ (List.mem_of_getElem? (i := 47) rfl))) (ty := (.object "com/example/mipart/mipart/model/Lease")) (by decide)
      have F_queueLength_b127 : Fld Z h127 b127 "com/example/mipart/mipart/model/Result" "queueLength" "I" (.int (0 : Int32)) := D127 (Or.inr (hw _ (List.mem_of_getElem? (i := 49) rfl))) (ty := .int) (by decide)
      replace k := k.dup at_98 rfl
      replace k := k.aload at_99 rfl rfl
      replace k := k.aload at_101 rfl rfl
      obtain ⟨_, hj128, ⟨rfl, Kj128, tj128, gtj128, ztj128, Fvj128, Atj128, Etj128⟩, k⟩ := k.callI (y := (⟨"com/example/mipart/mipart/model/Result", "<init>", "(Lcom/example/mipart/mipart/model/Result$Status;[B)V"⟩ : MethodName)) (a := b127) at_103 rfl (hw _ (List.mem_of_getElem? (i := 11) rfl)) (hw _ (List.mem_of_getElem? (i := 12) rfl)) (hw _ (List.mem_of_getElem? (i := 10) rfl)) (hw _ (List.mem_of_getElem? (i := 13) rfl)) (W := 1) (argsL := [(.ref aS), (.ref bm126)]) (rest := [(.ref b127)]) (rm2_ref Z a0 hw b127 aS bm126 3 (own_arr [(p2.toInt8.toInt32), (p3.toInt8.toInt32), (p4.toInt8.toInt32)]) h127 n0 (Nat.le_trans (Nat.le_trans Z0 Km126.1) E127.1) ge_b127 A127 (Exa.ext E127 (Es.keep Km126)) F_status_b127 F_value_b127 F_lease_b127 F_queueLength_b127 (by decide) (own_fit3 p2 p3 p4) (Am126.ext E127) (Exa.ext E127 Em126)) rfl (pd_3) rfl rfl rfl (by decide) (by decide) (by decide) (by decide) (by decide)
      replace k := k.stk [(.ref b127)] rfl
      replace k := k.astore #[.val (.int p1), .val (.int p2), .val (.int p3), .val (.int p4), .val (.int (3 : Int32)), .val (.int (0 : Int32)), .val (.ref aS), .val (.int (p2.toInt8.toInt32)), .val (.int (p3.toInt8.toInt32)), .val (.int (p4.toInt8.toInt32)), .val (.ref bm126), .val (.ref b127), .unset, .unset, .unset] at_106 rfl rfl
      replace k := k.iload at_108 rfl
      replace k := k.ifNo at_110 (by decide)
      replace k := k.aload at_113 rfl rfl
      replace k := k.iconst (0 : Int32) at_115 rfl
      replace k := k.iload at_116 rfl
      replace k := k.iconst (-1 : Int32) at_118 rfl
      replace k := k.ixor at_119
      replace k := k.i2b at_120
      obtain ⟨h129, W129, A129, k⟩ := k.bastore at_121 ((Am126.ext E127).keep Kj128 (ninS (Nat.ne_of_lt (Nat.lt_of_lt_of_le Am126.lt (Nat.le_of_eq g127.symm))) nin0)) 0 (by decide) (by decide) (by decide) gbm126 (((p2.toInt8.toInt32) ^^^ (-1 : Int32)).toInt8.toInt32) (own_i2b _)
      replace k := k.aload at_122 rfl rfl
      replace k := k.iload at_124 rfl
      replace k := k.iconst (1 : Int32) at_126 rfl
      replace k := k.isub at_127
      replace k := k.foldI (2 : Int32) (by decide)
      replace k := k.aload at_128 rfl rfl
      replace k := k.iload at_130 rfl
      replace k := k.iconst (1 : Int32) at_132 rfl
      replace k := k.isub at_133
      replace k := k.foldI (2 : Int32) (by decide)
      replace k := k.baload at_134 A129  2 (by decide) (by decide) (by decide) (.int (p4.toInt8.toInt32)) rfl
      replace k := k.iconst (-1 : Int32) at_135 rfl
      replace k := k.ixor at_136
      replace k := k.i2b at_137
      obtain ⟨h130, W130, A130, k⟩ := k.bastore at_138 A129 2 (by decide) (by decide) (by decide) gbm126 (((p4.toInt8.toInt32) ^^^ (-1 : Int32)).toInt8.toInt32) (own_i2b _)
      replace k := k.aload at_139 rfl rfl
      obtain ⟨_, hv131, ⟨bv131, rfl, gbv131, zbv131, Kv131, Av131⟩, k⟩ := k.callV (y := (⟨"com/example/mipart/mipart/model/Result", "value", "()[B"⟩ : MethodName)) (z := (⟨"com/example/mipart/mipart/model/Result", "value", "()[B"⟩ : MethodName)) (a := b127) at_141 (hw _ (List.mem_of_getElem? (i := 50) rfl)) (hw _ (List.mem_of_getElem? (i := 51) rfl)) (fun s hs => notFace_of_selects (args := #[]) (mvT hs (hw _ (List.mem_of_getElem? (i := 53) rfl)))) (hw _ (List.mem_of_getElem? (i := 53) rfl)) (hw _ (List.mem_of_getElem? (i := 52) rfl)) (hw _ (List.mem_of_getElem? (i := 10) rfl)) (hw _ (List.mem_of_getElem? (i := 54) rfl)) (Exa.wr W130 (Exa.wr W129 (A127.keep Kj128))) (W := 0) (argsL := []) (rest := []) (rm6_ref Z a0 hw b127 tj128 3 (own_arr [(p2.toInt8.toInt32), (p3.toInt8.toInt32), (p4.toInt8.toInt32)]) h130 n0 (Nat.le_trans (Nat.le_trans (Nat.le_trans (Nat.le_trans (Nat.le_trans Z0 Km126.1) E127.1) Kj128.1) (Nat.le_of_eq (Wr.size W129).symm)) (Nat.le_of_eq (Wr.size W130).symm)) (Fld.other W130 (Fld.other W129 Fvj128 (Or.inl (Ne.symm (Nat.ne_of_lt (Nat.lt_of_lt_of_le Em126.lt (Nat.le_of_eq g127.symm)))))) (Or.inl (Ne.symm (Nat.ne_of_lt (Nat.lt_of_lt_of_le Em126.lt (Nat.le_of_eq g127.symm)))))) (by decide) (own_fit3 p2 p3 p4) ((Atj128.other W129 (Ne.symm (Nat.ne_of_lt (Nat.lt_of_lt_of_le (Am126.ext E127).lt ztj128)))).other W130 (Ne.symm (Nat.ne_of_lt (Nat.lt_of_lt_of_le (Am126.ext E127).lt ztj128)))) (Exa.wr W130 (Exa.wr W129 Etj128))) rfl (pd_4) rfl rfl rfl (by decide) (by decide) (by decide) (by decide) (by decide)
      replace k := k.stk [(.ref bv131)] rfl
      replace k := k.astore #[.val (.int p1), .val (.int p2), .val (.int p3), .val (.int p4), .val (.int (3 : Int32)), .val (.int (0 : Int32)), .val (.ref aS), .val (.int (p2.toInt8.toInt32)), .val (.int (p3.toInt8.toInt32)), .val (.int (p4.toInt8.toInt32)), .val (.ref bm126), .val (.ref b127), .val (.ref bv131), .unset, .unset] at_144 rfl rfl
      replace k := k.aload at_146 rfl rfl
      replace k := k.iload at_148 rfl
      replace k := k.iload at_150 rfl
      replace k := k.iload at_152 rfl
      replace k := k.iload at_154 rfl
      obtain ⟨_, _, ⟨rfl, rfl⟩, k⟩ := k.callS (y := (⟨"com/example/mipart/mipart/model/ResultValuePinLaw", "same", "([BIBBB)Z"⟩ : MethodName)) at_156 (hw _ (List.mem_of_getElem? (i := 55) rfl)) (hw _ (List.mem_of_getElem? (i := 56) rfl)) (hw _ (List.mem_of_getElem? (i := 5) rfl)) (hw _ (List.mem_of_getElem? (i := 57) rfl)) (W := 0) (argsL := [(.ref bv131), (.int (3 : Int32)), (.int (p2.toInt8.toInt32)), (.int (p3.toInt8.toInt32)), (.int (p4.toInt8.toInt32))]) (rest := []) (rm7_3 Z a0 hw bv131 (p2.toInt8.toInt32) (p3.toInt8.toInt32) (p4.toInt8.toInt32) hv131 n0 Av131) rfl (pd_5) rfl rfl rfl (by decide) (by decide) (by decide) (by decide) (by decide)
      replace k := k.stk [(.int (1 : Int32))] rfl
      replace k := k.istore #[.val (.int p1), .val (.int p2), .val (.int p3), .val (.int p4), .val (.int (3 : Int32)), .val (.int (0 : Int32)), .val (.ref aS), .val (.int (p2.toInt8.toInt32)), .val (.int (p3.toInt8.toInt32)), .val (.int (p4.toInt8.toInt32)), .val (.ref bm126), .val (.ref b127), .val (.ref bv131), .val (.int (1 : Int32)), .unset] at_159 rfl
      replace k := k.iload at_161 rfl
      replace k := k.ifNo at_163 (by decide)
      replace k := k.iload at_166 rfl
      replace k := k.ifNo at_168 (by decide)
      replace k := k.aload at_171 rfl rfl
      replace k := k.iconst (0 : Int32) at_173 rfl
      replace k := k.iload at_174 rfl
      replace k := k.iconst (-1 : Int32) at_176 rfl
      replace k := k.ixor at_177
      replace k := k.i2b at_178
      obtain ⟨h132, W132, A132, k⟩ := k.bastore at_179 Av131 0 (by decide) (by decide) (by decide) gbv131 (((p2.toInt8.toInt32) ^^^ (-1 : Int32)).toInt8.toInt32) (own_i2b _)
      replace k := k.aload at_180 rfl rfl
      replace k := k.iload at_182 rfl
      replace k := k.iconst (1 : Int32) at_184 rfl
      replace k := k.isub at_185
      replace k := k.foldI (2 : Int32) (by decide)
      replace k := k.aload at_186 rfl rfl
      replace k := k.iload at_188 rfl
      replace k := k.iconst (1 : Int32) at_190 rfl
      replace k := k.isub at_191
      replace k := k.foldI (2 : Int32) (by decide)
      replace k := k.baload at_192 A132  2 (by decide) (by decide) (by decide) (.int (p4.toInt8.toInt32)) rfl
      replace k := k.iconst (-1 : Int32) at_193 rfl
      replace k := k.ixor at_194
      replace k := k.i2b at_195
      obtain ⟨h133, W133, A133, k⟩ := k.bastore at_196 A132 2 (by decide) (by decide) (by decide) gbv131 (((p4.toInt8.toInt32) ^^^ (-1 : Int32)).toInt8.toInt32) (own_i2b _)
      replace k := k.aload at_197 rfl rfl
      obtain ⟨_, hv134, ⟨bv134, rfl, gbv134, zbv134, Kv134, Av134⟩, k⟩ := k.callV (y := (⟨"com/example/mipart/mipart/model/Result", "value", "()[B"⟩ : MethodName)) (z := (⟨"com/example/mipart/mipart/model/Result", "value", "()[B"⟩ : MethodName)) (a := b127) at_199 (hw _ (List.mem_of_getElem? (i := 50) rfl)) (hw _ (List.mem_of_getElem? (i := 51) rfl)) (fun s hs => notFace_of_selects (args := #[]) (mvT hs (hw _ (List.mem_of_getElem? (i := 53) rfl)))) (hw _ (List.mem_of_getElem? (i := 53) rfl)) (hw _ (List.mem_of_getElem? (i := 52) rfl)) (hw _ (List.mem_of_getElem? (i := 10) rfl)) (hw _ (List.mem_of_getElem? (i := 54) rfl)) (Exa.wr W133 (Exa.wr W132 ((Exa.wr W130 (Exa.wr W129 (A127.keep Kj128))).keep Kv131))) (W := 0) (argsL := []) (rest := []) (rm6_ref Z a0 hw b127 tj128 3 (own_arr [(p2.toInt8.toInt32), (p3.toInt8.toInt32), (p4.toInt8.toInt32)]) h133 n0 (Nat.le_trans (Nat.le_trans (Nat.le_trans (Nat.le_trans (Nat.le_trans (Nat.le_trans (Nat.le_trans (Nat.le_trans Z0 Km126.1) E127.1) Kj128.1) (Nat.le_of_eq (Wr.size W129).symm)) (Nat.le_of_eq (Wr.size W130).symm)) Kv131.1) (Nat.le_of_eq (Wr.size W132).symm)) (Nat.le_of_eq (Wr.size W133).symm)) (Fld.other W133 (Fld.other W132 ((Fld.other W130 (Fld.other W129 Fvj128 (Or.inl (Ne.symm (Nat.ne_of_lt (Nat.lt_of_lt_of_le Em126.lt (Nat.le_of_eq g127.symm)))))) (Or.inl (Ne.symm (Nat.ne_of_lt (Nat.lt_of_lt_of_le Em126.lt (Nat.le_of_eq g127.symm)))))).keep Kv131 nin0) (Or.inl (Nat.ne_of_lt (Nat.lt_of_lt_of_le (Exa.wr W130 (Exa.wr W129 (A127.keep Kj128))).lt zbv131)))) (Or.inl (Nat.ne_of_lt (Nat.lt_of_lt_of_le (Exa.wr W130 (Exa.wr W129 (A127.keep Kj128))).lt zbv131)))) (by decide) (own_fit3 p2 p3 p4) (((((Atj128.other W129 (Ne.symm (Nat.ne_of_lt (Nat.lt_of_lt_of_le (Am126.ext E127).lt ztj128)))).other W130 (Ne.symm (Nat.ne_of_lt (Nat.lt_of_lt_of_le (Am126.ext E127).lt ztj128)))).keep Kv131 nin0).other W132 (Nat.ne_of_lt (Nat.lt_of_lt_of_le ((Atj128.other W129 (Ne.symm (Nat.ne_of_lt (Nat.lt_of_lt_of_le (Am126.ext E127).lt ztj128)))).other W130 (Ne.symm (Nat.ne_of_lt (Nat.lt_of_lt_of_le (Am126.ext E127).lt ztj128)))).lt zbv131))).other W133 (Nat.ne_of_lt (Nat.lt_of_lt_of_le ((Atj128.other W129 (Ne.symm (Nat.ne_of_lt (Nat.lt_of_lt_of_le (Am126.ext E127).lt ztj128)))).other W130 (Ne.symm (Nat.ne_of_lt (Nat.lt_of_lt_of_le (Am126.ext E127).lt ztj128)))).lt zbv131))) (Exa.wr W133 (Exa.wr W132 ((Exa.wr W130 (Exa.wr W129 Etj128)).keep Kv131)))) rfl (pd_4) rfl rfl rfl (by decide) (by decide) (by decide) (by decide) (by decide)
      replace k := k.stk [(.ref bv134)] rfl
      replace k := k.astore #[.val (.int p1), .val (.int p2), .val (.int p3), .val (.int p4), .val (.int (3 : Int32)), .val (.int (0 : Int32)), .val (.ref aS), .val (.int (p2.toInt8.toInt32)), .val (.int (p3.toInt8.toInt32)), .val (.int (p4.toInt8.toInt32)), .val (.ref bm126), .val (.ref b127), .val (.ref bv131), .val (.int (1 : Int32)), .val (.ref bv134)] at_202 rfl rfl
      replace k := k.iload at_204 rfl
      replace k := k.ifNo at_206 (by decide)
      replace k := k.aload at_209 rfl rfl
      replace k := k.iload at_211 rfl
      replace k := k.iload at_213 rfl
      replace k := k.iload at_215 rfl
      replace k := k.iload at_217 rfl
      obtain ⟨_, _, ⟨rfl, rfl⟩, k⟩ := k.callS (y := (⟨"com/example/mipart/mipart/model/ResultValuePinLaw", "same", "([BIBBB)Z"⟩ : MethodName)) at_219 (hw _ (List.mem_of_getElem? (i := 55) rfl)) (hw _ (List.mem_of_getElem? (i := 56) rfl)) (hw _ (List.mem_of_getElem? (i := 5) rfl)) (hw _ (List.mem_of_getElem? (i := 57) rfl)) (W := 0) (argsL := [(.ref bv134), (.int (3 : Int32)), (.int (p2.toInt8.toInt32)), (.int (p3.toInt8.toInt32)), (.int (p4.toInt8.toInt32))]) (rest := []) (rm7_3 Z a0 hw bv134 (p2.toInt8.toInt32) (p3.toInt8.toInt32) (p4.toInt8.toInt32) hv134 n0 Av134) rfl (pd_5) rfl rfl rfl (by decide) (by decide) (by decide) (by decide) (by decide)
      replace k := k.stk [(.int (1 : Int32))] rfl
      replace k := k.ifNo at_222 (by decide)
      replace k := k.iconst (1 : Int32) at_225 rfl
      replace k := k.goto (pc' := 230) at_226 (by decide) (by decide)
      exact k.iret at_230 rfl (by simp) rfl rfl (by decide) (by decide)
  · skip
    replace k := k.ifNo at_10 (feq hc101).1
    replace k := k.iconst (1 : Int32) at_13 rfl
    replace k := k.goto (pc' := 18) at_14 (by decide) (by decide)
    replace k := k.istore #[.val (.int p1), .val (.int p2), .val (.int p3), .val (.int p4), .val (.int (p1 &&& (3 : Int32))), .val (.int (1 : Int32)), .unset, .unset, .unset, .unset, .unset, .unset, .unset, .unset, .unset] at_18 rfl
    replace k := k.iloadN at_20 rfl
    replace k := k.iconst (3 : Int32) at_21 rfl
    replace k := k.ishr at_22
    replace k := k.iconst (1 : Int32) at_23 rfl
    replace k := k.iand at_24
    obtain ⟨aS, Es, k⟩ : ∃ aS : Addr, Exa Z h0 aS "com/example/mipart/mipart/model/Result$Status" ∧ Run C room_1 Z n0 x.cls x.name ret code maxLocals h0 0 0 37 #[.val (.int p1), .val (.int p2), .val (.int p3), .val (.int p4), .val (.int (p1 &&& (3 : Int32))), .val (.int (1 : Int32)), .unset, .unset, .unset, .unset, .unset, .unset, .unset, .unset, .unset] [(.ref aS)] := by
      by_cases hc135 : ((p1 >>> ((3 : Int32) &&& 31)) &&& (1 : Int32)) = (0 : Int32)
      · skip
        replace k := k.ifYes (pc' := 34) at_25 (teq hc135).1 (by decide) (by decide)
        replace k := k.getS at_34 (host := "") (Or.inl (hw _ (List.mem_of_getElem? (i := 0) rfl))) Via.refl S_QUEUE_FULL
        exact ⟨_, E_QUEUE_FULL, k⟩
      · skip
        replace k := k.ifNo at_25 (feq hc135).1
        replace k := k.getS at_28 (host := "") (Or.inl (hw _ (List.mem_of_getElem? (i := 58) rfl))) Via.refl S_DONE
        replace k := k.goto (pc' := 37) at_31 (by decide) (by decide)
        exact ⟨_, E_DONE, k⟩
    replace k := k.astore #[.val (.int p1), .val (.int p2), .val (.int p3), .val (.int p4), .val (.int (p1 &&& (3 : Int32))), .val (.int (1 : Int32)), .val (.ref aS), .unset, .unset, .unset, .unset, .unset, .unset, .unset, .unset] at_37 rfl rfl
    replace k := k.iloadN at_39 rfl
    replace k := k.i2b at_40
    replace k := k.istore #[.val (.int p1), .val (.int p2), .val (.int p3), .val (.int p4), .val (.int (p1 &&& (3 : Int32))), .val (.int (1 : Int32)), .val (.ref aS), .val (.int (p2.toInt8.toInt32)), .unset, .unset, .unset, .unset, .unset, .unset, .unset] at_41 rfl
    replace k := k.iloadN at_43 rfl
    replace k := k.i2b at_44
    replace k := k.istore #[.val (.int p1), .val (.int p2), .val (.int p3), .val (.int p4), .val (.int (p1 &&& (3 : Int32))), .val (.int (1 : Int32)), .val (.ref aS), .val (.int (p2.toInt8.toInt32)), .val (.int (p3.toInt8.toInt32)), .unset, .unset, .unset, .unset, .unset, .unset] at_45 rfl
    replace k := k.iloadN at_47 rfl
    replace k := k.i2b at_48
    replace k := k.istore #[.val (.int p1), .val (.int p2), .val (.int p3), .val (.int p4), .val (.int (p1 &&& (3 : Int32))), .val (.int (1 : Int32)), .val (.ref aS), .val (.int (p2.toInt8.toInt32)), .val (.int (p3.toInt8.toInt32)), .val (.int (p4.toInt8.toInt32)), .unset, .unset, .unset, .unset, .unset] at_49 rfl
    replace k := k.iload at_51 rfl
    replace k := k.ifNo at_53 (by decide)
    obtain ⟨h136, b136, g136, E136, A136, D136, k⟩ := k.newO at_56 (hw _ (List.mem_of_getElem? (i := 8) rfl)) (hw _ (List.mem_of_getElem? (i := 9) rfl)) (hw _ (List.mem_of_getElem? (i := 10) rfl)) (by decide) (by decide)
    have ge_b136 : n0 ≤ b136 := Nat.le_trans Z0 (Nat.le_of_eq g136.symm)
    have F_status_b136 : Fld Z h136 b136 "com/example/mipart/mipart/model/Result" "status" "Lcom/example/mipart/mipart/model/Result$Status;" .null := D136 (Or.inr (hw _ (List.mem_of_getElem? (i := 43) rfl))) (ty := (.object "com/example/mipart/mipart/model/Result$Status")) (by decide)
    have F_value_b136 : Fld Z h136 b136 "com/example/mipart/mipart/model/Result" "value" "[B" .null := D136 (Or.inr (hw _ (List.mem_of_getElem? (i := 45) rfl))) (ty := (.array .byte)) (by decide)
    have F_lease_b136 : Fld Z h136 b136 "com/example/mipart/mipart/model/Result" "lease" "Lcom/example/mipart/mipart/model/Lease;" .null := D136 (Or.inr (hw _ (List.mem_of_getElem? (i := 47) rfl))) (ty := (.object "com/example/mipart/mipart/model/Lease")) (by decide)
    have F_queueLength_b136 : Fld Z h136 b136 "com/example/mipart/mipart/model/Result" "queueLength" "I" (.int (0 : Int32)) := D136 (Or.inr (hw _ (List.mem_of_getElem? (i := 49) rfl))) (ty := .int) (by decide)
    replace k := k.dup at_59 rfl
    replace k := k.aload at_60 rfl rfl
    replace k := k.aconstNull at_62
    obtain ⟨_, hj137, ⟨rfl, Kj137, Fvj137⟩, k⟩ := k.callI (y := (⟨"com/example/mipart/mipart/model/Result", "<init>", "(Lcom/example/mipart/mipart/model/Result$Status;[B)V"⟩ : MethodName)) (a := b136) at_63 rfl (hw _ (List.mem_of_getElem? (i := 11) rfl)) (hw _ (List.mem_of_getElem? (i := 12) rfl)) (hw _ (List.mem_of_getElem? (i := 10) rfl)) (hw _ (List.mem_of_getElem? (i := 13) rfl)) (W := 1) (argsL := [(.ref aS), .null]) (rest := [(.ref b136)]) (rm2_null Z a0 hw b136 aS h136 n0 ge_b136 A136 (Exa.ext E136 Es) F_status_b136 F_value_b136 F_lease_b136 F_queueLength_b136) rfl (pd_3) rfl rfl rfl (by decide) (by decide) (by decide) (by decide) (by decide)
    replace k := k.stk [(.ref b136)] rfl
    replace k := k.astore #[.val (.int p1), .val (.int p2), .val (.int p3), .val (.int p4), .val (.int (p1 &&& (3 : Int32))), .val (.int (1 : Int32)), .val (.ref aS), .val (.int (p2.toInt8.toInt32)), .val (.int (p3.toInt8.toInt32)), .val (.int (p4.toInt8.toInt32)), .val (.ref b136), .unset, .unset, .unset, .unset] at_66 rfl rfl
    replace k := k.aload at_68 rfl rfl
    obtain ⟨_, _, ⟨rfl, rfl⟩, k⟩ := k.callV (y := (⟨"com/example/mipart/mipart/model/Result", "value", "()[B"⟩ : MethodName)) (z := (⟨"com/example/mipart/mipart/model/Result", "value", "()[B"⟩ : MethodName)) (a := b136) at_70 (hw _ (List.mem_of_getElem? (i := 50) rfl)) (hw _ (List.mem_of_getElem? (i := 51) rfl)) (fun s hs => notFace_of_selects (args := #[]) (mvT hs (hw _ (List.mem_of_getElem? (i := 53) rfl)))) (hw _ (List.mem_of_getElem? (i := 53) rfl)) (hw _ (List.mem_of_getElem? (i := 52) rfl)) (hw _ (List.mem_of_getElem? (i := 10) rfl)) (hw _ (List.mem_of_getElem? (i := 54) rfl)) (A136.keep Kj137) (W := 0) (argsL := []) (rest := []) (rm6_null Z a0 hw b136 hj137 n0 Fvj137) rfl (pd_4) rfl rfl rfl (by decide) (by decide) (by decide) (by decide) (by decide)
    replace k := k.stk [.null] rfl
    replace k := k.ifnonnullNo at_73
    replace k := k.iconst (1 : Int32) at_76 rfl
    replace k := k.goto (pc' := 81) at_77 (by decide) (by decide)
    exact k.iret at_81 rfl (by simp) rfl rfl (by decide) (by decide)
set_option maxRecDepth 65536 in
set_option maxHeartbeats 40000000 in
theorem comes_1 {Post : Tables → Env → Array Value → State → Outcome → State → Prop} (hpost : ∀ tb e args s v u, (limb_1_1.after args s (.returned v) u = true ∧ limb_1_2.after args s (.returned v) u = true ∧ True) → ReturnedEndW s (.returned v) u (Jvm.fieldLocs frame_1_writes args s ++ Jvm.arrayLocs frame_1_arrays args s ++ Jvm.staticLocs frame_1_statics s) 24 1152 → Post tb e args s (.returned v) u) :
    ArmFor flags0 classFile x code maxLocals ret World_1 tables_1 room_1 Calls_1 rest_1 Pre_1 Post := by
  intro l hfl _ _ p e ha hc hk s m args below hf hA hF happ hP
  obtain ⟨hcalls, hrest, hpre⟩ := hP
  obtain ⟨-, -, -, hnamed, -, -, -, hat⟩ := (Spec.applies_iff hf).mp happ
  obtain ⟨hg, hn⟩ := and_e (Cond.before_iff.mp (show (Jvm.Cond.and given_1 narrow_1).before args s = true from hpre))
  obtain ⟨gg0, gr0⟩ := and_e hg
  obtain ⟨gg1, gr1⟩ := and_e gr0
  obtain ⟨gg2, gr2⟩ := and_e gr1
  obtain ⟨gg3, gr3⟩ := and_e gr2
  obtain ⟨w0, w1, w2, w3, rfl⟩ : ∃ w0 w1 w2 w3 : Value, args = #[w0, w1, w2, w3] := by
    have hs : args.size = 4 := by simpa [Cond.value, given_1] using gg0
    obtain ⟨L⟩ := args
    match L, hs with
    | [w0, w1, w2, w3], _ => exact ⟨w0, w1, w2, w3, rfl⟩
  have hw := fun d (hd : d ∈ tables_1) => atoms_spec (ws := Jvm.Cond.code x code maxLocals ret :: tables_1) hat d (List.mem_cons_of_mem _ hd)
  have hfit : Fit s := fun {y c} hc i hi => by
    obtain ⟨ha, rfl⟩ := Array.getElem?_eq_some_iff.mp hc
    have q := List.all_eq_true.mp ((Array.all_eq_true_iff_forall_mem.mp hF) _ (Array.getElem_mem ha)) i (List.mem_range.mpr hi)
    simpa [Array.getElem?_eq_getElem hi] using q
  obtain ⟨i0, ei0⟩ := is_v gg1
  obtain rfl : w0 = (.int i0) := Option.some.inj ei0
  obtain ⟨i1, ei1⟩ := is_v gg2
  obtain rfl : w1 = (.int i1) := Option.some.inj ei1
  obtain ⟨i2, ei2⟩ := is_v gg3
  obtain rfl : w2 = (.int i2) := Option.some.inj ei2
  obtain ⟨i3, ei3⟩ := is_v gr3
  obtain rfl : w3 = (.int i3) := Option.some.inj ei3
  obtain ⟨nc0, nr0⟩ := and_e hn
  obtain ⟨a_QUEUE_FULL, ev_QUEUE_FULL⟩ := exa_v nc0
  have S_QUEUE_FULL : Sta s s.heap "com/example/mipart/mipart/model/Result$Status" "QUEUE_FULL" "Lcom/example/mipart/mipart/model/Result$Status;" (.ref a_QUEUE_FULL) := Sta.start ev_QUEUE_FULL (Or.inr ⟨(hw _ (List.mem_of_getElem? (i := 1) rfl)), (hw _ (List.mem_of_getElem? (i := 2) rfl))⟩)
  have E_QUEUE_FULL : Exa s s.heap a_QUEUE_FULL "com/example/mipart/mipart/model/Result$Status" := Exa.start ev_QUEUE_FULL nc0
  obtain ⟨a_DONE, ev_DONE⟩ := exa_v nr0
  have S_DONE : Sta s s.heap "com/example/mipart/mipart/model/Result$Status" "DONE" "Lcom/example/mipart/mipart/model/Result$Status;" (.ref a_DONE) := Sta.start ev_DONE (Or.inr ⟨(hw _ (List.mem_of_getElem? (i := 1) rfl)), (hw _ (List.mem_of_getElem? (i := 59) rfl))⟩)
  have E_DONE : Exa s s.heap a_DONE "com/example/mipart/mipart/model/Result$Status" := Exa.start ev_DONE nr0
  obtain ⟨n, o, h1, h2, h3, _, L, rfl, ⟨rfl, N⟩, hq⟩ := rm0 s _ hw i0 i1 i2 i3 a_QUEUE_FULL a_DONE s.heap s.heap.size (Nat.le_refl _) S_QUEUE_FULL E_QUEUE_FULL S_DONE E_DONE l p e ha hc hk s m _ below hf ((Spec.applies_iff_loose hf).mp happ).1 ⟨rfl, State.Warmed39.refl s, rfl⟩ trivial
  refine ⟨n, _, h1, h2, h3, hpost _ _ _ _ _ _ ⟨Cond.after_iff.mpr rfl, Cond.after_iff.mpr (eq_i res_at (Term.int_eval (1)) rfl), trivial⟩ ⟨hq.1, hq.2.1, hq.2.2.1, (hq.2.2.2.sift fun y hy => Or.inr (N y hy)).mono (by decide) (by decide)⟩⟩
theorem main_1_1 : Claimed_1_1 := comes_1 fun _ _ _ _ _ _ h hF => ⟨h.1, hF⟩
theorem main_1_2 : Claimed_1_2 := comes_1 fun _ _ _ _ _ _ h hF => ⟨h.2.1, hF⟩
end Jvm.Pilot.@@N@@
namespace Jvm.Pilot.@@N@@
open Jvm Jvm.ClassFile Sem Op Lib Jvm.Free Jvm.Stand Jvm.Pilot.@@N@@.Jvm.D
/-! MADE BY PROGRAM (witnessworld.py) out of the Statement's table words and the real class files: 17 classes; the members and pool entries that the words name. The judged class is class 1, her method 1. -/
namespace start1
open Jvm.ClassFile
def u (s : String) : CpInfo := .utf8 (stringToUtf16 s)
/-- a pool by its gaps: so many unusable entries, then the entry; so many at the end -/
def gap : Nat → List CpInfo → List CpInfo
  | 0, r => r
  | n + 1, r => .unusable :: gap n r
def poolList (es : List (Nat × CpInfo)) (last : Nat) : List CpInfo := es.foldr (fun e r => gap e.1 (e.2 :: r)) (gap last [])
def pool (es : List (Nat × CpInfo)) (last : Nat) : Array CpInfo := ⟨poolList es last⟩
def fileOf (pool : Array CpInfo) (this : Nat) (attrs : Array Attribute := #[]) (ms : Array MethodInfo := #[]) (fl : Nat := 33) (sup : Nat := 0) (ifs : Array Nat := #[]) (fds : Array FieldInfo := #[]) : ClassFile where
  minorVersion := 0
  majorVersion := 65
  constantPool := pool
  accessFlags := fl
  thisClass := this
  superClass := sup
  interfaces := ifs
  fields := fds
  methods := ms
  attributes := attrs
def plain (name : String) (sup : Option ClassId) : Class where
  name := name
  kind := .ordinary
  loader := none
  accessFlags := 33
  super := sup
  interfaces := #[]
  cf := none
  fields := #[]
  methods := #[]
  instanceTypes := #[]
  staticTypes := #[]
  resolved := #[]
  callSites := []
  init := .initialized
  statics := none
  mirror := none

def pool0 : Array CpInfo := pool [(5, u "<init>"), (0, u "()V"), (1, .class_ 10), (1, u "java/lang/Object"), (85, u "clone"), (0, u "()Ljava/lang/Object;")] 26

def k0c0 : Code := { maxStack := 0, maxLocals := 1, code := object_method_1_code, exceptionTable := #[], attributes := #[] }
def k0m0 : Method := { name := "<init>", desc := "()V", sig := { parameters := [], returnType := none }, accessFlags := 1, code := some k0c0 }
def k0m1 : Method := { name := "clone", desc := "()Ljava/lang/Object;", sig := { parameters := [], returnType := some (.object "java/lang/Object") }, accessFlags := 260, code := none }
/-- java/lang/Object -/
def k0 : Class := { plain "java/lang/Object" none with
  accessFlags := 33
  interfaces := #[]
  cf := some (fileOf pool0 8 #[] #[{ accessFlags := 1, nameIndex := 5, descriptorIndex := 6, attributes := #[] }, { accessFlags := 260, nameIndex := 96, descriptorIndex := 97, attributes := #[] }] 33 0 #[] #[])
  fields := #[]
  methods := #[k0m0, k0m1]
  instanceTypes := #[]
  staticTypes := #[]
  resolved := Array.replicate 124 none
  statics := none }

def pool1 : Array CpInfo := pool [(2, .class_ 4), (1, u "java/lang/Object"), (0, u "<init>"), (0, u "()V"), (0, .fieldref 8 9), (0, .class_ 10), (0, .nameAndType 11 12), (0, u "com/example/mipart/mipart/model/Result$Status"), (0, u "DONE"), (0, u "Lcom/example/mipart/mipart/model/Result$Status;"), (0, .fieldref 8 14), (0, .nameAndType 15 12), (0, u "QUEUE_FULL"), (0, .class_ 17), (0, u "com/example/mipart/mipart/model/Result"), (0, .methodref 16 19), (0, .nameAndType 5 20), (0, u "(Lcom/example/mipart/mipart/model/Result$Status;[B)V"), (0, .methodref 16 22), (0, .nameAndType 23 24), (0, u "value"), (0, u "()[B"), (0, .methodref 26 27), (0, .class_ 28), (0, .nameAndType 29 30), (0, u "com/example/mipart/mipart/model/ResultValuePinLaw"), (0, u "make"), (0, u "(IBBB)[B"), (0, .methodref 26 32), (0, .nameAndType 33 34), (0, u "same"), (0, u "([BIBBB)Z"), (2, u "law"), (0, u "(IIII)Z")] 7

def k1m0 : Method := { name := "<init>", desc := "()V", sig := { parameters := [], returnType := none }, accessFlags := 1, code := none }
def k1c1 : Code := { maxStack := 5, maxLocals := 15, code := code, exceptionTable := #[], attributes := #[] }
def k1m1 : Method := { name := "law", desc := "(IIII)Z", sig := { parameters := [.int, .int, .int, .int], returnType := some .boolean }, accessFlags := 9, code := some k1c1 }
def k1c2 : Code := { maxStack := 4, maxLocals := 4, code := method_3_code, exceptionTable := #[], attributes := #[] }
def k1m2 : Method := { name := "make", desc := "(IBBB)[B", sig := { parameters := [.int, .byte, .byte, .byte], returnType := some (.array .byte) }, accessFlags := 10, code := some k1c2 }
def k1c3 : Code := { maxStack := 2, maxLocals := 5, code := method_4_code, exceptionTable := #[], attributes := #[] }
def k1m3 : Method := { name := "same", desc := "([BIBBB)Z", sig := { parameters := [(.array .byte), .int, .byte, .byte, .byte], returnType := some .boolean }, accessFlags := 10, code := some k1c3 }
/-- com/example/mipart/mipart/model/ResultValuePinLaw -/
def k1 : Class := { plain "com/example/mipart/mipart/model/ResultValuePinLaw" (some 0) with
  accessFlags := 49
  interfaces := #[]
  cf := some (fileOf pool1 26 #[] #[{ accessFlags := 1, nameIndex := 5, descriptorIndex := 6, attributes := #[] }, { accessFlags := 9, nameIndex := 37, descriptorIndex := 38, attributes := #[] }, { accessFlags := 10, nameIndex := 29, descriptorIndex := 30, attributes := #[] }, { accessFlags := 10, nameIndex := 33, descriptorIndex := 34, attributes := #[] }] 49 2 #[] #[])
  fields := #[]
  methods := #[k1m0, k1m1, k1m2, k1m3]
  instanceTypes := #[]
  staticTypes := #[]
  resolved := Array.replicate 46 none
  statics := none }

def pool2 : Array CpInfo := pool [(1, .class_ 2), (0, u "java/lang/constant/Constable"), (0, .class_ 4), (0, u "java/lang/Object")] 6

/-- java/lang/constant/Constable -/
def k2 : Class := { plain "java/lang/constant/Constable" (some 0) with
  accessFlags := 1537
  interfaces := #[]
  cf := some (fileOf pool2 1 #[] #[] 1537 3 #[] #[])
  fields := #[]
  methods := #[]
  instanceTypes := #[]
  staticTypes := #[]
  resolved := Array.replicate 11 none
  statics := none }

def pool3 : Array CpInfo := pool [(1, .class_ 2), (0, u "java/lang/Comparable"), (0, .class_ 4), (0, u "java/lang/Object")] 7

/-- java/lang/Comparable -/
def k3 : Class := { plain "java/lang/Comparable" (some 0) with
  accessFlags := 1537
  interfaces := #[]
  cf := some (fileOf pool3 1 #[] #[] 1537 3 #[] #[])
  fields := #[]
  methods := #[]
  instanceTypes := #[]
  staticTypes := #[]
  resolved := Array.replicate 12 none
  statics := none }

def pool4 : Array CpInfo := pool [(1, .class_ 2), (0, u "java/io/Serializable"), (0, .class_ 4), (0, u "java/lang/Object")] 2

/-- java/io/Serializable -/
def k4 : Class := { plain "java/io/Serializable" (some 0) with
  accessFlags := 1537
  interfaces := #[]
  cf := some (fileOf pool4 1 #[] #[] 1537 3 #[] #[])
  fields := #[]
  methods := #[]
  instanceTypes := #[]
  staticTypes := #[]
  resolved := Array.replicate 7 none
  statics := none }

def pool5 : Array CpInfo := pool [(2, .class_ 4), (1, u "java/lang/Enum"), (0, u "name"), (0, u "Ljava/lang/String;"), (2, u "ordinal"), (0, u "I"), (1, .class_ 14), (1, u "java/lang/Object"), (4, u "hash"), (86, .class_ 108), (1, u "java/lang/Enum$EnumDesc"), (2, .class_ 112), (0, u "java/lang/constant/Constable"), (0, .class_ 114), (0, u "java/lang/Comparable"), (0, .class_ 116), (0, u "java/io/Serializable")] 87

/-- java/lang/Enum -/
def k5 : Class := { plain "java/lang/Enum" (some 0) with
  accessFlags := 1057
  interfaces := #[2, 3, 4]
  cf := some (fileOf pool5 2 #[.nestMembers #[106]] #[] 1057 12 #[111, 113, 115] #[{ accessFlags := 18, nameIndex := 5, descriptorIndex := 6, attributes := #[] }, { accessFlags := 18, nameIndex := 9, descriptorIndex := 10, attributes := #[] }, { accessFlags := 2, nameIndex := 19, descriptorIndex := 10, attributes := #[] }])
  fields := #[{ name := "name", type := (.object "java/lang/String"), accessFlags := 18, slot := 0, constantValue := 0 }, { name := "ordinal", type := .int, accessFlags := 18, slot := 1, constantValue := 0 }, { name := "hash", type := .int, accessFlags := 2, slot := 2, constantValue := 0 }]
  methods := #[]
  instanceTypes := #[(.object "java/lang/String"), .int, .int]
  staticTypes := #[]
  resolved := Array.replicate 204 none
  statics := none }

def pool6 : Array CpInfo := pool [(1, .class_ 2), (0, u "com/example/mipart/mipart/model/Result$Status"), (2, u "DONE"), (0, u "Lcom/example/mipart/mipart/model/Result$Status;"), (2, u "NOT_AN_INTEGER"), (2, u "WOULD_OVERFLOW"), (2, u "OTHER_VALUE"), (2, u "LEASED"), (2, u "NOT_HOLDER"), (2, u "HOLDS_LEASE"), (2, u "HOLDS_VALUE"), (2, u "QUEUE_FULL"), (2, u "HOLDS_QUEUE"), (2, u "$VALUES"), (0, u "[Lcom/example/mipart/mipart/model/Result$Status;"), (6, .class_ 46), (1, u "java/lang/Enum"), (8, u "refusal"), (0, u "Ljava/lang/String;"), (81, .class_ 139), (0, u "com/example/mipart/mipart/model/Result")] 22

/-- com/example/mipart/mipart/model/Result$Status -/
def k6 : Class := { plain "com/example/mipart/mipart/model/Result$Status" (some 5) with
  accessFlags := 16433
  interfaces := #[]
  cf := some (fileOf pool6 1 #[.nestHost 138] #[] 16433 44 #[] #[{ accessFlags := 16409, nameIndex := 5, descriptorIndex := 6, attributes := #[] }, { accessFlags := 16409, nameIndex := 9, descriptorIndex := 6, attributes := #[] }, { accessFlags := 16409, nameIndex := 12, descriptorIndex := 6, attributes := #[] }, { accessFlags := 16409, nameIndex := 15, descriptorIndex := 6, attributes := #[] }, { accessFlags := 16409, nameIndex := 18, descriptorIndex := 6, attributes := #[] }, { accessFlags := 16409, nameIndex := 21, descriptorIndex := 6, attributes := #[] }, { accessFlags := 16409, nameIndex := 24, descriptorIndex := 6, attributes := #[] }, { accessFlags := 16409, nameIndex := 27, descriptorIndex := 6, attributes := #[] }, { accessFlags := 16409, nameIndex := 30, descriptorIndex := 6, attributes := #[] }, { accessFlags := 16409, nameIndex := 33, descriptorIndex := 6, attributes := #[] }, { accessFlags := 18, nameIndex := 55, descriptorIndex := 56, attributes := #[] }, { accessFlags := 4122, nameIndex := 36, descriptorIndex := 37, attributes := #[] }])
  fields := #[{ name := "DONE", type := (.object "com/example/mipart/mipart/model/Result$Status"), accessFlags := 16409, slot := 0, constantValue := 0 }, { name := "NOT_AN_INTEGER", type := (.object "com/example/mipart/mipart/model/Result$Status"), accessFlags := 16409, slot := 1, constantValue := 0 }, { name := "WOULD_OVERFLOW", type := (.object "com/example/mipart/mipart/model/Result$Status"), accessFlags := 16409, slot := 2, constantValue := 0 }, { name := "OTHER_VALUE", type := (.object "com/example/mipart/mipart/model/Result$Status"), accessFlags := 16409, slot := 3, constantValue := 0 }, { name := "LEASED", type := (.object "com/example/mipart/mipart/model/Result$Status"), accessFlags := 16409, slot := 4, constantValue := 0 }, { name := "NOT_HOLDER", type := (.object "com/example/mipart/mipart/model/Result$Status"), accessFlags := 16409, slot := 5, constantValue := 0 }, { name := "HOLDS_LEASE", type := (.object "com/example/mipart/mipart/model/Result$Status"), accessFlags := 16409, slot := 6, constantValue := 0 }, { name := "HOLDS_VALUE", type := (.object "com/example/mipart/mipart/model/Result$Status"), accessFlags := 16409, slot := 7, constantValue := 0 }, { name := "QUEUE_FULL", type := (.object "com/example/mipart/mipart/model/Result$Status"), accessFlags := 16409, slot := 8, constantValue := 0 }, { name := "HOLDS_QUEUE", type := (.object "com/example/mipart/mipart/model/Result$Status"), accessFlags := 16409, slot := 9, constantValue := 0 }, { name := "refusal", type := (.object "java/lang/String"), accessFlags := 18, slot := 3, constantValue := 0 }, { name := "$VALUES", type := (.array (.object "com/example/mipart/mipart/model/Result$Status")), accessFlags := 4122, slot := 10, constantValue := 0 }]
  methods := #[]
  instanceTypes := #[(.object "java/lang/String"), .int, .int, (.object "java/lang/String")]
  staticTypes := #[(.object "com/example/mipart/mipart/model/Result$Status"), (.object "com/example/mipart/mipart/model/Result$Status"), (.object "com/example/mipart/mipart/model/Result$Status"), (.object "com/example/mipart/mipart/model/Result$Status"), (.object "com/example/mipart/mipart/model/Result$Status"), (.object "com/example/mipart/mipart/model/Result$Status"), (.object "com/example/mipart/mipart/model/Result$Status"), (.object "com/example/mipart/mipart/model/Result$Status"), (.object "com/example/mipart/mipart/model/Result$Status"), (.object "com/example/mipart/mipart/model/Result$Status"), (.array (.object "com/example/mipart/mipart/model/Result$Status"))]
  resolved := Array.replicate 162 none
  statics := some 0 }

def pool7 : Array CpInfo := pool [(1, .methodref 2 3), (0, .class_ 4), (0, .nameAndType 5 6), (0, u "[B"), (0, u "clone"), (0, u "()Ljava/lang/Object;"), (0, .class_ 8), (0, u "com/example/mipart/mipart/model/Result"), (0, .methodref 7 10), (0, .nameAndType 11 12), (0, u "<init>"), (0, u "(Lcom/example/mipart/mipart/model/Result$Status;[BLcom/example/mipart/mipart/model/Lease;I)V"), (0, .methodref 14 15), (0, .class_ 16), (0, .nameAndType 11 17), (0, u "java/lang/Object"), (0, u "()V"), (0, .string 19), (0, u "status"), (0, .methodref 21 22), (0, .class_ 23), (0, .nameAndType 24 25), (0, u "java/util/Objects"), (0, u "requireNonNull"), (0, u "(Ljava/lang/Object;Ljava/lang/String;)Ljava/lang/Object;"), (0, .class_ 27), (0, u "com/example/mipart/mipart/model/Result$Status"), (0, .fieldref 7 29), (0, .nameAndType 19 30), (0, u "Lcom/example/mipart/mipart/model/Result$Status;"), (0, .fieldref 7 32), (0, .nameAndType 33 4), (0, u "value"), (0, .fieldref 7 35), (0, .nameAndType 36 37), (0, u "lease"), (0, u "Lcom/example/mipart/mipart/model/Lease;"), (0, .fieldref 7 39), (0, .nameAndType 40 41), (0, u "queueLength"), (0, u "I"), (48, u "NONE"), (0, u "Ljava/lang/String;"), (1, u "NO_LENGTH"), (1, u "(Lcom/example/mipart/mipart/model/Result$Status;[B)V"), (8, u "()[B")] 24

def k7c0 : Code := { maxStack := 5, maxLocals := 3, code := prog_49_method_1_code, exceptionTable := #[], attributes := #[] }
def k7m0 : Method := { name := "<init>", desc := "(Lcom/example/mipart/mipart/model/Result$Status;[B)V", sig := { parameters := [(.object "com/example/mipart/mipart/model/Result$Status"), (.array .byte)], returnType := none }, accessFlags := 1, code := some k7c0 }
def k7c1 : Code := { maxStack := 3, maxLocals := 5, code := prog_49_method_2_code, exceptionTable := #[], attributes := #[] }
def k7m1 : Method := { name := "<init>", desc := "(Lcom/example/mipart/mipart/model/Result$Status;[BLcom/example/mipart/mipart/model/Lease;I)V", sig := { parameters := [(.object "com/example/mipart/mipart/model/Result$Status"), (.array .byte), (.object "com/example/mipart/mipart/model/Lease"), .int], returnType := none }, accessFlags := 2, code := some k7c1 }
def k7c2 : Code := { maxStack := 1, maxLocals := 1, code := prog_49_method_6_code, exceptionTable := #[], attributes := #[] }
def k7m2 : Method := { name := "value", desc := "()[B", sig := { parameters := [], returnType := some (.array .byte) }, accessFlags := 1, code := some k7c2 }
/-- com/example/mipart/mipart/model/Result -/
def k7 : Class := { plain "com/example/mipart/mipart/model/Result" (some 0) with
  accessFlags := 49
  interfaces := #[]
  cf := some (fileOf pool7 7 #[.nestMembers #[26]] #[{ accessFlags := 1, nameIndex := 11, descriptorIndex := 95, attributes := #[] }, { accessFlags := 2, nameIndex := 11, descriptorIndex := 12, attributes := #[] }, { accessFlags := 1, nameIndex := 33, descriptorIndex := 104, attributes := #[] }] 49 14 #[] #[{ accessFlags := 26, nameIndex := 90, descriptorIndex := 91, attributes := #[] }, { accessFlags := 26, nameIndex := 93, descriptorIndex := 41, attributes := #[] }, { accessFlags := 18, nameIndex := 19, descriptorIndex := 30, attributes := #[] }, { accessFlags := 18, nameIndex := 33, descriptorIndex := 4, attributes := #[] }, { accessFlags := 18, nameIndex := 36, descriptorIndex := 37, attributes := #[] }, { accessFlags := 18, nameIndex := 40, descriptorIndex := 41, attributes := #[] }])
  fields := #[{ name := "NONE", type := (.object "java/lang/String"), accessFlags := 26, slot := 0, constantValue := 0 }, { name := "NO_LENGTH", type := .int, accessFlags := 26, slot := 1, constantValue := 0 }, { name := "status", type := (.object "com/example/mipart/mipart/model/Result$Status"), accessFlags := 18, slot := 0, constantValue := 0 }, { name := "value", type := (.array .byte), accessFlags := 18, slot := 1, constantValue := 0 }, { name := "lease", type := (.object "com/example/mipart/mipart/model/Lease"), accessFlags := 18, slot := 2, constantValue := 0 }, { name := "queueLength", type := .int, accessFlags := 18, slot := 3, constantValue := 0 }]
  methods := #[k7m0, k7m1, k7m2]
  instanceTypes := #[(.object "com/example/mipart/mipart/model/Result$Status"), (.array .byte), (.object "com/example/mipart/mipart/model/Lease"), .int]
  staticTypes := #[(.object "java/lang/String"), .int]
  resolved := Array.replicate 129 none
  statics := none }

def pool8 : Array CpInfo := pool [(1, .class_ 2), (0, u "java/lang/Cloneable"), (0, .class_ 4), (0, u "java/lang/Object")] 2

/-- java/lang/Cloneable -/
def k8 : Class := { plain "java/lang/Cloneable" (some 0) with
  accessFlags := 1537
  interfaces := #[]
  cf := some (fileOf pool8 1 #[] #[] 1537 3 #[] #[])
  fields := #[]
  methods := #[]
  instanceTypes := #[]
  staticTypes := #[]
  resolved := Array.replicate 7 none
  statics := none }

def pool9 : Array CpInfo := pool [(2, .class_ 4), (1, u "java/lang/CharSequence"), (42, .class_ 48), (0, u "java/lang/CharSequence$1CodePointIterator"), (10, .class_ 60), (0, u "java/lang/CharSequence$1CharIterator"), (5, .class_ 67), (0, u "java/lang/Object")] 63

/-- java/lang/CharSequence -/
def k9 : Class := { plain "java/lang/CharSequence" (some 0) with
  accessFlags := 1537
  interfaces := #[]
  cf := some (fileOf pool9 2 #[.nestMembers #[47, 59]] #[] 1537 66 #[] #[])
  fields := #[]
  methods := #[]
  instanceTypes := #[]
  staticTypes := #[]
  resolved := Array.replicate 131 none
  statics := none }

def pool10 : Array CpInfo := pool [(1, .class_ 2), (0, u "java/lang/constant/ConstantDesc"), (0, .class_ 4), (0, u "java/lang/Object")] 32

/-- java/lang/constant/ConstantDesc -/
def k10 : Class := { plain "java/lang/constant/ConstantDesc" (some 0) with
  accessFlags := 1537
  interfaces := #[]
  cf := some (fileOf pool10 1 #[] #[] 1537 3 #[] #[])
  fields := #[]
  methods := #[]
  instanceTypes := #[]
  staticTypes := #[]
  resolved := Array.replicate 37 none
  statics := none }

def pool11 : Array CpInfo := pool [(2, .class_ 4), (1, u "java/lang/Object"), (0, u "<init>"), (0, u "()V"), (3, .class_ 12), (1, u "java/lang/String"), (0, u "value"), (0, u "[B"), (2, u "coder"), (0, u "B"), (2, u "hash"), (0, u "I"), (2, u "hashIsZero"), (0, u "Z"), (13, u "COMPACT_STRINGS"), (534, .class_ 576), (0, u "java/lang/CharSequence"), (22, u "CASE_INSENSITIVE_ORDER"), (0, u "Ljava/util/Comparator;"), (500, u "serialPersistentFields"), (0, u "[Ljava/io/ObjectStreamField;"), (0, .class_ 1104), (0, u "java/lang/String$CaseInsensitiveComparator"), (1, .class_ 1107), (0, u "java/io/Serializable"), (0, .class_ 1109), (0, u "java/lang/Comparable"), (0, .class_ 1111), (0, u "java/lang/constant/Constable"), (0, .class_ 1113), (0, u "java/lang/constant/ConstantDesc"), (2, u "serialVersionUID"), (0, u "J"), (3, u "REPL"), (0, u "C"), (2, u "LATIN1"), (1, u "UTF16")] 323

def k11m0 : Method := { name := "<init>", desc := "()V", sig := { parameters := [], returnType := none }, accessFlags := 1, code := none }
/-- java/lang/String -/
def k11 : Class := { plain "java/lang/String" (some 0) with
  accessFlags := 49
  interfaces := #[4, 3, 9, 2, 10]
  cf := some (fileOf pool11 10 #[.nestMembers #[1103]] #[{ accessFlags := 1, nameIndex := 5, descriptorIndex := 6, attributes := #[] }] 49 2 #[1106, 1108, 575, 1110, 1112] #[{ accessFlags := 18, nameIndex := 13, descriptorIndex := 14, attributes := #[] }, { accessFlags := 18, nameIndex := 17, descriptorIndex := 18, attributes := #[] }, { accessFlags := 2, nameIndex := 21, descriptorIndex := 22, attributes := #[] }, { accessFlags := 2, nameIndex := 25, descriptorIndex := 26, attributes := #[] }, { accessFlags := 26, nameIndex := 1116, descriptorIndex := 1117, attributes := #[] }, { accessFlags := 24, nameIndex := 40, descriptorIndex := 26, attributes := #[] }, { accessFlags := 26, nameIndex := 1101, descriptorIndex := 1102, attributes := #[] }, { accessFlags := 26, nameIndex := 1121, descriptorIndex := 1122, attributes := #[] }, { accessFlags := 25, nameIndex := 599, descriptorIndex := 600, attributes := #[] }, { accessFlags := 24, nameIndex := 1125, descriptorIndex := 18, attributes := #[] }, { accessFlags := 24, nameIndex := 1127, descriptorIndex := 18, attributes := #[] }])
  fields := #[{ name := "value", type := (.array .byte), accessFlags := 18, slot := 0, constantValue := 0 }, { name := "coder", type := .byte, accessFlags := 18, slot := 1, constantValue := 0 }, { name := "hash", type := .int, accessFlags := 2, slot := 2, constantValue := 0 }, { name := "hashIsZero", type := .boolean, accessFlags := 2, slot := 3, constantValue := 0 }, { name := "serialVersionUID", type := .long, accessFlags := 26, slot := 0, constantValue := 0 }, { name := "COMPACT_STRINGS", type := .boolean, accessFlags := 24, slot := 1, constantValue := 0 }, { name := "serialPersistentFields", type := (.array (.object "java/io/ObjectStreamField")), accessFlags := 26, slot := 2, constantValue := 0 }, { name := "REPL", type := .char, accessFlags := 26, slot := 3, constantValue := 0 }, { name := "CASE_INSENSITIVE_ORDER", type := (.object "java/util/Comparator"), accessFlags := 25, slot := 4, constantValue := 0 }, { name := "LATIN1", type := .byte, accessFlags := 24, slot := 5, constantValue := 0 }, { name := "UTF16", type := .byte, accessFlags := 24, slot := 6, constantValue := 0 }]
  methods := #[k11m0]
  instanceTypes := #[(.array .byte), .byte, .int, .boolean]
  staticTypes := #[.long, .boolean, (.array (.object "java/io/ObjectStreamField")), .char, (.object "java/util/Comparator"), .byte, .byte]
  resolved := Array.replicate 1451 none
  statics := none }

def pool12 : Array CpInfo := pool [(2, .class_ 4), (1, u "java/lang/Object"), (0, u "<init>"), (0, u "()V"), (35, .class_ 44), (1, u "java/util/Objects"), (0, u "requireNonNull"), (48, u "(Ljava/lang/Object;Ljava/lang/String;)Ljava/lang/Object;")] 89

def k12m0 : Method := { name := "<init>", desc := "()V", sig := { parameters := [], returnType := none }, accessFlags := 2, code := none }
def k12c1 : Code := { maxStack := 3, maxLocals := 2, code := jdk_31_method_11_code, exceptionTable := #[], attributes := #[] }
def k12m1 : Method := { name := "requireNonNull", desc := "(Ljava/lang/Object;Ljava/lang/String;)Ljava/lang/Object;", sig := { parameters := [(.object "java/lang/Object"), (.object "java/lang/String")], returnType := some (.object "java/lang/Object") }, accessFlags := 9, code := some k12c1 }
/-- java/util/Objects -/
def k12 : Class := { plain "java/util/Objects" (some 0) with
  accessFlags := 49
  interfaces := #[]
  cf := some (fileOf pool12 42 #[] #[{ accessFlags := 2, nameIndex := 5, descriptorIndex := 6, attributes := #[] }, { accessFlags := 9, nameIndex := 45, descriptorIndex := 94, attributes := #[] }] 49 2 #[] #[])
  fields := #[]
  methods := #[k12m0, k12m1]
  instanceTypes := #[]
  staticTypes := #[]
  resolved := Array.replicate 184 none
  statics := none }

/-- the primitive byte -/
def k13 : Class := { plain "byte" none with kind := .primitive 'B', accessFlags := 0x411 }
/-- [B -/
def k14 : Class := { plain "[B" (some 0) with kind := .array 13 .byte, interfaces := #[8, 4], accessFlags := 1041 }

/-- the primitive int -/
def k15 : Class := { plain "int" none with kind := .primitive 'I', accessFlags := 0x411 }
/-- [I -/
def k16 : Class := { plain "[I" (some 0) with kind := .array 15 .int, interfaces := #[8, 4], accessFlags := 1041 }

def heap : Heap := #[{ cls := 6, slots := #[.ref 2, .null, .null, .null, .null, .null, .null, .null, .ref 1, .null, .null], vm := .statics 6 },
  { cls := 6, slots := #[.null, .int 0, .int 0, .null], vm := .none },
  { cls := 6, slots := #[.null, .int 1, .int 0, .null], vm := .none }]
def classes : Array Class := #[k0, k1, k2, k3, k4, k5, k6, k7, k8, k9, k10, k11, k12, k13, k14, k15, k16]
def interned : List (Array UInt16 × Addr) := []
def slotsUsed : Nat := 19
def theMethod : MethodId := ⟨1, 1⟩
def args0 : Array Value := #[.int 5, .int 7, .int 8, .int 9]
def aboutOver (below : List Frame) : State where
  vm := { classes := classes, interned := interned.toArray }
  heap := heap
  slotsUsed := slotsUsed
  threads := #[{ frames := .invoking theMethod args0 :: below }]
def below0 : List Frame := [.native { method := ⟨0, 0⟩, args := #[] }]
def about1 : State := aboutOver below0
def p0 : Program := .bare "" "" ""
def e0 : Env := launch0.env 0 0 0
theorem w_frames : about1.frames = Frame.invoking theMethod args0 :: below0 := rfl
set_option maxRecDepth 65536 in
theorem w_args : argsFit about1.vm theMethod args0 = true := by decide +kernel
set_option maxRecDepth 65536 in
theorem w_heap : heapFits about1 = true := by decide +kernel
set_option maxRecDepth 65536 in
theorem w_runnable : about1.curStatus? = some .runnable := by decide +kernel
set_option maxRecDepth 65536 in
theorem w_alone : about1.alone = true := by decide +kernel
set_option maxRecDepth 65536 in
theorem w_named : about1.methodNamed? x = some theMethod := by decide +kernel
set_option maxRecDepth 65536 in
theorem w_hears : about1.hears theMethod below0 = true := by decide +kernel
set_option maxRecDepth 65536 in
theorem w_ripe : about1.ripe theMethod args0 below0 = true := by decide +kernel
theorem w_running : about1.status = .running := rfl
set_option maxRecDepth 65536 in
theorem w_room : about1.hasRoom e0.platform room_1 = true :=
  launch0.hasRoom_least _ room_1 (by decide +kernel) (by decide +kernel) (by decide +kernel) (by decide +kernel) (by decide +kernel) (by decide +kernel)
theorem allAtoms_all (ts : List Jvm.Cond) (a : Array Jvm.Value) (st : Jvm.State) : (allAtoms ts).before a st = ts.all (fun c => c.before a st) := by
  induction ts with
  | nil => rfl
  | cons c t ih =>
    show (Jvm.Cond.and c (allAtoms t)).before a st = _
    rw [Jvm.Cond.before_and, ih, List.all_cons]
def words1 : List Jvm.Cond := Jvm.Cond.code x code maxLocals ret :: tables_1
/-- a 'code' word, met by the world's own term for the bytes: nothing is compared byte by byte -/
theorem code_word {y : MethodName} {bytes : ByteArray} {mx : Nat} {rt : Option FieldType} {a : Array Value} {s : State} {m : MethodId} {meth : Method} {c : Code} (h1 : s.methodNamed? y = some m) (h2 : s.vm.method? m = some meth) (h3 : meth.code = some c) (h4 : c.code = bytes)
    (h5 : (c.maxLocals == mx && c.exceptionTable.isEmpty && decide (c.maxStack ≤ mostOperands) && decide (meth.sig.returnType = rt) && !meth.locks && decide (parseMethodDescriptor y.desc = some meth.sig)) = true) : (Jvm.Cond.code y bytes mx rt).before a s = true := by
  simp only [Bool.and_eq_true, beq_iff_eq, Bool.not_eq_true', decide_eq_true_eq] at h5
  obtain ⟨⟨⟨⟨⟨g1, g2⟩, g3⟩, g4⟩, g5⟩, g6⟩ := h5
  simp [Cond.before, Cond.holds, Cond.value, h1, h2, h3, h4, g1, g2, g3, g4, g5, g6]
def isCode : Jvm.Cond → Bool
  | .code _ _ _ _ => true
  | _ => false
theorem all_split {L : List Jvm.Cond} {P : Jvm.Cond → Bool} (h1 : L.all (fun c => isCode c || P c) = true) (h2 : ∀ c ∈ L.filter isCode, P c = true) : L.all P = true := by
  refine List.all_eq_true.mpr fun c hc => ?_
  have h := List.all_eq_true.mp h1 c hc
  rcases Bool.eq_false_or_eq_true (isCode c) with hi | hi
  · exact h2 c (List.mem_filter.mpr ⟨hc, hi⟩)
  · simpa [hi] using h
set_option maxRecDepth 65536 in
theorem w_c0 : (Jvm.Cond.code x code maxLocals ret).before args0 about1 = true := code_word (m := ⟨1, 1⟩) (meth := k1m1) (c := k1c1) (by decide +kernel) rfl rfl rfl (by decide +kernel)
set_option maxRecDepth 65536 in
theorem w_c1 : (Jvm.Cond.code ({ cls := "com/example/mipart/mipart/model/ResultValuePinLaw", name := "make", desc := "(IBBB)[B" } : Jvm.MethodName) method_3_code (4 : Nat) (Option.some (Jvm.ClassFile.FieldType.array Jvm.ClassFile.FieldType.byte))).before args0 about1 = true := code_word (m := ⟨1, 2⟩) (meth := k1m2) (c := k1c2) (by decide +kernel) rfl rfl rfl (by decide +kernel)
set_option maxRecDepth 65536 in
theorem w_c2 : (Jvm.Cond.code ({ cls := "com/example/mipart/mipart/model/Result", name := "<init>", desc := "(Lcom/example/mipart/mipart/model/Result$Status;[B)V" } : Jvm.MethodName) prog_49_method_1_code (3 : Nat) (Option.none : Option Jvm.ClassFile.FieldType)).before args0 about1 = true := code_word (m := ⟨7, 0⟩) (meth := k7m0) (c := k7c0) (by decide +kernel) rfl rfl rfl (by decide +kernel)
set_option maxRecDepth 65536 in
theorem w_c3 : (Jvm.Cond.code ({ cls := "com/example/mipart/mipart/model/Result", name := "<init>", desc := "(Lcom/example/mipart/mipart/model/Result$Status;[BLcom/example/mipart/mipart/model/Lease;I)V" } : Jvm.MethodName) prog_49_method_2_code (5 : Nat) (Option.none : Option Jvm.ClassFile.FieldType)).before args0 about1 = true := code_word (m := ⟨7, 1⟩) (meth := k7m1) (c := k7c1) (by decide +kernel) rfl rfl rfl (by decide +kernel)
set_option maxRecDepth 65536 in
theorem w_c4 : (Jvm.Cond.code ({ cls := "java/lang/Object", name := "<init>", desc := "()V" } : Jvm.MethodName) object_method_1_code (1 : Nat) (Option.none : Option Jvm.ClassFile.FieldType)).before args0 about1 = true := code_word (m := ⟨0, 0⟩) (meth := k0m0) (c := k0c0) (by decide +kernel) rfl rfl rfl (by decide +kernel)
set_option maxRecDepth 65536 in
theorem w_c5 : (Jvm.Cond.code ({ cls := "java/util/Objects", name := "requireNonNull", desc := "(Ljava/lang/Object;Ljava/lang/String;)Ljava/lang/Object;" } : Jvm.MethodName) jdk_31_method_11_code (2 : Nat) (Option.some (Jvm.ClassFile.FieldType.object "java/lang/Object"))).before args0 about1 = true := code_word (m := ⟨12, 1⟩) (meth := k12m1) (c := k12c1) (by decide +kernel) rfl rfl rfl (by decide +kernel)
set_option maxRecDepth 65536 in
theorem w_c6 : (Jvm.Cond.code ({ cls := "com/example/mipart/mipart/model/Result", name := "value", desc := "()[B" } : Jvm.MethodName) prog_49_method_6_code (1 : Nat) (Option.some (Jvm.ClassFile.FieldType.array Jvm.ClassFile.FieldType.byte))).before args0 about1 = true := code_word (m := ⟨7, 2⟩) (meth := k7m2) (c := k7c2) (by decide +kernel) rfl rfl rfl (by decide +kernel)
set_option maxRecDepth 65536 in
theorem w_c7 : (Jvm.Cond.code ({ cls := "com/example/mipart/mipart/model/ResultValuePinLaw", name := "same", desc := "([BIBBB)Z" } : Jvm.MethodName) method_4_code (5 : Nat) (Option.some Jvm.ClassFile.FieldType.boolean)).before args0 about1 = true := code_word (m := ⟨1, 3⟩) (meth := k1m3) (c := k1c3) (by decide +kernel) rfl rfl rfl (by decide +kernel)
def codes1 : List Jvm.Cond := [Jvm.Cond.code x code maxLocals ret, Jvm.Cond.code ({ cls := "com/example/mipart/mipart/model/ResultValuePinLaw", name := "make", desc := "(IBBB)[B" } : Jvm.MethodName) method_3_code (4 : Nat) (Option.some (Jvm.ClassFile.FieldType.array Jvm.ClassFile.FieldType.byte)), Jvm.Cond.code ({ cls := "com/example/mipart/mipart/model/Result", name := "<init>", desc := "(Lcom/example/mipart/mipart/model/Result$Status;[B)V" } : Jvm.MethodName) prog_49_method_1_code (3 : Nat) (Option.none : Option Jvm.ClassFile.FieldType), Jvm.Cond.code ({ cls := "com/example/mipart/mipart/model/Result", name := "<init>", desc := "(Lcom/example/mipart/mipart/model/Result$Status;[BLcom/example/mipart/mipart/model/Lease;I)V" } : Jvm.MethodName) prog_49_method_2_code (5 : Nat) (Option.none : Option Jvm.ClassFile.FieldType), Jvm.Cond.code ({ cls := "java/lang/Object", name := "<init>", desc := "()V" } : Jvm.MethodName) object_method_1_code (1 : Nat) (Option.none : Option Jvm.ClassFile.FieldType), Jvm.Cond.code ({ cls := "java/util/Objects", name := "requireNonNull", desc := "(Ljava/lang/Object;Ljava/lang/String;)Ljava/lang/Object;" } : Jvm.MethodName) jdk_31_method_11_code (2 : Nat) (Option.some (Jvm.ClassFile.FieldType.object "java/lang/Object")), Jvm.Cond.code ({ cls := "com/example/mipart/mipart/model/Result", name := "value", desc := "()[B" } : Jvm.MethodName) prog_49_method_6_code (1 : Nat) (Option.some (Jvm.ClassFile.FieldType.array Jvm.ClassFile.FieldType.byte)), Jvm.Cond.code ({ cls := "com/example/mipart/mipart/model/ResultValuePinLaw", name := "same", desc := "([BIBBB)Z" } : Jvm.MethodName) method_4_code (5 : Nat) (Option.some Jvm.ClassFile.FieldType.boolean)]
set_option maxRecDepth 65536 in
theorem codes_eq : words1.filter isCode = codes1 := rfl
theorem w_codes : ∀ c ∈ words1.filter isCode, c.before args0 about1 = true := by
  rw [codes_eq]
  intro c hc
  simp only [codes1, List.mem_cons, List.not_mem_nil, or_false] at hc
  rcases hc with rfl | rfl | rfl | rfl | rfl | rfl | rfl | rfl
  · exact w_c0
  · exact w_c1
  · exact w_c2
  · exact w_c3
  · exact w_c4
  · exact w_c5
  · exact w_c6
  · exact w_c7
set_option maxRecDepth 65536 in
theorem w_t1 : (words1.take 24).all (fun c => isCode c || c.before args0 about1) = true := by decide +kernel
set_option maxRecDepth 65536 in
theorem w_t2 : ((words1.drop 24).take 24).all (fun c => isCode c || c.before args0 about1) = true := by decide +kernel
set_option maxRecDepth 65536 in
theorem w_t3 : ((words1.drop 24).drop 24).all (fun c => isCode c || c.before args0 about1) = true := by decide +kernel
theorem w_tables : (allAtoms (Jvm.Cond.code x code maxLocals ret :: tables_1)).before args0 about1 = true := by
  rw [allAtoms_all]
  show words1.all (fun c => c.before args0 about1) = true
  refine all_split ?_ w_codes
  rw [← List.take_append_drop 24 words1, List.all_append, w_t1, ← List.take_append_drop 24 (words1.drop 24), List.all_append, w_t2, w_t3]
  rfl
set_option maxRecDepth 65536 in
theorem w_case : (Jvm.Cond.and given_1 narrow_1).before args0 about1 = true := by decide +kernel
theorem w_applies : (headSpec (Jvm.Cond.code x code maxLocals ret :: tables_1) room_1).applies x e0.platform about1 = true :=
  (Spec.applies_iff w_frames).mpr ⟨w_running, w_runnable, w_alone, w_named, w_hears, w_ripe, w_room, w_tables⟩
theorem atStart : AtStart classFile x code maxLocals ret World_1 tables_1 room_1 Calls_1 rest_1 Pre_1 launch0 p0 e0 about1 theMethod args0 below0 :=
  ⟨lists_1, trivial, launch0.admits_env _ _ _, launch0.least_env, fairChoices_fair.cas, fairChoices_fair.clock, w_frames, w_args, w_heap, w_applies, trivial, trivial, w_case⟩
end start1
theorem witness_1 : WitnessClaimed_1 := ⟨start1.p0, start1.e0, start1.about1, start1.theMethod, start1.args0, start1.below0, start1.atStart⟩
end Jvm.Pilot.@@N@@
