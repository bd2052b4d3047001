import JvmDerived
import JvmDerived.Pilot.@@N@@Statement
import JvmDerived.Pilot.@@N@@Code
set_option linter.unusedVariables false
set_option linter.unusedSimpArgs false
namespace Jvm.Own
open Sem ClassFile Op Lib Jvm.Stand Jvm.Free Jvm.LawKit Jvm.RoadKit
/-! A walk, forward: 'Run' says that the invocation's first state reaches this frame. -/
abbrev Cx := Program × Launch × Env × State × MethodId × Array Value × List Frame × Method × Code × State
def RunI (p : Program) (l : Launch) (e : Env) (s : State) (m : MethodId) (args : Array Value) (below : List Frame) (meth : Method) (c : Code) (A : State) (R : Room) (Z : State) (n0 : Nat) (own nm : String) (ret : Option FieldType) (bytes : ByteArray) (mx : Nat) (h : Heap) (cells slots pc : Nat) (L : Array Slot) (S : List Value) : Prop :=
  p.tables.exec = Jvm.exec ∧ c.code = bytes ∧ c.maxLocals = mx ∧ s.vm.findClass own = some m.cls ∧ Z.Warmed39 s.vm ∧ meth.name = nm ∧ meth.sig.returnType = ret ∧ meth.locks = false ∧
    ∃ (T : State) (locs : List Loc), Stand p l e R s m args below meth c T locs cells slots ∧ Fr n0 locs ∧ T.heap = h ∧ ∀ t, Steps p.tables e below (T.setTop (mkF m pc L S)) t → Steps p.tables e below A t
def Run (C : Cx) (R : Room) (Z : State) (n0 : Nat) (own nm : String) (ret : Option FieldType) (bytes : ByteArray) (mx : Nat) (h : Heap) (cells slots pc : Nat) (L : Array Slot) (S : List Value) : Prop :=
  RunI C.1 C.2.1 C.2.2.1 C.2.2.2.1 C.2.2.2.2.1 C.2.2.2.2.2.1 C.2.2.2.2.2.2.1 C.2.2.2.2.2.2.2.1 C.2.2.2.2.2.2.2.2.1 C.2.2.2.2.2.2.2.2.2 R Z n0 own nm ret bytes mx h cells slots pc L S
def FinI (p : Program) (e : Env) (s : State) (below : List Frame) (A : State) (R : Room) (n0 : Nat) (Q : Option Value → Heap → Prop) : Prop :=
  ∃ s₂ o, Steps p.tables e below A s₂ ∧ s₂.status = .running ∧ Ended s₂ below o ∧ ∃ v L, o = .returned v ∧ (Q v s₂.heap ∧ Fr n0 L) ∧ FrameEnd s o s₂ L R.cells R.slots
def Fini (C : Cx) (R : Room) (n0 : Nat) (Q : Option Value → Heap → Prop) : Prop := FinI C.1 C.2.2.1 C.2.2.2.1 C.2.2.2.2.2.2.1 C.2.2.2.2.2.2.2.2.2 R n0 Q
/-- a method's contract: called with 'as' at the heap h0 it returns, and Q says what; nothing that stood below n0 is written -/
def Con (Z : State) (n0 : Nat) (y : MethodName) (bytes : ByteArray) (mx : Nat) (ret : Option FieldType) (ws : List Jvm.Cond) (rm : Room) (as : Array Value) (h0 : Heap) (Q : Option Value → Heap → Prop) : Prop :=
  ∀ l : Launch, MetFree l y (head1 (Jvm.Cond.code y bytes mx ret :: ws) rm) (fun a U => a = as ∧ Z.Warmed39 U.vm ∧ U.heap = h0) (fun _ _ _ _ _ => True) (fun _ U o U' => ∃ v L, o = .returned v ∧ (Q v U'.heap ∧ Fr n0 L) ∧ FrameEnd U o U' L rm.cells rm.slots)
theorem Con.intro {Z : State} {n0 : Nat} {y : MethodName} {bytes : ByteArray} {mx : Nat} {ret : Option FieldType} {ws : List Jvm.Cond} {rm : Room} {as : Array Value} {h0 : Heap} {Q : Option Value → Heap → Prop} {L0 : Array Slot}
    (hp : plainFor y = true) (hef : ∀ m, entryFrame m as mx = mkF m 0 L0 []) (body : ∀ C : Cx, Run C rm Z n0 y.cls y.name ret bytes mx h0 0 0 0 L0 [] → Fini C rm n0 Q) : Con Z n0 y bytes mx ret ws rm as h0 Q := by
  intro l
  refine MetFree.of_bodySF hp hisR ?_
  intro p e s m args below meth c s₁ Bd hml0 hP hK
  obtain ⟨rfl, hZ, hh⟩ := hP
  have hown : s.vm.findClass y.cls = some m.cls := findClass_of_methodNamed Bd.named
  have X0 : Stand p l e rm s m args below meth c s₁ [] 0 0 := Stand.of_body Bd
  have e0 : s₁.heap = h0 := by rw [← hh, Bd.state]; rfl
  have k : Run (p, l, e, s, m, args, below, meth, c, s₁.setTop (entryFrame m args mx)) rm Z n0 y.cls y.name ret bytes mx h0 0 0 0 L0 [] :=
    ⟨Bd.exec, Bd.bytes, hml0, hown, hZ, (name_of_methodNamed Bd.named Bd.method).1, Bd.returns, Bd.notSynchronized, s₁, [], X0, Fr.nil n0, e0, fun t kt => castTop (hef m) kt⟩
  exact body _ k
theorem ac_eq {x y : Value} (q : x = y) : XT.acmp .eq x y = true ∧ XT.acmp .ne x y = false := ⟨decide_eq_true q, decide_eq_false (fun z => z q)⟩
theorem ac_ne {x y : Value} (q : x ≠ y) : XT.acmp .eq x y = false ∧ XT.acmp .ne x y = true := ⟨decide_eq_false q, decide_eq_true q⟩
/-! an array by a function of the place -/
def updV (f : Nat → Value) (i : Nat) (v : Value) : Nat → Value := fun j => if j = i then v else f j
theorem updV_same (f : Nat → Value) (i : Nat) (v : Value) : updV f i v i = v := if_pos rfl
theorem updV_ne {f : Nat → Value} {i j : Nat} {v : Value} (q : j ≠ i) : updV f i v j = f j := if_neg q
def Arf (Z : State) (h : Heap) (a : Addr) (ty : FieldType) (n : Nat) (f : Nat → Value) : Prop := ∃ c : Cell, Arr Z h a c ty ∧ c.slots.size = n ∧ ∀ i, i < n → c.slots[i]? = some (f i)
section Arrays
variable {Z : State} {h h' : Heap} {a b : Addr} {ty : FieldType} {n sl : Nat} {f g : Nat → Value} {v : Value} {ws : List Addr}
theorem Arf.lt (F : Arf Z h a ty n f) : a < h.size := by obtain ⟨c, A, -⟩ := F; exact A.lt
theorem Arf.ext (F : Arf Z h a ty n f) (E : Ext h h') : Arf Z h' a ty n f := by obtain ⟨c, A, r⟩ := F; exact ⟨c, Arr.ext E A, r⟩
theorem Arf.other (F : Arf Z h b ty n f) (W : Wr h h' a sl v) (q : b ≠ a) : Arf Z h' b ty n f := by obtain ⟨c, A, r⟩ := F; exact ⟨c, Arr.other W A q, r⟩
theorem Arf.keep (F : Arf Z h a ty n f) (K : Keep h h' ws) (q : a ∉ ws) : Arf Z h' a ty n f := by obtain ⟨c, A, r⟩ := F; exact ⟨c, ⟨K.2.1 a c A.1 q, A.2⟩, r⟩
theorem Arf.set (F : Arf Z h a ty n f) {i : Nat} (W : Wr h h' a i v) (hi : i < n) : Arf Z h' a ty n (updV f i v) := by
  obtain ⟨c, A, S, H⟩ := F
  refine ⟨_, Arr.same W A, (sz_set _ _ _).trans S, fun j hj => ?_⟩
  by_cases q : j = i
  · subst q
    rw [updV_same]
    have hs : j < c.slots.size := by omega
    simp [Cell.setSlot, hs]
  · rw [updV_ne q]
    simp only [Cell.setSlot]
    rw [Array.getElem?_setIfInBounds_ne (Ne.symm q)]
    exact H j hj
theorem Arf.congr (F : Arf Z h a ty n f) (q : ∀ i, i < n → f i = g i) : Arf Z h a ty n g := by obtain ⟨c, A, S, H⟩ := F; exact ⟨c, A, S, fun i hi => q i hi ▸ H i hi⟩
theorem Sta.keepN {Cn m d : String} (F : Sta Z h Cn m d v) (K : Keep h h' ws) (q : ∀ x ∈ ws, ∀ c : Cell, h[x]? = some c → c.vm.isStatics = false) : Sta Z h' Cn m d v := by
  obtain ⟨cf, i, k, f, st, cell, h1, h2, h3, h4, h5, h6, h7⟩ := F
  refine ⟨cf, i, k, f, st, cell, h1, h2, h3, h4, K.2.1 st cell h5 (fun z => ?_), h6, h7⟩
  rw [q st z cell h5] at h6; cases h6
theorem Exa.nost {Cn : String} (F : Exa Z h a Cn) : ∀ c : Cell, h[a]? = some c → c.vm.isStatics = false := fun c hc => by
  obtain ⟨cell, k, h1, -, -, h4, -⟩ := F
  cases hc.symm.trans h1; exact h4
theorem Arf.nost (F : Arf Z h a ty n f) : ∀ c : Cell, h[a]? = some c → c.vm.isStatics = false := fun c hc => by
  obtain ⟨cell, A, -⟩ := F
  cases hc.symm.trans A.1; exact A.plain
end Arrays
section Steps
variable {C : Cx} {R : Room} {Z : State} {n0 : Nat} {own nm : String} {ret : Option FieldType} {bytes : ByteArray} {mx : Nat} {h : Heap} {cells slots pc : Nat} {L : Array Slot} {S : List Value}

theorem Run.iloadN {k : Fin 4} {v : Int32} (K : Run C R Z n0 own nm ret bytes mx h cells slots pc L S) (hd : decode bytes pc = .ok (.iload_n k, 1)) (hl : L[k.val]? = some (.val (.int v))) : Run C R Z n0 own nm ret bytes mx h cells slots (pc + 1) L (.int v :: S) := by
  obtain ⟨hx, hby, hml, hown, hZ, hnm, hrt, hlk, T, locs, X, N, eT, st⟩ := K
  exact ⟨hx, hby, hml, hown, hZ, hnm, hrt, hlk, T, locs, X, N, eT, fun t kt => st t (XS.iloadN X.here hx rfl (hb hby hd) hl kt)⟩
theorem Run.iload {k : Nat} {v : Int32} (K : Run C R Z n0 own nm ret bytes mx h cells slots pc L S) (hd : decode bytes pc = .ok (.iload k, 2)) (hl : L[k]? = some (.val (.int v))) : Run C R Z n0 own nm ret bytes mx h cells slots (pc + 2) L (.int v :: S) := by
  obtain ⟨hx, hby, hml, hown, hZ, hnm, hrt, hlk, T, locs, X, N, eT, st⟩ := K
  exact ⟨hx, hby, hml, hown, hZ, hnm, hrt, hlk, T, locs, X, N, eT, fun t kt => st t (XS.iload X.here hx rfl (hb hby hd) hl kt)⟩
theorem Run.lloadN {k : Fin 4} {v : Int64} (K : Run C R Z n0 own nm ret bytes mx h cells slots pc L S) (hd : decode bytes pc = .ok (.lload_n k, 1)) (hl : L[k.val]? = some (.val (.long v))) : Run C R Z n0 own nm ret bytes mx h cells slots (pc + 1) L (.long v :: S) := by
  obtain ⟨hx, hby, hml, hown, hZ, hnm, hrt, hlk, T, locs, X, N, eT, st⟩ := K
  exact ⟨hx, hby, hml, hown, hZ, hnm, hrt, hlk, T, locs, X, N, eT, fun t kt => st t (XS.lloadN X.here hx rfl (hb hby hd) hl kt)⟩
theorem Run.lload {k : Nat} {v : Int64} (K : Run C R Z n0 own nm ret bytes mx h cells slots pc L S) (hd : decode bytes pc = .ok (.lload k, 2)) (hl : L[k]? = some (.val (.long v))) : Run C R Z n0 own nm ret bytes mx h cells slots (pc + 2) L (.long v :: S) := by
  obtain ⟨hx, hby, hml, hown, hZ, hnm, hrt, hlk, T, locs, X, N, eT, st⟩ := K
  exact ⟨hx, hby, hml, hown, hZ, hnm, hrt, hlk, T, locs, X, N, eT, fun t kt => st t (XS.lload X.here hx rfl (hb hby hd) hl kt)⟩
theorem Run.aloadN {k : Fin 4} {v : Value} (K : Run C R Z n0 own nm ret bytes mx h cells slots pc L S) (hd : decode bytes pc = .ok (.aload_n k, 1)) (hl : L[k.val]? = some (.val v)) (hv : v.isRef = true) : Run C R Z n0 own nm ret bytes mx h cells slots (pc + 1) L (v :: S) := by
  obtain ⟨hx, hby, hml, hown, hZ, hnm, hrt, hlk, T, locs, X, N, eT, st⟩ := K
  exact ⟨hx, hby, hml, hown, hZ, hnm, hrt, hlk, T, locs, X, N, eT, fun t kt => st t (XS.aloadN X.here hx rfl (hb hby hd) hl hv kt)⟩
theorem Run.aload {k : Nat} {v : Value} (K : Run C R Z n0 own nm ret bytes mx h cells slots pc L S) (hd : decode bytes pc = .ok (.aload k, 2)) (hl : L[k]? = some (.val v)) (hv : v.isRef = true) : Run C R Z n0 own nm ret bytes mx h cells slots (pc + 2) L (v :: S) := by
  obtain ⟨hx, hby, hml, hown, hZ, hnm, hrt, hlk, T, locs, X, N, eT, st⟩ := K
  exact ⟨hx, hby, hml, hown, hZ, hnm, hrt, hlk, T, locs, X, N, eT, fun t kt => st t (XS.aload X.here hx rfl (hb hby hd) hl hv kt)⟩
theorem Run.istoreN {k : Fin 4} {v : Int32} (l' : Array Slot) (K : Run C R Z n0 own nm ret bytes mx h cells slots pc L (.int v :: S)) (hd : decode bytes pc = .ok (.istore_n k, 1)) (hl : storeLocals L k.val (.int v) = some l') : Run C R Z n0 own nm ret bytes mx h cells slots (pc + 1) l' S := by
  obtain ⟨hx, hby, hml, hown, hZ, hnm, hrt, hlk, T, locs, X, N, eT, st⟩ := K
  exact ⟨hx, hby, hml, hown, hZ, hnm, hrt, hlk, T, locs, X, N, eT, fun t kt => st t (XS.istoreN X.here hx rfl (hb hby hd) rfl hl kt)⟩
theorem Run.istore {k : Nat} {v : Int32} (l' : Array Slot) (K : Run C R Z n0 own nm ret bytes mx h cells slots pc L (.int v :: S)) (hd : decode bytes pc = .ok (.istore k, 2)) (hl : storeLocals L k (.int v) = some l') : Run C R Z n0 own nm ret bytes mx h cells slots (pc + 2) l' S := by
  obtain ⟨hx, hby, hml, hown, hZ, hnm, hrt, hlk, T, locs, X, N, eT, st⟩ := K
  exact ⟨hx, hby, hml, hown, hZ, hnm, hrt, hlk, T, locs, X, N, eT, fun t kt => st t (XS.istore X.here hx rfl (hb hby hd) rfl hl kt)⟩
theorem Run.lstoreN {k : Fin 4} {v : Int64} (l' : Array Slot) (K : Run C R Z n0 own nm ret bytes mx h cells slots pc L (.long v :: S)) (hd : decode bytes pc = .ok (.lstore_n k, 1)) (hl : storeLocals L k.val (.long v) = some l') : Run C R Z n0 own nm ret bytes mx h cells slots (pc + 1) l' S := by
  obtain ⟨hx, hby, hml, hown, hZ, hnm, hrt, hlk, T, locs, X, N, eT, st⟩ := K
  exact ⟨hx, hby, hml, hown, hZ, hnm, hrt, hlk, T, locs, X, N, eT, fun t kt => st t (XS.lstoreN X.here hx rfl (hb hby hd) rfl hl kt)⟩
theorem Run.lstore {k : Nat} {v : Int64} (l' : Array Slot) (K : Run C R Z n0 own nm ret bytes mx h cells slots pc L (.long v :: S)) (hd : decode bytes pc = .ok (.lstore k, 2)) (hl : storeLocals L k (.long v) = some l') : Run C R Z n0 own nm ret bytes mx h cells slots (pc + 2) l' S := by
  obtain ⟨hx, hby, hml, hown, hZ, hnm, hrt, hlk, T, locs, X, N, eT, st⟩ := K
  exact ⟨hx, hby, hml, hown, hZ, hnm, hrt, hlk, T, locs, X, N, eT, fun t kt => st t (XS.lstore X.here hx rfl (hb hby hd) rfl hl kt)⟩
theorem Run.astoreN {k : Fin 4} {v : Value} (l' : Array Slot) (K : Run C R Z n0 own nm ret bytes mx h cells slots pc L (v :: S)) (hd : decode bytes pc = .ok (.astore_n k, 1)) (hv : v.isRef = true) (hl : storeLocals L k.val v = some l') : Run C R Z n0 own nm ret bytes mx h cells slots (pc + 1) l' S := by
  obtain ⟨hx, hby, hml, hown, hZ, hnm, hrt, hlk, T, locs, X, N, eT, st⟩ := K
  exact ⟨hx, hby, hml, hown, hZ, hnm, hrt, hlk, T, locs, X, N, eT, fun t kt => st t (XS.astoreN X.here hx rfl (hb hby hd) rfl hv hl kt)⟩
theorem Run.astore {k : Nat} {v : Value} (l' : Array Slot) (K : Run C R Z n0 own nm ret bytes mx h cells slots pc L (v :: S)) (hd : decode bytes pc = .ok (.astore k, 2)) (hv : v.isRef = true) (hl : storeLocals L k v = some l') : Run C R Z n0 own nm ret bytes mx h cells slots (pc + 2) l' S := by
  obtain ⟨hx, hby, hml, hown, hZ, hnm, hrt, hlk, T, locs, X, N, eT, st⟩ := K
  exact ⟨hx, hby, hml, hown, hZ, hnm, hrt, hlk, T, locs, X, N, eT, fun t kt => st t (XS.astore X.here hx rfl (hb hby hd) rfl hv hl kt)⟩
theorem Run.iconst {i : Int} (z : Int32) (K : Run C R Z n0 own nm ret bytes mx h cells slots pc L S) (hd : decode bytes pc = .ok (.iconst i, 1)) (hz : Int32.ofInt i = z) : Run C R Z n0 own nm ret bytes mx h cells slots (pc + 1) L (.int z :: S) := by
  obtain ⟨hx, hby, hml, hown, hZ, hnm, hrt, hlk, T, locs, X, N, eT, st⟩ := K
  exact ⟨hx, hby, hml, hown, hZ, hnm, hrt, hlk, T, locs, X, N, eT, fun t kt => st t (XS.iconst X.here hx rfl (hb hby hd) (by rw [hz]; exact kt))⟩
theorem Run.bipush {i : Int} (z : Int32) (K : Run C R Z n0 own nm ret bytes mx h cells slots pc L S) (hd : decode bytes pc = .ok (.bipush i, 2)) (hz : (Int8.ofInt i).toInt32 = z) : Run C R Z n0 own nm ret bytes mx h cells slots (pc + 2) L (.int z :: S) := by
  obtain ⟨hx, hby, hml, hown, hZ, hnm, hrt, hlk, T, locs, X, N, eT, st⟩ := K
  exact ⟨hx, hby, hml, hown, hZ, hnm, hrt, hlk, T, locs, X, N, eT, fun t kt => st t (XS.bipush X.here hx rfl (hb hby hd) (by rw [hz]; exact kt))⟩
theorem Run.sipush {i : Int} (z : Int32) (K : Run C R Z n0 own nm ret bytes mx h cells slots pc L S) (hd : decode bytes pc = .ok (.sipush i, 3)) (hz : (Int16.ofInt i).toInt32 = z) : Run C R Z n0 own nm ret bytes mx h cells slots (pc + 3) L (.int z :: S) := by
  obtain ⟨hx, hby, hml, hown, hZ, hnm, hrt, hlk, T, locs, X, N, eT, st⟩ := K
  exact ⟨hx, hby, hml, hown, hZ, hnm, hrt, hlk, T, locs, X, N, eT, fun t kt => st t (XS.sipush X.here hx rfl (hb hby hd) (by rw [hz]; exact kt))⟩
theorem Run.lconst {i : Fin 2} (z : Int64) (K : Run C R Z n0 own nm ret bytes mx h cells slots pc L S) (hd : decode bytes pc = .ok (.lconst i, 1)) (hz : Int64.ofNat i = z) : Run C R Z n0 own nm ret bytes mx h cells slots (pc + 1) L (.long z :: S) := by
  obtain ⟨hx, hby, hml, hown, hZ, hnm, hrt, hlk, T, locs, X, N, eT, st⟩ := K
  exact ⟨hx, hby, hml, hown, hZ, hnm, hrt, hlk, T, locs, X, N, eT, fun t kt => st t (XS.lconst X.here hx rfl (hb hby hd) (by rw [hz]; exact kt))⟩
theorem Run.aconstNull  (K : Run C R Z n0 own nm ret bytes mx h cells slots pc L S) (hd : decode bytes pc = .ok (.aconst_null, 1))  : Run C R Z n0 own nm ret bytes mx h cells slots (pc + 1) L (.null :: S) := by
  obtain ⟨hx, hby, hml, hown, hZ, hnm, hrt, hlk, T, locs, X, N, eT, st⟩ := K
  exact ⟨hx, hby, hml, hown, hZ, hnm, hrt, hlk, T, locs, X, N, eT, fun t kt => st t (XS.aconstNull X.here hx rfl (hb hby hd) kt)⟩
theorem Run.iadd {x y : Int32} (K : Run C R Z n0 own nm ret bytes mx h cells slots pc L (.int y :: .int x :: S)) (hd : decode bytes pc = .ok (.iadd, 1))  : Run C R Z n0 own nm ret bytes mx h cells slots (pc + 1) L (.int (x + y) :: S) := by
  obtain ⟨hx, hby, hml, hown, hZ, hnm, hrt, hlk, T, locs, X, N, eT, st⟩ := K
  exact ⟨hx, hby, hml, hown, hZ, hnm, hrt, hlk, T, locs, X, N, eT, fun t kt => st t (XS.iadd X.here hx rfl (hb hby hd) rfl kt)⟩
theorem Run.isub {x y : Int32} (K : Run C R Z n0 own nm ret bytes mx h cells slots pc L (.int y :: .int x :: S)) (hd : decode bytes pc = .ok (.isub, 1))  : Run C R Z n0 own nm ret bytes mx h cells slots (pc + 1) L (.int (x - y) :: S) := by
  obtain ⟨hx, hby, hml, hown, hZ, hnm, hrt, hlk, T, locs, X, N, eT, st⟩ := K
  exact ⟨hx, hby, hml, hown, hZ, hnm, hrt, hlk, T, locs, X, N, eT, fun t kt => st t (XS.isub X.here hx rfl (hb hby hd) rfl kt)⟩
theorem Run.imul {x y : Int32} (K : Run C R Z n0 own nm ret bytes mx h cells slots pc L (.int y :: .int x :: S)) (hd : decode bytes pc = .ok (.imul, 1))  : Run C R Z n0 own nm ret bytes mx h cells slots (pc + 1) L (.int (x * y) :: S) := by
  obtain ⟨hx, hby, hml, hown, hZ, hnm, hrt, hlk, T, locs, X, N, eT, st⟩ := K
  exact ⟨hx, hby, hml, hown, hZ, hnm, hrt, hlk, T, locs, X, N, eT, fun t kt => st t (XS.imul X.here hx rfl (hb hby hd) rfl kt)⟩
theorem Run.iand {x y : Int32} (K : Run C R Z n0 own nm ret bytes mx h cells slots pc L (.int y :: .int x :: S)) (hd : decode bytes pc = .ok (.iand, 1))  : Run C R Z n0 own nm ret bytes mx h cells slots (pc + 1) L (.int (x &&& y) :: S) := by
  obtain ⟨hx, hby, hml, hown, hZ, hnm, hrt, hlk, T, locs, X, N, eT, st⟩ := K
  exact ⟨hx, hby, hml, hown, hZ, hnm, hrt, hlk, T, locs, X, N, eT, fun t kt => st t (XS.iand X.here hx rfl (hb hby hd) rfl kt)⟩
theorem Run.ior {x y : Int32} (K : Run C R Z n0 own nm ret bytes mx h cells slots pc L (.int y :: .int x :: S)) (hd : decode bytes pc = .ok (.ior, 1))  : Run C R Z n0 own nm ret bytes mx h cells slots (pc + 1) L (.int (x ||| y) :: S) := by
  obtain ⟨hx, hby, hml, hown, hZ, hnm, hrt, hlk, T, locs, X, N, eT, st⟩ := K
  exact ⟨hx, hby, hml, hown, hZ, hnm, hrt, hlk, T, locs, X, N, eT, fun t kt => st t (XS.ior X.here hx rfl (hb hby hd) rfl kt)⟩
theorem Run.ixor {x y : Int32} (K : Run C R Z n0 own nm ret bytes mx h cells slots pc L (.int y :: .int x :: S)) (hd : decode bytes pc = .ok (.ixor, 1))  : Run C R Z n0 own nm ret bytes mx h cells slots (pc + 1) L (.int (x ^^^ y) :: S) := by
  obtain ⟨hx, hby, hml, hown, hZ, hnm, hrt, hlk, T, locs, X, N, eT, st⟩ := K
  exact ⟨hx, hby, hml, hown, hZ, hnm, hrt, hlk, T, locs, X, N, eT, fun t kt => st t (XS.ixor X.here hx rfl (hb hby hd) rfl kt)⟩
theorem Run.ishl {x y : Int32} (K : Run C R Z n0 own nm ret bytes mx h cells slots pc L (.int y :: .int x :: S)) (hd : decode bytes pc = .ok (.ishl, 1))  : Run C R Z n0 own nm ret bytes mx h cells slots (pc + 1) L (.int (x <<< (y &&& 31)) :: S) := by
  obtain ⟨hx, hby, hml, hown, hZ, hnm, hrt, hlk, T, locs, X, N, eT, st⟩ := K
  exact ⟨hx, hby, hml, hown, hZ, hnm, hrt, hlk, T, locs, X, N, eT, fun t kt => st t (XS.ishl X.here hx rfl (hb hby hd) rfl kt)⟩
theorem Run.ishr {x y : Int32} (K : Run C R Z n0 own nm ret bytes mx h cells slots pc L (.int y :: .int x :: S)) (hd : decode bytes pc = .ok (.ishr, 1))  : Run C R Z n0 own nm ret bytes mx h cells slots (pc + 1) L (.int (x >>> (y &&& 31)) :: S) := by
  obtain ⟨hx, hby, hml, hown, hZ, hnm, hrt, hlk, T, locs, X, N, eT, st⟩ := K
  exact ⟨hx, hby, hml, hown, hZ, hnm, hrt, hlk, T, locs, X, N, eT, fun t kt => st t (XS.ishr X.here hx rfl (hb hby hd) rfl kt)⟩
theorem Run.iushr {x y : Int32} (K : Run C R Z n0 own nm ret bytes mx h cells slots pc L (.int y :: .int x :: S)) (hd : decode bytes pc = .ok (.iushr, 1))  : Run C R Z n0 own nm ret bytes mx h cells slots (pc + 1) L (.int ((x.toUInt32 >>> (y &&& 31).toUInt32).toInt32) :: S) := by
  obtain ⟨hx, hby, hml, hown, hZ, hnm, hrt, hlk, T, locs, X, N, eT, st⟩ := K
  exact ⟨hx, hby, hml, hown, hZ, hnm, hrt, hlk, T, locs, X, N, eT, fun t kt => st t (XS.iushr X.here hx rfl (hb hby hd) rfl kt)⟩
theorem Run.irem {x y : Int32} (K : Run C R Z n0 own nm ret bytes mx h cells slots pc L (.int y :: .int x :: S)) (hd : decode bytes pc = .ok (.irem, 1)) (hy : y ≠ 0) : Run C R Z n0 own nm ret bytes mx h cells slots (pc + 1) L (.int (x % y) :: S) := by
  obtain ⟨hx, hby, hml, hown, hZ, hnm, hrt, hlk, T, locs, X, N, eT, st⟩ := K
  exact ⟨hx, hby, hml, hown, hZ, hnm, hrt, hlk, T, locs, X, N, eT, fun t kt => st t (iremM X hx rfl (hb hby hd) rfl hy kt)⟩
theorem Run.idiv {x y : Int32} (K : Run C R Z n0 own nm ret bytes mx h cells slots pc L (.int y :: .int x :: S)) (hd : decode bytes pc = .ok (.idiv, 1)) (hy : y ≠ 0) : Run C R Z n0 own nm ret bytes mx h cells slots (pc + 1) L (.int (x / y) :: S) := by
  obtain ⟨hx, hby, hml, hown, hZ, hnm, hrt, hlk, T, locs, X, N, eT, st⟩ := K
  exact ⟨hx, hby, hml, hown, hZ, hnm, hrt, hlk, T, locs, X, N, eT, fun t kt => st t (XS.idiv X.here hx rfl (hb hby hd) rfl hy kt)⟩
theorem Run.ineg {x : Int32} (K : Run C R Z n0 own nm ret bytes mx h cells slots pc L (.int x :: S)) (hd : decode bytes pc = .ok (.ineg, 1))  : Run C R Z n0 own nm ret bytes mx h cells slots (pc + 1) L (.int (-x) :: S) := by
  obtain ⟨hx, hby, hml, hown, hZ, hnm, hrt, hlk, T, locs, X, N, eT, st⟩ := K
  exact ⟨hx, hby, hml, hown, hZ, hnm, hrt, hlk, T, locs, X, N, eT, fun t kt => st t (XS.ineg X.here hx rfl (hb hby hd) rfl kt)⟩
theorem Run.ladd {x y : Int64} (K : Run C R Z n0 own nm ret bytes mx h cells slots pc L (.long y :: .long x :: S)) (hd : decode bytes pc = .ok (.ladd, 1))  : Run C R Z n0 own nm ret bytes mx h cells slots (pc + 1) L (.long (x + y) :: S) := by
  obtain ⟨hx, hby, hml, hown, hZ, hnm, hrt, hlk, T, locs, X, N, eT, st⟩ := K
  exact ⟨hx, hby, hml, hown, hZ, hnm, hrt, hlk, T, locs, X, N, eT, fun t kt => st t (XS.ladd X.here hx rfl (hb hby hd) rfl kt)⟩
theorem Run.lsub {x y : Int64} (K : Run C R Z n0 own nm ret bytes mx h cells slots pc L (.long y :: .long x :: S)) (hd : decode bytes pc = .ok (.lsub, 1))  : Run C R Z n0 own nm ret bytes mx h cells slots (pc + 1) L (.long (x - y) :: S) := by
  obtain ⟨hx, hby, hml, hown, hZ, hnm, hrt, hlk, T, locs, X, N, eT, st⟩ := K
  exact ⟨hx, hby, hml, hown, hZ, hnm, hrt, hlk, T, locs, X, N, eT, fun t kt => st t (XS.lsub X.here hx rfl (hb hby hd) rfl kt)⟩
theorem Run.lmul {x y : Int64} (K : Run C R Z n0 own nm ret bytes mx h cells slots pc L (.long y :: .long x :: S)) (hd : decode bytes pc = .ok (.lmul, 1))  : Run C R Z n0 own nm ret bytes mx h cells slots (pc + 1) L (.long (x * y) :: S) := by
  obtain ⟨hx, hby, hml, hown, hZ, hnm, hrt, hlk, T, locs, X, N, eT, st⟩ := K
  exact ⟨hx, hby, hml, hown, hZ, hnm, hrt, hlk, T, locs, X, N, eT, fun t kt => st t (XS.lmul X.here hx rfl (hb hby hd) rfl kt)⟩
theorem Run.land {x y : Int64} (K : Run C R Z n0 own nm ret bytes mx h cells slots pc L (.long y :: .long x :: S)) (hd : decode bytes pc = .ok (.land, 1))  : Run C R Z n0 own nm ret bytes mx h cells slots (pc + 1) L (.long (x &&& y) :: S) := by
  obtain ⟨hx, hby, hml, hown, hZ, hnm, hrt, hlk, T, locs, X, N, eT, st⟩ := K
  exact ⟨hx, hby, hml, hown, hZ, hnm, hrt, hlk, T, locs, X, N, eT, fun t kt => st t (XS.land X.here hx rfl (hb hby hd) rfl kt)⟩
theorem Run.lor {x y : Int64} (K : Run C R Z n0 own nm ret bytes mx h cells slots pc L (.long y :: .long x :: S)) (hd : decode bytes pc = .ok (.lor, 1))  : Run C R Z n0 own nm ret bytes mx h cells slots (pc + 1) L (.long (x ||| y) :: S) := by
  obtain ⟨hx, hby, hml, hown, hZ, hnm, hrt, hlk, T, locs, X, N, eT, st⟩ := K
  exact ⟨hx, hby, hml, hown, hZ, hnm, hrt, hlk, T, locs, X, N, eT, fun t kt => st t (XS.lor X.here hx rfl (hb hby hd) rfl kt)⟩
theorem Run.lxor {x y : Int64} (K : Run C R Z n0 own nm ret bytes mx h cells slots pc L (.long y :: .long x :: S)) (hd : decode bytes pc = .ok (.lxor, 1))  : Run C R Z n0 own nm ret bytes mx h cells slots (pc + 1) L (.long (x ^^^ y) :: S) := by
  obtain ⟨hx, hby, hml, hown, hZ, hnm, hrt, hlk, T, locs, X, N, eT, st⟩ := K
  exact ⟨hx, hby, hml, hown, hZ, hnm, hrt, hlk, T, locs, X, N, eT, fun t kt => st t (XS.lxor X.here hx rfl (hb hby hd) rfl kt)⟩
theorem Run.lcmp {x y : Int64} (K : Run C R Z n0 own nm ret bytes mx h cells slots pc L (.long y :: .long x :: S)) (hd : decode bytes pc = .ok (.lcmp, 1))  : Run C R Z n0 own nm ret bytes mx h cells slots (pc + 1) L (.int (lcmpW x y) :: S) := by
  obtain ⟨hx, hby, hml, hown, hZ, hnm, hrt, hlk, T, locs, X, N, eT, st⟩ := K
  exact ⟨hx, hby, hml, hown, hZ, hnm, hrt, hlk, T, locs, X, N, eT, fun t kt => st t (XS.lcmp X.here hx rfl (hb hby hd) rfl kt)⟩
theorem Run.lushr {x : Int64} {y : Int32} (K : Run C R Z n0 own nm ret bytes mx h cells slots pc L (.int y :: .long x :: S)) (hd : decode bytes pc = .ok (.lushr, 1))  : Run C R Z n0 own nm ret bytes mx h cells slots (pc + 1) L (.long ((x.toUInt64 >>> (y &&& 0x3f).toInt64.toUInt64).toInt64) :: S) := by
  obtain ⟨hx, hby, hml, hown, hZ, hnm, hrt, hlk, T, locs, X, N, eT, st⟩ := K
  exact ⟨hx, hby, hml, hown, hZ, hnm, hrt, hlk, T, locs, X, N, eT, fun t kt => st t (XS.lushr X.here hx rfl (hb hby hd) rfl kt)⟩
theorem Run.lshr {x : Int64} {y : Int32} (K : Run C R Z n0 own nm ret bytes mx h cells slots pc L (.int y :: .long x :: S)) (hd : decode bytes pc = .ok (.lshr, 1))  : Run C R Z n0 own nm ret bytes mx h cells slots (pc + 1) L (.long (x >>> (y &&& 0x3f).toInt64) :: S) := by
  obtain ⟨hx, hby, hml, hown, hZ, hnm, hrt, hlk, T, locs, X, N, eT, st⟩ := K
  exact ⟨hx, hby, hml, hown, hZ, hnm, hrt, hlk, T, locs, X, N, eT, fun t kt => st t (XS.lshr X.here hx rfl (hb hby hd) rfl kt)⟩
theorem Run.lshl {x : Int64} {y : Int32} (K : Run C R Z n0 own nm ret bytes mx h cells slots pc L (.int y :: .long x :: S)) (hd : decode bytes pc = .ok (.lshl, 1))  : Run C R Z n0 own nm ret bytes mx h cells slots (pc + 1) L (.long (x <<< (y &&& 0x3f).toInt64) :: S) := by
  obtain ⟨hx, hby, hml, hown, hZ, hnm, hrt, hlk, T, locs, X, N, eT, st⟩ := K
  exact ⟨hx, hby, hml, hown, hZ, hnm, hrt, hlk, T, locs, X, N, eT, fun t kt => st t (XS.lshl X.here hx rfl (hb hby hd) rfl kt)⟩
theorem Run.i2l {x : Int32} (K : Run C R Z n0 own nm ret bytes mx h cells slots pc L (.int x :: S)) (hd : decode bytes pc = .ok (.i2l, 1))  : Run C R Z n0 own nm ret bytes mx h cells slots (pc + 1) L (.long (x.toInt64) :: S) := by
  obtain ⟨hx, hby, hml, hown, hZ, hnm, hrt, hlk, T, locs, X, N, eT, st⟩ := K
  exact ⟨hx, hby, hml, hown, hZ, hnm, hrt, hlk, T, locs, X, N, eT, fun t kt => st t (XS.i2l X.here hx rfl (hb hby hd) rfl kt)⟩
theorem Run.l2i {x : Int64} (K : Run C R Z n0 own nm ret bytes mx h cells slots pc L (.long x :: S)) (hd : decode bytes pc = .ok (.l2i, 1))  : Run C R Z n0 own nm ret bytes mx h cells slots (pc + 1) L (.int (x.toInt32) :: S) := by
  obtain ⟨hx, hby, hml, hown, hZ, hnm, hrt, hlk, T, locs, X, N, eT, st⟩ := K
  exact ⟨hx, hby, hml, hown, hZ, hnm, hrt, hlk, T, locs, X, N, eT, fun t kt => st t (XS.l2i X.here hx rfl (hb hby hd) rfl kt)⟩
theorem Run.i2b {x : Int32} (K : Run C R Z n0 own nm ret bytes mx h cells slots pc L (.int x :: S)) (hd : decode bytes pc = .ok (.i2b, 1))  : Run C R Z n0 own nm ret bytes mx h cells slots (pc + 1) L (.int (x.toInt8.toInt32) :: S) := by
  obtain ⟨hx, hby, hml, hown, hZ, hnm, hrt, hlk, T, locs, X, N, eT, st⟩ := K
  exact ⟨hx, hby, hml, hown, hZ, hnm, hrt, hlk, T, locs, X, N, eT, fun t kt => st t (XS.i2b X.here hx rfl (hb hby hd) rfl kt)⟩
theorem Run.i2s {x : Int32} (K : Run C R Z n0 own nm ret bytes mx h cells slots pc L (.int x :: S)) (hd : decode bytes pc = .ok (.i2s, 1))  : Run C R Z n0 own nm ret bytes mx h cells slots (pc + 1) L (.int (x.toInt16.toInt32) :: S) := by
  obtain ⟨hx, hby, hml, hown, hZ, hnm, hrt, hlk, T, locs, X, N, eT, st⟩ := K
  exact ⟨hx, hby, hml, hown, hZ, hnm, hrt, hlk, T, locs, X, N, eT, fun t kt => st t (XS.i2s X.here hx rfl (hb hby hd) rfl kt)⟩
theorem Run.i2c {x : Int32} (K : Run C R Z n0 own nm ret bytes mx h cells slots pc L (.int x :: S)) (hd : decode bytes pc = .ok (.i2c, 1))  : Run C R Z n0 own nm ret bytes mx h cells slots (pc + 1) L (.int (x.toUInt32.toUInt16.toUInt32.toInt32) :: S) := by
  obtain ⟨hx, hby, hml, hown, hZ, hnm, hrt, hlk, T, locs, X, N, eT, st⟩ := K
  exact ⟨hx, hby, hml, hown, hZ, hnm, hrt, hlk, T, locs, X, N, eT, fun t kt => st t (XS.i2c X.here hx rfl (hb hby hd) rfl kt)⟩
theorem Run.iinc {k : Nat} {cst : Int} {x : Int32} (z : Int32) (l' : Array Slot) (K : Run C R Z n0 own nm ret bytes mx h cells slots pc L S) (hd : decode bytes pc = .ok (.iinc k cst, 3)) (hl : L[k]? = some (.val (.int x))) (hz : Int32.ofInt cst = z) (hl' : storeLocals L k (.int (x + z)) = some l') : Run C R Z n0 own nm ret bytes mx h cells slots (pc + 3) l' S := by
  obtain ⟨hx, hby, hml, hown, hZ, hnm, hrt, hlk, T, locs, X, N, eT, st⟩ := K
  exact ⟨hx, hby, hml, hown, hZ, hnm, hrt, hlk, T, locs, X, N, eT, fun t kt => st t (XS.iinc X.here hx rfl (hb hby hd) hl (by rw [hz]; exact hl') kt)⟩
theorem Run.dup {x : Value} (K : Run C R Z n0 own nm ret bytes mx h cells slots pc L (x :: S)) (hd : decode bytes pc = .ok (.dup, 1)) (hc : x.category = 1) : Run C R Z n0 own nm ret bytes mx h cells slots (pc + 1) L (x :: x :: S) := by
  obtain ⟨hx, hby, hml, hown, hZ, hnm, hrt, hlk, T, locs, X, N, eT, st⟩ := K
  exact ⟨hx, hby, hml, hown, hZ, hnm, hrt, hlk, T, locs, X, N, eT, fun t kt => st t (XS.dup X.here hx rfl (hb hby hd) rfl hc kt)⟩
theorem Run.dupX1 {x y : Value} (K : Run C R Z n0 own nm ret bytes mx h cells slots pc L (x :: y :: S)) (hd : decode bytes pc = .ok (.dup_x1, 1)) (hc : x.category = 1) (hc' : y.category = 1) : Run C R Z n0 own nm ret bytes mx h cells slots (pc + 1) L (x :: y :: x :: S) := by
  obtain ⟨hx, hby, hml, hown, hZ, hnm, hrt, hlk, T, locs, X, N, eT, st⟩ := K
  exact ⟨hx, hby, hml, hown, hZ, hnm, hrt, hlk, T, locs, X, N, eT, fun t kt => st t (XS.dupX1 X.here hx rfl (hb hby hd) rfl hc hc' kt)⟩
theorem Run.pop {x : Value} (K : Run C R Z n0 own nm ret bytes mx h cells slots pc L (x :: S)) (hd : decode bytes pc = .ok (.pop, 1)) (hc : x.category = 1) : Run C R Z n0 own nm ret bytes mx h cells slots (pc + 1) L S := by
  obtain ⟨hx, hby, hml, hown, hZ, hnm, hrt, hlk, T, locs, X, N, eT, st⟩ := K
  exact ⟨hx, hby, hml, hown, hZ, hnm, hrt, hlk, T, locs, X, N, eT, fun t kt => st t (XS.pop X.here hx rfl (hb hby hd) rfl hc kt)⟩
theorem Run.goto {o : Int} {pc' : Nat} (K : Run C R Z n0 own nm ret bytes mx h cells slots pc L S) (hd : decode bytes pc = .ok (.goto o, 3)) (ho : 0 ≤ (pc : Int) + o) (hp : ((pc : Int) + o).toNat = pc') : Run C R Z n0 own nm ret bytes mx h cells slots pc' L S := by
  obtain ⟨hx, hby, hml, hown, hZ, hnm, hrt, hlk, T, locs, X, N, eT, st⟩ := K
  exact ⟨hx, hby, hml, hown, hZ, hnm, hrt, hlk, T, locs, X, N, eT, fun t kt => st t (XS.goto X.here hx rfl (pc0 := pc) rfl (hb hby hd) ho hp kt)⟩
theorem Run.ifYes {cd : ClassFile.Cond} {x : Int32} {o : Int} {pc' : Nat} (K : Run C R Z n0 own nm ret bytes mx h cells slots pc L (.int x :: S)) (hd : decode bytes pc = .ok (.ifCond cd o, 3)) (hc : if_icmp.holds cd x 0 = true) (ho : 0 ≤ (pc : Int) + o) (hp : ((pc : Int) + o).toNat = pc') : Run C R Z n0 own nm ret bytes mx h cells slots pc' L S := by
  obtain ⟨hx, hby, hml, hown, hZ, hnm, hrt, hlk, T, locs, X, N, eT, st⟩ := K
  exact ⟨hx, hby, hml, hown, hZ, hnm, hrt, hlk, T, locs, X, N, eT, fun t kt => st t (XS.ifYes X.here hx rfl (pc0 := pc) rfl (hb hby hd) rfl ((if0 _ _).trans hc) ho hp kt)⟩
theorem Run.ifNo {cd : ClassFile.Cond} {x : Int32} {o : Int} (K : Run C R Z n0 own nm ret bytes mx h cells slots pc L (.int x :: S)) (hd : decode bytes pc = .ok (.ifCond cd o, 3)) (hc : if_icmp.holds cd x 0 = false) : Run C R Z n0 own nm ret bytes mx h cells slots (pc + 3) L S := by
  obtain ⟨hx, hby, hml, hown, hZ, hnm, hrt, hlk, T, locs, X, N, eT, st⟩ := K
  exact ⟨hx, hby, hml, hown, hZ, hnm, hrt, hlk, T, locs, X, N, eT, fun t kt => st t (XS.ifNo X.here hx rfl (hb hby hd) rfl ((if0 _ _).trans hc) kt)⟩
theorem Run.icmpYes {cd : ClassFile.Cond} {x y : Int32} {o : Int} {pc' : Nat} (K : Run C R Z n0 own nm ret bytes mx h cells slots pc L (.int y :: .int x :: S)) (hd : decode bytes pc = .ok (.if_icmp cd o, 3)) (hc : if_icmp.holds cd x y = true) (ho : 0 ≤ (pc : Int) + o) (hp : ((pc : Int) + o).toNat = pc') : Run C R Z n0 own nm ret bytes mx h cells slots pc' L S := by
  obtain ⟨hx, hby, hml, hown, hZ, hnm, hrt, hlk, T, locs, X, N, eT, st⟩ := K
  exact ⟨hx, hby, hml, hown, hZ, hnm, hrt, hlk, T, locs, X, N, eT, fun t kt => st t (XS.icmpYes X.here hx rfl (pc0 := pc) rfl (hb hby hd) rfl hc ho hp kt)⟩
theorem Run.icmpNo {cd : ClassFile.Cond} {x y : Int32} {o : Int} (K : Run C R Z n0 own nm ret bytes mx h cells slots pc L (.int y :: .int x :: S)) (hd : decode bytes pc = .ok (.if_icmp cd o, 3)) (hc : if_icmp.holds cd x y = false) : Run C R Z n0 own nm ret bytes mx h cells slots (pc + 3) L S := by
  obtain ⟨hx, hby, hml, hown, hZ, hnm, hrt, hlk, T, locs, X, N, eT, st⟩ := K
  exact ⟨hx, hby, hml, hown, hZ, hnm, hrt, hlk, T, locs, X, N, eT, fun t kt => st t (XS.icmpNo X.here hx rfl (hb hby hd) rfl hc kt)⟩
theorem Run.ifnullYes {o : Int} {pc' : Nat} (K : Run C R Z n0 own nm ret bytes mx h cells slots pc L (.null :: S)) (hd : decode bytes pc = .ok (.ifnull o, 3)) (ho : 0 ≤ (pc : Int) + o) (hp : ((pc : Int) + o).toNat = pc') : Run C R Z n0 own nm ret bytes mx h cells slots pc' L S := by
  obtain ⟨hx, hby, hml, hown, hZ, hnm, hrt, hlk, T, locs, X, N, eT, st⟩ := K
  exact ⟨hx, hby, hml, hown, hZ, hnm, hrt, hlk, T, locs, X, N, eT, fun t kt => st t (XS.ifnullYes X.here hx rfl (pc0 := pc) rfl (hb hby hd) rfl ho hp kt)⟩
theorem Run.ifnullNo {o : Int} {b : Addr} (K : Run C R Z n0 own nm ret bytes mx h cells slots pc L (.ref b :: S)) (hd : decode bytes pc = .ok (.ifnull o, 3))  : Run C R Z n0 own nm ret bytes mx h cells slots (pc + 3) L S := by
  obtain ⟨hx, hby, hml, hown, hZ, hnm, hrt, hlk, T, locs, X, N, eT, st⟩ := K
  exact ⟨hx, hby, hml, hown, hZ, hnm, hrt, hlk, T, locs, X, N, eT, fun t kt => st t (XS.ifnullNo X.here hx rfl (hb hby hd) rfl kt)⟩
theorem Run.ifnonnullYes {o : Int} {b : Addr} {pc' : Nat} (K : Run C R Z n0 own nm ret bytes mx h cells slots pc L (.ref b :: S)) (hd : decode bytes pc = .ok (.ifnonnull o, 3)) (ho : 0 ≤ (pc : Int) + o) (hp : ((pc : Int) + o).toNat = pc') : Run C R Z n0 own nm ret bytes mx h cells slots pc' L S := by
  obtain ⟨hx, hby, hml, hown, hZ, hnm, hrt, hlk, T, locs, X, N, eT, st⟩ := K
  exact ⟨hx, hby, hml, hown, hZ, hnm, hrt, hlk, T, locs, X, N, eT, fun t kt => st t (XS.ifnonnullYes X.here hx rfl (pc0 := pc) rfl (hb hby hd) rfl ho hp kt)⟩
theorem Run.ifnonnullNo {o : Int} (K : Run C R Z n0 own nm ret bytes mx h cells slots pc L (.null :: S)) (hd : decode bytes pc = .ok (.ifnonnull o, 3))  : Run C R Z n0 own nm ret bytes mx h cells slots (pc + 3) L S := by
  obtain ⟨hx, hby, hml, hown, hZ, hnm, hrt, hlk, T, locs, X, N, eT, st⟩ := K
  exact ⟨hx, hby, hml, hown, hZ, hnm, hrt, hlk, T, locs, X, N, eT, fun t kt => st t (XS.ifnonnullNo X.here hx rfl (hb hby hd) rfl kt)⟩
theorem Run.acmpYes {cd : ClassFile.ACond} {x y : Value} {o : Int} {pc' : Nat} (K : Run C R Z n0 own nm ret bytes mx h cells slots pc L (y :: x :: S)) (hd : decode bytes pc = .ok (.if_acmp cd o, 3)) (h1 : x.isRef = true) (h2 : y.isRef = true) (hc : XT.acmp cd x y = true) (ho : 0 ≤ (pc : Int) + o) (hp : ((pc : Int) + o).toNat = pc') : Run C R Z n0 own nm ret bytes mx h cells slots pc' L S := by
  obtain ⟨hx, hby, hml, hown, hZ, hnm, hrt, hlk, T, locs, X, N, eT, st⟩ := K
  exact ⟨hx, hby, hml, hown, hZ, hnm, hrt, hlk, T, locs, X, N, eT, fun t kt => st t (XT.acmpYes X.here hx rfl (pc0 := pc) rfl (hb hby hd) rfl h1 h2 hc ho hp kt)⟩
theorem Run.acmpNo {cd : ClassFile.ACond} {x y : Value} {o : Int} (K : Run C R Z n0 own nm ret bytes mx h cells slots pc L (y :: x :: S)) (hd : decode bytes pc = .ok (.if_acmp cd o, 3)) (h1 : x.isRef = true) (h2 : y.isRef = true) (hc : XT.acmp cd x y = false) : Run C R Z n0 own nm ret bytes mx h cells slots (pc + 3) L S := by
  obtain ⟨hx, hby, hml, hown, hZ, hnm, hrt, hlk, T, locs, X, N, eT, st⟩ := K
  exact ⟨hx, hby, hml, hown, hZ, hnm, hrt, hlk, T, locs, X, N, eT, fun t kt => st t (XT.acmpNo X.here hx rfl (hb hby hd) rfl h1 h2 hc kt)⟩
theorem Run.dloadN {k : Fin 4} {v : UInt64} (K : Run C R Z n0 own nm ret bytes mx h cells slots pc L S) (hd : decode bytes pc = .ok (.dload_n k, 1)) (hl : L[k.val]? = some (.val (.double v))) : Run C R Z n0 own nm ret bytes mx h cells slots (pc + 1) L (.double v :: S) := by
  obtain ⟨hx, hby, hml, hown, hZ, hnm, hrt, hlk, T, locs, X, N, eT, st⟩ := K
  exact ⟨hx, hby, hml, hown, hZ, hnm, hrt, hlk, T, locs, X, N, eT, fun t kt => st t (XS.dloadN X.here hx rfl (hb hby hd) hl kt)⟩
theorem Run.dload {k : Nat} {v : UInt64} (K : Run C R Z n0 own nm ret bytes mx h cells slots pc L S) (hd : decode bytes pc = .ok (.dload k, 2)) (hl : L[k]? = some (.val (.double v))) : Run C R Z n0 own nm ret bytes mx h cells slots (pc + 2) L (.double v :: S) := by
  obtain ⟨hx, hby, hml, hown, hZ, hnm, hrt, hlk, T, locs, X, N, eT, st⟩ := K
  exact ⟨hx, hby, hml, hown, hZ, hnm, hrt, hlk, T, locs, X, N, eT, fun t kt => st t (XS.dload X.here hx rfl (hb hby hd) hl kt)⟩
theorem Run.dstoreN {k : Fin 4} {v : UInt64} (l' : Array Slot) (K : Run C R Z n0 own nm ret bytes mx h cells slots pc L (.double v :: S)) (hd : decode bytes pc = .ok (.dstore_n k, 1)) (hl : storeLocals L k.val (.double v) = some l') : Run C R Z n0 own nm ret bytes mx h cells slots (pc + 1) l' S := by
  obtain ⟨hx, hby, hml, hown, hZ, hnm, hrt, hlk, T, locs, X, N, eT, st⟩ := K
  exact ⟨hx, hby, hml, hown, hZ, hnm, hrt, hlk, T, locs, X, N, eT, fun t kt => st t (XS.dstoreN X.here hx rfl (hb hby hd) rfl hl kt)⟩
theorem Run.dstore {k : Nat} {v : UInt64} (l' : Array Slot) (K : Run C R Z n0 own nm ret bytes mx h cells slots pc L (.double v :: S)) (hd : decode bytes pc = .ok (.dstore k, 2)) (hl : storeLocals L k (.double v) = some l') : Run C R Z n0 own nm ret bytes mx h cells slots (pc + 2) l' S := by
  obtain ⟨hx, hby, hml, hown, hZ, hnm, hrt, hlk, T, locs, X, N, eT, st⟩ := K
  exact ⟨hx, hby, hml, hown, hZ, hnm, hrt, hlk, T, locs, X, N, eT, fun t kt => st t (XS.dstore X.here hx rfl (hb hby hd) rfl hl kt)⟩
theorem Run.dconst0 (z : UInt64) (K : Run C R Z n0 own nm ret bytes mx h cells slots pc L S) (hd : decode bytes pc = .ok (.dconst 0, 1)) (hz : FP.dconst0 = z) : Run C R Z n0 own nm ret bytes mx h cells slots (pc + 1) L (.double z :: S) := by
  obtain ⟨hx, hby, hml, hown, hZ, hnm, hrt, hlk, T, locs, X, N, eT, st⟩ := K
  exact ⟨hx, hby, hml, hown, hZ, hnm, hrt, hlk, T, locs, X, N, eT, fun t kt => st t (XS.dconst0 X.here hx rfl (hb hby hd) hz kt)⟩
theorem Run.i2d {x : Int32} (z : UInt64) (K : Run C R Z n0 own nm ret bytes mx h cells slots pc L (.int x :: S)) (hd : decode bytes pc = .ok (.i2d, 1)) (hz : FP.i2d x = z) : Run C R Z n0 own nm ret bytes mx h cells slots (pc + 1) L (.double z :: S) := by
  obtain ⟨hx, hby, hml, hown, hZ, hnm, hrt, hlk, T, locs, X, N, eT, st⟩ := K
  exact ⟨hx, hby, hml, hown, hZ, hnm, hrt, hlk, T, locs, X, N, eT, fun t kt => st t (XS.i2dS X.here hx rfl (hb hby hd) rfl hz kt)⟩
theorem Run.l2d {x : Int64} (z : UInt64) (K : Run C R Z n0 own nm ret bytes mx h cells slots pc L (.long x :: S)) (hd : decode bytes pc = .ok (.l2d, 1)) (hz : FP.l2d x = z) : Run C R Z n0 own nm ret bytes mx h cells slots (pc + 1) L (.double z :: S) := by
  obtain ⟨hx, hby, hml, hown, hZ, hnm, hrt, hlk, T, locs, X, N, eT, st⟩ := K
  exact ⟨hx, hby, hml, hown, hZ, hnm, hrt, hlk, T, locs, X, N, eT, fun t kt => st t (XS.l2dS X.here hx rfl (hb hby hd) rfl hz kt)⟩
theorem Run.dadd {x y : UInt64} (z : UInt64) (K : Run C R Z n0 own nm ret bytes mx h cells slots pc L (.double y :: .double x :: S)) (hd : decode bytes pc = .ok (.dadd, 1)) (hn : Jvm.Free.Fl.NoNaN64 (FP.dadd x y)) (hz : FP.dadd x y = z) : Run C R Z n0 own nm ret bytes mx h cells slots (pc + 1) L (.double z :: S) := by
  obtain ⟨hx, hby, hml, hown, hZ, hnm, hrt, hlk, T, locs, X, N, eT, st⟩ := K
  exact ⟨hx, hby, hml, hown, hZ, hnm, hrt, hlk, T, locs, X, N, eT, fun t kt => st t (XS.daddS X.here hx rfl (hb hby hd) rfl hn hz kt)⟩
theorem Run.ddiv {x y : UInt64} (z : UInt64) (K : Run C R Z n0 own nm ret bytes mx h cells slots pc L (.double y :: .double x :: S)) (hd : decode bytes pc = .ok (.ddiv, 1)) (hn : Jvm.Free.Fl.NoNaN64 (FP.ddiv x y)) (hz : FP.ddiv x y = z) : Run C R Z n0 own nm ret bytes mx h cells slots (pc + 1) L (.double z :: S) := by
  obtain ⟨hx, hby, hml, hown, hZ, hnm, hrt, hlk, T, locs, X, N, eT, st⟩ := K
  exact ⟨hx, hby, hml, hown, hZ, hnm, hrt, hlk, T, locs, X, N, eT, fun t kt => st t (XS.ddivS X.here hx rfl (hb hby hd) rfl hn hz kt)⟩
theorem Run.dcmp {o : CmpOp} {x y : UInt64} (z : Int32) (K : Run C R Z n0 own nm ret bytes mx h cells slots pc L (.double y :: .double x :: S)) (hd : decode bytes pc = .ok (.dcmp o, 1)) (hz : cmpValue (FP.dcmp x y) o = z) : Run C R Z n0 own nm ret bytes mx h cells slots (pc + 1) L (.int z :: S) := by
  obtain ⟨hx, hby, hml, hown, hZ, hnm, hrt, hlk, T, locs, X, N, eT, st⟩ := K
  exact ⟨hx, hby, hml, hown, hZ, hnm, hrt, hlk, T, locs, X, N, eT, fun t kt => st t (XS.dcmpS X.here hx rfl (hb hby hd) rfl hz kt)⟩
theorem Run.foldI {w : Int32} (K : Run C R Z n0 own nm ret bytes mx h cells slots pc L (.int w :: S)) (z : Int32) (q : w = z) : Run C R Z n0 own nm ret bytes mx h cells slots pc L (.int z :: S) := q ▸ K
theorem Run.foldJ {w : Int64} (K : Run C R Z n0 own nm ret bytes mx h cells slots pc L (.long w :: S)) (z : Int64) (q : w = z) : Run C R Z n0 own nm ret bytes mx h cells slots pc L (.long z :: S) := q ▸ K
theorem Run.stk (K : Run C R Z n0 own nm ret bytes mx h cells slots pc L S) (S' : List Value) (q : S = S') : Run C R Z n0 own nm ret bytes mx h cells slots pc L S' := q ▸ K
theorem Run.loc (K : Run C R Z n0 own nm ret bytes mx h cells slots pc L S) (L' : Array Slot) (q : L = L') : Run C R Z n0 own nm ret bytes mx h cells slots pc L' S := q ▸ K
theorem Run.atpc (K : Run C R Z n0 own nm ret bytes mx h cells slots pc L S) (pc' : Nat) (q : pc = pc') : Run C R Z n0 own nm ret bytes mx h cells slots pc' L S := q ▸ K
theorem Run.ldcInt {a0 : Array Value} {index : Nat} {v : Int32} (K : Run C R Z n0 own nm ret bytes mx h cells slots pc L S) (hd : decode bytes pc = .ok (.ldc index, 2)) (w : (Jvm.Cond.constant own index v).before a0 Z = true) : Run C R Z n0 own nm ret bytes mx h cells slots (pc + 2) L (.int v :: S) := by
  obtain ⟨hx, hby, hml, hown, hZ, hnm, hrt, hlk, T, locs, X, N, eT, st⟩ := K
  exact ⟨hx, hby, hml, hown, hZ, hnm, hrt, hlk, T, locs, X, N, eT, fun t kt => st t (X.ldcInt hx hown (mvT hZ w) (g := mkF C.2.2.2.2.1 pc L S) rfl (hb hby hd) t kt)⟩
theorem Run.ldc2Long {a0 : Array Value} {index : Nat} {v : Int64} (K : Run C R Z n0 own nm ret bytes mx h cells slots pc L S) (hd : decode bytes pc = .ok (.ldc2_w index, 3)) (w : (Jvm.Cond.constantLong own index v).before a0 Z = true) : Run C R Z n0 own nm ret bytes mx h cells slots (pc + 3) L (.long v :: S) := by
  obtain ⟨hx, hby, hml, hown, hZ, hnm, hrt, hlk, T, locs, X, N, eT, st⟩ := K
  exact ⟨hx, hby, hml, hown, hZ, hnm, hrt, hlk, T, locs, X, N, eT, fun t kt => st t (X.ldc2Long hx hown (mvT hZ w) (g := mkF C.2.2.2.2.1 pc L S) rfl (hb hby hd) t kt)⟩
/-! returns -/
theorem Run.iret {z : Int32} {Q : Option Value → Heap → Prop} (K : Run C R Z n0 own nm ret bytes mx h cells slots pc L (.int z :: S)) (hd : decode bytes pc = .ok (.ireturn, 1)) {ty : FieldType} (hr : ret = some ty) (ht : ty = .int ∨ ty = .boolean ∨ ty = .byte ∨ ty = .char ∨ ty = .short) (hn : narrow ty (.int z) = .int z) (hQ : Q (some (.int z)) h) (hc : cells ≤ R.cells) (hs : slots ≤ R.slots) : Fini C R n0 Q := by
  obtain ⟨hx, hby, hml, hown, hZ, hnm, hrt, hlk, T, locs, X, N, eT, st⟩ := K
  obtain ⟨fs, hr', hrun, hended, hW, hsame⟩ := X.leave (v := some (.int z)) (fun q => by rw [hrt, hr] at q; cases q) hlk
  exact ⟨_, _, st _ (retOut X hx (hrt.trans hr) hn (Or.inl ⟨rfl, ht, _, rfl⟩) (hb hby hd) hr'), hrun, hended, _, _, rfl, ⟨by rw [show (T.setFrames fs).heap = T.heap from rfl, eT]; exact hQ, N⟩, ⟨_, rfl⟩, hW, hsame.mono hc hs⟩
theorem Run.lret {z : Int64} {Q : Option Value → Heap → Prop} (K : Run C R Z n0 own nm ret bytes mx h cells slots pc L (.long z :: S)) (hd : decode bytes pc = .ok (.lreturn, 1)) (hr : ret = some .long) (hQ : Q (some (.long z)) h) (hc : cells ≤ R.cells) (hs : slots ≤ R.slots) : Fini C R n0 Q := by
  obtain ⟨hx, hby, hml, hown, hZ, hnm, hrt, hlk, T, locs, X, N, eT, st⟩ := K
  obtain ⟨fs, hr', hrun, hended, hW, hsame⟩ := X.leave (v := some (.long z)) (fun q => by rw [hrt, hr] at q; cases q) hlk
  exact ⟨_, _, st _ (retOut X hx (hrt.trans hr) rfl (Or.inr (Or.inl ⟨rfl, rfl, _, rfl⟩)) (hb hby hd) hr'), hrun, hended, _, _, rfl, ⟨by rw [show (T.setFrames fs).heap = T.heap from rfl, eT]; exact hQ, N⟩, ⟨_, rfl⟩, hW, hsame.mono hc hs⟩
theorem Run.dret {z : UInt64} {Q : Option Value → Heap → Prop} (K : Run C R Z n0 own nm ret bytes mx h cells slots pc L (.double z :: S)) (hd : decode bytes pc = .ok (.dreturn, 1)) (hr : ret = some .double) (hQ : Q (some (.double z)) h) (hc : cells ≤ R.cells) (hs : slots ≤ R.slots) : Fini C R n0 Q := by
  obtain ⟨hx, hby, hml, hown, hZ, hnm, hrt, hlk, T, locs, X, N, eT, st⟩ := K
  obtain ⟨fs, hr', hrun, hended, hW, hsame⟩ := X.leave (v := some (.double z)) (fun q => by rw [hrt, hr] at q; cases q) hlk
  exact ⟨_, _, st _ (retOut X hx (hrt.trans hr) rfl (Or.inr (Or.inr (Or.inl ⟨rfl, rfl, _, rfl⟩))) (hb hby hd) hr'), hrun, hended, _, _, rfl, ⟨by rw [show (T.setFrames fs).heap = T.heap from rfl, eT]; exact hQ, N⟩, ⟨_, rfl⟩, hW, hsame.mono hc hs⟩
theorem Run.aret {w : Value} {Q : Option Value → Heap → Prop} (K : Run C R Z n0 own nm ret bytes mx h cells slots pc L (w :: S)) (hd : decode bytes pc = .ok (.areturn, 1)) {ty : FieldType} (hr : ret = some ty) (ht : ty.isReference = true) (hn : narrow ty w = w) (hw : w.isRef = true) (hQ : Q (some w) h) (hc : cells ≤ R.cells) (hs : slots ≤ R.slots) : Fini C R n0 Q := by
  obtain ⟨hx, hby, hml, hown, hZ, hnm, hrt, hlk, T, locs, X, N, eT, st⟩ := K
  obtain ⟨fs, hr', hrun, hended, hW, hsame⟩ := X.leave (v := some w) (fun q => by rw [hrt, hr] at q; cases q) hlk
  exact ⟨_, _, st _ (retOut X hx (hrt.trans hr) hn (Or.inr (Or.inr (Or.inr (Or.inr ⟨rfl, ht, hw⟩)))) (hb hby hd) hr'), hrun, hended, _, _, rfl, ⟨by rw [show (T.setFrames fs).heap = T.heap from rfl, eT]; exact hQ, N⟩, ⟨_, rfl⟩, hW, hsame.mono hc hs⟩
theorem Run.vret {Q : Option Value → Heap → Prop} (K : Run C R Z n0 own nm ret bytes mx h cells slots pc L []) (hd : decode bytes pc = .ok (.return_, 1)) (hr : ret = none) (hQ : Q none h) (hc : cells ≤ R.cells) (hs : slots ≤ R.slots) : Fini C R n0 Q := by
  obtain ⟨hx, hby, hml, hown, hZ, hnm, hrt, hlk, T, locs, X, N, eT, st⟩ := K
  obtain ⟨fs, hr', hrun, hended, hW, hsame⟩ := X.leave (v := none) (fun _ => rfl) hlk
  exact ⟨_, _, st _ (X.returnOut hx (hrt.trans hr) (hb hby hd) hr'), hrun, hended, _, _, rfl, ⟨by rw [show (T.setFrames fs).heap = T.heap from rfl, eT]; exact hQ, N⟩, ⟨_, rfl⟩, hW, hsame.mono hc hs⟩
/-! calls -/
theorem Run.callS {a0 : Array Value} {index : Nat} {y : MethodName} {by2 : ByteArray} {mx2 W : Nat} {rt2 : Option FieldType} {rm : Room} {argsL rest : List Value} {Q : Option Value → Heap → Prop} {ps : List FieldType} (K : Run C R Z n0 own nm ret bytes mx h cells slots pc L S) (hd : decode bytes pc = .ok (.invokestatic index, 3))
    (wl : (Jvm.Cond.methodLink own index y).before a0 Z = true) (wst : (Jvm.Cond.static y).before a0 Z = true) (wi : (Jvm.Cond.initialized y.cls).before a0 Z = true) (wc : (Jvm.Cond.code y by2 mx2 rt2).before a0 Z = true)
    (con : Con Z n0 y by2 mx2 rt2 [] rm argsL.toArray h Q) (hS : S = argsL.reverse ++ rest) (hpd : parseMethodDescriptor y.desc = some ⟨ps, rt2⟩) (hlen : argsL.length = ps.length) (hW : (rest.map fun v => v.category).sum = W) (hLs : L.size = mx)
    (hfr : rm.frames + 1 ≤ R.frames) (hlo : W + (mx2 + 11) + rm.locals ≤ R.locals) (hce : cells + rm.cells ≤ R.cells) (hsl : slots + rm.slots ≤ R.slots) (hy : y.cls ≠ "java/lang/invoke/MethodHandle" ∧ y.cls ≠ "java/lang/invoke/VarHandle") :
    ∃ v h', Q v h' ∧ Run C R Z n0 own nm ret bytes mx h' (cells + rm.cells) (slots + rm.slots) (pc + 3) L (v.toList ++ rest) := by
  obtain ⟨hx, hby, hml, hown, hZ, hnm, hrt, hlk, T, locs, X, N, eT, st⟩ := K
  obtain ⟨v, _, ⟨T', L', k', n'⟩, -, X', ⟨Lc, hQ, l1, y1, z1⟩, st'⟩ := Jvm.LawKit.callS X hx (y := y) hown (mvT hZ wl) (mvT hZ wst) (mvT hZ wi) (mvT hZ wc) hy (backOf (Q := fun v h L => Q v h ∧ Fr n0 L) (W := W) (con C.2.1) hZ wc wi hfr hlo) (g := mkF C.2.2.2.2.1 pc L S) rfl (by rw [hml]; exact hLs) (argsL := argsL) (rest := rest) (lenOf hpd hlen) hS (by show 2 * 0 + _ ≤ _; omega) (hb hby hd) (fun _ _ => ⟨rfl, eT, hce, hsl⟩)
  dsimp only [Pt.U, Pt.locs, Pt.cells, Pt.slots] at X' l1 y1 z1 st' hQ
  subst l1 y1 z1
  exact ⟨v, T'.heap, hQ.1, hx, hby, hml, hown, hZ, hnm, hrt, hlk, T', _, X', Fr.app N hQ.2, rfl, fun t kt => st t (st' t kt)⟩
theorem Run.callI {a0 : Array Value} {index : Nat} {y : MethodName} {by2 : ByteArray} {mx2 W : Nat} {rm : Room} {a : Addr} {argsL rest : List Value} {Q : Option Value → Heap → Prop} {ps : List FieldType} (K : Run C R Z n0 own nm ret bytes mx h cells slots pc L S) (hd : decode bytes pc = .ok (.invokespecial index, 3))
    (hy1 : y.name = "<init>") (wl : (Jvm.Cond.methodLink own index y).before a0 Z = true) (wst : (Jvm.Cond.instanceMethod y).before a0 Z = true) (wi : (Jvm.Cond.initialized y.cls).before a0 Z = true) (wc : (Jvm.Cond.code y by2 mx2 none).before a0 Z = true)
    (con : Con Z n0 y by2 mx2 none [] rm (.ref a :: argsL).toArray h Q) (hS : S = argsL.reverse ++ .ref a :: rest) (hpd : parseMethodDescriptor y.desc = some ⟨ps, none⟩) (hlen : argsL.length = ps.length) (hW : (rest.map fun v => v.category).sum = W) (hLs : L.size = mx)
    (hfr : rm.frames + 1 ≤ R.frames) (hlo : W + (mx2 + 11) + rm.locals ≤ R.locals) (hce : cells + rm.cells ≤ R.cells) (hsl : slots + rm.slots ≤ R.slots) (hy : y.cls ≠ "java/lang/invoke/MethodHandle" ∧ y.cls ≠ "java/lang/invoke/VarHandle") :
    ∃ v h', Q v h' ∧ Run C R Z n0 own nm ret bytes mx h' (cells + rm.cells) (slots + rm.slots) (pc + 3) L (v.toList ++ rest) := by
  obtain ⟨hx, hby, hml, hown, hZ, hnm, hrt, hlk, T, locs, X, N, eT, st⟩ := K
  obtain ⟨v, _, ⟨T', L', k', n'⟩, -, X', ⟨Lc, hQ, l1, y1, z1⟩, st'⟩ := X.specialBack hx (y := y) hy1 hown (mvT hZ wl) (mvT hZ wst) (mvT hZ wc) hy (backOf (Q := fun v h L => Q v h ∧ Fr n0 L) (W := W) (con C.2.1) hZ wc wi hfr hlo) (g := mkF C.2.2.2.2.1 pc L S) rfl (by rw [hml]; exact hLs) (Steps.refl _) (a := a) (argsL := argsL) (rest := rest) (lenOf hpd hlen) hS (by show 2 * 0 + _ ≤ _; omega) (hb hby hd) (fun _ _ => ⟨rfl, eT, hce, hsl⟩)
  dsimp only [Pt.U, Pt.locs, Pt.cells, Pt.slots] at X' l1 y1 z1 st' hQ
  subst l1 y1 z1
  exact ⟨v, T'.heap, hQ.1, hx, hby, hml, hown, hZ, hnm, hrt, hlk, T', _, X', Fr.app N hQ.2, rfl, fun t kt => st t (st'.trans kt)⟩
theorem Run.callV {a0 : Array Value} {index : Nat} {y z : MethodName} {Cl : String} {by2 : ByteArray} {mx2 W : Nat} {rt2 : Option FieldType} {rm : Room} {a : Addr} {argsL rest : List Value} {Q : Option Value → Heap → Prop} {ps : List FieldType} (K : Run C R Z n0 own nm ret bytes mx h cells slots pc L S) (hd : decode bytes pc = .ok (.invokevirtual index, 3))
    (wl : (Jvm.Cond.methodLink own index y).before a0 Z = true) (wd : (Jvm.Cond.declares y).before a0 Z = true) (nf : ∀ s : State, Z.Warmed39 s.vm → NotFace s y) (ws : (Jvm.Cond.selects Cl y z).before a0 Z = true) (wst : (Jvm.Cond.instanceMethod z).before a0 Z = true) (wi : (Jvm.Cond.initialized z.cls).before a0 Z = true) (wc : (Jvm.Cond.code z by2 mx2 rt2).before a0 Z = true)
    (E : Exa Z h a Cl) (con : Con Z n0 z by2 mx2 rt2 [] rm (.ref a :: argsL).toArray h Q) (hS : S = argsL.reverse ++ .ref a :: rest) (hpd : parseMethodDescriptor y.desc = some ⟨ps, rt2⟩) (hlen : argsL.length = ps.length) (hW : (rest.map fun v => v.category).sum = W) (hLs : L.size = mx)
    (hfr : rm.frames + 1 ≤ R.frames) (hlo : W + (mx2 + 11) + rm.locals ≤ R.locals) (hce : cells + rm.cells ≤ R.cells) (hsl : slots + rm.slots ≤ R.slots) (hy : y.cls ≠ "java/lang/invoke/MethodHandle" ∧ y.cls ≠ "java/lang/invoke/VarHandle") :
    ∃ v h', Q v h' ∧ Run C R Z n0 own nm ret bytes mx h' (cells + rm.cells) (slots + rm.slots) (pc + 3) L (v.toList ++ rest) := by
  obtain ⟨hx, hby, hml, hown, hZ, hnm, hrt, hlk, T, locs, X, N, eT, st⟩ := K
  obtain ⟨cq, kq, qa, qb, qc⟩ := isOf hZ eT E
  obtain ⟨v, _, ⟨T', L', k', n'⟩, -, X', ⟨Lc, hQ, l1, y1, z1⟩, st'⟩ := X.virtualBack hx (y := y) (z := z) hown (mvT hZ wl) (mvT hZ wd) (nf _ hZ) (mvT hZ ws) (mvT hZ wst) hy (backOf (Q := fun v h L => Q v h ∧ Fr n0 L) (W := W) (con C.2.1) hZ wc wi hfr hlo) qa qc (g := mkF C.2.2.2.2.1 pc L S) rfl (by rw [hml]; exact hLs) (Steps.refl _) (argsL := argsL) (rest := rest) (lenOf hpd hlen) hS (by show 2 * 0 + _ ≤ _; omega) (hb hby hd) (fun _ _ => ⟨rfl, eT, hce, hsl⟩)
  dsimp only [Pt.U, Pt.locs, Pt.cells, Pt.slots] at X' l1 y1 z1 st' hQ
  subst l1 y1 z1
  exact ⟨v, T'.heap, hQ.1, hx, hby, hml, hown, hZ, hnm, hrt, hlk, T', _, X', Fr.app N hQ.2, rfl, fun t kt => st t (st'.trans kt)⟩
/-! fields, statics, objects -/
theorem Run.getF {a0 : Array Value} {index : Nat} {R0 O n d host : String} {a : Addr} {v : Value} (K : Run C R Z n0 own nm ret bytes mx h cells slots pc L (.ref a :: S)) (hd : decode bytes pc = .ok (.getfield index, 3)) (w : (Jvm.Cond.fieldLink own index R0 n d).before a0 Z = true ∨ (Jvm.Cond.fieldLinkNest own index R0 n d host).before a0 Z = true) (via : Via Z R0 O n d) (F : Fld Z h a O n d v) :
    Run C R Z n0 own nm ret bytes mx h cells slots (pc + 3) L (v :: S) := by
  obtain ⟨hx, hby, hml, hown, hZ, hnm, hrt, hlk, T, locs, X, N, eT, st⟩ := K
  obtain ⟨T', X', e', st'⟩ := RoadKit.getF X hx hZ hown w via eT F (g := mkF C.2.2.2.2.1 pc L (.ref a :: S)) rfl rfl (hb hby hd)
  exact ⟨hx, hby, hml, hown, hZ, hnm, hrt, hlk, T', locs, X', N, e', fun t kt => st t (st' t kt)⟩
theorem Run.getS {a0 : Array Value} {index : Nat} {R0 O n d host : String} {v : Value} (K : Run C R Z n0 own nm ret bytes mx h cells slots pc L S) (hd : decode bytes pc = .ok (.getstatic index, 3)) (w : (Jvm.Cond.fieldLink own index R0 n d).before a0 Z = true ∨ (Jvm.Cond.fieldLinkNest own index R0 n d host).before a0 Z = true) (via : Via Z R0 O n d) (F : Sta Z h O n d v) :
    Run C R Z n0 own nm ret bytes mx h cells slots (pc + 3) L (v :: S) := by
  obtain ⟨hx, hby, hml, hown, hZ, hnm, hrt, hlk, T, locs, X, N, eT, st⟩ := K
  obtain ⟨T', X', e', st'⟩ := RoadKit.getS2 X hx hZ hown w via eT F (g := mkF C.2.2.2.2.1 pc L S) rfl (hb hby hd)
  exact ⟨hx, hby, hml, hown, hZ, hnm, hrt, hlk, T', locs, X', N, e', fun t kt => st t (st' t kt)⟩
theorem Run.putF {a0 : Array Value} {index kk : Nat} {R0 O n d host Cl : String} {ty : FieldType} {a : Addr} {v old : Value} (K : Run C R Z n0 own nm ret bytes mx h cells slots pc L (v :: .ref a :: S)) (hd : decode bytes pc = .ok (.putfield index, 3)) (w : (Jvm.Cond.fieldLink own index R0 n d).before a0 Z = true ∨ (Jvm.Cond.fieldLinkNest own index R0 n d host).before a0 Z = true) (via : Via Z R0 O n d)
    (F : Fld Z h a O n d old) (E : Exa Z h a Cl) (Lw : (Jvm.Cond.lays Cl O n d).before a0 Z = true ∨ ((Jvm.Cond.laysFinal Cl O n d).before a0 Z = true ∧ own = O ∧ nm = "<init>")) (wi : (Jvm.Cond.instantiable Cl kk).before a0 Z = true) (hty : parseFieldDescriptor d = some ty) (hn : narrow ty v = v) (hf : fits ty v = true) (ga : n0 ≤ a) :
    ∃ h', Wr h h' a (RoadKit.slotOf Z O n d) v ∧ Run C R Z n0 own nm ret bytes mx h' cells slots (pc + 3) L S := by
  obtain ⟨hx, hby, hml, hown, hZ, hnm, hrt, hlk, T, locs, X, N, eT, st⟩ := K
  obtain ⟨T', h', X', e', W', st'⟩ := RoadKit.putF X hx hZ hown w via eT F E (Lw.imp id fun q => ⟨q.1, q.2.1, hnm.trans q.2.2⟩) wi hty hn hf (g := mkF C.2.2.2.2.1 pc L (v :: .ref a :: S)) rfl rfl (hb hby hd)
  exact ⟨h', W', hx, hby, hml, hown, hZ, hnm, hrt, hlk, T', _, X', Fr.snoc X' N ga, e', fun t kt => st t (st' t kt)⟩
theorem Run.newO {a0 : Array Value} {index n : Nat} {Cl : String} (K : Run C R Z n0 own nm ret bytes mx h cells slots pc L S) (hd : decode bytes pc = .ok (.new index, 3)) (w : (Jvm.Cond.classLink own index Cl).before a0 Z = true) (wi : (Jvm.Cond.instantiable Cl n).before a0 Z = true) (wz : (Jvm.Cond.initialized Cl).before a0 Z = true) (hc : cells + 1 ≤ R.cells) (hl : slots + n ≤ R.slots) :
    ∃ (h' : Heap) (b : Addr), b = h.size ∧ Ext h h' ∧ Exa Z h' b Cl ∧ (∀ {O f d : String} {ty : FieldType}, Laid Z a0 Cl O f d → parseFieldDescriptor d = some ty → Fld Z h' b O f d (defaultValue ty)) ∧ Run C R Z n0 own nm ret bytes mx h' (cells + 1) (slots + n) (pc + 3) L (.ref b :: S) := by
  obtain ⟨hx, hby, hml, hown, hZ, hnm, hrt, hlk, T, locs, X, N, eT, st⟩ := K
  obtain ⟨T', h', X', e', E', A', D', -, st'⟩ := RoadKit.newO X hx hZ hown w wi wz eT (g := mkF C.2.2.2.2.1 pc L S) rfl (hb hby hd) hc hl
  exact ⟨h', _, rfl, E', A', D', hx, hby, hml, hown, hZ, hnm, hrt, hlk, T', _, X', N, e', fun t kt => st t (st' t kt)⟩
theorem Run.initO {a0 : Array Value} {index W : Nat} {a : Addr} (K : Run C R Z n0 own nm ret bytes mx h cells slots pc L (.ref a :: S)) (hd : decode bytes pc = .ok (.invokespecial index, 3)) (w1 : (Jvm.Cond.methodLink own index Lib.objectInit).before a0 Z = true) (w2 : (Jvm.Cond.instanceMethod Lib.objectInit).before a0 Z = true) (w3 : (Jvm.Cond.code Lib.objectInit ⟨#[0xb1]⟩ 1 none).before a0 Z = true) (hLs : L.size = mx) (hW : (S.map fun v => v.category).sum = W) (hf : 1 ≤ R.frames) (hl : W + 12 ≤ R.locals) :
    Run C R Z n0 own nm ret bytes mx h cells slots (pc + 3) L S := by
  obtain ⟨hx, hby, hml, hown, hZ, hnm, hrt, hlk, T, locs, X, N, eT, st⟩ := K
  obtain ⟨T', X', e', st'⟩ := RoadKit.initO X hx hZ hown w1 w2 w3 eT (g := mkF C.2.2.2.2.1 pc L (.ref a :: S)) rfl (by rw [hml]; exact hLs) rfl (hb hby hd) hf (W := W) (by show 2 * 0 + _ ≤ _; omega) hl
  exact ⟨hx, hby, hml, hown, hZ, hnm, hrt, hlk, T', locs, X', N, e', fun t kt => st t (st' t kt)⟩
theorem Run.castY {a0 : Array Value} {index : Nat} {Kl : String} {a : Addr} (K : Run C R Z n0 own nm ret bytes mx h cells slots pc L (.ref a :: S)) (hd : decode bytes pc = .ok (.checkcast index, 3)) (w : (Jvm.Cond.classLink own index Kl).before a0 Z = true) (F : Ins Z h a Kl true) : Run C R Z n0 own nm ret bytes mx h cells slots (pc + 3) L (.ref a :: S) := by
  obtain ⟨hx, hby, hml, hown, hZ, hnm, hrt, hlk, T, locs, X, N, eT, st⟩ := K
  obtain ⟨T', X', e', st'⟩ := RoadKit.castY X hx hZ hown w eT F (g := mkF C.2.2.2.2.1 pc L (.ref a :: S)) rfl rfl (hb hby hd)
  exact ⟨hx, hby, hml, hown, hZ, hnm, hrt, hlk, T', locs, X', N, e', fun t kt => st t (st' t kt)⟩
/-! arrays, by a function of the place -/
theorem Run.arrlen {a : Addr} {ty : FieldType} {n : Nat} {f : Nat → Value} (K : Run C R Z n0 own nm ret bytes mx h cells slots pc L (.ref a :: S)) (hd : decode bytes pc = .ok (.arraylength, 1)) (F : Arf Z h a ty n f) (z : Int32) (hz : n.toInt32 = z) : Run C R Z n0 own nm ret bytes mx h cells slots (pc + 1) L (.int z :: S) := by
  obtain ⟨hx, hby, hml, hown, hZ, hnm, hrt, hlk, T, locs, X, N, eT, st⟩ := K
  obtain ⟨cl, Ar, Sz, H⟩ := F
  subst hz Sz
  exact ⟨hx, hby, hml, hown, hZ, hnm, hrt, hlk, T, locs, X, N, eT, fun t kt => st t (X.arraylength hx (by rw [eT]; exact Ar.1) (State.isArrayOf_alike hZ.alike Ar.2.1) (g := mkF C.2.2.2.2.1 pc L (.ref a :: S)) rfl rfl (hb hby hd) t kt)⟩
theorem Run.iaload {a : Addr} {n : Nat} {f : Nat → Value} {j : Int32} (K : Run C R Z n0 own nm ret bytes mx h cells slots pc L (.int j :: .ref a :: S)) (hd : decode bytes pc = .ok (.iaload, 1)) (F : Arf Z h a .int n f) (i : Nat) (hj : j.toNatClampNeg = i) (h0 : ¬ j < 0) (hi : i < n) (v : Value) (hv : f i = v) : Run C R Z n0 own nm ret bytes mx h cells slots (pc + 1) L (v :: S) := by
  obtain ⟨hx, hby, hml, hown, hZ, hnm, hrt, hlk, T, locs, X, N, eT, st⟩ := K
  obtain ⟨cl, Ar, Sz, H⟩ := F
  subst hj hv Sz
  exact ⟨hx, hby, hml, hown, hZ, hnm, hrt, hlk, T, locs, X, N, eT, fun t kt => st t (X.iaload hx (j := j) (v := f j.toNatClampNeg) (by rw [eT]; exact Ar.1) (State.isArrayOf_alike hZ.alike Ar.2.1) Ar.2.2 (fun q => q.elim h0 (Nat.not_le.mpr hi)) (H _ hi) (g := mkF C.2.2.2.2.1 pc L (.int j :: .ref a :: S)) rfl rfl (hb hby hd) t kt)⟩
theorem Run.baload {a : Addr} {n : Nat} {f : Nat → Value} {j : Int32} (K : Run C R Z n0 own nm ret bytes mx h cells slots pc L (.int j :: .ref a :: S)) (hd : decode bytes pc = .ok (.baload, 1)) (F : Arf Z h a .byte n f) (i : Nat) (hj : j.toNatClampNeg = i) (h0 : ¬ j < 0) (hi : i < n) (v : Value) (hv : f i = v) : Run C R Z n0 own nm ret bytes mx h cells slots (pc + 1) L (v :: S) := by
  obtain ⟨hx, hby, hml, hown, hZ, hnm, hrt, hlk, T, locs, X, N, eT, st⟩ := K
  obtain ⟨cl, Ar, Sz, H⟩ := F
  subst hj hv Sz
  exact ⟨hx, hby, hml, hown, hZ, hnm, hrt, hlk, T, locs, X, N, eT, fun t kt => st t (X.baloadBytes hx (j := j) (v := f j.toNatClampNeg) (by rw [eT]; exact Ar.1) (State.isArrayOf_alike hZ.alike Ar.2.1) Ar.2.2 (fun q => q.elim h0 (Nat.not_le.mpr hi)) (H _ hi) (g := mkF C.2.2.2.2.1 pc L (.int j :: .ref a :: S)) rfl rfl (hb hby hd) t kt)⟩
theorem Run.aaload {a : Addr} {ty : FieldType} {n : Nat} {f : Nat → Value} {j : Int32} (K : Run C R Z n0 own nm ret bytes mx h cells slots pc L (.int j :: .ref a :: S)) (hd : decode bytes pc = .ok (.aaload, 1)) (F : Arf Z h a ty n f) (hty : ty.isReference = true) (i : Nat) (hj : j.toNatClampNeg = i) (h0 : ¬ j < 0) (hi : i < n) (v : Value) (hv : f i = v) : Run C R Z n0 own nm ret bytes mx h cells slots (pc + 1) L (v :: S) := by
  obtain ⟨hx, hby, hml, hown, hZ, hnm, hrt, hlk, T, locs, X, N, eT, st⟩ := K
  obtain ⟨cl, Ar, Sz, H⟩ := F
  subst hj hv Sz
  exact ⟨hx, hby, hml, hown, hZ, hnm, hrt, hlk, T, locs, X, N, eT, fun t kt => st t (X.aaload hx (j := j) (v := f j.toNatClampNeg) (by rw [eT]; exact Ar.1) (State.isArrayOf_alike hZ.alike Ar.2.1) hty Ar.2.2 (fun q => q.elim h0 (Nat.not_le.mpr hi)) (H _ hi) (g := mkF C.2.2.2.2.1 pc L (.int j :: .ref a :: S)) rfl rfl (hb hby hd) t kt)⟩
theorem Run.iastore {a : Addr} {n : Nat} {f : Nat → Value} {j x : Int32} (K : Run C R Z n0 own nm ret bytes mx h cells slots pc L (.int x :: .int j :: .ref a :: S)) (hd : decode bytes pc = .ok (.iastore, 1)) (F : Arf Z h a .int n f) (i : Nat) (hj : j.toNatClampNeg = i) (h0 : ¬ j < 0) (hi : i < n) (ga : n0 ≤ a) :
    ∃ h', Wr h h' a i (.int x) ∧ Arf Z h' a .int n (updV f i (.int x)) ∧ Run C R Z n0 own nm ret bytes mx h' cells slots (pc + 1) L S := by
  obtain ⟨hx, hby, hml, hown, hZ, hnm, hrt, hlk, T, locs, X, N, eT, st⟩ := K
  obtain ⟨cl, Ar, Sz, H⟩ := F
  subst hj Sz
  obtain ⟨T', h', X', e', W', st'⟩ := RoadKit.stI X hx hZ eT Ar (j := j) (x := x) (fun q => q.elim h0 (Nat.not_le.mpr hi)) (g := mkF C.2.2.2.2.1 pc L (.int x :: .int j :: .ref a :: S)) rfl rfl (hb hby hd)
  exact ⟨h', W', Arf.set ⟨cl, Ar, rfl, H⟩ W' hi, hx, hby, hml, hown, hZ, hnm, hrt, hlk, T', _, X', Fr.snoc X' N ga, e', fun t kt => st t (st' t kt)⟩
theorem Run.bastore {a : Addr} {n : Nat} {f : Nat → Value} {j x : Int32} (K : Run C R Z n0 own nm ret bytes mx h cells slots pc L (.int x :: .int j :: .ref a :: S)) (hd : decode bytes pc = .ok (.bastore, 1)) (F : Arf Z h a .byte n f) (i : Nat) (hj : j.toNatClampNeg = i) (h0 : ¬ j < 0) (hi : i < n) (ga : n0 ≤ a) (x' : Int32) (hx' : x.toInt8.toInt32 = x') :
    ∃ h', Wr h h' a i (.int x') ∧ Arf Z h' a .byte n (updV f i (.int x')) ∧ Run C R Z n0 own nm ret bytes mx h' cells slots (pc + 1) L S := by
  obtain ⟨hx, hby, hml, hown, hZ, hnm, hrt, hlk, T, locs, X, N, eT, st⟩ := K
  obtain ⟨cl, Ar, Sz, H⟩ := F
  subst hj Sz hx'
  obtain ⟨T', h', X', e', W', st'⟩ := RoadKit.stB X hx hZ eT Ar (j := j) (x := x) (fun q => q.elim h0 (Nat.not_le.mpr hi)) (g := mkF C.2.2.2.2.1 pc L (.int x :: .int j :: .ref a :: S)) rfl rfl (hb hby hd)
  exact ⟨h', W', Arf.set ⟨cl, Ar, rfl, H⟩ W' hi, hx, hby, hml, hown, hZ, hnm, hrt, hlk, T', _, X', Fr.snoc X' N ga, e', fun t kt => st t (st' t kt)⟩
theorem Run.caload {a : Addr} {n : Nat} {f : Nat → Value} {j : Int32} (K : Run C R Z n0 own nm ret bytes mx h cells slots pc L (.int j :: .ref a :: S)) (hd : decode bytes pc = .ok (.caload, 1)) (F : Arf Z h a .char n f) (i : Nat) (hj : j.toNatClampNeg = i) (h0 : ¬ j < 0) (hi : i < n) (v : Value) (hv : f i = v) : Run C R Z n0 own nm ret bytes mx h cells slots (pc + 1) L (v :: S) := by
  obtain ⟨hx, hby, hml, hown, hZ, hnm, hrt, hlk, T, locs, X, N, eT, st⟩ := K
  obtain ⟨cl, Ar, Sz, H⟩ := F
  subst hj hv Sz
  exact ⟨hx, hby, hml, hown, hZ, hnm, hrt, hlk, T, locs, X, N, eT, fun t kt => st t (X.caload hx (j := j) (v := f j.toNatClampNeg) (by rw [eT]; exact Ar.1) (State.isArrayOf_alike hZ.alike Ar.2.1) Ar.2.2 (fun q => q.elim h0 (Nat.not_le.mpr hi)) (H _ hi) (g := mkF C.2.2.2.2.1 pc L (.int j :: .ref a :: S)) rfl rfl (hb hby hd) t kt)⟩
theorem Run.daload {a : Addr} {n : Nat} {f : Nat → Value} {j : Int32} (K : Run C R Z n0 own nm ret bytes mx h cells slots pc L (.int j :: .ref a :: S)) (hd : decode bytes pc = .ok (.daload, 1)) (F : Arf Z h a .double n f) (i : Nat) (hj : j.toNatClampNeg = i) (h0 : ¬ j < 0) (hi : i < n) (v : Value) (hv : f i = v) : Run C R Z n0 own nm ret bytes mx h cells slots (pc + 1) L (v :: S) := by
  obtain ⟨hx, hby, hml, hown, hZ, hnm, hrt, hlk, T, locs, X, N, eT, st⟩ := K
  obtain ⟨cl, Ar, Sz, H⟩ := F
  subst hj hv Sz
  exact ⟨hx, hby, hml, hown, hZ, hnm, hrt, hlk, T, locs, X, N, eT, fun t kt => st t (X.daload hx (j := j) (v := f j.toNatClampNeg) (by rw [eT]; exact Ar.1) (State.isArrayOf_alike hZ.alike Ar.2.1) Ar.2.2 (fun q => q.elim h0 (Nat.not_le.mpr hi)) (H _ hi) (g := mkF C.2.2.2.2.1 pc L (.int j :: .ref a :: S)) rfl rfl (hb hby hd) t kt)⟩
theorem Run.castore {a : Addr} {n : Nat} {f : Nat → Value} {j x : Int32} (K : Run C R Z n0 own nm ret bytes mx h cells slots pc L (.int x :: .int j :: .ref a :: S)) (hd : decode bytes pc = .ok (.castore, 1)) (F : Arf Z h a .char n f) (i : Nat) (hj : j.toNatClampNeg = i) (h0 : ¬ j < 0) (hi : i < n) (ga : n0 ≤ a) (x' : Int32) (hx' : x.toUInt32.toUInt16.toUInt32.toInt32 = x') :
    ∃ h', Wr h h' a i (.int x') ∧ Arf Z h' a .char n (updV f i (.int x')) ∧ Run C R Z n0 own nm ret bytes mx h' cells slots (pc + 1) L S := by
  obtain ⟨hx, hby, hml, hown, hZ, hnm, hrt, hlk, T, locs, X, N, eT, st⟩ := K
  obtain ⟨cl, Ar, Sz, H⟩ := F
  subst hj Sz hx'
  obtain ⟨T', h', X', e', W', st'⟩ := RoadKit.stC X hx hZ eT Ar (j := j) (x := x) (fun q => q.elim h0 (Nat.not_le.mpr hi)) (g := mkF C.2.2.2.2.1 pc L (.int x :: .int j :: .ref a :: S)) rfl rfl (hb hby hd)
  exact ⟨h', W', Arf.set ⟨cl, Ar, rfl, H⟩ W' hi, hx, hby, hml, hown, hZ, hnm, hrt, hlk, T', _, X', Fr.snoc X' N ga, e', fun t kt => st t (st' t kt)⟩
theorem Run.dastore {a : Addr} {n : Nat} {f : Nat → Value} {j : Int32} {x : UInt64} (K : Run C R Z n0 own nm ret bytes mx h cells slots pc L (.double x :: .int j :: .ref a :: S)) (hd : decode bytes pc = .ok (.dastore, 1)) (F : Arf Z h a .double n f) (i : Nat) (hj : j.toNatClampNeg = i) (h0 : ¬ j < 0) (hi : i < n) (ga : n0 ≤ a) :
    ∃ h', Wr h h' a i (.double x) ∧ Arf Z h' a .double n (updV f i (.double x)) ∧ Run C R Z n0 own nm ret bytes mx h' cells slots (pc + 1) L S := by
  obtain ⟨hx, hby, hml, hown, hZ, hnm, hrt, hlk, T, locs, X, N, eT, st⟩ := K
  obtain ⟨cl, Ar, Sz, H⟩ := F
  subst hj Sz
  obtain ⟨T', h', X', e', W', st'⟩ := RoadKit.stD X hx hZ eT Ar (j := j) (x := x) (fun q => q.elim h0 (Nat.not_le.mpr hi)) (g := mkF C.2.2.2.2.1 pc L (.double x :: .int j :: .ref a :: S)) rfl rfl (hb hby hd)
  exact ⟨h', W', Arf.set ⟨cl, Ar, rfl, H⟩ W' hi, hx, hby, hml, hown, hZ, hnm, hrt, hlk, T', _, X', Fr.snoc X' N ga, e', fun t kt => st t (st' t kt)⟩
theorem Run.newarr {a0 : Array Value} {aty : ArrayType} {n : Int32} {ad : String} (K : Run C R Z n0 own nm ret bytes mx h cells slots pc L (.int n :: S)) (hd : decode bytes pc = .ok (.newarray aty, 2)) (w : (Jvm.Cond.arrayClass (newarray.typeOf aty)).before a0 Z = true) (hn : ¬ n < 0) (z : Nat) (hz : n.toNatClampNeg = z) (cap : Nat) (hcap : z ≤ cap) (hb8 : cap * 8 ≤ 536870912) (hc : cells + 1 ≤ R.cells) (hl : slots + cap ≤ R.slots) (had : "[" ++ (newarray.typeOf aty).toString = ad) :
    ∃ (h' : Heap) (b : Addr), b = h.size ∧ Ext h h' ∧ Arf Z h' b (newarray.typeOf aty) z (fun _ => defaultValue (newarray.typeOf aty)) ∧ Exa Z h' b ad ∧ Run C R Z n0 own nm ret bytes mx h' (cells + 1) (slots + cap) (pc + 2) L (.ref b :: S) := by
  obtain ⟨hx, hby, hml, hown, hZ, hnm, hrt, hlk, T, locs, X, N, eT, st⟩ := K
  subst hz
  obtain ⟨T', h', cA, X', e', E', A', Ex', st'⟩ := RoadKit.newPE X hx hZ w eT (g := mkF C.2.2.2.2.1 pc L (.int n :: S)) rfl (hb hby hd) rfl hn hcap hb8 hc hl had
  exact ⟨h', _, rfl, E', ⟨_, A', sz_new _ _ _, fun i hi => by simp [newA, hi]⟩, Ex', hx, hby, hml, hown, hZ, hnm, hrt, hlk, T', _, X', N, e', fun t kt => st t (st' t kt)⟩
theorem Run.clone {a0 : Array Value} {index W : Nat} {ad : String} {a : Addr} {ty : FieldType} {n : Nat} {f : Nat → Value} (K : Run C R Z n0 own nm ret bytes mx h cells slots pc L (.ref a :: S)) (hd : decode bytes pc = .ok (.invokevirtual index, 3))
    (w1 : (Jvm.Cond.methodLink own index ⟨ad, "clone", "()Ljava/lang/Object;"⟩).before a0 Z = true) (w2 : (Jvm.Cond.sameMethod ad "java/lang/Object" "clone" "()Ljava/lang/Object;").before a0 Z = true) (w3 : (Jvm.Cond.native ⟨"java/lang/Object", "clone", "()Ljava/lang/Object;"⟩).before a0 Z = true)
    (w4 : (Jvm.Cond.instanceMethod ⟨"java/lang/Object", "clone", "()Ljava/lang/Object;"⟩).before a0 Z = true) (w5 : (Jvm.Cond.selects ad ⟨ad, "clone", "()Ljava/lang/Object;"⟩ ⟨"java/lang/Object", "clone", "()Ljava/lang/Object;"⟩).before a0 Z = true) (w6 : (Jvm.Cond.castable ad "java/lang/Cloneable").before a0 Z = true)
    (F : Arf Z h a ty n f) (hfit : ∀ i, i < n → fits ty (f i) = true) (E : Exa Z h a ad) (cap : Nat) (hcap : n ≤ cap) (hW : (S.map fun v => v.category).sum = W) (hLs : L.size = mx) (hf : 1 ≤ R.frames) (hl : W + 14 ≤ R.locals) (hc : cells + 1 ≤ R.cells) (hsl : slots + cap ≤ R.slots) :
    ∃ (h' : Heap) (b : Addr), b = h.size ∧ Ext h h' ∧ Arf Z h' b ty n f ∧ Exa Z h' b ad ∧ Run C R Z n0 own nm ret bytes mx h' (cells + 1) (slots + cap) (pc + 3) L (.ref b :: S) := by
  obtain ⟨hx, hby, hml, hown, hZ, hnm, hrt, hlk, T, locs, X, N, eT, st⟩ := K
  obtain ⟨cl, Ar, Sz, H⟩ := F
  subst Sz
  have FC : FitC Z cl := fitC_of Ar fun i hi v hv => by rw [H i hi] at hv; cases hv; exact hfit i hi
  obtain ⟨T', h', X', e', ex, A', E', st'⟩ := cloneA X hx hZ hown w1 w2 w3 w4 w5 w6 eT Ar E FC (g := mkF C.2.2.2.2.1 pc L (.ref a :: S)) rfl (by rw [hml]; exact hLs) rfl (hb hby hd) hf (W := W) (cap := cap) (by show 2 * 0 + _ ≤ _; omega) hl hcap hc hsl
  exact ⟨h', _, rfl, ex, ⟨cloneOf cl, A', rfl, H⟩, E', hx, hby, hml, hown, hZ, hnm, hrt, hlk, T', _, X', N, e', fun t kt => st t (st' t kt)⟩
theorem Run.instY {a0 : Array Value} {index : Nat} {Kl : String} {a : Addr} (K : Run C R Z n0 own nm ret bytes mx h cells slots pc L (.ref a :: S)) (hd : decode bytes pc = .ok (.instanceof index, 3)) (w : (Jvm.Cond.classLink own index Kl).before a0 Z = true) (F : Ins Z h a Kl true) : Run C R Z n0 own nm ret bytes mx h cells slots (pc + 3) L (.int (1 : Int32) :: S) := by
  obtain ⟨hx, hby, hml, hown, hZ, hnm, hrt, hlk, T, locs, X, N, eT, st⟩ := K
  obtain ⟨T', X', e', st'⟩ := RoadKit.instY X hx hZ hown w eT F (g := mkF C.2.2.2.2.1 pc L (.ref a :: S)) rfl rfl (hb hby hd)
  exact ⟨hx, hby, hml, hown, hZ, hnm, hrt, hlk, T', locs, X', N, e', fun t kt => st t (st' t kt)⟩
theorem Run.castNull {index : Nat} (K : Run C R Z n0 own nm ret bytes mx h cells slots pc L (.null :: S)) (hd : decode bytes pc = .ok (.checkcast index, 3)) : Run C R Z n0 own nm ret bytes mx h cells slots (pc + 3) L (.null :: S) := by
  obtain ⟨hx, hby, hml, hown, hZ, hnm, hrt, hlk, T, locs, X, N, eT, st⟩ := K
  exact ⟨hx, hby, hml, hown, hZ, hnm, hrt, hlk, T, locs, X, N, eT, fun t kt => st t (X.checkcastNull hx (g := mkF C.2.2.2.2.1 pc L (.null :: S)) rfl rfl (hb hby hd) t kt)⟩
theorem Run.lswHit {x : Int32} {dflt : Int} {pairs : Array (Int × Int)} {len : Nat} {b off : Int} {pc' : Nat} (K : Run C R Z n0 own nm ret bytes mx h cells slots pc L (.int x :: S)) (hd : decode bytes pc = .ok (.lookupswitch dflt pairs, len)) (hsorted : (pairs.toList.zip (pairs.toList.drop 1)).all (fun (a, next) => a.1 < next.1) = true) (hfind : pairs.find? (·.1 == x.toInt) = some (b, off)) (ho : 0 ≤ (pc : Int) + off) (hp : ((pc : Int) + off).toNat = pc') : Run C R Z n0 own nm ret bytes mx h cells slots pc' L S := by
  obtain ⟨hx, hby, hml, hown, hZ, hnm, hrt, hlk, T, locs, X, N, eT, st⟩ := K
  subst hp
  exact ⟨hx, hby, hml, hown, hZ, hnm, hrt, hlk, T, locs, X, N, eT, fun t kt => st t (X.lookupswitchHit hx (g := mkF C.2.2.2.2.1 pc L (.int x :: S)) rfl rfl (hb hby hd) hsorted hfind ho t kt)⟩
theorem Run.lswMiss {x : Int32} {dflt : Int} {pairs : Array (Int × Int)} {len : Nat} {pc' : Nat} (K : Run C R Z n0 own nm ret bytes mx h cells slots pc L (.int x :: S)) (hd : decode bytes pc = .ok (.lookupswitch dflt pairs, len)) (hsorted : (pairs.toList.zip (pairs.toList.drop 1)).all (fun (a, next) => a.1 < next.1) = true) (hfind : ∀ p ∈ pairs.toList, p.1 ≠ x.toInt) (ho : 0 ≤ (pc : Int) + dflt) (hp : ((pc : Int) + dflt).toNat = pc') : Run C R Z n0 own nm ret bytes mx h cells slots pc' L S := by
  obtain ⟨hx, hby, hml, hown, hZ, hnm, hrt, hlk, T, locs, X, N, eT, st⟩ := K
  subst hp
  exact ⟨hx, hby, hml, hown, hZ, hnm, hrt, hlk, T, locs, X, N, eT, fun t kt => st t (X.lookupswitchMiss hx (g := mkF C.2.2.2.2.1 pc L (.int x :: S)) rfl rfl (hb hby hd) hsorted (find_miss hfind) ho t kt)⟩
end Steps
end Jvm.Own

namespace Jvm.Pilot.@@N@@
open Jvm Jvm.ClassFile Sem Op Lib Jvm.Free Jvm.Stand Jvm.LawKit Jvm.RoadKit Jvm.Own Bundle Jvm.Pilot.@@N@@.Jvm.D
theorem pd_0 : parseMethodDescriptor "(I)Lcom/example/tagvec/tagvec/cbor/MajorType;" = some ⟨[.int], some (.object "com/example/tagvec/tagvec/cbor/MajorType")⟩ := by decide +kernel
theorem pd_1 : parseMethodDescriptor "()I" = some ⟨[], some .int⟩ := by decide +kernel

section Narrow
variable {args : Array Value} {first s : State} {o : Option Outcome} {idx : List Nat} {t u : Term}
theorem own_eqv {n : Int32} (h : (Jvm.Cond.eq t (.int n)).value args first o s idx = some true) : t.eval args first o idx s = some (.int n) := by
  cases ht : t.eval args first o idx s with
  | none => simp [Cond.value, ht] at h
  | some x => cases x <;> simp [Cond.value, Term.int_eval, ht] at h ⊢; exact h
theorem own_ne0 {z n : Int32} (ev : t.eval args first o idx s = some (.int z)) (h : (Jvm.Cond.eq t (.int n)).value args first o s idx = some false) : ¬ (z = n) := by
  intro q; subst q
  simp [Cond.value, Term.int_eval, ev] at h
theorem own_eqr {b : Addr} (hu : u.eval args first o idx s = some (.ref b)) (h : (Jvm.Cond.eq t u).value args first o s idx = some true) : t.eval args first o idx s = some (.ref b) := by
  cases ht : t.eval args first o idx s with
  | none => simp [Cond.value, ht] at h
  | some x => cases x <;> simp [Cond.value, hu, ht] at h ⊢; exact h
theorem own_len {a : Addr} {cl : Cell} {ty : FieldType} {n : Int32} {k : Nat} (ev : t.eval args s none [] s = some (.ref a)) (A : Arr s s.heap a cl ty) (h : (Term.length t).eval args s none [] s = some (.int n)) (hk : n.toInt = (k : Int)) : cl.slots.size = k := by
  have q : s.arrayAt? a = some cl := A.fin (Vm.Alike.refl _)
  simp [Term.eval, ev, q] at h
  have r := len_toInt h.1
  rw [h.2, hk] at r
  omega
end Narrow
def own_exp (p1 : Int32) (a_UNSIGNED_INTEGER a_NEGATIVE_INTEGER a_BYTE_STRING a_TEXT_STRING a_ARRAY a_MAP a_TAG a_SIMPLE_OR_FLOAT : Addr) : Value := (if p1 = (0 : Int32) then (.ref a_UNSIGNED_INTEGER) else (if p1 = (1 : Int32) then (.ref a_NEGATIVE_INTEGER) else (if p1 = (2 : Int32) then (.ref a_BYTE_STRING) else (if p1 = (3 : Int32) then (.ref a_TEXT_STRING) else (if p1 = (4 : Int32) then (.ref a_ARRAY) else (if p1 = (5 : Int32) then (.ref a_MAP) else (if p1 = (6 : Int32) then (.ref a_TAG) else (.ref a_SIMPLE_OR_FLOAT))))))))
def own_arr (a_UNSIGNED_INTEGER a_NEGATIVE_INTEGER a_BYTE_STRING a_TEXT_STRING a_ARRAY a_MAP a_TAG a_SIMPLE_OR_FLOAT : Addr) (i : Nat) : Value := if i = 0 then .ref a_UNSIGNED_INTEGER else if i = 1 then .ref a_NEGATIVE_INTEGER else if i = 2 then .ref a_BYTE_STRING else if i = 3 then .ref a_TEXT_STRING else if i = 4 then .ref a_ARRAY else if i = 5 then .ref a_MAP else if i = 6 then .ref a_TAG else .ref a_SIMPLE_OR_FLOAT
theorem own_at0 (a_UNSIGNED_INTEGER a_NEGATIVE_INTEGER a_BYTE_STRING a_TEXT_STRING a_ARRAY a_MAP a_TAG a_SIMPLE_OR_FLOAT : Addr) : own_arr a_UNSIGNED_INTEGER a_NEGATIVE_INTEGER a_BYTE_STRING a_TEXT_STRING a_ARRAY a_MAP a_TAG a_SIMPLE_OR_FLOAT 0 = .ref a_UNSIGNED_INTEGER := rfl
theorem own_at1 (a_UNSIGNED_INTEGER a_NEGATIVE_INTEGER a_BYTE_STRING a_TEXT_STRING a_ARRAY a_MAP a_TAG a_SIMPLE_OR_FLOAT : Addr) : own_arr a_UNSIGNED_INTEGER a_NEGATIVE_INTEGER a_BYTE_STRING a_TEXT_STRING a_ARRAY a_MAP a_TAG a_SIMPLE_OR_FLOAT 1 = .ref a_NEGATIVE_INTEGER := rfl
theorem own_at2 (a_UNSIGNED_INTEGER a_NEGATIVE_INTEGER a_BYTE_STRING a_TEXT_STRING a_ARRAY a_MAP a_TAG a_SIMPLE_OR_FLOAT : Addr) : own_arr a_UNSIGNED_INTEGER a_NEGATIVE_INTEGER a_BYTE_STRING a_TEXT_STRING a_ARRAY a_MAP a_TAG a_SIMPLE_OR_FLOAT 2 = .ref a_BYTE_STRING := rfl
theorem own_at3 (a_UNSIGNED_INTEGER a_NEGATIVE_INTEGER a_BYTE_STRING a_TEXT_STRING a_ARRAY a_MAP a_TAG a_SIMPLE_OR_FLOAT : Addr) : own_arr a_UNSIGNED_INTEGER a_NEGATIVE_INTEGER a_BYTE_STRING a_TEXT_STRING a_ARRAY a_MAP a_TAG a_SIMPLE_OR_FLOAT 3 = .ref a_TEXT_STRING := rfl
theorem own_at4 (a_UNSIGNED_INTEGER a_NEGATIVE_INTEGER a_BYTE_STRING a_TEXT_STRING a_ARRAY a_MAP a_TAG a_SIMPLE_OR_FLOAT : Addr) : own_arr a_UNSIGNED_INTEGER a_NEGATIVE_INTEGER a_BYTE_STRING a_TEXT_STRING a_ARRAY a_MAP a_TAG a_SIMPLE_OR_FLOAT 4 = .ref a_ARRAY := rfl
theorem own_at5 (a_UNSIGNED_INTEGER a_NEGATIVE_INTEGER a_BYTE_STRING a_TEXT_STRING a_ARRAY a_MAP a_TAG a_SIMPLE_OR_FLOAT : Addr) : own_arr a_UNSIGNED_INTEGER a_NEGATIVE_INTEGER a_BYTE_STRING a_TEXT_STRING a_ARRAY a_MAP a_TAG a_SIMPLE_OR_FLOAT 5 = .ref a_MAP := rfl
theorem own_at6 (a_UNSIGNED_INTEGER a_NEGATIVE_INTEGER a_BYTE_STRING a_TEXT_STRING a_ARRAY a_MAP a_TAG a_SIMPLE_OR_FLOAT : Addr) : own_arr a_UNSIGNED_INTEGER a_NEGATIVE_INTEGER a_BYTE_STRING a_TEXT_STRING a_ARRAY a_MAP a_TAG a_SIMPLE_OR_FLOAT 6 = .ref a_TAG := rfl
theorem own_at7 (a_UNSIGNED_INTEGER a_NEGATIVE_INTEGER a_BYTE_STRING a_TEXT_STRING a_ARRAY a_MAP a_TAG a_SIMPLE_OR_FLOAT : Addr) : own_arr a_UNSIGNED_INTEGER a_NEGATIVE_INTEGER a_BYTE_STRING a_TEXT_STRING a_ARRAY a_MAP a_TAG a_SIMPLE_OR_FLOAT 7 = .ref a_SIMPLE_OR_FLOAT := rfl
theorem own_and7 (x : Int32) : (x &&& (7 : Int32)) = 0 ∨ (x &&& (7 : Int32)) = 1 ∨ (x &&& (7 : Int32)) = 2 ∨ (x &&& (7 : Int32)) = 3 ∨ (x &&& (7 : Int32)) = 4 ∨ (x &&& (7 : Int32)) = 5 ∨ (x &&& (7 : Int32)) = 6 ∨ (x &&& (7 : Int32)) = 7 := by
  have h1 := c_mask x 7 3 (by decide) (by decide)
  simp only [← Int32.toInt_inj]
  have e0 : (0 : Int32).toInt = 0 := by decide
  have e1 : (1 : Int32).toInt = 1 := by decide
  have e2 : (2 : Int32).toInt = 2 := by decide
  have e3 : (3 : Int32).toInt = 3 := by decide
  have e4 : (4 : Int32).toInt = 4 := by decide
  have e5 : (5 : Int32).toInt = 5 := by decide
  have e6 : (6 : Int32).toInt = 6 := by decide
  have e7 : (7 : Int32).toInt = 7 := by decide
  rw [e0, e1, e2, e3, e4, e5, e6, e7, h1]
  have p : (2 ^ 3 : Nat) = 8 := by decide
  rw [p]
  omega
theorem own_Af {Z : State} {h : Heap} {a : Addr} {cl : Cell} {ty : FieldType} {a_UNSIGNED_INTEGER a_NEGATIVE_INTEGER a_BYTE_STRING a_TEXT_STRING a_ARRAY a_MAP a_TAG a_SIMPLE_OR_FLOAT : Addr} (A : Arr Z h a cl ty) (S : cl.slots.size = 8) (q0 : cl.slots[0]? = some (.ref a_UNSIGNED_INTEGER)) (q1 : cl.slots[1]? = some (.ref a_NEGATIVE_INTEGER)) (q2 : cl.slots[2]? = some (.ref a_BYTE_STRING)) (q3 : cl.slots[3]? = some (.ref a_TEXT_STRING)) (q4 : cl.slots[4]? = some (.ref a_ARRAY)) (q5 : cl.slots[5]? = some (.ref a_MAP)) (q6 : cl.slots[6]? = some (.ref a_TAG)) (q7 : cl.slots[7]? = some (.ref a_SIMPLE_OR_FLOAT)) : Arf Z h a ty 8 (own_arr a_UNSIGNED_INTEGER a_NEGATIVE_INTEGER a_BYTE_STRING a_TEXT_STRING a_ARRAY a_MAP a_TAG a_SIMPLE_OR_FLOAT) := by
  refine ⟨cl, A, S, fun i hi => ?_⟩
  match i, hi with
  | 0, _ => exact q0
  | 1, _ => exact q1
  | 2, _ => exact q2
  | 3, _ => exact q3
  | 4, _ => exact q4
  | 5, _ => exact q5
  | 6, _ => exact q6
  | 7, _ => exact q7
theorem d1_0 : decode method_2_code 0 = .ok (.iload_n 0, 1) := by decide +kernel
theorem d1_1 : decode method_2_code 1 = .ok (.ifCond .ne 7, 3) := by decide +kernel
theorem d1_4 : decode method_2_code 4 = .ok (.getstatic 7, 3) := by decide +kernel
theorem d1_7 : decode method_2_code 7 = .ok (.areturn, 1) := by decide +kernel
theorem d1_8 : decode method_2_code 8 = .ok (.iload_n 0, 1) := by decide +kernel
theorem d1_9 : decode method_2_code 9 = .ok (.iconst 1, 1) := by decide +kernel
theorem d1_10 : decode method_2_code 10 = .ok (.if_icmp .ne 7, 3) := by decide +kernel
theorem d1_13 : decode method_2_code 13 = .ok (.getstatic 13, 3) := by decide +kernel
theorem d1_16 : decode method_2_code 16 = .ok (.areturn, 1) := by decide +kernel
theorem d1_17 : decode method_2_code 17 = .ok (.iload_n 0, 1) := by decide +kernel
theorem d1_18 : decode method_2_code 18 = .ok (.iconst 2, 1) := by decide +kernel
theorem d1_19 : decode method_2_code 19 = .ok (.if_icmp .ne 7, 3) := by decide +kernel
theorem d1_22 : decode method_2_code 22 = .ok (.getstatic 16, 3) := by decide +kernel
theorem d1_25 : decode method_2_code 25 = .ok (.areturn, 1) := by decide +kernel
theorem d1_26 : decode method_2_code 26 = .ok (.iload_n 0, 1) := by decide +kernel
theorem d1_27 : decode method_2_code 27 = .ok (.iconst 3, 1) := by decide +kernel
theorem d1_28 : decode method_2_code 28 = .ok (.if_icmp .ne 7, 3) := by decide +kernel
theorem d1_31 : decode method_2_code 31 = .ok (.getstatic 19, 3) := by decide +kernel
theorem d1_34 : decode method_2_code 34 = .ok (.areturn, 1) := by decide +kernel
theorem d1_35 : decode method_2_code 35 = .ok (.iload_n 0, 1) := by decide +kernel
theorem d1_36 : decode method_2_code 36 = .ok (.iconst 4, 1) := by decide +kernel
theorem d1_37 : decode method_2_code 37 = .ok (.if_icmp .ne 7, 3) := by decide +kernel
theorem d1_40 : decode method_2_code 40 = .ok (.getstatic 22, 3) := by decide +kernel
theorem d1_43 : decode method_2_code 43 = .ok (.areturn, 1) := by decide +kernel
theorem d1_44 : decode method_2_code 44 = .ok (.iload_n 0, 1) := by decide +kernel
theorem d1_45 : decode method_2_code 45 = .ok (.iconst 5, 1) := by decide +kernel
theorem d1_46 : decode method_2_code 46 = .ok (.if_icmp .ne 7, 3) := by decide +kernel
theorem d1_49 : decode method_2_code 49 = .ok (.getstatic 25, 3) := by decide +kernel
theorem d1_52 : decode method_2_code 52 = .ok (.areturn, 1) := by decide +kernel
theorem d1_53 : decode method_2_code 53 = .ok (.iload_n 0, 1) := by decide +kernel
theorem d1_54 : decode method_2_code 54 = .ok (.bipush 6, 2) := by decide +kernel
theorem d1_56 : decode method_2_code 56 = .ok (.if_icmp .ne 7, 3) := by decide +kernel
theorem d1_59 : decode method_2_code 59 = .ok (.getstatic 28, 3) := by decide +kernel
theorem d1_62 : decode method_2_code 62 = .ok (.areturn, 1) := by decide +kernel
theorem d1_63 : decode method_2_code 63 = .ok (.getstatic 31, 3) := by decide +kernel
theorem d1_66 : decode method_2_code 66 = .ok (.areturn, 1) := by decide +kernel
set_option maxRecDepth 65536 in
set_option maxHeartbeats 40000000 in
theorem rm1 (Z : State) (a0 : Array Value) (hw : ∀ d ∈ tables_1, d.before a0 Z = true) (p1 : Int32) (a_UNSIGNED_INTEGER a_NEGATIVE_INTEGER a_BYTE_STRING a_TEXT_STRING a_ARRAY a_MAP a_TAG a_SIMPLE_OR_FLOAT : Addr) (h0 : Heap) (n0 : Nat) (S_UNSIGNED_INTEGER : Sta Z h0 "com/example/tagvec/tagvec/cbor/MajorType" "UNSIGNED_INTEGER" "Lcom/example/tagvec/tagvec/cbor/MajorType;" (.ref a_UNSIGNED_INTEGER)) (S_NEGATIVE_INTEGER : Sta Z h0 "com/example/tagvec/tagvec/cbor/MajorType" "NEGATIVE_INTEGER" "Lcom/example/tagvec/tagvec/cbor/MajorType;" (.ref a_NEGATIVE_INTEGER)) (S_BYTE_STRING : Sta Z h0 "com/example/tagvec/tagvec/cbor/MajorType" "BYTE_STRING" "Lcom/example/tagvec/tagvec/cbor/MajorType;" (.ref a_BYTE_STRING)) (S_TEXT_STRING : Sta Z h0 "com/example/tagvec/tagvec/cbor/MajorType" "TEXT_STRING" "Lcom/example/tagvec/tagvec/cbor/MajorType;" (.ref a_TEXT_STRING)) (S_ARRAY : Sta Z h0 "com/example/tagvec/tagvec/cbor/MajorType" "ARRAY" "Lcom/example/tagvec/tagvec/cbor/MajorType;" (.ref a_ARRAY)) (S_MAP : Sta Z h0 "com/example/tagvec/tagvec/cbor/MajorType" "MAP" "Lcom/example/tagvec/tagvec/cbor/MajorType;" (.ref a_MAP)) (S_TAG : Sta Z h0 "com/example/tagvec/tagvec/cbor/MajorType" "TAG" "Lcom/example/tagvec/tagvec/cbor/MajorType;" (.ref a_TAG)) (S_SIMPLE_OR_FLOAT : Sta Z h0 "com/example/tagvec/tagvec/cbor/MajorType" "SIMPLE_OR_FLOAT" "Lcom/example/tagvec/tagvec/cbor/MajorType;" (.ref a_SIMPLE_OR_FLOAT)) :
    Con Z n0 (⟨"com/example/tagvec/tagvec/cbor/MajorTypeForNumberPinLaw", "expected", "(I)Lcom/example/tagvec/tagvec/cbor/MajorType;"⟩ : MethodName) method_2_code 1 (some (.object "com/example/tagvec/tagvec/cbor/MajorType")) [] ({ frames := 0, cells := 0, slots := 0, locals := 0 } : Room) #[(.int p1)] h0 (fun v h => v = some (own_exp p1 a_UNSIGNED_INTEGER a_NEGATIVE_INTEGER a_BYTE_STRING a_TEXT_STRING a_ARRAY a_MAP a_TAG a_SIMPLE_OR_FLOAT) ∧ h0 = h) := by
  refine Con.intro (L0 := #[.val (.int p1)]) (plainFor_of_name (by first | (simp [plainName, overriddenIn]; done) | decide +kernel)) (fun m => by first | (simp [entryFrame, mkF, argsToLocals, Value.category]; done) | rfl) ?_
  intro C k
  replace k := k.iloadN d1_0 rfl
  by_cases hc101 : p1 = (0 : Int32)
  · skip
    replace k := k.ifNo d1_1 (teq hc101).2
    replace k := k.getS d1_4 (host := "") (Or.inl (hw _ (List.mem_of_getElem? (i := 4) rfl))) Via.refl S_UNSIGNED_INTEGER
    exact k.aret d1_7 rfl rfl rfl rfl ⟨by rw [own_exp, if_pos hc101], rfl⟩ (by decide) (by decide)
  · skip
    replace k := k.ifYes (pc' := 8) d1_1 (feq hc101).2 (by decide) (by decide)
    replace k := k.iloadN d1_8 rfl
    replace k := k.iconst (1 : Int32) d1_9 rfl
    by_cases hc102 : p1 = (1 : Int32)
    · skip
      replace k := k.icmpNo d1_10 (teq hc102).2
      replace k := k.getS d1_13 (host := "") (Or.inl (hw _ (List.mem_of_getElem? (i := 27) rfl))) Via.refl S_NEGATIVE_INTEGER
      exact k.aret d1_16 rfl rfl rfl rfl ⟨by rw [own_exp, if_neg hc101, if_pos hc102], rfl⟩ (by decide) (by decide)
    · skip
      replace k := k.icmpYes (pc' := 17) d1_10 (feq hc102).2 (by decide) (by decide)
      replace k := k.iloadN d1_17 rfl
      replace k := k.iconst (2 : Int32) d1_18 rfl
      by_cases hc103 : p1 = (2 : Int32)
      · skip
        replace k := k.icmpNo d1_19 (teq hc103).2
        replace k := k.getS d1_22 (host := "") (Or.inl (hw _ (List.mem_of_getElem? (i := 25) rfl))) Via.refl S_BYTE_STRING
        exact k.aret d1_25 rfl rfl rfl rfl ⟨by rw [own_exp, if_neg hc101, if_neg hc102, if_pos hc103], rfl⟩ (by decide) (by decide)
      · skip
        replace k := k.icmpYes (pc' := 26) d1_19 (feq hc103).2 (by decide) (by decide)
        replace k := k.iloadN d1_26 rfl
        replace k := k.iconst (3 : Int32) d1_27 rfl
        by_cases hc104 : p1 = (3 : Int32)
        · skip
          replace k := k.icmpNo d1_28 (teq hc104).2
          replace k := k.getS d1_31 (host := "") (Or.inl (hw _ (List.mem_of_getElem? (i := 19) rfl))) Via.refl S_TEXT_STRING
          exact k.aret d1_34 rfl rfl rfl rfl ⟨by rw [own_exp, if_neg hc101, if_neg hc102, if_neg hc103, if_pos hc104], rfl⟩ (by decide) (by decide)
        · skip
          replace k := k.icmpYes (pc' := 35) d1_28 (feq hc104).2 (by decide) (by decide)
          replace k := k.iloadN d1_35 rfl
          replace k := k.iconst (4 : Int32) d1_36 rfl
          by_cases hc105 : p1 = (4 : Int32)
          · skip
            replace k := k.icmpNo d1_37 (teq hc105).2
            replace k := k.getS d1_40 (host := "") (Or.inl (hw _ (List.mem_of_getElem? (i := 29) rfl))) Via.refl S_ARRAY
            exact k.aret d1_43 rfl rfl rfl rfl ⟨by rw [own_exp, if_neg hc101, if_neg hc102, if_neg hc103, if_neg hc104, if_pos hc105], rfl⟩ (by decide) (by decide)
          · skip
            replace k := k.icmpYes (pc' := 44) d1_37 (feq hc105).2 (by decide) (by decide)
            replace k := k.iloadN d1_44 rfl
            replace k := k.iconst (5 : Int32) d1_45 rfl
            by_cases hc106 : p1 = (5 : Int32)
            · skip
              replace k := k.icmpNo d1_46 (teq hc106).2
              replace k := k.getS d1_49 (host := "") (Or.inl (hw _ (List.mem_of_getElem? (i := 31) rfl))) Via.refl S_MAP
              exact k.aret d1_52 rfl rfl rfl rfl ⟨by rw [own_exp, if_neg hc101, if_neg hc102, if_neg hc103, if_neg hc104, if_neg hc105, if_pos hc106], rfl⟩ (by decide) (by decide)
            · skip
              replace k := k.icmpYes (pc' := 53) d1_46 (feq hc106).2 (by decide) (by decide)
              replace k := k.iloadN d1_53 rfl
              replace k := k.bipush (6 : Int32) d1_54 rfl
              by_cases hc107 : p1 = (6 : Int32)
              · skip
                replace k := k.icmpNo d1_56 (teq hc107).2
                replace k := k.getS d1_59 (host := "") (Or.inl (hw _ (List.mem_of_getElem? (i := 21) rfl))) Via.refl S_TAG
                exact k.aret d1_62 rfl rfl rfl rfl ⟨by rw [own_exp, if_neg hc101, if_neg hc102, if_neg hc103, if_neg hc104, if_neg hc105, if_neg hc106, if_pos hc107], rfl⟩ (by decide) (by decide)
              · skip
                replace k := k.icmpYes (pc' := 63) d1_56 (feq hc107).2 (by decide) (by decide)
                replace k := k.getS d1_63 (host := "") (Or.inl (hw _ (List.mem_of_getElem? (i := 23) rfl))) Via.refl S_SIMPLE_OR_FLOAT
                exact k.aret d1_66 rfl rfl rfl rfl ⟨by rw [own_exp, if_neg hc101, if_neg hc102, if_neg hc103, if_neg hc104, if_neg hc105, if_neg hc106, if_neg hc107], rfl⟩ (by decide) (by decide)

theorem d2_0 : decode prog_69_method_5_code 0 = .ok (.iload_n 0, 1) := by decide +kernel
theorem d2_1 : decode prog_69_method_5_code 1 = .ok (.ifCond .lt 11, 3) := by decide +kernel
theorem d2_4 : decode prog_69_method_5_code 4 = .ok (.iload_n 0, 1) := by decide +kernel
theorem d2_5 : decode prog_69_method_5_code 5 = .ok (.getstatic 55, 3) := by decide +kernel
theorem d2_8 : decode prog_69_method_5_code 8 = .ok (.arraylength, 1) := by decide +kernel
theorem d2_9 : decode prog_69_method_5_code 9 = .ok (.if_icmp .lt 17, 3) := by decide +kernel
theorem d2_26 : decode prog_69_method_5_code 26 = .ok (.getstatic 55, 3) := by decide +kernel
theorem d2_29 : decode prog_69_method_5_code 29 = .ok (.iload_n 0, 1) := by decide +kernel
theorem d2_30 : decode prog_69_method_5_code 30 = .ok (.aaload, 1) := by decide +kernel
theorem d2_31 : decode prog_69_method_5_code 31 = .ok (.areturn, 1) := by decide +kernel
set_option maxRecDepth 65536 in
set_option maxHeartbeats 40000000 in
theorem rm2 (Z : State) (a0 : Array Value) (hw : ∀ d ∈ tables_1, d.before a0 Z = true) (p1 : Int32) (aB w1 : Addr) (f1 : Nat → Value) (i1 : Nat) (h0 : Heap) (n0 : Nat) (S_B : Sta Z h0 "com/example/tagvec/tagvec/cbor/MajorType" "BY_NUMBER" "[Lcom/example/tagvec/tagvec/cbor/MajorType;" (.ref aB)) (Af : Arf Z h0 aB (.object "com/example/tagvec/tagvec/cbor/MajorType") 8 f1) (hi1 : p1.toNatClampNeg = i1) (hi2 : i1 < 8) (hv1 : f1 i1 = .ref w1) (c1 : ¬ (p1 < (0 : Int32))) (c2 : p1 < (8 : Int32)) :
    Con Z n0 (⟨"com/example/tagvec/tagvec/cbor/MajorType", "forNumber", "(I)Lcom/example/tagvec/tagvec/cbor/MajorType;"⟩ : MethodName) prog_69_method_5_code 1 (some (.object "com/example/tagvec/tagvec/cbor/MajorType")) [] ({ frames := 0, cells := 0, slots := 0, locals := 0 } : Room) #[(.int p1)] h0 (fun v h => v = some (.ref w1) ∧ h0 = h) := by
  refine Con.intro (L0 := #[.val (.int p1)]) (plainFor_of_name (by first | (simp [plainName, overriddenIn]; done) | decide +kernel)) (fun m => by first | (simp [entryFrame, mkF, argsToLocals, Value.category]; done) | rfl) ?_
  intro C k
  replace k := k.iloadN d2_0 rfl
  replace k := k.ifNo d2_1 (flt c1).1
  replace k := k.iloadN d2_4 rfl
  replace k := k.getS d2_5 (host := "") (Or.inl (hw _ (List.mem_of_getElem? (i := 10) rfl))) Via.refl S_B
  replace k := k.arrlen d2_8 Af (8 : Int32) (by decide)
  replace k := k.icmpYes (pc' := 26) d2_9 (tlt c2).1 (by decide) (by decide)
  replace k := k.getS d2_26 (host := "") (Or.inl (hw _ (List.mem_of_getElem? (i := 10) rfl))) Via.refl S_B
  replace k := k.iloadN d2_29 rfl
  replace k := k.aaload d2_30 Af rfl i1 hi1 c1 hi2 (.ref w1) hv1
  exact k.aret d2_31 rfl rfl rfl rfl ⟨rfl, rfl⟩ (by decide) (by decide)

theorem d3_0 : decode prog_69_method_4_code 0 = .ok (.aload_n 0, 1) := by decide +kernel
theorem d3_1 : decode prog_69_method_4_code 1 = .ok (.getfield 47, 3) := by decide +kernel
theorem d3_4 : decode prog_69_method_4_code 4 = .ok (.ireturn, 1) := by decide +kernel
set_option maxRecDepth 65536 in
set_option maxHeartbeats 40000000 in
theorem rm3 (Z : State) (a0 : Array Value) (hw : ∀ d ∈ tables_1, d.before a0 Z = true) (a1 : Addr) (p2 : Int32) (h0 : Heap) (n0 : Nat) (F1 : Fld Z h0 a1 "com/example/tagvec/tagvec/cbor/MajorType" "number" "I" (.int p2)) :
    Con Z n0 (⟨"com/example/tagvec/tagvec/cbor/MajorType", "number", "()I"⟩ : MethodName) prog_69_method_4_code 1 (some .int) [] ({ frames := 0, cells := 0, slots := 0, locals := 0 } : Room) #[(.ref a1)] h0 (fun v h => v = some (.int p2) ∧ h0 = h) := by
  refine Con.intro (L0 := #[.val (.ref a1)]) (plainFor_of_name (by first | (simp [plainName, overriddenIn]; done) | decide +kernel)) (fun m => by first | (simp [entryFrame, mkF, argsToLocals, Value.category]; done) | rfl) ?_
  intro C k
  replace k := k.aloadN d3_0 rfl rfl
  replace k := k.getF d3_1 (host := "") (Or.inl (hw _ (List.mem_of_getElem? (i := 17) rfl))) Via.refl F1
  exact k.iret d3_4 rfl (by simp) rfl ⟨rfl, rfl⟩ (by decide) (by decide)

set_option maxRecDepth 65536 in
set_option maxHeartbeats 40000000 in
theorem rm0 (Z : State) (a0 : Array Value) (hw : ∀ d ∈ tables_1, d.before a0 Z = true) (p1 : Int32) (a_UNSIGNED_INTEGER : Addr) (a_BY_NUMBER : Addr) (cl_BY_NUMBER : Cell) (a_TEXT_STRING : Addr) (a_TAG : Addr) (a_SIMPLE_OR_FLOAT : Addr) (a_BYTE_STRING : Addr) (a_NEGATIVE_INTEGER : Addr) (a_ARRAY : Addr) (a_MAP : Addr) (h0 : Heap) (n0 : Nat) (S_UNSIGNED_INTEGER : Sta Z h0 "com/example/tagvec/tagvec/cbor/MajorType" "UNSIGNED_INTEGER" "Lcom/example/tagvec/tagvec/cbor/MajorType;" (.ref a_UNSIGNED_INTEGER)) (E_UNSIGNED_INTEGER : Exa Z h0 a_UNSIGNED_INTEGER "com/example/tagvec/tagvec/cbor/MajorType") (S_BY_NUMBER : Sta Z h0 "com/example/tagvec/tagvec/cbor/MajorType" "BY_NUMBER" "[Lcom/example/tagvec/tagvec/cbor/MajorType;" (.ref a_BY_NUMBER)) (Ar_BY_NUMBER : Arr Z h0 a_BY_NUMBER cl_BY_NUMBER (.object "com/example/tagvec/tagvec/cbor/MajorType")) (Sz_BY_NUMBER : cl_BY_NUMBER.slots.size = 8) (at_BY_NUMBER_0 : cl_BY_NUMBER.slots[0]? = some (.ref a_UNSIGNED_INTEGER)) (F_UNSIGNED_INTEGER_number : Fld Z h0 a_UNSIGNED_INTEGER "com/example/tagvec/tagvec/cbor/MajorType" "number" "I" (.int (0 : Int32))) (S_TEXT_STRING : Sta Z h0 "com/example/tagvec/tagvec/cbor/MajorType" "TEXT_STRING" "Lcom/example/tagvec/tagvec/cbor/MajorType;" (.ref a_TEXT_STRING)) (E_TEXT_STRING : Exa Z h0 a_TEXT_STRING "com/example/tagvec/tagvec/cbor/MajorType") (at_BY_NUMBER_3 : cl_BY_NUMBER.slots[3]? = some (.ref a_TEXT_STRING)) (F_TEXT_STRING_number : Fld Z h0 a_TEXT_STRING "com/example/tagvec/tagvec/cbor/MajorType" "number" "I" (.int (3 : Int32))) (S_TAG : Sta Z h0 "com/example/tagvec/tagvec/cbor/MajorType" "TAG" "Lcom/example/tagvec/tagvec/cbor/MajorType;" (.ref a_TAG)) (E_TAG : Exa Z h0 a_TAG "com/example/tagvec/tagvec/cbor/MajorType") (at_BY_NUMBER_6 : cl_BY_NUMBER.slots[6]? = some (.ref a_TAG)) (F_TAG_number : Fld Z h0 a_TAG "com/example/tagvec/tagvec/cbor/MajorType" "number" "I" (.int (6 : Int32))) (S_SIMPLE_OR_FLOAT : Sta Z h0 "com/example/tagvec/tagvec/cbor/MajorType" "SIMPLE_OR_FLOAT" "Lcom/example/tagvec/tagvec/cbor/MajorType;" (.ref a_SIMPLE_OR_FLOAT)) (E_SIMPLE_OR_FLOAT : Exa Z h0 a_SIMPLE_OR_FLOAT "com/example/tagvec/tagvec/cbor/MajorType") (at_BY_NUMBER_7 : cl_BY_NUMBER.slots[7]? = some (.ref a_SIMPLE_OR_FLOAT)) (F_SIMPLE_OR_FLOAT_number : Fld Z h0 a_SIMPLE_OR_FLOAT "com/example/tagvec/tagvec/cbor/MajorType" "number" "I" (.int (7 : Int32))) (S_BYTE_STRING : Sta Z h0 "com/example/tagvec/tagvec/cbor/MajorType" "BYTE_STRING" "Lcom/example/tagvec/tagvec/cbor/MajorType;" (.ref a_BYTE_STRING)) (E_BYTE_STRING : Exa Z h0 a_BYTE_STRING "com/example/tagvec/tagvec/cbor/MajorType") (at_BY_NUMBER_2 : cl_BY_NUMBER.slots[2]? = some (.ref a_BYTE_STRING)) (F_BYTE_STRING_number : Fld Z h0 a_BYTE_STRING "com/example/tagvec/tagvec/cbor/MajorType" "number" "I" (.int (2 : Int32))) (S_NEGATIVE_INTEGER : Sta Z h0 "com/example/tagvec/tagvec/cbor/MajorType" "NEGATIVE_INTEGER" "Lcom/example/tagvec/tagvec/cbor/MajorType;" (.ref a_NEGATIVE_INTEGER)) (E_NEGATIVE_INTEGER : Exa Z h0 a_NEGATIVE_INTEGER "com/example/tagvec/tagvec/cbor/MajorType") (at_BY_NUMBER_1 : cl_BY_NUMBER.slots[1]? = some (.ref a_NEGATIVE_INTEGER)) (F_NEGATIVE_INTEGER_number : Fld Z h0 a_NEGATIVE_INTEGER "com/example/tagvec/tagvec/cbor/MajorType" "number" "I" (.int (1 : Int32))) (S_ARRAY : Sta Z h0 "com/example/tagvec/tagvec/cbor/MajorType" "ARRAY" "Lcom/example/tagvec/tagvec/cbor/MajorType;" (.ref a_ARRAY)) (E_ARRAY : Exa Z h0 a_ARRAY "com/example/tagvec/tagvec/cbor/MajorType") (at_BY_NUMBER_4 : cl_BY_NUMBER.slots[4]? = some (.ref a_ARRAY)) (F_ARRAY_number : Fld Z h0 a_ARRAY "com/example/tagvec/tagvec/cbor/MajorType" "number" "I" (.int (4 : Int32))) (S_MAP : Sta Z h0 "com/example/tagvec/tagvec/cbor/MajorType" "MAP" "Lcom/example/tagvec/tagvec/cbor/MajorType;" (.ref a_MAP)) (E_MAP : Exa Z h0 a_MAP "com/example/tagvec/tagvec/cbor/MajorType") (at_BY_NUMBER_5 : cl_BY_NUMBER.slots[5]? = some (.ref a_MAP)) (F_MAP_number : Fld Z h0 a_MAP "com/example/tagvec/tagvec/cbor/MajorType" "number" "I" (.int (5 : Int32))) :
    Con Z n0 x code maxLocals ret tables_1 room_1 #[(.int p1)] h0 (fun v h => v = some (.int (1 : Int32))) := by
  refine Con.intro (L0 := #[.val (.int p1), .unset, .unset, .unset]) (plainFor_of_name (by first | (simp [plainName, overriddenIn]; done) | decide +kernel)) (fun m => by first | (simp [entryFrame, mkF, argsToLocals, Value.category, maxLocals]; done) | rfl) ?_
  have Af := own_Af Ar_BY_NUMBER Sz_BY_NUMBER at_BY_NUMBER_0 at_BY_NUMBER_1 at_BY_NUMBER_2 at_BY_NUMBER_3 at_BY_NUMBER_4 at_BY_NUMBER_5 at_BY_NUMBER_6 at_BY_NUMBER_7
  intro C k
  replace k := k.iloadN at_0 rfl
  replace k := k.bipush (7 : Int32) at_1 rfl
  replace k := k.iand at_3
  replace k := k.istoreN #[.val (.int p1), .val (.int (p1 &&& (7 : Int32))), .unset, .unset] at_4 rfl
  rcases own_and7 p1 with hx7 | hx7 | hx7 | hx7 | hx7 | hx7 | hx7 | hx7
  · skip
    replace k := k.loc #[.val (.int p1), .val (.int (0 : Int32)), .unset, .unset] (by rw [hx7])
    replace k := k.iloadN at_5 rfl
    obtain ⟨_, _, ⟨rfl, rfl⟩, k⟩ := k.callS (y := (⟨"com/example/tagvec/tagvec/cbor/MajorTypeForNumberPinLaw", "expected", "(I)Lcom/example/tagvec/tagvec/cbor/MajorType;"⟩ : MethodName)) at_6 (hw _ (List.mem_of_getElem? (i := 0) rfl)) (hw _ (List.mem_of_getElem? (i := 1) rfl)) (hw _ (List.mem_of_getElem? (i := 2) rfl)) (hw _ (List.mem_of_getElem? (i := 3) rfl)) (W := 0) (argsL := [(.int (0 : Int32))]) (rest := []) (rm1 Z a0 hw (0 : Int32) a_UNSIGNED_INTEGER a_NEGATIVE_INTEGER a_BYTE_STRING a_TEXT_STRING a_ARRAY a_MAP a_TAG a_SIMPLE_OR_FLOAT h0 n0 S_UNSIGNED_INTEGER S_NEGATIVE_INTEGER S_BYTE_STRING S_TEXT_STRING S_ARRAY S_MAP S_TAG S_SIMPLE_OR_FLOAT) rfl (pd_0) rfl rfl rfl (by decide) (by decide) (by decide) (by decide) (by decide)
    replace k := k.stk [(own_exp (0 : Int32) a_UNSIGNED_INTEGER a_NEGATIVE_INTEGER a_BYTE_STRING a_TEXT_STRING a_ARRAY a_MAP a_TAG a_SIMPLE_OR_FLOAT)] rfl
    replace k := k.stk [(.ref a_UNSIGNED_INTEGER)] rfl
    replace k := k.astoreN #[.val (.int p1), .val (.int (0 : Int32)), .val (.ref a_UNSIGNED_INTEGER), .unset] at_9 rfl rfl
    replace k := k.iloadN at_10 rfl
    obtain ⟨_, _, ⟨rfl, rfl⟩, k⟩ := k.callS (y := (⟨"com/example/tagvec/tagvec/cbor/MajorType", "forNumber", "(I)Lcom/example/tagvec/tagvec/cbor/MajorType;"⟩ : MethodName)) at_11 (hw _ (List.mem_of_getElem? (i := 7) rfl)) (hw _ (List.mem_of_getElem? (i := 8) rfl)) (hw _ (List.mem_of_getElem? (i := 5) rfl)) (hw _ (List.mem_of_getElem? (i := 9) rfl)) (W := 0) (argsL := [(.int (0 : Int32))]) (rest := []) (rm2 Z a0 hw (0 : Int32) a_BY_NUMBER a_UNSIGNED_INTEGER (own_arr a_UNSIGNED_INTEGER a_NEGATIVE_INTEGER a_BYTE_STRING a_TEXT_STRING a_ARRAY a_MAP a_TAG a_SIMPLE_OR_FLOAT) 0 h0 n0 S_BY_NUMBER Af (by decide) (by decide) (own_at0 _ _ _ _ _ _ _ _) (by decide) (by decide)) rfl (pd_0) rfl rfl rfl (by decide) (by decide) (by decide) (by decide) (by decide)
    replace k := k.stk [(.ref a_UNSIGNED_INTEGER)] rfl
    replace k := k.astoreN #[.val (.int p1), .val (.int (0 : Int32)), .val (.ref a_UNSIGNED_INTEGER), .val (.ref a_UNSIGNED_INTEGER)] at_14 rfl rfl
    replace k := k.aloadN at_15 rfl rfl
    replace k := k.aloadN at_16 rfl rfl
    replace k := k.acmpNo at_17 rfl rfl (ac_eq rfl).2
    replace k := k.aloadN at_20 rfl rfl
    obtain ⟨_, _, ⟨rfl, rfl⟩, k⟩ := k.callV (y := (⟨"com/example/tagvec/tagvec/cbor/MajorType", "number", "()I"⟩ : MethodName)) (z := (⟨"com/example/tagvec/tagvec/cbor/MajorType", "number", "()I"⟩ : MethodName)) (a := a_UNSIGNED_INTEGER) at_21 (hw _ (List.mem_of_getElem? (i := 12) rfl)) (hw _ (List.mem_of_getElem? (i := 13) rfl)) (fun s hs => notFace_of_selects (args := #[]) (mvT hs (hw _ (List.mem_of_getElem? (i := 15) rfl)))) (hw _ (List.mem_of_getElem? (i := 15) rfl)) (hw _ (List.mem_of_getElem? (i := 14) rfl)) (hw _ (List.mem_of_getElem? (i := 5) rfl)) (hw _ (List.mem_of_getElem? (i := 16) rfl)) E_UNSIGNED_INTEGER (W := 0) (argsL := []) (rest := []) (rm3 Z a0 hw a_UNSIGNED_INTEGER (0 : Int32) h0 n0 F_UNSIGNED_INTEGER_number) rfl (pd_1) rfl rfl rfl (by decide) (by decide) (by decide) (by decide) (by decide)
    replace k := k.stk [(.int (0 : Int32))] rfl
    replace k := k.iloadN at_24 rfl
    replace k := k.icmpNo at_25 (by decide)
    replace k := k.iconst (1 : Int32) at_28 rfl
    replace k := k.goto (pc' := 33) at_29 (by decide) (by decide)
    exact k.iret at_33 rfl (by simp) rfl rfl (by decide) (by decide)
  · skip
    replace k := k.loc #[.val (.int p1), .val (.int (1 : Int32)), .unset, .unset] (by rw [hx7])
    replace k := k.iloadN at_5 rfl
    obtain ⟨_, _, ⟨rfl, rfl⟩, k⟩ := k.callS (y := (⟨"com/example/tagvec/tagvec/cbor/MajorTypeForNumberPinLaw", "expected", "(I)Lcom/example/tagvec/tagvec/cbor/MajorType;"⟩ : MethodName)) at_6 (hw _ (List.mem_of_getElem? (i := 0) rfl)) (hw _ (List.mem_of_getElem? (i := 1) rfl)) (hw _ (List.mem_of_getElem? (i := 2) rfl)) (hw _ (List.mem_of_getElem? (i := 3) rfl)) (W := 0) (argsL := [(.int (1 : Int32))]) (rest := []) (rm1 Z a0 hw (1 : Int32) a_UNSIGNED_INTEGER a_NEGATIVE_INTEGER a_BYTE_STRING a_TEXT_STRING a_ARRAY a_MAP a_TAG a_SIMPLE_OR_FLOAT h0 n0 S_UNSIGNED_INTEGER S_NEGATIVE_INTEGER S_BYTE_STRING S_TEXT_STRING S_ARRAY S_MAP S_TAG S_SIMPLE_OR_FLOAT) rfl (pd_0) rfl rfl rfl (by decide) (by decide) (by decide) (by decide) (by decide)
    replace k := k.stk [(own_exp (1 : Int32) a_UNSIGNED_INTEGER a_NEGATIVE_INTEGER a_BYTE_STRING a_TEXT_STRING a_ARRAY a_MAP a_TAG a_SIMPLE_OR_FLOAT)] rfl
    replace k := k.stk [(.ref a_NEGATIVE_INTEGER)] rfl
    replace k := k.astoreN #[.val (.int p1), .val (.int (1 : Int32)), .val (.ref a_NEGATIVE_INTEGER), .unset] at_9 rfl rfl
    replace k := k.iloadN at_10 rfl
    obtain ⟨_, _, ⟨rfl, rfl⟩, k⟩ := k.callS (y := (⟨"com/example/tagvec/tagvec/cbor/MajorType", "forNumber", "(I)Lcom/example/tagvec/tagvec/cbor/MajorType;"⟩ : MethodName)) at_11 (hw _ (List.mem_of_getElem? (i := 7) rfl)) (hw _ (List.mem_of_getElem? (i := 8) rfl)) (hw _ (List.mem_of_getElem? (i := 5) rfl)) (hw _ (List.mem_of_getElem? (i := 9) rfl)) (W := 0) (argsL := [(.int (1 : Int32))]) (rest := []) (rm2 Z a0 hw (1 : Int32) a_BY_NUMBER a_NEGATIVE_INTEGER (own_arr a_UNSIGNED_INTEGER a_NEGATIVE_INTEGER a_BYTE_STRING a_TEXT_STRING a_ARRAY a_MAP a_TAG a_SIMPLE_OR_FLOAT) 1 h0 n0 S_BY_NUMBER Af (by decide) (by decide) (own_at1 _ _ _ _ _ _ _ _) (by decide) (by decide)) rfl (pd_0) rfl rfl rfl (by decide) (by decide) (by decide) (by decide) (by decide)
    replace k := k.stk [(.ref a_NEGATIVE_INTEGER)] rfl
    replace k := k.astoreN #[.val (.int p1), .val (.int (1 : Int32)), .val (.ref a_NEGATIVE_INTEGER), .val (.ref a_NEGATIVE_INTEGER)] at_14 rfl rfl
    replace k := k.aloadN at_15 rfl rfl
    replace k := k.aloadN at_16 rfl rfl
    replace k := k.acmpNo at_17 rfl rfl (ac_eq rfl).2
    replace k := k.aloadN at_20 rfl rfl
    obtain ⟨_, _, ⟨rfl, rfl⟩, k⟩ := k.callV (y := (⟨"com/example/tagvec/tagvec/cbor/MajorType", "number", "()I"⟩ : MethodName)) (z := (⟨"com/example/tagvec/tagvec/cbor/MajorType", "number", "()I"⟩ : MethodName)) (a := a_NEGATIVE_INTEGER) at_21 (hw _ (List.mem_of_getElem? (i := 12) rfl)) (hw _ (List.mem_of_getElem? (i := 13) rfl)) (fun s hs => notFace_of_selects (args := #[]) (mvT hs (hw _ (List.mem_of_getElem? (i := 15) rfl)))) (hw _ (List.mem_of_getElem? (i := 15) rfl)) (hw _ (List.mem_of_getElem? (i := 14) rfl)) (hw _ (List.mem_of_getElem? (i := 5) rfl)) (hw _ (List.mem_of_getElem? (i := 16) rfl)) E_NEGATIVE_INTEGER (W := 0) (argsL := []) (rest := []) (rm3 Z a0 hw a_NEGATIVE_INTEGER (1 : Int32) h0 n0 F_NEGATIVE_INTEGER_number) rfl (pd_1) rfl rfl rfl (by decide) (by decide) (by decide) (by decide) (by decide)
    replace k := k.stk [(.int (1 : Int32))] rfl
    replace k := k.iloadN at_24 rfl
    replace k := k.icmpNo at_25 (by decide)
    replace k := k.iconst (1 : Int32) at_28 rfl
    replace k := k.goto (pc' := 33) at_29 (by decide) (by decide)
    exact k.iret at_33 rfl (by simp) rfl rfl (by decide) (by decide)
  · skip
    replace k := k.loc #[.val (.int p1), .val (.int (2 : Int32)), .unset, .unset] (by rw [hx7])
    replace k := k.iloadN at_5 rfl
    obtain ⟨_, _, ⟨rfl, rfl⟩, k⟩ := k.callS (y := (⟨"com/example/tagvec/tagvec/cbor/MajorTypeForNumberPinLaw", "expected", "(I)Lcom/example/tagvec/tagvec/cbor/MajorType;"⟩ : MethodName)) at_6 (hw _ (List.mem_of_getElem? (i := 0) rfl)) (hw _ (List.mem_of_getElem? (i := 1) rfl)) (hw _ (List.mem_of_getElem? (i := 2) rfl)) (hw _ (List.mem_of_getElem? (i := 3) rfl)) (W := 0) (argsL := [(.int (2 : Int32))]) (rest := []) (rm1 Z a0 hw (2 : Int32) a_UNSIGNED_INTEGER a_NEGATIVE_INTEGER a_BYTE_STRING a_TEXT_STRING a_ARRAY a_MAP a_TAG a_SIMPLE_OR_FLOAT h0 n0 S_UNSIGNED_INTEGER S_NEGATIVE_INTEGER S_BYTE_STRING S_TEXT_STRING S_ARRAY S_MAP S_TAG S_SIMPLE_OR_FLOAT) rfl (pd_0) rfl rfl rfl (by decide) (by decide) (by decide) (by decide) (by decide)
    replace k := k.stk [(own_exp (2 : Int32) a_UNSIGNED_INTEGER a_NEGATIVE_INTEGER a_BYTE_STRING a_TEXT_STRING a_ARRAY a_MAP a_TAG a_SIMPLE_OR_FLOAT)] rfl
    replace k := k.stk [(.ref a_BYTE_STRING)] rfl
    replace k := k.astoreN #[.val (.int p1), .val (.int (2 : Int32)), .val (.ref a_BYTE_STRING), .unset] at_9 rfl rfl
    replace k := k.iloadN at_10 rfl
    obtain ⟨_, _, ⟨rfl, rfl⟩, k⟩ := k.callS (y := (⟨"com/example/tagvec/tagvec/cbor/MajorType", "forNumber", "(I)Lcom/example/tagvec/tagvec/cbor/MajorType;"⟩ : MethodName)) at_11 (hw _ (List.mem_of_getElem? (i := 7) rfl)) (hw _ (List.mem_of_getElem? (i := 8) rfl)) (hw _ (List.mem_of_getElem? (i := 5) rfl)) (hw _ (List.mem_of_getElem? (i := 9) rfl)) (W := 0) (argsL := [(.int (2 : Int32))]) (rest := []) (rm2 Z a0 hw (2 : Int32) a_BY_NUMBER a_BYTE_STRING (own_arr a_UNSIGNED_INTEGER a_NEGATIVE_INTEGER a_BYTE_STRING a_TEXT_STRING a_ARRAY a_MAP a_TAG a_SIMPLE_OR_FLOAT) 2 h0 n0 S_BY_NUMBER Af (by decide) (by decide) (own_at2 _ _ _ _ _ _ _ _) (by decide) (by decide)) rfl (pd_0) rfl rfl rfl (by decide) (by decide) (by decide) (by decide) (by decide)
    replace k := k.stk [(.ref a_BYTE_STRING)] rfl
    replace k := k.astoreN #[.val (.int p1), .val (.int (2 : Int32)), .val (.ref a_BYTE_STRING), .val (.ref a_BYTE_STRING)] at_14 rfl rfl
    replace k := k.aloadN at_15 rfl rfl
    replace k := k.aloadN at_16 rfl rfl
    replace k := k.acmpNo at_17 rfl rfl (ac_eq rfl).2
    replace k := k.aloadN at_20 rfl rfl
    obtain ⟨_, _, ⟨rfl, rfl⟩, k⟩ := k.callV (y := (⟨"com/example/tagvec/tagvec/cbor/MajorType", "number", "()I"⟩ : MethodName)) (z := (⟨"com/example/tagvec/tagvec/cbor/MajorType", "number", "()I"⟩ : MethodName)) (a := a_BYTE_STRING) at_21 (hw _ (List.mem_of_getElem? (i := 12) rfl)) (hw _ (List.mem_of_getElem? (i := 13) rfl)) (fun s hs => notFace_of_selects (args := #[]) (mvT hs (hw _ (List.mem_of_getElem? (i := 15) rfl)))) (hw _ (List.mem_of_getElem? (i := 15) rfl)) (hw _ (List.mem_of_getElem? (i := 14) rfl)) (hw _ (List.mem_of_getElem? (i := 5) rfl)) (hw _ (List.mem_of_getElem? (i := 16) rfl)) E_BYTE_STRING (W := 0) (argsL := []) (rest := []) (rm3 Z a0 hw a_BYTE_STRING (2 : Int32) h0 n0 F_BYTE_STRING_number) rfl (pd_1) rfl rfl rfl (by decide) (by decide) (by decide) (by decide) (by decide)
    replace k := k.stk [(.int (2 : Int32))] rfl
    replace k := k.iloadN at_24 rfl
    replace k := k.icmpNo at_25 (by decide)
    replace k := k.iconst (1 : Int32) at_28 rfl
    replace k := k.goto (pc' := 33) at_29 (by decide) (by decide)
    exact k.iret at_33 rfl (by simp) rfl rfl (by decide) (by decide)
  · skip
    replace k := k.loc #[.val (.int p1), .val (.int (3 : Int32)), .unset, .unset] (by rw [hx7])
    replace k := k.iloadN at_5 rfl
    obtain ⟨_, _, ⟨rfl, rfl⟩, k⟩ := k.callS (y := (⟨"com/example/tagvec/tagvec/cbor/MajorTypeForNumberPinLaw", "expected", "(I)Lcom/example/tagvec/tagvec/cbor/MajorType;"⟩ : MethodName)) at_6 (hw _ (List.mem_of_getElem? (i := 0) rfl)) (hw _ (List.mem_of_getElem? (i := 1) rfl)) (hw _ (List.mem_of_getElem? (i := 2) rfl)) (hw _ (List.mem_of_getElem? (i := 3) rfl)) (W := 0) (argsL := [(.int (3 : Int32))]) (rest := []) (rm1 Z a0 hw (3 : Int32) a_UNSIGNED_INTEGER a_NEGATIVE_INTEGER a_BYTE_STRING a_TEXT_STRING a_ARRAY a_MAP a_TAG a_SIMPLE_OR_FLOAT h0 n0 S_UNSIGNED_INTEGER S_NEGATIVE_INTEGER S_BYTE_STRING S_TEXT_STRING S_ARRAY S_MAP S_TAG S_SIMPLE_OR_FLOAT) rfl (pd_0) rfl rfl rfl (by decide) (by decide) (by decide) (by decide) (by decide)
    replace k := k.stk [(own_exp (3 : Int32) a_UNSIGNED_INTEGER a_NEGATIVE_INTEGER a_BYTE_STRING a_TEXT_STRING a_ARRAY a_MAP a_TAG a_SIMPLE_OR_FLOAT)] rfl
    replace k := k.stk [(.ref a_TEXT_STRING)] rfl
    replace k := k.astoreN #[.val (.int p1), .val (.int (3 : Int32)), .val (.ref a_TEXT_STRING), .unset] at_9 rfl rfl
    replace k := k.iloadN at_10 rfl
    obtain ⟨_, _, ⟨rfl, rfl⟩, k⟩ := k.callS (y := (⟨"com/example/tagvec/tagvec/cbor/MajorType", "forNumber", "(I)Lcom/example/tagvec/tagvec/cbor/MajorType;"⟩ : MethodName)) at_11 (hw _ (List.mem_of_getElem? (i := 7) rfl)) (hw _ (List.mem_of_getElem? (i := 8) rfl)) (hw _ (List.mem_of_getElem? (i := 5) rfl)) (hw _ (List.mem_of_getElem? (i := 9) rfl)) (W := 0) (argsL := [(.int (3 : Int32))]) (rest := []) (rm2 Z a0 hw (3 : Int32) a_BY_NUMBER a_TEXT_STRING (own_arr a_UNSIGNED_INTEGER a_NEGATIVE_INTEGER a_BYTE_STRING a_TEXT_STRING a_ARRAY a_MAP a_TAG a_SIMPLE_OR_FLOAT) 3 h0 n0 S_BY_NUMBER Af (by decide) (by decide) (own_at3 _ _ _ _ _ _ _ _) (by decide) (by decide)) rfl (pd_0) rfl rfl rfl (by decide) (by decide) (by decide) (by decide) (by decide)
    replace k := k.stk [(.ref a_TEXT_STRING)] rfl
    replace k := k.astoreN #[.val (.int p1), .val (.int (3 : Int32)), .val (.ref a_TEXT_STRING), .val (.ref a_TEXT_STRING)] at_14 rfl rfl
    replace k := k.aloadN at_15 rfl rfl
    replace k := k.aloadN at_16 rfl rfl
    replace k := k.acmpNo at_17 rfl rfl (ac_eq rfl).2
    replace k := k.aloadN at_20 rfl rfl
    obtain ⟨_, _, ⟨rfl, rfl⟩, k⟩ := k.callV (y := (⟨"com/example/tagvec/tagvec/cbor/MajorType", "number", "()I"⟩ : MethodName)) (z := (⟨"com/example/tagvec/tagvec/cbor/MajorType", "number", "()I"⟩ : MethodName)) (a := a_TEXT_STRING) at_21 (hw _ (List.mem_of_getElem? (i := 12) rfl)) (hw _ (List.mem_of_getElem? (i := 13) rfl)) (fun s hs => notFace_of_selects (args := #[]) (mvT hs (hw _ (List.mem_of_getElem? (i := 15) rfl)))) (hw _ (List.mem_of_getElem? (i := 15) rfl)) (hw _ (List.mem_of_getElem? (i := 14) rfl)) (hw _ (List.mem_of_getElem? (i := 5) rfl)) (hw _ (List.mem_of_getElem? (i := 16) rfl)) E_TEXT_STRING (W := 0) (argsL := []) (rest := []) (rm3 Z a0 hw a_TEXT_STRING (3 : Int32) h0 n0 F_TEXT_STRING_number) rfl (pd_1) rfl rfl rfl (by decide) (by decide) (by decide) (by decide) (by decide)
    replace k := k.stk [(.int (3 : Int32))] rfl
    replace k := k.iloadN at_24 rfl
    replace k := k.icmpNo at_25 (by decide)
    replace k := k.iconst (1 : Int32) at_28 rfl
    replace k := k.goto (pc' := 33) at_29 (by decide) (by decide)
    exact k.iret at_33 rfl (by simp) rfl rfl (by decide) (by decide)
  · skip
    replace k := k.loc #[.val (.int p1), .val (.int (4 : Int32)), .unset, .unset] (by rw [hx7])
    replace k := k.iloadN at_5 rfl
    obtain ⟨_, _, ⟨rfl, rfl⟩, k⟩ := k.callS (y := (⟨"com/example/tagvec/tagvec/cbor/MajorTypeForNumberPinLaw", "expected", "(I)Lcom/example/tagvec/tagvec/cbor/MajorType;"⟩ : MethodName)) at_6 (hw _ (List.mem_of_getElem? (i := 0) rfl)) (hw _ (List.mem_of_getElem? (i := 1) rfl)) (hw _ (List.mem_of_getElem? (i := 2) rfl)) (hw _ (List.mem_of_getElem? (i := 3) rfl)) (W := 0) (argsL := [(.int (4 : Int32))]) (rest := []) (rm1 Z a0 hw (4 : Int32) a_UNSIGNED_INTEGER a_NEGATIVE_INTEGER a_BYTE_STRING a_TEXT_STRING a_ARRAY a_MAP a_TAG a_SIMPLE_OR_FLOAT h0 n0 S_UNSIGNED_INTEGER S_NEGATIVE_INTEGER S_BYTE_STRING S_TEXT_STRING S_ARRAY S_MAP S_TAG S_SIMPLE_OR_FLOAT) rfl (pd_0) rfl rfl rfl (by decide) (by decide) (by decide) (by decide) (by decide)
    replace k := k.stk [(own_exp (4 : Int32) a_UNSIGNED_INTEGER a_NEGATIVE_INTEGER a_BYTE_STRING a_TEXT_STRING a_ARRAY a_MAP a_TAG a_SIMPLE_OR_FLOAT)] rfl
    replace k := k.stk [(.ref a_ARRAY)] rfl
    replace k := k.astoreN #[.val (.int p1), .val (.int (4 : Int32)), .val (.ref a_ARRAY), .unset] at_9 rfl rfl
    replace k := k.iloadN at_10 rfl
    obtain ⟨_, _, ⟨rfl, rfl⟩, k⟩ := k.callS (y := (⟨"com/example/tagvec/tagvec/cbor/MajorType", "forNumber", "(I)Lcom/example/tagvec/tagvec/cbor/MajorType;"⟩ : MethodName)) at_11 (hw _ (List.mem_of_getElem? (i := 7) rfl)) (hw _ (List.mem_of_getElem? (i := 8) rfl)) (hw _ (List.mem_of_getElem? (i := 5) rfl)) (hw _ (List.mem_of_getElem? (i := 9) rfl)) (W := 0) (argsL := [(.int (4 : Int32))]) (rest := []) (rm2 Z a0 hw (4 : Int32) a_BY_NUMBER a_ARRAY (own_arr a_UNSIGNED_INTEGER a_NEGATIVE_INTEGER a_BYTE_STRING a_TEXT_STRING a_ARRAY a_MAP a_TAG a_SIMPLE_OR_FLOAT) 4 h0 n0 S_BY_NUMBER Af (by decide) (by decide) (own_at4 _ _ _ _ _ _ _ _) (by decide) (by decide)) rfl (pd_0) rfl rfl rfl (by decide) (by decide) (by decide) (by decide) (by decide)
    replace k := k.stk [(.ref a_ARRAY)] rfl
    replace k := k.astoreN #[.val (.int p1), .val (.int (4 : Int32)), .val (.ref a_ARRAY), .val (.ref a_ARRAY)] at_14 rfl rfl
    replace k := k.aloadN at_15 rfl rfl
    replace k := k.aloadN at_16 rfl rfl
    replace k := k.acmpNo at_17 rfl rfl (ac_eq rfl).2
    replace k := k.aloadN at_20 rfl rfl
    obtain ⟨_, _, ⟨rfl, rfl⟩, k⟩ := k.callV (y := (⟨"com/example/tagvec/tagvec/cbor/MajorType", "number", "()I"⟩ : MethodName)) (z := (⟨"com/example/tagvec/tagvec/cbor/MajorType", "number", "()I"⟩ : MethodName)) (a := a_ARRAY) at_21 (hw _ (List.mem_of_getElem? (i := 12) rfl)) (hw _ (List.mem_of_getElem? (i := 13) rfl)) (fun s hs => notFace_of_selects (args := #[]) (mvT hs (hw _ (List.mem_of_getElem? (i := 15) rfl)))) (hw _ (List.mem_of_getElem? (i := 15) rfl)) (hw _ (List.mem_of_getElem? (i := 14) rfl)) (hw _ (List.mem_of_getElem? (i := 5) rfl)) (hw _ (List.mem_of_getElem? (i := 16) rfl)) E_ARRAY (W := 0) (argsL := []) (rest := []) (rm3 Z a0 hw a_ARRAY (4 : Int32) h0 n0 F_ARRAY_number) rfl (pd_1) rfl rfl rfl (by decide) (by decide) (by decide) (by decide) (by decide)
    replace k := k.stk [(.int (4 : Int32))] rfl
    replace k := k.iloadN at_24 rfl
    replace k := k.icmpNo at_25 (by decide)
    replace k := k.iconst (1 : Int32) at_28 rfl
    replace k := k.goto (pc' := 33) at_29 (by decide) (by decide)
    exact k.iret at_33 rfl (by simp) rfl rfl (by decide) (by decide)
  · skip
    replace k := k.loc #[.val (.int p1), .val (.int (5 : Int32)), .unset, .unset] (by rw [hx7])
    replace k := k.iloadN at_5 rfl
    obtain ⟨_, _, ⟨rfl, rfl⟩, k⟩ := k.callS (y := (⟨"com/example/tagvec/tagvec/cbor/MajorTypeForNumberPinLaw", "expected", "(I)Lcom/example/tagvec/tagvec/cbor/MajorType;"⟩ : MethodName)) at_6 (hw _ (List.mem_of_getElem? (i := 0) rfl)) (hw _ (List.mem_of_getElem? (i := 1) rfl)) (hw _ (List.mem_of_getElem? (i := 2) rfl)) (hw _ (List.mem_of_getElem? (i := 3) rfl)) (W := 0) (argsL := [(.int (5 : Int32))]) (rest := []) (rm1 Z a0 hw (5 : Int32) a_UNSIGNED_INTEGER a_NEGATIVE_INTEGER a_BYTE_STRING a_TEXT_STRING a_ARRAY a_MAP a_TAG a_SIMPLE_OR_FLOAT h0 n0 S_UNSIGNED_INTEGER S_NEGATIVE_INTEGER S_BYTE_STRING S_TEXT_STRING S_ARRAY S_MAP S_TAG S_SIMPLE_OR_FLOAT) rfl (pd_0) rfl rfl rfl (by decide) (by decide) (by decide) (by decide) (by decide)
    replace k := k.stk [(own_exp (5 : Int32) a_UNSIGNED_INTEGER a_NEGATIVE_INTEGER a_BYTE_STRING a_TEXT_STRING a_ARRAY a_MAP a_TAG a_SIMPLE_OR_FLOAT)] rfl
    replace k := k.stk [(.ref a_MAP)] rfl
    replace k := k.astoreN #[.val (.int p1), .val (.int (5 : Int32)), .val (.ref a_MAP), .unset] at_9 rfl rfl
    replace k := k.iloadN at_10 rfl
    obtain ⟨_, _, ⟨rfl, rfl⟩, k⟩ := k.callS (y := (⟨"com/example/tagvec/tagvec/cbor/MajorType", "forNumber", "(I)Lcom/example/tagvec/tagvec/cbor/MajorType;"⟩ : MethodName)) at_11 (hw _ (List.mem_of_getElem? (i := 7) rfl)) (hw _ (List.mem_of_getElem? (i := 8) rfl)) (hw _ (List.mem_of_getElem? (i := 5) rfl)) (hw _ (List.mem_of_getElem? (i := 9) rfl)) (W := 0) (argsL := [(.int (5 : Int32))]) (rest := []) (rm2 Z a0 hw (5 : Int32) a_BY_NUMBER a_MAP (own_arr a_UNSIGNED_INTEGER a_NEGATIVE_INTEGER a_BYTE_STRING a_TEXT_STRING a_ARRAY a_MAP a_TAG a_SIMPLE_OR_FLOAT) 5 h0 n0 S_BY_NUMBER Af (by decide) (by decide) (own_at5 _ _ _ _ _ _ _ _) (by decide) (by decide)) rfl (pd_0) rfl rfl rfl (by decide) (by decide) (by decide) (by decide) (by decide)
    replace k := k.stk [(.ref a_MAP)] rfl
    replace k := k.astoreN #[.val (.int p1), .val (.int (5 : Int32)), .val (.ref a_MAP), .val (.ref a_MAP)] at_14 rfl rfl
    replace k := k.aloadN at_15 rfl rfl
    replace k := k.aloadN at_16 rfl rfl
    replace k := k.acmpNo at_17 rfl rfl (ac_eq rfl).2
    replace k := k.aloadN at_20 rfl rfl
    obtain ⟨_, _, ⟨rfl, rfl⟩, k⟩ := k.callV (y := (⟨"com/example/tagvec/tagvec/cbor/MajorType", "number", "()I"⟩ : MethodName)) (z := (⟨"com/example/tagvec/tagvec/cbor/MajorType", "number", "()I"⟩ : MethodName)) (a := a_MAP) at_21 (hw _ (List.mem_of_getElem? (i := 12) rfl)) (hw _ (List.mem_of_getElem? (i := 13) rfl)) (fun s hs => notFace_of_selects (args := #[]) (mvT hs (hw _ (List.mem_of_getElem? (i := 15) rfl)))) (hw _ (List.mem_of_getElem? (i := 15) rfl)) (hw _ (List.mem_of_getElem? (i := 14) rfl)) (hw _ (List.mem_of_getElem? (i := 5) rfl)) (hw _ (List.mem_of_getElem? (i := 16) rfl)) E_MAP (W := 0) (argsL := []) (rest := []) (rm3 Z a0 hw a_MAP (5 : Int32) h0 n0 F_MAP_number) rfl (pd_1) rfl rfl rfl (by decide) (by decide) (by decide) (by decide) (by decide)
    replace k := k.stk [(.int (5 : Int32))] rfl
    replace k := k.iloadN at_24 rfl
    replace k := k.icmpNo at_25 (by decide)
    replace k := k.iconst (1 : Int32) at_28 rfl
    replace k := k.goto (pc' := 33) at_29 (by decide) (by decide)
    exact k.iret at_33 rfl (by simp) rfl rfl (by decide) (by decide)
  · skip
    replace k := k.loc #[.val (.int p1), .val (.int (6 : Int32)), .unset, .unset] (by rw [hx7])
    replace k := k.iloadN at_5 rfl
    obtain ⟨_, _, ⟨rfl, rfl⟩, k⟩ := k.callS (y := (⟨"com/example/tagvec/tagvec/cbor/MajorTypeForNumberPinLaw", "expected", "(I)Lcom/example/tagvec/tagvec/cbor/MajorType;"⟩ : MethodName)) at_6 (hw _ (List.mem_of_getElem? (i := 0) rfl)) (hw _ (List.mem_of_getElem? (i := 1) rfl)) (hw _ (List.mem_of_getElem? (i := 2) rfl)) (hw _ (List.mem_of_getElem? (i := 3) rfl)) (W := 0) (argsL := [(.int (6 : Int32))]) (rest := []) (rm1 Z a0 hw (6 : Int32) a_UNSIGNED_INTEGER a_NEGATIVE_INTEGER a_BYTE_STRING a_TEXT_STRING a_ARRAY a_MAP a_TAG a_SIMPLE_OR_FLOAT h0 n0 S_UNSIGNED_INTEGER S_NEGATIVE_INTEGER S_BYTE_STRING S_TEXT_STRING S_ARRAY S_MAP S_TAG S_SIMPLE_OR_FLOAT) rfl (pd_0) rfl rfl rfl (by decide) (by decide) (by decide) (by decide) (by decide)
    replace k := k.stk [(own_exp (6 : Int32) a_UNSIGNED_INTEGER a_NEGATIVE_INTEGER a_BYTE_STRING a_TEXT_STRING a_ARRAY a_MAP a_TAG a_SIMPLE_OR_FLOAT)] rfl
    replace k := k.stk [(.ref a_TAG)] rfl
    replace k := k.astoreN #[.val (.int p1), .val (.int (6 : Int32)), .val (.ref a_TAG), .unset] at_9 rfl rfl
    replace k := k.iloadN at_10 rfl
    obtain ⟨_, _, ⟨rfl, rfl⟩, k⟩ := k.callS (y := (⟨"com/example/tagvec/tagvec/cbor/MajorType", "forNumber", "(I)Lcom/example/tagvec/tagvec/cbor/MajorType;"⟩ : MethodName)) at_11 (hw _ (List.mem_of_getElem? (i := 7) rfl)) (hw _ (List.mem_of_getElem? (i := 8) rfl)) (hw _ (List.mem_of_getElem? (i := 5) rfl)) (hw _ (List.mem_of_getElem? (i := 9) rfl)) (W := 0) (argsL := [(.int (6 : Int32))]) (rest := []) (rm2 Z a0 hw (6 : Int32) a_BY_NUMBER a_TAG (own_arr a_UNSIGNED_INTEGER a_NEGATIVE_INTEGER a_BYTE_STRING a_TEXT_STRING a_ARRAY a_MAP a_TAG a_SIMPLE_OR_FLOAT) 6 h0 n0 S_BY_NUMBER Af (by decide) (by decide) (own_at6 _ _ _ _ _ _ _ _) (by decide) (by decide)) rfl (pd_0) rfl rfl rfl (by decide) (by decide) (by decide) (by decide) (by decide)
    replace k := k.stk [(.ref a_TAG)] rfl
    replace k := k.astoreN #[.val (.int p1), .val (.int (6 : Int32)), .val (.ref a_TAG), .val (.ref a_TAG)] at_14 rfl rfl
    replace k := k.aloadN at_15 rfl rfl
    replace k := k.aloadN at_16 rfl rfl
    replace k := k.acmpNo at_17 rfl rfl (ac_eq rfl).2
    replace k := k.aloadN at_20 rfl rfl
    obtain ⟨_, _, ⟨rfl, rfl⟩, k⟩ := k.callV (y := (⟨"com/example/tagvec/tagvec/cbor/MajorType", "number", "()I"⟩ : MethodName)) (z := (⟨"com/example/tagvec/tagvec/cbor/MajorType", "number", "()I"⟩ : MethodName)) (a := a_TAG) at_21 (hw _ (List.mem_of_getElem? (i := 12) rfl)) (hw _ (List.mem_of_getElem? (i := 13) rfl)) (fun s hs => notFace_of_selects (args := #[]) (mvT hs (hw _ (List.mem_of_getElem? (i := 15) rfl)))) (hw _ (List.mem_of_getElem? (i := 15) rfl)) (hw _ (List.mem_of_getElem? (i := 14) rfl)) (hw _ (List.mem_of_getElem? (i := 5) rfl)) (hw _ (List.mem_of_getElem? (i := 16) rfl)) E_TAG (W := 0) (argsL := []) (rest := []) (rm3 Z a0 hw a_TAG (6 : Int32) h0 n0 F_TAG_number) rfl (pd_1) rfl rfl rfl (by decide) (by decide) (by decide) (by decide) (by decide)
    replace k := k.stk [(.int (6 : Int32))] rfl
    replace k := k.iloadN at_24 rfl
    replace k := k.icmpNo at_25 (by decide)
    replace k := k.iconst (1 : Int32) at_28 rfl
    replace k := k.goto (pc' := 33) at_29 (by decide) (by decide)
    exact k.iret at_33 rfl (by simp) rfl rfl (by decide) (by decide)
  · skip
    replace k := k.loc #[.val (.int p1), .val (.int (7 : Int32)), .unset, .unset] (by rw [hx7])
    replace k := k.iloadN at_5 rfl
    obtain ⟨_, _, ⟨rfl, rfl⟩, k⟩ := k.callS (y := (⟨"com/example/tagvec/tagvec/cbor/MajorTypeForNumberPinLaw", "expected", "(I)Lcom/example/tagvec/tagvec/cbor/MajorType;"⟩ : MethodName)) at_6 (hw _ (List.mem_of_getElem? (i := 0) rfl)) (hw _ (List.mem_of_getElem? (i := 1) rfl)) (hw _ (List.mem_of_getElem? (i := 2) rfl)) (hw _ (List.mem_of_getElem? (i := 3) rfl)) (W := 0) (argsL := [(.int (7 : Int32))]) (rest := []) (rm1 Z a0 hw (7 : Int32) a_UNSIGNED_INTEGER a_NEGATIVE_INTEGER a_BYTE_STRING a_TEXT_STRING a_ARRAY a_MAP a_TAG a_SIMPLE_OR_FLOAT h0 n0 S_UNSIGNED_INTEGER S_NEGATIVE_INTEGER S_BYTE_STRING S_TEXT_STRING S_ARRAY S_MAP S_TAG S_SIMPLE_OR_FLOAT) rfl (pd_0) rfl rfl rfl (by decide) (by decide) (by decide) (by decide) (by decide)
    replace k := k.stk [(own_exp (7 : Int32) a_UNSIGNED_INTEGER a_NEGATIVE_INTEGER a_BYTE_STRING a_TEXT_STRING a_ARRAY a_MAP a_TAG a_SIMPLE_OR_FLOAT)] rfl
    replace k := k.stk [(.ref a_SIMPLE_OR_FLOAT)] rfl
    replace k := k.astoreN #[.val (.int p1), .val (.int (7 : Int32)), .val (.ref a_SIMPLE_OR_FLOAT), .unset] at_9 rfl rfl
    replace k := k.iloadN at_10 rfl
    obtain ⟨_, _, ⟨rfl, rfl⟩, k⟩ := k.callS (y := (⟨"com/example/tagvec/tagvec/cbor/MajorType", "forNumber", "(I)Lcom/example/tagvec/tagvec/cbor/MajorType;"⟩ : MethodName)) at_11 (hw _ (List.mem_of_getElem? (i := 7) rfl)) (hw _ (List.mem_of_getElem? (i := 8) rfl)) (hw _ (List.mem_of_getElem? (i := 5) rfl)) (hw _ (List.mem_of_getElem? (i := 9) rfl)) (W := 0) (argsL := [(.int (7 : Int32))]) (rest := []) (rm2 Z a0 hw (7 : Int32) a_BY_NUMBER a_SIMPLE_OR_FLOAT (own_arr a_UNSIGNED_INTEGER a_NEGATIVE_INTEGER a_BYTE_STRING a_TEXT_STRING a_ARRAY a_MAP a_TAG a_SIMPLE_OR_FLOAT) 7 h0 n0 S_BY_NUMBER Af (by decide) (by decide) (own_at7 _ _ _ _ _ _ _ _) (by decide) (by decide)) rfl (pd_0) rfl rfl rfl (by decide) (by decide) (by decide) (by decide) (by decide)
    replace k := k.stk [(.ref a_SIMPLE_OR_FLOAT)] rfl
    replace k := k.astoreN #[.val (.int p1), .val (.int (7 : Int32)), .val (.ref a_SIMPLE_OR_FLOAT), .val (.ref a_SIMPLE_OR_FLOAT)] at_14 rfl rfl
    replace k := k.aloadN at_15 rfl rfl
    replace k := k.aloadN at_16 rfl rfl
    replace k := k.acmpNo at_17 rfl rfl (ac_eq rfl).2
    replace k := k.aloadN at_20 rfl rfl
    obtain ⟨_, _, ⟨rfl, rfl⟩, k⟩ := k.callV (y := (⟨"com/example/tagvec/tagvec/cbor/MajorType", "number", "()I"⟩ : MethodName)) (z := (⟨"com/example/tagvec/tagvec/cbor/MajorType", "number", "()I"⟩ : MethodName)) (a := a_SIMPLE_OR_FLOAT) at_21 (hw _ (List.mem_of_getElem? (i := 12) rfl)) (hw _ (List.mem_of_getElem? (i := 13) rfl)) (fun s hs => notFace_of_selects (args := #[]) (mvT hs (hw _ (List.mem_of_getElem? (i := 15) rfl)))) (hw _ (List.mem_of_getElem? (i := 15) rfl)) (hw _ (List.mem_of_getElem? (i := 14) rfl)) (hw _ (List.mem_of_getElem? (i := 5) rfl)) (hw _ (List.mem_of_getElem? (i := 16) rfl)) E_SIMPLE_OR_FLOAT (W := 0) (argsL := []) (rest := []) (rm3 Z a0 hw a_SIMPLE_OR_FLOAT (7 : Int32) h0 n0 F_SIMPLE_OR_FLOAT_number) rfl (pd_1) rfl rfl rfl (by decide) (by decide) (by decide) (by decide) (by decide)
    replace k := k.stk [(.int (7 : Int32))] rfl
    replace k := k.iloadN at_24 rfl
    replace k := k.icmpNo at_25 (by decide)
    replace k := k.iconst (1 : Int32) at_28 rfl
    replace k := k.goto (pc' := 33) at_29 (by decide) (by decide)
    exact k.iret at_33 rfl (by simp) rfl rfl (by decide) (by decide)
set_option maxRecDepth 65536 in
set_option maxHeartbeats 40000000 in
theorem comes_1 {Post : Tables → Env → Array Value → State → Outcome → State → Prop} (hpost : ∀ tb e args s v u, (limb_1_1.after args s (.returned v) u = true ∧ limb_1_2.after args s (.returned v) u = true ∧ True) → FrameEnd s (.returned v) u (Jvm.fieldLocs frame_1_writes args s ++ Jvm.arrayLocs frame_1_arrays args s ++ Jvm.staticLocs frame_1_statics s) 0 0 → Post tb e args s (.returned v) u) :
    ArmFor flags0 classFile x code maxLocals ret World_1 tables_1 room_1 Calls_1 rest_1 Pre_1 Post := by
  intro l hfl _ _ p e ha hc hk s m args below hf hA hF happ hP
  obtain ⟨hcalls, hrest, hpre⟩ := hP
  obtain ⟨-, -, -, hnamed, -, -, -, hat⟩ := (Spec.applies_iff hf).mp happ
  obtain ⟨hg, hn⟩ := and_e (Cond.before_iff.mp (show (Jvm.Cond.and given_1 narrow_1).before args s = true from hpre))
  obtain ⟨gg0, gr0⟩ := and_e hg
  obtain ⟨w0, rfl⟩ : ∃ w0 : Value, args = #[w0] := by
    have hs : args.size = 1 := by simpa [Cond.value, given_1] using gg0
    obtain ⟨L⟩ := args
    match L, hs with
    | [w0], _ => exact ⟨w0, rfl⟩
  have hw := fun d (hd : d ∈ tables_1) => atoms_spec (ws := Jvm.Cond.code x code maxLocals ret :: tables_1) hat d (List.mem_cons_of_mem _ hd)
  have hfit : Fit s := fun {y c} hc i hi => by
    obtain ⟨ha, rfl⟩ := Array.getElem?_eq_some_iff.mp hc
    have q := List.all_eq_true.mp ((Array.all_eq_true_iff_forall_mem.mp hF) _ (Array.getElem_mem ha)) i (List.mem_range.mpr hi)
    simpa [Array.getElem?_eq_getElem hi] using q
  obtain ⟨i0, ei0⟩ := is_v gr0
  obtain rfl : w0 = (.int i0) := Option.some.inj ei0
  obtain ⟨nc0, nr0⟩ := and_e hn
  obtain ⟨nc1, nr1⟩ := and_e nr0
  obtain ⟨nc2, nr2⟩ := and_e nr1
  obtain ⟨nc3, nr3⟩ := and_e nr2
  obtain ⟨nc4, nr4⟩ := and_e nr3
  obtain ⟨nc5, nr5⟩ := and_e nr4
  obtain ⟨nc6, nr6⟩ := and_e nr5
  obtain ⟨nc7, nr7⟩ := and_e nr6
  obtain ⟨nc8, nr8⟩ := and_e nr7
  obtain ⟨nc9, nr9⟩ := and_e nr8
  obtain ⟨nc10, nr10⟩ := and_e nr9
  obtain ⟨nc11, nr11⟩ := and_e nr10
  obtain ⟨nc12, nr12⟩ := and_e nr11
  obtain ⟨nc13, nr13⟩ := and_e nr12
  obtain ⟨nc14, nr14⟩ := and_e nr13
  obtain ⟨nc15, nr15⟩ := and_e nr14
  obtain ⟨nc16, nr16⟩ := and_e nr15
  obtain ⟨nc17, nr17⟩ := and_e nr16
  obtain ⟨nc18, nr18⟩ := and_e nr17
  obtain ⟨nc19, nr19⟩ := and_e nr18
  obtain ⟨nc20, nr20⟩ := and_e nr19
  obtain ⟨nc21, nr21⟩ := and_e nr20
  obtain ⟨nc22, nr22⟩ := and_e nr21
  obtain ⟨nc23, nr23⟩ := and_e nr22
  obtain ⟨nc24, nr24⟩ := and_e nr23
  obtain ⟨a_UNSIGNED_INTEGER, ev_UNSIGNED_INTEGER⟩ := exa_v nc0
  have S_UNSIGNED_INTEGER : Sta s s.heap "com/example/tagvec/tagvec/cbor/MajorType" "UNSIGNED_INTEGER" "Lcom/example/tagvec/tagvec/cbor/MajorType;" (.ref a_UNSIGNED_INTEGER) := Sta.start ev_UNSIGNED_INTEGER (Or.inr ⟨(hw _ (List.mem_of_getElem? (i := 5) rfl)), (hw _ (List.mem_of_getElem? (i := 6) rfl))⟩)
  have E_UNSIGNED_INTEGER : Exa s s.heap a_UNSIGNED_INTEGER "com/example/tagvec/tagvec/cbor/MajorType" := Exa.start ev_UNSIGNED_INTEGER nc0
  obtain ⟨a_BY_NUMBER, ev_BY_NUMBER⟩ := arr_v nc1
  have S_BY_NUMBER : Sta s s.heap "com/example/tagvec/tagvec/cbor/MajorType" "BY_NUMBER" "[Lcom/example/tagvec/tagvec/cbor/MajorType;" (.ref a_BY_NUMBER) := Sta.start ev_BY_NUMBER (Or.inr ⟨(hw _ (List.mem_of_getElem? (i := 5) rfl)), (hw _ (List.mem_of_getElem? (i := 11) rfl))⟩)
  obtain ⟨cl_BY_NUMBER, Ar_BY_NUMBER⟩ := Arr.start ev_BY_NUMBER nc1
  have Sz_BY_NUMBER : cl_BY_NUMBER.slots.size = 8 := own_len ev_BY_NUMBER Ar_BY_NUMBER (own_eqv nc2) (by decide)
  have at_BY_NUMBER_0 : cl_BY_NUMBER.slots[0]? = some (.ref a_UNSIGNED_INTEGER) := (elem_in (own_eqr ev_UNSIGNED_INTEGER nc3) ev_BY_NUMBER (Term.int_eval _) Ar_BY_NUMBER.1).2
  have F_UNSIGNED_INTEGER_number : Fld s s.heap a_UNSIGNED_INTEGER "com/example/tagvec/tagvec/cbor/MajorType" "number" "I" (.int (0 : Int32)) := Fld.start ((fld_at ev_UNSIGNED_INTEGER).symm.trans (own_eqv nc4))
  obtain ⟨a_TEXT_STRING, ev_TEXT_STRING⟩ := exa_v nc5
  have S_TEXT_STRING : Sta s s.heap "com/example/tagvec/tagvec/cbor/MajorType" "TEXT_STRING" "Lcom/example/tagvec/tagvec/cbor/MajorType;" (.ref a_TEXT_STRING) := Sta.start ev_TEXT_STRING (Or.inr ⟨(hw _ (List.mem_of_getElem? (i := 5) rfl)), (hw _ (List.mem_of_getElem? (i := 20) rfl))⟩)
  have E_TEXT_STRING : Exa s s.heap a_TEXT_STRING "com/example/tagvec/tagvec/cbor/MajorType" := Exa.start ev_TEXT_STRING nc5
  have at_BY_NUMBER_3 : cl_BY_NUMBER.slots[3]? = some (.ref a_TEXT_STRING) := (elem_in (own_eqr ev_TEXT_STRING nc6) ev_BY_NUMBER (Term.int_eval _) Ar_BY_NUMBER.1).2
  have F_TEXT_STRING_number : Fld s s.heap a_TEXT_STRING "com/example/tagvec/tagvec/cbor/MajorType" "number" "I" (.int (3 : Int32)) := Fld.start ((fld_at ev_TEXT_STRING).symm.trans (own_eqv nc7))
  obtain ⟨a_TAG, ev_TAG⟩ := exa_v nc8
  have S_TAG : Sta s s.heap "com/example/tagvec/tagvec/cbor/MajorType" "TAG" "Lcom/example/tagvec/tagvec/cbor/MajorType;" (.ref a_TAG) := Sta.start ev_TAG (Or.inr ⟨(hw _ (List.mem_of_getElem? (i := 5) rfl)), (hw _ (List.mem_of_getElem? (i := 22) rfl))⟩)
  have E_TAG : Exa s s.heap a_TAG "com/example/tagvec/tagvec/cbor/MajorType" := Exa.start ev_TAG nc8
  have at_BY_NUMBER_6 : cl_BY_NUMBER.slots[6]? = some (.ref a_TAG) := (elem_in (own_eqr ev_TAG nc9) ev_BY_NUMBER (Term.int_eval _) Ar_BY_NUMBER.1).2
  have F_TAG_number : Fld s s.heap a_TAG "com/example/tagvec/tagvec/cbor/MajorType" "number" "I" (.int (6 : Int32)) := Fld.start ((fld_at ev_TAG).symm.trans (own_eqv nc10))
  obtain ⟨a_SIMPLE_OR_FLOAT, ev_SIMPLE_OR_FLOAT⟩ := exa_v nc11
  have S_SIMPLE_OR_FLOAT : Sta s s.heap "com/example/tagvec/tagvec/cbor/MajorType" "SIMPLE_OR_FLOAT" "Lcom/example/tagvec/tagvec/cbor/MajorType;" (.ref a_SIMPLE_OR_FLOAT) := Sta.start ev_SIMPLE_OR_FLOAT (Or.inr ⟨(hw _ (List.mem_of_getElem? (i := 5) rfl)), (hw _ (List.mem_of_getElem? (i := 24) rfl))⟩)
  have E_SIMPLE_OR_FLOAT : Exa s s.heap a_SIMPLE_OR_FLOAT "com/example/tagvec/tagvec/cbor/MajorType" := Exa.start ev_SIMPLE_OR_FLOAT nc11
  have at_BY_NUMBER_7 : cl_BY_NUMBER.slots[7]? = some (.ref a_SIMPLE_OR_FLOAT) := (elem_in (own_eqr ev_SIMPLE_OR_FLOAT nc12) ev_BY_NUMBER (Term.int_eval _) Ar_BY_NUMBER.1).2
  have F_SIMPLE_OR_FLOAT_number : Fld s s.heap a_SIMPLE_OR_FLOAT "com/example/tagvec/tagvec/cbor/MajorType" "number" "I" (.int (7 : Int32)) := Fld.start ((fld_at ev_SIMPLE_OR_FLOAT).symm.trans (own_eqv nc13))
  obtain ⟨a_BYTE_STRING, ev_BYTE_STRING⟩ := exa_v nc14
  have S_BYTE_STRING : Sta s s.heap "com/example/tagvec/tagvec/cbor/MajorType" "BYTE_STRING" "Lcom/example/tagvec/tagvec/cbor/MajorType;" (.ref a_BYTE_STRING) := Sta.start ev_BYTE_STRING (Or.inr ⟨(hw _ (List.mem_of_getElem? (i := 5) rfl)), (hw _ (List.mem_of_getElem? (i := 26) rfl))⟩)
  have E_BYTE_STRING : Exa s s.heap a_BYTE_STRING "com/example/tagvec/tagvec/cbor/MajorType" := Exa.start ev_BYTE_STRING nc14
  have at_BY_NUMBER_2 : cl_BY_NUMBER.slots[2]? = some (.ref a_BYTE_STRING) := (elem_in (own_eqr ev_BYTE_STRING nc15) ev_BY_NUMBER (Term.int_eval _) Ar_BY_NUMBER.1).2
  have F_BYTE_STRING_number : Fld s s.heap a_BYTE_STRING "com/example/tagvec/tagvec/cbor/MajorType" "number" "I" (.int (2 : Int32)) := Fld.start ((fld_at ev_BYTE_STRING).symm.trans (own_eqv nc16))
  obtain ⟨a_NEGATIVE_INTEGER, ev_NEGATIVE_INTEGER⟩ := exa_v nc17
  have S_NEGATIVE_INTEGER : Sta s s.heap "com/example/tagvec/tagvec/cbor/MajorType" "NEGATIVE_INTEGER" "Lcom/example/tagvec/tagvec/cbor/MajorType;" (.ref a_NEGATIVE_INTEGER) := Sta.start ev_NEGATIVE_INTEGER (Or.inr ⟨(hw _ (List.mem_of_getElem? (i := 5) rfl)), (hw _ (List.mem_of_getElem? (i := 28) rfl))⟩)
  have E_NEGATIVE_INTEGER : Exa s s.heap a_NEGATIVE_INTEGER "com/example/tagvec/tagvec/cbor/MajorType" := Exa.start ev_NEGATIVE_INTEGER nc17
  have at_BY_NUMBER_1 : cl_BY_NUMBER.slots[1]? = some (.ref a_NEGATIVE_INTEGER) := (elem_in (own_eqr ev_NEGATIVE_INTEGER nc18) ev_BY_NUMBER (Term.int_eval _) Ar_BY_NUMBER.1).2
  have F_NEGATIVE_INTEGER_number : Fld s s.heap a_NEGATIVE_INTEGER "com/example/tagvec/tagvec/cbor/MajorType" "number" "I" (.int (1 : Int32)) := Fld.start ((fld_at ev_NEGATIVE_INTEGER).symm.trans (own_eqv nc19))
  obtain ⟨a_ARRAY, ev_ARRAY⟩ := exa_v nc20
  have S_ARRAY : Sta s s.heap "com/example/tagvec/tagvec/cbor/MajorType" "ARRAY" "Lcom/example/tagvec/tagvec/cbor/MajorType;" (.ref a_ARRAY) := Sta.start ev_ARRAY (Or.inr ⟨(hw _ (List.mem_of_getElem? (i := 5) rfl)), (hw _ (List.mem_of_getElem? (i := 30) rfl))⟩)
  have E_ARRAY : Exa s s.heap a_ARRAY "com/example/tagvec/tagvec/cbor/MajorType" := Exa.start ev_ARRAY nc20
  have at_BY_NUMBER_4 : cl_BY_NUMBER.slots[4]? = some (.ref a_ARRAY) := (elem_in (own_eqr ev_ARRAY nc21) ev_BY_NUMBER (Term.int_eval _) Ar_BY_NUMBER.1).2
  have F_ARRAY_number : Fld s s.heap a_ARRAY "com/example/tagvec/tagvec/cbor/MajorType" "number" "I" (.int (4 : Int32)) := Fld.start ((fld_at ev_ARRAY).symm.trans (own_eqv nc22))
  obtain ⟨a_MAP, ev_MAP⟩ := exa_v nc23
  have S_MAP : Sta s s.heap "com/example/tagvec/tagvec/cbor/MajorType" "MAP" "Lcom/example/tagvec/tagvec/cbor/MajorType;" (.ref a_MAP) := Sta.start ev_MAP (Or.inr ⟨(hw _ (List.mem_of_getElem? (i := 5) rfl)), (hw _ (List.mem_of_getElem? (i := 32) rfl))⟩)
  have E_MAP : Exa s s.heap a_MAP "com/example/tagvec/tagvec/cbor/MajorType" := Exa.start ev_MAP nc23
  have at_BY_NUMBER_5 : cl_BY_NUMBER.slots[5]? = some (.ref a_MAP) := (elem_in (own_eqr ev_MAP nc24) ev_BY_NUMBER (Term.int_eval _) Ar_BY_NUMBER.1).2
  have F_MAP_number : Fld s s.heap a_MAP "com/example/tagvec/tagvec/cbor/MajorType" "number" "I" (.int (5 : Int32)) := Fld.start ((fld_at ev_MAP).symm.trans (own_eqv nr24))
  obtain ⟨n, o, h1, h2, h3, _, L, rfl, ⟨rfl, N⟩, hq⟩ := rm0 s _ hw i0 a_UNSIGNED_INTEGER a_BY_NUMBER cl_BY_NUMBER a_TEXT_STRING a_TAG a_SIMPLE_OR_FLOAT a_BYTE_STRING a_NEGATIVE_INTEGER a_ARRAY a_MAP s.heap s.heap.size S_UNSIGNED_INTEGER E_UNSIGNED_INTEGER S_BY_NUMBER Ar_BY_NUMBER Sz_BY_NUMBER at_BY_NUMBER_0 F_UNSIGNED_INTEGER_number S_TEXT_STRING E_TEXT_STRING at_BY_NUMBER_3 F_TEXT_STRING_number S_TAG E_TAG at_BY_NUMBER_6 F_TAG_number S_SIMPLE_OR_FLOAT E_SIMPLE_OR_FLOAT at_BY_NUMBER_7 F_SIMPLE_OR_FLOAT_number S_BYTE_STRING E_BYTE_STRING at_BY_NUMBER_2 F_BYTE_STRING_number S_NEGATIVE_INTEGER E_NEGATIVE_INTEGER at_BY_NUMBER_1 F_NEGATIVE_INTEGER_number S_ARRAY E_ARRAY at_BY_NUMBER_4 F_ARRAY_number S_MAP E_MAP at_BY_NUMBER_5 F_MAP_number l p e ha hc hk s m _ below hf ((Spec.applies_iff_loose hf).mp happ).1 ⟨rfl, State.Warmed39.refl s, rfl⟩ trivial
  refine ⟨n, _, h1, h2, h3, hpost _ _ _ _ _ _ ⟨Cond.after_iff.mpr rfl, Cond.after_iff.mpr (eq_i res_at (Term.int_eval (1)) rfl), trivial⟩ ⟨hq.1, hq.2.1, (hq.2.2.sift fun y hy => Or.inr (N y hy)).mono (by decide) (by decide)⟩⟩
theorem main_1_1 : Claimed_1_1 := comes_1 fun _ _ _ _ _ _ h hF => ⟨h.1, hF⟩
theorem main_1_2 : Claimed_1_2 := comes_1 fun _ _ _ _ _ _ h hF => ⟨h.2.1, hF⟩
end Jvm.Pilot.@@N@@
namespace Jvm.Pilot.@@N@@
open Jvm Jvm.ClassFile Sem Op Lib Jvm.Free Jvm.Stand Jvm.Pilot.@@N@@.Jvm.D
/-! MADE BY PROGRAM (witnessworld.py) out of the Statement's table words and the real class files: 13 classes; the members and pool entries that the words name. The judged class is class 1, her method 2. -/
namespace start1
open Jvm.ClassFile
def u (s : String) : CpInfo := .utf8 (stringToUtf16 s)
/-- a pool by its gaps: so many unusable entries, then the entry; so many at the end -/
def gap : Nat → List CpInfo → List CpInfo
  | 0, r => r
  | n + 1, r => .unusable :: gap n r
def poolList (es : List (Nat × CpInfo)) (last : Nat) : List CpInfo := es.foldr (fun e r => gap e.1 (e.2 :: r)) (gap last [])
def pool (es : List (Nat × CpInfo)) (last : Nat) : Array CpInfo := ⟨poolList es last⟩
def fileOf (pool : Array CpInfo) (this : Nat) (attrs : Array Attribute := #[]) (ms : Array MethodInfo := #[]) (fl : Nat := 33) (sup : Nat := 0) (ifs : Array Nat := #[]) (fds : Array FieldInfo := #[]) : ClassFile where
  minorVersion := 0
  majorVersion := 65
  constantPool := pool
  accessFlags := fl
  thisClass := this
  superClass := sup
  interfaces := ifs
  fields := fds
  methods := ms
  attributes := attrs
def plain (name : String) (sup : Option ClassId) : Class where
  name := name
  kind := .ordinary
  loader := none
  accessFlags := 33
  super := sup
  interfaces := #[]
  cf := none
  fields := #[]
  methods := #[]
  instanceTypes := #[]
  staticTypes := #[]
  resolved := #[]
  callSites := []
  init := .initialized
  statics := none
  mirror := none

def pool0 : Array CpInfo := pool [(5, u "<init>"), (0, u "()V"), (1, .class_ 10), (1, u "java/lang/Object")] 113

def k0m0 : Method := { name := "<init>", desc := "()V", sig := { parameters := [], returnType := none }, accessFlags := 1, code := none }
/-- java/lang/Object -/
def k0 : Class := { plain "java/lang/Object" none with
  accessFlags := 33
  interfaces := #[]
  cf := some (fileOf pool0 8 #[] #[{ accessFlags := 1, nameIndex := 5, descriptorIndex := 6, attributes := #[] }] 33 0 #[] #[])
  fields := #[]
  methods := #[k0m0]
  instanceTypes := #[]
  staticTypes := #[]
  resolved := Array.replicate 124 none
  statics := none }

def pool1 : Array CpInfo := pool [(2, .class_ 4), (1, u "java/lang/Object"), (0, u "<init>"), (0, u "()V"), (0, .fieldref 8 9), (0, .class_ 10), (0, .nameAndType 11 12), (0, u "com/example/tagvec/tagvec/cbor/MajorType"), (0, u "UNSIGNED_INTEGER"), (0, u "Lcom/example/tagvec/tagvec/cbor/MajorType;"), (0, .fieldref 8 14), (0, .nameAndType 15 12), (0, u "NEGATIVE_INTEGER"), (0, .fieldref 8 17), (0, .nameAndType 18 12), (0, u "BYTE_STRING"), (0, .fieldref 8 20), (0, .nameAndType 21 12), (0, u "TEXT_STRING"), (0, .fieldref 8 23), (0, .nameAndType 24 12), (0, u "ARRAY"), (0, .fieldref 8 26), (0, .nameAndType 27 12), (0, u "MAP"), (0, .fieldref 8 29), (0, .nameAndType 30 12), (0, u "TAG"), (0, .fieldref 8 32), (0, .nameAndType 33 12), (0, u "SIMPLE_OR_FLOAT"), (0, .methodref 35 36), (0, .class_ 37), (0, .nameAndType 38 39), (0, u "com/example/tagvec/tagvec/cbor/MajorTypeForNumberPinLaw"), (0, u "expected"), (0, u "(I)Lcom/example/tagvec/tagvec/cbor/MajorType;"), (0, .methodref 8 41), (0, .nameAndType 42 39), (0, u "forNumber"), (0, .methodref 8 44), (0, .nameAndType 45 46), (0, u "number"), (0, u "()I"), (3, u "law"), (0, u "(I)Z")] 2

def k1m0 : Method := { name := "<init>", desc := "()V", sig := { parameters := [], returnType := none }, accessFlags := 2, code := none }
def k1c1 : Code := { maxStack := 2, maxLocals := 1, code := method_2_code, exceptionTable := #[], attributes := #[] }
def k1m1 : Method := { name := "expected", desc := "(I)Lcom/example/tagvec/tagvec/cbor/MajorType;", sig := { parameters := [.int], returnType := some (.object "com/example/tagvec/tagvec/cbor/MajorType") }, accessFlags := 10, code := some k1c1 }
def k1c2 : Code := { maxStack := 2, maxLocals := 4, code := code, exceptionTable := #[], attributes := #[] }
def k1m2 : Method := { name := "law", desc := "(I)Z", sig := { parameters := [.int], returnType := some .boolean }, accessFlags := 9, code := some k1c2 }
/-- com/example/tagvec/tagvec/cbor/MajorTypeForNumberPinLaw -/
def k1 : Class := { plain "com/example/tagvec/tagvec/cbor/MajorTypeForNumberPinLaw" (some 0) with
  accessFlags := 49
  interfaces := #[]
  cf := some (fileOf pool1 35 #[] #[{ accessFlags := 2, nameIndex := 5, descriptorIndex := 6, attributes := #[] }, { accessFlags := 10, nameIndex := 38, descriptorIndex := 39, attributes := #[] }, { accessFlags := 9, nameIndex := 50, descriptorIndex := 51, attributes := #[] }] 49 2 #[] #[])
  fields := #[]
  methods := #[k1m0, k1m1, k1m2]
  instanceTypes := #[]
  staticTypes := #[]
  resolved := Array.replicate 54 none
  statics := none }

def pool2 : Array CpInfo := pool [(1, .class_ 2), (0, u "java/lang/constant/Constable"), (0, .class_ 4), (0, u "java/lang/Object")] 6

/-- java/lang/constant/Constable -/
def k2 : Class := { plain "java/lang/constant/Constable" (some 0) with
  accessFlags := 1537
  interfaces := #[]
  cf := some (fileOf pool2 1 #[] #[] 1537 3 #[] #[])
  fields := #[]
  methods := #[]
  instanceTypes := #[]
  staticTypes := #[]
  resolved := Array.replicate 11 none
  statics := none }

def pool3 : Array CpInfo := pool [(1, .class_ 2), (0, u "java/lang/Comparable"), (0, .class_ 4), (0, u "java/lang/Object")] 7

/-- java/lang/Comparable -/
def k3 : Class := { plain "java/lang/Comparable" (some 0) with
  accessFlags := 1537
  interfaces := #[]
  cf := some (fileOf pool3 1 #[] #[] 1537 3 #[] #[])
  fields := #[]
  methods := #[]
  instanceTypes := #[]
  staticTypes := #[]
  resolved := Array.replicate 12 none
  statics := none }

def pool4 : Array CpInfo := pool [(1, .class_ 2), (0, u "java/io/Serializable"), (0, .class_ 4), (0, u "java/lang/Object")] 2

/-- java/io/Serializable -/
def k4 : Class := { plain "java/io/Serializable" (some 0) with
  accessFlags := 1537
  interfaces := #[]
  cf := some (fileOf pool4 1 #[] #[] 1537 3 #[] #[])
  fields := #[]
  methods := #[]
  instanceTypes := #[]
  staticTypes := #[]
  resolved := Array.replicate 7 none
  statics := none }

def pool5 : Array CpInfo := pool [(2, .class_ 4), (1, u "java/lang/Enum"), (0, u "name"), (0, u "Ljava/lang/String;"), (2, u "ordinal"), (0, u "I"), (1, .class_ 14), (1, u "java/lang/Object"), (4, u "hash"), (86, .class_ 108), (1, u "java/lang/Enum$EnumDesc"), (2, .class_ 112), (0, u "java/lang/constant/Constable"), (0, .class_ 114), (0, u "java/lang/Comparable"), (0, .class_ 116), (0, u "java/io/Serializable")] 87

/-- java/lang/Enum -/
def k5 : Class := { plain "java/lang/Enum" (some 0) with
  accessFlags := 1057
  interfaces := #[2, 3, 4]
  cf := some (fileOf pool5 2 #[.nestMembers #[106]] #[] 1057 12 #[111, 113, 115] #[{ accessFlags := 18, nameIndex := 5, descriptorIndex := 6, attributes := #[] }, { accessFlags := 18, nameIndex := 9, descriptorIndex := 10, attributes := #[] }, { accessFlags := 2, nameIndex := 19, descriptorIndex := 10, attributes := #[] }])
  fields := #[{ name := "name", type := (.object "java/lang/String"), accessFlags := 18, slot := 0, constantValue := 0 }, { name := "ordinal", type := .int, accessFlags := 18, slot := 1, constantValue := 0 }, { name := "hash", type := .int, accessFlags := 2, slot := 2, constantValue := 0 }]
  methods := #[]
  instanceTypes := #[(.object "java/lang/String"), .int, .int]
  staticTypes := #[]
  resolved := Array.replicate 204 none
  statics := none }

def pool6 : Array CpInfo := pool [(1, .class_ 2), (0, u "com/example/tagvec/tagvec/cbor/MajorType"), (2, u "UNSIGNED_INTEGER"), (0, u "Lcom/example/tagvec/tagvec/cbor/MajorType;"), (2, u "NEGATIVE_INTEGER"), (2, u "BYTE_STRING"), (2, u "TEXT_STRING"), (2, u "ARRAY"), (2, u "MAP"), (2, u "TAG"), (2, u "SIMPLE_OR_FLOAT"), (2, u "$VALUES"), (0, u "[Lcom/example/tagvec/tagvec/cbor/MajorType;"), (6, .class_ 40), (1, u "java/lang/Enum"), (6, .fieldref 1 48), (0, .nameAndType 49 50), (0, u "number"), (0, u "I"), (2, u "description"), (0, u "Ljava/lang/String;"), (0, .fieldref 1 56), (0, .nameAndType 57 31), (0, u "BY_NUMBER"), (49, u "()I"), (0, u "forNumber"), (0, u "(I)Lcom/example/tagvec/tagvec/cbor/MajorType;")] 23

def k6c0 : Code := { maxStack := 1, maxLocals := 1, code := prog_69_method_4_code, exceptionTable := #[], attributes := #[] }
def k6m0 : Method := { name := "number", desc := "()I", sig := { parameters := [], returnType := some .int }, accessFlags := 1, code := some k6c0 }
def k6c1 : Code := { maxStack := 3, maxLocals := 1, code := prog_69_method_5_code, exceptionTable := #[], attributes := #[] }
def k6m1 : Method := { name := "forNumber", desc := "(I)Lcom/example/tagvec/tagvec/cbor/MajorType;", sig := { parameters := [.int], returnType := some (.object "com/example/tagvec/tagvec/cbor/MajorType") }, accessFlags := 9, code := some k6c1 }
/-- com/example/tagvec/tagvec/cbor/MajorType -/
def k6 : Class := { plain "com/example/tagvec/tagvec/cbor/MajorType" (some 5) with
  accessFlags := 16433
  interfaces := #[]
  cf := some (fileOf pool6 1 #[] #[{ accessFlags := 1, nameIndex := 49, descriptorIndex := 107, attributes := #[] }, { accessFlags := 9, nameIndex := 108, descriptorIndex := 109, attributes := #[] }] 16433 38 #[] #[{ accessFlags := 16409, nameIndex := 5, descriptorIndex := 6, attributes := #[] }, { accessFlags := 16409, nameIndex := 9, descriptorIndex := 6, attributes := #[] }, { accessFlags := 16409, nameIndex := 12, descriptorIndex := 6, attributes := #[] }, { accessFlags := 16409, nameIndex := 15, descriptorIndex := 6, attributes := #[] }, { accessFlags := 16409, nameIndex := 18, descriptorIndex := 6, attributes := #[] }, { accessFlags := 16409, nameIndex := 21, descriptorIndex := 6, attributes := #[] }, { accessFlags := 16409, nameIndex := 24, descriptorIndex := 6, attributes := #[] }, { accessFlags := 16409, nameIndex := 27, descriptorIndex := 6, attributes := #[] }, { accessFlags := 26, nameIndex := 57, descriptorIndex := 31, attributes := #[] }, { accessFlags := 18, nameIndex := 49, descriptorIndex := 50, attributes := #[] }, { accessFlags := 18, nameIndex := 53, descriptorIndex := 54, attributes := #[] }, { accessFlags := 4122, nameIndex := 30, descriptorIndex := 31, attributes := #[] }])
  fields := #[{ name := "UNSIGNED_INTEGER", type := (.object "com/example/tagvec/tagvec/cbor/MajorType"), accessFlags := 16409, slot := 0, constantValue := 0 }, { name := "NEGATIVE_INTEGER", type := (.object "com/example/tagvec/tagvec/cbor/MajorType"), accessFlags := 16409, slot := 1, constantValue := 0 }, { name := "BYTE_STRING", type := (.object "com/example/tagvec/tagvec/cbor/MajorType"), accessFlags := 16409, slot := 2, constantValue := 0 }, { name := "TEXT_STRING", type := (.object "com/example/tagvec/tagvec/cbor/MajorType"), accessFlags := 16409, slot := 3, constantValue := 0 }, { name := "ARRAY", type := (.object "com/example/tagvec/tagvec/cbor/MajorType"), accessFlags := 16409, slot := 4, constantValue := 0 }, { name := "MAP", type := (.object "com/example/tagvec/tagvec/cbor/MajorType"), accessFlags := 16409, slot := 5, constantValue := 0 }, { name := "TAG", type := (.object "com/example/tagvec/tagvec/cbor/MajorType"), accessFlags := 16409, slot := 6, constantValue := 0 }, { name := "SIMPLE_OR_FLOAT", type := (.object "com/example/tagvec/tagvec/cbor/MajorType"), accessFlags := 16409, slot := 7, constantValue := 0 }, { name := "BY_NUMBER", type := (.array (.object "com/example/tagvec/tagvec/cbor/MajorType")), accessFlags := 26, slot := 8, constantValue := 0 }, { name := "number", type := .int, accessFlags := 18, slot := 3, constantValue := 0 }, { name := "description", type := (.object "java/lang/String"), accessFlags := 18, slot := 4, constantValue := 0 }, { name := "$VALUES", type := (.array (.object "com/example/tagvec/tagvec/cbor/MajorType")), accessFlags := 4122, slot := 9, constantValue := 0 }]
  methods := #[k6m0, k6m1]
  instanceTypes := #[(.object "java/lang/String"), .int, .int, .int, (.object "java/lang/String")]
  staticTypes := #[(.object "com/example/tagvec/tagvec/cbor/MajorType"), (.object "com/example/tagvec/tagvec/cbor/MajorType"), (.object "com/example/tagvec/tagvec/cbor/MajorType"), (.object "com/example/tagvec/tagvec/cbor/MajorType"), (.object "com/example/tagvec/tagvec/cbor/MajorType"), (.object "com/example/tagvec/tagvec/cbor/MajorType"), (.object "com/example/tagvec/tagvec/cbor/MajorType"), (.object "com/example/tagvec/tagvec/cbor/MajorType"), (.array (.object "com/example/tagvec/tagvec/cbor/MajorType")), (.array (.object "com/example/tagvec/tagvec/cbor/MajorType"))]
  resolved := Array.replicate 133 none
  statics := some 0 }

def pool7 : Array CpInfo := pool [(1, u "java/lang/Cloneable"), (0, .class_ 1), (0, u "java/lang/Object"), (0, .class_ 3)] 3

/-- java/lang/Cloneable -/
def k7 : Class := { plain "java/lang/Cloneable" (some 0) with
  accessFlags := 1537
  interfaces := #[]
  cf := some (fileOf pool7 2 #[] #[] 1537 4 #[] #[])
  fields := #[]
  methods := #[]
  instanceTypes := #[]
  staticTypes := #[]
  resolved := Array.replicate 8 none
  statics := none }

/-- the primitive byte -/
def k8 : Class := { plain "byte" none with kind := .primitive 'B', accessFlags := 0x411 }
/-- [B -/
def k9 : Class := { plain "[B" (some 0) with kind := .array 8 .byte, interfaces := #[7, 4], accessFlags := 1041 }

/-- the primitive int -/
def k10 : Class := { plain "int" none with kind := .primitive 'I', accessFlags := 0x411 }
/-- [I -/
def k11 : Class := { plain "[I" (some 0) with kind := .array 10 .int, interfaces := #[7, 4], accessFlags := 1041 }

/-- [Lcom/example/tagvec/tagvec/cbor/MajorType; -/
def k12 : Class := { plain "[Lcom/example/tagvec/tagvec/cbor/MajorType;" (some 0) with kind := .array 6 (.object "com/example/tagvec/tagvec/cbor/MajorType"), interfaces := #[7, 4], accessFlags := 1041 }

def heap : Heap := #[{ cls := 6, slots := #[.ref 2, .ref 3, .ref 4, .ref 5, .ref 6, .ref 7, .ref 8, .ref 9, .ref 1, .null], vm := .statics 6 },
  { cls := 12, slots := #[.ref 2, .ref 3, .ref 4, .ref 5, .ref 6, .ref 7, .ref 8, .ref 9], vm := .none },
  { cls := 6, slots := #[.null, .int 0, .int 0, .int 0, .null], vm := .none },
  { cls := 6, slots := #[.null, .int 1, .int 0, .int 1, .null], vm := .none },
  { cls := 6, slots := #[.null, .int 2, .int 0, .int 2, .null], vm := .none },
  { cls := 6, slots := #[.null, .int 3, .int 0, .int 3, .null], vm := .none },
  { cls := 6, slots := #[.null, .int 4, .int 0, .int 4, .null], vm := .none },
  { cls := 6, slots := #[.null, .int 5, .int 0, .int 5, .null], vm := .none },
  { cls := 6, slots := #[.null, .int 6, .int 0, .int 6, .null], vm := .none },
  { cls := 6, slots := #[.null, .int 7, .int 0, .int 7, .null], vm := .none }]
def classes : Array Class := #[k0, k1, k2, k3, k4, k5, k6, k7, k8, k9, k10, k11, k12]
def interned : List (Array UInt16 × Addr) := []
def slotsUsed : Nat := 58
def theMethod : MethodId := ⟨1, 2⟩
def args0 : Array Value := #[.int 5]
def aboutOver (below : List Frame) : State where
  vm := { classes := classes, interned := interned.toArray }
  heap := heap
  slotsUsed := slotsUsed
  threads := #[{ frames := .invoking theMethod args0 :: below }]
def below0 : List Frame := [.native { method := ⟨0, 0⟩, args := #[] }]
def about1 : State := aboutOver below0
def p0 : Program := .bare "" "" ""
def e0 : Env := launch0.env 0 0 0
theorem w_frames : about1.frames = Frame.invoking theMethod args0 :: below0 := rfl
set_option maxRecDepth 65536 in
theorem w_args : argsFit about1.vm theMethod args0 = true := by decide +kernel
set_option maxRecDepth 65536 in
theorem w_heap : heapFits about1 = true := by decide +kernel
set_option maxRecDepth 65536 in
theorem w_runnable : about1.curStatus? = some .runnable := by decide +kernel
set_option maxRecDepth 65536 in
theorem w_alone : about1.alone = true := by decide +kernel
set_option maxRecDepth 65536 in
theorem w_named : about1.methodNamed? x = some theMethod := by decide +kernel
set_option maxRecDepth 65536 in
theorem w_hears : about1.hears theMethod below0 = true := by decide +kernel
set_option maxRecDepth 65536 in
theorem w_ripe : about1.ripe theMethod args0 below0 = true := by decide +kernel
theorem w_running : about1.status = .running := rfl
set_option maxRecDepth 65536 in
theorem w_room : about1.hasRoom e0.platform room_1 = true :=
  launch0.hasRoom_least _ room_1 (by decide +kernel) (by decide +kernel) (by decide +kernel) (by decide +kernel) (by decide +kernel) (by decide +kernel)
theorem allAtoms_all (ts : List Jvm.Cond) (a : Array Jvm.Value) (st : Jvm.State) : (allAtoms ts).before a st = ts.all (fun c => c.before a st) := by
  induction ts with
  | nil => rfl
  | cons c t ih =>
    show (Jvm.Cond.and c (allAtoms t)).before a st = _
    rw [Jvm.Cond.before_and, ih, List.all_cons]
def words1 : List Jvm.Cond := Jvm.Cond.code x code maxLocals ret :: tables_1
/-- a 'code' word, met by the world's own term for the bytes: nothing is compared byte by byte -/
theorem code_word {y : MethodName} {bytes : ByteArray} {mx : Nat} {rt : Option FieldType} {a : Array Value} {s : State} {m : MethodId} {meth : Method} {c : Code} (h1 : s.methodNamed? y = some m) (h2 : s.vm.method? m = some meth) (h3 : meth.code = some c) (h4 : c.code = bytes)
    (h5 : (c.maxLocals == mx && c.exceptionTable.isEmpty && decide (c.maxStack ≤ mostOperands) && decide (meth.sig.returnType = rt) && !meth.locks && decide (parseMethodDescriptor y.desc = some meth.sig)) = true) : (Jvm.Cond.code y bytes mx rt).before a s = true := by
  simp only [Bool.and_eq_true, beq_iff_eq, Bool.not_eq_true', decide_eq_true_eq] at h5
  obtain ⟨⟨⟨⟨⟨g1, g2⟩, g3⟩, g4⟩, g5⟩, g6⟩ := h5
  simp [Cond.before, Cond.holds, Cond.value, h1, h2, h3, h4, g1, g2, g3, g4, g5, g6]
def isCode : Jvm.Cond → Bool
  | .code _ _ _ _ => true
  | _ => false
theorem all_split {L : List Jvm.Cond} {P : Jvm.Cond → Bool} (h1 : L.all (fun c => isCode c || P c) = true) (h2 : ∀ c ∈ L.filter isCode, P c = true) : L.all P = true := by
  refine List.all_eq_true.mpr fun c hc => ?_
  have h := List.all_eq_true.mp h1 c hc
  rcases Bool.eq_false_or_eq_true (isCode c) with hi | hi
  · exact h2 c (List.mem_filter.mpr ⟨hc, hi⟩)
  · simpa [hi] using h
set_option maxRecDepth 65536 in
theorem w_c0 : (Jvm.Cond.code x code maxLocals ret).before args0 about1 = true := code_word (m := ⟨1, 2⟩) (meth := k1m2) (c := k1c2) (by decide +kernel) rfl rfl rfl (by decide +kernel)
set_option maxRecDepth 65536 in
theorem w_c1 : (Jvm.Cond.code ({ cls := "com/example/tagvec/tagvec/cbor/MajorTypeForNumberPinLaw", name := "expected", desc := "(I)Lcom/example/tagvec/tagvec/cbor/MajorType;" } : Jvm.MethodName) method_2_code (1 : Nat) (Option.some (Jvm.ClassFile.FieldType.object "com/example/tagvec/tagvec/cbor/MajorType"))).before args0 about1 = true := code_word (m := ⟨1, 1⟩) (meth := k1m1) (c := k1c1) (by decide +kernel) rfl rfl rfl (by decide +kernel)
set_option maxRecDepth 65536 in
theorem w_c2 : (Jvm.Cond.code ({ cls := "com/example/tagvec/tagvec/cbor/MajorType", name := "forNumber", desc := "(I)Lcom/example/tagvec/tagvec/cbor/MajorType;" } : Jvm.MethodName) prog_69_method_5_code (1 : Nat) (Option.some (Jvm.ClassFile.FieldType.object "com/example/tagvec/tagvec/cbor/MajorType"))).before args0 about1 = true := code_word (m := ⟨6, 1⟩) (meth := k6m1) (c := k6c1) (by decide +kernel) rfl rfl rfl (by decide +kernel)
set_option maxRecDepth 65536 in
theorem w_c3 : (Jvm.Cond.code ({ cls := "com/example/tagvec/tagvec/cbor/MajorType", name := "number", desc := "()I" } : Jvm.MethodName) prog_69_method_4_code (1 : Nat) (Option.some Jvm.ClassFile.FieldType.int)).before args0 about1 = true := code_word (m := ⟨6, 0⟩) (meth := k6m0) (c := k6c0) (by decide +kernel) rfl rfl rfl (by decide +kernel)
def codes1 : List Jvm.Cond := [Jvm.Cond.code x code maxLocals ret, Jvm.Cond.code ({ cls := "com/example/tagvec/tagvec/cbor/MajorTypeForNumberPinLaw", name := "expected", desc := "(I)Lcom/example/tagvec/tagvec/cbor/MajorType;" } : Jvm.MethodName) method_2_code (1 : Nat) (Option.some (Jvm.ClassFile.FieldType.object "com/example/tagvec/tagvec/cbor/MajorType")), Jvm.Cond.code ({ cls := "com/example/tagvec/tagvec/cbor/MajorType", name := "forNumber", desc := "(I)Lcom/example/tagvec/tagvec/cbor/MajorType;" } : Jvm.MethodName) prog_69_method_5_code (1 : Nat) (Option.some (Jvm.ClassFile.FieldType.object "com/example/tagvec/tagvec/cbor/MajorType")), Jvm.Cond.code ({ cls := "com/example/tagvec/tagvec/cbor/MajorType", name := "number", desc := "()I" } : Jvm.MethodName) prog_69_method_4_code (1 : Nat) (Option.some Jvm.ClassFile.FieldType.int)]
set_option maxRecDepth 65536 in
theorem codes_eq : words1.filter isCode = codes1 := rfl
theorem w_codes : ∀ c ∈ words1.filter isCode, c.before args0 about1 = true := by
  rw [codes_eq]
  intro c hc
  simp only [codes1, List.mem_cons, List.not_mem_nil, or_false] at hc
  rcases hc with rfl | rfl | rfl | rfl
  · exact w_c0
  · exact w_c1
  · exact w_c2
  · exact w_c3
set_option maxRecDepth 65536 in
theorem w_t1 : (words1.take 24).all (fun c => isCode c || c.before args0 about1) = true := by decide +kernel
set_option maxRecDepth 65536 in
theorem w_t2 : (words1.drop 24).all (fun c => isCode c || c.before args0 about1) = true := by decide +kernel
theorem w_tables : (allAtoms (Jvm.Cond.code x code maxLocals ret :: tables_1)).before args0 about1 = true := by
  rw [allAtoms_all]
  show words1.all (fun c => c.before args0 about1) = true
  refine all_split ?_ w_codes
  rw [← List.take_append_drop 24 words1, List.all_append, w_t1, w_t2]
  rfl
set_option maxRecDepth 65536 in
theorem w_case : (Jvm.Cond.and given_1 narrow_1).before args0 about1 = true := by decide +kernel
theorem w_applies : (headSpec (Jvm.Cond.code x code maxLocals ret :: tables_1) room_1).applies x e0.platform about1 = true :=
  (Spec.applies_iff w_frames).mpr ⟨w_running, w_runnable, w_alone, w_named, w_hears, w_ripe, w_room, w_tables⟩
theorem atStart : AtStart classFile x code maxLocals ret World_1 tables_1 room_1 Calls_1 rest_1 Pre_1 launch0 p0 e0 about1 theMethod args0 below0 :=
  ⟨lists_1, trivial, launch0.admits_env _ _ _, launch0.least_env, fairChoices_fair.cas, fairChoices_fair.clock, w_frames, w_args, w_heap, w_applies, trivial, trivial, w_case⟩
end start1
theorem witness_1 : WitnessClaimed_1 := ⟨start1.p0, start1.e0, start1.about1, start1.theMethod, start1.args0, start1.below0, start1.atStart⟩
end Jvm.Pilot.@@N@@
