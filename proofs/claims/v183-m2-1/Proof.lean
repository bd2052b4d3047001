import JvmDerived
import JvmDerived.Pilot.@@N@@Statement
import JvmDerived.Pilot.@@N@@Code
set_option linter.unusedVariables false
set_option linter.unusedSimpArgs false
namespace Jvm.Own
open Sem ClassFile Op Lib Jvm.Stand Jvm.Free Jvm.LawKit Jvm.RoadKit
/-! A walk, forward: 'Run' says that the invocation's first state reaches this frame. -/
abbrev Cx := Program × Launch × Env × State × MethodId × Array Value × List Frame × Method × Code × State
def RunI (p : Program) (l : Launch) (e : Env) (s : State) (m : MethodId) (args : Array Value) (below : List Frame) (meth : Method) (c : Code) (A : State) (R : Room) (Z : State) (n0 : Nat) (own nm : String) (ret : Option FieldType) (bytes : ByteArray) (mx : Nat) (h : Heap) (cells slots pc : Nat) (L : Array Slot) (S : List Value) : Prop :=
  p.tables.exec = Jvm.exec ∧ c.code = bytes ∧ c.maxLocals = mx ∧ s.vm.findClass own = some m.cls ∧ Z.Warmed39 s.vm ∧ meth.name = nm ∧ meth.sig.returnType = ret ∧ meth.locks = false ∧
    ∃ (T : State) (locs : List Loc), Stand p l e R s m args below meth c T locs cells slots ∧ Fr n0 locs ∧ T.heap = h ∧ ∀ t, Steps p.tables e below (T.setTop (mkF m pc L S)) t → Steps p.tables e below A t
def Run (C : Cx) (R : Room) (Z : State) (n0 : Nat) (own nm : String) (ret : Option FieldType) (bytes : ByteArray) (mx : Nat) (h : Heap) (cells slots pc : Nat) (L : Array Slot) (S : List Value) : Prop :=
  RunI C.1 C.2.1 C.2.2.1 C.2.2.2.1 C.2.2.2.2.1 C.2.2.2.2.2.1 C.2.2.2.2.2.2.1 C.2.2.2.2.2.2.2.1 C.2.2.2.2.2.2.2.2.1 C.2.2.2.2.2.2.2.2.2 R Z n0 own nm ret bytes mx h cells slots pc L S
def FinI (p : Program) (e : Env) (s : State) (below : List Frame) (A : State) (R : Room) (n0 : Nat) (Q : Option Value → Heap → Prop) : Prop :=
  ∃ s₂ o, Steps p.tables e below A s₂ ∧ s₂.status = .running ∧ Ended s₂ below o ∧ ∃ v L, o = .returned v ∧ (Q v s₂.heap ∧ Fr n0 L) ∧ FrameEnd s o s₂ L R.cells R.slots
def Fini (C : Cx) (R : Room) (n0 : Nat) (Q : Option Value → Heap → Prop) : Prop := FinI C.1 C.2.2.1 C.2.2.2.1 C.2.2.2.2.2.2.1 C.2.2.2.2.2.2.2.2.2 R n0 Q
/-- a method's contract: called with 'as' at the heap h0 it returns, and Q says what; nothing that stood below n0 is written -/
def Con (Z : State) (n0 : Nat) (y : MethodName) (bytes : ByteArray) (mx : Nat) (ret : Option FieldType) (ws : List Jvm.Cond) (rm : Room) (as : Array Value) (h0 : Heap) (Q : Option Value → Heap → Prop) : Prop :=
  ∀ l : Launch, MetFree l y (head1 (Jvm.Cond.code y bytes mx ret :: ws) rm) (fun a U => a = as ∧ Z.Warmed39 U.vm ∧ U.heap = h0) (fun _ _ _ _ _ => True) (fun _ U o U' => ∃ v L, o = .returned v ∧ (Q v U'.heap ∧ Fr n0 L) ∧ FrameEnd U o U' L rm.cells rm.slots)
theorem Con.intro {Z : State} {n0 : Nat} {y : MethodName} {bytes : ByteArray} {mx : Nat} {ret : Option FieldType} {ws : List Jvm.Cond} {rm : Room} {as : Array Value} {h0 : Heap} {Q : Option Value → Heap → Prop} {L0 : Array Slot}
    (hp : plainFor y = true) (hef : ∀ m, entryFrame m as mx = mkF m 0 L0 []) (body : ∀ C : Cx, Run C rm Z n0 y.cls y.name ret bytes mx h0 0 0 0 L0 [] → Fini C rm n0 Q) : Con Z n0 y bytes mx ret ws rm as h0 Q := by
  intro l
  refine MetFree.of_bodySF hp hisR ?_
  intro p e s m args below meth c s₁ Bd hml0 hP hK
  obtain ⟨rfl, hZ, hh⟩ := hP
  have hown : s.vm.findClass y.cls = some m.cls := findClass_of_methodNamed Bd.named
  have X0 : Stand p l e rm s m args below meth c s₁ [] 0 0 := Stand.of_body Bd
  have e0 : s₁.heap = h0 := by rw [← hh, Bd.state]; rfl
  have k : Run (p, l, e, s, m, args, below, meth, c, s₁.setTop (entryFrame m args mx)) rm Z n0 y.cls y.name ret bytes mx h0 0 0 0 L0 [] :=
    ⟨Bd.exec, Bd.bytes, hml0, hown, hZ, (name_of_methodNamed Bd.named Bd.method).1, Bd.returns, Bd.notSynchronized, s₁, [], X0, Fr.nil n0, e0, fun t kt => castTop (hef m) kt⟩
  exact body _ k
theorem ac_eq {x y : Value} (q : x = y) : XT.acmp .eq x y = true ∧ XT.acmp .ne x y = false := ⟨decide_eq_true q, decide_eq_false (fun z => z q)⟩
theorem ac_ne {x y : Value} (q : x ≠ y) : XT.acmp .eq x y = false ∧ XT.acmp .ne x y = true := ⟨decide_eq_false q, decide_eq_true q⟩
/-! an array by a function of the place -/
def updV (f : Nat → Value) (i : Nat) (v : Value) : Nat → Value := fun j => if j = i then v else f j
theorem updV_same (f : Nat → Value) (i : Nat) (v : Value) : updV f i v i = v := if_pos rfl
theorem updV_ne {f : Nat → Value} {i j : Nat} {v : Value} (q : j ≠ i) : updV f i v j = f j := if_neg q
def Arf (Z : State) (h : Heap) (a : Addr) (ty : FieldType) (n : Nat) (f : Nat → Value) : Prop := ∃ c : Cell, Arr Z h a c ty ∧ c.slots.size = n ∧ ∀ i, i < n → c.slots[i]? = some (f i)
section Arrays
variable {Z : State} {h h' : Heap} {a b : Addr} {ty : FieldType} {n sl : Nat} {f g : Nat → Value} {v : Value} {ws : List Addr}
theorem Arf.lt (F : Arf Z h a ty n f) : a < h.size := by obtain ⟨c, A, -⟩ := F; exact A.lt
theorem Arf.ext (F : Arf Z h a ty n f) (E : Ext h h') : Arf Z h' a ty n f := by obtain ⟨c, A, r⟩ := F; exact ⟨c, Arr.ext E A, r⟩
theorem Arf.other (F : Arf Z h b ty n f) (W : Wr h h' a sl v) (q : b ≠ a) : Arf Z h' b ty n f := by obtain ⟨c, A, r⟩ := F; exact ⟨c, Arr.other W A q, r⟩
theorem Arf.keep (F : Arf Z h a ty n f) (K : Keep h h' ws) (q : a ∉ ws) : Arf Z h' a ty n f := by obtain ⟨c, A, r⟩ := F; exact ⟨c, ⟨K.2.1 a c A.1 q, A.2⟩, r⟩
theorem Arf.set (F : Arf Z h a ty n f) {i : Nat} (W : Wr h h' a i v) (hi : i < n) : Arf Z h' a ty n (updV f i v) := by
  obtain ⟨c, A, S, H⟩ := F
  refine ⟨_, Arr.same W A, (sz_set _ _ _).trans S, fun j hj => ?_⟩
  by_cases q : j = i
  · subst q
    rw [updV_same]
    have hs : j < c.slots.size := by omega
    simp [Cell.setSlot, hs]
  · rw [updV_ne q]
    simp only [Cell.setSlot]
    rw [Array.getElem?_setIfInBounds_ne (Ne.symm q)]
    exact H j hj
theorem Arf.congr (F : Arf Z h a ty n f) (q : ∀ i, i < n → f i = g i) : Arf Z h a ty n g := by obtain ⟨c, A, S, H⟩ := F; exact ⟨c, A, S, fun i hi => q i hi ▸ H i hi⟩
theorem Sta.keepN {Cn m d : String} (F : Sta Z h Cn m d v) (K : Keep h h' ws) (q : ∀ x ∈ ws, ∀ c : Cell, h[x]? = some c → c.vm.isStatics = false) : Sta Z h' Cn m d v := by
  obtain ⟨cf, i, k, f, st, cell, h1, h2, h3, h4, h5, h6, h7⟩ := F
  refine ⟨cf, i, k, f, st, cell, h1, h2, h3, h4, K.2.1 st cell h5 (fun z => ?_), h6, h7⟩
  rw [q st z cell h5] at h6; cases h6
theorem Exa.nost {Cn : String} (F : Exa Z h a Cn) : ∀ c : Cell, h[a]? = some c → c.vm.isStatics = false := fun c hc => by
  obtain ⟨cell, k, h1, -, -, h4, -⟩ := F
  cases hc.symm.trans h1; exact h4
theorem Arf.nost (F : Arf Z h a ty n f) : ∀ c : Cell, h[a]? = some c → c.vm.isStatics = false := fun c hc => by
  obtain ⟨cell, A, -⟩ := F
  cases hc.symm.trans A.1; exact A.plain
end Arrays
section Steps
variable {C : Cx} {R : Room} {Z : State} {n0 : Nat} {own nm : String} {ret : Option FieldType} {bytes : ByteArray} {mx : Nat} {h : Heap} {cells slots pc : Nat} {L : Array Slot} {S : List Value}

theorem Run.iloadN {k : Fin 4} {v : Int32} (K : Run C R Z n0 own nm ret bytes mx h cells slots pc L S) (hd : decode bytes pc = .ok (.iload_n k, 1)) (hl : L[k.val]? = some (.val (.int v))) : Run C R Z n0 own nm ret bytes mx h cells slots (pc + 1) L (.int v :: S) := by
  obtain ⟨hx, hby, hml, hown, hZ, hnm, hrt, hlk, T, locs, X, N, eT, st⟩ := K
  exact ⟨hx, hby, hml, hown, hZ, hnm, hrt, hlk, T, locs, X, N, eT, fun t kt => st t (XS.iloadN X.here hx rfl (hb hby hd) hl kt)⟩
theorem Run.iload {k : Nat} {v : Int32} (K : Run C R Z n0 own nm ret bytes mx h cells slots pc L S) (hd : decode bytes pc = .ok (.iload k, 2)) (hl : L[k]? = some (.val (.int v))) : Run C R Z n0 own nm ret bytes mx h cells slots (pc + 2) L (.int v :: S) := by
  obtain ⟨hx, hby, hml, hown, hZ, hnm, hrt, hlk, T, locs, X, N, eT, st⟩ := K
  exact ⟨hx, hby, hml, hown, hZ, hnm, hrt, hlk, T, locs, X, N, eT, fun t kt => st t (XS.iload X.here hx rfl (hb hby hd) hl kt)⟩
theorem Run.lloadN {k : Fin 4} {v : Int64} (K : Run C R Z n0 own nm ret bytes mx h cells slots pc L S) (hd : decode bytes pc = .ok (.lload_n k, 1)) (hl : L[k.val]? = some (.val (.long v))) : Run C R Z n0 own nm ret bytes mx h cells slots (pc + 1) L (.long v :: S) := by
  obtain ⟨hx, hby, hml, hown, hZ, hnm, hrt, hlk, T, locs, X, N, eT, st⟩ := K
  exact ⟨hx, hby, hml, hown, hZ, hnm, hrt, hlk, T, locs, X, N, eT, fun t kt => st t (XS.lloadN X.here hx rfl (hb hby hd) hl kt)⟩
theorem Run.lload {k : Nat} {v : Int64} (K : Run C R Z n0 own nm ret bytes mx h cells slots pc L S) (hd : decode bytes pc = .ok (.lload k, 2)) (hl : L[k]? = some (.val (.long v))) : Run C R Z n0 own nm ret bytes mx h cells slots (pc + 2) L (.long v :: S) := by
  obtain ⟨hx, hby, hml, hown, hZ, hnm, hrt, hlk, T, locs, X, N, eT, st⟩ := K
  exact ⟨hx, hby, hml, hown, hZ, hnm, hrt, hlk, T, locs, X, N, eT, fun t kt => st t (XS.lload X.here hx rfl (hb hby hd) hl kt)⟩
theorem Run.aloadN {k : Fin 4} {v : Value} (K : Run C R Z n0 own nm ret bytes mx h cells slots pc L S) (hd : decode bytes pc = .ok (.aload_n k, 1)) (hl : L[k.val]? = some (.val v)) (hv : v.isRef = true) : Run C R Z n0 own nm ret bytes mx h cells slots (pc + 1) L (v :: S) := by
  obtain ⟨hx, hby, hml, hown, hZ, hnm, hrt, hlk, T, locs, X, N, eT, st⟩ := K
  exact ⟨hx, hby, hml, hown, hZ, hnm, hrt, hlk, T, locs, X, N, eT, fun t kt => st t (XS.aloadN X.here hx rfl (hb hby hd) hl hv kt)⟩
theorem Run.aload {k : Nat} {v : Value} (K : Run C R Z n0 own nm ret bytes mx h cells slots pc L S) (hd : decode bytes pc = .ok (.aload k, 2)) (hl : L[k]? = some (.val v)) (hv : v.isRef = true) : Run C R Z n0 own nm ret bytes mx h cells slots (pc + 2) L (v :: S) := by
  obtain ⟨hx, hby, hml, hown, hZ, hnm, hrt, hlk, T, locs, X, N, eT, st⟩ := K
  exact ⟨hx, hby, hml, hown, hZ, hnm, hrt, hlk, T, locs, X, N, eT, fun t kt => st t (XS.aload X.here hx rfl (hb hby hd) hl hv kt)⟩
theorem Run.istoreN {k : Fin 4} {v : Int32} (l' : Array Slot) (K : Run C R Z n0 own nm ret bytes mx h cells slots pc L (.int v :: S)) (hd : decode bytes pc = .ok (.istore_n k, 1)) (hl : storeLocals L k.val (.int v) = some l') : Run C R Z n0 own nm ret bytes mx h cells slots (pc + 1) l' S := by
  obtain ⟨hx, hby, hml, hown, hZ, hnm, hrt, hlk, T, locs, X, N, eT, st⟩ := K
  exact ⟨hx, hby, hml, hown, hZ, hnm, hrt, hlk, T, locs, X, N, eT, fun t kt => st t (XS.istoreN X.here hx rfl (hb hby hd) rfl hl kt)⟩
theorem Run.istore {k : Nat} {v : Int32} (l' : Array Slot) (K : Run C R Z n0 own nm ret bytes mx h cells slots pc L (.int v :: S)) (hd : decode bytes pc = .ok (.istore k, 2)) (hl : storeLocals L k (.int v) = some l') : Run C R Z n0 own nm ret bytes mx h cells slots (pc + 2) l' S := by
  obtain ⟨hx, hby, hml, hown, hZ, hnm, hrt, hlk, T, locs, X, N, eT, st⟩ := K
  exact ⟨hx, hby, hml, hown, hZ, hnm, hrt, hlk, T, locs, X, N, eT, fun t kt => st t (XS.istore X.here hx rfl (hb hby hd) rfl hl kt)⟩
theorem Run.lstoreN {k : Fin 4} {v : Int64} (l' : Array Slot) (K : Run C R Z n0 own nm ret bytes mx h cells slots pc L (.long v :: S)) (hd : decode bytes pc = .ok (.lstore_n k, 1)) (hl : storeLocals L k.val (.long v) = some l') : Run C R Z n0 own nm ret bytes mx h cells slots (pc + 1) l' S := by
  obtain ⟨hx, hby, hml, hown, hZ, hnm, hrt, hlk, T, locs, X, N, eT, st⟩ := K
  exact ⟨hx, hby, hml, hown, hZ, hnm, hrt, hlk, T, locs, X, N, eT, fun t kt => st t (XS.lstoreN X.here hx rfl (hb hby hd) rfl hl kt)⟩
theorem Run.lstore {k : Nat} {v : Int64} (l' : Array Slot) (K : Run C R Z n0 own nm ret bytes mx h cells slots pc L (.long v :: S)) (hd : decode bytes pc = .ok (.lstore k, 2)) (hl : storeLocals L k (.long v) = some l') : Run C R Z n0 own nm ret bytes mx h cells slots (pc + 2) l' S := by
  obtain ⟨hx, hby, hml, hown, hZ, hnm, hrt, hlk, T, locs, X, N, eT, st⟩ := K
  exact ⟨hx, hby, hml, hown, hZ, hnm, hrt, hlk, T, locs, X, N, eT, fun t kt => st t (XS.lstore X.here hx rfl (hb hby hd) rfl hl kt)⟩
theorem Run.astoreN {k : Fin 4} {v : Value} (l' : Array Slot) (K : Run C R Z n0 own nm ret bytes mx h cells slots pc L (v :: S)) (hd : decode bytes pc = .ok (.astore_n k, 1)) (hv : v.isRef = true) (hl : storeLocals L k.val v = some l') : Run C R Z n0 own nm ret bytes mx h cells slots (pc + 1) l' S := by
  obtain ⟨hx, hby, hml, hown, hZ, hnm, hrt, hlk, T, locs, X, N, eT, st⟩ := K
  exact ⟨hx, hby, hml, hown, hZ, hnm, hrt, hlk, T, locs, X, N, eT, fun t kt => st t (XS.astoreN X.here hx rfl (hb hby hd) rfl hv hl kt)⟩
theorem Run.astore {k : Nat} {v : Value} (l' : Array Slot) (K : Run C R Z n0 own nm ret bytes mx h cells slots pc L (v :: S)) (hd : decode bytes pc = .ok (.astore k, 2)) (hv : v.isRef = true) (hl : storeLocals L k v = some l') : Run C R Z n0 own nm ret bytes mx h cells slots (pc + 2) l' S := by
  obtain ⟨hx, hby, hml, hown, hZ, hnm, hrt, hlk, T, locs, X, N, eT, st⟩ := K
  exact ⟨hx, hby, hml, hown, hZ, hnm, hrt, hlk, T, locs, X, N, eT, fun t kt => st t (XS.astore X.here hx rfl (hb hby hd) rfl hv hl kt)⟩
theorem Run.iconst {i : Int} (z : Int32) (K : Run C R Z n0 own nm ret bytes mx h cells slots pc L S) (hd : decode bytes pc = .ok (.iconst i, 1)) (hz : Int32.ofInt i = z) : Run C R Z n0 own nm ret bytes mx h cells slots (pc + 1) L (.int z :: S) := by
  obtain ⟨hx, hby, hml, hown, hZ, hnm, hrt, hlk, T, locs, X, N, eT, st⟩ := K
  exact ⟨hx, hby, hml, hown, hZ, hnm, hrt, hlk, T, locs, X, N, eT, fun t kt => st t (XS.iconst X.here hx rfl (hb hby hd) (by rw [hz]; exact kt))⟩
theorem Run.bipush {i : Int} (z : Int32) (K : Run C R Z n0 own nm ret bytes mx h cells slots pc L S) (hd : decode bytes pc = .ok (.bipush i, 2)) (hz : (Int8.ofInt i).toInt32 = z) : Run C R Z n0 own nm ret bytes mx h cells slots (pc + 2) L (.int z :: S) := by
  obtain ⟨hx, hby, hml, hown, hZ, hnm, hrt, hlk, T, locs, X, N, eT, st⟩ := K
  exact ⟨hx, hby, hml, hown, hZ, hnm, hrt, hlk, T, locs, X, N, eT, fun t kt => st t (XS.bipush X.here hx rfl (hb hby hd) (by rw [hz]; exact kt))⟩
theorem Run.sipush {i : Int} (z : Int32) (K : Run C R Z n0 own nm ret bytes mx h cells slots pc L S) (hd : decode bytes pc = .ok (.sipush i, 3)) (hz : (Int16.ofInt i).toInt32 = z) : Run C R Z n0 own nm ret bytes mx h cells slots (pc + 3) L (.int z :: S) := by
  obtain ⟨hx, hby, hml, hown, hZ, hnm, hrt, hlk, T, locs, X, N, eT, st⟩ := K
  exact ⟨hx, hby, hml, hown, hZ, hnm, hrt, hlk, T, locs, X, N, eT, fun t kt => st t (XS.sipush X.here hx rfl (hb hby hd) (by rw [hz]; exact kt))⟩
theorem Run.lconst {i : Fin 2} (z : Int64) (K : Run C R Z n0 own nm ret bytes mx h cells slots pc L S) (hd : decode bytes pc = .ok (.lconst i, 1)) (hz : Int64.ofNat i = z) : Run C R Z n0 own nm ret bytes mx h cells slots (pc + 1) L (.long z :: S) := by
  obtain ⟨hx, hby, hml, hown, hZ, hnm, hrt, hlk, T, locs, X, N, eT, st⟩ := K
  exact ⟨hx, hby, hml, hown, hZ, hnm, hrt, hlk, T, locs, X, N, eT, fun t kt => st t (XS.lconst X.here hx rfl (hb hby hd) (by rw [hz]; exact kt))⟩
theorem Run.aconstNull  (K : Run C R Z n0 own nm ret bytes mx h cells slots pc L S) (hd : decode bytes pc = .ok (.aconst_null, 1))  : Run C R Z n0 own nm ret bytes mx h cells slots (pc + 1) L (.null :: S) := by
  obtain ⟨hx, hby, hml, hown, hZ, hnm, hrt, hlk, T, locs, X, N, eT, st⟩ := K
  exact ⟨hx, hby, hml, hown, hZ, hnm, hrt, hlk, T, locs, X, N, eT, fun t kt => st t (XS.aconstNull X.here hx rfl (hb hby hd) kt)⟩
theorem Run.iadd {x y : Int32} (K : Run C R Z n0 own nm ret bytes mx h cells slots pc L (.int y :: .int x :: S)) (hd : decode bytes pc = .ok (.iadd, 1))  : Run C R Z n0 own nm ret bytes mx h cells slots (pc + 1) L (.int (x + y) :: S) := by
  obtain ⟨hx, hby, hml, hown, hZ, hnm, hrt, hlk, T, locs, X, N, eT, st⟩ := K
  exact ⟨hx, hby, hml, hown, hZ, hnm, hrt, hlk, T, locs, X, N, eT, fun t kt => st t (XS.iadd X.here hx rfl (hb hby hd) rfl kt)⟩
theorem Run.isub {x y : Int32} (K : Run C R Z n0 own nm ret bytes mx h cells slots pc L (.int y :: .int x :: S)) (hd : decode bytes pc = .ok (.isub, 1))  : Run C R Z n0 own nm ret bytes mx h cells slots (pc + 1) L (.int (x - y) :: S) := by
  obtain ⟨hx, hby, hml, hown, hZ, hnm, hrt, hlk, T, locs, X, N, eT, st⟩ := K
  exact ⟨hx, hby, hml, hown, hZ, hnm, hrt, hlk, T, locs, X, N, eT, fun t kt => st t (XS.isub X.here hx rfl (hb hby hd) rfl kt)⟩
theorem Run.imul {x y : Int32} (K : Run C R Z n0 own nm ret bytes mx h cells slots pc L (.int y :: .int x :: S)) (hd : decode bytes pc = .ok (.imul, 1))  : Run C R Z n0 own nm ret bytes mx h cells slots (pc + 1) L (.int (x * y) :: S) := by
  obtain ⟨hx, hby, hml, hown, hZ, hnm, hrt, hlk, T, locs, X, N, eT, st⟩ := K
  exact ⟨hx, hby, hml, hown, hZ, hnm, hrt, hlk, T, locs, X, N, eT, fun t kt => st t (XS.imul X.here hx rfl (hb hby hd) rfl kt)⟩
theorem Run.iand {x y : Int32} (K : Run C R Z n0 own nm ret bytes mx h cells slots pc L (.int y :: .int x :: S)) (hd : decode bytes pc = .ok (.iand, 1))  : Run C R Z n0 own nm ret bytes mx h cells slots (pc + 1) L (.int (x &&& y) :: S) := by
  obtain ⟨hx, hby, hml, hown, hZ, hnm, hrt, hlk, T, locs, X, N, eT, st⟩ := K
  exact ⟨hx, hby, hml, hown, hZ, hnm, hrt, hlk, T, locs, X, N, eT, fun t kt => st t (XS.iand X.here hx rfl (hb hby hd) rfl kt)⟩
theorem Run.ior {x y : Int32} (K : Run C R Z n0 own nm ret bytes mx h cells slots pc L (.int y :: .int x :: S)) (hd : decode bytes pc = .ok (.ior, 1))  : Run C R Z n0 own nm ret bytes mx h cells slots (pc + 1) L (.int (x ||| y) :: S) := by
  obtain ⟨hx, hby, hml, hown, hZ, hnm, hrt, hlk, T, locs, X, N, eT, st⟩ := K
  exact ⟨hx, hby, hml, hown, hZ, hnm, hrt, hlk, T, locs, X, N, eT, fun t kt => st t (XS.ior X.here hx rfl (hb hby hd) rfl kt)⟩
theorem Run.ixor {x y : Int32} (K : Run C R Z n0 own nm ret bytes mx h cells slots pc L (.int y :: .int x :: S)) (hd : decode bytes pc = .ok (.ixor, 1))  : Run C R Z n0 own nm ret bytes mx h cells slots (pc + 1) L (.int (x ^^^ y) :: S) := by
  obtain ⟨hx, hby, hml, hown, hZ, hnm, hrt, hlk, T, locs, X, N, eT, st⟩ := K
  exact ⟨hx, hby, hml, hown, hZ, hnm, hrt, hlk, T, locs, X, N, eT, fun t kt => st t (XS.ixor X.here hx rfl (hb hby hd) rfl kt)⟩
theorem Run.ishl {x y : Int32} (K : Run C R Z n0 own nm ret bytes mx h cells slots pc L (.int y :: .int x :: S)) (hd : decode bytes pc = .ok (.ishl, 1))  : Run C R Z n0 own nm ret bytes mx h cells slots (pc + 1) L (.int (x <<< (y &&& 31)) :: S) := by
  obtain ⟨hx, hby, hml, hown, hZ, hnm, hrt, hlk, T, locs, X, N, eT, st⟩ := K
  exact ⟨hx, hby, hml, hown, hZ, hnm, hrt, hlk, T, locs, X, N, eT, fun t kt => st t (XS.ishl X.here hx rfl (hb hby hd) rfl kt)⟩
theorem Run.ishr {x y : Int32} (K : Run C R Z n0 own nm ret bytes mx h cells slots pc L (.int y :: .int x :: S)) (hd : decode bytes pc = .ok (.ishr, 1))  : Run C R Z n0 own nm ret bytes mx h cells slots (pc + 1) L (.int (x >>> (y &&& 31)) :: S) := by
  obtain ⟨hx, hby, hml, hown, hZ, hnm, hrt, hlk, T, locs, X, N, eT, st⟩ := K
  exact ⟨hx, hby, hml, hown, hZ, hnm, hrt, hlk, T, locs, X, N, eT, fun t kt => st t (XS.ishr X.here hx rfl (hb hby hd) rfl kt)⟩
theorem Run.iushr {x y : Int32} (K : Run C R Z n0 own nm ret bytes mx h cells slots pc L (.int y :: .int x :: S)) (hd : decode bytes pc = .ok (.iushr, 1))  : Run C R Z n0 own nm ret bytes mx h cells slots (pc + 1) L (.int ((x.toUInt32 >>> (y &&& 31).toUInt32).toInt32) :: S) := by
  obtain ⟨hx, hby, hml, hown, hZ, hnm, hrt, hlk, T, locs, X, N, eT, st⟩ := K
  exact ⟨hx, hby, hml, hown, hZ, hnm, hrt, hlk, T, locs, X, N, eT, fun t kt => st t (XS.iushr X.here hx rfl (hb hby hd) rfl kt)⟩
theorem Run.irem {x y : Int32} (K : Run C R Z n0 own nm ret bytes mx h cells slots pc L (.int y :: .int x :: S)) (hd : decode bytes pc = .ok (.irem, 1)) (hy : y ≠ 0) : Run C R Z n0 own nm ret bytes mx h cells slots (pc + 1) L (.int (x % y) :: S) := by
  obtain ⟨hx, hby, hml, hown, hZ, hnm, hrt, hlk, T, locs, X, N, eT, st⟩ := K
  exact ⟨hx, hby, hml, hown, hZ, hnm, hrt, hlk, T, locs, X, N, eT, fun t kt => st t (iremM X hx rfl (hb hby hd) rfl hy kt)⟩
theorem Run.idiv {x y : Int32} (K : Run C R Z n0 own nm ret bytes mx h cells slots pc L (.int y :: .int x :: S)) (hd : decode bytes pc = .ok (.idiv, 1)) (hy : y ≠ 0) : Run C R Z n0 own nm ret bytes mx h cells slots (pc + 1) L (.int (x / y) :: S) := by
  obtain ⟨hx, hby, hml, hown, hZ, hnm, hrt, hlk, T, locs, X, N, eT, st⟩ := K
  exact ⟨hx, hby, hml, hown, hZ, hnm, hrt, hlk, T, locs, X, N, eT, fun t kt => st t (XS.idiv X.here hx rfl (hb hby hd) rfl hy kt)⟩
theorem Run.ineg {x : Int32} (K : Run C R Z n0 own nm ret bytes mx h cells slots pc L (.int x :: S)) (hd : decode bytes pc = .ok (.ineg, 1))  : Run C R Z n0 own nm ret bytes mx h cells slots (pc + 1) L (.int (-x) :: S) := by
  obtain ⟨hx, hby, hml, hown, hZ, hnm, hrt, hlk, T, locs, X, N, eT, st⟩ := K
  exact ⟨hx, hby, hml, hown, hZ, hnm, hrt, hlk, T, locs, X, N, eT, fun t kt => st t (XS.ineg X.here hx rfl (hb hby hd) rfl kt)⟩
theorem Run.ladd {x y : Int64} (K : Run C R Z n0 own nm ret bytes mx h cells slots pc L (.long y :: .long x :: S)) (hd : decode bytes pc = .ok (.ladd, 1))  : Run C R Z n0 own nm ret bytes mx h cells slots (pc + 1) L (.long (x + y) :: S) := by
  obtain ⟨hx, hby, hml, hown, hZ, hnm, hrt, hlk, T, locs, X, N, eT, st⟩ := K
  exact ⟨hx, hby, hml, hown, hZ, hnm, hrt, hlk, T, locs, X, N, eT, fun t kt => st t (XS.ladd X.here hx rfl (hb hby hd) rfl kt)⟩
theorem Run.lsub {x y : Int64} (K : Run C R Z n0 own nm ret bytes mx h cells slots pc L (.long y :: .long x :: S)) (hd : decode bytes pc = .ok (.lsub, 1))  : Run C R Z n0 own nm ret bytes mx h cells slots (pc + 1) L (.long (x - y) :: S) := by
  obtain ⟨hx, hby, hml, hown, hZ, hnm, hrt, hlk, T, locs, X, N, eT, st⟩ := K
  exact ⟨hx, hby, hml, hown, hZ, hnm, hrt, hlk, T, locs, X, N, eT, fun t kt => st t (XS.lsub X.here hx rfl (hb hby hd) rfl kt)⟩
theorem Run.lmul {x y : Int64} (K : Run C R Z n0 own nm ret bytes mx h cells slots pc L (.long y :: .long x :: S)) (hd : decode bytes pc = .ok (.lmul, 1))  : Run C R Z n0 own nm ret bytes mx h cells slots (pc + 1) L (.long (x * y) :: S) := by
  obtain ⟨hx, hby, hml, hown, hZ, hnm, hrt, hlk, T, locs, X, N, eT, st⟩ := K
  exact ⟨hx, hby, hml, hown, hZ, hnm, hrt, hlk, T, locs, X, N, eT, fun t kt => st t (XS.lmul X.here hx rfl (hb hby hd) rfl kt)⟩
theorem Run.land {x y : Int64} (K : Run C R Z n0 own nm ret bytes mx h cells slots pc L (.long y :: .long x :: S)) (hd : decode bytes pc = .ok (.land, 1))  : Run C R Z n0 own nm ret bytes mx h cells slots (pc + 1) L (.long (x &&& y) :: S) := by
  obtain ⟨hx, hby, hml, hown, hZ, hnm, hrt, hlk, T, locs, X, N, eT, st⟩ := K
  exact ⟨hx, hby, hml, hown, hZ, hnm, hrt, hlk, T, locs, X, N, eT, fun t kt => st t (XS.land X.here hx rfl (hb hby hd) rfl kt)⟩
theorem Run.lor {x y : Int64} (K : Run C R Z n0 own nm ret bytes mx h cells slots pc L (.long y :: .long x :: S)) (hd : decode bytes pc = .ok (.lor, 1))  : Run C R Z n0 own nm ret bytes mx h cells slots (pc + 1) L (.long (x ||| y) :: S) := by
  obtain ⟨hx, hby, hml, hown, hZ, hnm, hrt, hlk, T, locs, X, N, eT, st⟩ := K
  exact ⟨hx, hby, hml, hown, hZ, hnm, hrt, hlk, T, locs, X, N, eT, fun t kt => st t (XS.lor X.here hx rfl (hb hby hd) rfl kt)⟩
theorem Run.lxor {x y : Int64} (K : Run C R Z n0 own nm ret bytes mx h cells slots pc L (.long y :: .long x :: S)) (hd : decode bytes pc = .ok (.lxor, 1))  : Run C R Z n0 own nm ret bytes mx h cells slots (pc + 1) L (.long (x ^^^ y) :: S) := by
  obtain ⟨hx, hby, hml, hown, hZ, hnm, hrt, hlk, T, locs, X, N, eT, st⟩ := K
  exact ⟨hx, hby, hml, hown, hZ, hnm, hrt, hlk, T, locs, X, N, eT, fun t kt => st t (XS.lxor X.here hx rfl (hb hby hd) rfl kt)⟩
theorem Run.lcmp {x y : Int64} (K : Run C R Z n0 own nm ret bytes mx h cells slots pc L (.long y :: .long x :: S)) (hd : decode bytes pc = .ok (.lcmp, 1))  : Run C R Z n0 own nm ret bytes mx h cells slots (pc + 1) L (.int (lcmpW x y) :: S) := by
  obtain ⟨hx, hby, hml, hown, hZ, hnm, hrt, hlk, T, locs, X, N, eT, st⟩ := K
  exact ⟨hx, hby, hml, hown, hZ, hnm, hrt, hlk, T, locs, X, N, eT, fun t kt => st t (XS.lcmp X.here hx rfl (hb hby hd) rfl kt)⟩
theorem Run.lushr {x : Int64} {y : Int32} (K : Run C R Z n0 own nm ret bytes mx h cells slots pc L (.int y :: .long x :: S)) (hd : decode bytes pc = .ok (.lushr, 1))  : Run C R Z n0 own nm ret bytes mx h cells slots (pc + 1) L (.long ((x.toUInt64 >>> (y &&& 0x3f).toInt64.toUInt64).toInt64) :: S) := by
  obtain ⟨hx, hby, hml, hown, hZ, hnm, hrt, hlk, T, locs, X, N, eT, st⟩ := K
  exact ⟨hx, hby, hml, hown, hZ, hnm, hrt, hlk, T, locs, X, N, eT, fun t kt => st t (XS.lushr X.here hx rfl (hb hby hd) rfl kt)⟩
theorem Run.lshr {x : Int64} {y : Int32} (K : Run C R Z n0 own nm ret bytes mx h cells slots pc L (.int y :: .long x :: S)) (hd : decode bytes pc = .ok (.lshr, 1))  : Run C R Z n0 own nm ret bytes mx h cells slots (pc + 1) L (.long (x >>> (y &&& 0x3f).toInt64) :: S) := by
  obtain ⟨hx, hby, hml, hown, hZ, hnm, hrt, hlk, T, locs, X, N, eT, st⟩ := K
  exact ⟨hx, hby, hml, hown, hZ, hnm, hrt, hlk, T, locs, X, N, eT, fun t kt => st t (XS.lshr X.here hx rfl (hb hby hd) rfl kt)⟩
theorem Run.lshl {x : Int64} {y : Int32} (K : Run C R Z n0 own nm ret bytes mx h cells slots pc L (.int y :: .long x :: S)) (hd : decode bytes pc = .ok (.lshl, 1))  : Run C R Z n0 own nm ret bytes mx h cells slots (pc + 1) L (.long (x <<< (y &&& 0x3f).toInt64) :: S) := by
  obtain ⟨hx, hby, hml, hown, hZ, hnm, hrt, hlk, T, locs, X, N, eT, st⟩ := K
  exact ⟨hx, hby, hml, hown, hZ, hnm, hrt, hlk, T, locs, X, N, eT, fun t kt => st t (XS.lshl X.here hx rfl (hb hby hd) rfl kt)⟩
theorem Run.i2l {x : Int32} (K : Run C R Z n0 own nm ret bytes mx h cells slots pc L (.int x :: S)) (hd : decode bytes pc = .ok (.i2l, 1))  : Run C R Z n0 own nm ret bytes mx h cells slots (pc + 1) L (.long (x.toInt64) :: S) := by
  obtain ⟨hx, hby, hml, hown, hZ, hnm, hrt, hlk, T, locs, X, N, eT, st⟩ := K
  exact ⟨hx, hby, hml, hown, hZ, hnm, hrt, hlk, T, locs, X, N, eT, fun t kt => st t (XS.i2l X.here hx rfl (hb hby hd) rfl kt)⟩
theorem Run.l2i {x : Int64} (K : Run C R Z n0 own nm ret bytes mx h cells slots pc L (.long x :: S)) (hd : decode bytes pc = .ok (.l2i, 1))  : Run C R Z n0 own nm ret bytes mx h cells slots (pc + 1) L (.int (x.toInt32) :: S) := by
  obtain ⟨hx, hby, hml, hown, hZ, hnm, hrt, hlk, T, locs, X, N, eT, st⟩ := K
  exact ⟨hx, hby, hml, hown, hZ, hnm, hrt, hlk, T, locs, X, N, eT, fun t kt => st t (XS.l2i X.here hx rfl (hb hby hd) rfl kt)⟩
theorem Run.i2b {x : Int32} (K : Run C R Z n0 own nm ret bytes mx h cells slots pc L (.int x :: S)) (hd : decode bytes pc = .ok (.i2b, 1))  : Run C R Z n0 own nm ret bytes mx h cells slots (pc + 1) L (.int (x.toInt8.toInt32) :: S) := by
  obtain ⟨hx, hby, hml, hown, hZ, hnm, hrt, hlk, T, locs, X, N, eT, st⟩ := K
  exact ⟨hx, hby, hml, hown, hZ, hnm, hrt, hlk, T, locs, X, N, eT, fun t kt => st t (XS.i2b X.here hx rfl (hb hby hd) rfl kt)⟩
theorem Run.i2s {x : Int32} (K : Run C R Z n0 own nm ret bytes mx h cells slots pc L (.int x :: S)) (hd : decode bytes pc = .ok (.i2s, 1))  : Run C R Z n0 own nm ret bytes mx h cells slots (pc + 1) L (.int (x.toInt16.toInt32) :: S) := by
  obtain ⟨hx, hby, hml, hown, hZ, hnm, hrt, hlk, T, locs, X, N, eT, st⟩ := K
  exact ⟨hx, hby, hml, hown, hZ, hnm, hrt, hlk, T, locs, X, N, eT, fun t kt => st t (XS.i2s X.here hx rfl (hb hby hd) rfl kt)⟩
theorem Run.i2c {x : Int32} (K : Run C R Z n0 own nm ret bytes mx h cells slots pc L (.int x :: S)) (hd : decode bytes pc = .ok (.i2c, 1))  : Run C R Z n0 own nm ret bytes mx h cells slots (pc + 1) L (.int (x.toUInt32.toUInt16.toUInt32.toInt32) :: S) := by
  obtain ⟨hx, hby, hml, hown, hZ, hnm, hrt, hlk, T, locs, X, N, eT, st⟩ := K
  exact ⟨hx, hby, hml, hown, hZ, hnm, hrt, hlk, T, locs, X, N, eT, fun t kt => st t (XS.i2c X.here hx rfl (hb hby hd) rfl kt)⟩
theorem Run.iinc {k : Nat} {cst : Int} {x : Int32} (z : Int32) (l' : Array Slot) (K : Run C R Z n0 own nm ret bytes mx h cells slots pc L S) (hd : decode bytes pc = .ok (.iinc k cst, 3)) (hl : L[k]? = some (.val (.int x))) (hz : Int32.ofInt cst = z) (hl' : storeLocals L k (.int (x + z)) = some l') : Run C R Z n0 own nm ret bytes mx h cells slots (pc + 3) l' S := by
  obtain ⟨hx, hby, hml, hown, hZ, hnm, hrt, hlk, T, locs, X, N, eT, st⟩ := K
  exact ⟨hx, hby, hml, hown, hZ, hnm, hrt, hlk, T, locs, X, N, eT, fun t kt => st t (XS.iinc X.here hx rfl (hb hby hd) hl (by rw [hz]; exact hl') kt)⟩
theorem Run.dup {x : Value} (K : Run C R Z n0 own nm ret bytes mx h cells slots pc L (x :: S)) (hd : decode bytes pc = .ok (.dup, 1)) (hc : x.category = 1) : Run C R Z n0 own nm ret bytes mx h cells slots (pc + 1) L (x :: x :: S) := by
  obtain ⟨hx, hby, hml, hown, hZ, hnm, hrt, hlk, T, locs, X, N, eT, st⟩ := K
  exact ⟨hx, hby, hml, hown, hZ, hnm, hrt, hlk, T, locs, X, N, eT, fun t kt => st t (XS.dup X.here hx rfl (hb hby hd) rfl hc kt)⟩
theorem Run.dupX1 {x y : Value} (K : Run C R Z n0 own nm ret bytes mx h cells slots pc L (x :: y :: S)) (hd : decode bytes pc = .ok (.dup_x1, 1)) (hc : x.category = 1) (hc' : y.category = 1) : Run C R Z n0 own nm ret bytes mx h cells slots (pc + 1) L (x :: y :: x :: S) := by
  obtain ⟨hx, hby, hml, hown, hZ, hnm, hrt, hlk, T, locs, X, N, eT, st⟩ := K
  exact ⟨hx, hby, hml, hown, hZ, hnm, hrt, hlk, T, locs, X, N, eT, fun t kt => st t (XS.dupX1 X.here hx rfl (hb hby hd) rfl hc hc' kt)⟩
theorem Run.pop {x : Value} (K : Run C R Z n0 own nm ret bytes mx h cells slots pc L (x :: S)) (hd : decode bytes pc = .ok (.pop, 1)) (hc : x.category = 1) : Run C R Z n0 own nm ret bytes mx h cells slots (pc + 1) L S := by
  obtain ⟨hx, hby, hml, hown, hZ, hnm, hrt, hlk, T, locs, X, N, eT, st⟩ := K
  exact ⟨hx, hby, hml, hown, hZ, hnm, hrt, hlk, T, locs, X, N, eT, fun t kt => st t (XS.pop X.here hx rfl (hb hby hd) rfl hc kt)⟩
theorem Run.goto {o : Int} {pc' : Nat} (K : Run C R Z n0 own nm ret bytes mx h cells slots pc L S) (hd : decode bytes pc = .ok (.goto o, 3)) (ho : 0 ≤ (pc : Int) + o) (hp : ((pc : Int) + o).toNat = pc') : Run C R Z n0 own nm ret bytes mx h cells slots pc' L S := by
  obtain ⟨hx, hby, hml, hown, hZ, hnm, hrt, hlk, T, locs, X, N, eT, st⟩ := K
  exact ⟨hx, hby, hml, hown, hZ, hnm, hrt, hlk, T, locs, X, N, eT, fun t kt => st t (XS.goto X.here hx rfl (pc0 := pc) rfl (hb hby hd) ho hp kt)⟩
theorem Run.ifYes {cd : ClassFile.Cond} {x : Int32} {o : Int} {pc' : Nat} (K : Run C R Z n0 own nm ret bytes mx h cells slots pc L (.int x :: S)) (hd : decode bytes pc = .ok (.ifCond cd o, 3)) (hc : if_icmp.holds cd x 0 = true) (ho : 0 ≤ (pc : Int) + o) (hp : ((pc : Int) + o).toNat = pc') : Run C R Z n0 own nm ret bytes mx h cells slots pc' L S := by
  obtain ⟨hx, hby, hml, hown, hZ, hnm, hrt, hlk, T, locs, X, N, eT, st⟩ := K
  exact ⟨hx, hby, hml, hown, hZ, hnm, hrt, hlk, T, locs, X, N, eT, fun t kt => st t (XS.ifYes X.here hx rfl (pc0 := pc) rfl (hb hby hd) rfl ((if0 _ _).trans hc) ho hp kt)⟩
theorem Run.ifNo {cd : ClassFile.Cond} {x : Int32} {o : Int} (K : Run C R Z n0 own nm ret bytes mx h cells slots pc L (.int x :: S)) (hd : decode bytes pc = .ok (.ifCond cd o, 3)) (hc : if_icmp.holds cd x 0 = false) : Run C R Z n0 own nm ret bytes mx h cells slots (pc + 3) L S := by
  obtain ⟨hx, hby, hml, hown, hZ, hnm, hrt, hlk, T, locs, X, N, eT, st⟩ := K
  exact ⟨hx, hby, hml, hown, hZ, hnm, hrt, hlk, T, locs, X, N, eT, fun t kt => st t (XS.ifNo X.here hx rfl (hb hby hd) rfl ((if0 _ _).trans hc) kt)⟩
theorem Run.icmpYes {cd : ClassFile.Cond} {x y : Int32} {o : Int} {pc' : Nat} (K : Run C R Z n0 own nm ret bytes mx h cells slots pc L (.int y :: .int x :: S)) (hd : decode bytes pc = .ok (.if_icmp cd o, 3)) (hc : if_icmp.holds cd x y = true) (ho : 0 ≤ (pc : Int) + o) (hp : ((pc : Int) + o).toNat = pc') : Run C R Z n0 own nm ret bytes mx h cells slots pc' L S := by
  obtain ⟨hx, hby, hml, hown, hZ, hnm, hrt, hlk, T, locs, X, N, eT, st⟩ := K
  exact ⟨hx, hby, hml, hown, hZ, hnm, hrt, hlk, T, locs, X, N, eT, fun t kt => st t (XS.icmpYes X.here hx rfl (pc0 := pc) rfl (hb hby hd) rfl hc ho hp kt)⟩
theorem Run.icmpNo {cd : ClassFile.Cond} {x y : Int32} {o : Int} (K : Run C R Z n0 own nm ret bytes mx h cells slots pc L (.int y :: .int x :: S)) (hd : decode bytes pc = .ok (.if_icmp cd o, 3)) (hc : if_icmp.holds cd x y = false) : Run C R Z n0 own nm ret bytes mx h cells slots (pc + 3) L S := by
  obtain ⟨hx, hby, hml, hown, hZ, hnm, hrt, hlk, T, locs, X, N, eT, st⟩ := K
  exact ⟨hx, hby, hml, hown, hZ, hnm, hrt, hlk, T, locs, X, N, eT, fun t kt => st t (XS.icmpNo X.here hx rfl (hb hby hd) rfl hc kt)⟩
theorem Run.ifnullYes {o : Int} {pc' : Nat} (K : Run C R Z n0 own nm ret bytes mx h cells slots pc L (.null :: S)) (hd : decode bytes pc = .ok (.ifnull o, 3)) (ho : 0 ≤ (pc : Int) + o) (hp : ((pc : Int) + o).toNat = pc') : Run C R Z n0 own nm ret bytes mx h cells slots pc' L S := by
  obtain ⟨hx, hby, hml, hown, hZ, hnm, hrt, hlk, T, locs, X, N, eT, st⟩ := K
  exact ⟨hx, hby, hml, hown, hZ, hnm, hrt, hlk, T, locs, X, N, eT, fun t kt => st t (XS.ifnullYes X.here hx rfl (pc0 := pc) rfl (hb hby hd) rfl ho hp kt)⟩
theorem Run.ifnullNo {o : Int} {b : Addr} (K : Run C R Z n0 own nm ret bytes mx h cells slots pc L (.ref b :: S)) (hd : decode bytes pc = .ok (.ifnull o, 3))  : Run C R Z n0 own nm ret bytes mx h cells slots (pc + 3) L S := by
  obtain ⟨hx, hby, hml, hown, hZ, hnm, hrt, hlk, T, locs, X, N, eT, st⟩ := K
  exact ⟨hx, hby, hml, hown, hZ, hnm, hrt, hlk, T, locs, X, N, eT, fun t kt => st t (XS.ifnullNo X.here hx rfl (hb hby hd) rfl kt)⟩
theorem Run.ifnonnullYes {o : Int} {b : Addr} {pc' : Nat} (K : Run C R Z n0 own nm ret bytes mx h cells slots pc L (.ref b :: S)) (hd : decode bytes pc = .ok (.ifnonnull o, 3)) (ho : 0 ≤ (pc : Int) + o) (hp : ((pc : Int) + o).toNat = pc') : Run C R Z n0 own nm ret bytes mx h cells slots pc' L S := by
  obtain ⟨hx, hby, hml, hown, hZ, hnm, hrt, hlk, T, locs, X, N, eT, st⟩ := K
  exact ⟨hx, hby, hml, hown, hZ, hnm, hrt, hlk, T, locs, X, N, eT, fun t kt => st t (XS.ifnonnullYes X.here hx rfl (pc0 := pc) rfl (hb hby hd) rfl ho hp kt)⟩
theorem Run.ifnonnullNo {o : Int} (K : Run C R Z n0 own nm ret bytes mx h cells slots pc L (.null :: S)) (hd : decode bytes pc = .ok (.ifnonnull o, 3))  : Run C R Z n0 own nm ret bytes mx h cells slots (pc + 3) L S := by
  obtain ⟨hx, hby, hml, hown, hZ, hnm, hrt, hlk, T, locs, X, N, eT, st⟩ := K
  exact ⟨hx, hby, hml, hown, hZ, hnm, hrt, hlk, T, locs, X, N, eT, fun t kt => st t (XS.ifnonnullNo X.here hx rfl (hb hby hd) rfl kt)⟩
theorem Run.acmpYes {cd : ClassFile.ACond} {x y : Value} {o : Int} {pc' : Nat} (K : Run C R Z n0 own nm ret bytes mx h cells slots pc L (y :: x :: S)) (hd : decode bytes pc = .ok (.if_acmp cd o, 3)) (h1 : x.isRef = true) (h2 : y.isRef = true) (hc : XT.acmp cd x y = true) (ho : 0 ≤ (pc : Int) + o) (hp : ((pc : Int) + o).toNat = pc') : Run C R Z n0 own nm ret bytes mx h cells slots pc' L S := by
  obtain ⟨hx, hby, hml, hown, hZ, hnm, hrt, hlk, T, locs, X, N, eT, st⟩ := K
  exact ⟨hx, hby, hml, hown, hZ, hnm, hrt, hlk, T, locs, X, N, eT, fun t kt => st t (XT.acmpYes X.here hx rfl (pc0 := pc) rfl (hb hby hd) rfl h1 h2 hc ho hp kt)⟩
theorem Run.acmpNo {cd : ClassFile.ACond} {x y : Value} {o : Int} (K : Run C R Z n0 own nm ret bytes mx h cells slots pc L (y :: x :: S)) (hd : decode bytes pc = .ok (.if_acmp cd o, 3)) (h1 : x.isRef = true) (h2 : y.isRef = true) (hc : XT.acmp cd x y = false) : Run C R Z n0 own nm ret bytes mx h cells slots (pc + 3) L S := by
  obtain ⟨hx, hby, hml, hown, hZ, hnm, hrt, hlk, T, locs, X, N, eT, st⟩ := K
  exact ⟨hx, hby, hml, hown, hZ, hnm, hrt, hlk, T, locs, X, N, eT, fun t kt => st t (XT.acmpNo X.here hx rfl (hb hby hd) rfl h1 h2 hc kt)⟩
theorem Run.dloadN {k : Fin 4} {v : UInt64} (K : Run C R Z n0 own nm ret bytes mx h cells slots pc L S) (hd : decode bytes pc = .ok (.dload_n k, 1)) (hl : L[k.val]? = some (.val (.double v))) : Run C R Z n0 own nm ret bytes mx h cells slots (pc + 1) L (.double v :: S) := by
  obtain ⟨hx, hby, hml, hown, hZ, hnm, hrt, hlk, T, locs, X, N, eT, st⟩ := K
  exact ⟨hx, hby, hml, hown, hZ, hnm, hrt, hlk, T, locs, X, N, eT, fun t kt => st t (XS.dloadN X.here hx rfl (hb hby hd) hl kt)⟩
theorem Run.dload {k : Nat} {v : UInt64} (K : Run C R Z n0 own nm ret bytes mx h cells slots pc L S) (hd : decode bytes pc = .ok (.dload k, 2)) (hl : L[k]? = some (.val (.double v))) : Run C R Z n0 own nm ret bytes mx h cells slots (pc + 2) L (.double v :: S) := by
  obtain ⟨hx, hby, hml, hown, hZ, hnm, hrt, hlk, T, locs, X, N, eT, st⟩ := K
  exact ⟨hx, hby, hml, hown, hZ, hnm, hrt, hlk, T, locs, X, N, eT, fun t kt => st t (XS.dload X.here hx rfl (hb hby hd) hl kt)⟩
theorem Run.dstoreN {k : Fin 4} {v : UInt64} (l' : Array Slot) (K : Run C R Z n0 own nm ret bytes mx h cells slots pc L (.double v :: S)) (hd : decode bytes pc = .ok (.dstore_n k, 1)) (hl : storeLocals L k.val (.double v) = some l') : Run C R Z n0 own nm ret bytes mx h cells slots (pc + 1) l' S := by
  obtain ⟨hx, hby, hml, hown, hZ, hnm, hrt, hlk, T, locs, X, N, eT, st⟩ := K
  exact ⟨hx, hby, hml, hown, hZ, hnm, hrt, hlk, T, locs, X, N, eT, fun t kt => st t (XS.dstoreN X.here hx rfl (hb hby hd) rfl hl kt)⟩
theorem Run.dstore {k : Nat} {v : UInt64} (l' : Array Slot) (K : Run C R Z n0 own nm ret bytes mx h cells slots pc L (.double v :: S)) (hd : decode bytes pc = .ok (.dstore k, 2)) (hl : storeLocals L k (.double v) = some l') : Run C R Z n0 own nm ret bytes mx h cells slots (pc + 2) l' S := by
  obtain ⟨hx, hby, hml, hown, hZ, hnm, hrt, hlk, T, locs, X, N, eT, st⟩ := K
  exact ⟨hx, hby, hml, hown, hZ, hnm, hrt, hlk, T, locs, X, N, eT, fun t kt => st t (XS.dstore X.here hx rfl (hb hby hd) rfl hl kt)⟩
theorem Run.dconst0 (z : UInt64) (K : Run C R Z n0 own nm ret bytes mx h cells slots pc L S) (hd : decode bytes pc = .ok (.dconst 0, 1)) (hz : FP.dconst0 = z) : Run C R Z n0 own nm ret bytes mx h cells slots (pc + 1) L (.double z :: S) := by
  obtain ⟨hx, hby, hml, hown, hZ, hnm, hrt, hlk, T, locs, X, N, eT, st⟩ := K
  exact ⟨hx, hby, hml, hown, hZ, hnm, hrt, hlk, T, locs, X, N, eT, fun t kt => st t (XS.dconst0 X.here hx rfl (hb hby hd) hz kt)⟩
theorem Run.i2d {x : Int32} (z : UInt64) (K : Run C R Z n0 own nm ret bytes mx h cells slots pc L (.int x :: S)) (hd : decode bytes pc = .ok (.i2d, 1)) (hz : FP.i2d x = z) : Run C R Z n0 own nm ret bytes mx h cells slots (pc + 1) L (.double z :: S) := by
  obtain ⟨hx, hby, hml, hown, hZ, hnm, hrt, hlk, T, locs, X, N, eT, st⟩ := K
  exact ⟨hx, hby, hml, hown, hZ, hnm, hrt, hlk, T, locs, X, N, eT, fun t kt => st t (XS.i2dS X.here hx rfl (hb hby hd) rfl hz kt)⟩
theorem Run.l2d {x : Int64} (z : UInt64) (K : Run C R Z n0 own nm ret bytes mx h cells slots pc L (.long x :: S)) (hd : decode bytes pc = .ok (.l2d, 1)) (hz : FP.l2d x = z) : Run C R Z n0 own nm ret bytes mx h cells slots (pc + 1) L (.double z :: S) := by
  obtain ⟨hx, hby, hml, hown, hZ, hnm, hrt, hlk, T, locs, X, N, eT, st⟩ := K
  exact ⟨hx, hby, hml, hown, hZ, hnm, hrt, hlk, T, locs, X, N, eT, fun t kt => st t (XS.l2dS X.here hx rfl (hb hby hd) rfl hz kt)⟩
theorem Run.dadd {x y : UInt64} (z : UInt64) (K : Run C R Z n0 own nm ret bytes mx h cells slots pc L (.double y :: .double x :: S)) (hd : decode bytes pc = .ok (.dadd, 1)) (hn : Jvm.Free.Fl.NoNaN64 (FP.dadd x y)) (hz : FP.dadd x y = z) : Run C R Z n0 own nm ret bytes mx h cells slots (pc + 1) L (.double z :: S) := by
  obtain ⟨hx, hby, hml, hown, hZ, hnm, hrt, hlk, T, locs, X, N, eT, st⟩ := K
  exact ⟨hx, hby, hml, hown, hZ, hnm, hrt, hlk, T, locs, X, N, eT, fun t kt => st t (XS.daddS X.here hx rfl (hb hby hd) rfl hn hz kt)⟩
theorem Run.ddiv {x y : UInt64} (z : UInt64) (K : Run C R Z n0 own nm ret bytes mx h cells slots pc L (.double y :: .double x :: S)) (hd : decode bytes pc = .ok (.ddiv, 1)) (hn : Jvm.Free.Fl.NoNaN64 (FP.ddiv x y)) (hz : FP.ddiv x y = z) : Run C R Z n0 own nm ret bytes mx h cells slots (pc + 1) L (.double z :: S) := by
  obtain ⟨hx, hby, hml, hown, hZ, hnm, hrt, hlk, T, locs, X, N, eT, st⟩ := K
  exact ⟨hx, hby, hml, hown, hZ, hnm, hrt, hlk, T, locs, X, N, eT, fun t kt => st t (XS.ddivS X.here hx rfl (hb hby hd) rfl hn hz kt)⟩
theorem Run.dcmp {o : CmpOp} {x y : UInt64} (z : Int32) (K : Run C R Z n0 own nm ret bytes mx h cells slots pc L (.double y :: .double x :: S)) (hd : decode bytes pc = .ok (.dcmp o, 1)) (hz : cmpValue (FP.dcmp x y) o = z) : Run C R Z n0 own nm ret bytes mx h cells slots (pc + 1) L (.int z :: S) := by
  obtain ⟨hx, hby, hml, hown, hZ, hnm, hrt, hlk, T, locs, X, N, eT, st⟩ := K
  exact ⟨hx, hby, hml, hown, hZ, hnm, hrt, hlk, T, locs, X, N, eT, fun t kt => st t (XS.dcmpS X.here hx rfl (hb hby hd) rfl hz kt)⟩
theorem Run.foldI {w : Int32} (K : Run C R Z n0 own nm ret bytes mx h cells slots pc L (.int w :: S)) (z : Int32) (q : w = z) : Run C R Z n0 own nm ret bytes mx h cells slots pc L (.int z :: S) := q ▸ K
theorem Run.foldJ {w : Int64} (K : Run C R Z n0 own nm ret bytes mx h cells slots pc L (.long w :: S)) (z : Int64) (q : w = z) : Run C R Z n0 own nm ret bytes mx h cells slots pc L (.long z :: S) := q ▸ K
theorem Run.stk (K : Run C R Z n0 own nm ret bytes mx h cells slots pc L S) (S' : List Value) (q : S = S') : Run C R Z n0 own nm ret bytes mx h cells slots pc L S' := q ▸ K
theorem Run.loc (K : Run C R Z n0 own nm ret bytes mx h cells slots pc L S) (L' : Array Slot) (q : L = L') : Run C R Z n0 own nm ret bytes mx h cells slots pc L' S := q ▸ K
theorem Run.atpc (K : Run C R Z n0 own nm ret bytes mx h cells slots pc L S) (pc' : Nat) (q : pc = pc') : Run C R Z n0 own nm ret bytes mx h cells slots pc' L S := q ▸ K
theorem Run.ldcInt {a0 : Array Value} {index : Nat} {v : Int32} (K : Run C R Z n0 own nm ret bytes mx h cells slots pc L S) (hd : decode bytes pc = .ok (.ldc index, 2)) (w : (Jvm.Cond.constant own index v).before a0 Z = true) : Run C R Z n0 own nm ret bytes mx h cells slots (pc + 2) L (.int v :: S) := by
  obtain ⟨hx, hby, hml, hown, hZ, hnm, hrt, hlk, T, locs, X, N, eT, st⟩ := K
  exact ⟨hx, hby, hml, hown, hZ, hnm, hrt, hlk, T, locs, X, N, eT, fun t kt => st t (X.ldcInt hx hown (mvT hZ w) (g := mkF C.2.2.2.2.1 pc L S) rfl (hb hby hd) t kt)⟩
theorem Run.ldc2Long {a0 : Array Value} {index : Nat} {v : Int64} (K : Run C R Z n0 own nm ret bytes mx h cells slots pc L S) (hd : decode bytes pc = .ok (.ldc2_w index, 3)) (w : (Jvm.Cond.constantLong own index v).before a0 Z = true) : Run C R Z n0 own nm ret bytes mx h cells slots (pc + 3) L (.long v :: S) := by
  obtain ⟨hx, hby, hml, hown, hZ, hnm, hrt, hlk, T, locs, X, N, eT, st⟩ := K
  exact ⟨hx, hby, hml, hown, hZ, hnm, hrt, hlk, T, locs, X, N, eT, fun t kt => st t (X.ldc2Long hx hown (mvT hZ w) (g := mkF C.2.2.2.2.1 pc L S) rfl (hb hby hd) t kt)⟩
/-! returns -/
theorem Run.iret {z : Int32} {Q : Option Value → Heap → Prop} (K : Run C R Z n0 own nm ret bytes mx h cells slots pc L (.int z :: S)) (hd : decode bytes pc = .ok (.ireturn, 1)) {ty : FieldType} (hr : ret = some ty) (ht : ty = .int ∨ ty = .boolean ∨ ty = .byte ∨ ty = .char ∨ ty = .short) (hn : narrow ty (.int z) = .int z) (hQ : Q (some (.int z)) h) (hc : cells ≤ R.cells) (hs : slots ≤ R.slots) : Fini C R n0 Q := by
  obtain ⟨hx, hby, hml, hown, hZ, hnm, hrt, hlk, T, locs, X, N, eT, st⟩ := K
  obtain ⟨fs, hr', hrun, hended, hW, hsame⟩ := X.leave (v := some (.int z)) (fun q => by rw [hrt, hr] at q; cases q) hlk
  exact ⟨_, _, st _ (retOut X hx (hrt.trans hr) hn (Or.inl ⟨rfl, ht, _, rfl⟩) (hb hby hd) hr'), hrun, hended, _, _, rfl, ⟨by rw [show (T.setFrames fs).heap = T.heap from rfl, eT]; exact hQ, N⟩, ⟨_, rfl⟩, hW, hsame.mono hc hs⟩
theorem Run.lret {z : Int64} {Q : Option Value → Heap → Prop} (K : Run C R Z n0 own nm ret bytes mx h cells slots pc L (.long z :: S)) (hd : decode bytes pc = .ok (.lreturn, 1)) (hr : ret = some .long) (hQ : Q (some (.long z)) h) (hc : cells ≤ R.cells) (hs : slots ≤ R.slots) : Fini C R n0 Q := by
  obtain ⟨hx, hby, hml, hown, hZ, hnm, hrt, hlk, T, locs, X, N, eT, st⟩ := K
  obtain ⟨fs, hr', hrun, hended, hW, hsame⟩ := X.leave (v := some (.long z)) (fun q => by rw [hrt, hr] at q; cases q) hlk
  exact ⟨_, _, st _ (retOut X hx (hrt.trans hr) rfl (Or.inr (Or.inl ⟨rfl, rfl, _, rfl⟩)) (hb hby hd) hr'), hrun, hended, _, _, rfl, ⟨by rw [show (T.setFrames fs).heap = T.heap from rfl, eT]; exact hQ, N⟩, ⟨_, rfl⟩, hW, hsame.mono hc hs⟩
theorem Run.dret {z : UInt64} {Q : Option Value → Heap → Prop} (K : Run C R Z n0 own nm ret bytes mx h cells slots pc L (.double z :: S)) (hd : decode bytes pc = .ok (.dreturn, 1)) (hr : ret = some .double) (hQ : Q (some (.double z)) h) (hc : cells ≤ R.cells) (hs : slots ≤ R.slots) : Fini C R n0 Q := by
  obtain ⟨hx, hby, hml, hown, hZ, hnm, hrt, hlk, T, locs, X, N, eT, st⟩ := K
  obtain ⟨fs, hr', hrun, hended, hW, hsame⟩ := X.leave (v := some (.double z)) (fun q => by rw [hrt, hr] at q; cases q) hlk
  exact ⟨_, _, st _ (retOut X hx (hrt.trans hr) rfl (Or.inr (Or.inr (Or.inl ⟨rfl, rfl, _, rfl⟩))) (hb hby hd) hr'), hrun, hended, _, _, rfl, ⟨by rw [show (T.setFrames fs).heap = T.heap from rfl, eT]; exact hQ, N⟩, ⟨_, rfl⟩, hW, hsame.mono hc hs⟩
theorem Run.aret {w : Value} {Q : Option Value → Heap → Prop} (K : Run C R Z n0 own nm ret bytes mx h cells slots pc L (w :: S)) (hd : decode bytes pc = .ok (.areturn, 1)) {ty : FieldType} (hr : ret = some ty) (ht : ty.isReference = true) (hn : narrow ty w = w) (hw : w.isRef = true) (hQ : Q (some w) h) (hc : cells ≤ R.cells) (hs : slots ≤ R.slots) : Fini C R n0 Q := by
  obtain ⟨hx, hby, hml, hown, hZ, hnm, hrt, hlk, T, locs, X, N, eT, st⟩ := K
  obtain ⟨fs, hr', hrun, hended, hW, hsame⟩ := X.leave (v := some w) (fun q => by rw [hrt, hr] at q; cases q) hlk
  exact ⟨_, _, st _ (retOut X hx (hrt.trans hr) hn (Or.inr (Or.inr (Or.inr (Or.inr ⟨rfl, ht, hw⟩)))) (hb hby hd) hr'), hrun, hended, _, _, rfl, ⟨by rw [show (T.setFrames fs).heap = T.heap from rfl, eT]; exact hQ, N⟩, ⟨_, rfl⟩, hW, hsame.mono hc hs⟩
theorem Run.vret {Q : Option Value → Heap → Prop} (K : Run C R Z n0 own nm ret bytes mx h cells slots pc L []) (hd : decode bytes pc = .ok (.return_, 1)) (hr : ret = none) (hQ : Q none h) (hc : cells ≤ R.cells) (hs : slots ≤ R.slots) : Fini C R n0 Q := by
  obtain ⟨hx, hby, hml, hown, hZ, hnm, hrt, hlk, T, locs, X, N, eT, st⟩ := K
  obtain ⟨fs, hr', hrun, hended, hW, hsame⟩ := X.leave (v := none) (fun _ => rfl) hlk
  exact ⟨_, _, st _ (X.returnOut hx (hrt.trans hr) (hb hby hd) hr'), hrun, hended, _, _, rfl, ⟨by rw [show (T.setFrames fs).heap = T.heap from rfl, eT]; exact hQ, N⟩, ⟨_, rfl⟩, hW, hsame.mono hc hs⟩
/-! calls -/
theorem Run.callS {a0 : Array Value} {index : Nat} {y : MethodName} {by2 : ByteArray} {mx2 W : Nat} {rt2 : Option FieldType} {rm : Room} {argsL rest : List Value} {Q : Option Value → Heap → Prop} {ps : List FieldType} (K : Run C R Z n0 own nm ret bytes mx h cells slots pc L S) (hd : decode bytes pc = .ok (.invokestatic index, 3))
    (wl : (Jvm.Cond.methodLink own index y).before a0 Z = true) (wst : (Jvm.Cond.static y).before a0 Z = true) (wi : (Jvm.Cond.initialized y.cls).before a0 Z = true) (wc : (Jvm.Cond.code y by2 mx2 rt2).before a0 Z = true)
    (con : Con Z n0 y by2 mx2 rt2 [] rm argsL.toArray h Q) (hS : S = argsL.reverse ++ rest) (hpd : parseMethodDescriptor y.desc = some ⟨ps, rt2⟩) (hlen : argsL.length = ps.length) (hW : (rest.map fun v => v.category).sum = W) (hLs : L.size = mx)
    (hfr : rm.frames + 1 ≤ R.frames) (hlo : W + (mx2 + 11) + rm.locals ≤ R.locals) (hce : cells + rm.cells ≤ R.cells) (hsl : slots + rm.slots ≤ R.slots) (hy : y.cls ≠ "java/lang/invoke/MethodHandle" ∧ y.cls ≠ "java/lang/invoke/VarHandle") :
    ∃ v h', Q v h' ∧ Run C R Z n0 own nm ret bytes mx h' (cells + rm.cells) (slots + rm.slots) (pc + 3) L (v.toList ++ rest) := by
  obtain ⟨hx, hby, hml, hown, hZ, hnm, hrt, hlk, T, locs, X, N, eT, st⟩ := K
  obtain ⟨v, _, ⟨T', L', k', n'⟩, -, X', ⟨Lc, hQ, l1, y1, z1⟩, st'⟩ := Jvm.LawKit.callS X hx (y := y) hown (mvT hZ wl) (mvT hZ wst) (mvT hZ wi) (mvT hZ wc) hy (backOf (Q := fun v h L => Q v h ∧ Fr n0 L) (W := W) (con C.2.1) hZ wc wi hfr hlo) (g := mkF C.2.2.2.2.1 pc L S) rfl (by rw [hml]; exact hLs) (argsL := argsL) (rest := rest) (lenOf hpd hlen) hS (by show 2 * 0 + _ ≤ _; omega) (hb hby hd) (fun _ _ => ⟨rfl, eT, hce, hsl⟩)
  dsimp only [Pt.U, Pt.locs, Pt.cells, Pt.slots] at X' l1 y1 z1 st' hQ
  subst l1 y1 z1
  exact ⟨v, T'.heap, hQ.1, hx, hby, hml, hown, hZ, hnm, hrt, hlk, T', _, X', Fr.app N hQ.2, rfl, fun t kt => st t (st' t kt)⟩
theorem Run.callI {a0 : Array Value} {index : Nat} {y : MethodName} {by2 : ByteArray} {mx2 W : Nat} {rm : Room} {a : Addr} {argsL rest : List Value} {Q : Option Value → Heap → Prop} {ps : List FieldType} (K : Run C R Z n0 own nm ret bytes mx h cells slots pc L S) (hd : decode bytes pc = .ok (.invokespecial index, 3))
    (hy1 : y.name = "<init>") (wl : (Jvm.Cond.methodLink own index y).before a0 Z = true) (wst : (Jvm.Cond.instanceMethod y).before a0 Z = true) (wi : (Jvm.Cond.initialized y.cls).before a0 Z = true) (wc : (Jvm.Cond.code y by2 mx2 none).before a0 Z = true)
    (con : Con Z n0 y by2 mx2 none [] rm (.ref a :: argsL).toArray h Q) (hS : S = argsL.reverse ++ .ref a :: rest) (hpd : parseMethodDescriptor y.desc = some ⟨ps, none⟩) (hlen : argsL.length = ps.length) (hW : (rest.map fun v => v.category).sum = W) (hLs : L.size = mx)
    (hfr : rm.frames + 1 ≤ R.frames) (hlo : W + (mx2 + 11) + rm.locals ≤ R.locals) (hce : cells + rm.cells ≤ R.cells) (hsl : slots + rm.slots ≤ R.slots) (hy : y.cls ≠ "java/lang/invoke/MethodHandle" ∧ y.cls ≠ "java/lang/invoke/VarHandle") :
    ∃ v h', Q v h' ∧ Run C R Z n0 own nm ret bytes mx h' (cells + rm.cells) (slots + rm.slots) (pc + 3) L (v.toList ++ rest) := by
  obtain ⟨hx, hby, hml, hown, hZ, hnm, hrt, hlk, T, locs, X, N, eT, st⟩ := K
  obtain ⟨v, _, ⟨T', L', k', n'⟩, -, X', ⟨Lc, hQ, l1, y1, z1⟩, st'⟩ := X.specialBack hx (y := y) hy1 hown (mvT hZ wl) (mvT hZ wst) (mvT hZ wc) hy (backOf (Q := fun v h L => Q v h ∧ Fr n0 L) (W := W) (con C.2.1) hZ wc wi hfr hlo) (g := mkF C.2.2.2.2.1 pc L S) rfl (by rw [hml]; exact hLs) (Steps.refl _) (a := a) (argsL := argsL) (rest := rest) (lenOf hpd hlen) hS (by show 2 * 0 + _ ≤ _; omega) (hb hby hd) (fun _ _ => ⟨rfl, eT, hce, hsl⟩)
  dsimp only [Pt.U, Pt.locs, Pt.cells, Pt.slots] at X' l1 y1 z1 st' hQ
  subst l1 y1 z1
  exact ⟨v, T'.heap, hQ.1, hx, hby, hml, hown, hZ, hnm, hrt, hlk, T', _, X', Fr.app N hQ.2, rfl, fun t kt => st t (st'.trans kt)⟩
theorem Run.callV {a0 : Array Value} {index : Nat} {y z : MethodName} {Cl : String} {by2 : ByteArray} {mx2 W : Nat} {rt2 : Option FieldType} {rm : Room} {a : Addr} {argsL rest : List Value} {Q : Option Value → Heap → Prop} {ps : List FieldType} (K : Run C R Z n0 own nm ret bytes mx h cells slots pc L S) (hd : decode bytes pc = .ok (.invokevirtual index, 3))
    (wl : (Jvm.Cond.methodLink own index y).before a0 Z = true) (wd : (Jvm.Cond.declares y).before a0 Z = true) (nf : ∀ s : State, Z.Warmed39 s.vm → NotFace s y) (ws : (Jvm.Cond.selects Cl y z).before a0 Z = true) (wst : (Jvm.Cond.instanceMethod z).before a0 Z = true) (wi : (Jvm.Cond.initialized z.cls).before a0 Z = true) (wc : (Jvm.Cond.code z by2 mx2 rt2).before a0 Z = true)
    (E : Exa Z h a Cl) (con : Con Z n0 z by2 mx2 rt2 [] rm (.ref a :: argsL).toArray h Q) (hS : S = argsL.reverse ++ .ref a :: rest) (hpd : parseMethodDescriptor y.desc = some ⟨ps, rt2⟩) (hlen : argsL.length = ps.length) (hW : (rest.map fun v => v.category).sum = W) (hLs : L.size = mx)
    (hfr : rm.frames + 1 ≤ R.frames) (hlo : W + (mx2 + 11) + rm.locals ≤ R.locals) (hce : cells + rm.cells ≤ R.cells) (hsl : slots + rm.slots ≤ R.slots) (hy : y.cls ≠ "java/lang/invoke/MethodHandle" ∧ y.cls ≠ "java/lang/invoke/VarHandle") :
    ∃ v h', Q v h' ∧ Run C R Z n0 own nm ret bytes mx h' (cells + rm.cells) (slots + rm.slots) (pc + 3) L (v.toList ++ rest) := by
  obtain ⟨hx, hby, hml, hown, hZ, hnm, hrt, hlk, T, locs, X, N, eT, st⟩ := K
  obtain ⟨cq, kq, qa, qb, qc⟩ := isOf hZ eT E
  obtain ⟨v, _, ⟨T', L', k', n'⟩, -, X', ⟨Lc, hQ, l1, y1, z1⟩, st'⟩ := X.virtualBack hx (y := y) (z := z) hown (mvT hZ wl) (mvT hZ wd) (nf _ hZ) (mvT hZ ws) (mvT hZ wst) hy (backOf (Q := fun v h L => Q v h ∧ Fr n0 L) (W := W) (con C.2.1) hZ wc wi hfr hlo) qa qc (g := mkF C.2.2.2.2.1 pc L S) rfl (by rw [hml]; exact hLs) (Steps.refl _) (argsL := argsL) (rest := rest) (lenOf hpd hlen) hS (by show 2 * 0 + _ ≤ _; omega) (hb hby hd) (fun _ _ => ⟨rfl, eT, hce, hsl⟩)
  dsimp only [Pt.U, Pt.locs, Pt.cells, Pt.slots] at X' l1 y1 z1 st' hQ
  subst l1 y1 z1
  exact ⟨v, T'.heap, hQ.1, hx, hby, hml, hown, hZ, hnm, hrt, hlk, T', _, X', Fr.app N hQ.2, rfl, fun t kt => st t (st'.trans kt)⟩
/-! fields, statics, objects -/
theorem Run.getF {a0 : Array Value} {index : Nat} {R0 O n d host : String} {a : Addr} {v : Value} (K : Run C R Z n0 own nm ret bytes mx h cells slots pc L (.ref a :: S)) (hd : decode bytes pc = .ok (.getfield index, 3)) (w : (Jvm.Cond.fieldLink own index R0 n d).before a0 Z = true ∨ (Jvm.Cond.fieldLinkNest own index R0 n d host).before a0 Z = true) (via : Via Z R0 O n d) (F : Fld Z h a O n d v) :
    Run C R Z n0 own nm ret bytes mx h cells slots (pc + 3) L (v :: S) := by
  obtain ⟨hx, hby, hml, hown, hZ, hnm, hrt, hlk, T, locs, X, N, eT, st⟩ := K
  obtain ⟨T', X', e', st'⟩ := RoadKit.getF X hx hZ hown w via eT F (g := mkF C.2.2.2.2.1 pc L (.ref a :: S)) rfl rfl (hb hby hd)
  exact ⟨hx, hby, hml, hown, hZ, hnm, hrt, hlk, T', locs, X', N, e', fun t kt => st t (st' t kt)⟩
theorem Run.getS {a0 : Array Value} {index : Nat} {R0 O n d host : String} {v : Value} (K : Run C R Z n0 own nm ret bytes mx h cells slots pc L S) (hd : decode bytes pc = .ok (.getstatic index, 3)) (w : (Jvm.Cond.fieldLink own index R0 n d).before a0 Z = true ∨ (Jvm.Cond.fieldLinkNest own index R0 n d host).before a0 Z = true) (via : Via Z R0 O n d) (F : Sta Z h O n d v) :
    Run C R Z n0 own nm ret bytes mx h cells slots (pc + 3) L (v :: S) := by
  obtain ⟨hx, hby, hml, hown, hZ, hnm, hrt, hlk, T, locs, X, N, eT, st⟩ := K
  obtain ⟨T', X', e', st'⟩ := RoadKit.getS2 X hx hZ hown w via eT F (g := mkF C.2.2.2.2.1 pc L S) rfl (hb hby hd)
  exact ⟨hx, hby, hml, hown, hZ, hnm, hrt, hlk, T', locs, X', N, e', fun t kt => st t (st' t kt)⟩
theorem Run.putF {a0 : Array Value} {index kk : Nat} {R0 O n d host Cl : String} {ty : FieldType} {a : Addr} {v old : Value} (K : Run C R Z n0 own nm ret bytes mx h cells slots pc L (v :: .ref a :: S)) (hd : decode bytes pc = .ok (.putfield index, 3)) (w : (Jvm.Cond.fieldLink own index R0 n d).before a0 Z = true ∨ (Jvm.Cond.fieldLinkNest own index R0 n d host).before a0 Z = true) (via : Via Z R0 O n d)
    (F : Fld Z h a O n d old) (E : Exa Z h a Cl) (Lw : (Jvm.Cond.lays Cl O n d).before a0 Z = true ∨ ((Jvm.Cond.laysFinal Cl O n d).before a0 Z = true ∧ own = O ∧ nm = "<init>")) (wi : (Jvm.Cond.instantiable Cl kk).before a0 Z = true) (hty : parseFieldDescriptor d = some ty) (hn : narrow ty v = v) (hf : fits ty v = true) (ga : n0 ≤ a) :
    ∃ h', Wr h h' a (RoadKit.slotOf Z O n d) v ∧ Run C R Z n0 own nm ret bytes mx h' cells slots (pc + 3) L S := by
  obtain ⟨hx, hby, hml, hown, hZ, hnm, hrt, hlk, T, locs, X, N, eT, st⟩ := K
  obtain ⟨T', h', X', e', W', st'⟩ := RoadKit.putF X hx hZ hown w via eT F E (Lw.imp id fun q => ⟨q.1, q.2.1, hnm.trans q.2.2⟩) wi hty hn hf (g := mkF C.2.2.2.2.1 pc L (v :: .ref a :: S)) rfl rfl (hb hby hd)
  exact ⟨h', W', hx, hby, hml, hown, hZ, hnm, hrt, hlk, T', _, X', Fr.snoc X' N ga, e', fun t kt => st t (st' t kt)⟩
theorem Run.newO {a0 : Array Value} {index n : Nat} {Cl : String} (K : Run C R Z n0 own nm ret bytes mx h cells slots pc L S) (hd : decode bytes pc = .ok (.new index, 3)) (w : (Jvm.Cond.classLink own index Cl).before a0 Z = true) (wi : (Jvm.Cond.instantiable Cl n).before a0 Z = true) (wz : (Jvm.Cond.initialized Cl).before a0 Z = true) (hc : cells + 1 ≤ R.cells) (hl : slots + n ≤ R.slots) :
    ∃ (h' : Heap) (b : Addr), b = h.size ∧ Ext h h' ∧ Exa Z h' b Cl ∧ (∀ {O f d : String} {ty : FieldType}, Laid Z a0 Cl O f d → parseFieldDescriptor d = some ty → Fld Z h' b O f d (defaultValue ty)) ∧ Run C R Z n0 own nm ret bytes mx h' (cells + 1) (slots + n) (pc + 3) L (.ref b :: S) := by
  obtain ⟨hx, hby, hml, hown, hZ, hnm, hrt, hlk, T, locs, X, N, eT, st⟩ := K
  obtain ⟨T', h', X', e', E', A', D', -, st'⟩ := RoadKit.newO X hx hZ hown w wi wz eT (g := mkF C.2.2.2.2.1 pc L S) rfl (hb hby hd) hc hl
  exact ⟨h', _, rfl, E', A', D', hx, hby, hml, hown, hZ, hnm, hrt, hlk, T', _, X', N, e', fun t kt => st t (st' t kt)⟩
theorem Run.initO {a0 : Array Value} {index W : Nat} {a : Addr} (K : Run C R Z n0 own nm ret bytes mx h cells slots pc L (.ref a :: S)) (hd : decode bytes pc = .ok (.invokespecial index, 3)) (w1 : (Jvm.Cond.methodLink own index Lib.objectInit).before a0 Z = true) (w2 : (Jvm.Cond.instanceMethod Lib.objectInit).before a0 Z = true) (w3 : (Jvm.Cond.code Lib.objectInit ⟨#[0xb1]⟩ 1 none).before a0 Z = true) (hLs : L.size = mx) (hW : (S.map fun v => v.category).sum = W) (hf : 1 ≤ R.frames) (hl : W + 12 ≤ R.locals) :
    Run C R Z n0 own nm ret bytes mx h cells slots (pc + 3) L S := by
  obtain ⟨hx, hby, hml, hown, hZ, hnm, hrt, hlk, T, locs, X, N, eT, st⟩ := K
  obtain ⟨T', X', e', st'⟩ := RoadKit.initO X hx hZ hown w1 w2 w3 eT (g := mkF C.2.2.2.2.1 pc L (.ref a :: S)) rfl (by rw [hml]; exact hLs) rfl (hb hby hd) hf (W := W) (by show 2 * 0 + _ ≤ _; omega) hl
  exact ⟨hx, hby, hml, hown, hZ, hnm, hrt, hlk, T', locs, X', N, e', fun t kt => st t (st' t kt)⟩
theorem Run.castY {a0 : Array Value} {index : Nat} {Kl : String} {a : Addr} (K : Run C R Z n0 own nm ret bytes mx h cells slots pc L (.ref a :: S)) (hd : decode bytes pc = .ok (.checkcast index, 3)) (w : (Jvm.Cond.classLink own index Kl).before a0 Z = true) (F : Ins Z h a Kl true) : Run C R Z n0 own nm ret bytes mx h cells slots (pc + 3) L (.ref a :: S) := by
  obtain ⟨hx, hby, hml, hown, hZ, hnm, hrt, hlk, T, locs, X, N, eT, st⟩ := K
  obtain ⟨T', X', e', st'⟩ := RoadKit.castY X hx hZ hown w eT F (g := mkF C.2.2.2.2.1 pc L (.ref a :: S)) rfl rfl (hb hby hd)
  exact ⟨hx, hby, hml, hown, hZ, hnm, hrt, hlk, T', locs, X', N, e', fun t kt => st t (st' t kt)⟩
/-! arrays, by a function of the place -/
theorem Run.arrlen {a : Addr} {ty : FieldType} {n : Nat} {f : Nat → Value} (K : Run C R Z n0 own nm ret bytes mx h cells slots pc L (.ref a :: S)) (hd : decode bytes pc = .ok (.arraylength, 1)) (F : Arf Z h a ty n f) (z : Int32) (hz : n.toInt32 = z) : Run C R Z n0 own nm ret bytes mx h cells slots (pc + 1) L (.int z :: S) := by
  obtain ⟨hx, hby, hml, hown, hZ, hnm, hrt, hlk, T, locs, X, N, eT, st⟩ := K
  obtain ⟨cl, Ar, Sz, H⟩ := F
  subst hz Sz
  exact ⟨hx, hby, hml, hown, hZ, hnm, hrt, hlk, T, locs, X, N, eT, fun t kt => st t (X.arraylength hx (by rw [eT]; exact Ar.1) (State.isArrayOf_alike hZ.alike Ar.2.1) (g := mkF C.2.2.2.2.1 pc L (.ref a :: S)) rfl rfl (hb hby hd) t kt)⟩
theorem Run.iaload {a : Addr} {n : Nat} {f : Nat → Value} {j : Int32} (K : Run C R Z n0 own nm ret bytes mx h cells slots pc L (.int j :: .ref a :: S)) (hd : decode bytes pc = .ok (.iaload, 1)) (F : Arf Z h a .int n f) (i : Nat) (hj : j.toNatClampNeg = i) (h0 : ¬ j < 0) (hi : i < n) (v : Value) (hv : f i = v) : Run C R Z n0 own nm ret bytes mx h cells slots (pc + 1) L (v :: S) := by
  obtain ⟨hx, hby, hml, hown, hZ, hnm, hrt, hlk, T, locs, X, N, eT, st⟩ := K
  obtain ⟨cl, Ar, Sz, H⟩ := F
  subst hj hv Sz
  exact ⟨hx, hby, hml, hown, hZ, hnm, hrt, hlk, T, locs, X, N, eT, fun t kt => st t (X.iaload hx (j := j) (v := f j.toNatClampNeg) (by rw [eT]; exact Ar.1) (State.isArrayOf_alike hZ.alike Ar.2.1) Ar.2.2 (fun q => q.elim h0 (Nat.not_le.mpr hi)) (H _ hi) (g := mkF C.2.2.2.2.1 pc L (.int j :: .ref a :: S)) rfl rfl (hb hby hd) t kt)⟩
theorem Run.baload {a : Addr} {n : Nat} {f : Nat → Value} {j : Int32} (K : Run C R Z n0 own nm ret bytes mx h cells slots pc L (.int j :: .ref a :: S)) (hd : decode bytes pc = .ok (.baload, 1)) (F : Arf Z h a .byte n f) (i : Nat) (hj : j.toNatClampNeg = i) (h0 : ¬ j < 0) (hi : i < n) (v : Value) (hv : f i = v) : Run C R Z n0 own nm ret bytes mx h cells slots (pc + 1) L (v :: S) := by
  obtain ⟨hx, hby, hml, hown, hZ, hnm, hrt, hlk, T, locs, X, N, eT, st⟩ := K
  obtain ⟨cl, Ar, Sz, H⟩ := F
  subst hj hv Sz
  exact ⟨hx, hby, hml, hown, hZ, hnm, hrt, hlk, T, locs, X, N, eT, fun t kt => st t (X.baloadBytes hx (j := j) (v := f j.toNatClampNeg) (by rw [eT]; exact Ar.1) (State.isArrayOf_alike hZ.alike Ar.2.1) Ar.2.2 (fun q => q.elim h0 (Nat.not_le.mpr hi)) (H _ hi) (g := mkF C.2.2.2.2.1 pc L (.int j :: .ref a :: S)) rfl rfl (hb hby hd) t kt)⟩
theorem Run.aaload {a : Addr} {ty : FieldType} {n : Nat} {f : Nat → Value} {j : Int32} (K : Run C R Z n0 own nm ret bytes mx h cells slots pc L (.int j :: .ref a :: S)) (hd : decode bytes pc = .ok (.aaload, 1)) (F : Arf Z h a ty n f) (hty : ty.isReference = true) (i : Nat) (hj : j.toNatClampNeg = i) (h0 : ¬ j < 0) (hi : i < n) (v : Value) (hv : f i = v) : Run C R Z n0 own nm ret bytes mx h cells slots (pc + 1) L (v :: S) := by
  obtain ⟨hx, hby, hml, hown, hZ, hnm, hrt, hlk, T, locs, X, N, eT, st⟩ := K
  obtain ⟨cl, Ar, Sz, H⟩ := F
  subst hj hv Sz
  exact ⟨hx, hby, hml, hown, hZ, hnm, hrt, hlk, T, locs, X, N, eT, fun t kt => st t (X.aaload hx (j := j) (v := f j.toNatClampNeg) (by rw [eT]; exact Ar.1) (State.isArrayOf_alike hZ.alike Ar.2.1) hty Ar.2.2 (fun q => q.elim h0 (Nat.not_le.mpr hi)) (H _ hi) (g := mkF C.2.2.2.2.1 pc L (.int j :: .ref a :: S)) rfl rfl (hb hby hd) t kt)⟩
theorem Run.iastore {a : Addr} {n : Nat} {f : Nat → Value} {j x : Int32} (K : Run C R Z n0 own nm ret bytes mx h cells slots pc L (.int x :: .int j :: .ref a :: S)) (hd : decode bytes pc = .ok (.iastore, 1)) (F : Arf Z h a .int n f) (i : Nat) (hj : j.toNatClampNeg = i) (h0 : ¬ j < 0) (hi : i < n) (ga : n0 ≤ a) :
    ∃ h', Wr h h' a i (.int x) ∧ Arf Z h' a .int n (updV f i (.int x)) ∧ Run C R Z n0 own nm ret bytes mx h' cells slots (pc + 1) L S := by
  obtain ⟨hx, hby, hml, hown, hZ, hnm, hrt, hlk, T, locs, X, N, eT, st⟩ := K
  obtain ⟨cl, Ar, Sz, H⟩ := F
  subst hj Sz
  obtain ⟨T', h', X', e', W', st'⟩ := RoadKit.stI X hx hZ eT Ar (j := j) (x := x) (fun q => q.elim h0 (Nat.not_le.mpr hi)) (g := mkF C.2.2.2.2.1 pc L (.int x :: .int j :: .ref a :: S)) rfl rfl (hb hby hd)
  exact ⟨h', W', Arf.set ⟨cl, Ar, rfl, H⟩ W' hi, hx, hby, hml, hown, hZ, hnm, hrt, hlk, T', _, X', Fr.snoc X' N ga, e', fun t kt => st t (st' t kt)⟩
theorem Run.bastore {a : Addr} {n : Nat} {f : Nat → Value} {j x : Int32} (K : Run C R Z n0 own nm ret bytes mx h cells slots pc L (.int x :: .int j :: .ref a :: S)) (hd : decode bytes pc = .ok (.bastore, 1)) (F : Arf Z h a .byte n f) (i : Nat) (hj : j.toNatClampNeg = i) (h0 : ¬ j < 0) (hi : i < n) (ga : n0 ≤ a) (x' : Int32) (hx' : x.toInt8.toInt32 = x') :
    ∃ h', Wr h h' a i (.int x') ∧ Arf Z h' a .byte n (updV f i (.int x')) ∧ Run C R Z n0 own nm ret bytes mx h' cells slots (pc + 1) L S := by
  obtain ⟨hx, hby, hml, hown, hZ, hnm, hrt, hlk, T, locs, X, N, eT, st⟩ := K
  obtain ⟨cl, Ar, Sz, H⟩ := F
  subst hj Sz hx'
  obtain ⟨T', h', X', e', W', st'⟩ := RoadKit.stB X hx hZ eT Ar (j := j) (x := x) (fun q => q.elim h0 (Nat.not_le.mpr hi)) (g := mkF C.2.2.2.2.1 pc L (.int x :: .int j :: .ref a :: S)) rfl rfl (hb hby hd)
  exact ⟨h', W', Arf.set ⟨cl, Ar, rfl, H⟩ W' hi, hx, hby, hml, hown, hZ, hnm, hrt, hlk, T', _, X', Fr.snoc X' N ga, e', fun t kt => st t (st' t kt)⟩
theorem Run.caload {a : Addr} {n : Nat} {f : Nat → Value} {j : Int32} (K : Run C R Z n0 own nm ret bytes mx h cells slots pc L (.int j :: .ref a :: S)) (hd : decode bytes pc = .ok (.caload, 1)) (F : Arf Z h a .char n f) (i : Nat) (hj : j.toNatClampNeg = i) (h0 : ¬ j < 0) (hi : i < n) (v : Value) (hv : f i = v) : Run C R Z n0 own nm ret bytes mx h cells slots (pc + 1) L (v :: S) := by
  obtain ⟨hx, hby, hml, hown, hZ, hnm, hrt, hlk, T, locs, X, N, eT, st⟩ := K
  obtain ⟨cl, Ar, Sz, H⟩ := F
  subst hj hv Sz
  exact ⟨hx, hby, hml, hown, hZ, hnm, hrt, hlk, T, locs, X, N, eT, fun t kt => st t (X.caload hx (j := j) (v := f j.toNatClampNeg) (by rw [eT]; exact Ar.1) (State.isArrayOf_alike hZ.alike Ar.2.1) Ar.2.2 (fun q => q.elim h0 (Nat.not_le.mpr hi)) (H _ hi) (g := mkF C.2.2.2.2.1 pc L (.int j :: .ref a :: S)) rfl rfl (hb hby hd) t kt)⟩
theorem Run.daload {a : Addr} {n : Nat} {f : Nat → Value} {j : Int32} (K : Run C R Z n0 own nm ret bytes mx h cells slots pc L (.int j :: .ref a :: S)) (hd : decode bytes pc = .ok (.daload, 1)) (F : Arf Z h a .double n f) (i : Nat) (hj : j.toNatClampNeg = i) (h0 : ¬ j < 0) (hi : i < n) (v : Value) (hv : f i = v) : Run C R Z n0 own nm ret bytes mx h cells slots (pc + 1) L (v :: S) := by
  obtain ⟨hx, hby, hml, hown, hZ, hnm, hrt, hlk, T, locs, X, N, eT, st⟩ := K
  obtain ⟨cl, Ar, Sz, H⟩ := F
  subst hj hv Sz
  exact ⟨hx, hby, hml, hown, hZ, hnm, hrt, hlk, T, locs, X, N, eT, fun t kt => st t (X.daload hx (j := j) (v := f j.toNatClampNeg) (by rw [eT]; exact Ar.1) (State.isArrayOf_alike hZ.alike Ar.2.1) Ar.2.2 (fun q => q.elim h0 (Nat.not_le.mpr hi)) (H _ hi) (g := mkF C.2.2.2.2.1 pc L (.int j :: .ref a :: S)) rfl rfl (hb hby hd) t kt)⟩
theorem Run.castore {a : Addr} {n : Nat} {f : Nat → Value} {j x : Int32} (K : Run C R Z n0 own nm ret bytes mx h cells slots pc L (.int x :: .int j :: .ref a :: S)) (hd : decode bytes pc = .ok (.castore, 1)) (F : Arf Z h a .char n f) (i : Nat) (hj : j.toNatClampNeg = i) (h0 : ¬ j < 0) (hi : i < n) (ga : n0 ≤ a) (x' : Int32) (hx' : x.toUInt32.toUInt16.toUInt32.toInt32 = x') :
    ∃ h', Wr h h' a i (.int x') ∧ Arf Z h' a .char n (updV f i (.int x')) ∧ Run C R Z n0 own nm ret bytes mx h' cells slots (pc + 1) L S := by
  obtain ⟨hx, hby, hml, hown, hZ, hnm, hrt, hlk, T, locs, X, N, eT, st⟩ := K
  obtain ⟨cl, Ar, Sz, H⟩ := F
  subst hj Sz hx'
  obtain ⟨T', h', X', e', W', st'⟩ := RoadKit.stC X hx hZ eT Ar (j := j) (x := x) (fun q => q.elim h0 (Nat.not_le.mpr hi)) (g := mkF C.2.2.2.2.1 pc L (.int x :: .int j :: .ref a :: S)) rfl rfl (hb hby hd)
  exact ⟨h', W', Arf.set ⟨cl, Ar, rfl, H⟩ W' hi, hx, hby, hml, hown, hZ, hnm, hrt, hlk, T', _, X', Fr.snoc X' N ga, e', fun t kt => st t (st' t kt)⟩
theorem Run.dastore {a : Addr} {n : Nat} {f : Nat → Value} {j : Int32} {x : UInt64} (K : Run C R Z n0 own nm ret bytes mx h cells slots pc L (.double x :: .int j :: .ref a :: S)) (hd : decode bytes pc = .ok (.dastore, 1)) (F : Arf Z h a .double n f) (i : Nat) (hj : j.toNatClampNeg = i) (h0 : ¬ j < 0) (hi : i < n) (ga : n0 ≤ a) :
    ∃ h', Wr h h' a i (.double x) ∧ Arf Z h' a .double n (updV f i (.double x)) ∧ Run C R Z n0 own nm ret bytes mx h' cells slots (pc + 1) L S := by
  obtain ⟨hx, hby, hml, hown, hZ, hnm, hrt, hlk, T, locs, X, N, eT, st⟩ := K
  obtain ⟨cl, Ar, Sz, H⟩ := F
  subst hj Sz
  obtain ⟨T', h', X', e', W', st'⟩ := RoadKit.stD X hx hZ eT Ar (j := j) (x := x) (fun q => q.elim h0 (Nat.not_le.mpr hi)) (g := mkF C.2.2.2.2.1 pc L (.double x :: .int j :: .ref a :: S)) rfl rfl (hb hby hd)
  exact ⟨h', W', Arf.set ⟨cl, Ar, rfl, H⟩ W' hi, hx, hby, hml, hown, hZ, hnm, hrt, hlk, T', _, X', Fr.snoc X' N ga, e', fun t kt => st t (st' t kt)⟩
theorem Run.newarr {a0 : Array Value} {aty : ArrayType} {n : Int32} {ad : String} (K : Run C R Z n0 own nm ret bytes mx h cells slots pc L (.int n :: S)) (hd : decode bytes pc = .ok (.newarray aty, 2)) (w : (Jvm.Cond.arrayClass (newarray.typeOf aty)).before a0 Z = true) (hn : ¬ n < 0) (z : Nat) (hz : n.toNatClampNeg = z) (cap : Nat) (hcap : z ≤ cap) (hb8 : cap * 8 ≤ 536870912) (hc : cells + 1 ≤ R.cells) (hl : slots + cap ≤ R.slots) (had : "[" ++ (newarray.typeOf aty).toString = ad) :
    ∃ (h' : Heap) (b : Addr), b = h.size ∧ Ext h h' ∧ Arf Z h' b (newarray.typeOf aty) z (fun _ => defaultValue (newarray.typeOf aty)) ∧ Exa Z h' b ad ∧ Run C R Z n0 own nm ret bytes mx h' (cells + 1) (slots + cap) (pc + 2) L (.ref b :: S) := by
  obtain ⟨hx, hby, hml, hown, hZ, hnm, hrt, hlk, T, locs, X, N, eT, st⟩ := K
  subst hz
  obtain ⟨T', h', cA, X', e', E', A', Ex', st'⟩ := RoadKit.newPE X hx hZ w eT (g := mkF C.2.2.2.2.1 pc L (.int n :: S)) rfl (hb hby hd) rfl hn hcap hb8 hc hl had
  exact ⟨h', _, rfl, E', ⟨_, A', sz_new _ _ _, fun i hi => by simp [newA, hi]⟩, Ex', hx, hby, hml, hown, hZ, hnm, hrt, hlk, T', _, X', N, e', fun t kt => st t (st' t kt)⟩
theorem Run.clone {a0 : Array Value} {index W : Nat} {ad : String} {a : Addr} {ty : FieldType} {n : Nat} {f : Nat → Value} (K : Run C R Z n0 own nm ret bytes mx h cells slots pc L (.ref a :: S)) (hd : decode bytes pc = .ok (.invokevirtual index, 3))
    (w1 : (Jvm.Cond.methodLink own index ⟨ad, "clone", "()Ljava/lang/Object;"⟩).before a0 Z = true) (w2 : (Jvm.Cond.sameMethod ad "java/lang/Object" "clone" "()Ljava/lang/Object;").before a0 Z = true) (w3 : (Jvm.Cond.native ⟨"java/lang/Object", "clone", "()Ljava/lang/Object;"⟩).before a0 Z = true)
    (w4 : (Jvm.Cond.instanceMethod ⟨"java/lang/Object", "clone", "()Ljava/lang/Object;"⟩).before a0 Z = true) (w5 : (Jvm.Cond.selects ad ⟨ad, "clone", "()Ljava/lang/Object;"⟩ ⟨"java/lang/Object", "clone", "()Ljava/lang/Object;"⟩).before a0 Z = true) (w6 : (Jvm.Cond.castable ad "java/lang/Cloneable").before a0 Z = true)
    (F : Arf Z h a ty n f) (hfit : ∀ i, i < n → fits ty (f i) = true) (E : Exa Z h a ad) (cap : Nat) (hcap : n ≤ cap) (hW : (S.map fun v => v.category).sum = W) (hLs : L.size = mx) (hf : 1 ≤ R.frames) (hl : W + 14 ≤ R.locals) (hc : cells + 1 ≤ R.cells) (hsl : slots + cap ≤ R.slots) :
    ∃ (h' : Heap) (b : Addr), b = h.size ∧ Ext h h' ∧ Arf Z h' b ty n f ∧ Exa Z h' b ad ∧ Run C R Z n0 own nm ret bytes mx h' (cells + 1) (slots + cap) (pc + 3) L (.ref b :: S) := by
  obtain ⟨hx, hby, hml, hown, hZ, hnm, hrt, hlk, T, locs, X, N, eT, st⟩ := K
  obtain ⟨cl, Ar, Sz, H⟩ := F
  subst Sz
  have FC : FitC Z cl := fitC_of Ar fun i hi v hv => by rw [H i hi] at hv; cases hv; exact hfit i hi
  obtain ⟨T', h', X', e', ex, A', E', st'⟩ := cloneA X hx hZ hown w1 w2 w3 w4 w5 w6 eT Ar E FC (g := mkF C.2.2.2.2.1 pc L (.ref a :: S)) rfl (by rw [hml]; exact hLs) rfl (hb hby hd) hf (W := W) (cap := cap) (by show 2 * 0 + _ ≤ _; omega) hl hcap hc hsl
  exact ⟨h', _, rfl, ex, ⟨cloneOf cl, A', rfl, H⟩, E', hx, hby, hml, hown, hZ, hnm, hrt, hlk, T', _, X', N, e', fun t kt => st t (st' t kt)⟩
theorem Run.instY {a0 : Array Value} {index : Nat} {Kl : String} {a : Addr} (K : Run C R Z n0 own nm ret bytes mx h cells slots pc L (.ref a :: S)) (hd : decode bytes pc = .ok (.instanceof index, 3)) (w : (Jvm.Cond.classLink own index Kl).before a0 Z = true) (F : Ins Z h a Kl true) : Run C R Z n0 own nm ret bytes mx h cells slots (pc + 3) L (.int (1 : Int32) :: S) := by
  obtain ⟨hx, hby, hml, hown, hZ, hnm, hrt, hlk, T, locs, X, N, eT, st⟩ := K
  obtain ⟨T', X', e', st'⟩ := RoadKit.instY X hx hZ hown w eT F (g := mkF C.2.2.2.2.1 pc L (.ref a :: S)) rfl rfl (hb hby hd)
  exact ⟨hx, hby, hml, hown, hZ, hnm, hrt, hlk, T', locs, X', N, e', fun t kt => st t (st' t kt)⟩
theorem Run.instNull {index : Nat} (K : Run C R Z n0 own nm ret bytes mx h cells slots pc L (.null :: S)) (hd : decode bytes pc = .ok (.instanceof index, 3)) : Run C R Z n0 own nm ret bytes mx h cells slots (pc + 3) L (.int (0 : Int32) :: S) := by
  obtain ⟨hx, hby, hml, hown, hZ, hnm, hrt, hlk, T, locs, X, N, eT, st⟩ := K
  exact ⟨hx, hby, hml, hown, hZ, hnm, hrt, hlk, T, locs, X, N, eT, fun t kt => st t (X.instanceofNull hx (g := mkF C.2.2.2.2.1 pc L (.null :: S)) rfl rfl (hb hby hd) t kt)⟩
theorem Run.instNo {a0 : Array Value} {index : Nat} {Cl Kl : String} {a : Addr} (K : Run C R Z n0 own nm ret bytes mx h cells slots pc L (.ref a :: S)) (hd : decode bytes pc = .ok (.instanceof index, 3)) (w : (Jvm.Cond.classLink own index Kl).before a0 Z = true) (E : Exa Z h a Cl) (F : ∃ c t, Z.vm.findClass Cl = some c ∧ Z.vm.findClass Kl = some t ∧ Z.vm.assignable c t = false) : Run C R Z n0 own nm ret bytes mx h cells slots (pc + 3) L (.int (0 : Int32) :: S) := by
  obtain ⟨hx, hby, hml, hown, hZ, hnm, hrt, hlk, T, locs, X, N, eT, st⟩ := K
  obtain ⟨T', X', e', st'⟩ := RoadKit.instNo X hx hZ hown w eT E F (g := mkF C.2.2.2.2.1 pc L (.ref a :: S)) rfl rfl (hb hby hd)
  exact ⟨hx, hby, hml, hown, hZ, hnm, hrt, hlk, T', locs, X', N, e', fun t kt => st t (st' t kt)⟩
theorem Run.castNull {index : Nat} (K : Run C R Z n0 own nm ret bytes mx h cells slots pc L (.null :: S)) (hd : decode bytes pc = .ok (.checkcast index, 3)) : Run C R Z n0 own nm ret bytes mx h cells slots (pc + 3) L (.null :: S) := by
  obtain ⟨hx, hby, hml, hown, hZ, hnm, hrt, hlk, T, locs, X, N, eT, st⟩ := K
  exact ⟨hx, hby, hml, hown, hZ, hnm, hrt, hlk, T, locs, X, N, eT, fun t kt => st t (X.checkcastNull hx (g := mkF C.2.2.2.2.1 pc L (.null :: S)) rfl rfl (hb hby hd) t kt)⟩
theorem Run.lswHit {x : Int32} {dflt : Int} {pairs : Array (Int × Int)} {len : Nat} {b off : Int} {pc' : Nat} (K : Run C R Z n0 own nm ret bytes mx h cells slots pc L (.int x :: S)) (hd : decode bytes pc = .ok (.lookupswitch dflt pairs, len)) (hsorted : (pairs.toList.zip (pairs.toList.drop 1)).all (fun (a, next) => a.1 < next.1) = true) (hfind : pairs.find? (·.1 == x.toInt) = some (b, off)) (ho : 0 ≤ (pc : Int) + off) (hp : ((pc : Int) + off).toNat = pc') : Run C R Z n0 own nm ret bytes mx h cells slots pc' L S := by
  obtain ⟨hx, hby, hml, hown, hZ, hnm, hrt, hlk, T, locs, X, N, eT, st⟩ := K
  subst hp
  exact ⟨hx, hby, hml, hown, hZ, hnm, hrt, hlk, T, locs, X, N, eT, fun t kt => st t (X.lookupswitchHit hx (g := mkF C.2.2.2.2.1 pc L (.int x :: S)) rfl rfl (hb hby hd) hsorted hfind ho t kt)⟩
theorem Run.lswMiss {x : Int32} {dflt : Int} {pairs : Array (Int × Int)} {len : Nat} {pc' : Nat} (K : Run C R Z n0 own nm ret bytes mx h cells slots pc L (.int x :: S)) (hd : decode bytes pc = .ok (.lookupswitch dflt pairs, len)) (hsorted : (pairs.toList.zip (pairs.toList.drop 1)).all (fun (a, next) => a.1 < next.1) = true) (hfind : ∀ p ∈ pairs.toList, p.1 ≠ x.toInt) (ho : 0 ≤ (pc : Int) + dflt) (hp : ((pc : Int) + dflt).toNat = pc') : Run C R Z n0 own nm ret bytes mx h cells slots pc' L S := by
  obtain ⟨hx, hby, hml, hown, hZ, hnm, hrt, hlk, T, locs, X, N, eT, st⟩ := K
  subst hp
  exact ⟨hx, hby, hml, hown, hZ, hnm, hrt, hlk, T, locs, X, N, eT, fun t kt => st t (X.lookupswitchMiss hx (g := mkF C.2.2.2.2.1 pc L (.int x :: S)) rfl rfl (hb hby hd) hsorted (find_miss hfind) ho t kt)⟩
end Steps
end Jvm.Own

namespace Jvm.Own
open Sem ClassFile Op Lib Jvm.Stand Jvm.Free Jvm.LawKit Jvm.RoadKit
/-! more of the narrow kit: arrays of references, arraycopy of bytes, calls through an interface, private calls -/
def Ova (Z : State) (h : Heap) (a : Addr) (Cn : String) : Prop := ∃ c : Cell, h[a]? = some c ∧ Ovr Z c.cls Cn
section Ova
variable {Z : State} {h h' : Heap} {a b y : Addr} {Cn : String} {ty : FieldType} {n sl : Nat} {f g : Nat → Value} {v : Value} {ws : List Addr}
theorem Ova.ext (E : Ext h h') (F : Ova Z h a Cn) : Ova Z h' a Cn := by obtain ⟨c, h1, h2⟩ := F; exact ⟨c, E.2 _ _ h1, h2⟩
theorem Ova.wr (W : Wr h h' b sl v) (F : Ova Z h a Cn) : Ova Z h' a Cn := by obtain ⟨c, h1, h2⟩ := F; obtain ⟨d, q1, q2, -⟩ := wr_at W h1; exact ⟨d, q1, q2 ▸ h2⟩
theorem Ova.keep (F : Ova Z h a Cn) (K : Keep h h' ws) : Ova Z h' a Cn := by obtain ⟨c, h1, h2⟩ := F; obtain ⟨c', q, r1, -⟩ := K.2.2 a c h1; exact ⟨c', q, r1 ▸ h2⟩
theorem Ova.sto (O : Ova Z h a Cn) (F : Arf Z h a ty n f) (I : Ins Z h y Cn true) : Sto Z h a (.ref y) := by
  obtain ⟨c, h1, h2⟩ := O; obtain ⟨c', A, -⟩ := F
  cases h1.symm.trans A.1
  exact Sto.of A h2 I
theorem own_getR (f : Nat → Value) (n i : Nat) (d : Value) (hi : i < n) : ((List.range n).map f).getD i d = f i := by
  simp [List.getD, hi]
theorem Arf.arv (F : Arf Z h a ty n f) (hn : n < 2147483648) (fit : ∀ i, i < n → fits ty (f i) = true) : ∃ k, Arv Z h a k ty n.toInt32 ((List.range n).map f) (.int 0) := by
  obtain ⟨c, A, S, H⟩ := F
  have e : n.toInt32.toNatClampNeg = n ∧ ¬ n.toInt32 < 0 := by
    have q : n.toInt32.toInt = (n : Int) := by
      show (Int32.ofNat n).toInt = (n : Int)
      exact Int32.toInt_ofNat_of_lt hn
    have z : (0 : Int32).toInt = 0 := by decide
    refine ⟨?_, ?_⟩
    · show n.toInt32.toInt.toNat = n
      rw [q]; rfl
    · rw [Int32.lt_iff_toInt_lt, q, z]; omega
  refine ⟨c.cls, c, A, rfl, by rw [S, e.1], e.2, fun i hi => ?_, fun i hi => ?_⟩
  · rw [own_getR f n i _ (S ▸ hi)]; exact H i (S ▸ hi)
  · rw [own_getR f n i _ (S ▸ hi)]; exact fit i (S ▸ hi)
end Ova
section Steps
variable {C : Cx} {R : Room} {Z : State} {n0 : Nat} {own nm : String} {ret : Option FieldType} {bytes : ByteArray} {mx : Nat} {h : Heap} {cells slots pc : Nat} {L : Array Slot} {S : List Value}
theorem Run.aastore {a : Addr} {ty : FieldType} {n : Nat} {f : Nat → Value} {j : Int32} {v : Value} (K : Run C R Z n0 own nm ret bytes mx h cells slots pc L (v :: .int j :: .ref a :: S)) (hd : decode bytes pc = .ok (.aastore, 1)) (F : Arf Z h a ty n f) (hty : ty.isReference = true) (G : Sto Z h a v) (i : Nat) (hj : j.toNatClampNeg = i) (h0 : ¬ j < 0) (hi : i < n) (ga : n0 ≤ a) :
    ∃ h', Wr h h' a i v ∧ Arf Z h' a ty n (updV f i v) ∧ Run C R Z n0 own nm ret bytes mx h' cells slots (pc + 1) L S := by
  obtain ⟨hx, hby, hml, hown, hZ, hnm, hrt, hlk, T, locs, X, N, eT, st⟩ := K
  obtain ⟨cl, Ar, Sz, H⟩ := F
  subst hj Sz
  obtain ⟨T', h', X', e', W', st'⟩ := RoadKit.stR X hx hZ eT Ar (j := j) (v := v) (fun q => q.elim h0 (Nat.not_le.mpr hi)) hty G (g := mkF C.2.2.2.2.1 pc L (v :: .int j :: .ref a :: S)) rfl rfl (hb hby hd)
  exact ⟨h', W', Arf.set ⟨cl, Ar, rfl, H⟩ W' hi, hx, hby, hml, hown, hZ, hnm, hrt, hlk, T', _, X', Fr.snoc X' N ga, e', fun t kt => st t (st' t kt)⟩
theorem Run.anewarr {a0 : Array Value} {index : Nat} {Cn : String} {n : Int32} {ad : String} (K : Run C R Z n0 own nm ret bytes mx h cells slots pc L (.int n :: S)) (hd : decode bytes pc = .ok (.anewarray index, 3)) (w1 : (Jvm.Cond.classLink own index Cn).before a0 Z = true) (w2 : (Jvm.Cond.arrayOver (.object Cn)).before a0 Z = true) (hn : ¬ n < 0) (z : Nat) (hz : n.toNatClampNeg = z) (cap : Nat) (hcap : z ≤ cap) (hb8 : cap * 8 ≤ 536870912) (hc : cells + 1 ≤ R.cells) (hl : slots + cap ≤ R.slots) (had : "[" ++ (FieldType.object Cn).toString = ad) :
    ∃ (h' : Heap) (b : Addr), b = h.size ∧ Ext h h' ∧ Arf Z h' b (.object Cn) z (fun _ => .null) ∧ Exa Z h' b ad ∧ Ova Z h' b Cn ∧ Run C R Z n0 own nm ret bytes mx h' (cells + 1) (slots + cap) (pc + 3) L (.ref b :: S) := by
  obtain ⟨hx, hby, hml, hown, hZ, hnm, hrt, hlk, T, locs, X, N, eT, st⟩ := K
  subst hz
  obtain ⟨T', h', cA, X', e', E', A', Ex', O', st'⟩ := RoadKit.newRE X hx hZ hown w1 w2 eT (g := mkF C.2.2.2.2.1 pc L (.int n :: S)) rfl (hb hby hd) rfl hn hcap hb8 hc hl had
  exact ⟨h', _, rfl, E', ⟨_, A', sz_new _ _ _, fun i hi => by simp [newA, hi, defaultValue]⟩, Ex', ⟨_, A'.1, O'⟩, hx, hby, hml, hown, hZ, hnm, hrt, hlk, T', _, X', N, e', fun t kt => st t (st' t kt)⟩
theorem Run.bcopy {a0 : Array Value} {index W : Nat} {a b : Addr} {n M : Nat} {f g : Nat → Value} {sp nn : Int32} (K : Run C R Z n0 own nm ret bytes mx h cells slots pc L (.int nn :: .int 0 :: .ref b :: .int sp :: .ref a :: S)) (hd : decode bytes pc = .ok (.invokestatic index, 3))
    (w1 : (Jvm.Cond.methodLink own index Jvm.Stand.acN).before a0 Z = true) (w2 : (Jvm.Cond.native Jvm.Stand.acN).before a0 Z = true) (w3 : (Jvm.Cond.static Jvm.Stand.acN).before a0 Z = true) (w4 : (Jvm.Cond.initialized "java/lang/System").before a0 Z = true)
    (A : Arf Z h a .byte n f) (B : Arf Z h b .byte M g) (hn : n < 2147483648) (hfa : ∀ i, i < n → fits .byte (f i) = true) (hfb : ∀ i, i < M → fits .byte (g i) = true) (P : Nat) (hP : sp.toNatClampNeg = P) (hP0 : ¬ sp < 0) (hM : nn.toNatClampNeg = M) (hM0 : ¬ nn < 0) (h4 : P + M ≤ n) (ga : n0 ≤ b)
    (hLs : L.size = mx) (hW : (S.map fun v => v.category).sum = W) (hf : 1 ≤ R.frames) (hlo : W + (nativeFrameWords "java/lang/System" "arraycopy" 5 + 11) ≤ R.locals) :
    ∃ h', Keep h h' [b] ∧ Arf Z h' b .byte M (fun i => f (P + i)) ∧ Run C R Z n0 own nm ret bytes mx h' cells slots (pc + 3) L S := by
  obtain ⟨hx, hby, hml, hown, hZ, hnm, hrt, hlk, T, locs, X, N, eT, st⟩ := K
  have hMn : M < 2147483648 := by omega
  have sz : ∀ q : Nat, q < 2147483648 → q.toInt32.toNatClampNeg = q := fun q hq => by
    show (Int32.ofNat q).toInt.toNat = q
    rw [Int32.toInt_ofNat_of_lt hq]; rfl
  obtain ⟨ka, A'⟩ := A.arv hn hfa
  obtain ⟨kb, B'⟩ := B.arv hMn hfb
  have d0 : (0 : Int32).toNatClampNeg = 0 := by decide
  obtain ⟨T', h', L', X', e', N', K', V', st'⟩ := RoadKit.cpA X hx hZ hown w1 w2 w3 w4 eT (sp := sp) (dp := 0) (nn := nn) A' B' (Or.inl ⟨rfl, rfl⟩) hP0 (by decide) hM0 (by rw [hP, hM, sz n hn]; exact h4) (by rw [d0, hM, sz M hMn]; omega) rfl (by rw [d0, hM]; simp) N ga (g := mkF C.2.2.2.2.1 pc L (.int nn :: .int 0 :: .ref b :: .int sp :: .ref a :: S)) rfl (by rw [hml]; exact hLs) rfl (hb hby hd) hf (W := W) (by show 2 * 0 + _ ≤ _; omega) hlo
  refine ⟨h', K', ?_, hx, hby, hml, hown, hZ, hnm, hrt, hlk, T', _, X', N', e', fun t kt => st t (st' t kt)⟩
  obtain ⟨c, Ac, -, Sc, -, Hc, -⟩ := V'
  rw [sz M hMn] at Sc
  refine ⟨c, Ac, Sc, fun i hi => ?_⟩
  rw [Hc i (by rw [Sc]; exact hi), d0, hM, hP]
  congr 1
  rw [List.take_zero, List.nil_append, List.getD_eq_getElem?_getD, List.getElem?_append_left (by simp; exact hi)]
  simp [hi]
  rw [List.getElem?_eq_getElem (by simp; omega)]
  simp
theorem Run.callP {a0 : Array Value} {index : Nat} {y : MethodName} {Cl : String} {by2 : ByteArray} {mx2 W : Nat} {rt2 : Option FieldType} {rm : Room} {a : Addr} {argsL rest : List Value} {Q : Option Value → Heap → Prop} {ps : List FieldType} (K : Run C R Z n0 own nm ret bytes mx h cells slots pc L S) (hd : decode bytes pc = .ok (.invokevirtual index, 3))
    (wl : (Jvm.Cond.methodLink own index y).before a0 Z = true) (wp : (Jvm.Cond.privateMethod y).before a0 Z = true) (ws : (Jvm.Cond.selects y.cls y y).before a0 Z = true) (wst : (Jvm.Cond.instanceMethod y).before a0 Z = true) (wi : (Jvm.Cond.initialized y.cls).before a0 Z = true) (wc : (Jvm.Cond.code y by2 mx2 rt2).before a0 Z = true)
    (E : Exa Z h a Cl) (con : Con Z n0 y by2 mx2 rt2 [] rm (.ref a :: argsL).toArray h Q) (hS : S = argsL.reverse ++ .ref a :: rest) (hpd : parseMethodDescriptor y.desc = some ⟨ps, rt2⟩) (hlen : argsL.length = ps.length) (hW : (rest.map fun v => v.category).sum = W) (hLs : L.size = mx)
    (hfr : rm.frames + 1 ≤ R.frames) (hlo : W + (mx2 + 11) + rm.locals ≤ R.locals) (hce : cells + rm.cells ≤ R.cells) (hsl : slots + rm.slots ≤ R.slots) (hy : y.cls ≠ "java/lang/invoke/MethodHandle" ∧ y.cls ≠ "java/lang/invoke/VarHandle") :
    ∃ v h', Q v h' ∧ Run C R Z n0 own nm ret bytes mx h' (cells + rm.cells) (slots + rm.slots) (pc + 3) L (v.toList ++ rest) := by
  obtain ⟨hx, hby, hml, hown, hZ, hnm, hrt, hlk, T, locs, X, N, eT, st⟩ := K
  obtain ⟨cq, kq, qa, qb, cellB, qc, -, qd⟩ := isOf hZ eT E
  obtain ⟨v, _, ⟨T', L', k', n'⟩, -, X', ⟨Lc, hQ, l1, y1, z1⟩, st'⟩ := X.privateBack hx (y := y) hown (mvT hZ wl) (mvT hZ wst) (mvT hZ ws) (Cond.privateMethod_at (args := #[]) (mvP hZ wp)) (mvT hZ wc) hy (backOf (Q := fun v h L => Q v h ∧ Fr n0 L) (W := W) (con C.2.1) hZ wc wi hfr hlo) (g := mkF C.2.2.2.2.1 pc L S) rfl (by rw [hml]; exact hLs) (Steps.refl _) qc (fun z h => by rw [h] at qd; cases qd) (argsL := argsL) (rest := rest) (lenOf hpd hlen) hS (by show 2 * 0 + _ ≤ _; omega) (hb hby hd) (fun _ _ => ⟨rfl, eT, hce, hsl⟩)
  dsimp only [Pt.U, Pt.locs, Pt.cells, Pt.slots] at X' l1 y1 z1 st' hQ
  subst l1 y1 z1
  exact ⟨v, T'.heap, hQ.1, hx, hby, hml, hown, hZ, hnm, hrt, hlk, T', _, X', Fr.app N hQ.2, rfl, fun t kt => st t (st'.trans kt)⟩
theorem Run.callF {a0 : Array Value} {index count : Nat} {xi y : MethodName} {Cl : String} {by2 : ByteArray} {mx2 W : Nat} {rt2 : Option FieldType} {rm : Room} {a : Addr} {argsL rest : List Value} {Q : Option Value → Heap → Prop} {ps : List FieldType} (K : Run C R Z n0 own nm ret bytes mx h cells slots pc L S) (hd : decode bytes pc = .ok (.invokeinterface index count, 5))
    (wl : (Jvm.Cond.methodLink own index xi).before a0 Z = true) (wd : (Jvm.Cond.declares xi).before a0 Z = true) (wf : ∀ (s : State) (args : Array Value), Z.Warmed39 s.vm → (Jvm.Cond.interfaceMethod xi.cls xi.cls xi.name xi.desc).before args s = true) (ws : (Jvm.Cond.selects Cl xi y).before a0 Z = true) (wst : (Jvm.Cond.instanceMethod y).before a0 Z = true) (wpu : (Jvm.Cond.publicMethod y).before a0 Z = true) (wu : (Jvm.Cond.unhidden Cl xi.name xi.desc).before a0 Z = true) (wca : (Jvm.Cond.castable Cl xi.cls).before a0 Z = true) (wi : (Jvm.Cond.initialized y.cls).before a0 Z = true) (wc : (Jvm.Cond.code y by2 mx2 rt2).before a0 Z = true)
    (E : Exa Z h a Cl) (con : Con Z n0 y by2 mx2 rt2 [] rm (.ref a :: argsL).toArray h Q) (hS : S = argsL.reverse ++ .ref a :: rest) (hpd : parseMethodDescriptor xi.desc = some ⟨ps, rt2⟩) (hlen : argsL.length = ps.length) (hW : (rest.map fun v => v.category).sum = W) (hLs : L.size = mx)
    (hfr : rm.frames + 1 ≤ R.frames) (hlo : W + (mx2 + 11) + rm.locals ≤ R.locals) (hce : cells + rm.cells ≤ R.cells) (hsl : slots + rm.slots ≤ R.slots) (hy : xi.cls ≠ "java/lang/invoke/MethodHandle" ∧ xi.cls ≠ "java/lang/invoke/VarHandle") :
    ∃ v h', Q v h' ∧ Run C R Z n0 own nm ret bytes mx h' (cells + rm.cells) (slots + rm.slots) (pc + 5) L (v.toList ++ rest) := by
  obtain ⟨hx, hby, hml, hown, hZ, hnm, hrt, hlk, T, locs, X, N, eT, st⟩ := K
  obtain ⟨cq, kq, qa, qb, qc⟩ := isOf hZ eT E
  obtain ⟨v, _, ⟨T', L', k', n'⟩, -, X', ⟨Lc, hQ, l1, y1, z1⟩, st'⟩ := X.interfaceBack hx (xi := xi) (y := y) hown (mvT hZ wl) (mvT hZ wd) (wf _ _ hZ) (mvT hZ ws) (mvT hZ wst) (mvT hZ wpu) (mvT hZ wu) (mvT hZ wca) hy (backOf (Q := fun v h L => Q v h ∧ Fr n0 L) (W := W) (con C.2.1) hZ wc wi hfr hlo) qa qb qc (g := mkF C.2.2.2.2.1 pc L S) rfl (by rw [hml]; exact hLs) (Steps.refl _) (argsL := argsL) (rest := rest) (lenOf hpd hlen) hS (by show 2 * 0 + _ ≤ _; omega) (hb hby hd) (fun _ _ => ⟨rfl, eT, hce, hsl⟩)
  dsimp only [Pt.U, Pt.locs, Pt.cells, Pt.slots] at X' l1 y1 z1 st' hQ
  subst l1 y1 z1
  exact ⟨v, T'.heap, hQ.1, hx, hby, hml, hown, hZ, hnm, hrt, hlk, T', _, X', Fr.app N hQ.2, rfl, fun t kt => st t (st'.trans kt)⟩
end Steps
end Jvm.Own
namespace Jvm.Pilot.@@N@@
open Jvm Jvm.ClassFile Sem Op Lib Jvm.Free Jvm.Stand Jvm.LawKit Jvm.RoadKit Jvm.Own Bundle Jvm.Pilot.@@N@@.Jvm.D
theorem pd_0 : parseMethodDescriptor "()V" = some ⟨[], none⟩ := by decide +kernel
theorem pd_1 : parseMethodDescriptor "(II)I" = some ⟨[.int, .int], some .int⟩ := by decide +kernel
theorem pd_2 : parseMethodDescriptor "(I)[Ljava/lang/Object;" = some ⟨[.int], some (.array (.object "java/lang/Object"))⟩ := by decide +kernel
theorem pd_3 : parseMethodDescriptor "()[Ljava/lang/Object;" = some ⟨[], some (.array (.object "java/lang/Object"))⟩ := by decide +kernel
theorem pd_4 : parseMethodDescriptor "(Ljava/lang/Object;[Ljava/lang/Object;I)V" = some ⟨[(.object "java/lang/Object"), (.array (.object "java/lang/Object")), .int], none⟩ := by decide +kernel
theorem pd_5 : parseMethodDescriptor "(IILjava/util/function/BiFunction;)I" = some ⟨[.int, .int, (.object "java/util/function/BiFunction")], some .int⟩ := by decide +kernel
theorem pd_6 : parseMethodDescriptor "(I)Ljava/lang/Object;" = some ⟨[.int], some (.object "java/lang/Object")⟩ := by decide +kernel
theorem pd_7 : parseMethodDescriptor "(II)V" = some ⟨[.int, .int], none⟩ := by decide +kernel
theorem pd_8 : parseMethodDescriptor "([BII)[B" = some ⟨[(.array .byte), .int, .int], some (.array .byte)⟩ := by decide +kernel
theorem pd_9 : parseMethodDescriptor "([BI)[I" = some ⟨[(.array .byte), .int], some (.array .int)⟩ := by decide +kernel
theorem pd_10 : parseMethodDescriptor "(Ljava/lang/Object;)Z" = some ⟨[(.object "java/lang/Object")], some .boolean⟩ := by decide +kernel
theorem pd_11 : parseMethodDescriptor "([B[BIII)Z" = some ⟨[(.array .byte), (.array .byte), .int, .int, .int], some .boolean⟩ := by decide +kernel
theorem pd_12 : parseMethodDescriptor "(I)I" = some ⟨[.int], some .int⟩ := by decide +kernel
theorem pd_13 : parseMethodDescriptor "([BIIII)I" = some ⟨[(.array .byte), .int, .int, .int, .int], some .int⟩ := by decide +kernel
theorem pd_14 : parseMethodDescriptor "([BI)Ljava/util/List;" = some ⟨[(.array .byte), .int], some (.object "java/util/List")⟩ := by decide +kernel
theorem pd_15 : parseMethodDescriptor "()I" = some ⟨[], some .int⟩ := by decide +kernel
theorem pd_16 : parseMethodDescriptor "([BIIIII)V" = some ⟨[(.array .byte), .int, .int, .int, .int, .int], none⟩ := by decide +kernel

section Narrow
variable {args : Array Value} {first s : State} {o : Option Outcome} {idx : List Nat} {t u : Term}
theorem own_eqv {n : Int32} (h : (Jvm.Cond.eq t (.int n)).value args first o s idx = some true) : t.eval args first o idx s = some (.int n) := by
  cases ht : t.eval args first o idx s with
  | none => simp [Cond.value, ht] at h
  | some x => cases x <;> simp [Cond.value, Term.int_eval, ht] at h ⊢; exact h
theorem own_ne0 {z n : Int32} (ev : t.eval args first o idx s = some (.int z)) (h : (Jvm.Cond.eq t (.int n)).value args first o s idx = some false) : ¬ (z = n) := by
  intro q; subst q
  simp [Cond.value, Term.int_eval, ev] at h
theorem own_eqr {b : Addr} (hu : u.eval args first o idx s = some (.ref b)) (h : (Jvm.Cond.eq t u).value args first o s idx = some true) : t.eval args first o idx s = some (.ref b) := by
  cases ht : t.eval args first o idx s with
  | none => simp [Cond.value, ht] at h
  | some x => cases x <;> simp [Cond.value, hu, ht] at h ⊢; exact h
theorem own_len {a : Addr} {cl : Cell} {ty : FieldType} {n : Int32} {k : Nat} (ev : t.eval args s none [] s = some (.ref a)) (A : Arr s s.heap a cl ty) (h : (Term.length t).eval args s none [] s = some (.int n)) (hk : n.toInt = (k : Int)) : cl.slots.size = k := by
  have q : s.arrayAt? a = some cl := A.fin (Vm.Alike.refl _)
  simp [Term.eval, ev, q] at h
  have r := len_toInt h.1
  rw [h.2, hk] at r
  omega
end Narrow
theorem own_i2b (x : Int32) : x.toInt8.toInt32.toInt8.toInt32 = x.toInt8.toInt32 := by simp
def own_cl (p1 : Int32) : Int32 := (if (p1 &&& (1 : Int32)) = (0 : Int32) then (((p1.toUInt32 >>> ((1 : Int32) &&& 31).toUInt32).toInt32) &&& (3 : Int32)) else ((120 : Int32) + (((p1.toUInt32 >>> ((1 : Int32) &&& 31).toUInt32).toInt32) &&& (255 : Int32))))
def own_mf (p1 : Int32) : Int32 := (if p1 < (128 : Int32) then (0 : Int32) else (if p1 < (256 : Int32) then (1 : Int32) else (2 : Int32)))
def own_mx (p1 p2 : Int32) : Int32 := (if p1 < p2 then p2 else p1)
def own_mn (p1 p2 : Int32) : Int32 := (if p2 < p1 then p2 else p1)
def own_bf (G : Nat → Int32) : Nat → Value := fun i => .int (G i)
def own_up (G : Nat → Int32) (i : Nat) (x : Int32) : Nat → Int32 := fun j => if j = i then x else G j
theorem own_bfA {Z : State} {h : Heap} {a : Addr} {n i : Nat} {G : Nat → Int32} {x : Int32} (A : Arf Z h a .byte n (updV (own_bf G) i (.int x))) : Arf Z h a .byte n (own_bf (own_up G i x)) :=
  A.congr (fun j _ => by unfold updV own_bf own_up; split <;> rfl)
def own_der (G : Nat → Int32) : Prop := ∀ i, -128 ≤ (G i).toInt ∧ (G i).toInt ≤ 127
theorem own_der0 : own_der (fun _ => 0) := fun _ => (by decide : -128 ≤ (0 : Int32).toInt ∧ (0 : Int32).toInt ≤ 127)
theorem own_derU {G : Nat → Int32} {i : Nat} {x : Int32} (h : own_der G) (hx : -128 ≤ x.toInt ∧ x.toInt ≤ 127) : own_der (own_up G i x) := fun j => by
  unfold own_up
  split
  · exact hx
  · exact h j
theorem own_b8 (x : Int32) : -128 ≤ x.toInt8.toInt32.toInt ∧ x.toInt8.toInt32.toInt ≤ 127 := by have := c_i2b x; omega
theorem own_derF {G : Nat → Int32} (h : own_der G) (i : Nat) : fits .byte (own_bf G i) = true := by
  have q := h i
  have e1 : (-128 : Int32).toInt = -128 := by decide
  have e2 : (127 : Int32).toInt = 127 := by decide
  simp only [own_bf, fits, Bool.and_eq_true, decide_eq_true_eq, Int32.le_iff_toInt_le, e1, e2]
  exact q
def own_ar2 (q e : Int32) : Nat → Value := fun i => if i = 0 then .int q else .int e
theorem own_cg2 {f : Nat → Value} {v0 v1 : Int32} (i : Nat) (hi : i < 2) : (updV (updV f 0 (.int v0)) 1 (.int v1)) i = own_ar2 v0 v1 i := by
  match i, hi with
  | 0, _ => rfl
  | 1, _ => rfl
theorem own_at {j : Int32} {P : Nat} (h : j.toInt = (P : Int)) : j.toNatClampNeg = P := by
  show j.toInt.toNat = P
  rw [h]; rfl
theorem own_nn {j : Int32} {P : Nat} (h : j.toInt = (P : Int)) : ¬ j < 0 := by
  have e : (0 : Int32).toInt = 0 := by decide
  rw [Int32.lt_iff_toInt_lt, h, e]; omega
theorem own_rg (x : Int32) : -2147483648 ≤ x.toInt ∧ x.toInt < 2147483648 := ⟨Int32.le_toInt x, Int32.toInt_lt x⟩
theorem own_ad {a b : Int32} {A B : Nat} (ha : a.toInt = (A : Int)) (hb : b.toInt = (B : Int)) (h : A + B < 2147483648) : (a + b).toInt = ((A + B : Nat) : Int) := by
  have q := c_iadd a b
  have r := own_rg (a + b)
  rw [ha, hb] at q
  omega
theorem own_sbN {a b : Int32} {A B : Nat} (ha : a.toInt = (A : Int)) (hb : b.toInt = (B : Int)) (h : B ≤ A) : (a - b).toInt = ((A - B : Nat) : Int) := by
  have q := c_isub a b
  have r := own_rg (a - b)
  have r' := own_rg a
  rw [ha, hb] at q
  rw [ha] at r'
  omega
theorem own_sb1 {a : Int32} {A : Nat} (ha : a.toInt = (A : Int)) (h : 1 ≤ A) : (a - (1 : Int32)).toInt = ((A - 1 : Nat) : Int) := own_sbN ha (B := 1) (by decide) h
theorem own_ltN {a b : Int32} {A B : Nat} (q : a < b) (ha : a.toInt = (A : Int)) (hb : b.toInt = (B : Int)) : A < B := by
  rw [Int32.lt_iff_toInt_lt, ha, hb] at q; omega
theorem own_ltI {a b : Int32} {A B : Nat} (ha : a.toInt = (A : Int)) (hb : b.toInt = (B : Int)) (h : A < B) : a < b := by
  rw [Int32.lt_iff_toInt_lt, ha, hb]; omega
theorem own_nlt {a b : Int32} {A B : Nat} (ha : a.toInt = (A : Int)) (hb : b.toInt = (B : Int)) (h : B ≤ A) : ¬ a < b := by
  rw [Int32.lt_iff_toInt_lt, ha, hb]; omega
theorem own_neN {a b : Int32} {A B : Nat} (ha : a.toInt = (A : Int)) (hb : b.toInt = (B : Int)) (h : A ≠ B) : ¬ a = b := by
  rw [← Int32.toInt_inj, ha, hb]; omega
theorem own_ltne {a b : Int32} {A B : Nat} (q : ¬ a = b) (ha : a.toInt = (A : Int)) (hb : b.toInt = (B : Int)) (h : B ≤ A) : B < A := by
  rw [← Int32.toInt_inj, ha, hb] at q; omega
theorem own_toI {s : Int32} {SS : Nat} (h : s.toInt = (SS : Int)) : SS.toInt32 = s := by
  have r := own_rg s
  rw [← Int32.toInt_inj, h]
  show (Int32.ofNat SS).toInt = _
  exact Int32.toInt_ofNat_of_lt (by omega)
theorem own_cut {Z : State} {h : Heap} {a : Addr} {A B : Nat} {f : Nat → Value} (F : Arf Z h a .byte (A + B - A) f) : Arf Z h a .byte B f := by
  rw [show A + B - A = B by omega] at F; exact F
theorem own_f3 {z : Int32} (h : z = 0 ∨ z = 1 ∨ z = 2 ∨ z = 3) (h0 : ¬ z = 0) (h1 : ¬ z = 1) (h2 : ¬ z = 2) : z = 3 := by
  rcases h with h | h | h | h
  · exact absurd h h0
  · exact absurd h h1
  · exact absurd h h2
  · exact h
def own_hdr (G : Nat → Int32) (P : Nat) (form len : Int32) : Prop :=
  (form = 0 ∧ G (P + 1) = (len.toInt8.toInt32)) ∨ (form = 1 ∧ G (P + 1) = -127 ∧ G (P + 2) = (len.toInt8.toInt32)) ∨ (form = 2 ∧ G (P + 1) = -126 ∧ G (P + 2) = (((len.toUInt32 >>> ((8 : Int32) &&& 31).toUInt32).toInt32).toInt8.toInt32) ∧ G (P + 3) = (len.toInt8.toInt32)) ∨ (form = 3 ∧ G (P + 1) = -125 ∧ G (P + 2) = (((len.toUInt32 >>> ((16 : Int32) &&& 31).toUInt32).toInt32).toInt8.toInt32) ∧ G (P + 3) = (((len.toUInt32 >>> ((8 : Int32) &&& 31).toUInt32).toInt32).toInt8.toInt32) ∧ G (P + 4) = (len.toInt8.toInt32))
def own_fm (f : Int32) (F L : Nat) : Prop := f.toInt = (F : Int) ∧ F ≤ 3 ∧ (F = 0 → L < 128) ∧ (F = 1 → L < 256) ∧ L < 65536
theorem own_hdrM {G G' : Nat → Int32} {P F L : Nat} {form len : Int32} (h : own_hdr G P form len) (hf : own_fm form F L) (w : ∀ j, j < P + 2 + F → G' j = G j) : own_hdr G' P form len := by
  have hF := hf.1
  have e0 : (0 : Int32).toInt = 0 := by decide
  have e1 : (1 : Int32).toInt = 1 := by decide
  have e2 : (2 : Int32).toInt = 2 := by decide
  have e3 : (3 : Int32).toInt = 3 := by decide
  rcases h with ⟨rfl, a⟩ | ⟨rfl, a, b⟩ | ⟨rfl, a, b, c⟩ | ⟨rfl, a, b, c, d⟩
  · exact Or.inl ⟨rfl, by rw [w _ (by omega)]; exact a⟩
  · exact Or.inr (Or.inl ⟨rfl, by rw [w _ (by omega)]; exact a, by rw [w _ (by omega)]; exact b⟩)
  · exact Or.inr (Or.inr (Or.inl ⟨rfl, by rw [w _ (by omega)]; exact a, by rw [w _ (by omega)]; exact b, by rw [w _ (by omega)]; exact c⟩))
  · exact Or.inr (Or.inr (Or.inr ⟨rfl, by rw [w _ (by omega)]; exact a, by rw [w _ (by omega)]; exact b, by rw [w _ (by omega)]; exact c, by rw [w _ (by omega)]; exact d⟩))
theorem own_fm4 {f : Int32} {F L : Nat} (h : own_fm f F L) : f = 0 ∨ f = 1 ∨ f = 2 ∨ f = 3 := by
  obtain ⟨h1, h2, -⟩ := h
  have e0 : (0 : Int32).toInt = 0 := by decide
  have e1 : (1 : Int32).toInt = 1 := by decide
  have e2 : (2 : Int32).toInt = 2 := by decide
  have e3 : (3 : Int32).toInt = 3 := by decide
  simp only [← Int32.toInt_inj, e0, e1, e2, e3]
  omega
theorem own_m3 (x y : Int32) (h : y = x &&& (3 : Int32)) : ∃ N : Nat, y.toInt = (N : Int) ∧ N ≤ 3 := by
  have h1 := c_mask x 3 2 (by decide) (by decide)
  have p : (2 ^ 2 : Nat) = 4 := by decide
  rw [← h, p] at h1
  exact ⟨y.toInt.toNat, by omega, by omega⟩
theorem own_n3 (p1 : Int32) : ((((p1.toUInt32 >>> ((2 : Int32) &&& 31).toUInt32).toInt32) &&& (3 : Int32)) % (3 : Int32)) = 0 ∨ ((((p1.toUInt32 >>> ((2 : Int32) &&& 31).toUInt32).toInt32) &&& (3 : Int32)) % (3 : Int32)) = 1 ∨ ((((p1.toUInt32 >>> ((2 : Int32) &&& 31).toUInt32).toInt32) &&& (3 : Int32)) % (3 : Int32)) = 2 := by
  have h1 := c_mask ((p1.toUInt32 >>> ((2 : Int32) &&& 31).toUInt32).toInt32) 3 2 (by decide) (by decide)
  have p : (2 ^ 2 : Nat) = 4 := by decide
  rw [p] at h1
  have h2 := (c_irem (((p1.toUInt32 >>> ((2 : Int32) &&& 31).toUInt32).toInt32) &&& (3 : Int32)) 3 3 (by decide)).1 (by omega)
  simp only [← Int32.toInt_inj]
  have e0 : (0 : Int32).toInt = 0 := by decide
  have e1 : (1 : Int32).toInt = 1 := by decide
  have e2 : (2 : Int32).toInt = 2 := by decide
  rw [e0, e1, e2]
  omega
theorem own_clb (x y : Int32) (h : y = own_cl x) : ∃ N : Nat, y.toInt = (N : Int) ∧ N ≤ 375 := by
  subst h
  unfold own_cl
  have h1 := c_mask ((x.toUInt32 >>> ((1 : Int32) &&& 31).toUInt32).toInt32) 3 2 (by decide) (by decide)
  have h2 := c_mask ((x.toUInt32 >>> ((1 : Int32) &&& 31).toUInt32).toInt32) 255 8 (by decide) (by decide)
  have p : (2 ^ 2 : Nat) = 4 := by decide
  have p' : (2 ^ 8 : Nat) = 256 := by decide
  rw [p] at h1
  rw [p'] at h2
  have h3 := c_iadd 120 (((x.toUInt32 >>> ((1 : Int32) &&& 31).toUInt32).toInt32) &&& 255)
  have h4 := own_rg (120 + (((x.toUInt32 >>> ((1 : Int32) &&& 31).toUInt32).toInt32) &&& 255))
  have e : (120 : Int32).toInt = 120 := by decide
  rw [e] at h3
  split
  · exact ⟨_, (Int.toNat_of_nonneg (by omega)).symm, by omega⟩
  · exact ⟨_, (Int.toNat_of_nonneg (by omega)).symm, by omega⟩
theorem own_fmx {x f c : Int32} {X C : Nat} (h : x = own_mx f (own_mf c)) (hf : f.toInt = (X : Int)) (hX : X ≤ 3) (hc : c.toInt = (C : Int)) (hC : C < 65536) : ∃ F : Nat, own_fm x F C := by
  subst h
  have e0 : (0 : Int32).toInt = 0 := by decide
  have e1 : (1 : Int32).toInt = 1 := by decide
  have e2 : (2 : Int32).toInt = 2 := by decide
  have e128 : (128 : Int32).toInt = 128 := by decide
  have e256 : (256 : Int32).toInt = 256 := by decide
  have m : ((own_mf c).toInt = 0 ∧ C < 128) ∨ ((own_mf c).toInt = 1 ∧ C < 256) ∨ (own_mf c).toInt = 2 := by
    unfold own_mf
    simp only [Int32.lt_iff_toInt_lt, hc, e128, e256]
    repeat' split
    all_goals omega
  have q : ∃ F : Nat, (own_mx f (own_mf c)).toInt = (F : Int) ∧ F ≤ 3 ∧ (own_mf c).toInt ≤ F := by
    unfold own_mx
    simp only [Int32.lt_iff_toInt_lt]
    split
    · exact ⟨_, (Int.toNat_of_nonneg (by omega)).symm, by omega, by omega⟩
    · exact ⟨_, (Int.toNat_of_nonneg (by omega)).symm, by omega, by omega⟩
  obtain ⟨F, q1, q2, q3⟩ := q
  exact ⟨F, q1, q2, by omega, by omega, hC⟩
theorem own_mnl {f t : Int32} {PA PB : Nat} (ht : t.toInt = (PB : Int)) (hf : f.toInt = (PA : Int)) (hle : PA ≤ PB) (hB : PB ≤ 800) : own_mn ((800 : Int32) - f) (t - f) = t - f := by
  have h1 := own_sbN ht hf hle
  have h2 := own_sbN (a := 800) (A := 800) (by decide) hf (by omega)
  unfold own_mn
  split
  · rfl
  · rename_i q
    rw [Int32.lt_iff_toInt_lt, h1, h2] at q
    rw [← Int32.toInt_inj, h1, h2]
    omega
theorem own_l8 {len : Int32} {LL : Nat} (hl : len.toInt = (LL : Int)) (hb : LL < 128) : ((len.toInt8.toInt32) &&& (255 : Int32)) = len := by
  have h1 := c_mask (len.toInt8.toInt32) 255 8 (by decide) (by decide)
  have h2 := c_i2b len
  have p : (2 ^ 8 : Nat) = 256 := by decide
  rw [p] at h1
  rw [← Int32.toInt_inj]
  omega
theorem own_acc1 {len : Int32} {LL : Nat} (hl : len.toInt = (LL : Int)) (hb : LL < 256) : ((0 : Int32) ||| ((len.toInt8.toInt32) &&& (255 : Int32))) = len := by
  have h1 := c_mask (len.toInt8.toInt32) 255 8 (by decide) (by decide)
  have h2 := c_i2b len
  have p : (2 ^ 8 : Nat) = 256 := by decide
  rw [p] at h1
  rw [Int32.zero_or, ← Int32.toInt_inj]
  omega
theorem own_by {x : Int32} : (x.toInt8.toInt32 &&& (255 : Int32)).toInt = x.toInt % 256 := by
  have h1 := c_mask x.toInt8.toInt32 255 8 (by decide) (by decide)
  have h2 := c_i2b x
  have p : (2 ^ 8 : Nat) = 256 := by decide
  rw [p] at h1
  omega
theorem own_sh {a b : Int32} (ha : 0 ≤ a.toInt) (ha' : a.toInt < 65536) (hb : 0 ≤ b.toInt) (hb' : b.toInt < 256) : ((a <<< ((8 : Int32) &&& 31)) ||| b).toInt = a.toInt * 256 + b.toInt := by
  have h1 := c_ishl a 8 8 (by decide)
  have p : (2 ^ 8 : Nat) = 256 := by decide
  rw [p] at h1
  have r := own_rg (a <<< ((8 : Int32) &&& 31))
  have h2 := c_or (a <<< ((8 : Int32) &&& 31)) b 8 (by decide) 256 (by decide) (by omega) hb hb'
  have r2 := own_rg ((a <<< ((8 : Int32) &&& 31)) ||| b)
  omega
theorem own_acc2 {len : Int32} {LL : Nat} (hl : len.toInt = (LL : Int)) (hb : LL < 65536) : ((((0 : Int32) ||| ((((len.toUInt32 >>> ((8 : Int32) &&& 31).toUInt32).toInt32).toInt8.toInt32) &&& (255 : Int32))) <<< ((8 : Int32) &&& 31)) ||| ((len.toInt8.toInt32) &&& (255 : Int32))) = len := by
  have u := c_iushr len 8 8 (by decide) (by decide)
  have p : (2 ^ 8 : Nat) = 256 := by decide
  rw [p] at u
  have b1 := own_by (x := ((len.toUInt32 >>> ((8 : Int32) &&& 31).toUInt32).toInt32))
  have b0 := own_by (x := len)
  rw [Int32.zero_or, ← Int32.toInt_inj, own_sh (by omega) (by omega) (by omega) (by omega)]
  omega
theorem own_acc3 {len : Int32} {LL : Nat} (hl : len.toInt = (LL : Int)) (hb : LL < 65536) : ((((((0 : Int32) ||| ((((len.toUInt32 >>> ((16 : Int32) &&& 31).toUInt32).toInt32).toInt8.toInt32) &&& (255 : Int32))) <<< ((8 : Int32) &&& 31)) ||| ((((len.toUInt32 >>> ((8 : Int32) &&& 31).toUInt32).toInt32).toInt8.toInt32) &&& (255 : Int32))) <<< ((8 : Int32) &&& 31)) ||| ((len.toInt8.toInt32) &&& (255 : Int32))) = len := by
  have u := c_iushr len 8 8 (by decide) (by decide)
  have u' := c_iushr len 16 16 (by decide) (by decide)
  have p : (2 ^ 8 : Nat) = 256 := by decide
  have p' : (2 ^ 16 : Nat) = 65536 := by decide
  rw [p] at u
  rw [p'] at u'
  have b2 := own_by (x := ((len.toUInt32 >>> ((16 : Int32) &&& 31).toUInt32).toInt32))
  have b1 := own_by (x := ((len.toUInt32 >>> ((8 : Int32) &&& 31).toUInt32).toInt32))
  have b0 := own_by (x := len)
  have s1 := own_sh (a := (((len.toUInt32 >>> ((16 : Int32) &&& 31).toUInt32).toInt32).toInt8.toInt32 &&& (255 : Int32))) (b := (((len.toUInt32 >>> ((8 : Int32) &&& 31).toUInt32).toInt32).toInt8.toInt32 &&& (255 : Int32))) (by omega) (by omega) (by omega) (by omega)
  rw [Int32.zero_or, ← Int32.toInt_inj, own_sh (by omega) (by omega) (by omega) (by omega)]
  omega
theorem d1_0 : decode method_3_code 0 = .ok (.iload_n 0, 1) := by decide +kernel
theorem d1_1 : decode method_3_code 1 = .ok (.iconst 1, 1) := by decide +kernel
theorem d1_2 : decode method_3_code 2 = .ok (.iand, 1) := by decide +kernel
theorem d1_3 : decode method_3_code 3 = .ok (.ifCond .ne 11, 3) := by decide +kernel
theorem d1_6 : decode method_3_code 6 = .ok (.iload_n 0, 1) := by decide +kernel
theorem d1_7 : decode method_3_code 7 = .ok (.iconst 1, 1) := by decide +kernel
theorem d1_8 : decode method_3_code 8 = .ok (.iushr, 1) := by decide +kernel
theorem d1_9 : decode method_3_code 9 = .ok (.iconst 3, 1) := by decide +kernel
theorem d1_10 : decode method_3_code 10 = .ok (.iand, 1) := by decide +kernel
theorem d1_11 : decode method_3_code 11 = .ok (.goto 13, 3) := by decide +kernel
theorem d1_14 : decode method_3_code 14 = .ok (.bipush 120, 2) := by decide +kernel
theorem d1_16 : decode method_3_code 16 = .ok (.iload_n 0, 1) := by decide +kernel
theorem d1_17 : decode method_3_code 17 = .ok (.iconst 1, 1) := by decide +kernel
theorem d1_18 : decode method_3_code 18 = .ok (.iushr, 1) := by decide +kernel
theorem d1_19 : decode method_3_code 19 = .ok (.sipush 255, 3) := by decide +kernel
theorem d1_22 : decode method_3_code 22 = .ok (.iand, 1) := by decide +kernel
theorem d1_23 : decode method_3_code 23 = .ok (.iadd, 1) := by decide +kernel
theorem d1_24 : decode method_3_code 24 = .ok (.ireturn, 1) := by decide +kernel
set_option maxRecDepth 65536 in
set_option maxHeartbeats 40000000 in
theorem rm1 (Z : State) (a0 : Array Value) (hw : ∀ d ∈ tables_1, d.before a0 Z = true) (p1 : Int32) (h0 : Heap) (n0 : Nat)  :
    Con Z n0 (⟨"com/example/vidare/vidare/core/DerInsidePinLaw", "contentLength", "(I)I"⟩ : MethodName) method_3_code 1 (some .int) [] ({ frames := 0, cells := 0, slots := 0, locals := 0 } : Room) #[(.int p1)] h0 (fun v h => v = some (.int (own_cl p1)) ∧ h0 = h) := by
  refine Con.intro (L0 := #[.val (.int p1)]) (plainFor_of_name (by first | (simp [plainName, overriddenIn]; done) | decide +kernel)) (fun m => by first | (simp [entryFrame, mkF, argsToLocals, Value.category]; done) | rfl) ?_
  intro C k
  replace k := k.iloadN d1_0 rfl
  replace k := k.iconst (1 : Int32) d1_1 rfl
  replace k := k.iand d1_2
  by_cases hc101 : (p1 &&& (1 : Int32)) = (0 : Int32)
  · skip
    replace k := k.ifNo d1_3 (teq hc101).2
    replace k := k.iloadN d1_6 rfl
    replace k := k.iconst (1 : Int32) d1_7 rfl
    replace k := k.iushr d1_8
    replace k := k.iconst (3 : Int32) d1_9 rfl
    replace k := k.iand d1_10
    replace k := k.goto (pc' := 24) d1_11 (by decide) (by decide)
    exact k.iret d1_24 rfl (by simp) rfl ⟨by rw [own_cl, if_pos hc101], rfl⟩ (by decide) (by decide)
  · skip
    replace k := k.ifYes (pc' := 14) d1_3 (feq hc101).2 (by decide) (by decide)
    replace k := k.bipush (120 : Int32) d1_14 rfl
    replace k := k.iloadN d1_16 rfl
    replace k := k.iconst (1 : Int32) d1_17 rfl
    replace k := k.iushr d1_18
    replace k := k.sipush (255 : Int32) d1_19 rfl
    replace k := k.iand d1_22
    replace k := k.iadd d1_23
    exact k.iret d1_24 rfl (by simp) rfl ⟨by rw [own_cl, if_neg hc101], rfl⟩ (by decide) (by decide)

theorem d2_0 : decode method_2_code 0 = .ok (.iload_n 0, 1) := by decide +kernel
theorem d2_1 : decode method_2_code 1 = .ok (.sipush 128, 3) := by decide +kernel
theorem d2_4 : decode method_2_code 4 = .ok (.if_icmp .ge 7, 3) := by decide +kernel
theorem d2_7 : decode method_2_code 7 = .ok (.iconst 0, 1) := by decide +kernel
theorem d2_8 : decode method_2_code 8 = .ok (.goto 15, 3) := by decide +kernel
theorem d2_11 : decode method_2_code 11 = .ok (.iload_n 0, 1) := by decide +kernel
theorem d2_12 : decode method_2_code 12 = .ok (.sipush 256, 3) := by decide +kernel
theorem d2_15 : decode method_2_code 15 = .ok (.if_icmp .ge 7, 3) := by decide +kernel
theorem d2_18 : decode method_2_code 18 = .ok (.iconst 1, 1) := by decide +kernel
theorem d2_19 : decode method_2_code 19 = .ok (.goto 4, 3) := by decide +kernel
theorem d2_22 : decode method_2_code 22 = .ok (.iconst 2, 1) := by decide +kernel
theorem d2_23 : decode method_2_code 23 = .ok (.ireturn, 1) := by decide +kernel
set_option maxRecDepth 65536 in
set_option maxHeartbeats 40000000 in
theorem rm2 (Z : State) (a0 : Array Value) (hw : ∀ d ∈ tables_1, d.before a0 Z = true) (p1 : Int32) (h0 : Heap) (n0 : Nat)  :
    Con Z n0 (⟨"com/example/vidare/vidare/core/DerInsidePinLaw", "minForm", "(I)I"⟩ : MethodName) method_2_code 1 (some .int) [] ({ frames := 0, cells := 0, slots := 0, locals := 0 } : Room) #[(.int p1)] h0 (fun v h => v = some (.int (own_mf p1)) ∧ h0 = h) := by
  refine Con.intro (L0 := #[.val (.int p1)]) (plainFor_of_name (by first | (simp [plainName, overriddenIn]; done) | decide +kernel)) (fun m => by first | (simp [entryFrame, mkF, argsToLocals, Value.category]; done) | rfl) ?_
  intro C k
  replace k := k.iloadN d2_0 rfl
  replace k := k.sipush (128 : Int32) d2_1 rfl
  by_cases hc101 : p1 < (128 : Int32)
  · skip
    replace k := k.icmpNo d2_4 (tlt hc101).2.1
    replace k := k.iconst (0 : Int32) d2_7 rfl
    replace k := k.goto (pc' := 23) d2_8 (by decide) (by decide)
    exact k.iret d2_23 rfl (by simp) rfl ⟨by rw [own_mf, if_pos hc101], rfl⟩ (by decide) (by decide)
  · skip
    replace k := k.icmpYes (pc' := 11) d2_4 (flt hc101).2.1 (by decide) (by decide)
    replace k := k.iloadN d2_11 rfl
    replace k := k.sipush (256 : Int32) d2_12 rfl
    by_cases hc102 : p1 < (256 : Int32)
    · skip
      replace k := k.icmpNo d2_15 (tlt hc102).2.1
      replace k := k.iconst (1 : Int32) d2_18 rfl
      replace k := k.goto (pc' := 23) d2_19 (by decide) (by decide)
      exact k.iret d2_23 rfl (by simp) rfl ⟨by rw [own_mf, if_neg hc101, if_pos hc102], rfl⟩ (by decide) (by decide)
    · skip
      replace k := k.icmpYes (pc' := 22) d2_15 (flt hc102).2.1 (by decide) (by decide)
      replace k := k.iconst (2 : Int32) d2_22 rfl
      exact k.iret d2_23 rfl (by simp) rfl ⟨by rw [own_mf, if_neg hc101, if_neg hc102], rfl⟩ (by decide) (by decide)

theorem d3_0 : decode jdk_29_method_65_code 0 = .ok (.iload_n 0, 1) := by decide +kernel
theorem d3_1 : decode jdk_29_method_65_code 1 = .ok (.iload_n 1, 1) := by decide +kernel
theorem d3_2 : decode jdk_29_method_65_code 2 = .ok (.if_icmp .lt 7, 3) := by decide +kernel
theorem d3_5 : decode jdk_29_method_65_code 5 = .ok (.iload_n 0, 1) := by decide +kernel
theorem d3_6 : decode jdk_29_method_65_code 6 = .ok (.goto 4, 3) := by decide +kernel
theorem d3_9 : decode jdk_29_method_65_code 9 = .ok (.iload_n 1, 1) := by decide +kernel
theorem d3_10 : decode jdk_29_method_65_code 10 = .ok (.ireturn, 1) := by decide +kernel
set_option maxRecDepth 65536 in
set_option maxHeartbeats 40000000 in
theorem rm3 (Z : State) (a0 : Array Value) (hw : ∀ d ∈ tables_1, d.before a0 Z = true) (p1 p2 : Int32) (h0 : Heap) (n0 : Nat)  :
    Con Z n0 (⟨"java/lang/Math", "max", "(II)I"⟩ : MethodName) jdk_29_method_65_code 2 (some .int) [] ({ frames := 0, cells := 0, slots := 0, locals := 0 } : Room) #[(.int p1), (.int p2)] h0 (fun v h => v = some (.int (own_mx p1 p2)) ∧ h0 = h) := by
  refine Con.intro (L0 := #[.val (.int p1), .val (.int p2)]) (Jvm.Free.JP.mathPlain rfl (by decide +kernel)) (fun m => by first | (simp [entryFrame, mkF, argsToLocals, Value.category]; done) | rfl) ?_
  intro C k
  replace k := k.iloadN d3_0 rfl
  replace k := k.iloadN d3_1 rfl
  by_cases hc101 : p1 < p2
  · skip
    replace k := k.icmpYes (pc' := 9) d3_2 (tlt hc101).1 (by decide) (by decide)
    replace k := k.iloadN d3_9 rfl
    exact k.iret d3_10 rfl (by simp) rfl ⟨by rw [own_mx, if_pos hc101], rfl⟩ (by decide) (by decide)
  · skip
    replace k := k.icmpNo d3_2 (flt hc101).1
    replace k := k.iloadN d3_5 rfl
    replace k := k.goto (pc' := 10) d3_6 (by decide) (by decide)
    exact k.iret d3_10 rfl (by simp) rfl ⟨by rw [own_mx, if_neg hc101], rfl⟩ (by decide) (by decide)

theorem d16_0 : decode jdk_29_method_69_code 0 = .ok (.iload_n 0, 1) := by decide +kernel
theorem d16_1 : decode jdk_29_method_69_code 1 = .ok (.iload_n 1, 1) := by decide +kernel
theorem d16_2 : decode jdk_29_method_69_code 2 = .ok (.if_icmp .gt 7, 3) := by decide +kernel
theorem d16_5 : decode jdk_29_method_69_code 5 = .ok (.iload_n 0, 1) := by decide +kernel
theorem d16_6 : decode jdk_29_method_69_code 6 = .ok (.goto 4, 3) := by decide +kernel
theorem d16_9 : decode jdk_29_method_69_code 9 = .ok (.iload_n 1, 1) := by decide +kernel
theorem d16_10 : decode jdk_29_method_69_code 10 = .ok (.ireturn, 1) := by decide +kernel
set_option maxRecDepth 65536 in
set_option maxHeartbeats 40000000 in
theorem rm16 (Z : State) (a0 : Array Value) (hw : ∀ d ∈ tables_1, d.before a0 Z = true) (p1 p2 : Int32) (h0 : Heap) (n0 : Nat)  :
    Con Z n0 (⟨"java/lang/Math", "min", "(II)I"⟩ : MethodName) jdk_29_method_69_code 2 (some .int) [] ({ frames := 0, cells := 0, slots := 0, locals := 0 } : Room) #[(.int p1), (.int p2)] h0 (fun v h => v = some (.int (own_mn p1 p2)) ∧ h0 = h) := by
  refine Con.intro (L0 := #[.val (.int p1), .val (.int p2)]) (Jvm.Free.JP.mathPlain rfl (by decide +kernel)) (fun m => by first | (simp [entryFrame, mkF, argsToLocals, Value.category]; done) | rfl) ?_
  intro C k
  replace k := k.iloadN d16_0 rfl
  replace k := k.iloadN d16_1 rfl
  by_cases hc101 : p2 < p1
  · skip
    replace k := k.icmpYes (pc' := 9) d16_2 (tlt hc101).2.2.1 (by decide) (by decide)
    replace k := k.iloadN d16_9 rfl
    exact k.iret d16_10 rfl (by simp) rfl ⟨by rw [own_mn, if_pos hc101], rfl⟩ (by decide) (by decide)
  · skip
    replace k := k.icmpNo d16_2 (flt hc101).2.2.1
    replace k := k.iloadN d16_5 rfl
    replace k := k.goto (pc' := 10) d16_6 (by decide) (by decide)
    exact k.iret d16_10 rfl (by simp) rfl ⟨by rw [own_mn, if_neg hc101], rfl⟩ (by decide) (by decide)

theorem d4_0 : decode method_4_code 0 = .ok (.aload_n 0, 1) := by decide +kernel
theorem d4_1 : decode method_4_code 1 = .ok (.iload_n 1, 1) := by decide +kernel
theorem d4_2 : decode method_4_code 2 = .ok (.iload_n 2, 1) := by decide +kernel
theorem d4_3 : decode method_4_code 3 = .ok (.i2b, 1) := by decide +kernel
theorem d4_4 : decode method_4_code 4 = .ok (.bastore, 1) := by decide +kernel
theorem d4_5 : decode method_4_code 5 = .ok (.iload_n 3, 1) := by decide +kernel
theorem d4_6 : decode method_4_code 6 = .ok (.ifCond .ne 14, 3) := by decide +kernel
theorem d4_9 : decode method_4_code 9 = .ok (.aload_n 0, 1) := by decide +kernel
theorem d4_10 : decode method_4_code 10 = .ok (.iload_n 1, 1) := by decide +kernel
theorem d4_11 : decode method_4_code 11 = .ok (.iconst 1, 1) := by decide +kernel
theorem d4_12 : decode method_4_code 12 = .ok (.iadd, 1) := by decide +kernel
theorem d4_13 : decode method_4_code 13 = .ok (.iload 4, 2) := by decide +kernel
theorem d4_15 : decode method_4_code 15 = .ok (.i2b, 1) := by decide +kernel
theorem d4_16 : decode method_4_code 16 = .ok (.bastore, 1) := by decide +kernel
theorem d4_17 : decode method_4_code 17 = .ok (.goto 97, 3) := by decide +kernel
theorem d4_20 : decode method_4_code 20 = .ok (.iload_n 3, 1) := by decide +kernel
theorem d4_21 : decode method_4_code 21 = .ok (.iconst 1, 1) := by decide +kernel
theorem d4_22 : decode method_4_code 22 = .ok (.if_icmp .ne 21, 3) := by decide +kernel
theorem d4_25 : decode method_4_code 25 = .ok (.aload_n 0, 1) := by decide +kernel
theorem d4_26 : decode method_4_code 26 = .ok (.iload_n 1, 1) := by decide +kernel
theorem d4_27 : decode method_4_code 27 = .ok (.iconst 1, 1) := by decide +kernel
theorem d4_28 : decode method_4_code 28 = .ok (.iadd, 1) := by decide +kernel
theorem d4_29 : decode method_4_code 29 = .ok (.bipush (-127), 2) := by decide +kernel
theorem d4_31 : decode method_4_code 31 = .ok (.bastore, 1) := by decide +kernel
theorem d4_32 : decode method_4_code 32 = .ok (.aload_n 0, 1) := by decide +kernel
theorem d4_33 : decode method_4_code 33 = .ok (.iload_n 1, 1) := by decide +kernel
theorem d4_34 : decode method_4_code 34 = .ok (.iconst 2, 1) := by decide +kernel
theorem d4_35 : decode method_4_code 35 = .ok (.iadd, 1) := by decide +kernel
theorem d4_36 : decode method_4_code 36 = .ok (.iload 4, 2) := by decide +kernel
theorem d4_38 : decode method_4_code 38 = .ok (.i2b, 1) := by decide +kernel
theorem d4_39 : decode method_4_code 39 = .ok (.bastore, 1) := by decide +kernel
theorem d4_40 : decode method_4_code 40 = .ok (.goto 74, 3) := by decide +kernel
theorem d4_43 : decode method_4_code 43 = .ok (.iload_n 3, 1) := by decide +kernel
theorem d4_44 : decode method_4_code 44 = .ok (.iconst 2, 1) := by decide +kernel
theorem d4_45 : decode method_4_code 45 = .ok (.if_icmp .ne 32, 3) := by decide +kernel
theorem d4_48 : decode method_4_code 48 = .ok (.aload_n 0, 1) := by decide +kernel
theorem d4_49 : decode method_4_code 49 = .ok (.iload_n 1, 1) := by decide +kernel
theorem d4_50 : decode method_4_code 50 = .ok (.iconst 1, 1) := by decide +kernel
theorem d4_51 : decode method_4_code 51 = .ok (.iadd, 1) := by decide +kernel
theorem d4_52 : decode method_4_code 52 = .ok (.bipush (-126), 2) := by decide +kernel
theorem d4_54 : decode method_4_code 54 = .ok (.bastore, 1) := by decide +kernel
theorem d4_55 : decode method_4_code 55 = .ok (.aload_n 0, 1) := by decide +kernel
theorem d4_56 : decode method_4_code 56 = .ok (.iload_n 1, 1) := by decide +kernel
theorem d4_57 : decode method_4_code 57 = .ok (.iconst 2, 1) := by decide +kernel
theorem d4_58 : decode method_4_code 58 = .ok (.iadd, 1) := by decide +kernel
theorem d4_59 : decode method_4_code 59 = .ok (.iload 4, 2) := by decide +kernel
theorem d4_61 : decode method_4_code 61 = .ok (.bipush 8, 2) := by decide +kernel
theorem d4_63 : decode method_4_code 63 = .ok (.iushr, 1) := by decide +kernel
theorem d4_64 : decode method_4_code 64 = .ok (.i2b, 1) := by decide +kernel
theorem d4_65 : decode method_4_code 65 = .ok (.bastore, 1) := by decide +kernel
theorem d4_66 : decode method_4_code 66 = .ok (.aload_n 0, 1) := by decide +kernel
theorem d4_67 : decode method_4_code 67 = .ok (.iload_n 1, 1) := by decide +kernel
theorem d4_68 : decode method_4_code 68 = .ok (.iconst 3, 1) := by decide +kernel
theorem d4_69 : decode method_4_code 69 = .ok (.iadd, 1) := by decide +kernel
theorem d4_70 : decode method_4_code 70 = .ok (.iload 4, 2) := by decide +kernel
theorem d4_72 : decode method_4_code 72 = .ok (.i2b, 1) := by decide +kernel
theorem d4_73 : decode method_4_code 73 = .ok (.bastore, 1) := by decide +kernel
theorem d4_74 : decode method_4_code 74 = .ok (.goto 40, 3) := by decide +kernel
theorem d4_77 : decode method_4_code 77 = .ok (.aload_n 0, 1) := by decide +kernel
theorem d4_78 : decode method_4_code 78 = .ok (.iload_n 1, 1) := by decide +kernel
theorem d4_79 : decode method_4_code 79 = .ok (.iconst 1, 1) := by decide +kernel
theorem d4_80 : decode method_4_code 80 = .ok (.iadd, 1) := by decide +kernel
theorem d4_81 : decode method_4_code 81 = .ok (.bipush (-125), 2) := by decide +kernel
theorem d4_83 : decode method_4_code 83 = .ok (.bastore, 1) := by decide +kernel
theorem d4_84 : decode method_4_code 84 = .ok (.aload_n 0, 1) := by decide +kernel
theorem d4_85 : decode method_4_code 85 = .ok (.iload_n 1, 1) := by decide +kernel
theorem d4_86 : decode method_4_code 86 = .ok (.iconst 2, 1) := by decide +kernel
theorem d4_87 : decode method_4_code 87 = .ok (.iadd, 1) := by decide +kernel
theorem d4_88 : decode method_4_code 88 = .ok (.iload 4, 2) := by decide +kernel
theorem d4_90 : decode method_4_code 90 = .ok (.bipush 16, 2) := by decide +kernel
theorem d4_92 : decode method_4_code 92 = .ok (.iushr, 1) := by decide +kernel
theorem d4_93 : decode method_4_code 93 = .ok (.i2b, 1) := by decide +kernel
theorem d4_94 : decode method_4_code 94 = .ok (.bastore, 1) := by decide +kernel
theorem d4_95 : decode method_4_code 95 = .ok (.aload_n 0, 1) := by decide +kernel
theorem d4_96 : decode method_4_code 96 = .ok (.iload_n 1, 1) := by decide +kernel
theorem d4_97 : decode method_4_code 97 = .ok (.iconst 3, 1) := by decide +kernel
theorem d4_98 : decode method_4_code 98 = .ok (.iadd, 1) := by decide +kernel
theorem d4_99 : decode method_4_code 99 = .ok (.iload 4, 2) := by decide +kernel
theorem d4_101 : decode method_4_code 101 = .ok (.bipush 8, 2) := by decide +kernel
theorem d4_103 : decode method_4_code 103 = .ok (.iushr, 1) := by decide +kernel
theorem d4_104 : decode method_4_code 104 = .ok (.i2b, 1) := by decide +kernel
theorem d4_105 : decode method_4_code 105 = .ok (.bastore, 1) := by decide +kernel
theorem d4_106 : decode method_4_code 106 = .ok (.aload_n 0, 1) := by decide +kernel
theorem d4_107 : decode method_4_code 107 = .ok (.iload_n 1, 1) := by decide +kernel
theorem d4_108 : decode method_4_code 108 = .ok (.iconst 4, 1) := by decide +kernel
theorem d4_109 : decode method_4_code 109 = .ok (.iadd, 1) := by decide +kernel
theorem d4_110 : decode method_4_code 110 = .ok (.iload 4, 2) := by decide +kernel
theorem d4_112 : decode method_4_code 112 = .ok (.i2b, 1) := by decide +kernel
theorem d4_113 : decode method_4_code 113 = .ok (.bastore, 1) := by decide +kernel
theorem d4_114 : decode method_4_code 114 = .ok (.iconst 2, 1) := by decide +kernel
theorem d4_115 : decode method_4_code 115 = .ok (.iload_n 3, 1) := by decide +kernel
theorem d4_116 : decode method_4_code 116 = .ok (.iadd, 1) := by decide +kernel
theorem d4_117 : decode method_4_code 117 = .ok (.ireturn, 1) := by decide +kernel
set_option maxRecDepth 65536 in
set_option maxHeartbeats 40000000 in
theorem rm4 (Z : State) (a0 : Array Value) (hw : ∀ d ∈ tables_1, d.before a0 Z = true) (a1 : Addr) (p tag form len : Int32) (P : Nat) (G : Nat → Int32) (h0 : Heap) (n0 : Nat) (g1 : n0 ≤ a1) (A1 : Arf Z h0 a1 .byte 800 (own_bf G)) (hD : own_der G) (hp : p.toInt = (P : Int)) (hP : P + 5 ≤ 800) (hf : form = 0 ∨ form = 1 ∨ form = 2 ∨ form = 3) :
    Con Z n0 (⟨"com/example/vidare/vidare/core/DerInsidePinLaw", "header", "([BIIII)I"⟩ : MethodName) method_4_code 5 (some .int) [] ({ frames := 0, cells := 0, slots := 0, locals := 0 } : Room) #[(.ref a1), (.int p), (.int tag), (.int form), (.int len)] h0 (fun v h => v = some (.int ((2 : Int32) + form)) ∧ Keep h0 h [a1] ∧ ∃ G', Arf Z h a1 .byte 800 (own_bf G') ∧ own_der G' ∧ own_hdr G' P form len ∧ ∀ j, j < P → G' j = G j) := by
  refine Con.intro (L0 := #[.val (.ref a1), .val (.int p), .val (.int tag), .val (.int form), .val (.int len)]) (plainFor_of_name (by first | (simp [plainName, overriddenIn]; done) | decide +kernel)) (fun m => by first | (simp [entryFrame, mkF, argsToLocals, Value.category]; done) | rfl) ?_
  intro C k
  have q1 : (p + (1 : Int32)).toInt = ((P + 1 : Nat) : Int) := own_ad hp (by decide) (by omega)
  have q2 : (p + (2 : Int32)).toInt = ((P + 2 : Nat) : Int) := own_ad hp (by decide) (by omega)
  have q3 : (p + (3 : Int32)).toInt = ((P + 3 : Nat) : Int) := own_ad hp (by decide) (by omega)
  have q4 : (p + (4 : Int32)).toInt = ((P + 4 : Nat) : Int) := own_ad hp (by decide) (by omega)
  replace k := k.aloadN d4_0 rfl rfl
  replace k := k.iloadN d4_1 rfl
  replace k := k.iloadN d4_2 rfl
  replace k := k.i2b d4_3
  obtain ⟨h101, W101, A101, k⟩ := k.bastore d4_4 A1 P (own_at hp) (own_nn hp) (by omega) g1 (tag.toInt8.toInt32) (own_i2b _)
  have K101 : Keep h0 h101 [a1] := (Keep.refl h0 ([a1] : List Addr)).wr W101 (Or.inl (List.mem_of_getElem? (i := 0) rfl))
  replace k := k.iloadN d4_5 rfl
  by_cases hc102 : form = (0 : Int32)
  · skip
    replace k := k.ifNo d4_6 (teq hc102).2
    replace k := k.aloadN d4_9 rfl rfl
    replace k := k.iloadN d4_10 rfl
    replace k := k.iconst (1 : Int32) d4_11 rfl
    replace k := k.iadd d4_12
    replace k := k.iload d4_13 rfl
    replace k := k.i2b d4_15
    obtain ⟨h103, W103, A103, k⟩ := k.bastore d4_16 (own_bfA A101) (P + 1) (own_at q1) (own_nn q1) (by omega) g1 (len.toInt8.toInt32) (own_i2b _)
    have K103 : Keep h0 h103 [a1] := K101.wr W103 (Or.inl (List.mem_of_getElem? (i := 0) rfl))
    replace k := k.goto (pc' := 114) d4_17 (by decide) (by decide)
    replace k := k.iconst (2 : Int32) d4_114 rfl
    replace k := k.iloadN d4_115 rfl
    replace k := k.iadd d4_116
    exact k.iret d4_117 rfl (by simp) rfl ⟨rfl, K103, _, (own_bfA A103), (own_derU (own_derU hD (own_b8 _)) (own_b8 _)), Or.inl ⟨hc102, by simp [own_up]⟩, fun j hj => by simp only [own_up]; repeat (rw [if_neg (by omega)])⟩ (by decide) (by decide)
  · skip
    replace k := k.ifYes (pc' := 20) d4_6 (feq hc102).2 (by decide) (by decide)
    replace k := k.iloadN d4_20 rfl
    replace k := k.iconst (1 : Int32) d4_21 rfl
    by_cases hc104 : form = (1 : Int32)
    · skip
      replace k := k.icmpNo d4_22 (teq hc104).2
      replace k := k.aloadN d4_25 rfl rfl
      replace k := k.iloadN d4_26 rfl
      replace k := k.iconst (1 : Int32) d4_27 rfl
      replace k := k.iadd d4_28
      replace k := k.bipush (-127 : Int32) d4_29 rfl
      obtain ⟨h105, W105, A105, k⟩ := k.bastore d4_31 (own_bfA A101) (P + 1) (own_at q1) (own_nn q1) (by omega) g1 (-127 : Int32) (by decide)
      have K105 : Keep h0 h105 [a1] := K101.wr W105 (Or.inl (List.mem_of_getElem? (i := 0) rfl))
      replace k := k.aloadN d4_32 rfl rfl
      replace k := k.iloadN d4_33 rfl
      replace k := k.iconst (2 : Int32) d4_34 rfl
      replace k := k.iadd d4_35
      replace k := k.iload d4_36 rfl
      replace k := k.i2b d4_38
      obtain ⟨h106, W106, A106, k⟩ := k.bastore d4_39 (own_bfA A105) (P + 2) (own_at q2) (own_nn q2) (by omega) g1 (len.toInt8.toInt32) (own_i2b _)
      have K106 : Keep h0 h106 [a1] := K105.wr W106 (Or.inl (List.mem_of_getElem? (i := 0) rfl))
      replace k := k.goto (pc' := 114) d4_40 (by decide) (by decide)
      replace k := k.iconst (2 : Int32) d4_114 rfl
      replace k := k.iloadN d4_115 rfl
      replace k := k.iadd d4_116
      exact k.iret d4_117 rfl (by simp) rfl ⟨rfl, K106, _, (own_bfA A106), (own_derU (own_derU (own_derU hD (own_b8 _)) (by decide)) (own_b8 _)), Or.inr (Or.inl ⟨hc104, by simp [own_up], by simp [own_up]⟩), fun j hj => by simp only [own_up]; repeat (rw [if_neg (by omega)])⟩ (by decide) (by decide)
    · skip
      replace k := k.icmpYes (pc' := 43) d4_22 (feq hc104).2 (by decide) (by decide)
      replace k := k.iloadN d4_43 rfl
      replace k := k.iconst (2 : Int32) d4_44 rfl
      by_cases hc107 : form = (2 : Int32)
      · skip
        replace k := k.icmpNo d4_45 (teq hc107).2
        replace k := k.aloadN d4_48 rfl rfl
        replace k := k.iloadN d4_49 rfl
        replace k := k.iconst (1 : Int32) d4_50 rfl
        replace k := k.iadd d4_51
        replace k := k.bipush (-126 : Int32) d4_52 rfl
        obtain ⟨h108, W108, A108, k⟩ := k.bastore d4_54 (own_bfA A101) (P + 1) (own_at q1) (own_nn q1) (by omega) g1 (-126 : Int32) (by decide)
        have K108 : Keep h0 h108 [a1] := K101.wr W108 (Or.inl (List.mem_of_getElem? (i := 0) rfl))
        replace k := k.aloadN d4_55 rfl rfl
        replace k := k.iloadN d4_56 rfl
        replace k := k.iconst (2 : Int32) d4_57 rfl
        replace k := k.iadd d4_58
        replace k := k.iload d4_59 rfl
        replace k := k.bipush (8 : Int32) d4_61 rfl
        replace k := k.iushr d4_63
        replace k := k.i2b d4_64
        obtain ⟨h109, W109, A109, k⟩ := k.bastore d4_65 (own_bfA A108) (P + 2) (own_at q2) (own_nn q2) (by omega) g1 (((len.toUInt32 >>> ((8 : Int32) &&& 31).toUInt32).toInt32).toInt8.toInt32) (own_i2b _)
        have K109 : Keep h0 h109 [a1] := K108.wr W109 (Or.inl (List.mem_of_getElem? (i := 0) rfl))
        replace k := k.aloadN d4_66 rfl rfl
        replace k := k.iloadN d4_67 rfl
        replace k := k.iconst (3 : Int32) d4_68 rfl
        replace k := k.iadd d4_69
        replace k := k.iload d4_70 rfl
        replace k := k.i2b d4_72
        obtain ⟨h110, W110, A110, k⟩ := k.bastore d4_73 (own_bfA A109) (P + 3) (own_at q3) (own_nn q3) (by omega) g1 (len.toInt8.toInt32) (own_i2b _)
        have K110 : Keep h0 h110 [a1] := K109.wr W110 (Or.inl (List.mem_of_getElem? (i := 0) rfl))
        replace k := k.goto (pc' := 114) d4_74 (by decide) (by decide)
        replace k := k.iconst (2 : Int32) d4_114 rfl
        replace k := k.iloadN d4_115 rfl
        replace k := k.iadd d4_116
        exact k.iret d4_117 rfl (by simp) rfl ⟨rfl, K110, _, (own_bfA A110), (own_derU (own_derU (own_derU (own_derU hD (own_b8 _)) (by decide)) (own_b8 _)) (own_b8 _)), Or.inr (Or.inr (Or.inl ⟨hc107, by simp [own_up], by simp [own_up], by simp [own_up]⟩)), fun j hj => by simp only [own_up]; repeat (rw [if_neg (by omega)])⟩ (by decide) (by decide)
      · skip
        replace k := k.icmpYes (pc' := 77) d4_45 (feq hc107).2 (by decide) (by decide)
        replace k := k.aloadN d4_77 rfl rfl
        replace k := k.iloadN d4_78 rfl
        replace k := k.iconst (1 : Int32) d4_79 rfl
        replace k := k.iadd d4_80
        replace k := k.bipush (-125 : Int32) d4_81 rfl
        obtain ⟨h111, W111, A111, k⟩ := k.bastore d4_83 (own_bfA A101) (P + 1) (own_at q1) (own_nn q1) (by omega) g1 (-125 : Int32) (by decide)
        have K111 : Keep h0 h111 [a1] := K101.wr W111 (Or.inl (List.mem_of_getElem? (i := 0) rfl))
        replace k := k.aloadN d4_84 rfl rfl
        replace k := k.iloadN d4_85 rfl
        replace k := k.iconst (2 : Int32) d4_86 rfl
        replace k := k.iadd d4_87
        replace k := k.iload d4_88 rfl
        replace k := k.bipush (16 : Int32) d4_90 rfl
        replace k := k.iushr d4_92
        replace k := k.i2b d4_93
        obtain ⟨h112, W112, A112, k⟩ := k.bastore d4_94 (own_bfA A111) (P + 2) (own_at q2) (own_nn q2) (by omega) g1 (((len.toUInt32 >>> ((16 : Int32) &&& 31).toUInt32).toInt32).toInt8.toInt32) (own_i2b _)
        have K112 : Keep h0 h112 [a1] := K111.wr W112 (Or.inl (List.mem_of_getElem? (i := 0) rfl))
        replace k := k.aloadN d4_95 rfl rfl
        replace k := k.iloadN d4_96 rfl
        replace k := k.iconst (3 : Int32) d4_97 rfl
        replace k := k.iadd d4_98
        replace k := k.iload d4_99 rfl
        replace k := k.bipush (8 : Int32) d4_101 rfl
        replace k := k.iushr d4_103
        replace k := k.i2b d4_104
        obtain ⟨h113, W113, A113, k⟩ := k.bastore d4_105 (own_bfA A112) (P + 3) (own_at q3) (own_nn q3) (by omega) g1 (((len.toUInt32 >>> ((8 : Int32) &&& 31).toUInt32).toInt32).toInt8.toInt32) (own_i2b _)
        have K113 : Keep h0 h113 [a1] := K112.wr W113 (Or.inl (List.mem_of_getElem? (i := 0) rfl))
        replace k := k.aloadN d4_106 rfl rfl
        replace k := k.iloadN d4_107 rfl
        replace k := k.iconst (4 : Int32) d4_108 rfl
        replace k := k.iadd d4_109
        replace k := k.iload d4_110 rfl
        replace k := k.i2b d4_112
        obtain ⟨h114, W114, A114, k⟩ := k.bastore d4_113 (own_bfA A113) (P + 4) (own_at q4) (own_nn q4) (by omega) g1 (len.toInt8.toInt32) (own_i2b _)
        have K114 : Keep h0 h114 [a1] := K113.wr W114 (Or.inl (List.mem_of_getElem? (i := 0) rfl))
        replace k := k.iconst (2 : Int32) d4_114 rfl
        replace k := k.iloadN d4_115 rfl
        replace k := k.iadd d4_116
        exact k.iret d4_117 rfl (by simp) rfl ⟨rfl, K114, _, (own_bfA A114), (own_derU (own_derU (own_derU (own_derU (own_derU hD (own_b8 _)) (by decide)) (own_b8 _)) (own_b8 _)) (own_b8 _)), Or.inr (Or.inr (Or.inr ⟨own_f3 hf hc102 hc104 hc107, by simp [own_up], by simp [own_up], by simp [own_up], by simp [own_up]⟩)), fun j hj => by simp only [own_up]; repeat (rw [if_neg (by omega)])⟩ (by decide) (by decide)

theorem d12_0 : decode method_5_code 0 = .ok (.iload_n 3, 1) := by decide +kernel
theorem d12_1 : decode method_5_code 1 = .ok (.iload_n 2, 1) := by decide +kernel
theorem d12_2 : decode method_5_code 2 = .ok (.if_icmp .le 21, 3) := by decide +kernel
theorem d12_5 : decode method_5_code 5 = .ok (.aload_n 0, 1) := by decide +kernel
theorem d12_6 : decode method_5_code 6 = .ok (.iload_n 1, 1) := by decide +kernel
theorem d12_7 : decode method_5_code 7 = .ok (.iload_n 2, 1) := by decide +kernel
theorem d12_8 : decode method_5_code 8 = .ok (.iadd, 1) := by decide +kernel
theorem d12_9 : decode method_5_code 9 = .ok (.iload 4, 2) := by decide +kernel
theorem d12_11 : decode method_5_code 11 = .ok (.i2b, 1) := by decide +kernel
theorem d12_12 : decode method_5_code 12 = .ok (.bastore, 1) := by decide +kernel
theorem d12_13 : decode method_5_code 13 = .ok (.aload_n 0, 1) := by decide +kernel
theorem d12_14 : decode method_5_code 14 = .ok (.iload_n 1, 1) := by decide +kernel
theorem d12_15 : decode method_5_code 15 = .ok (.iload_n 3, 1) := by decide +kernel
theorem d12_16 : decode method_5_code 16 = .ok (.iadd, 1) := by decide +kernel
theorem d12_17 : decode method_5_code 17 = .ok (.iconst 1, 1) := by decide +kernel
theorem d12_18 : decode method_5_code 18 = .ok (.isub, 1) := by decide +kernel
theorem d12_19 : decode method_5_code 19 = .ok (.iload 5, 2) := by decide +kernel
theorem d12_21 : decode method_5_code 21 = .ok (.i2b, 1) := by decide +kernel
theorem d12_22 : decode method_5_code 22 = .ok (.bastore, 1) := by decide +kernel
theorem d12_23 : decode method_5_code 23 = .ok (.return_, 1) := by decide +kernel
set_option maxRecDepth 65536 in
set_option maxHeartbeats 40000000 in
theorem rm12 (Z : State) (a0 : Array Value) (hw : ∀ d ∈ tables_1, d.before a0 Z = true) (a1 : Addr) (p hs s c1 c2 : Int32) (P HS SS : Nat) (G : Nat → Int32) (h0 : Heap) (n0 : Nat) (g1 : n0 ≤ a1) (A1 : Arf Z h0 a1 .byte 800 (own_bf G)) (hD : own_der G) (hp : p.toInt = (P : Int)) (hhs : hs.toInt = (HS : Int)) (hss : s.toInt = (SS : Int)) (hP : P + SS ≤ 800) (hHS : HS ≤ SS) :
    Con Z n0 (⟨"com/example/vidare/vidare/core/DerInsidePinLaw", "fill", "([BIIIII)V"⟩ : MethodName) method_5_code 6 none [] ({ frames := 0, cells := 0, slots := 0, locals := 0 } : Room) #[(.ref a1), (.int p), (.int hs), (.int s), (.int c1), (.int c2)] h0 (fun v h => v = none ∧ Keep h0 h [a1] ∧ ∃ G', Arf Z h a1 .byte 800 (own_bf G') ∧ own_der G' ∧ ∀ j, j < P + HS → G' j = G j) := by
  refine Con.intro (L0 := #[.val (.ref a1), .val (.int p), .val (.int hs), .val (.int s), .val (.int c1), .val (.int c2)]) (plainFor_of_name (by first | (simp [plainName, overriddenIn]; done) | decide +kernel)) (fun m => by first | (simp [entryFrame, mkF, argsToLocals, Value.category]; done) | rfl) ?_
  intro C k
  replace k := k.iloadN d12_0 rfl
  replace k := k.iloadN d12_1 rfl
  by_cases hc101 : hs < s
  · skip
    replace k := k.icmpNo d12_2 (tlt hc101).2.2.2
    have hlt := own_ltN hc101 hhs hss
    have q1 : (p + hs).toInt = ((P + HS : Nat) : Int) := own_ad hp hhs (by omega)
    have q2 : ((p + s) - (1 : Int32)).toInt = ((P + SS - 1 : Nat) : Int) := own_sb1 (own_ad hp hss (by omega)) (by omega)
    replace k := k.aloadN d12_5 rfl rfl
    replace k := k.iloadN d12_6 rfl
    replace k := k.iloadN d12_7 rfl
    replace k := k.iadd d12_8
    replace k := k.iload d12_9 rfl
    replace k := k.i2b d12_11
    obtain ⟨h102, W102, A102, k⟩ := k.bastore d12_12 A1 (P + HS) (own_at q1) (own_nn q1) (by omega) g1 (c1.toInt8.toInt32) (own_i2b _)
    have K102 : Keep h0 h102 [a1] := (Keep.refl h0 ([a1] : List Addr)).wr W102 (Or.inl (List.mem_of_getElem? (i := 0) rfl))
    replace k := k.aloadN d12_13 rfl rfl
    replace k := k.iloadN d12_14 rfl
    replace k := k.iloadN d12_15 rfl
    replace k := k.iadd d12_16
    replace k := k.iconst (1 : Int32) d12_17 rfl
    replace k := k.isub d12_18
    replace k := k.iload d12_19 rfl
    replace k := k.i2b d12_21
    obtain ⟨h103, W103, A103, k⟩ := k.bastore d12_22 (own_bfA A102) (P + SS - 1) (own_at q2) (own_nn q2) (by omega) g1 (c2.toInt8.toInt32) (own_i2b _)
    have K103 : Keep h0 h103 [a1] := K102.wr W103 (Or.inl (List.mem_of_getElem? (i := 0) rfl))
    exact k.vret d12_23 rfl ⟨rfl, K103, _, (own_bfA A103), (own_derU (own_derU hD (own_b8 _)) (own_b8 _)), fun j hj => by simp only [own_up]; repeat (rw [if_neg (by omega)])⟩ (by decide) (by decide)
  · skip
    replace k := k.icmpYes (pc' := 23) d12_2 (flt hc101).2.2.2 (by decide) (by decide)
    exact k.vret d12_23 rfl ⟨rfl, (Keep.refl h0 ([a1] : List Addr)), _, A1, hD, fun j hj => by rfl⟩ (by decide) (by decide)

theorem d6_0 : decode prog_10_method_4_code 0 = .ok (.iload_n 1, 1) := by decide +kernel
theorem d6_1 : decode prog_10_method_4_code 1 = .ok (.iconst 2, 1) := by decide +kernel
theorem d6_2 : decode prog_10_method_4_code 2 = .ok (.iadd, 1) := by decide +kernel
theorem d6_3 : decode prog_10_method_4_code 3 = .ok (.aload_n 0, 1) := by decide +kernel
theorem d6_4 : decode prog_10_method_4_code 4 = .ok (.arraylength, 1) := by decide +kernel
theorem d6_5 : decode prog_10_method_4_code 5 = .ok (.if_icmp .le 13, 3) := by decide +kernel
theorem d6_18 : decode prog_10_method_4_code 18 = .ok (.aload_n 0, 1) := by decide +kernel
theorem d6_19 : decode prog_10_method_4_code 19 = .ok (.iload_n 1, 1) := by decide +kernel
theorem d6_20 : decode prog_10_method_4_code 20 = .ok (.iconst 1, 1) := by decide +kernel
theorem d6_21 : decode prog_10_method_4_code 21 = .ok (.iadd, 1) := by decide +kernel
theorem d6_22 : decode prog_10_method_4_code 22 = .ok (.baload, 1) := by decide +kernel
theorem d6_23 : decode prog_10_method_4_code 23 = .ok (.sipush 255, 3) := by decide +kernel
theorem d6_26 : decode prog_10_method_4_code 26 = .ok (.iand, 1) := by decide +kernel
theorem d6_27 : decode prog_10_method_4_code 27 = .ok (.istore_n 2, 1) := by decide +kernel
theorem d6_28 : decode prog_10_method_4_code 28 = .ok (.iload_n 1, 1) := by decide +kernel
theorem d6_29 : decode prog_10_method_4_code 29 = .ok (.iconst 2, 1) := by decide +kernel
theorem d6_30 : decode prog_10_method_4_code 30 = .ok (.iadd, 1) := by decide +kernel
theorem d6_31 : decode prog_10_method_4_code 31 = .ok (.istore_n 3, 1) := by decide +kernel
theorem d6_32 : decode prog_10_method_4_code 32 = .ok (.iload_n 2, 1) := by decide +kernel
theorem d6_33 : decode prog_10_method_4_code 33 = .ok (.sipush 128, 3) := by decide +kernel
theorem d6_36 : decode prog_10_method_4_code 36 = .ok (.if_icmp .le 77, 3) := by decide +kernel
theorem d6_39 : decode prog_10_method_4_code 39 = .ok (.iload_n 2, 1) := by decide +kernel
theorem d6_40 : decode prog_10_method_4_code 40 = .ok (.sipush 128, 3) := by decide +kernel
theorem d6_43 : decode prog_10_method_4_code 43 = .ok (.isub, 1) := by decide +kernel
theorem d6_44 : decode prog_10_method_4_code 44 = .ok (.istore 4, 2) := by decide +kernel
theorem d6_46 : decode prog_10_method_4_code 46 = .ok (.iload 4, 2) := by decide +kernel
theorem d6_48 : decode prog_10_method_4_code 48 = .ok (.iconst 3, 1) := by decide +kernel
theorem d6_49 : decode prog_10_method_4_code 49 = .ok (.if_icmp .gt 12, 3) := by decide +kernel
theorem d6_52 : decode prog_10_method_4_code 52 = .ok (.iload_n 3, 1) := by decide +kernel
theorem d6_53 : decode prog_10_method_4_code 53 = .ok (.iload 4, 2) := by decide +kernel
theorem d6_55 : decode prog_10_method_4_code 55 = .ok (.iadd, 1) := by decide +kernel
theorem d6_56 : decode prog_10_method_4_code 56 = .ok (.aload_n 0, 1) := by decide +kernel
theorem d6_57 : decode prog_10_method_4_code 57 = .ok (.arraylength, 1) := by decide +kernel
theorem d6_58 : decode prog_10_method_4_code 58 = .ok (.if_icmp .le 13, 3) := by decide +kernel
theorem d6_71 : decode prog_10_method_4_code 71 = .ok (.iconst 0, 1) := by decide +kernel
theorem d6_72 : decode prog_10_method_4_code 72 = .ok (.istore_n 2, 1) := by decide +kernel
theorem d6_73 : decode prog_10_method_4_code 73 = .ok (.iconst 0, 1) := by decide +kernel
theorem d6_74 : decode prog_10_method_4_code 74 = .ok (.istore 5, 2) := by decide +kernel
theorem d6_76 : decode prog_10_method_4_code 76 = .ok (.iload 5, 2) := by decide +kernel
theorem d6_78 : decode prog_10_method_4_code 78 = .ok (.iload 4, 2) := by decide +kernel
theorem d6_80 : decode prog_10_method_4_code 80 = .ok (.if_icmp .ge 25, 3) := by decide +kernel
theorem d6_83 : decode prog_10_method_4_code 83 = .ok (.iload_n 2, 1) := by decide +kernel
theorem d6_84 : decode prog_10_method_4_code 84 = .ok (.bipush 8, 2) := by decide +kernel
theorem d6_86 : decode prog_10_method_4_code 86 = .ok (.ishl, 1) := by decide +kernel
theorem d6_87 : decode prog_10_method_4_code 87 = .ok (.aload_n 0, 1) := by decide +kernel
theorem d6_88 : decode prog_10_method_4_code 88 = .ok (.iload_n 3, 1) := by decide +kernel
theorem d6_89 : decode prog_10_method_4_code 89 = .ok (.iload 5, 2) := by decide +kernel
theorem d6_91 : decode prog_10_method_4_code 91 = .ok (.iadd, 1) := by decide +kernel
theorem d6_92 : decode prog_10_method_4_code 92 = .ok (.baload, 1) := by decide +kernel
theorem d6_93 : decode prog_10_method_4_code 93 = .ok (.sipush 255, 3) := by decide +kernel
theorem d6_96 : decode prog_10_method_4_code 96 = .ok (.iand, 1) := by decide +kernel
theorem d6_97 : decode prog_10_method_4_code 97 = .ok (.ior, 1) := by decide +kernel
theorem d6_98 : decode prog_10_method_4_code 98 = .ok (.istore_n 2, 1) := by decide +kernel
theorem d6_99 : decode prog_10_method_4_code 99 = .ok (.iinc 5 1, 3) := by decide +kernel
theorem d6_102 : decode prog_10_method_4_code 102 = .ok (.goto (-26), 3) := by decide +kernel
theorem d6_105 : decode prog_10_method_4_code 105 = .ok (.iload_n 3, 1) := by decide +kernel
theorem d6_106 : decode prog_10_method_4_code 106 = .ok (.iload 4, 2) := by decide +kernel
theorem d6_108 : decode prog_10_method_4_code 108 = .ok (.iadd, 1) := by decide +kernel
theorem d6_109 : decode prog_10_method_4_code 109 = .ok (.istore_n 3, 1) := by decide +kernel
theorem d6_110 : decode prog_10_method_4_code 110 = .ok (.goto 20, 3) := by decide +kernel
theorem d6_113 : decode prog_10_method_4_code 113 = .ok (.iload_n 2, 1) := by decide +kernel
theorem d6_114 : decode prog_10_method_4_code 114 = .ok (.sipush 128, 3) := by decide +kernel
theorem d6_117 : decode prog_10_method_4_code 117 = .ok (.if_icmp .ne 13, 3) := by decide +kernel
theorem d6_130 : decode prog_10_method_4_code 130 = .ok (.iload_n 3, 1) := by decide +kernel
theorem d6_131 : decode prog_10_method_4_code 131 = .ok (.iload_n 2, 1) := by decide +kernel
theorem d6_132 : decode prog_10_method_4_code 132 = .ok (.iadd, 1) := by decide +kernel
theorem d6_133 : decode prog_10_method_4_code 133 = .ok (.aload_n 0, 1) := by decide +kernel
theorem d6_134 : decode prog_10_method_4_code 134 = .ok (.arraylength, 1) := by decide +kernel
theorem d6_135 : decode prog_10_method_4_code 135 = .ok (.if_icmp .le 13, 3) := by decide +kernel
theorem d6_148 : decode prog_10_method_4_code 148 = .ok (.iconst 2, 1) := by decide +kernel
theorem d6_149 : decode prog_10_method_4_code 149 = .ok (.newarray .int, 2) := by decide +kernel
theorem d6_151 : decode prog_10_method_4_code 151 = .ok (.dup, 1) := by decide +kernel
theorem d6_152 : decode prog_10_method_4_code 152 = .ok (.iconst 0, 1) := by decide +kernel
theorem d6_153 : decode prog_10_method_4_code 153 = .ok (.iload_n 3, 1) := by decide +kernel
theorem d6_154 : decode prog_10_method_4_code 154 = .ok (.iastore, 1) := by decide +kernel
theorem d6_155 : decode prog_10_method_4_code 155 = .ok (.dup, 1) := by decide +kernel
theorem d6_156 : decode prog_10_method_4_code 156 = .ok (.iconst 1, 1) := by decide +kernel
theorem d6_157 : decode prog_10_method_4_code 157 = .ok (.iload_n 3, 1) := by decide +kernel
theorem d6_158 : decode prog_10_method_4_code 158 = .ok (.iload_n 2, 1) := by decide +kernel
theorem d6_159 : decode prog_10_method_4_code 159 = .ok (.iadd, 1) := by decide +kernel
theorem d6_160 : decode prog_10_method_4_code 160 = .ok (.iastore, 1) := by decide +kernel
theorem d6_161 : decode prog_10_method_4_code 161 = .ok (.areturn, 1) := by decide +kernel
set_option maxRecDepth 65536 in
set_option maxHeartbeats 40000000 in
theorem rm6 (Z : State) (a0 : Array Value) (hw : ∀ d ∈ tables_1, d.before a0 Z = true) (a1 : Addr) (p form len : Int32) (P FN LL : Nat) (G : Nat → Int32) (h0 : Heap) (n0 : Nat) (Z0 : n0 ≤ h0.size) (A1 : Arf Z h0 a1 .byte 800 (own_bf G)) (hp : p.toInt = (P : Int)) (hh : own_hdr G P form len) (hfm : own_fm form FN LL) (hl : len.toInt = (LL : Int)) (hB : P + 5 + LL ≤ 800) :
    Con Z n0 (⟨"com/example/vidare/vidare/core/Der", "contents", "([BI)[I"⟩ : MethodName) prog_10_method_4_code 6 (some (.array .int)) [] ({ frames := 0, cells := 1, slots := 2, locals := 0 } : Room) #[(.ref a1), (.int p)] h0 (fun v h => ∃ b q e, v = some (.ref b) ∧ Keep h0 h [] ∧ h0.size ≤ b ∧ Arf Z h b .int 2 (own_ar2 q e) ∧ q.toInt = ((P + 2 + FN : Nat) : Int) ∧ e.toInt = ((P + 2 + FN + LL : Nat) : Int)) := by
  refine Con.intro (L0 := #[.val (.ref a1), .val (.int p), .unset, .unset, .unset, .unset]) (plainFor_of_name (by first | (simp [plainName, overriddenIn]; done) | decide +kernel)) (fun m => by first | (simp [entryFrame, mkF, argsToLocals, Value.category]; done) | rfl) ?_
  intro C k
  rcases hh with ⟨rfl, e1⟩ | ⟨rfl, e1, e2⟩ | ⟨rfl, e1, e2, e3⟩ | ⟨rfl, e1, e2, e3, e4⟩
  · skip
    have hF : FN = 0 := by
      have z : (0 : Int32).toInt = 0 := by decide
      have := hfm.1
      omega
    subst hF
    have q1 : (p + (1 : Int32)).toInt = ((P + 1 : Nat) : Int) := own_ad hp (by decide) (by omega)
    have q2 : (p + (2 : Int32)).toInt = ((P + 2 : Nat) : Int) := own_ad hp (by decide) (by omega)
    have hb := hfm.2.2.1 rfl
    have qe : ((p + (2 : Int32)) + len).toInt = ((P + 2 + 0 + LL : Nat) : Int) := own_ad q2 hl (by omega)
    replace k := k.iloadN d6_0 rfl
    replace k := k.iconst (2 : Int32) d6_1 rfl
    replace k := k.iadd d6_2
    replace k := k.aloadN d6_3 rfl rfl
    replace k := k.arrlen d6_4 A1 (800 : Int32) (by decide)
    replace k := k.icmpYes (pc' := 18) d6_5 (flt (own_nlt (A := 800) (by decide) q2 (by omega))).2.2.2 (by decide) (by decide)
    replace k := k.aloadN d6_18 rfl rfl
    replace k := k.iloadN d6_19 rfl
    replace k := k.iconst (1 : Int32) d6_20 rfl
    replace k := k.iadd d6_21
    replace k := k.baload d6_22 A1  (P + 1) (own_at q1) (own_nn q1) (by omega) (.int (len.toInt8.toInt32)) (congrArg Value.int e1)
    replace k := k.sipush (255 : Int32) d6_23 rfl
    replace k := k.iand d6_26
    replace k := k.foldI len (own_l8 hl hb)
    replace k := k.istoreN #[.val (.ref a1), .val (.int p), .val (.int len), .unset, .unset, .unset] d6_27 rfl
    replace k := k.iloadN d6_28 rfl
    replace k := k.iconst (2 : Int32) d6_29 rfl
    replace k := k.iadd d6_30
    replace k := k.istoreN #[.val (.ref a1), .val (.int p), .val (.int len), .val (.int (p + (2 : Int32))), .unset, .unset] d6_31 rfl
    replace k := k.iloadN d6_32 rfl
    replace k := k.sipush (128 : Int32) d6_33 rfl
    replace k := k.icmpYes (pc' := 113) d6_36 (flt (own_nlt (A := 128) (by decide) hl (by omega))).2.2.2 (by decide) (by decide)
    replace k := k.iloadN d6_113 rfl
    replace k := k.sipush (128 : Int32) d6_114 rfl
    replace k := k.icmpYes (pc' := 130) d6_117 (feq (own_neN (B := 128) hl (by decide) (by omega))).2 (by decide) (by decide)
    replace k := k.iloadN d6_130 rfl
    replace k := k.iloadN d6_131 rfl
    replace k := k.iadd d6_132
    replace k := k.aloadN d6_133 rfl rfl
    replace k := k.arrlen d6_134 A1 (800 : Int32) (by decide)
    replace k := k.icmpYes (pc' := 148) d6_135 (flt (own_nlt (A := 800) (by decide) qe (by omega))).2.2.2 (by decide) (by decide)
    replace k := k.iconst (2 : Int32) d6_148 rfl
    obtain ⟨h101, b101, g101, E101, A101, X101, k⟩ := k.newarr (ad := "[I") d6_149 (hw _ (List.mem_of_getElem? (i := 22) rfl)) (by decide) 2 (by decide) 2 (by decide) (by decide) (by decide) (by decide) (by decide)
    have ge_b101 : n0 ≤ b101 := Nat.le_trans Z0 (Nat.le_of_eq g101.symm)
    have sz_b101 : h0.size ≤ b101 := Nat.le_trans (Keep.refl h0 ([] : List Addr)).1 (Nat.le_of_eq g101.symm)
    have K101 : Keep h0 h101 [] := (Keep.refl h0 ([] : List Addr)).ext E101
    replace k := k.dup d6_151 rfl
    replace k := k.iconst (0 : Int32) d6_152 rfl
    replace k := k.iloadN d6_153 rfl
    obtain ⟨h102, W102, A102, k⟩ := k.iastore d6_154 A101 0 (by decide) (by decide) (by decide) ge_b101
    have K102 : Keep h0 h102 [] := K101.wr W102 (Or.inr sz_b101)
    replace k := k.dup d6_155 rfl
    replace k := k.iconst (1 : Int32) d6_156 rfl
    replace k := k.iloadN d6_157 rfl
    replace k := k.iloadN d6_158 rfl
    replace k := k.iadd d6_159
    obtain ⟨h103, W103, A103, k⟩ := k.iastore d6_160 A102 1 (by decide) (by decide) (by decide) ge_b101
    have K103 : Keep h0 h103 [] := K102.wr W103 (Or.inr sz_b101)
    exact k.aret d6_161 rfl rfl rfl rfl ⟨_, _, _, rfl, K103, sz_b101, A103.congr (fun i hi => own_cg2 i hi), q2, qe⟩ (by decide) (by decide)
  · skip
    have hF : FN = 1 := by
      have z : (1 : Int32).toInt = 1 := by decide
      have := hfm.1
      omega
    subst hF
    have q1 : (p + (1 : Int32)).toInt = ((P + 1 : Nat) : Int) := own_ad hp (by decide) (by omega)
    have q2 : (p + (2 : Int32)).toInt = ((P + 2 : Nat) : Int) := own_ad hp (by decide) (by omega)
    have qF : ((p + (2 : Int32)) + (1 : Int32)).toInt = ((P + 2 + 1 : Nat) : Int) := own_ad q2 (by decide) (by omega)
    have r0 : ((p + (2 : Int32)) + (0 : Int32)).toInt = ((P + 2 : Nat) : Int) := (own_ad q2 (B := 0) (by decide) (by omega)).trans (by omega)
    have hb := hfm.2.2.2.1 rfl
    have qe : (((p + (2 : Int32)) + (1 : Int32)) + len).toInt = ((P + 2 + 1 + LL : Nat) : Int) := own_ad qF hl (by omega)
    replace k := k.iloadN d6_0 rfl
    replace k := k.iconst (2 : Int32) d6_1 rfl
    replace k := k.iadd d6_2
    replace k := k.aloadN d6_3 rfl rfl
    replace k := k.arrlen d6_4 A1 (800 : Int32) (by decide)
    replace k := k.icmpYes (pc' := 18) d6_5 (flt (own_nlt (A := 800) (by decide) q2 (by omega))).2.2.2 (by decide) (by decide)
    replace k := k.aloadN d6_18 rfl rfl
    replace k := k.iloadN d6_19 rfl
    replace k := k.iconst (1 : Int32) d6_20 rfl
    replace k := k.iadd d6_21
    replace k := k.baload d6_22 A1  (P + 1) (own_at q1) (own_nn q1) (by omega) (.int (-127 : Int32)) (congrArg Value.int e1)
    replace k := k.sipush (255 : Int32) d6_23 rfl
    replace k := k.iand d6_26
    replace k := k.foldI (129 : Int32) (by decide)
    replace k := k.istoreN #[.val (.ref a1), .val (.int p), .val (.int (129 : Int32)), .unset, .unset, .unset] d6_27 rfl
    replace k := k.iloadN d6_28 rfl
    replace k := k.iconst (2 : Int32) d6_29 rfl
    replace k := k.iadd d6_30
    replace k := k.istoreN #[.val (.ref a1), .val (.int p), .val (.int (129 : Int32)), .val (.int (p + (2 : Int32))), .unset, .unset] d6_31 rfl
    replace k := k.iloadN d6_32 rfl
    replace k := k.sipush (128 : Int32) d6_33 rfl
    replace k := k.icmpNo d6_36 (by decide)
    replace k := k.iloadN d6_39 rfl
    replace k := k.sipush (128 : Int32) d6_40 rfl
    replace k := k.isub d6_43
    replace k := k.foldI (1 : Int32) (by decide)
    replace k := k.istore #[.val (.ref a1), .val (.int p), .val (.int (129 : Int32)), .val (.int (p + (2 : Int32))), .val (.int (1 : Int32)), .unset] d6_44 rfl
    replace k := k.iload d6_46 rfl
    replace k := k.iconst (3 : Int32) d6_48 rfl
    replace k := k.icmpNo d6_49 (by decide)
    replace k := k.iloadN d6_52 rfl
    replace k := k.iload d6_53 rfl
    replace k := k.iadd d6_55
    replace k := k.aloadN d6_56 rfl rfl
    replace k := k.arrlen d6_57 A1 (800 : Int32) (by decide)
    replace k := k.icmpYes (pc' := 71) d6_58 (flt (own_nlt (A := 800) (by decide) qF (by omega))).2.2.2 (by decide) (by decide)
    replace k := k.iconst (0 : Int32) d6_71 rfl
    replace k := k.istoreN #[.val (.ref a1), .val (.int p), .val (.int (0 : Int32)), .val (.int (p + (2 : Int32))), .val (.int (1 : Int32)), .unset] d6_72 rfl
    replace k := k.iconst (0 : Int32) d6_73 rfl
    replace k := k.istore #[.val (.ref a1), .val (.int p), .val (.int (0 : Int32)), .val (.int (p + (2 : Int32))), .val (.int (1 : Int32)), .val (.int (0 : Int32))] d6_74 rfl
    replace k := k.iload d6_76 rfl
    replace k := k.iload d6_78 rfl
    replace k := k.icmpNo d6_80 (by decide)
    replace k := k.iloadN d6_83 rfl
    replace k := k.bipush (8 : Int32) d6_84 rfl
    replace k := k.ishl d6_86
    replace k := k.foldI (0 : Int32) (by decide)
    replace k := k.aloadN d6_87 rfl rfl
    replace k := k.iloadN d6_88 rfl
    replace k := k.iload d6_89 rfl
    replace k := k.iadd d6_91
    replace k := k.baload d6_92 A1  (P + 2) (own_at r0) (own_nn r0) (by omega) (.int (len.toInt8.toInt32)) (congrArg Value.int e2)
    replace k := k.sipush (255 : Int32) d6_93 rfl
    replace k := k.iand d6_96
    replace k := k.ior d6_97
    replace k := k.istoreN #[.val (.ref a1), .val (.int p), .val (.int ((0 : Int32) ||| ((len.toInt8.toInt32) &&& (255 : Int32)))), .val (.int (p + (2 : Int32))), .val (.int (1 : Int32)), .val (.int (0 : Int32))] d6_98 rfl
    replace k := k.iinc (1 : Int32) #[.val (.ref a1), .val (.int p), .val (.int ((0 : Int32) ||| ((len.toInt8.toInt32) &&& (255 : Int32)))), .val (.int (p + (2 : Int32))), .val (.int (1 : Int32)), .val (.int ((0 : Int32) + (1 : Int32)))] d6_99 rfl rfl rfl
    replace k := k.loc #[.val (.ref a1), .val (.int p), .val (.int ((0 : Int32) ||| ((len.toInt8.toInt32) &&& (255 : Int32)))), .val (.int (p + (2 : Int32))), .val (.int (1 : Int32)), .val (.int (1 : Int32))] (by rfl)
    replace k := k.goto (pc' := 76) d6_102 (by decide) (by decide)
    replace k := k.iload d6_76 rfl
    replace k := k.iload d6_78 rfl
    replace k := k.icmpYes (pc' := 105) d6_80 (by decide) (by decide) (by decide)
    replace k := k.loc #[.val (.ref a1), .val (.int p), .val (.int len), .val (.int (p + (2 : Int32))), .val (.int (1 : Int32)), .val (.int (1 : Int32))] (by rw [own_acc1 hl hb])
    replace k := k.iloadN d6_105 rfl
    replace k := k.iload d6_106 rfl
    replace k := k.iadd d6_108
    replace k := k.istoreN #[.val (.ref a1), .val (.int p), .val (.int len), .val (.int ((p + (2 : Int32)) + (1 : Int32))), .val (.int (1 : Int32)), .val (.int (1 : Int32))] d6_109 rfl
    replace k := k.goto (pc' := 130) d6_110 (by decide) (by decide)
    replace k := k.iloadN d6_130 rfl
    replace k := k.iloadN d6_131 rfl
    replace k := k.iadd d6_132
    replace k := k.aloadN d6_133 rfl rfl
    replace k := k.arrlen d6_134 A1 (800 : Int32) (by decide)
    replace k := k.icmpYes (pc' := 148) d6_135 (flt (own_nlt (A := 800) (by decide) qe (by omega))).2.2.2 (by decide) (by decide)
    replace k := k.iconst (2 : Int32) d6_148 rfl
    obtain ⟨h104, b104, g104, E104, A104, X104, k⟩ := k.newarr (ad := "[I") d6_149 (hw _ (List.mem_of_getElem? (i := 22) rfl)) (by decide) 2 (by decide) 2 (by decide) (by decide) (by decide) (by decide) (by decide)
    have ge_b104 : n0 ≤ b104 := Nat.le_trans Z0 (Nat.le_of_eq g104.symm)
    have sz_b104 : h0.size ≤ b104 := Nat.le_trans (Keep.refl h0 ([] : List Addr)).1 (Nat.le_of_eq g104.symm)
    have K104 : Keep h0 h104 [] := (Keep.refl h0 ([] : List Addr)).ext E104
    replace k := k.dup d6_151 rfl
    replace k := k.iconst (0 : Int32) d6_152 rfl
    replace k := k.iloadN d6_153 rfl
    obtain ⟨h105, W105, A105, k⟩ := k.iastore d6_154 A104 0 (by decide) (by decide) (by decide) ge_b104
    have K105 : Keep h0 h105 [] := K104.wr W105 (Or.inr sz_b104)
    replace k := k.dup d6_155 rfl
    replace k := k.iconst (1 : Int32) d6_156 rfl
    replace k := k.iloadN d6_157 rfl
    replace k := k.iloadN d6_158 rfl
    replace k := k.iadd d6_159
    obtain ⟨h106, W106, A106, k⟩ := k.iastore d6_160 A105 1 (by decide) (by decide) (by decide) ge_b104
    have K106 : Keep h0 h106 [] := K105.wr W106 (Or.inr sz_b104)
    exact k.aret d6_161 rfl rfl rfl rfl ⟨_, _, _, rfl, K106, sz_b104, A106.congr (fun i hi => own_cg2 i hi), qF, qe⟩ (by decide) (by decide)
  · skip
    have hF : FN = 2 := by
      have z : (2 : Int32).toInt = 2 := by decide
      have := hfm.1
      omega
    subst hF
    have q1 : (p + (1 : Int32)).toInt = ((P + 1 : Nat) : Int) := own_ad hp (by decide) (by omega)
    have q2 : (p + (2 : Int32)).toInt = ((P + 2 : Nat) : Int) := own_ad hp (by decide) (by omega)
    have qF : ((p + (2 : Int32)) + (2 : Int32)).toInt = ((P + 2 + 2 : Nat) : Int) := own_ad q2 (by decide) (by omega)
    have r0 : ((p + (2 : Int32)) + (0 : Int32)).toInt = ((P + 2 : Nat) : Int) := (own_ad q2 (B := 0) (by decide) (by omega)).trans (by omega)
    have r1 : ((p + (2 : Int32)) + (1 : Int32)).toInt = ((P + 3 : Nat) : Int) := (own_ad q2 (B := 1) (by decide) (by omega)).trans (by omega)
    have hb := hfm.2.2.2.2
    have qe : (((p + (2 : Int32)) + (2 : Int32)) + len).toInt = ((P + 2 + 2 + LL : Nat) : Int) := own_ad qF hl (by omega)
    replace k := k.iloadN d6_0 rfl
    replace k := k.iconst (2 : Int32) d6_1 rfl
    replace k := k.iadd d6_2
    replace k := k.aloadN d6_3 rfl rfl
    replace k := k.arrlen d6_4 A1 (800 : Int32) (by decide)
    replace k := k.icmpYes (pc' := 18) d6_5 (flt (own_nlt (A := 800) (by decide) q2 (by omega))).2.2.2 (by decide) (by decide)
    replace k := k.aloadN d6_18 rfl rfl
    replace k := k.iloadN d6_19 rfl
    replace k := k.iconst (1 : Int32) d6_20 rfl
    replace k := k.iadd d6_21
    replace k := k.baload d6_22 A1  (P + 1) (own_at q1) (own_nn q1) (by omega) (.int (-126 : Int32)) (congrArg Value.int e1)
    replace k := k.sipush (255 : Int32) d6_23 rfl
    replace k := k.iand d6_26
    replace k := k.foldI (130 : Int32) (by decide)
    replace k := k.istoreN #[.val (.ref a1), .val (.int p), .val (.int (130 : Int32)), .unset, .unset, .unset] d6_27 rfl
    replace k := k.iloadN d6_28 rfl
    replace k := k.iconst (2 : Int32) d6_29 rfl
    replace k := k.iadd d6_30
    replace k := k.istoreN #[.val (.ref a1), .val (.int p), .val (.int (130 : Int32)), .val (.int (p + (2 : Int32))), .unset, .unset] d6_31 rfl
    replace k := k.iloadN d6_32 rfl
    replace k := k.sipush (128 : Int32) d6_33 rfl
    replace k := k.icmpNo d6_36 (by decide)
    replace k := k.iloadN d6_39 rfl
    replace k := k.sipush (128 : Int32) d6_40 rfl
    replace k := k.isub d6_43
    replace k := k.foldI (2 : Int32) (by decide)
    replace k := k.istore #[.val (.ref a1), .val (.int p), .val (.int (130 : Int32)), .val (.int (p + (2 : Int32))), .val (.int (2 : Int32)), .unset] d6_44 rfl
    replace k := k.iload d6_46 rfl
    replace k := k.iconst (3 : Int32) d6_48 rfl
    replace k := k.icmpNo d6_49 (by decide)
    replace k := k.iloadN d6_52 rfl
    replace k := k.iload d6_53 rfl
    replace k := k.iadd d6_55
    replace k := k.aloadN d6_56 rfl rfl
    replace k := k.arrlen d6_57 A1 (800 : Int32) (by decide)
    replace k := k.icmpYes (pc' := 71) d6_58 (flt (own_nlt (A := 800) (by decide) qF (by omega))).2.2.2 (by decide) (by decide)
    replace k := k.iconst (0 : Int32) d6_71 rfl
    replace k := k.istoreN #[.val (.ref a1), .val (.int p), .val (.int (0 : Int32)), .val (.int (p + (2 : Int32))), .val (.int (2 : Int32)), .unset] d6_72 rfl
    replace k := k.iconst (0 : Int32) d6_73 rfl
    replace k := k.istore #[.val (.ref a1), .val (.int p), .val (.int (0 : Int32)), .val (.int (p + (2 : Int32))), .val (.int (2 : Int32)), .val (.int (0 : Int32))] d6_74 rfl
    replace k := k.iload d6_76 rfl
    replace k := k.iload d6_78 rfl
    replace k := k.icmpNo d6_80 (by decide)
    replace k := k.iloadN d6_83 rfl
    replace k := k.bipush (8 : Int32) d6_84 rfl
    replace k := k.ishl d6_86
    replace k := k.foldI (0 : Int32) (by decide)
    replace k := k.aloadN d6_87 rfl rfl
    replace k := k.iloadN d6_88 rfl
    replace k := k.iload d6_89 rfl
    replace k := k.iadd d6_91
    replace k := k.baload d6_92 A1  (P + 2) (own_at r0) (own_nn r0) (by omega) (.int (((len.toUInt32 >>> ((8 : Int32) &&& 31).toUInt32).toInt32).toInt8.toInt32)) (congrArg Value.int e2)
    replace k := k.sipush (255 : Int32) d6_93 rfl
    replace k := k.iand d6_96
    replace k := k.ior d6_97
    replace k := k.istoreN #[.val (.ref a1), .val (.int p), .val (.int ((0 : Int32) ||| ((((len.toUInt32 >>> ((8 : Int32) &&& 31).toUInt32).toInt32).toInt8.toInt32) &&& (255 : Int32)))), .val (.int (p + (2 : Int32))), .val (.int (2 : Int32)), .val (.int (0 : Int32))] d6_98 rfl
    replace k := k.iinc (1 : Int32) #[.val (.ref a1), .val (.int p), .val (.int ((0 : Int32) ||| ((((len.toUInt32 >>> ((8 : Int32) &&& 31).toUInt32).toInt32).toInt8.toInt32) &&& (255 : Int32)))), .val (.int (p + (2 : Int32))), .val (.int (2 : Int32)), .val (.int ((0 : Int32) + (1 : Int32)))] d6_99 rfl rfl rfl
    replace k := k.loc #[.val (.ref a1), .val (.int p), .val (.int ((0 : Int32) ||| ((((len.toUInt32 >>> ((8 : Int32) &&& 31).toUInt32).toInt32).toInt8.toInt32) &&& (255 : Int32)))), .val (.int (p + (2 : Int32))), .val (.int (2 : Int32)), .val (.int (1 : Int32))] (by rfl)
    replace k := k.goto (pc' := 76) d6_102 (by decide) (by decide)
    replace k := k.iload d6_76 rfl
    replace k := k.iload d6_78 rfl
    replace k := k.icmpNo d6_80 (by decide)
    replace k := k.iloadN d6_83 rfl
    replace k := k.bipush (8 : Int32) d6_84 rfl
    replace k := k.ishl d6_86
    replace k := k.aloadN d6_87 rfl rfl
    replace k := k.iloadN d6_88 rfl
    replace k := k.iload d6_89 rfl
    replace k := k.iadd d6_91
    replace k := k.baload d6_92 A1  (P + 3) (own_at r1) (own_nn r1) (by omega) (.int (len.toInt8.toInt32)) (congrArg Value.int e3)
    replace k := k.sipush (255 : Int32) d6_93 rfl
    replace k := k.iand d6_96
    replace k := k.ior d6_97
    replace k := k.istoreN #[.val (.ref a1), .val (.int p), .val (.int ((((0 : Int32) ||| ((((len.toUInt32 >>> ((8 : Int32) &&& 31).toUInt32).toInt32).toInt8.toInt32) &&& (255 : Int32))) <<< ((8 : Int32) &&& 31)) ||| ((len.toInt8.toInt32) &&& (255 : Int32)))), .val (.int (p + (2 : Int32))), .val (.int (2 : Int32)), .val (.int (1 : Int32))] d6_98 rfl
    replace k := k.iinc (1 : Int32) #[.val (.ref a1), .val (.int p), .val (.int ((((0 : Int32) ||| ((((len.toUInt32 >>> ((8 : Int32) &&& 31).toUInt32).toInt32).toInt8.toInt32) &&& (255 : Int32))) <<< ((8 : Int32) &&& 31)) ||| ((len.toInt8.toInt32) &&& (255 : Int32)))), .val (.int (p + (2 : Int32))), .val (.int (2 : Int32)), .val (.int ((1 : Int32) + (1 : Int32)))] d6_99 rfl rfl rfl
    replace k := k.loc #[.val (.ref a1), .val (.int p), .val (.int ((((0 : Int32) ||| ((((len.toUInt32 >>> ((8 : Int32) &&& 31).toUInt32).toInt32).toInt8.toInt32) &&& (255 : Int32))) <<< ((8 : Int32) &&& 31)) ||| ((len.toInt8.toInt32) &&& (255 : Int32)))), .val (.int (p + (2 : Int32))), .val (.int (2 : Int32)), .val (.int (2 : Int32))] (by rfl)
    replace k := k.goto (pc' := 76) d6_102 (by decide) (by decide)
    replace k := k.iload d6_76 rfl
    replace k := k.iload d6_78 rfl
    replace k := k.icmpYes (pc' := 105) d6_80 (by decide) (by decide) (by decide)
    replace k := k.loc #[.val (.ref a1), .val (.int p), .val (.int len), .val (.int (p + (2 : Int32))), .val (.int (2 : Int32)), .val (.int (2 : Int32))] (by rw [own_acc2 hl hb])
    replace k := k.iloadN d6_105 rfl
    replace k := k.iload d6_106 rfl
    replace k := k.iadd d6_108
    replace k := k.istoreN #[.val (.ref a1), .val (.int p), .val (.int len), .val (.int ((p + (2 : Int32)) + (2 : Int32))), .val (.int (2 : Int32)), .val (.int (2 : Int32))] d6_109 rfl
    replace k := k.goto (pc' := 130) d6_110 (by decide) (by decide)
    replace k := k.iloadN d6_130 rfl
    replace k := k.iloadN d6_131 rfl
    replace k := k.iadd d6_132
    replace k := k.aloadN d6_133 rfl rfl
    replace k := k.arrlen d6_134 A1 (800 : Int32) (by decide)
    replace k := k.icmpYes (pc' := 148) d6_135 (flt (own_nlt (A := 800) (by decide) qe (by omega))).2.2.2 (by decide) (by decide)
    replace k := k.iconst (2 : Int32) d6_148 rfl
    obtain ⟨h107, b107, g107, E107, A107, X107, k⟩ := k.newarr (ad := "[I") d6_149 (hw _ (List.mem_of_getElem? (i := 22) rfl)) (by decide) 2 (by decide) 2 (by decide) (by decide) (by decide) (by decide) (by decide)
    have ge_b107 : n0 ≤ b107 := Nat.le_trans Z0 (Nat.le_of_eq g107.symm)
    have sz_b107 : h0.size ≤ b107 := Nat.le_trans (Keep.refl h0 ([] : List Addr)).1 (Nat.le_of_eq g107.symm)
    have K107 : Keep h0 h107 [] := (Keep.refl h0 ([] : List Addr)).ext E107
    replace k := k.dup d6_151 rfl
    replace k := k.iconst (0 : Int32) d6_152 rfl
    replace k := k.iloadN d6_153 rfl
    obtain ⟨h108, W108, A108, k⟩ := k.iastore d6_154 A107 0 (by decide) (by decide) (by decide) ge_b107
    have K108 : Keep h0 h108 [] := K107.wr W108 (Or.inr sz_b107)
    replace k := k.dup d6_155 rfl
    replace k := k.iconst (1 : Int32) d6_156 rfl
    replace k := k.iloadN d6_157 rfl
    replace k := k.iloadN d6_158 rfl
    replace k := k.iadd d6_159
    obtain ⟨h109, W109, A109, k⟩ := k.iastore d6_160 A108 1 (by decide) (by decide) (by decide) ge_b107
    have K109 : Keep h0 h109 [] := K108.wr W109 (Or.inr sz_b107)
    exact k.aret d6_161 rfl rfl rfl rfl ⟨_, _, _, rfl, K109, sz_b107, A109.congr (fun i hi => own_cg2 i hi), qF, qe⟩ (by decide) (by decide)
  · skip
    have hF : FN = 3 := by
      have z : (3 : Int32).toInt = 3 := by decide
      have := hfm.1
      omega
    subst hF
    have q1 : (p + (1 : Int32)).toInt = ((P + 1 : Nat) : Int) := own_ad hp (by decide) (by omega)
    have q2 : (p + (2 : Int32)).toInt = ((P + 2 : Nat) : Int) := own_ad hp (by decide) (by omega)
    have qF : ((p + (2 : Int32)) + (3 : Int32)).toInt = ((P + 2 + 3 : Nat) : Int) := own_ad q2 (by decide) (by omega)
    have r0 : ((p + (2 : Int32)) + (0 : Int32)).toInt = ((P + 2 : Nat) : Int) := (own_ad q2 (B := 0) (by decide) (by omega)).trans (by omega)
    have r1 : ((p + (2 : Int32)) + (1 : Int32)).toInt = ((P + 3 : Nat) : Int) := (own_ad q2 (B := 1) (by decide) (by omega)).trans (by omega)
    have r2 : ((p + (2 : Int32)) + (2 : Int32)).toInt = ((P + 4 : Nat) : Int) := (own_ad q2 (B := 2) (by decide) (by omega)).trans (by omega)
    have hb := hfm.2.2.2.2
    have qe : (((p + (2 : Int32)) + (3 : Int32)) + len).toInt = ((P + 2 + 3 + LL : Nat) : Int) := own_ad qF hl (by omega)
    replace k := k.iloadN d6_0 rfl
    replace k := k.iconst (2 : Int32) d6_1 rfl
    replace k := k.iadd d6_2
    replace k := k.aloadN d6_3 rfl rfl
    replace k := k.arrlen d6_4 A1 (800 : Int32) (by decide)
    replace k := k.icmpYes (pc' := 18) d6_5 (flt (own_nlt (A := 800) (by decide) q2 (by omega))).2.2.2 (by decide) (by decide)
    replace k := k.aloadN d6_18 rfl rfl
    replace k := k.iloadN d6_19 rfl
    replace k := k.iconst (1 : Int32) d6_20 rfl
    replace k := k.iadd d6_21
    replace k := k.baload d6_22 A1  (P + 1) (own_at q1) (own_nn q1) (by omega) (.int (-125 : Int32)) (congrArg Value.int e1)
    replace k := k.sipush (255 : Int32) d6_23 rfl
    replace k := k.iand d6_26
    replace k := k.foldI (131 : Int32) (by decide)
    replace k := k.istoreN #[.val (.ref a1), .val (.int p), .val (.int (131 : Int32)), .unset, .unset, .unset] d6_27 rfl
    replace k := k.iloadN d6_28 rfl
    replace k := k.iconst (2 : Int32) d6_29 rfl
    replace k := k.iadd d6_30
    replace k := k.istoreN #[.val (.ref a1), .val (.int p), .val (.int (131 : Int32)), .val (.int (p + (2 : Int32))), .unset, .unset] d6_31 rfl
    replace k := k.iloadN d6_32 rfl
    replace k := k.sipush (128 : Int32) d6_33 rfl
    replace k := k.icmpNo d6_36 (by decide)
    replace k := k.iloadN d6_39 rfl
    replace k := k.sipush (128 : Int32) d6_40 rfl
    replace k := k.isub d6_43
    replace k := k.foldI (3 : Int32) (by decide)
    replace k := k.istore #[.val (.ref a1), .val (.int p), .val (.int (131 : Int32)), .val (.int (p + (2 : Int32))), .val (.int (3 : Int32)), .unset] d6_44 rfl
    replace k := k.iload d6_46 rfl
    replace k := k.iconst (3 : Int32) d6_48 rfl
    replace k := k.icmpNo d6_49 (by decide)
    replace k := k.iloadN d6_52 rfl
    replace k := k.iload d6_53 rfl
    replace k := k.iadd d6_55
    replace k := k.aloadN d6_56 rfl rfl
    replace k := k.arrlen d6_57 A1 (800 : Int32) (by decide)
    replace k := k.icmpYes (pc' := 71) d6_58 (flt (own_nlt (A := 800) (by decide) qF (by omega))).2.2.2 (by decide) (by decide)
    replace k := k.iconst (0 : Int32) d6_71 rfl
    replace k := k.istoreN #[.val (.ref a1), .val (.int p), .val (.int (0 : Int32)), .val (.int (p + (2 : Int32))), .val (.int (3 : Int32)), .unset] d6_72 rfl
    replace k := k.iconst (0 : Int32) d6_73 rfl
    replace k := k.istore #[.val (.ref a1), .val (.int p), .val (.int (0 : Int32)), .val (.int (p + (2 : Int32))), .val (.int (3 : Int32)), .val (.int (0 : Int32))] d6_74 rfl
    replace k := k.iload d6_76 rfl
    replace k := k.iload d6_78 rfl
    replace k := k.icmpNo d6_80 (by decide)
    replace k := k.iloadN d6_83 rfl
    replace k := k.bipush (8 : Int32) d6_84 rfl
    replace k := k.ishl d6_86
    replace k := k.foldI (0 : Int32) (by decide)
    replace k := k.aloadN d6_87 rfl rfl
    replace k := k.iloadN d6_88 rfl
    replace k := k.iload d6_89 rfl
    replace k := k.iadd d6_91
    replace k := k.baload d6_92 A1  (P + 2) (own_at r0) (own_nn r0) (by omega) (.int (((len.toUInt32 >>> ((16 : Int32) &&& 31).toUInt32).toInt32).toInt8.toInt32)) (congrArg Value.int e2)
    replace k := k.sipush (255 : Int32) d6_93 rfl
    replace k := k.iand d6_96
    replace k := k.ior d6_97
    replace k := k.istoreN #[.val (.ref a1), .val (.int p), .val (.int ((0 : Int32) ||| ((((len.toUInt32 >>> ((16 : Int32) &&& 31).toUInt32).toInt32).toInt8.toInt32) &&& (255 : Int32)))), .val (.int (p + (2 : Int32))), .val (.int (3 : Int32)), .val (.int (0 : Int32))] d6_98 rfl
    replace k := k.iinc (1 : Int32) #[.val (.ref a1), .val (.int p), .val (.int ((0 : Int32) ||| ((((len.toUInt32 >>> ((16 : Int32) &&& 31).toUInt32).toInt32).toInt8.toInt32) &&& (255 : Int32)))), .val (.int (p + (2 : Int32))), .val (.int (3 : Int32)), .val (.int ((0 : Int32) + (1 : Int32)))] d6_99 rfl rfl rfl
    replace k := k.loc #[.val (.ref a1), .val (.int p), .val (.int ((0 : Int32) ||| ((((len.toUInt32 >>> ((16 : Int32) &&& 31).toUInt32).toInt32).toInt8.toInt32) &&& (255 : Int32)))), .val (.int (p + (2 : Int32))), .val (.int (3 : Int32)), .val (.int (1 : Int32))] (by rfl)
    replace k := k.goto (pc' := 76) d6_102 (by decide) (by decide)
    replace k := k.iload d6_76 rfl
    replace k := k.iload d6_78 rfl
    replace k := k.icmpNo d6_80 (by decide)
    replace k := k.iloadN d6_83 rfl
    replace k := k.bipush (8 : Int32) d6_84 rfl
    replace k := k.ishl d6_86
    replace k := k.aloadN d6_87 rfl rfl
    replace k := k.iloadN d6_88 rfl
    replace k := k.iload d6_89 rfl
    replace k := k.iadd d6_91
    replace k := k.baload d6_92 A1  (P + 3) (own_at r1) (own_nn r1) (by omega) (.int (((len.toUInt32 >>> ((8 : Int32) &&& 31).toUInt32).toInt32).toInt8.toInt32)) (congrArg Value.int e3)
    replace k := k.sipush (255 : Int32) d6_93 rfl
    replace k := k.iand d6_96
    replace k := k.ior d6_97
    replace k := k.istoreN #[.val (.ref a1), .val (.int p), .val (.int ((((0 : Int32) ||| ((((len.toUInt32 >>> ((16 : Int32) &&& 31).toUInt32).toInt32).toInt8.toInt32) &&& (255 : Int32))) <<< ((8 : Int32) &&& 31)) ||| ((((len.toUInt32 >>> ((8 : Int32) &&& 31).toUInt32).toInt32).toInt8.toInt32) &&& (255 : Int32)))), .val (.int (p + (2 : Int32))), .val (.int (3 : Int32)), .val (.int (1 : Int32))] d6_98 rfl
    replace k := k.iinc (1 : Int32) #[.val (.ref a1), .val (.int p), .val (.int ((((0 : Int32) ||| ((((len.toUInt32 >>> ((16 : Int32) &&& 31).toUInt32).toInt32).toInt8.toInt32) &&& (255 : Int32))) <<< ((8 : Int32) &&& 31)) ||| ((((len.toUInt32 >>> ((8 : Int32) &&& 31).toUInt32).toInt32).toInt8.toInt32) &&& (255 : Int32)))), .val (.int (p + (2 : Int32))), .val (.int (3 : Int32)), .val (.int ((1 : Int32) + (1 : Int32)))] d6_99 rfl rfl rfl
    replace k := k.loc #[.val (.ref a1), .val (.int p), .val (.int ((((0 : Int32) ||| ((((len.toUInt32 >>> ((16 : Int32) &&& 31).toUInt32).toInt32).toInt8.toInt32) &&& (255 : Int32))) <<< ((8 : Int32) &&& 31)) ||| ((((len.toUInt32 >>> ((8 : Int32) &&& 31).toUInt32).toInt32).toInt8.toInt32) &&& (255 : Int32)))), .val (.int (p + (2 : Int32))), .val (.int (3 : Int32)), .val (.int (2 : Int32))] (by rfl)
    replace k := k.goto (pc' := 76) d6_102 (by decide) (by decide)
    replace k := k.iload d6_76 rfl
    replace k := k.iload d6_78 rfl
    replace k := k.icmpNo d6_80 (by decide)
    replace k := k.iloadN d6_83 rfl
    replace k := k.bipush (8 : Int32) d6_84 rfl
    replace k := k.ishl d6_86
    replace k := k.aloadN d6_87 rfl rfl
    replace k := k.iloadN d6_88 rfl
    replace k := k.iload d6_89 rfl
    replace k := k.iadd d6_91
    replace k := k.baload d6_92 A1  (P + 4) (own_at r2) (own_nn r2) (by omega) (.int (len.toInt8.toInt32)) (congrArg Value.int e4)
    replace k := k.sipush (255 : Int32) d6_93 rfl
    replace k := k.iand d6_96
    replace k := k.ior d6_97
    replace k := k.istoreN #[.val (.ref a1), .val (.int p), .val (.int ((((((0 : Int32) ||| ((((len.toUInt32 >>> ((16 : Int32) &&& 31).toUInt32).toInt32).toInt8.toInt32) &&& (255 : Int32))) <<< ((8 : Int32) &&& 31)) ||| ((((len.toUInt32 >>> ((8 : Int32) &&& 31).toUInt32).toInt32).toInt8.toInt32) &&& (255 : Int32))) <<< ((8 : Int32) &&& 31)) ||| ((len.toInt8.toInt32) &&& (255 : Int32)))), .val (.int (p + (2 : Int32))), .val (.int (3 : Int32)), .val (.int (2 : Int32))] d6_98 rfl
    replace k := k.iinc (1 : Int32) #[.val (.ref a1), .val (.int p), .val (.int ((((((0 : Int32) ||| ((((len.toUInt32 >>> ((16 : Int32) &&& 31).toUInt32).toInt32).toInt8.toInt32) &&& (255 : Int32))) <<< ((8 : Int32) &&& 31)) ||| ((((len.toUInt32 >>> ((8 : Int32) &&& 31).toUInt32).toInt32).toInt8.toInt32) &&& (255 : Int32))) <<< ((8 : Int32) &&& 31)) ||| ((len.toInt8.toInt32) &&& (255 : Int32)))), .val (.int (p + (2 : Int32))), .val (.int (3 : Int32)), .val (.int ((2 : Int32) + (1 : Int32)))] d6_99 rfl rfl rfl
    replace k := k.loc #[.val (.ref a1), .val (.int p), .val (.int ((((((0 : Int32) ||| ((((len.toUInt32 >>> ((16 : Int32) &&& 31).toUInt32).toInt32).toInt8.toInt32) &&& (255 : Int32))) <<< ((8 : Int32) &&& 31)) ||| ((((len.toUInt32 >>> ((8 : Int32) &&& 31).toUInt32).toInt32).toInt8.toInt32) &&& (255 : Int32))) <<< ((8 : Int32) &&& 31)) ||| ((len.toInt8.toInt32) &&& (255 : Int32)))), .val (.int (p + (2 : Int32))), .val (.int (3 : Int32)), .val (.int (3 : Int32))] (by rfl)
    replace k := k.goto (pc' := 76) d6_102 (by decide) (by decide)
    replace k := k.iload d6_76 rfl
    replace k := k.iload d6_78 rfl
    replace k := k.icmpYes (pc' := 105) d6_80 (by decide) (by decide) (by decide)
    replace k := k.loc #[.val (.ref a1), .val (.int p), .val (.int len), .val (.int (p + (2 : Int32))), .val (.int (3 : Int32)), .val (.int (3 : Int32))] (by rw [own_acc3 hl hb])
    replace k := k.iloadN d6_105 rfl
    replace k := k.iload d6_106 rfl
    replace k := k.iadd d6_108
    replace k := k.istoreN #[.val (.ref a1), .val (.int p), .val (.int len), .val (.int ((p + (2 : Int32)) + (3 : Int32))), .val (.int (3 : Int32)), .val (.int (3 : Int32))] d6_109 rfl
    replace k := k.goto (pc' := 130) d6_110 (by decide) (by decide)
    replace k := k.iloadN d6_130 rfl
    replace k := k.iloadN d6_131 rfl
    replace k := k.iadd d6_132
    replace k := k.aloadN d6_133 rfl rfl
    replace k := k.arrlen d6_134 A1 (800 : Int32) (by decide)
    replace k := k.icmpYes (pc' := 148) d6_135 (flt (own_nlt (A := 800) (by decide) qe (by omega))).2.2.2 (by decide) (by decide)
    replace k := k.iconst (2 : Int32) d6_148 rfl
    obtain ⟨h110, b110, g110, E110, A110, X110, k⟩ := k.newarr (ad := "[I") d6_149 (hw _ (List.mem_of_getElem? (i := 22) rfl)) (by decide) 2 (by decide) 2 (by decide) (by decide) (by decide) (by decide) (by decide)
    have ge_b110 : n0 ≤ b110 := Nat.le_trans Z0 (Nat.le_of_eq g110.symm)
    have sz_b110 : h0.size ≤ b110 := Nat.le_trans (Keep.refl h0 ([] : List Addr)).1 (Nat.le_of_eq g110.symm)
    have K110 : Keep h0 h110 [] := (Keep.refl h0 ([] : List Addr)).ext E110
    replace k := k.dup d6_151 rfl
    replace k := k.iconst (0 : Int32) d6_152 rfl
    replace k := k.iloadN d6_153 rfl
    obtain ⟨h111, W111, A111, k⟩ := k.iastore d6_154 A110 0 (by decide) (by decide) (by decide) ge_b110
    have K111 : Keep h0 h111 [] := K110.wr W111 (Or.inr sz_b110)
    replace k := k.dup d6_155 rfl
    replace k := k.iconst (1 : Int32) d6_156 rfl
    replace k := k.iloadN d6_157 rfl
    replace k := k.iloadN d6_158 rfl
    replace k := k.iadd d6_159
    obtain ⟨h112, W112, A112, k⟩ := k.iastore d6_160 A111 1 (by decide) (by decide) (by decide) ge_b110
    have K112 : Keep h0 h112 [] := K111.wr W112 (Or.inr sz_b110)
    exact k.aret d6_161 rfl rfl rfl rfl ⟨_, _, _, rfl, K112, sz_b110, A112.congr (fun i hi => own_cg2 i hi), qF, qe⟩ (by decide) (by decide)

theorem d9_0 : decode jdk_22_method_1_code 0 = .ok (.aload_n 0, 1) := by decide +kernel
theorem d9_1 : decode jdk_22_method_1_code 1 = .ok (.invokespecial 1, 3) := by decide +kernel
theorem d9_4 : decode jdk_22_method_1_code 4 = .ok (.return_, 1) := by decide +kernel
set_option maxRecDepth 65536 in
set_option maxHeartbeats 40000000 in
theorem rm9 (Z : State) (a0 : Array Value) (hw : ∀ d ∈ tables_1, d.before a0 Z = true) (a1 : Addr) (h0 : Heap) (n0 : Nat)  :
    Con Z n0 (⟨"java/util/AbstractCollection", "<init>", "()V"⟩ : MethodName) jdk_22_method_1_code 1 none [] ({ frames := 1, cells := 0, slots := 0, locals := 12 } : Room) #[(.ref a1)] h0 (fun v h => v = none ∧ h0 = h) := by
  refine Con.intro (L0 := #[.val (.ref a1)]) (plainFor_of_name (by first | (simp [plainName, overriddenIn]; done) | decide +kernel)) (fun m => by first | (simp [entryFrame, mkF, argsToLocals, Value.category]; done) | rfl) ?_
  intro C k
  replace k := k.aloadN d9_0 rfl rfl
  replace k := k.initO (W := 0) d9_1 (hw _ (List.mem_of_getElem? (i := 41) rfl)) (hw _ (List.mem_of_getElem? (i := 42) rfl)) (hw _ (List.mem_of_getElem? (i := 43) rfl)) rfl rfl (by decide) (by decide)
  exact k.vret d9_4 rfl ⟨rfl, rfl⟩ (by decide) (by decide)

theorem d8_0 : decode jdk_39_method_1_code 0 = .ok (.aload_n 0, 1) := by decide +kernel
theorem d8_1 : decode jdk_39_method_1_code 1 = .ok (.invokespecial 1, 3) := by decide +kernel
theorem d8_4 : decode jdk_39_method_1_code 4 = .ok (.aload_n 0, 1) := by decide +kernel
theorem d8_5 : decode jdk_39_method_1_code 5 = .ok (.iconst 0, 1) := by decide +kernel
theorem d8_6 : decode jdk_39_method_1_code 6 = .ok (.putfield 7, 3) := by decide +kernel
theorem d8_9 : decode jdk_39_method_1_code 9 = .ok (.return_, 1) := by decide +kernel
set_option maxRecDepth 65536 in
set_option maxHeartbeats 40000000 in
theorem rm8 (Z : State) (a0 : Array Value) (hw : ∀ d ∈ tables_1, d.before a0 Z = true) (a1 : Addr) (h0 : Heap) (n0 : Nat) (Z0 : n0 ≤ h0.size) (g1 : n0 ≤ a1) (E1 : Exa Z h0 a1 "java/util/ArrayList") (F1 : Fld Z h0 a1 "java/util/AbstractList" "modCount" "I" (.int (0 : Int32))) (F2 : Fld Z h0 a1 "java/util/ArrayList" "elementData" "[Ljava/lang/Object;" .null) (F3 : Fld Z h0 a1 "java/util/ArrayList" "size" "I" (.int (0 : Int32))) :
    Con Z n0 (⟨"java/util/AbstractList", "<init>", "()V"⟩ : MethodName) jdk_39_method_1_code 1 none [] ({ frames := 2, cells := 0, slots := 0, locals := 24 } : Room) #[(.ref a1)] h0 (fun v h => v = none ∧ Keep h0 h [a1] ∧ Fld Z h a1 "java/util/AbstractList" "modCount" "I" (.int (0 : Int32)) ∧ Fld Z h a1 "java/util/ArrayList" "elementData" "[Ljava/lang/Object;" .null ∧ Fld Z h a1 "java/util/ArrayList" "size" "I" (.int (0 : Int32))) := by
  refine Con.intro (L0 := #[.val (.ref a1)]) (plainFor_of_name (by first | (simp [plainName, overriddenIn]; done) | decide +kernel)) (fun m => by first | (simp [entryFrame, mkF, argsToLocals, Value.category]; done) | rfl) ?_
  intro C k
  replace k := k.aloadN d8_0 rfl rfl
  obtain ⟨_, _, ⟨rfl, rfl⟩, k⟩ := k.callI (y := (⟨"java/util/AbstractCollection", "<init>", "()V"⟩ : MethodName)) (a := a1) d8_1 rfl (hw _ (List.mem_of_getElem? (i := 35) rfl)) (hw _ (List.mem_of_getElem? (i := 36) rfl)) (hw _ (List.mem_of_getElem? (i := 39) rfl)) (hw _ (List.mem_of_getElem? (i := 40) rfl)) (W := 0) (argsL := []) (rest := []) (rm9 Z a0 hw a1 h0 n0) rfl (pd_0) rfl rfl rfl (by decide) (by decide) (by decide) (by decide) (by decide)
  replace k := k.stk [] rfl
  replace k := k.aloadN d8_4 rfl rfl
  replace k := k.iconst (0 : Int32) d8_5 rfl
  obtain ⟨h101, W101, k⟩ := k.putF d8_6 (host := "") (Or.inl (hw _ (List.mem_of_getElem? (i := 44) rfl))) Via.refl F1 E1 (Or.inl (hw _ (List.mem_of_getElem? (i := 45) rfl))) (hw _ (List.mem_of_getElem? (i := 24) rfl)) (ty := .int) (by decide) rfl rfl g1
  have Fw101 := Fld.same W101 F1
  have K101 : Keep h0 h101 [a1] := (Keep.refl h0 ([a1] : List Addr)).wr W101 (Or.inl (List.mem_of_getElem? (i := 0) rfl))
  exact k.vret d8_9 rfl ⟨rfl, K101, Fw101, (Fld.other W101 F2 (Or.inr (slot_ne (Or.inl (hw _ (List.mem_of_getElem? (i := 48) rfl))) (Or.inl (hw _ (List.mem_of_getElem? (i := 45) rfl))) (by decide) (t := (.array (.object "java/lang/Object"))) (t' := .int) (by decide) (by decide)))), (Fld.other W101 F3 (Or.inr (slot_ne (Or.inl (hw _ (List.mem_of_getElem? (i := 59) rfl))) (Or.inl (hw _ (List.mem_of_getElem? (i := 45) rfl))) (by decide) (t := .int) (t' := .int) (by decide) (by decide))))⟩ (by decide) (by decide)

theorem d7_0 : decode jdk_38_method_2_code 0 = .ok (.aload_n 0, 1) := by decide +kernel
theorem d7_1 : decode jdk_38_method_2_code 1 = .ok (.invokespecial 1, 3) := by decide +kernel
theorem d7_4 : decode jdk_38_method_2_code 4 = .ok (.aload_n 0, 1) := by decide +kernel
theorem d7_5 : decode jdk_38_method_2_code 5 = .ok (.getstatic 39, 3) := by decide +kernel
theorem d7_8 : decode jdk_38_method_2_code 8 = .ok (.putfield 9, 3) := by decide +kernel
theorem d7_11 : decode jdk_38_method_2_code 11 = .ok (.return_, 1) := by decide +kernel
set_option maxRecDepth 65536 in
set_option maxHeartbeats 40000000 in
theorem rm7 (Z : State) (a0 : Array Value) (hw : ∀ d ∈ tables_1, d.before a0 Z = true) (a1 aD : Addr) (h0 : Heap) (n0 : Nat) (Z0 : n0 ≤ h0.size) (g1 : n0 ≤ a1) (E1 : Exa Z h0 a1 "java/util/ArrayList") (F1 : Fld Z h0 a1 "java/util/AbstractList" "modCount" "I" (.int (0 : Int32))) (F2 : Fld Z h0 a1 "java/util/ArrayList" "elementData" "[Ljava/lang/Object;" .null) (F3 : Fld Z h0 a1 "java/util/ArrayList" "size" "I" (.int (0 : Int32))) (S_D : Sta Z h0 "java/util/ArrayList" "DEFAULTCAPACITY_EMPTY_ELEMENTDATA" "[Ljava/lang/Object;" (.ref aD)) :
    Con Z n0 (⟨"java/util/ArrayList", "<init>", "()V"⟩ : MethodName) jdk_38_method_2_code 1 none [] ({ frames := 3, cells := 0, slots := 0, locals := 36 } : Room) #[(.ref a1)] h0 (fun v h => v = none ∧ Keep h0 h [a1] ∧ Fld Z h a1 "java/util/AbstractList" "modCount" "I" (.int (0 : Int32)) ∧ Fld Z h a1 "java/util/ArrayList" "elementData" "[Ljava/lang/Object;" (.ref aD) ∧ Fld Z h a1 "java/util/ArrayList" "size" "I" (.int (0 : Int32))) := by
  refine Con.intro (L0 := #[.val (.ref a1)]) (plainFor_of_name (by first | (simp [plainName, overriddenIn]; done) | decide +kernel)) (fun m => by first | (simp [entryFrame, mkF, argsToLocals, Value.category]; done) | rfl) ?_
  intro C k
  replace k := k.aloadN d7_0 rfl rfl
  obtain ⟨_, hi101, ⟨rfl, Ki101, Fmi101, Fei101, Fsi101⟩, k⟩ := k.callI (y := (⟨"java/util/AbstractList", "<init>", "()V"⟩ : MethodName)) (a := a1) d7_1 rfl (hw _ (List.mem_of_getElem? (i := 29) rfl)) (hw _ (List.mem_of_getElem? (i := 30) rfl)) (hw _ (List.mem_of_getElem? (i := 33) rfl)) (hw _ (List.mem_of_getElem? (i := 34) rfl)) (W := 0) (argsL := []) (rest := []) (rm8 Z a0 hw a1 h0 n0 Z0 g1 E1 F1 F2 F3) rfl (pd_0) rfl rfl rfl (by decide) (by decide) (by decide) (by decide) (by decide)
  have Kc102 : Keep h0 hi101 [a1] := (Keep.refl h0 ([a1] : List Addr)).trans Ki101 (allS (Or.inl (List.mem_of_getElem? (i := 0) rfl)) all0)
  replace k := k.stk [] rfl
  replace k := k.aloadN d7_4 rfl rfl
  replace k := k.getS d7_5 (host := "") (Or.inl (hw _ (List.mem_of_getElem? (i := 46) rfl))) Via.refl (Sta.keepN S_D Ki101 (allS (Exa.nost E1) all0))
  obtain ⟨h103, W103, k⟩ := k.putF d7_8 (host := "") (Or.inl (hw _ (List.mem_of_getElem? (i := 47) rfl))) Via.refl Fei101 (E1.keep Ki101) (Or.inl (hw _ (List.mem_of_getElem? (i := 48) rfl))) (hw _ (List.mem_of_getElem? (i := 24) rfl)) (ty := (.array (.object "java/lang/Object"))) (by decide) rfl rfl g1
  have Fw103 := Fld.same W103 Fei101
  have K103 : Keep h0 h103 [a1] := Kc102.wr W103 (Or.inl (List.mem_of_getElem? (i := 0) rfl))
  exact k.vret d7_11 rfl ⟨rfl, K103, (Fld.other W103 Fmi101 (Or.inr (slot_ne (Or.inl (hw _ (List.mem_of_getElem? (i := 45) rfl))) (Or.inl (hw _ (List.mem_of_getElem? (i := 48) rfl))) (by decide) (t := .int) (t' := (.array (.object "java/lang/Object"))) (by decide) (by decide)))), Fw103, (Fld.other W103 Fsi101 (Or.inr (slot_ne (Or.inl (hw _ (List.mem_of_getElem? (i := 59) rfl))) (Or.inl (hw _ (List.mem_of_getElem? (i := 48) rfl))) (by decide) (t := .int) (t' := (.array (.object "java/lang/Object"))) (by decide) (by decide))))⟩ (by decide) (by decide)

theorem d20_0 : decode jdk_38_method_6_code 0 = .ok (.aload_n 0, 1) := by decide +kernel
theorem d20_1 : decode jdk_38_method_6_code 1 = .ok (.getfield 9, 3) := by decide +kernel
theorem d20_4 : decode jdk_38_method_6_code 4 = .ok (.arraylength, 1) := by decide +kernel
theorem d20_5 : decode jdk_38_method_6_code 5 = .ok (.istore_n 2, 1) := by decide +kernel
theorem d20_6 : decode jdk_38_method_6_code 6 = .ok (.iload_n 2, 1) := by decide +kernel
theorem d20_7 : decode jdk_38_method_6_code 7 = .ok (.ifCond .gt 13, 3) := by decide +kernel
theorem d20_10 : decode jdk_38_method_6_code 10 = .ok (.aload_n 0, 1) := by decide +kernel
theorem d20_11 : decode jdk_38_method_6_code 11 = .ok (.getfield 9, 3) := by decide +kernel
theorem d20_14 : decode jdk_38_method_6_code 14 = .ok (.getstatic 39, 3) := by decide +kernel
theorem d20_17 : decode jdk_38_method_6_code 17 = .ok (.if_acmp .eq 28, 3) := by decide +kernel
theorem d20_45 : decode jdk_38_method_6_code 45 = .ok (.aload_n 0, 1) := by decide +kernel
theorem d20_46 : decode jdk_38_method_6_code 46 = .ok (.bipush 10, 2) := by decide +kernel
theorem d20_48 : decode jdk_38_method_6_code 48 = .ok (.iload_n 1, 1) := by decide +kernel
theorem d20_49 : decode jdk_38_method_6_code 49 = .ok (.invokestatic 79, 3) := by decide +kernel
theorem d20_52 : decode jdk_38_method_6_code 52 = .ok (.anewarray 7, 3) := by decide +kernel
theorem d20_55 : decode jdk_38_method_6_code 55 = .ok (.dup_x1, 1) := by decide +kernel
theorem d20_56 : decode jdk_38_method_6_code 56 = .ok (.putfield 9, 3) := by decide +kernel
theorem d20_59 : decode jdk_38_method_6_code 59 = .ok (.areturn, 1) := by decide +kernel
set_option maxRecDepth 65536 in
set_option maxHeartbeats 40000000 in
theorem rm20 (Z : State) (a0 : Array Value) (hw : ∀ d ∈ tables_1, d.before a0 Z = true) (a1 aD : Addr) (m : Int32) (fD : Nat → Value) (h0 : Heap) (n0 : Nat) (Z0 : n0 ≤ h0.size) (g1 : n0 ≤ a1) (E1 : Exa Z h0 a1 "java/util/ArrayList") (F1 : Fld Z h0 a1 "java/util/AbstractList" "modCount" "I" (.int m)) (F2 : Fld Z h0 a1 "java/util/ArrayList" "elementData" "[Ljava/lang/Object;" (.ref aD)) (F3 : Fld Z h0 a1 "java/util/ArrayList" "size" "I" (.int (0 : Int32))) (S_D : Sta Z h0 "java/util/ArrayList" "DEFAULTCAPACITY_EMPTY_ELEMENTDATA" "[Ljava/lang/Object;" (.ref aD)) (A_D : Arf Z h0 aD (.object "java/lang/Object") 0 fD) (neD : aD ≠ a1) :
    Con Z n0 (⟨"java/util/ArrayList", "grow", "(I)[Ljava/lang/Object;"⟩ : MethodName) jdk_38_method_6_code 4 (some (.array (.object "java/lang/Object"))) [] ({ frames := 1, cells := 1, slots := 10, locals := 14 } : Room) #[(.ref a1), (.int (1 : Int32))] h0 (fun v h => ∃ d, v = some (.ref d) ∧ Keep h0 h [a1] ∧ h0.size ≤ d ∧ n0 ≤ d ∧ Fld Z h a1 "java/util/AbstractList" "modCount" "I" (.int m) ∧ Fld Z h a1 "java/util/ArrayList" "elementData" "[Ljava/lang/Object;" (.ref d) ∧ Fld Z h a1 "java/util/ArrayList" "size" "I" (.int (0 : Int32)) ∧ Arf Z h d (.object "java/lang/Object") 10 (fun _ => .null) ∧ Ova Z h d "java/lang/Object") := by
  refine Con.intro (L0 := #[.val (.ref a1), .val (.int (1 : Int32)), .unset, .unset]) (plainFor_of_name (by first | (simp [plainName, overriddenIn]; done) | decide +kernel)) (fun m => by first | (simp [entryFrame, mkF, argsToLocals, Value.category]; done) | rfl) ?_
  intro C k
  replace k := k.aloadN d20_0 rfl rfl
  replace k := k.getF d20_1 (host := "") (Or.inl (hw _ (List.mem_of_getElem? (i := 47) rfl))) Via.refl F2
  replace k := k.arrlen d20_4 A_D (0 : Int32) (by decide)
  replace k := k.istoreN #[.val (.ref a1), .val (.int (1 : Int32)), .val (.int (0 : Int32)), .unset] d20_5 rfl
  replace k := k.iloadN d20_6 rfl
  replace k := k.ifNo d20_7 (by decide)
  replace k := k.aloadN d20_10 rfl rfl
  replace k := k.getF d20_11 (host := "") (Or.inl (hw _ (List.mem_of_getElem? (i := 47) rfl))) Via.refl F2
  replace k := k.getS d20_14 (host := "") (Or.inl (hw _ (List.mem_of_getElem? (i := 46) rfl))) Via.refl S_D
  replace k := k.acmpYes (pc' := 45) d20_17 rfl rfl (ac_eq rfl).1 (by decide) (by decide)
  replace k := k.aloadN d20_45 rfl rfl
  replace k := k.bipush (10 : Int32) d20_46 rfl
  replace k := k.iloadN d20_48 rfl
  obtain ⟨_, _, ⟨rfl, rfl⟩, k⟩ := k.callS (y := (⟨"java/lang/Math", "max", "(II)I"⟩ : MethodName)) d20_49 (hw _ (List.mem_of_getElem? (i := 102) rfl)) (hw _ (List.mem_of_getElem? (i := 8) rfl)) (hw _ (List.mem_of_getElem? (i := 9) rfl)) (hw _ (List.mem_of_getElem? (i := 10) rfl)) (W := 1) (argsL := [(.int (10 : Int32)), (.int (1 : Int32))]) (rest := [(.ref a1)]) (rm3 Z a0 hw (10 : Int32) (1 : Int32) h0 n0) rfl (pd_1) rfl rfl rfl (by decide) (by decide) (by decide) (by decide) (by decide)
  replace k := k.stk [(.int (own_mx (10 : Int32) (1 : Int32))), (.ref a1)] rfl
  replace k := k.stk [(.int (10 : Int32)), (.ref a1)] rfl
  obtain ⟨h101, b101, g101, E101, A101, X101, O101, k⟩ := k.anewarr (ad := "[Ljava/lang/Object;") d20_52 (hw _ (List.mem_of_getElem? (i := 103) rfl)) (hw _ (List.mem_of_getElem? (i := 104) rfl)) (by decide) 10 (by decide) 10 (by decide) (by decide) (by decide) (by decide) (by decide)
  have ge_b101 : n0 ≤ b101 := Nat.le_trans Z0 (Nat.le_of_eq g101.symm)
  have sz_b101 : h0.size ≤ b101 := Nat.le_trans (Keep.refl h0 ([a1] : List Addr)).1 (Nat.le_of_eq g101.symm)
  have K101 : Keep h0 h101 [a1] := (Keep.refl h0 ([a1] : List Addr)).ext E101
  replace k := k.dupX1 d20_55 rfl rfl
  obtain ⟨h102, W102, k⟩ := k.putF d20_56 (host := "") (Or.inl (hw _ (List.mem_of_getElem? (i := 47) rfl))) Via.refl (Fld.ext E101 F2) (Exa.ext E101 E1) (Or.inl (hw _ (List.mem_of_getElem? (i := 48) rfl))) (hw _ (List.mem_of_getElem? (i := 24) rfl)) (ty := (.array (.object "java/lang/Object"))) (by decide) rfl rfl g1
  have Fw102 := Fld.same W102 (Fld.ext E101 F2)
  have K102 : Keep h0 h102 [a1] := K101.wr W102 (Or.inl (List.mem_of_getElem? (i := 0) rfl))
  exact k.aret d20_59 rfl rfl rfl rfl ⟨_, rfl, K102, sz_b101, ge_b101, (Fld.other W102 (Fld.ext E101 F1) (Or.inr (slot_ne (Or.inl (hw _ (List.mem_of_getElem? (i := 45) rfl))) (Or.inl (hw _ (List.mem_of_getElem? (i := 48) rfl))) (by decide) (t := .int) (t' := (.array (.object "java/lang/Object"))) (by decide) (by decide)))), Fw102, (Fld.other W102 (Fld.ext E101 F3) (Or.inr (slot_ne (Or.inl (hw _ (List.mem_of_getElem? (i := 59) rfl))) (Or.inl (hw _ (List.mem_of_getElem? (i := 48) rfl))) (by decide) (t := .int) (t' := (.array (.object "java/lang/Object"))) (by decide) (by decide)))), (A101.other W102 (Ne.symm (Nat.ne_of_lt (Nat.lt_of_lt_of_le E1.lt (Nat.le_of_eq g101.symm))))), (Ova.wr W102 O101)⟩ (by decide) (by decide)

theorem d19_0 : decode jdk_38_method_7_code 0 = .ok (.aload_n 0, 1) := by decide +kernel
theorem d19_1 : decode jdk_38_method_7_code 1 = .ok (.aload_n 0, 1) := by decide +kernel
theorem d19_2 : decode jdk_38_method_7_code 2 = .ok (.getfield 48, 3) := by decide +kernel
theorem d19_5 : decode jdk_38_method_7_code 5 = .ok (.iconst 1, 1) := by decide +kernel
theorem d19_6 : decode jdk_38_method_7_code 6 = .ok (.iadd, 1) := by decide +kernel
theorem d19_7 : decode jdk_38_method_7_code 7 = .ok (.invokevirtual 69, 3) := by decide +kernel
theorem d19_10 : decode jdk_38_method_7_code 10 = .ok (.areturn, 1) := by decide +kernel
set_option maxRecDepth 65536 in
set_option maxHeartbeats 40000000 in
theorem rm19 (Z : State) (a0 : Array Value) (hw : ∀ d ∈ tables_1, d.before a0 Z = true) (a1 aD : Addr) (m : Int32) (fD : Nat → Value) (h0 : Heap) (n0 : Nat) (Z0 : n0 ≤ h0.size) (g1 : n0 ≤ a1) (E1 : Exa Z h0 a1 "java/util/ArrayList") (F1 : Fld Z h0 a1 "java/util/AbstractList" "modCount" "I" (.int m)) (F2 : Fld Z h0 a1 "java/util/ArrayList" "elementData" "[Ljava/lang/Object;" (.ref aD)) (F3 : Fld Z h0 a1 "java/util/ArrayList" "size" "I" (.int (0 : Int32))) (S_D : Sta Z h0 "java/util/ArrayList" "DEFAULTCAPACITY_EMPTY_ELEMENTDATA" "[Ljava/lang/Object;" (.ref aD)) (A_D : Arf Z h0 aD (.object "java/lang/Object") 0 fD) (neD : aD ≠ a1) :
    Con Z n0 (⟨"java/util/ArrayList", "grow", "()[Ljava/lang/Object;"⟩ : MethodName) jdk_38_method_7_code 1 (some (.array (.object "java/lang/Object"))) [] ({ frames := 2, cells := 1, slots := 10, locals := 29 } : Room) #[(.ref a1)] h0 (fun v h => ∃ d, v = some (.ref d) ∧ Keep h0 h [a1] ∧ h0.size ≤ d ∧ n0 ≤ d ∧ Fld Z h a1 "java/util/AbstractList" "modCount" "I" (.int m) ∧ Fld Z h a1 "java/util/ArrayList" "elementData" "[Ljava/lang/Object;" (.ref d) ∧ Fld Z h a1 "java/util/ArrayList" "size" "I" (.int (0 : Int32)) ∧ Arf Z h d (.object "java/lang/Object") 10 (fun _ => .null) ∧ Ova Z h d "java/lang/Object") := by
  refine Con.intro (L0 := #[.val (.ref a1)]) (plainFor_of_name (by first | (simp [plainName, overriddenIn]; done) | decide +kernel)) (fun m => by first | (simp [entryFrame, mkF, argsToLocals, Value.category]; done) | rfl) ?_
  intro C k
  replace k := k.aloadN d19_0 rfl rfl
  replace k := k.aloadN d19_1 rfl rfl
  replace k := k.getF d19_2 (host := "") (Or.inl (hw _ (List.mem_of_getElem? (i := 58) rfl))) Via.refl F3
  replace k := k.iconst (1 : Int32) d19_5 rfl
  replace k := k.iadd d19_6
  replace k := k.foldI (1 : Int32) (by decide)
  obtain ⟨_, hg101, ⟨dg101, rfl, Kg101, zg101, gdg101, Fmg101, Feg101, Fsg101, Ag101, Og101⟩, k⟩ := k.callP (y := (⟨"java/util/ArrayList", "grow", "(I)[Ljava/lang/Object;"⟩ : MethodName)) (a := a1) d19_7 (hw _ (List.mem_of_getElem? (i := 97) rfl)) (hw _ (List.mem_of_getElem? (i := 99) rfl)) (hw _ (List.mem_of_getElem? (i := 100) rfl)) (hw _ (List.mem_of_getElem? (i := 98) rfl)) (hw _ (List.mem_of_getElem? (i := 25) rfl)) (hw _ (List.mem_of_getElem? (i := 101) rfl)) E1 (W := 0) (argsL := [(.int (1 : Int32))]) (rest := []) (rm20 Z a0 hw a1 aD m fD h0 n0 Z0 g1 E1 F1 F2 F3 S_D A_D neD) rfl (pd_2) rfl rfl rfl (by decide) (by decide) (by decide) (by decide) (by decide)
  have Kc102 : Keep h0 hg101 [a1] := (Keep.refl h0 ([a1] : List Addr)).trans Kg101 (allS (Or.inl (List.mem_of_getElem? (i := 0) rfl)) all0)
  replace k := k.stk [(.ref dg101)] rfl
  have zzg101 : h0.size ≤ dg101 := Nat.le_trans (Keep.refl h0 ([a1] : List Addr)).1 zg101
  exact k.aret d19_10 rfl rfl rfl rfl ⟨_, rfl, Kc102, zzg101, gdg101, Fmg101, Feg101, Fsg101, Ag101, Og101⟩ (by decide) (by decide)

theorem d18_0 : decode jdk_38_method_24_code 0 = .ok (.iload_n 3, 1) := by decide +kernel
theorem d18_1 : decode jdk_38_method_24_code 1 = .ok (.aload_n 2, 1) := by decide +kernel
theorem d18_2 : decode jdk_38_method_24_code 2 = .ok (.arraylength, 1) := by decide +kernel
theorem d18_3 : decode jdk_38_method_24_code 3 = .ok (.if_icmp .ne 8, 3) := by decide +kernel
theorem d18_6 : decode jdk_38_method_24_code 6 = .ok (.aload_n 0, 1) := by decide +kernel
theorem d18_7 : decode jdk_38_method_24_code 7 = .ok (.invokevirtual 129, 3) := by decide +kernel
theorem d18_10 : decode jdk_38_method_24_code 10 = .ok (.astore_n 2, 1) := by decide +kernel
theorem d18_11 : decode jdk_38_method_24_code 11 = .ok (.aload_n 2, 1) := by decide +kernel
theorem d18_12 : decode jdk_38_method_24_code 12 = .ok (.iload_n 3, 1) := by decide +kernel
theorem d18_13 : decode jdk_38_method_24_code 13 = .ok (.aload_n 1, 1) := by decide +kernel
theorem d18_14 : decode jdk_38_method_24_code 14 = .ok (.aastore, 1) := by decide +kernel
theorem d18_15 : decode jdk_38_method_24_code 15 = .ok (.aload_n 0, 1) := by decide +kernel
theorem d18_16 : decode jdk_38_method_24_code 16 = .ok (.iload_n 3, 1) := by decide +kernel
theorem d18_17 : decode jdk_38_method_24_code 17 = .ok (.iconst 1, 1) := by decide +kernel
theorem d18_18 : decode jdk_38_method_24_code 18 = .ok (.iadd, 1) := by decide +kernel
theorem d18_19 : decode jdk_38_method_24_code 19 = .ok (.putfield 48, 3) := by decide +kernel
theorem d18_22 : decode jdk_38_method_24_code 22 = .ok (.return_, 1) := by decide +kernel
set_option maxRecDepth 65536 in
set_option maxHeartbeats 40000000 in
theorem rm18_0 (Z : State) (a0 : Array Value) (hw : ∀ d ∈ tables_1, d.before a0 Z = true) (a1 a2 aD : Addr) (m : Int32) (fD : Nat → Value) (h0 : Heap) (n0 : Nat) (Z0 : n0 ≤ h0.size) (g1 : n0 ≤ a1) (E1 : Exa Z h0 a1 "java/util/ArrayList") (F1 : Fld Z h0 a1 "java/util/AbstractList" "modCount" "I" (.int m)) (F2 : Fld Z h0 a1 "java/util/ArrayList" "elementData" "[Ljava/lang/Object;" (.ref aD)) (F3 : Fld Z h0 a1 "java/util/ArrayList" "size" "I" (.int (0 : Int32))) (S_D : Sta Z h0 "java/util/ArrayList" "DEFAULTCAPACITY_EMPTY_ELEMENTDATA" "[Ljava/lang/Object;" (.ref aD)) (A_D : Arf Z h0 aD (.object "java/lang/Object") 0 fD) (neD : aD ≠ a1) (E2 : Exa Z h0 a2 "[B") :
    Con Z n0 (⟨"java/util/ArrayList", "add", "(Ljava/lang/Object;[Ljava/lang/Object;I)V"⟩ : MethodName) jdk_38_method_24_code 4 none [] ({ frames := 3, cells := 1, slots := 10, locals := 41 } : Room) #[(.ref a1), (.ref a2), (.ref aD), (.int (0 : Int32))] h0 (fun v h => v = none ∧ Keep h0 h [a1] ∧ Fld Z h a1 "java/util/AbstractList" "modCount" "I" (.int m) ∧ Fld Z h a1 "java/util/ArrayList" "size" "I" (.int (1 : Int32)) ∧ ∃ d, h0.size ≤ d ∧ n0 ≤ d ∧ Fld Z h a1 "java/util/ArrayList" "elementData" "[Ljava/lang/Object;" (.ref d) ∧ Arf Z h d (.object "java/lang/Object") 10 (updV (fun _ => .null) 0 (.ref a2)) ∧ Ova Z h d "java/lang/Object") := by
  refine Con.intro (L0 := #[.val (.ref a1), .val (.ref a2), .val (.ref aD), .val (.int (0 : Int32))]) (plainFor_of_name (by first | (simp [plainName, overriddenIn]; done) | decide +kernel)) (fun m => by first | (simp [entryFrame, mkF, argsToLocals, Value.category]; done) | rfl) ?_
  intro C k
  replace k := k.iloadN d18_0 rfl
  replace k := k.aloadN d18_1 rfl rfl
  replace k := k.arrlen d18_2 A_D (0 : Int32) (by decide)
  replace k := k.icmpNo d18_3 (by decide)
  replace k := k.aloadN d18_6 rfl rfl
  obtain ⟨_, hg101, ⟨dg101, rfl, Kg101, zg101, gdg101, Fmg101, Feg101, Fsg101, Ag101, Og101⟩, k⟩ := k.callP (y := (⟨"java/util/ArrayList", "grow", "()[Ljava/lang/Object;"⟩ : MethodName)) (a := a1) d18_7 (hw _ (List.mem_of_getElem? (i := 92) rfl)) (hw _ (List.mem_of_getElem? (i := 94) rfl)) (hw _ (List.mem_of_getElem? (i := 95) rfl)) (hw _ (List.mem_of_getElem? (i := 93) rfl)) (hw _ (List.mem_of_getElem? (i := 25) rfl)) (hw _ (List.mem_of_getElem? (i := 96) rfl)) E1 (W := 0) (argsL := []) (rest := []) (rm19 Z a0 hw a1 aD m fD h0 n0 Z0 g1 E1 F1 F2 F3 S_D A_D neD) rfl (pd_3) rfl rfl rfl (by decide) (by decide) (by decide) (by decide) (by decide)
  have Kc102 : Keep h0 hg101 [a1] := (Keep.refl h0 ([a1] : List Addr)).trans Kg101 (allS (Or.inl (List.mem_of_getElem? (i := 0) rfl)) all0)
  replace k := k.stk [(.ref dg101)] rfl
  have zzg101 : h0.size ≤ dg101 := Nat.le_trans (Keep.refl h0 ([a1] : List Addr)).1 zg101
  replace k := k.astoreN #[.val (.ref a1), .val (.ref a2), .val (.ref dg101), .val (.int (0 : Int32))] d18_10 rfl rfl
  replace k := k.aloadN d18_11 rfl rfl
  replace k := k.iloadN d18_12 rfl
  replace k := k.aloadN d18_13 rfl rfl
  obtain ⟨h103, W103, A103, k⟩ := k.aastore d18_14 Ag101 rfl (Og101.sto Ag101 (Ins.of_exa (E2.keep Kg101) (hw _ (List.mem_of_getElem? (i := 105) rfl)))) 0 (by decide) (by decide) (by decide) gdg101
  have K103 : Keep h0 h103 [a1] := Kc102.wr W103 (Or.inr zzg101)
  replace k := k.aloadN d18_15 rfl rfl
  replace k := k.iloadN d18_16 rfl
  replace k := k.iconst (1 : Int32) d18_17 rfl
  replace k := k.iadd d18_18
  replace k := k.foldI (1 : Int32) (by decide)
  obtain ⟨h104, W104, k⟩ := k.putF d18_19 (host := "") (Or.inl (hw _ (List.mem_of_getElem? (i := 58) rfl))) Via.refl (Fld.other W103 Fsg101 (Or.inl (Nat.ne_of_lt (Nat.lt_of_lt_of_le E1.lt zg101)))) (Exa.wr W103 (E1.keep Kg101)) (Or.inl (hw _ (List.mem_of_getElem? (i := 59) rfl))) (hw _ (List.mem_of_getElem? (i := 24) rfl)) (ty := .int) (by decide) rfl rfl g1
  have Fw104 := Fld.same W104 (Fld.other W103 Fsg101 (Or.inl (Nat.ne_of_lt (Nat.lt_of_lt_of_le E1.lt zg101))))
  have K104 : Keep h0 h104 [a1] := K103.wr W104 (Or.inl (List.mem_of_getElem? (i := 0) rfl))
  exact k.vret d18_22 rfl ⟨rfl, K104, (Fld.other W104 (Fld.other W103 Fmg101 (Or.inl (Nat.ne_of_lt (Nat.lt_of_lt_of_le E1.lt zg101)))) (Or.inr (slot_ne (Or.inl (hw _ (List.mem_of_getElem? (i := 45) rfl))) (Or.inl (hw _ (List.mem_of_getElem? (i := 59) rfl))) (by decide) (t := .int) (t' := .int) (by decide) (by decide)))), Fw104, dg101, zzg101, gdg101, (Fld.other W104 (Fld.other W103 Feg101 (Or.inl (Nat.ne_of_lt (Nat.lt_of_lt_of_le E1.lt zg101)))) (Or.inr (slot_ne (Or.inl (hw _ (List.mem_of_getElem? (i := 48) rfl))) (Or.inl (hw _ (List.mem_of_getElem? (i := 59) rfl))) (by decide) (t := (.array (.object "java/lang/Object"))) (t' := .int) (by decide) (by decide)))), (A103.other W104 (Ne.symm (Nat.ne_of_lt (Nat.lt_of_lt_of_le E1.lt zg101)))), (Ova.wr W104 (Ova.wr W103 Og101))⟩ (by decide) (by decide)

set_option maxRecDepth 65536 in
set_option maxHeartbeats 40000000 in
theorem rm18_1 (Z : State) (a0 : Array Value) (hw : ∀ d ∈ tables_1, d.before a0 Z = true) (a1 a2 d : Addr) (m : Int32) (fD : Nat → Value) (h0 : Heap) (n0 : Nat) (Z0 : n0 ≤ h0.size) (g1 : n0 ≤ a1) (gd : n0 ≤ d) (ned : a1 ≠ d) (E1 : Exa Z h0 a1 "java/util/ArrayList") (F1 : Fld Z h0 a1 "java/util/AbstractList" "modCount" "I" (.int m)) (F2 : Fld Z h0 a1 "java/util/ArrayList" "elementData" "[Ljava/lang/Object;" (.ref d)) (F3 : Fld Z h0 a1 "java/util/ArrayList" "size" "I" (.int (1 : Int32))) (A_D : Arf Z h0 d (.object "java/lang/Object") 10 fD) (O_D : Ova Z h0 d "java/lang/Object") (E2 : Exa Z h0 a2 "[B") :
    Con Z n0 (⟨"java/util/ArrayList", "add", "(Ljava/lang/Object;[Ljava/lang/Object;I)V"⟩ : MethodName) jdk_38_method_24_code 4 none [] ({ frames := 0, cells := 0, slots := 0, locals := 0 } : Room) #[(.ref a1), (.ref a2), (.ref d), (.int (1 : Int32))] h0 (fun v h => v = none ∧ Keep h0 h [a1, d] ∧ Fld Z h a1 "java/util/AbstractList" "modCount" "I" (.int m) ∧ Fld Z h a1 "java/util/ArrayList" "size" "I" (.int (2 : Int32)) ∧ Fld Z h a1 "java/util/ArrayList" "elementData" "[Ljava/lang/Object;" (.ref d) ∧ Arf Z h d (.object "java/lang/Object") 10 (updV fD 1 (.ref a2))) := by
  refine Con.intro (L0 := #[.val (.ref a1), .val (.ref a2), .val (.ref d), .val (.int (1 : Int32))]) (plainFor_of_name (by first | (simp [plainName, overriddenIn]; done) | decide +kernel)) (fun m => by first | (simp [entryFrame, mkF, argsToLocals, Value.category]; done) | rfl) ?_
  intro C k
  replace k := k.iloadN d18_0 rfl
  replace k := k.aloadN d18_1 rfl rfl
  replace k := k.arrlen d18_2 A_D (10 : Int32) (by decide)
  replace k := k.icmpYes (pc' := 11) d18_3 (by decide) (by decide) (by decide)
  replace k := k.aloadN d18_11 rfl rfl
  replace k := k.iloadN d18_12 rfl
  replace k := k.aloadN d18_13 rfl rfl
  obtain ⟨h101, W101, A101, k⟩ := k.aastore d18_14 A_D rfl (O_D.sto A_D (Ins.of_exa E2 (hw _ (List.mem_of_getElem? (i := 105) rfl)))) 1 (by decide) (by decide) (by decide) gd
  have K101 : Keep h0 h101 [a1, d] := (Keep.refl h0 ([a1, d] : List Addr)).wr W101 (Or.inl (List.mem_of_getElem? (i := 1) rfl))
  replace k := k.aloadN d18_15 rfl rfl
  replace k := k.iloadN d18_16 rfl
  replace k := k.iconst (1 : Int32) d18_17 rfl
  replace k := k.iadd d18_18
  replace k := k.foldI (2 : Int32) (by decide)
  obtain ⟨h102, W102, k⟩ := k.putF d18_19 (host := "") (Or.inl (hw _ (List.mem_of_getElem? (i := 58) rfl))) Via.refl (Fld.other W101 F3 (Or.inl ned)) (Exa.wr W101 E1) (Or.inl (hw _ (List.mem_of_getElem? (i := 59) rfl))) (hw _ (List.mem_of_getElem? (i := 24) rfl)) (ty := .int) (by decide) rfl rfl g1
  have Fw102 := Fld.same W102 (Fld.other W101 F3 (Or.inl ned))
  have K102 : Keep h0 h102 [a1, d] := K101.wr W102 (Or.inl (List.mem_of_getElem? (i := 0) rfl))
  exact k.vret d18_22 rfl ⟨rfl, K102, (Fld.other W102 (Fld.other W101 F1 (Or.inl ned)) (Or.inr (slot_ne (Or.inl (hw _ (List.mem_of_getElem? (i := 45) rfl))) (Or.inl (hw _ (List.mem_of_getElem? (i := 59) rfl))) (by decide) (t := .int) (t' := .int) (by decide) (by decide)))), Fw102, (Fld.other W102 (Fld.other W101 F2 (Or.inl ned)) (Or.inr (slot_ne (Or.inl (hw _ (List.mem_of_getElem? (i := 48) rfl))) (Or.inl (hw _ (List.mem_of_getElem? (i := 59) rfl))) (by decide) (t := (.array (.object "java/lang/Object"))) (t' := .int) (by decide) (by decide)))), (A101.other W102 (Ne.symm ned))⟩ (by decide) (by decide)

theorem d17_0 : decode jdk_38_method_25_code 0 = .ok (.aload_n 0, 1) := by decide +kernel
theorem d17_1 : decode jdk_38_method_25_code 1 = .ok (.dup, 1) := by decide +kernel
theorem d17_2 : decode jdk_38_method_25_code 2 = .ok (.getfield 63, 3) := by decide +kernel
theorem d17_5 : decode jdk_38_method_25_code 5 = .ok (.iconst 1, 1) := by decide +kernel
theorem d17_6 : decode jdk_38_method_25_code 6 = .ok (.iadd, 1) := by decide +kernel
theorem d17_7 : decode jdk_38_method_25_code 7 = .ok (.putfield 63, 3) := by decide +kernel
theorem d17_10 : decode jdk_38_method_25_code 10 = .ok (.aload_n 0, 1) := by decide +kernel
theorem d17_11 : decode jdk_38_method_25_code 11 = .ok (.aload_n 1, 1) := by decide +kernel
theorem d17_12 : decode jdk_38_method_25_code 12 = .ok (.aload_n 0, 1) := by decide +kernel
theorem d17_13 : decode jdk_38_method_25_code 13 = .ok (.getfield 9, 3) := by decide +kernel
theorem d17_16 : decode jdk_38_method_25_code 16 = .ok (.aload_n 0, 1) := by decide +kernel
theorem d17_17 : decode jdk_38_method_25_code 17 = .ok (.getfield 48, 3) := by decide +kernel
theorem d17_20 : decode jdk_38_method_25_code 20 = .ok (.invokevirtual 131, 3) := by decide +kernel
theorem d17_23 : decode jdk_38_method_25_code 23 = .ok (.iconst 1, 1) := by decide +kernel
theorem d17_24 : decode jdk_38_method_25_code 24 = .ok (.ireturn, 1) := by decide +kernel
set_option maxRecDepth 65536 in
set_option maxHeartbeats 40000000 in
theorem rm17_0 (Z : State) (a0 : Array Value) (hw : ∀ d ∈ tables_1, d.before a0 Z = true) (a1 a2 aD : Addr) (m : Int32) (fD : Nat → Value) (h0 : Heap) (n0 : Nat) (Z0 : n0 ≤ h0.size) (g1 : n0 ≤ a1) (E1 : Exa Z h0 a1 "java/util/ArrayList") (F1 : Fld Z h0 a1 "java/util/AbstractList" "modCount" "I" (.int m)) (F2 : Fld Z h0 a1 "java/util/ArrayList" "elementData" "[Ljava/lang/Object;" (.ref aD)) (F3 : Fld Z h0 a1 "java/util/ArrayList" "size" "I" (.int (0 : Int32))) (S_D : Sta Z h0 "java/util/ArrayList" "DEFAULTCAPACITY_EMPTY_ELEMENTDATA" "[Ljava/lang/Object;" (.ref aD)) (A_D : Arf Z h0 aD (.object "java/lang/Object") 0 fD) (neD : aD ≠ a1) (E2 : Exa Z h0 a2 "[B") :
    Con Z n0 (⟨"java/util/ArrayList", "add", "(Ljava/lang/Object;)Z"⟩ : MethodName) jdk_38_method_25_code 2 (some .boolean) [] ({ frames := 4, cells := 1, slots := 10, locals := 56 } : Room) #[(.ref a1), (.ref a2)] h0 (fun v h => v = some (.int (1 : Int32)) ∧ Keep h0 h [a1] ∧ Fld Z h a1 "java/util/AbstractList" "modCount" "I" (.int (m + (1 : Int32))) ∧ Fld Z h a1 "java/util/ArrayList" "size" "I" (.int (1 : Int32)) ∧ ∃ d, h0.size ≤ d ∧ n0 ≤ d ∧ Fld Z h a1 "java/util/ArrayList" "elementData" "[Ljava/lang/Object;" (.ref d) ∧ Arf Z h d (.object "java/lang/Object") 10 (updV (fun _ => .null) 0 (.ref a2)) ∧ Ova Z h d "java/lang/Object") := by
  refine Con.intro (L0 := #[.val (.ref a1), .val (.ref a2)]) (plainFor_of_name (by first | (simp [plainName, overriddenIn]; done) | decide +kernel)) (fun m => by first | (simp [entryFrame, mkF, argsToLocals, Value.category]; done) | rfl) ?_
  intro C k
  replace k := k.aloadN d17_0 rfl rfl
  replace k := k.dup d17_1 rfl
  replace k := k.getF d17_2 (host := "") (Or.inl (hw _ (List.mem_of_getElem? (i := 85) rfl))) (Via.of (hw _ (List.mem_of_getElem? (i := 86) rfl))) F1
  replace k := k.iconst (1 : Int32) d17_5 rfl
  replace k := k.iadd d17_6
  obtain ⟨h101, W101, k⟩ := k.putF d17_7 (host := "") (Or.inl (hw _ (List.mem_of_getElem? (i := 85) rfl))) (Via.of (hw _ (List.mem_of_getElem? (i := 86) rfl))) F1 E1 (Or.inl (hw _ (List.mem_of_getElem? (i := 45) rfl))) (hw _ (List.mem_of_getElem? (i := 24) rfl)) (ty := .int) (by decide) rfl rfl g1
  have Fw101 := Fld.same W101 F1
  have K101 : Keep h0 h101 [a1] := (Keep.refl h0 ([a1] : List Addr)).wr W101 (Or.inl (List.mem_of_getElem? (i := 0) rfl))
  replace k := k.aloadN d17_10 rfl rfl
  replace k := k.aloadN d17_11 rfl rfl
  replace k := k.aloadN d17_12 rfl rfl
  replace k := k.getF d17_13 (host := "") (Or.inl (hw _ (List.mem_of_getElem? (i := 47) rfl))) Via.refl (Fld.other W101 F2 (Or.inr (slot_ne (Or.inl (hw _ (List.mem_of_getElem? (i := 48) rfl))) (Or.inl (hw _ (List.mem_of_getElem? (i := 45) rfl))) (by decide) (t := (.array (.object "java/lang/Object"))) (t' := .int) (by decide) (by decide))))
  replace k := k.aloadN d17_16 rfl rfl
  replace k := k.getF d17_17 (host := "") (Or.inl (hw _ (List.mem_of_getElem? (i := 58) rfl))) Via.refl (Fld.other W101 F3 (Or.inr (slot_ne (Or.inl (hw _ (List.mem_of_getElem? (i := 59) rfl))) (Or.inl (hw _ (List.mem_of_getElem? (i := 45) rfl))) (by decide) (t := .int) (t' := .int) (by decide) (by decide))))
  obtain ⟨_, ha102, ⟨rfl, Ka102, Fma102, Fsa102, da102, za102, gda102, Fea102, Aa102, Oa102⟩, k⟩ := k.callP (y := (⟨"java/util/ArrayList", "add", "(Ljava/lang/Object;[Ljava/lang/Object;I)V"⟩ : MethodName)) (a := a1) d17_20 (hw _ (List.mem_of_getElem? (i := 87) rfl)) (hw _ (List.mem_of_getElem? (i := 89) rfl)) (hw _ (List.mem_of_getElem? (i := 90) rfl)) (hw _ (List.mem_of_getElem? (i := 88) rfl)) (hw _ (List.mem_of_getElem? (i := 25) rfl)) (hw _ (List.mem_of_getElem? (i := 91) rfl)) (Exa.wr W101 E1) (W := 0) (argsL := [(.ref a2), (.ref aD), (.int (0 : Int32))]) (rest := []) (rm18_0 Z a0 hw a1 a2 aD (m + (1 : Int32)) _ h101 n0 (Nat.le_trans Z0 (Nat.le_of_eq (Wr.size W101).symm)) g1 (Exa.wr W101 E1) Fw101 (Fld.other W101 F2 (Or.inr (slot_ne (Or.inl (hw _ (List.mem_of_getElem? (i := 48) rfl))) (Or.inl (hw _ (List.mem_of_getElem? (i := 45) rfl))) (by decide) (t := (.array (.object "java/lang/Object"))) (t' := .int) (by decide) (by decide)))) (Fld.other W101 F3 (Or.inr (slot_ne (Or.inl (hw _ (List.mem_of_getElem? (i := 59) rfl))) (Or.inl (hw _ (List.mem_of_getElem? (i := 45) rfl))) (by decide) (t := .int) (t' := .int) (by decide) (by decide)))) (Sta.wr W101 S_D) (A_D.other W101 neD) neD (Exa.wr W101 E2)) rfl (pd_4) rfl rfl rfl (by decide) (by decide) (by decide) (by decide) (by decide)
  have Kc103 : Keep h0 ha102 [a1] := K101.trans Ka102 (allS (Or.inl (List.mem_of_getElem? (i := 0) rfl)) all0)
  replace k := k.stk [] rfl
  have zza102 : h0.size ≤ da102 := Nat.le_trans K101.1 za102
  replace k := k.iconst (1 : Int32) d17_23 rfl
  exact k.iret d17_24 rfl (by simp) rfl ⟨rfl, Kc103, Fma102, Fsa102, da102, zza102, gda102, Fea102, Aa102, Oa102⟩ (by decide) (by decide)

set_option maxRecDepth 65536 in
set_option maxHeartbeats 40000000 in
theorem rm17_1 (Z : State) (a0 : Array Value) (hw : ∀ d ∈ tables_1, d.before a0 Z = true) (a1 a2 d : Addr) (m : Int32) (fD : Nat → Value) (h0 : Heap) (n0 : Nat) (Z0 : n0 ≤ h0.size) (g1 : n0 ≤ a1) (gd : n0 ≤ d) (ned : a1 ≠ d) (E1 : Exa Z h0 a1 "java/util/ArrayList") (F1 : Fld Z h0 a1 "java/util/AbstractList" "modCount" "I" (.int m)) (F2 : Fld Z h0 a1 "java/util/ArrayList" "elementData" "[Ljava/lang/Object;" (.ref d)) (F3 : Fld Z h0 a1 "java/util/ArrayList" "size" "I" (.int (1 : Int32))) (A_D : Arf Z h0 d (.object "java/lang/Object") 10 fD) (O_D : Ova Z h0 d "java/lang/Object") (E2 : Exa Z h0 a2 "[B") :
    Con Z n0 (⟨"java/util/ArrayList", "add", "(Ljava/lang/Object;)Z"⟩ : MethodName) jdk_38_method_25_code 2 (some .boolean) [] ({ frames := 1, cells := 0, slots := 0, locals := 15 } : Room) #[(.ref a1), (.ref a2)] h0 (fun v h => v = some (.int (1 : Int32)) ∧ Keep h0 h [a1, d] ∧ Fld Z h a1 "java/util/AbstractList" "modCount" "I" (.int (m + (1 : Int32))) ∧ Fld Z h a1 "java/util/ArrayList" "size" "I" (.int (2 : Int32)) ∧ Fld Z h a1 "java/util/ArrayList" "elementData" "[Ljava/lang/Object;" (.ref d) ∧ Arf Z h d (.object "java/lang/Object") 10 (updV fD 1 (.ref a2))) := by
  refine Con.intro (L0 := #[.val (.ref a1), .val (.ref a2)]) (plainFor_of_name (by first | (simp [plainName, overriddenIn]; done) | decide +kernel)) (fun m => by first | (simp [entryFrame, mkF, argsToLocals, Value.category]; done) | rfl) ?_
  intro C k
  replace k := k.aloadN d17_0 rfl rfl
  replace k := k.dup d17_1 rfl
  replace k := k.getF d17_2 (host := "") (Or.inl (hw _ (List.mem_of_getElem? (i := 85) rfl))) (Via.of (hw _ (List.mem_of_getElem? (i := 86) rfl))) F1
  replace k := k.iconst (1 : Int32) d17_5 rfl
  replace k := k.iadd d17_6
  obtain ⟨h101, W101, k⟩ := k.putF d17_7 (host := "") (Or.inl (hw _ (List.mem_of_getElem? (i := 85) rfl))) (Via.of (hw _ (List.mem_of_getElem? (i := 86) rfl))) F1 E1 (Or.inl (hw _ (List.mem_of_getElem? (i := 45) rfl))) (hw _ (List.mem_of_getElem? (i := 24) rfl)) (ty := .int) (by decide) rfl rfl g1
  have Fw101 := Fld.same W101 F1
  have K101 : Keep h0 h101 [a1, d] := (Keep.refl h0 ([a1, d] : List Addr)).wr W101 (Or.inl (List.mem_of_getElem? (i := 0) rfl))
  replace k := k.aloadN d17_10 rfl rfl
  replace k := k.aloadN d17_11 rfl rfl
  replace k := k.aloadN d17_12 rfl rfl
  replace k := k.getF d17_13 (host := "") (Or.inl (hw _ (List.mem_of_getElem? (i := 47) rfl))) Via.refl (Fld.other W101 F2 (Or.inr (slot_ne (Or.inl (hw _ (List.mem_of_getElem? (i := 48) rfl))) (Or.inl (hw _ (List.mem_of_getElem? (i := 45) rfl))) (by decide) (t := (.array (.object "java/lang/Object"))) (t' := .int) (by decide) (by decide))))
  replace k := k.aloadN d17_16 rfl rfl
  replace k := k.getF d17_17 (host := "") (Or.inl (hw _ (List.mem_of_getElem? (i := 58) rfl))) Via.refl (Fld.other W101 F3 (Or.inr (slot_ne (Or.inl (hw _ (List.mem_of_getElem? (i := 59) rfl))) (Or.inl (hw _ (List.mem_of_getElem? (i := 45) rfl))) (by decide) (t := .int) (t' := .int) (by decide) (by decide))))
  obtain ⟨_, ha102, ⟨rfl, Ka102, Fma102, Fsa102, Fea102, Aa102⟩, k⟩ := k.callP (y := (⟨"java/util/ArrayList", "add", "(Ljava/lang/Object;[Ljava/lang/Object;I)V"⟩ : MethodName)) (a := a1) d17_20 (hw _ (List.mem_of_getElem? (i := 87) rfl)) (hw _ (List.mem_of_getElem? (i := 89) rfl)) (hw _ (List.mem_of_getElem? (i := 90) rfl)) (hw _ (List.mem_of_getElem? (i := 88) rfl)) (hw _ (List.mem_of_getElem? (i := 25) rfl)) (hw _ (List.mem_of_getElem? (i := 91) rfl)) (Exa.wr W101 E1) (W := 0) (argsL := [(.ref a2), (.ref d), (.int (1 : Int32))]) (rest := []) (rm18_1 Z a0 hw a1 a2 d (m + (1 : Int32)) _ h101 n0 (Nat.le_trans Z0 (Nat.le_of_eq (Wr.size W101).symm)) g1 gd ned (Exa.wr W101 E1) Fw101 (Fld.other W101 F2 (Or.inr (slot_ne (Or.inl (hw _ (List.mem_of_getElem? (i := 48) rfl))) (Or.inl (hw _ (List.mem_of_getElem? (i := 45) rfl))) (by decide) (t := (.array (.object "java/lang/Object"))) (t' := .int) (by decide) (by decide)))) (Fld.other W101 F3 (Or.inr (slot_ne (Or.inl (hw _ (List.mem_of_getElem? (i := 59) rfl))) (Or.inl (hw _ (List.mem_of_getElem? (i := 45) rfl))) (by decide) (t := .int) (t' := .int) (by decide) (by decide)))) (A_D.other W101 (Ne.symm ned)) (Ova.wr W101 O_D) (Exa.wr W101 E2)) rfl (pd_4) rfl rfl rfl (by decide) (by decide) (by decide) (by decide) (by decide)
  have Kc103 : Keep h0 ha102 [a1, d] := K101.trans Ka102 (allS (Or.inl (List.mem_of_getElem? (i := 0) rfl)) (allS (Or.inl (List.mem_of_getElem? (i := 1) rfl)) all0))
  replace k := k.stk [] rfl
  replace k := k.iconst (1 : Int32) d17_23 rfl
  exact k.iret d17_24 rfl (by simp) rfl ⟨rfl, Kc103, Fma102, Fsa102, Fea102, Aa102⟩ (by decide) (by decide)

theorem d11_0 : decode jdk_38_method_8_code 0 = .ok (.aload_n 0, 1) := by decide +kernel
theorem d11_1 : decode jdk_38_method_8_code 1 = .ok (.getfield 48, 3) := by decide +kernel
theorem d11_4 : decode jdk_38_method_8_code 4 = .ok (.ireturn, 1) := by decide +kernel
set_option maxRecDepth 65536 in
set_option maxHeartbeats 40000000 in
theorem rm11 (Z : State) (a0 : Array Value) (hw : ∀ d ∈ tables_1, d.before a0 Z = true) (a1 : Addr) (z : Int32) (h0 : Heap) (n0 : Nat) (F1 : Fld Z h0 a1 "java/util/ArrayList" "size" "I" (.int z)) :
    Con Z n0 (⟨"java/util/ArrayList", "size", "()I"⟩ : MethodName) jdk_38_method_8_code 1 (some .int) [] ({ frames := 0, cells := 0, slots := 0, locals := 0 } : Room) #[(.ref a1)] h0 (fun v h => v = some (.int z) ∧ h0 = h) := by
  refine Con.intro (L0 := #[.val (.ref a1)]) (plainFor_of_name (by first | (simp [plainName, overriddenIn]; done) | decide +kernel)) (fun m => by first | (simp [entryFrame, mkF, argsToLocals, Value.category]; done) | rfl) ?_
  intro C k
  replace k := k.aloadN d11_0 rfl rfl
  replace k := k.getF d11_1 (host := "") (Or.inl (hw _ (List.mem_of_getElem? (i := 58) rfl))) Via.refl F1
  exact k.iret d11_4 rfl (by simp) rfl ⟨rfl, rfl⟩ (by decide) (by decide)

theorem d23_0 : decode jdk_41_method_11_code 0 = .ok (.iload_n 0, 1) := by decide +kernel
theorem d23_1 : decode jdk_41_method_11_code 1 = .ok (.ifCond .lt 8, 3) := by decide +kernel
theorem d23_4 : decode jdk_41_method_11_code 4 = .ok (.iload_n 0, 1) := by decide +kernel
theorem d23_5 : decode jdk_41_method_11_code 5 = .ok (.iload_n 1, 1) := by decide +kernel
theorem d23_6 : decode jdk_41_method_11_code 6 = .ok (.if_icmp .lt 10, 3) := by decide +kernel
theorem d23_16 : decode jdk_41_method_11_code 16 = .ok (.iload_n 0, 1) := by decide +kernel
theorem d23_17 : decode jdk_41_method_11_code 17 = .ok (.ireturn, 1) := by decide +kernel
set_option maxRecDepth 65536 in
set_option maxHeartbeats 40000000 in
theorem rm23 (Z : State) (a0 : Array Value) (hw : ∀ d ∈ tables_1, d.before a0 Z = true) (p1 p2 : Int32) (h0 : Heap) (n0 : Nat) (h1 : ¬ p1 < 0) (h2 : p1 < p2) :
    Con Z n0 (⟨"jdk/internal/util/Preconditions", "checkIndex", "(IILjava/util/function/BiFunction;)I"⟩ : MethodName) jdk_41_method_11_code 3 (some .int) [] ({ frames := 0, cells := 0, slots := 0, locals := 0 } : Room) #[(.int p1), (.int p2), .null] h0 (fun v h => v = some (.int p1) ∧ h0 = h) := by
  refine Con.intro (L0 := #[.val (.int p1), .val (.int p2), .val .null]) (plainFor_of_name (by first | (simp [plainName, overriddenIn]; done) | decide +kernel)) (fun m => by first | (simp [entryFrame, mkF, argsToLocals, Value.category]; done) | rfl) ?_
  intro C k
  replace k := k.iloadN d23_0 rfl
  replace k := k.ifNo d23_1 (flt h1).1
  replace k := k.iloadN d23_4 rfl
  replace k := k.iloadN d23_5 rfl
  replace k := k.icmpYes (pc' := 16) d23_6 (tlt h2).1 (by decide) (by decide)
  replace k := k.iloadN d23_16 rfl
  exact k.iret d23_17 rfl (by simp) rfl ⟨rfl, rfl⟩ (by decide) (by decide)

theorem d22_0 : decode jdk_31_method_17_code 0 = .ok (.iload_n 0, 1) := by decide +kernel
theorem d22_1 : decode jdk_31_method_17_code 1 = .ok (.iload_n 1, 1) := by decide +kernel
theorem d22_2 : decode jdk_31_method_17_code 2 = .ok (.aconst_null, 1) := by decide +kernel
theorem d22_3 : decode jdk_31_method_17_code 3 = .ok (.invokestatic 105, 3) := by decide +kernel
theorem d22_6 : decode jdk_31_method_17_code 6 = .ok (.ireturn, 1) := by decide +kernel
set_option maxRecDepth 65536 in
set_option maxHeartbeats 40000000 in
theorem rm22 (Z : State) (a0 : Array Value) (hw : ∀ d ∈ tables_1, d.before a0 Z = true) (p1 p2 : Int32) (h0 : Heap) (n0 : Nat) (h1 : ¬ p1 < 0) (h2 : p1 < p2) :
    Con Z n0 (⟨"java/util/Objects", "checkIndex", "(II)I"⟩ : MethodName) jdk_31_method_17_code 2 (some .int) [] ({ frames := 1, cells := 0, slots := 0, locals := 14 } : Room) #[(.int p1), (.int p2)] h0 (fun v h => v = some (.int p1) ∧ h0 = h) := by
  refine Con.intro (L0 := #[.val (.int p1), .val (.int p2)]) (plainFor_of_name (by first | (simp [plainName, overriddenIn]; done) | decide +kernel)) (fun m => by first | (simp [entryFrame, mkF, argsToLocals, Value.category]; done) | rfl) ?_
  intro C k
  replace k := k.iloadN d22_0 rfl
  replace k := k.iloadN d22_1 rfl
  replace k := k.aconstNull d22_2
  obtain ⟨_, _, ⟨rfl, rfl⟩, k⟩ := k.callS (y := (⟨"jdk/internal/util/Preconditions", "checkIndex", "(IILjava/util/function/BiFunction;)I"⟩ : MethodName)) d22_3 (hw _ (List.mem_of_getElem? (i := 118) rfl)) (hw _ (List.mem_of_getElem? (i := 119) rfl)) (hw _ (List.mem_of_getElem? (i := 120) rfl)) (hw _ (List.mem_of_getElem? (i := 121) rfl)) (W := 0) (argsL := [(.int p1), (.int p2), .null]) (rest := []) (rm23 Z a0 hw p1 p2 h0 n0 h1 h2) rfl (pd_5) rfl rfl rfl (by decide) (by decide) (by decide) (by decide) (by decide)
  replace k := k.stk [(.int p1)] rfl
  exact k.iret d22_6 rfl (by simp) rfl ⟨rfl, rfl⟩ (by decide) (by decide)

theorem d24_0 : decode jdk_38_method_18_code 0 = .ok (.aload_n 0, 1) := by decide +kernel
theorem d24_1 : decode jdk_38_method_18_code 1 = .ok (.getfield 9, 3) := by decide +kernel
theorem d24_4 : decode jdk_38_method_18_code 4 = .ok (.iload_n 1, 1) := by decide +kernel
theorem d24_5 : decode jdk_38_method_18_code 5 = .ok (.aaload, 1) := by decide +kernel
theorem d24_6 : decode jdk_38_method_18_code 6 = .ok (.areturn, 1) := by decide +kernel
set_option maxRecDepth 65536 in
set_option maxHeartbeats 40000000 in
theorem rm24 (Z : State) (a0 : Array Value) (hw : ∀ d ∈ tables_1, d.before a0 Z = true) (a1 d x : Addr) (i : Int32) (I : Nat) (fD : Nat → Value) (h0 : Heap) (n0 : Nat) (F2 : Fld Z h0 a1 "java/util/ArrayList" "elementData" "[Ljava/lang/Object;" (.ref d)) (A1 : Arf Z h0 d (.object "java/lang/Object") 10 fD) (hi : i.toNatClampNeg = I) (h1 : ¬ i < 0) (hI : I < 10) (hx : fD I = .ref x) :
    Con Z n0 (⟨"java/util/ArrayList", "elementData", "(I)Ljava/lang/Object;"⟩ : MethodName) jdk_38_method_18_code 2 (some (.object "java/lang/Object")) [] ({ frames := 0, cells := 0, slots := 0, locals := 0 } : Room) #[(.ref a1), (.int i)] h0 (fun v h => v = some (.ref x) ∧ h0 = h) := by
  refine Con.intro (L0 := #[.val (.ref a1), .val (.int i)]) (plainFor_of_name (by first | (simp [plainName, overriddenIn]; done) | decide +kernel)) (fun m => by first | (simp [entryFrame, mkF, argsToLocals, Value.category]; done) | rfl) ?_
  intro C k
  replace k := k.aloadN d24_0 rfl rfl
  replace k := k.getF d24_1 (host := "") (Or.inl (hw _ (List.mem_of_getElem? (i := 47) rfl))) Via.refl F2
  replace k := k.iloadN d24_4 rfl
  replace k := k.aaload d24_5 A1 rfl I hi h1 hI (.ref x) hx
  exact k.aret d24_6 rfl rfl rfl rfl ⟨rfl, rfl⟩ (by decide) (by decide)

theorem d21_0 : decode jdk_38_method_20_code 0 = .ok (.iload_n 1, 1) := by decide +kernel
theorem d21_1 : decode jdk_38_method_20_code 1 = .ok (.aload_n 0, 1) := by decide +kernel
theorem d21_2 : decode jdk_38_method_20_code 2 = .ok (.getfield 48, 3) := by decide +kernel
theorem d21_5 : decode jdk_38_method_20_code 5 = .ok (.invokestatic 118, 3) := by decide +kernel
theorem d21_8 : decode jdk_38_method_20_code 8 = .ok (.pop, 1) := by decide +kernel
theorem d21_9 : decode jdk_38_method_20_code 9 = .ok (.aload_n 0, 1) := by decide +kernel
theorem d21_10 : decode jdk_38_method_20_code 10 = .ok (.iload_n 1, 1) := by decide +kernel
theorem d21_11 : decode jdk_38_method_20_code 11 = .ok (.invokevirtual 123, 3) := by decide +kernel
theorem d21_14 : decode jdk_38_method_20_code 14 = .ok (.areturn, 1) := by decide +kernel
set_option maxRecDepth 65536 in
set_option maxHeartbeats 40000000 in
theorem rm21 (Z : State) (a0 : Array Value) (hw : ∀ d ∈ tables_1, d.before a0 Z = true) (a1 d x : Addr) (i z : Int32) (I : Nat) (fD : Nat → Value) (h0 : Heap) (n0 : Nat) (F2 : Fld Z h0 a1 "java/util/ArrayList" "elementData" "[Ljava/lang/Object;" (.ref d)) (A1 : Arf Z h0 d (.object "java/lang/Object") 10 fD) (hi : i.toNatClampNeg = I) (h1 : ¬ i < 0) (hI : I < 10) (hx : fD I = .ref x) (E1 : Exa Z h0 a1 "java/util/ArrayList") (F3 : Fld Z h0 a1 "java/util/ArrayList" "size" "I" (.int z)) (h2 : i < z) :
    Con Z n0 (⟨"java/util/ArrayList", "get", "(I)Ljava/lang/Object;"⟩ : MethodName) jdk_38_method_20_code 2 (some (.object "java/lang/Object")) [] ({ frames := 2, cells := 0, slots := 0, locals := 27 } : Room) #[(.ref a1), (.int i)] h0 (fun v h => v = some (.ref x) ∧ h0 = h) := by
  refine Con.intro (L0 := #[.val (.ref a1), .val (.int i)]) (plainFor_of_name (by first | (simp [plainName, overriddenIn]; done) | decide +kernel)) (fun m => by first | (simp [entryFrame, mkF, argsToLocals, Value.category]; done) | rfl) ?_
  intro C k
  replace k := k.iloadN d21_0 rfl
  replace k := k.aloadN d21_1 rfl rfl
  replace k := k.getF d21_2 (host := "") (Or.inl (hw _ (List.mem_of_getElem? (i := 58) rfl))) Via.refl F3
  obtain ⟨_, _, ⟨rfl, rfl⟩, k⟩ := k.callS (y := (⟨"java/util/Objects", "checkIndex", "(II)I"⟩ : MethodName)) d21_5 (hw _ (List.mem_of_getElem? (i := 114) rfl)) (hw _ (List.mem_of_getElem? (i := 115) rfl)) (hw _ (List.mem_of_getElem? (i := 116) rfl)) (hw _ (List.mem_of_getElem? (i := 117) rfl)) (W := 0) (argsL := [(.int i), (.int z)]) (rest := []) (rm22 Z a0 hw i z h0 n0 h1 h2) rfl (pd_1) rfl rfl rfl (by decide) (by decide) (by decide) (by decide) (by decide)
  replace k := k.stk [(.int i)] rfl
  replace k := k.pop d21_8 rfl
  replace k := k.aloadN d21_9 rfl rfl
  replace k := k.iloadN d21_10 rfl
  obtain ⟨_, _, ⟨rfl, rfl⟩, k⟩ := k.callV (y := (⟨"java/util/ArrayList", "elementData", "(I)Ljava/lang/Object;"⟩ : MethodName)) (z := (⟨"java/util/ArrayList", "elementData", "(I)Ljava/lang/Object;"⟩ : MethodName)) (a := a1) d21_11 (hw _ (List.mem_of_getElem? (i := 122) rfl)) (hw _ (List.mem_of_getElem? (i := 123) rfl)) (fun s hs => notFace_of_selects (args := #[]) (mvT hs (hw _ (List.mem_of_getElem? (i := 125) rfl)))) (hw _ (List.mem_of_getElem? (i := 125) rfl)) (hw _ (List.mem_of_getElem? (i := 124) rfl)) (hw _ (List.mem_of_getElem? (i := 25) rfl)) (hw _ (List.mem_of_getElem? (i := 126) rfl)) E1 (W := 0) (argsL := [(.int i)]) (rest := []) (rm24 Z a0 hw a1 d x i I fD h0 n0 F2 A1 hi h1 hI hx) rfl (pd_6) rfl rfl rfl (by decide) (by decide) (by decide) (by decide) (by decide)
  replace k := k.stk [(.ref x)] rfl
  exact k.aret d21_14 rfl rfl rfl rfl ⟨rfl, rfl⟩ (by decide) (by decide)

theorem d15_0 : decode jdk_65_method_131_code 0 = .ok (.iload_n 1, 1) := by decide +kernel
theorem d15_1 : decode jdk_65_method_131_code 1 = .ok (.iload_n 0, 1) := by decide +kernel
theorem d15_2 : decode jdk_65_method_131_code 2 = .ok (.if_icmp .ge 35, 3) := by decide +kernel
theorem d15_37 : decode jdk_65_method_131_code 37 = .ok (.return_, 1) := by decide +kernel
set_option maxRecDepth 65536 in
set_option maxHeartbeats 40000000 in
theorem rm15 (Z : State) (a0 : Array Value) (hw : ∀ d ∈ tables_1, d.before a0 Z = true) (p1 p2 : Int32) (h0 : Heap) (n0 : Nat) (h1 : ¬ p2 < p1) :
    Con Z n0 (⟨"java/util/Arrays", "checkLength", "(II)V"⟩ : MethodName) jdk_65_method_131_code 2 none [] ({ frames := 0, cells := 0, slots := 0, locals := 0 } : Room) #[(.int p1), (.int p2)] h0 (fun v h => v = none ∧ h0 = h) := by
  refine Con.intro (L0 := #[.val (.int p1), .val (.int p2)]) (plainFor_of_name (by first | (simp [plainName, overriddenIn]; done) | decide +kernel)) (fun m => by first | (simp [entryFrame, mkF, argsToLocals, Value.category]; done) | rfl) ?_
  intro C k
  replace k := k.iloadN d15_0 rfl
  replace k := k.iloadN d15_1 rfl
  replace k := k.icmpYes (pc' := 37) d15_2 (flt h1).2.1 (by decide) (by decide)
  exact k.vret d15_37 rfl ⟨rfl, rfl⟩ (by decide) (by decide)

theorem d14_0 : decode jdk_65_method_133_code 0 = .ok (.iload_n 1, 1) := by decide +kernel
theorem d14_1 : decode jdk_65_method_133_code 1 = .ok (.iload_n 2, 1) := by decide +kernel
theorem d14_2 : decode jdk_65_method_133_code 2 = .ok (.invokestatic 343, 3) := by decide +kernel
theorem d14_5 : decode jdk_65_method_133_code 5 = .ok (.iload_n 2, 1) := by decide +kernel
theorem d14_6 : decode jdk_65_method_133_code 6 = .ok (.iload_n 1, 1) := by decide +kernel
theorem d14_7 : decode jdk_65_method_133_code 7 = .ok (.isub, 1) := by decide +kernel
theorem d14_8 : decode jdk_65_method_133_code 8 = .ok (.istore_n 3, 1) := by decide +kernel
theorem d14_9 : decode jdk_65_method_133_code 9 = .ok (.iload_n 3, 1) := by decide +kernel
theorem d14_10 : decode jdk_65_method_133_code 10 = .ok (.newarray .byte, 2) := by decide +kernel
theorem d14_12 : decode jdk_65_method_133_code 12 = .ok (.astore 4, 2) := by decide +kernel
theorem d14_14 : decode jdk_65_method_133_code 14 = .ok (.aload_n 0, 1) := by decide +kernel
theorem d14_15 : decode jdk_65_method_133_code 15 = .ok (.iload_n 1, 1) := by decide +kernel
theorem d14_16 : decode jdk_65_method_133_code 16 = .ok (.aload 4, 2) := by decide +kernel
theorem d14_18 : decode jdk_65_method_133_code 18 = .ok (.iconst 0, 1) := by decide +kernel
theorem d14_19 : decode jdk_65_method_133_code 19 = .ok (.aload_n 0, 1) := by decide +kernel
theorem d14_20 : decode jdk_65_method_133_code 20 = .ok (.arraylength, 1) := by decide +kernel
theorem d14_21 : decode jdk_65_method_133_code 21 = .ok (.iload_n 1, 1) := by decide +kernel
theorem d14_22 : decode jdk_65_method_133_code 22 = .ok (.isub, 1) := by decide +kernel
theorem d14_23 : decode jdk_65_method_133_code 23 = .ok (.iload_n 3, 1) := by decide +kernel
theorem d14_24 : decode jdk_65_method_133_code 24 = .ok (.invokestatic 304, 3) := by decide +kernel
theorem d14_27 : decode jdk_65_method_133_code 27 = .ok (.invokestatic 150, 3) := by decide +kernel
theorem d14_30 : decode jdk_65_method_133_code 30 = .ok (.aload 4, 2) := by decide +kernel
theorem d14_32 : decode jdk_65_method_133_code 32 = .ok (.areturn, 1) := by decide +kernel
set_option maxRecDepth 65536 in
set_option maxHeartbeats 40000000 in
theorem rm14 (Z : State) (a0 : Array Value) (hw : ∀ d ∈ tables_1, d.before a0 Z = true) (a1 : Addr) (f t : Int32) (PA PB : Nat) (G : Nat → Int32) (h0 : Heap) (n0 : Nat) (Z0 : n0 ≤ h0.size) (A1 : Arf Z h0 a1 .byte 800 (own_bf G)) (hD : own_der G) (hf : f.toInt = (PA : Int)) (ht : t.toInt = (PB : Int)) (h1 : 1 ≤ PA) (hle : PA ≤ PB) (hB : PB ≤ 800) (hS : PB - PA ≤ 380) :
    Con Z n0 (⟨"java/util/Arrays", "copyOfRangeByte", "([BII)[B"⟩ : MethodName) jdk_65_method_133_code 5 (some (.array .byte)) [] ({ frames := 1, cells := 1, slots := 380, locals := 18 } : Room) #[(.ref a1), (.int f), (.int t)] h0 (fun v h => ∃ b, v = some (.ref b) ∧ Keep h0 h [] ∧ h0.size ≤ b ∧ Arf Z h b .byte (PB - PA) (own_bf (fun i => G (PA + i))) ∧ Exa Z h b "[B") := by
  refine Con.intro (L0 := #[.val (.ref a1), .val (.int f), .val (.int t), .unset, .unset]) (plainFor_of_name (by first | (simp [plainName, overriddenIn]; done) | decide +kernel)) (fun m => by first | (simp [entryFrame, mkF, argsToLocals, Value.category]; done) | rfl) ?_
  intro C k
  replace k := k.iloadN d14_0 rfl
  replace k := k.iloadN d14_1 rfl
  obtain ⟨_, _, ⟨rfl, rfl⟩, k⟩ := k.callS (y := (⟨"java/util/Arrays", "checkLength", "(II)V"⟩ : MethodName)) d14_2 (hw _ (List.mem_of_getElem? (i := 70) rfl)) (hw _ (List.mem_of_getElem? (i := 71) rfl)) (hw _ (List.mem_of_getElem? (i := 65) rfl)) (hw _ (List.mem_of_getElem? (i := 72) rfl)) (W := 0) (argsL := [(.int f), (.int t)]) (rest := []) (rm15 Z a0 hw f t h0 n0 (own_nlt ht hf hle)) rfl (pd_7) rfl rfl rfl (by decide) (by decide) (by decide) (by decide) (by decide)
  replace k := k.stk [] rfl
  have hN : (t - f).toInt = ((PB - PA : Nat) : Int) := own_sbN ht hf hle
  replace k := k.iloadN d14_5 rfl
  replace k := k.iloadN d14_6 rfl
  replace k := k.isub d14_7
  replace k := k.istoreN #[.val (.ref a1), .val (.int f), .val (.int t), .val (.int (t - f)), .unset] d14_8 rfl
  replace k := k.iloadN d14_9 rfl
  obtain ⟨h101, b101, g101, E101, A101, X101, k⟩ := k.newarr (ad := "[B") d14_10 (hw _ (List.mem_of_getElem? (i := 11) rfl)) (own_nn hN) (PB - PA) (own_at hN) 380 hS (by decide) (by decide) (by decide) (by decide)
  have ge_b101 : n0 ≤ b101 := Nat.le_trans Z0 (Nat.le_of_eq g101.symm)
  have sz_b101 : h0.size ≤ b101 := Nat.le_trans (Keep.refl h0 ([] : List Addr)).1 (Nat.le_of_eq g101.symm)
  have K101 : Keep h0 h101 [] := (Keep.refl h0 ([] : List Addr)).ext E101
  replace k := k.astore #[.val (.ref a1), .val (.int f), .val (.int t), .val (.int (t - f)), .val (.ref b101)] d14_12 rfl rfl
  replace k := k.aloadN d14_14 rfl rfl
  replace k := k.iloadN d14_15 rfl
  replace k := k.aload d14_16 rfl rfl
  replace k := k.iconst (0 : Int32) d14_18 rfl
  replace k := k.aloadN d14_19 rfl rfl
  replace k := k.arrlen d14_20 (A1.ext E101) (800 : Int32) (by decide)
  replace k := k.iloadN d14_21 rfl
  replace k := k.isub d14_22
  replace k := k.iloadN d14_23 rfl
  obtain ⟨_, _, ⟨rfl, rfl⟩, k⟩ := k.callS (y := (⟨"java/lang/Math", "min", "(II)I"⟩ : MethodName)) d14_24 (hw _ (List.mem_of_getElem? (i := 73) rfl)) (hw _ (List.mem_of_getElem? (i := 74) rfl)) (hw _ (List.mem_of_getElem? (i := 9) rfl)) (hw _ (List.mem_of_getElem? (i := 75) rfl)) (W := 4) (argsL := [(.int ((800 : Int32) - f)), (.int (t - f))]) (rest := [(.int (0 : Int32)), (.ref b101), (.int f), (.ref a1)]) (rm16 Z a0 hw ((800 : Int32) - f) (t - f) h101 n0) rfl (pd_1) rfl rfl rfl (by decide) (by decide) (by decide) (by decide) (by decide)
  replace k := k.stk [(.int (own_mn ((800 : Int32) - f) (t - f))), (.int (0 : Int32)), (.ref b101), (.int f), (.ref a1)] rfl
  replace k := k.stk [(.int (t - f)), (.int (0 : Int32)), (.ref b101), (.int f), (.ref a1)] (by rw [own_mnl ht hf hle hB])
  obtain ⟨h102, K102, A102, k⟩ := k.bcopy (W := 0) d14_27 (hw _ (List.mem_of_getElem? (i := 76) rfl)) (hw _ (List.mem_of_getElem? (i := 79) rfl)) (hw _ (List.mem_of_getElem? (i := 77) rfl)) (hw _ (List.mem_of_getElem? (i := 78) rfl)) (A1.ext E101) A101 (by decide) (fun i _ => own_derF hD i) (fun i _ => by decide) PA (own_at hf) (own_nn hf) (own_at hN) (own_nn hN) (by omega) ge_b101 rfl rfl (by decide) (by decide)
  have Kc103 : Keep h0 h102 [] := K101.trans K102 (allS (Or.inr sz_b101) all0)
  replace k := k.aload d14_30 rfl rfl
  exact k.aret d14_32 rfl rfl rfl rfl ⟨_, rfl, Kc103, sz_b101, A102, (X101.keep K102)⟩ (by decide) (by decide)

theorem d13_0 : decode jdk_65_method_132_code 0 = .ok (.iload_n 1, 1) := by decide +kernel
theorem d13_1 : decode jdk_65_method_132_code 1 = .ok (.ifCond .ne 9, 3) := by decide +kernel
theorem d13_10 : decode jdk_65_method_132_code 10 = .ok (.aload_n 0, 1) := by decide +kernel
theorem d13_11 : decode jdk_65_method_132_code 11 = .ok (.iload_n 1, 1) := by decide +kernel
theorem d13_12 : decode jdk_65_method_132_code 12 = .ok (.iload_n 2, 1) := by decide +kernel
theorem d13_13 : decode jdk_65_method_132_code 13 = .ok (.invokestatic 339, 3) := by decide +kernel
theorem d13_16 : decode jdk_65_method_132_code 16 = .ok (.areturn, 1) := by decide +kernel
set_option maxRecDepth 65536 in
set_option maxHeartbeats 40000000 in
theorem rm13 (Z : State) (a0 : Array Value) (hw : ∀ d ∈ tables_1, d.before a0 Z = true) (a1 : Addr) (f t : Int32) (PA PB : Nat) (G : Nat → Int32) (h0 : Heap) (n0 : Nat) (Z0 : n0 ≤ h0.size) (A1 : Arf Z h0 a1 .byte 800 (own_bf G)) (hD : own_der G) (hf : f.toInt = (PA : Int)) (ht : t.toInt = (PB : Int)) (h1 : 1 ≤ PA) (hle : PA ≤ PB) (hB : PB ≤ 800) (hS : PB - PA ≤ 380) :
    Con Z n0 (⟨"java/util/Arrays", "copyOfRange", "([BII)[B"⟩ : MethodName) jdk_65_method_132_code 3 (some (.array .byte)) [] ({ frames := 2, cells := 1, slots := 380, locals := 34 } : Room) #[(.ref a1), (.int f), (.int t)] h0 (fun v h => ∃ b, v = some (.ref b) ∧ Keep h0 h [] ∧ h0.size ≤ b ∧ Arf Z h b .byte (PB - PA) (own_bf (fun i => G (PA + i))) ∧ Exa Z h b "[B") := by
  refine Con.intro (L0 := #[.val (.ref a1), .val (.int f), .val (.int t)]) (plainFor_of_name (by first | (simp [plainName, overriddenIn]; done) | decide +kernel)) (fun m => by first | (simp [entryFrame, mkF, argsToLocals, Value.category]; done) | rfl) ?_
  intro C k
  replace k := k.iloadN d13_0 rfl
  replace k := k.ifYes (pc' := 10) d13_1 (feq (own_neN (B := 0) hf (by decide) (by omega))).2 (by decide) (by decide)
  replace k := k.aloadN d13_10 rfl rfl
  replace k := k.iloadN d13_11 rfl
  replace k := k.iloadN d13_12 rfl
  obtain ⟨_, hk101, ⟨bk101, rfl, Kk101, zk101, Ak101, Ek101⟩, k⟩ := k.callS (y := (⟨"java/util/Arrays", "copyOfRangeByte", "([BII)[B"⟩ : MethodName)) d13_13 (hw _ (List.mem_of_getElem? (i := 67) rfl)) (hw _ (List.mem_of_getElem? (i := 68) rfl)) (hw _ (List.mem_of_getElem? (i := 65) rfl)) (hw _ (List.mem_of_getElem? (i := 69) rfl)) (W := 0) (argsL := [(.ref a1), (.int f), (.int t)]) (rest := []) (rm14 Z a0 hw a1 f t PA PB G h0 n0 Z0 A1 hD hf ht h1 hle hB hS) rfl (pd_8) rfl rfl rfl (by decide) (by decide) (by decide) (by decide) (by decide)
  have Kc102 : Keep h0 hk101 [] := (Keep.refl h0 ([] : List Addr)).trans Kk101 all0
  replace k := k.stk [(.ref bk101)] rfl
  exact k.aret d13_16 rfl rfl rfl rfl ⟨_, rfl, Kk101, zk101, Ak101, Ek101⟩ (by decide) (by decide)

theorem d5_0 : decode prog_10_method_3_code 0 = .ok (.aload_n 0, 1) := by decide +kernel
theorem d5_1 : decode prog_10_method_3_code 1 = .ok (.iload_n 1, 1) := by decide +kernel
theorem d5_2 : decode prog_10_method_3_code 2 = .ok (.invokestatic 7, 3) := by decide +kernel
theorem d5_5 : decode prog_10_method_3_code 5 = .ok (.astore_n 2, 1) := by decide +kernel
theorem d5_6 : decode prog_10_method_3_code 6 = .ok (.new 13, 3) := by decide +kernel
theorem d5_9 : decode prog_10_method_3_code 9 = .ok (.dup, 1) := by decide +kernel
theorem d5_10 : decode prog_10_method_3_code 10 = .ok (.invokespecial 15, 3) := by decide +kernel
theorem d5_13 : decode prog_10_method_3_code 13 = .ok (.astore_n 3, 1) := by decide +kernel
theorem d5_14 : decode prog_10_method_3_code 14 = .ok (.aload_n 2, 1) := by decide +kernel
theorem d5_15 : decode prog_10_method_3_code 15 = .ok (.iconst 0, 1) := by decide +kernel
theorem d5_16 : decode prog_10_method_3_code 16 = .ok (.iaload, 1) := by decide +kernel
theorem d5_17 : decode prog_10_method_3_code 17 = .ok (.istore 4, 2) := by decide +kernel
theorem d5_19 : decode prog_10_method_3_code 19 = .ok (.iload 4, 2) := by decide +kernel
theorem d5_21 : decode prog_10_method_3_code 21 = .ok (.aload_n 2, 1) := by decide +kernel
theorem d5_22 : decode prog_10_method_3_code 22 = .ok (.iconst 1, 1) := by decide +kernel
theorem d5_23 : decode prog_10_method_3_code 23 = .ok (.iaload, 1) := by decide +kernel
theorem d5_24 : decode prog_10_method_3_code 24 = .ok (.if_icmp .ge 51, 3) := by decide +kernel
theorem d5_75 : decode prog_10_method_3_code 75 = .ok (.aload_n 3, 1) := by decide +kernel
theorem d5_76 : decode prog_10_method_3_code 76 = .ok (.areturn, 1) := by decide +kernel
set_option maxRecDepth 65536 in
set_option maxHeartbeats 40000000 in
theorem rm5_0 (Z : State) (a0 : Array Value) (hw : ∀ d ∈ tables_1, d.before a0 Z = true) (a1 aD : Addr) (p fo lo : Int32) (P FO LO : Nat) (G : Nat → Int32) (fD : Nat → Value) (h0 : Heap) (n0 : Nat) (Z0 : n0 ≤ h0.size) (S_D : Sta Z h0 "java/util/ArrayList" "DEFAULTCAPACITY_EMPTY_ELEMENTDATA" "[Ljava/lang/Object;" (.ref aD)) (A_D : Arf Z h0 aD (.object "java/lang/Object") 0 fD) (A1 : Arf Z h0 a1 .byte 800 (own_bf G)) (hD : own_der G) (hp : p.toInt = (P : Int)) (hh0 : own_hdr G P fo lo) (hfm0 : own_fm fo FO LO) (hl0 : lo.toInt = (LO : Int)) (hLO : LO = 0) (hB : P + 2 + FO + LO + 6 ≤ 800) :
    Con Z n0 (⟨"com/example/vidare/vidare/core/Der", "inside", "([BI)Ljava/util/List;"⟩ : MethodName) prog_10_method_3_code 6 (some (.object "java/util/List")) [] ({ frames := 4, cells := 2, slots := 5, locals := 49 } : Room) #[(.ref a1), (.int p)] h0 (fun v h => ∃ l d , v = some (.ref l) ∧ Keep h0 h [] ∧ Exa Z h l "java/util/ArrayList" ∧ Fld Z h l "java/util/ArrayList" "size" "I" (.int (0 : Int32)) ∧ Fld Z h l "java/util/ArrayList" "elementData" "[Ljava/lang/Object;" (.ref d)) := by
  refine Con.intro (L0 := #[.val (.ref a1), .val (.int p), .unset, .unset, .unset, .unset]) (plainFor_of_name (by first | (simp [plainName, overriddenIn]; done) | decide +kernel)) (fun m => by first | (simp [entryFrame, mkF, argsToLocals, Value.category]; done) | rfl) ?_
  intro C k
  have bF0 := hfm0.2.1
  replace k := k.aloadN d5_0 rfl rfl
  replace k := k.iloadN d5_1 rfl
  obtain ⟨_, hc101, ⟨bc101, qc101, ec101, rfl, Kc101, zc101, Ac101, hqc101, hec101⟩, k⟩ := k.callS (y := (⟨"com/example/vidare/vidare/core/Der", "contents", "([BI)[I"⟩ : MethodName)) d5_2 (hw _ (List.mem_of_getElem? (i := 19) rfl)) (hw _ (List.mem_of_getElem? (i := 20) rfl)) (hw _ (List.mem_of_getElem? (i := 17) rfl)) (hw _ (List.mem_of_getElem? (i := 21) rfl)) (W := 0) (argsL := [(.ref a1), (.int p)]) (rest := []) (rm6 Z a0 hw a1 p fo lo P FO LO G h0 n0 Z0 A1 hp hh0 hfm0 hl0 (by omega)) rfl (pd_9) rfl rfl rfl (by decide) (by decide) (by decide) (by decide) (by decide)
  have Kc102 : Keep h0 hc101 [] := (Keep.refl h0 ([] : List Addr)).trans Kc101 all0
  replace k := k.stk [(.ref bc101)] rfl
  replace k := k.astoreN #[.val (.ref a1), .val (.int p), .val (.ref bc101), .unset, .unset, .unset] d5_5 rfl rfl
  obtain ⟨h103, b103, g103, E103, A103, D103, k⟩ := k.newO d5_6 (hw _ (List.mem_of_getElem? (i := 23) rfl)) (hw _ (List.mem_of_getElem? (i := 24) rfl)) (hw _ (List.mem_of_getElem? (i := 25) rfl)) (by decide) (by decide)
  have ge_b103 : n0 ≤ b103 := Nat.le_trans (Nat.le_trans Z0 Kc101.1) (Nat.le_of_eq g103.symm)
  have sz_b103 : h0.size ≤ b103 := Nat.le_trans Kc102.1 (Nat.le_of_eq g103.symm)
  have K103 : Keep h0 h103 [] := Kc102.ext E103
  have F_modCount_b103 : Fld Z h103 b103 "java/util/AbstractList" "modCount" "I" (.int (0 : Int32)) := D103 (Or.inl (hw _ (List.mem_of_getElem? (i := 45) rfl))) (ty := .int) (by decide)
  have F_elementData_b103 : Fld Z h103 b103 "java/util/ArrayList" "elementData" "[Ljava/lang/Object;" .null := D103 (Or.inl (hw _ (List.mem_of_getElem? (i := 48) rfl))) (ty := (.array (.object "java/lang/Object"))) (by decide)
  have F_size_b103 : Fld Z h103 b103 "java/util/ArrayList" "size" "I" (.int (0 : Int32)) := D103 (Or.inl (hw _ (List.mem_of_getElem? (i := 59) rfl))) (ty := .int) (by decide)
  replace k := k.dup d5_9 rfl
  obtain ⟨_, hl104, ⟨rfl, Kl104, Fml104, Fel104, Fsl104⟩, k⟩ := k.callI (y := (⟨"java/util/ArrayList", "<init>", "()V"⟩ : MethodName)) (a := b103) d5_10 rfl (hw _ (List.mem_of_getElem? (i := 26) rfl)) (hw _ (List.mem_of_getElem? (i := 27) rfl)) (hw _ (List.mem_of_getElem? (i := 25) rfl)) (hw _ (List.mem_of_getElem? (i := 28) rfl)) (W := 1) (argsL := []) (rest := [(.ref b103)]) (rm7 Z a0 hw b103 aD h103 n0 (Nat.le_trans (Nat.le_trans Z0 Kc101.1) E103.1) ge_b103 A103 F_modCount_b103 F_elementData_b103 F_size_b103 (Sta.ext E103 (Sta.keepN S_D Kc101 all0))) rfl (pd_0) rfl rfl rfl (by decide) (by decide) (by decide) (by decide) (by decide)
  have Kc105 : Keep h0 hl104 [] := K103.trans Kl104 (allS (Or.inr sz_b103) all0)
  replace k := k.stk [(.ref b103)] rfl
  replace k := k.astoreN #[.val (.ref a1), .val (.int p), .val (.ref bc101), .val (.ref b103), .unset, .unset] d5_13 rfl rfl
  replace k := k.aloadN d5_14 rfl rfl
  replace k := k.iconst (0 : Int32) d5_15 rfl
  replace k := k.iaload d5_16 ((Ac101.ext E103).keep Kl104 (ninS (Nat.ne_of_lt (Nat.lt_of_lt_of_le Ac101.lt (Nat.le_of_eq g103.symm))) nin0))  0 (by decide) (by decide) (by decide) (.int qc101) rfl
  replace k := k.istore #[.val (.ref a1), .val (.int p), .val (.ref bc101), .val (.ref b103), .val (.int qc101), .unset] d5_17 rfl
  replace k := k.iload d5_19 rfl
  replace k := k.aloadN d5_21 rfl rfl
  replace k := k.iconst (1 : Int32) d5_22 rfl
  replace k := k.iaload d5_23 ((Ac101.ext E103).keep Kl104 (ninS (Nat.ne_of_lt (Nat.lt_of_lt_of_le Ac101.lt (Nat.le_of_eq g103.symm))) nin0))  1 (by decide) (by decide) (by decide) (.int ec101) rfl
  replace k := k.icmpYes (pc' := 75) d5_24 (flt (own_nlt hqc101 hec101 (by omega))).2.1 (by decide) (by decide)
  replace k := k.aloadN d5_75 rfl rfl
  exact k.aret d5_76 rfl rfl rfl rfl ⟨_, _, rfl, Kc105, (A103.keep Kl104), Fsl104, Fel104⟩ (by decide) (by decide)

theorem d5_27 : decode prog_10_method_3_code 27 = .ok (.aload_n 0, 1) := by decide +kernel
theorem d5_28 : decode prog_10_method_3_code 28 = .ok (.iload 4, 2) := by decide +kernel
theorem d5_30 : decode prog_10_method_3_code 30 = .ok (.invokestatic 7, 3) := by decide +kernel
theorem d5_33 : decode prog_10_method_3_code 33 = .ok (.iconst 1, 1) := by decide +kernel
theorem d5_34 : decode prog_10_method_3_code 34 = .ok (.iaload, 1) := by decide +kernel
theorem d5_35 : decode prog_10_method_3_code 35 = .ok (.istore 5, 2) := by decide +kernel
theorem d5_37 : decode prog_10_method_3_code 37 = .ok (.iload 5, 2) := by decide +kernel
theorem d5_39 : decode prog_10_method_3_code 39 = .ok (.aload_n 2, 1) := by decide +kernel
theorem d5_40 : decode prog_10_method_3_code 40 = .ok (.iconst 1, 1) := by decide +kernel
theorem d5_41 : decode prog_10_method_3_code 41 = .ok (.iaload, 1) := by decide +kernel
theorem d5_42 : decode prog_10_method_3_code 42 = .ok (.if_icmp .le 13, 3) := by decide +kernel
theorem d5_55 : decode prog_10_method_3_code 55 = .ok (.aload_n 3, 1) := by decide +kernel
theorem d5_56 : decode prog_10_method_3_code 56 = .ok (.aload_n 0, 1) := by decide +kernel
theorem d5_57 : decode prog_10_method_3_code 57 = .ok (.iload 4, 2) := by decide +kernel
theorem d5_59 : decode prog_10_method_3_code 59 = .ok (.iload 5, 2) := by decide +kernel
theorem d5_61 : decode prog_10_method_3_code 61 = .ok (.invokestatic 23, 3) := by decide +kernel
theorem d5_64 : decode prog_10_method_3_code 64 = .ok (.invokevirtual 29, 3) := by decide +kernel
theorem d5_67 : decode prog_10_method_3_code 67 = .ok (.pop, 1) := by decide +kernel
theorem d5_68 : decode prog_10_method_3_code 68 = .ok (.iload 5, 2) := by decide +kernel
theorem d5_70 : decode prog_10_method_3_code 70 = .ok (.istore 4, 2) := by decide +kernel
theorem d5_72 : decode prog_10_method_3_code 72 = .ok (.goto (-53), 3) := by decide +kernel
set_option maxRecDepth 65536 in
set_option maxHeartbeats 40000000 in
theorem rm5_1 (Z : State) (a0 : Array Value) (hw : ∀ d ∈ tables_1, d.before a0 Z = true) (a1 aD : Addr) (p fo lo : Int32) (P FO LO : Nat) (G : Nat → Int32) (fD : Nat → Value) (f1 l1 : Int32) (F1 L1 : Nat) (h0 : Heap) (n0 : Nat) (Z0 : n0 ≤ h0.size) (S_D : Sta Z h0 "java/util/ArrayList" "DEFAULTCAPACITY_EMPTY_ELEMENTDATA" "[Ljava/lang/Object;" (.ref aD)) (A_D : Arf Z h0 aD (.object "java/lang/Object") 0 fD) (A1 : Arf Z h0 a1 .byte 800 (own_bf G)) (hD : own_der G) (hp : p.toInt = (P : Int)) (hh0 : own_hdr G P fo lo) (hfm0 : own_fm fo FO LO) (hl0 : lo.toInt = (LO : Int)) (hLO : LO = (2 + F1 + L1)) (hB : P + 2 + FO + LO + 6 ≤ 800) (hh1 : own_hdr G (P + 2 + FO) f1 l1) (hfm1 : own_fm f1 F1 L1) (hl1 : l1.toInt = (L1 : Int)) (hm1 : L1 ≤ 375) :
    Con Z n0 (⟨"com/example/vidare/vidare/core/Der", "inside", "([BI)Ljava/util/List;"⟩ : MethodName) prog_10_method_3_code 6 (some (.object "java/util/List")) [] ({ frames := 5, cells := 5, slots := 397, locals := 69 } : Room) #[(.ref a1), (.int p)] h0 (fun v h => ∃ l d x1, v = some (.ref l) ∧ Keep h0 h [] ∧ Exa Z h l "java/util/ArrayList" ∧ Fld Z h l "java/util/ArrayList" "size" "I" (.int (1 : Int32)) ∧ Fld Z h l "java/util/ArrayList" "elementData" "[Ljava/lang/Object;" (.ref d) ∧ Arf Z h d (.object "java/lang/Object") 10 (updV (fun _ => .null) 0 (.ref x1)) ∧ Arf Z h x1 .byte ((P + 2 + FO) + (2 + F1 + L1) - (P + 2 + FO)) (own_bf (fun i => G ((P + 2 + FO) + i))) ∧ Exa Z h x1 "[B") := by
  refine Con.intro (L0 := #[.val (.ref a1), .val (.int p), .unset, .unset, .unset, .unset]) (plainFor_of_name (by first | (simp [plainName, overriddenIn]; done) | decide +kernel)) (fun m => by first | (simp [entryFrame, mkF, argsToLocals, Value.category]; done) | rfl) ?_
  intro C k
  have bF0 := hfm0.2.1
  have bF1 := hfm1.2.1
  replace k := k.aloadN d5_0 rfl rfl
  replace k := k.iloadN d5_1 rfl
  obtain ⟨_, hc101, ⟨bc101, qc101, ec101, rfl, Kc101, zc101, Ac101, hqc101, hec101⟩, k⟩ := k.callS (y := (⟨"com/example/vidare/vidare/core/Der", "contents", "([BI)[I"⟩ : MethodName)) d5_2 (hw _ (List.mem_of_getElem? (i := 19) rfl)) (hw _ (List.mem_of_getElem? (i := 20) rfl)) (hw _ (List.mem_of_getElem? (i := 17) rfl)) (hw _ (List.mem_of_getElem? (i := 21) rfl)) (W := 0) (argsL := [(.ref a1), (.int p)]) (rest := []) (rm6 Z a0 hw a1 p fo lo P FO LO G h0 n0 Z0 A1 hp hh0 hfm0 hl0 (by omega)) rfl (pd_9) rfl rfl rfl (by decide) (by decide) (by decide) (by decide) (by decide)
  have Kc102 : Keep h0 hc101 [] := (Keep.refl h0 ([] : List Addr)).trans Kc101 all0
  replace k := k.stk [(.ref bc101)] rfl
  replace k := k.astoreN #[.val (.ref a1), .val (.int p), .val (.ref bc101), .unset, .unset, .unset] d5_5 rfl rfl
  obtain ⟨h103, b103, g103, E103, A103, D103, k⟩ := k.newO d5_6 (hw _ (List.mem_of_getElem? (i := 23) rfl)) (hw _ (List.mem_of_getElem? (i := 24) rfl)) (hw _ (List.mem_of_getElem? (i := 25) rfl)) (by decide) (by decide)
  have ge_b103 : n0 ≤ b103 := Nat.le_trans (Nat.le_trans Z0 Kc101.1) (Nat.le_of_eq g103.symm)
  have sz_b103 : h0.size ≤ b103 := Nat.le_trans Kc102.1 (Nat.le_of_eq g103.symm)
  have K103 : Keep h0 h103 [] := Kc102.ext E103
  have F_modCount_b103 : Fld Z h103 b103 "java/util/AbstractList" "modCount" "I" (.int (0 : Int32)) := D103 (Or.inl (hw _ (List.mem_of_getElem? (i := 45) rfl))) (ty := .int) (by decide)
  have F_elementData_b103 : Fld Z h103 b103 "java/util/ArrayList" "elementData" "[Ljava/lang/Object;" .null := D103 (Or.inl (hw _ (List.mem_of_getElem? (i := 48) rfl))) (ty := (.array (.object "java/lang/Object"))) (by decide)
  have F_size_b103 : Fld Z h103 b103 "java/util/ArrayList" "size" "I" (.int (0 : Int32)) := D103 (Or.inl (hw _ (List.mem_of_getElem? (i := 59) rfl))) (ty := .int) (by decide)
  replace k := k.dup d5_9 rfl
  obtain ⟨_, hl104, ⟨rfl, Kl104, Fml104, Fel104, Fsl104⟩, k⟩ := k.callI (y := (⟨"java/util/ArrayList", "<init>", "()V"⟩ : MethodName)) (a := b103) d5_10 rfl (hw _ (List.mem_of_getElem? (i := 26) rfl)) (hw _ (List.mem_of_getElem? (i := 27) rfl)) (hw _ (List.mem_of_getElem? (i := 25) rfl)) (hw _ (List.mem_of_getElem? (i := 28) rfl)) (W := 1) (argsL := []) (rest := [(.ref b103)]) (rm7 Z a0 hw b103 aD h103 n0 (Nat.le_trans (Nat.le_trans Z0 Kc101.1) E103.1) ge_b103 A103 F_modCount_b103 F_elementData_b103 F_size_b103 (Sta.ext E103 (Sta.keepN S_D Kc101 all0))) rfl (pd_0) rfl rfl rfl (by decide) (by decide) (by decide) (by decide) (by decide)
  have Kc105 : Keep h0 hl104 [] := K103.trans Kl104 (allS (Or.inr sz_b103) all0)
  replace k := k.stk [(.ref b103)] rfl
  replace k := k.astoreN #[.val (.ref a1), .val (.int p), .val (.ref bc101), .val (.ref b103), .unset, .unset] d5_13 rfl rfl
  replace k := k.aloadN d5_14 rfl rfl
  replace k := k.iconst (0 : Int32) d5_15 rfl
  replace k := k.iaload d5_16 ((Ac101.ext E103).keep Kl104 (ninS (Nat.ne_of_lt (Nat.lt_of_lt_of_le Ac101.lt (Nat.le_of_eq g103.symm))) nin0))  0 (by decide) (by decide) (by decide) (.int qc101) rfl
  replace k := k.istore #[.val (.ref a1), .val (.int p), .val (.ref bc101), .val (.ref b103), .val (.int qc101), .unset] d5_17 rfl
  replace k := k.iload d5_19 rfl
  replace k := k.aloadN d5_21 rfl rfl
  replace k := k.iconst (1 : Int32) d5_22 rfl
  replace k := k.iaload d5_23 ((Ac101.ext E103).keep Kl104 (ninS (Nat.ne_of_lt (Nat.lt_of_lt_of_le Ac101.lt (Nat.le_of_eq g103.symm))) nin0))  1 (by decide) (by decide) (by decide) (.int ec101) rfl
  replace k := k.icmpNo d5_24 (tlt (own_ltI hqc101 hec101 (by omega))).2.1
  replace k := k.aloadN d5_27 rfl rfl
  replace k := k.iload d5_28 rfl
  obtain ⟨_, hc106, ⟨bc106, qc106, ec106, rfl, Kc106, zc106, Ac106, hqc106, hec106⟩, k⟩ := k.callS (y := (⟨"com/example/vidare/vidare/core/Der", "contents", "([BI)[I"⟩ : MethodName)) d5_30 (hw _ (List.mem_of_getElem? (i := 19) rfl)) (hw _ (List.mem_of_getElem? (i := 20) rfl)) (hw _ (List.mem_of_getElem? (i := 17) rfl)) (hw _ (List.mem_of_getElem? (i := 21) rfl)) (W := 0) (argsL := [(.ref a1), (.int qc101)]) (rest := []) (rm6 Z a0 hw a1 qc101 f1 l1 (P + 2 + FO) F1 L1 G hl104 n0 (Nat.le_trans (Nat.le_trans (Nat.le_trans Z0 Kc101.1) E103.1) Kl104.1) (((A1.keep Kc101 nin0).ext E103).keep Kl104 (ninS (Nat.ne_of_lt (Nat.lt_of_lt_of_le (A1.keep Kc101 nin0).lt (Nat.le_of_eq g103.symm))) nin0)) hqc101 hh1 hfm1 hl1 (by omega)) rfl (pd_9) rfl rfl rfl (by decide) (by decide) (by decide) (by decide) (by decide)
  have Kc107 : Keep h0 hc106 [] := Kc105.trans Kc106 all0
  replace k := k.stk [(.ref bc106)] rfl
  have hec106' : ec106.toInt = (((P + 2 + FO) + (2 + F1 + L1) : Nat) : Int) := hec106.trans (by omega)
  replace k := k.iconst (1 : Int32) d5_33 rfl
  replace k := k.iaload d5_34 Ac106  1 (by decide) (by decide) (by decide) (.int ec106) rfl
  replace k := k.istore #[.val (.ref a1), .val (.int p), .val (.ref bc101), .val (.ref b103), .val (.int qc101), .val (.int ec106)] d5_35 rfl
  replace k := k.iload d5_37 rfl
  replace k := k.aloadN d5_39 rfl rfl
  replace k := k.iconst (1 : Int32) d5_40 rfl
  replace k := k.iaload d5_41 (((Ac101.ext E103).keep Kl104 (ninS (Nat.ne_of_lt (Nat.lt_of_lt_of_le Ac101.lt (Nat.le_of_eq g103.symm))) nin0)).keep Kc106 nin0)  1 (by decide) (by decide) (by decide) (.int ec101) rfl
  replace k := k.icmpYes (pc' := 55) d5_42 (flt (own_nlt hec101 hec106' (by omega))).2.2.2 (by decide) (by decide)
  replace k := k.aloadN d5_55 rfl rfl
  replace k := k.aloadN d5_56 rfl rfl
  replace k := k.iload d5_57 rfl
  replace k := k.iload d5_59 rfl
  obtain ⟨_, hk108, ⟨bk108, rfl, Kk108, zk108, Ak108, Ek108⟩, k⟩ := k.callS (y := (⟨"java/util/Arrays", "copyOfRange", "([BII)[B"⟩ : MethodName)) d5_61 (hw _ (List.mem_of_getElem? (i := 63) rfl)) (hw _ (List.mem_of_getElem? (i := 64) rfl)) (hw _ (List.mem_of_getElem? (i := 65) rfl)) (hw _ (List.mem_of_getElem? (i := 66) rfl)) (W := 1) (argsL := [(.ref a1), (.int qc101), (.int ec106)]) (rest := [(.ref b103)]) (rm13 Z a0 hw a1 qc101 ec106 (P + 2 + FO) ((P + 2 + FO) + (2 + F1 + L1)) G hc106 n0 (Nat.le_trans (Nat.le_trans (Nat.le_trans (Nat.le_trans Z0 Kc101.1) E103.1) Kl104.1) Kc106.1) ((((A1.keep Kc101 nin0).ext E103).keep Kl104 (ninS (Nat.ne_of_lt (Nat.lt_of_lt_of_le (A1.keep Kc101 nin0).lt (Nat.le_of_eq g103.symm))) nin0)).keep Kc106 nin0) hD hqc101 hec106' (by omega) (by omega) (by omega) (by omega)) rfl (pd_8) rfl rfl rfl (by decide) (by decide) (by decide) (by decide) (by decide)
  have Kc109 : Keep h0 hk108 [] := Kc107.trans Kk108 all0
  replace k := k.stk [(.ref bk108), (.ref b103)] rfl
  obtain ⟨_, ha110, ⟨rfl, Ka110, Fma110, Fsa110, da110, za110, gda110, Fea110, Aa110, Oa110⟩, k⟩ := k.callV (y := (⟨"java/util/ArrayList", "add", "(Ljava/lang/Object;)Z"⟩ : MethodName)) (z := (⟨"java/util/ArrayList", "add", "(Ljava/lang/Object;)Z"⟩ : MethodName)) (a := b103) d5_64 (hw _ (List.mem_of_getElem? (i := 80) rfl)) (hw _ (List.mem_of_getElem? (i := 81) rfl)) (fun s hs => notFace_of_selects (args := #[]) (mvT hs (hw _ (List.mem_of_getElem? (i := 83) rfl)))) (hw _ (List.mem_of_getElem? (i := 83) rfl)) (hw _ (List.mem_of_getElem? (i := 82) rfl)) (hw _ (List.mem_of_getElem? (i := 25) rfl)) (hw _ (List.mem_of_getElem? (i := 84) rfl)) (((A103.keep Kl104).keep Kc106).keep Kk108) (W := 0) (argsL := [(.ref bk108)]) (rest := []) (rm17_0 Z a0 hw b103 bk108 aD (0 : Int32) _ hk108 n0 (Nat.le_trans (Nat.le_trans (Nat.le_trans (Nat.le_trans (Nat.le_trans Z0 Kc101.1) E103.1) Kl104.1) Kc106.1) Kk108.1) ge_b103 (((A103.keep Kl104).keep Kc106).keep Kk108) ((Fml104.keep Kc106 nin0).keep Kk108 nin0) ((Fel104.keep Kc106 nin0).keep Kk108 nin0) ((Fsl104.keep Kc106 nin0).keep Kk108 nin0) (Sta.keepN (Sta.keepN (Sta.keepN (Sta.ext E103 (Sta.keepN S_D Kc101 all0)) Kl104 (allS (Exa.nost A103) all0)) Kc106 all0) Kk108 all0) (((((A_D.keep Kc101 nin0).ext E103).keep Kl104 (ninS (Nat.ne_of_lt (Nat.lt_of_lt_of_le (A_D.keep Kc101 nin0).lt (Nat.le_of_eq g103.symm))) nin0)).keep Kc106 nin0).keep Kk108 nin0) (Nat.ne_of_lt (Nat.lt_of_lt_of_le (A_D.keep Kc101 nin0).lt (Nat.le_of_eq g103.symm))) Ek108) rfl (pd_10) rfl rfl rfl (by decide) (by decide) (by decide) (by decide) (by decide)
  have Kc111 : Keep h0 ha110 [] := Kc109.trans Ka110 (allS (Or.inr sz_b103) all0)
  replace k := k.stk [(.int (1 : Int32))] rfl
  have zza110 : h0.size ≤ da110 := Nat.le_trans Kc109.1 za110
  replace k := k.pop d5_67 rfl
  replace k := k.iload d5_68 rfl
  replace k := k.istore #[.val (.ref a1), .val (.int p), .val (.ref bc101), .val (.ref b103), .val (.int ec106), .val (.int ec106)] d5_70 rfl
  replace k := k.goto (pc' := 19) d5_72 (by decide) (by decide)
  replace k := k.iload d5_19 rfl
  replace k := k.aloadN d5_21 rfl rfl
  replace k := k.iconst (1 : Int32) d5_22 rfl
  replace k := k.iaload d5_23 (((((Ac101.ext E103).keep Kl104 (ninS (Nat.ne_of_lt (Nat.lt_of_lt_of_le Ac101.lt (Nat.le_of_eq g103.symm))) nin0)).keep Kc106 nin0).keep Kk108 nin0).keep Ka110 (ninS (Nat.ne_of_lt (Nat.lt_of_lt_of_le Ac101.lt (Nat.le_of_eq g103.symm))) nin0))  1 (by decide) (by decide) (by decide) (.int ec101) rfl
  replace k := k.icmpYes (pc' := 75) d5_24 (flt (own_nlt hec106' hec101 (by omega))).2.1 (by decide) (by decide)
  replace k := k.aloadN d5_75 rfl rfl
  exact k.aret d5_76 rfl rfl rfl rfl ⟨_, _, _, rfl, Kc111, ((((A103.keep Kl104).keep Kc106).keep Kk108).keep Ka110), Fsa110, Fea110, Aa110, (Ak108.keep Ka110 (ninS (Ne.symm (Nat.ne_of_lt (Nat.lt_of_lt_of_le ((A103.keep Kl104).keep Kc106).lt zk108))) nin0)), (Ek108.keep Ka110)⟩ (by decide) (by decide)

set_option maxRecDepth 65536 in
set_option maxHeartbeats 40000000 in
theorem rm5_2 (Z : State) (a0 : Array Value) (hw : ∀ d ∈ tables_1, d.before a0 Z = true) (a1 aD : Addr) (p fo lo : Int32) (P FO LO : Nat) (G : Nat → Int32) (fD : Nat → Value) (f1 l1 : Int32) (F1 L1 : Nat) (f2 l2 : Int32) (F2 L2 : Nat) (h0 : Heap) (n0 : Nat) (Z0 : n0 ≤ h0.size) (S_D : Sta Z h0 "java/util/ArrayList" "DEFAULTCAPACITY_EMPTY_ELEMENTDATA" "[Ljava/lang/Object;" (.ref aD)) (A_D : Arf Z h0 aD (.object "java/lang/Object") 0 fD) (A1 : Arf Z h0 a1 .byte 800 (own_bf G)) (hD : own_der G) (hp : p.toInt = (P : Int)) (hh0 : own_hdr G P fo lo) (hfm0 : own_fm fo FO LO) (hl0 : lo.toInt = (LO : Int)) (hLO : LO = (2 + F1 + L1 + (2 + F2 + L2))) (hB : P + 2 + FO + LO + 6 ≤ 800) (hh1 : own_hdr G (P + 2 + FO) f1 l1) (hfm1 : own_fm f1 F1 L1) (hl1 : l1.toInt = (L1 : Int)) (hm1 : L1 ≤ 375) (hh2 : own_hdr G (P + 2 + FO + (2 + F1 + L1)) f2 l2) (hfm2 : own_fm f2 F2 L2) (hl2 : l2.toInt = (L2 : Int)) (hm2 : L2 ≤ 375) :
    Con Z n0 (⟨"com/example/vidare/vidare/core/Der", "inside", "([BI)Ljava/util/List;"⟩ : MethodName) prog_10_method_3_code 6 (some (.object "java/util/List")) [] ({ frames := 5, cells := 7, slots := 779, locals := 69 } : Room) #[(.ref a1), (.int p)] h0 (fun v h => ∃ l d x1 x2, v = some (.ref l) ∧ Keep h0 h [] ∧ Exa Z h l "java/util/ArrayList" ∧ Fld Z h l "java/util/ArrayList" "size" "I" (.int (2 : Int32)) ∧ Fld Z h l "java/util/ArrayList" "elementData" "[Ljava/lang/Object;" (.ref d) ∧ Arf Z h d (.object "java/lang/Object") 10 (updV (updV (fun _ => .null) 0 (.ref x1)) 1 (.ref x2)) ∧ Arf Z h x1 .byte ((P + 2 + FO) + (2 + F1 + L1) - (P + 2 + FO)) (own_bf (fun i => G ((P + 2 + FO) + i))) ∧ Exa Z h x1 "[B" ∧ Arf Z h x2 .byte ((P + 2 + FO + (2 + F1 + L1)) + (2 + F2 + L2) - (P + 2 + FO + (2 + F1 + L1))) (own_bf (fun i => G ((P + 2 + FO + (2 + F1 + L1)) + i))) ∧ Exa Z h x2 "[B") := by
  refine Con.intro (L0 := #[.val (.ref a1), .val (.int p), .unset, .unset, .unset, .unset]) (plainFor_of_name (by first | (simp [plainName, overriddenIn]; done) | decide +kernel)) (fun m => by first | (simp [entryFrame, mkF, argsToLocals, Value.category]; done) | rfl) ?_
  intro C k
  have bF0 := hfm0.2.1
  have bF1 := hfm1.2.1
  have bF2 := hfm2.2.1
  replace k := k.aloadN d5_0 rfl rfl
  replace k := k.iloadN d5_1 rfl
  obtain ⟨_, hc101, ⟨bc101, qc101, ec101, rfl, Kc101, zc101, Ac101, hqc101, hec101⟩, k⟩ := k.callS (y := (⟨"com/example/vidare/vidare/core/Der", "contents", "([BI)[I"⟩ : MethodName)) d5_2 (hw _ (List.mem_of_getElem? (i := 19) rfl)) (hw _ (List.mem_of_getElem? (i := 20) rfl)) (hw _ (List.mem_of_getElem? (i := 17) rfl)) (hw _ (List.mem_of_getElem? (i := 21) rfl)) (W := 0) (argsL := [(.ref a1), (.int p)]) (rest := []) (rm6 Z a0 hw a1 p fo lo P FO LO G h0 n0 Z0 A1 hp hh0 hfm0 hl0 (by omega)) rfl (pd_9) rfl rfl rfl (by decide) (by decide) (by decide) (by decide) (by decide)
  have Kc102 : Keep h0 hc101 [] := (Keep.refl h0 ([] : List Addr)).trans Kc101 all0
  replace k := k.stk [(.ref bc101)] rfl
  replace k := k.astoreN #[.val (.ref a1), .val (.int p), .val (.ref bc101), .unset, .unset, .unset] d5_5 rfl rfl
  obtain ⟨h103, b103, g103, E103, A103, D103, k⟩ := k.newO d5_6 (hw _ (List.mem_of_getElem? (i := 23) rfl)) (hw _ (List.mem_of_getElem? (i := 24) rfl)) (hw _ (List.mem_of_getElem? (i := 25) rfl)) (by decide) (by decide)
  have ge_b103 : n0 ≤ b103 := Nat.le_trans (Nat.le_trans Z0 Kc101.1) (Nat.le_of_eq g103.symm)
  have sz_b103 : h0.size ≤ b103 := Nat.le_trans Kc102.1 (Nat.le_of_eq g103.symm)
  have K103 : Keep h0 h103 [] := Kc102.ext E103
  have F_modCount_b103 : Fld Z h103 b103 "java/util/AbstractList" "modCount" "I" (.int (0 : Int32)) := D103 (Or.inl (hw _ (List.mem_of_getElem? (i := 45) rfl))) (ty := .int) (by decide)
  have F_elementData_b103 : Fld Z h103 b103 "java/util/ArrayList" "elementData" "[Ljava/lang/Object;" .null := D103 (Or.inl (hw _ (List.mem_of_getElem? (i := 48) rfl))) (ty := (.array (.object "java/lang/Object"))) (by decide)
  have F_size_b103 : Fld Z h103 b103 "java/util/ArrayList" "size" "I" (.int (0 : Int32)) := D103 (Or.inl (hw _ (List.mem_of_getElem? (i := 59) rfl))) (ty := .int) (by decide)
  replace k := k.dup d5_9 rfl
  obtain ⟨_, hl104, ⟨rfl, Kl104, Fml104, Fel104, Fsl104⟩, k⟩ := k.callI (y := (⟨"java/util/ArrayList", "<init>", "()V"⟩ : MethodName)) (a := b103) d5_10 rfl (hw _ (List.mem_of_getElem? (i := 26) rfl)) (hw _ (List.mem_of_getElem? (i := 27) rfl)) (hw _ (List.mem_of_getElem? (i := 25) rfl)) (hw _ (List.mem_of_getElem? (i := 28) rfl)) (W := 1) (argsL := []) (rest := [(.ref b103)]) (rm7 Z a0 hw b103 aD h103 n0 (Nat.le_trans (Nat.le_trans Z0 Kc101.1) E103.1) ge_b103 A103 F_modCount_b103 F_elementData_b103 F_size_b103 (Sta.ext E103 (Sta.keepN S_D Kc101 all0))) rfl (pd_0) rfl rfl rfl (by decide) (by decide) (by decide) (by decide) (by decide)
  have Kc105 : Keep h0 hl104 [] := K103.trans Kl104 (allS (Or.inr sz_b103) all0)
  replace k := k.stk [(.ref b103)] rfl
  replace k := k.astoreN #[.val (.ref a1), .val (.int p), .val (.ref bc101), .val (.ref b103), .unset, .unset] d5_13 rfl rfl
  replace k := k.aloadN d5_14 rfl rfl
  replace k := k.iconst (0 : Int32) d5_15 rfl
  replace k := k.iaload d5_16 ((Ac101.ext E103).keep Kl104 (ninS (Nat.ne_of_lt (Nat.lt_of_lt_of_le Ac101.lt (Nat.le_of_eq g103.symm))) nin0))  0 (by decide) (by decide) (by decide) (.int qc101) rfl
  replace k := k.istore #[.val (.ref a1), .val (.int p), .val (.ref bc101), .val (.ref b103), .val (.int qc101), .unset] d5_17 rfl
  replace k := k.iload d5_19 rfl
  replace k := k.aloadN d5_21 rfl rfl
  replace k := k.iconst (1 : Int32) d5_22 rfl
  replace k := k.iaload d5_23 ((Ac101.ext E103).keep Kl104 (ninS (Nat.ne_of_lt (Nat.lt_of_lt_of_le Ac101.lt (Nat.le_of_eq g103.symm))) nin0))  1 (by decide) (by decide) (by decide) (.int ec101) rfl
  replace k := k.icmpNo d5_24 (tlt (own_ltI hqc101 hec101 (by omega))).2.1
  replace k := k.aloadN d5_27 rfl rfl
  replace k := k.iload d5_28 rfl
  obtain ⟨_, hc106, ⟨bc106, qc106, ec106, rfl, Kc106, zc106, Ac106, hqc106, hec106⟩, k⟩ := k.callS (y := (⟨"com/example/vidare/vidare/core/Der", "contents", "([BI)[I"⟩ : MethodName)) d5_30 (hw _ (List.mem_of_getElem? (i := 19) rfl)) (hw _ (List.mem_of_getElem? (i := 20) rfl)) (hw _ (List.mem_of_getElem? (i := 17) rfl)) (hw _ (List.mem_of_getElem? (i := 21) rfl)) (W := 0) (argsL := [(.ref a1), (.int qc101)]) (rest := []) (rm6 Z a0 hw a1 qc101 f1 l1 (P + 2 + FO) F1 L1 G hl104 n0 (Nat.le_trans (Nat.le_trans (Nat.le_trans Z0 Kc101.1) E103.1) Kl104.1) (((A1.keep Kc101 nin0).ext E103).keep Kl104 (ninS (Nat.ne_of_lt (Nat.lt_of_lt_of_le (A1.keep Kc101 nin0).lt (Nat.le_of_eq g103.symm))) nin0)) hqc101 hh1 hfm1 hl1 (by omega)) rfl (pd_9) rfl rfl rfl (by decide) (by decide) (by decide) (by decide) (by decide)
  have Kc107 : Keep h0 hc106 [] := Kc105.trans Kc106 all0
  replace k := k.stk [(.ref bc106)] rfl
  have hec106' : ec106.toInt = (((P + 2 + FO) + (2 + F1 + L1) : Nat) : Int) := hec106.trans (by omega)
  replace k := k.iconst (1 : Int32) d5_33 rfl
  replace k := k.iaload d5_34 Ac106  1 (by decide) (by decide) (by decide) (.int ec106) rfl
  replace k := k.istore #[.val (.ref a1), .val (.int p), .val (.ref bc101), .val (.ref b103), .val (.int qc101), .val (.int ec106)] d5_35 rfl
  replace k := k.iload d5_37 rfl
  replace k := k.aloadN d5_39 rfl rfl
  replace k := k.iconst (1 : Int32) d5_40 rfl
  replace k := k.iaload d5_41 (((Ac101.ext E103).keep Kl104 (ninS (Nat.ne_of_lt (Nat.lt_of_lt_of_le Ac101.lt (Nat.le_of_eq g103.symm))) nin0)).keep Kc106 nin0)  1 (by decide) (by decide) (by decide) (.int ec101) rfl
  replace k := k.icmpYes (pc' := 55) d5_42 (flt (own_nlt hec101 hec106' (by omega))).2.2.2 (by decide) (by decide)
  replace k := k.aloadN d5_55 rfl rfl
  replace k := k.aloadN d5_56 rfl rfl
  replace k := k.iload d5_57 rfl
  replace k := k.iload d5_59 rfl
  obtain ⟨_, hk108, ⟨bk108, rfl, Kk108, zk108, Ak108, Ek108⟩, k⟩ := k.callS (y := (⟨"java/util/Arrays", "copyOfRange", "([BII)[B"⟩ : MethodName)) d5_61 (hw _ (List.mem_of_getElem? (i := 63) rfl)) (hw _ (List.mem_of_getElem? (i := 64) rfl)) (hw _ (List.mem_of_getElem? (i := 65) rfl)) (hw _ (List.mem_of_getElem? (i := 66) rfl)) (W := 1) (argsL := [(.ref a1), (.int qc101), (.int ec106)]) (rest := [(.ref b103)]) (rm13 Z a0 hw a1 qc101 ec106 (P + 2 + FO) ((P + 2 + FO) + (2 + F1 + L1)) G hc106 n0 (Nat.le_trans (Nat.le_trans (Nat.le_trans (Nat.le_trans Z0 Kc101.1) E103.1) Kl104.1) Kc106.1) ((((A1.keep Kc101 nin0).ext E103).keep Kl104 (ninS (Nat.ne_of_lt (Nat.lt_of_lt_of_le (A1.keep Kc101 nin0).lt (Nat.le_of_eq g103.symm))) nin0)).keep Kc106 nin0) hD hqc101 hec106' (by omega) (by omega) (by omega) (by omega)) rfl (pd_8) rfl rfl rfl (by decide) (by decide) (by decide) (by decide) (by decide)
  have Kc109 : Keep h0 hk108 [] := Kc107.trans Kk108 all0
  replace k := k.stk [(.ref bk108), (.ref b103)] rfl
  obtain ⟨_, ha110, ⟨rfl, Ka110, Fma110, Fsa110, da110, za110, gda110, Fea110, Aa110, Oa110⟩, k⟩ := k.callV (y := (⟨"java/util/ArrayList", "add", "(Ljava/lang/Object;)Z"⟩ : MethodName)) (z := (⟨"java/util/ArrayList", "add", "(Ljava/lang/Object;)Z"⟩ : MethodName)) (a := b103) d5_64 (hw _ (List.mem_of_getElem? (i := 80) rfl)) (hw _ (List.mem_of_getElem? (i := 81) rfl)) (fun s hs => notFace_of_selects (args := #[]) (mvT hs (hw _ (List.mem_of_getElem? (i := 83) rfl)))) (hw _ (List.mem_of_getElem? (i := 83) rfl)) (hw _ (List.mem_of_getElem? (i := 82) rfl)) (hw _ (List.mem_of_getElem? (i := 25) rfl)) (hw _ (List.mem_of_getElem? (i := 84) rfl)) (((A103.keep Kl104).keep Kc106).keep Kk108) (W := 0) (argsL := [(.ref bk108)]) (rest := []) (rm17_0 Z a0 hw b103 bk108 aD (0 : Int32) _ hk108 n0 (Nat.le_trans (Nat.le_trans (Nat.le_trans (Nat.le_trans (Nat.le_trans Z0 Kc101.1) E103.1) Kl104.1) Kc106.1) Kk108.1) ge_b103 (((A103.keep Kl104).keep Kc106).keep Kk108) ((Fml104.keep Kc106 nin0).keep Kk108 nin0) ((Fel104.keep Kc106 nin0).keep Kk108 nin0) ((Fsl104.keep Kc106 nin0).keep Kk108 nin0) (Sta.keepN (Sta.keepN (Sta.keepN (Sta.ext E103 (Sta.keepN S_D Kc101 all0)) Kl104 (allS (Exa.nost A103) all0)) Kc106 all0) Kk108 all0) (((((A_D.keep Kc101 nin0).ext E103).keep Kl104 (ninS (Nat.ne_of_lt (Nat.lt_of_lt_of_le (A_D.keep Kc101 nin0).lt (Nat.le_of_eq g103.symm))) nin0)).keep Kc106 nin0).keep Kk108 nin0) (Nat.ne_of_lt (Nat.lt_of_lt_of_le (A_D.keep Kc101 nin0).lt (Nat.le_of_eq g103.symm))) Ek108) rfl (pd_10) rfl rfl rfl (by decide) (by decide) (by decide) (by decide) (by decide)
  have Kc111 : Keep h0 ha110 [] := Kc109.trans Ka110 (allS (Or.inr sz_b103) all0)
  replace k := k.stk [(.int (1 : Int32))] rfl
  have zza110 : h0.size ≤ da110 := Nat.le_trans Kc109.1 za110
  replace k := k.pop d5_67 rfl
  replace k := k.iload d5_68 rfl
  replace k := k.istore #[.val (.ref a1), .val (.int p), .val (.ref bc101), .val (.ref b103), .val (.int ec106), .val (.int ec106)] d5_70 rfl
  replace k := k.goto (pc' := 19) d5_72 (by decide) (by decide)
  replace k := k.iload d5_19 rfl
  replace k := k.aloadN d5_21 rfl rfl
  replace k := k.iconst (1 : Int32) d5_22 rfl
  replace k := k.iaload d5_23 (((((Ac101.ext E103).keep Kl104 (ninS (Nat.ne_of_lt (Nat.lt_of_lt_of_le Ac101.lt (Nat.le_of_eq g103.symm))) nin0)).keep Kc106 nin0).keep Kk108 nin0).keep Ka110 (ninS (Nat.ne_of_lt (Nat.lt_of_lt_of_le Ac101.lt (Nat.le_of_eq g103.symm))) nin0))  1 (by decide) (by decide) (by decide) (.int ec101) rfl
  replace k := k.icmpNo d5_24 (tlt (own_ltI hec106' hec101 (by omega))).2.1
  replace k := k.aloadN d5_27 rfl rfl
  replace k := k.iload d5_28 rfl
  obtain ⟨_, hc112, ⟨bc112, qc112, ec112, rfl, Kc112, zc112, Ac112, hqc112, hec112⟩, k⟩ := k.callS (y := (⟨"com/example/vidare/vidare/core/Der", "contents", "([BI)[I"⟩ : MethodName)) d5_30 (hw _ (List.mem_of_getElem? (i := 19) rfl)) (hw _ (List.mem_of_getElem? (i := 20) rfl)) (hw _ (List.mem_of_getElem? (i := 17) rfl)) (hw _ (List.mem_of_getElem? (i := 21) rfl)) (W := 0) (argsL := [(.ref a1), (.int ec106)]) (rest := []) (rm6 Z a0 hw a1 ec106 f2 l2 (P + 2 + FO + (2 + F1 + L1)) F2 L2 G ha110 n0 (Nat.le_trans (Nat.le_trans (Nat.le_trans (Nat.le_trans (Nat.le_trans (Nat.le_trans Z0 Kc101.1) E103.1) Kl104.1) Kc106.1) Kk108.1) Ka110.1) ((((((A1.keep Kc101 nin0).ext E103).keep Kl104 (ninS (Nat.ne_of_lt (Nat.lt_of_lt_of_le (A1.keep Kc101 nin0).lt (Nat.le_of_eq g103.symm))) nin0)).keep Kc106 nin0).keep Kk108 nin0).keep Ka110 (ninS (Nat.ne_of_lt (Nat.lt_of_lt_of_le (A1.keep Kc101 nin0).lt (Nat.le_of_eq g103.symm))) nin0)) (hec106'.trans (by omega)) hh2 hfm2 hl2 (by omega)) rfl (pd_9) rfl rfl rfl (by decide) (by decide) (by decide) (by decide) (by decide)
  have Kc113 : Keep h0 hc112 [] := Kc111.trans Kc112 all0
  replace k := k.stk [(.ref bc112)] rfl
  have hec112' : ec112.toInt = (((P + 2 + FO + (2 + F1 + L1)) + (2 + F2 + L2) : Nat) : Int) := hec112.trans (by omega)
  replace k := k.iconst (1 : Int32) d5_33 rfl
  replace k := k.iaload d5_34 Ac112  1 (by decide) (by decide) (by decide) (.int ec112) rfl
  replace k := k.istore #[.val (.ref a1), .val (.int p), .val (.ref bc101), .val (.ref b103), .val (.int ec106), .val (.int ec112)] d5_35 rfl
  replace k := k.iload d5_37 rfl
  replace k := k.aloadN d5_39 rfl rfl
  replace k := k.iconst (1 : Int32) d5_40 rfl
  replace k := k.iaload d5_41 ((((((Ac101.ext E103).keep Kl104 (ninS (Nat.ne_of_lt (Nat.lt_of_lt_of_le Ac101.lt (Nat.le_of_eq g103.symm))) nin0)).keep Kc106 nin0).keep Kk108 nin0).keep Ka110 (ninS (Nat.ne_of_lt (Nat.lt_of_lt_of_le Ac101.lt (Nat.le_of_eq g103.symm))) nin0)).keep Kc112 nin0)  1 (by decide) (by decide) (by decide) (.int ec101) rfl
  replace k := k.icmpYes (pc' := 55) d5_42 (flt (own_nlt hec101 hec112' (by omega))).2.2.2 (by decide) (by decide)
  replace k := k.aloadN d5_55 rfl rfl
  replace k := k.aloadN d5_56 rfl rfl
  replace k := k.iload d5_57 rfl
  replace k := k.iload d5_59 rfl
  obtain ⟨_, hk114, ⟨bk114, rfl, Kk114, zk114, Ak114, Ek114⟩, k⟩ := k.callS (y := (⟨"java/util/Arrays", "copyOfRange", "([BII)[B"⟩ : MethodName)) d5_61 (hw _ (List.mem_of_getElem? (i := 63) rfl)) (hw _ (List.mem_of_getElem? (i := 64) rfl)) (hw _ (List.mem_of_getElem? (i := 65) rfl)) (hw _ (List.mem_of_getElem? (i := 66) rfl)) (W := 1) (argsL := [(.ref a1), (.int ec106), (.int ec112)]) (rest := [(.ref b103)]) (rm13 Z a0 hw a1 ec106 ec112 (P + 2 + FO + (2 + F1 + L1)) ((P + 2 + FO + (2 + F1 + L1)) + (2 + F2 + L2)) G hc112 n0 (Nat.le_trans (Nat.le_trans (Nat.le_trans (Nat.le_trans (Nat.le_trans (Nat.le_trans (Nat.le_trans Z0 Kc101.1) E103.1) Kl104.1) Kc106.1) Kk108.1) Ka110.1) Kc112.1) (((((((A1.keep Kc101 nin0).ext E103).keep Kl104 (ninS (Nat.ne_of_lt (Nat.lt_of_lt_of_le (A1.keep Kc101 nin0).lt (Nat.le_of_eq g103.symm))) nin0)).keep Kc106 nin0).keep Kk108 nin0).keep Ka110 (ninS (Nat.ne_of_lt (Nat.lt_of_lt_of_le (A1.keep Kc101 nin0).lt (Nat.le_of_eq g103.symm))) nin0)).keep Kc112 nin0) hD (hec106'.trans (by omega)) hec112' (by omega) (by omega) (by omega) (by omega)) rfl (pd_8) rfl rfl rfl (by decide) (by decide) (by decide) (by decide) (by decide)
  have Kc115 : Keep h0 hk114 [] := Kc113.trans Kk114 all0
  replace k := k.stk [(.ref bk114), (.ref b103)] rfl
  obtain ⟨_, ha116, ⟨rfl, Ka116, Fma116, Fsa116, Fea116, Aa116⟩, k⟩ := k.callV (y := (⟨"java/util/ArrayList", "add", "(Ljava/lang/Object;)Z"⟩ : MethodName)) (z := (⟨"java/util/ArrayList", "add", "(Ljava/lang/Object;)Z"⟩ : MethodName)) (a := b103) d5_64 (hw _ (List.mem_of_getElem? (i := 80) rfl)) (hw _ (List.mem_of_getElem? (i := 81) rfl)) (fun s hs => notFace_of_selects (args := #[]) (mvT hs (hw _ (List.mem_of_getElem? (i := 83) rfl)))) (hw _ (List.mem_of_getElem? (i := 83) rfl)) (hw _ (List.mem_of_getElem? (i := 82) rfl)) (hw _ (List.mem_of_getElem? (i := 25) rfl)) (hw _ (List.mem_of_getElem? (i := 84) rfl)) ((((((A103.keep Kl104).keep Kc106).keep Kk108).keep Ka110).keep Kc112).keep Kk114) (W := 0) (argsL := [(.ref bk114)]) (rest := []) (rm17_1 Z a0 hw b103 bk114 da110 (1 : Int32) _ hk114 n0 (Nat.le_trans (Nat.le_trans (Nat.le_trans (Nat.le_trans (Nat.le_trans (Nat.le_trans (Nat.le_trans (Nat.le_trans Z0 Kc101.1) E103.1) Kl104.1) Kc106.1) Kk108.1) Ka110.1) Kc112.1) Kk114.1) ge_b103 gda110 (Nat.ne_of_lt (Nat.lt_of_lt_of_le (((A103.keep Kl104).keep Kc106).keep Kk108).lt za110)) ((((((A103.keep Kl104).keep Kc106).keep Kk108).keep Ka110).keep Kc112).keep Kk114) ((Fma110.keep Kc112 nin0).keep Kk114 nin0) ((Fea110.keep Kc112 nin0).keep Kk114 nin0) ((Fsa110.keep Kc112 nin0).keep Kk114 nin0) ((Aa110.keep Kc112 nin0).keep Kk114 nin0) ((Oa110.keep Kc112).keep Kk114) Ek114) rfl (pd_10) rfl rfl rfl (by decide) (by decide) (by decide) (by decide) (by decide)
  have Kc117 : Keep h0 ha116 [] := Kc115.trans Ka116 (allS (Or.inr sz_b103) (allS (Or.inr zza110) all0))
  replace k := k.stk [(.int (1 : Int32))] rfl
  replace k := k.pop d5_67 rfl
  replace k := k.iload d5_68 rfl
  replace k := k.istore #[.val (.ref a1), .val (.int p), .val (.ref bc101), .val (.ref b103), .val (.int ec112), .val (.int ec112)] d5_70 rfl
  replace k := k.goto (pc' := 19) d5_72 (by decide) (by decide)
  replace k := k.iload d5_19 rfl
  replace k := k.aloadN d5_21 rfl rfl
  replace k := k.iconst (1 : Int32) d5_22 rfl
  replace k := k.iaload d5_23 ((((((((Ac101.ext E103).keep Kl104 (ninS (Nat.ne_of_lt (Nat.lt_of_lt_of_le Ac101.lt (Nat.le_of_eq g103.symm))) nin0)).keep Kc106 nin0).keep Kk108 nin0).keep Ka110 (ninS (Nat.ne_of_lt (Nat.lt_of_lt_of_le Ac101.lt (Nat.le_of_eq g103.symm))) nin0)).keep Kc112 nin0).keep Kk114 nin0).keep Ka116 (ninS (Nat.ne_of_lt (Nat.lt_of_lt_of_le Ac101.lt (Nat.le_of_eq g103.symm))) (ninS (Nat.ne_of_lt (Nat.lt_of_lt_of_le ((((Ac101.ext E103).keep Kl104 (ninS (Nat.ne_of_lt (Nat.lt_of_lt_of_le Ac101.lt (Nat.le_of_eq g103.symm))) nin0)).keep Kc106 nin0).keep Kk108 nin0).lt za110)) nin0)))  1 (by decide) (by decide) (by decide) (.int ec101) rfl
  replace k := k.icmpYes (pc' := 75) d5_24 (flt (own_nlt hec112' hec101 (by omega))).2.1 (by decide) (by decide)
  replace k := k.aloadN d5_75 rfl rfl
  exact k.aret d5_76 rfl rfl rfl rfl ⟨_, _, _, _, rfl, Kc117, (((((((A103.keep Kl104).keep Kc106).keep Kk108).keep Ka110).keep Kc112).keep Kk114).keep Ka116), Fsa116, Fea116, Aa116, ((((Ak108.keep Ka110 (ninS (Ne.symm (Nat.ne_of_lt (Nat.lt_of_lt_of_le ((A103.keep Kl104).keep Kc106).lt zk108))) nin0)).keep Kc112 nin0).keep Kk114 nin0).keep Ka116 (ninS (Ne.symm (Nat.ne_of_lt (Nat.lt_of_lt_of_le ((A103.keep Kl104).keep Kc106).lt zk108))) (ninS (Nat.ne_of_lt (Nat.lt_of_lt_of_le Ek108.lt za110)) nin0))), ((((Ek108.keep Ka110).keep Kc112).keep Kk114).keep Ka116), (Ak114.keep Ka116 (ninS (Ne.symm (Nat.ne_of_lt (Nat.lt_of_lt_of_le (((((A103.keep Kl104).keep Kc106).keep Kk108).keep Ka110).keep Kc112).lt zk114))) (ninS (Ne.symm (Nat.ne_of_lt (Nat.lt_of_lt_of_le (Aa110.keep Kc112 nin0).lt zk114))) nin0))), (Ek114.keep Ka116)⟩ (by decide) (by decide)

theorem d26_0 : decode method_6_code 0 = .ok (.iload_n 3, 1) := by decide +kernel
theorem d26_1 : decode method_6_code 1 = .ok (.iload 4, 2) := by decide +kernel
theorem d26_3 : decode method_6_code 3 = .ok (.if_icmp .ge 14, 3) := by decide +kernel
theorem d26_6 : decode method_6_code 6 = .ok (.aload_n 0, 1) := by decide +kernel
theorem d26_7 : decode method_6_code 7 = .ok (.iload_n 3, 1) := by decide +kernel
theorem d26_8 : decode method_6_code 8 = .ok (.baload, 1) := by decide +kernel
theorem d26_9 : decode method_6_code 9 = .ok (.aload_n 1, 1) := by decide +kernel
theorem d26_10 : decode method_6_code 10 = .ok (.iload_n 2, 1) := by decide +kernel
theorem d26_11 : decode method_6_code 11 = .ok (.iload_n 3, 1) := by decide +kernel
theorem d26_12 : decode method_6_code 12 = .ok (.iadd, 1) := by decide +kernel
theorem d26_13 : decode method_6_code 13 = .ok (.baload, 1) := by decide +kernel
theorem d26_14 : decode method_6_code 14 = .ok (.if_icmp .ne 7, 3) := by decide +kernel
theorem d26_17 : decode method_6_code 17 = .ok (.iconst 1, 1) := by decide +kernel
theorem d26_18 : decode method_6_code 18 = .ok (.goto 4, 3) := by decide +kernel
theorem d26_22 : decode method_6_code 22 = .ok (.ireturn, 1) := by decide +kernel
set_option maxRecDepth 65536 in
set_option maxHeartbeats 40000000 in
theorem rm26 (Z : State) (a0 : Array Value) (hw : ∀ d ∈ tables_1, d.before a0 Z = true) (a1 a2 : Addr) (p j hs : Int32) (P J HS SS : Nat) (G : Nat → Int32) (h0 : Heap) (n0 : Nat) (A1 : Arf Z h0 a1 .byte SS (own_bf (fun i => G (P + i)))) (A2 : Arf Z h0 a2 .byte 800 (own_bf G)) (hp : p.toInt = (P : Int)) (hhs : hs.toInt = (HS : Int)) (hHS : HS ≤ SS) (hP : P + SS ≤ 800) (hj : j.toInt = (J : Int)) :
    Con Z n0 (⟨"com/example/vidare/vidare/core/DerInsidePinLaw", "same", "([B[BIII)Z"⟩ : MethodName) method_6_code 5 (some .boolean) [] ({ frames := 0, cells := 0, slots := 0, locals := 0 } : Room) #[(.ref a1), (.ref a2), (.int p), (.int j), (.int hs)] h0 (fun v h => v = some (.int (1 : Int32)) ∧ h0 = h) := by
  refine Con.intro (L0 := #[.val (.ref a1), .val (.ref a2), .val (.int p), .val (.int j), .val (.int hs)]) (plainFor_of_name (by first | (simp [plainName, overriddenIn]; done) | decide +kernel)) (fun m => by first | (simp [entryFrame, mkF, argsToLocals, Value.category]; done) | rfl) ?_
  intro C k
  replace k := k.iloadN d26_0 rfl
  replace k := k.iload d26_1 rfl
  by_cases hc101 : j < hs
  · skip
    replace k := k.icmpNo d26_3 (tlt hc101).2.1
    have hlt := own_ltN hc101 hj hhs
    have q1 : (p + j).toInt = ((P + J : Nat) : Int) := own_ad hp hj (by omega)
    replace k := k.aloadN d26_6 rfl rfl
    replace k := k.iloadN d26_7 rfl
    replace k := k.baload d26_8 A1  J (own_at hj) (own_nn hj) (by omega) (.int (G (P + J))) rfl
    replace k := k.aloadN d26_9 rfl rfl
    replace k := k.iloadN d26_10 rfl
    replace k := k.iloadN d26_11 rfl
    replace k := k.iadd d26_12
    replace k := k.baload d26_13 A2  (P + J) (own_at q1) (own_nn q1) (by omega) (.int (G (P + J))) rfl
    replace k := k.icmpNo d26_14 (teq rfl).2
    replace k := k.iconst (1 : Int32) d26_17 rfl
    replace k := k.goto (pc' := 22) d26_18 (by decide) (by decide)
    exact k.iret d26_22 rfl (by simp) rfl ⟨rfl, rfl⟩ (by decide) (by decide)
  · skip
    replace k := k.icmpYes (pc' := 17) d26_3 (flt hc101).2.1 (by decide) (by decide)
    replace k := k.iconst (1 : Int32) d26_17 rfl
    replace k := k.goto (pc' := 22) d26_18 (by decide) (by decide)
    exact k.iret d26_22 rfl (by simp) rfl ⟨rfl, rfl⟩ (by decide) (by decide)

theorem d25_0 : decode method_7_code 0 = .ok (.aload_n 0, 1) := by decide +kernel
theorem d25_1 : decode method_7_code 1 = .ok (.ifnull 10, 3) := by decide +kernel
theorem d25_4 : decode method_7_code 4 = .ok (.aload_n 0, 1) := by decide +kernel
theorem d25_5 : decode method_7_code 5 = .ok (.arraylength, 1) := by decide +kernel
theorem d25_6 : decode method_7_code 6 = .ok (.iload 4, 2) := by decide +kernel
theorem d25_8 : decode method_7_code 8 = .ok (.if_icmp .eq 5, 3) := by decide +kernel
theorem d25_13 : decode method_7_code 13 = .ok (.aload_n 0, 1) := by decide +kernel
theorem d25_14 : decode method_7_code 14 = .ok (.aload_n 1, 1) := by decide +kernel
theorem d25_15 : decode method_7_code 15 = .ok (.iload_n 2, 1) := by decide +kernel
theorem d25_16 : decode method_7_code 16 = .ok (.iconst 0, 1) := by decide +kernel
theorem d25_17 : decode method_7_code 17 = .ok (.iload_n 3, 1) := by decide +kernel
theorem d25_18 : decode method_7_code 18 = .ok (.invokestatic 7, 3) := by decide +kernel
theorem d25_21 : decode method_7_code 21 = .ok (.ifCond .eq 51, 3) := by decide +kernel
theorem d25_24 : decode method_7_code 24 = .ok (.aload_n 0, 1) := by decide +kernel
theorem d25_25 : decode method_7_code 25 = .ok (.aload_n 1, 1) := by decide +kernel
theorem d25_26 : decode method_7_code 26 = .ok (.iload_n 2, 1) := by decide +kernel
theorem d25_27 : decode method_7_code 27 = .ok (.iconst 1, 1) := by decide +kernel
theorem d25_28 : decode method_7_code 28 = .ok (.iload_n 3, 1) := by decide +kernel
theorem d25_29 : decode method_7_code 29 = .ok (.invokestatic 7, 3) := by decide +kernel
theorem d25_32 : decode method_7_code 32 = .ok (.ifCond .eq 40, 3) := by decide +kernel
theorem d25_35 : decode method_7_code 35 = .ok (.aload_n 0, 1) := by decide +kernel
theorem d25_36 : decode method_7_code 36 = .ok (.aload_n 1, 1) := by decide +kernel
theorem d25_37 : decode method_7_code 37 = .ok (.iload_n 2, 1) := by decide +kernel
theorem d25_38 : decode method_7_code 38 = .ok (.iconst 2, 1) := by decide +kernel
theorem d25_39 : decode method_7_code 39 = .ok (.iload_n 3, 1) := by decide +kernel
theorem d25_40 : decode method_7_code 40 = .ok (.invokestatic 7, 3) := by decide +kernel
theorem d25_43 : decode method_7_code 43 = .ok (.ifCond .eq 29, 3) := by decide +kernel
theorem d25_46 : decode method_7_code 46 = .ok (.aload_n 0, 1) := by decide +kernel
theorem d25_47 : decode method_7_code 47 = .ok (.aload_n 1, 1) := by decide +kernel
theorem d25_48 : decode method_7_code 48 = .ok (.iload_n 2, 1) := by decide +kernel
theorem d25_49 : decode method_7_code 49 = .ok (.iconst 3, 1) := by decide +kernel
theorem d25_50 : decode method_7_code 50 = .ok (.iload_n 3, 1) := by decide +kernel
theorem d25_51 : decode method_7_code 51 = .ok (.invokestatic 7, 3) := by decide +kernel
theorem d25_54 : decode method_7_code 54 = .ok (.ifCond .eq 18, 3) := by decide +kernel
theorem d25_57 : decode method_7_code 57 = .ok (.aload_n 0, 1) := by decide +kernel
theorem d25_58 : decode method_7_code 58 = .ok (.aload_n 1, 1) := by decide +kernel
theorem d25_59 : decode method_7_code 59 = .ok (.iload_n 2, 1) := by decide +kernel
theorem d25_60 : decode method_7_code 60 = .ok (.iconst 4, 1) := by decide +kernel
theorem d25_61 : decode method_7_code 61 = .ok (.iload_n 3, 1) := by decide +kernel
theorem d25_62 : decode method_7_code 62 = .ok (.invokestatic 7, 3) := by decide +kernel
theorem d25_65 : decode method_7_code 65 = .ok (.ifCond .eq 7, 3) := by decide +kernel
theorem d25_68 : decode method_7_code 68 = .ok (.iconst 1, 1) := by decide +kernel
theorem d25_69 : decode method_7_code 69 = .ok (.goto 4, 3) := by decide +kernel
theorem d25_73 : decode method_7_code 73 = .ok (.istore 5, 2) := by decide +kernel
theorem d25_75 : decode method_7_code 75 = .ok (.iload 4, 2) := by decide +kernel
theorem d25_77 : decode method_7_code 77 = .ok (.iload_n 3, 1) := by decide +kernel
theorem d25_78 : decode method_7_code 78 = .ok (.if_icmp .eq 31, 3) := by decide +kernel
theorem d25_81 : decode method_7_code 81 = .ok (.aload_n 0, 1) := by decide +kernel
theorem d25_82 : decode method_7_code 82 = .ok (.iload_n 3, 1) := by decide +kernel
theorem d25_83 : decode method_7_code 83 = .ok (.baload, 1) := by decide +kernel
theorem d25_84 : decode method_7_code 84 = .ok (.aload_n 1, 1) := by decide +kernel
theorem d25_85 : decode method_7_code 85 = .ok (.iload_n 2, 1) := by decide +kernel
theorem d25_86 : decode method_7_code 86 = .ok (.iload_n 3, 1) := by decide +kernel
theorem d25_87 : decode method_7_code 87 = .ok (.iadd, 1) := by decide +kernel
theorem d25_88 : decode method_7_code 88 = .ok (.baload, 1) := by decide +kernel
theorem d25_89 : decode method_7_code 89 = .ok (.if_icmp .ne 24, 3) := by decide +kernel
theorem d25_92 : decode method_7_code 92 = .ok (.aload_n 0, 1) := by decide +kernel
theorem d25_93 : decode method_7_code 93 = .ok (.iload 4, 2) := by decide +kernel
theorem d25_95 : decode method_7_code 95 = .ok (.iconst 1, 1) := by decide +kernel
theorem d25_96 : decode method_7_code 96 = .ok (.isub, 1) := by decide +kernel
theorem d25_97 : decode method_7_code 97 = .ok (.baload, 1) := by decide +kernel
theorem d25_98 : decode method_7_code 98 = .ok (.aload_n 1, 1) := by decide +kernel
theorem d25_99 : decode method_7_code 99 = .ok (.iload_n 2, 1) := by decide +kernel
theorem d25_100 : decode method_7_code 100 = .ok (.iload 4, 2) := by decide +kernel
theorem d25_102 : decode method_7_code 102 = .ok (.iadd, 1) := by decide +kernel
theorem d25_103 : decode method_7_code 103 = .ok (.iconst 1, 1) := by decide +kernel
theorem d25_104 : decode method_7_code 104 = .ok (.isub, 1) := by decide +kernel
theorem d25_105 : decode method_7_code 105 = .ok (.baload, 1) := by decide +kernel
theorem d25_106 : decode method_7_code 106 = .ok (.if_icmp .ne 7, 3) := by decide +kernel
theorem d25_109 : decode method_7_code 109 = .ok (.iconst 1, 1) := by decide +kernel
theorem d25_110 : decode method_7_code 110 = .ok (.goto 4, 3) := by decide +kernel
theorem d25_114 : decode method_7_code 114 = .ok (.istore 6, 2) := by decide +kernel
theorem d25_116 : decode method_7_code 116 = .ok (.iload 5, 2) := by decide +kernel
theorem d25_118 : decode method_7_code 118 = .ok (.ifCond .eq 12, 3) := by decide +kernel
theorem d25_121 : decode method_7_code 121 = .ok (.iload 6, 2) := by decide +kernel
theorem d25_123 : decode method_7_code 123 = .ok (.ifCond .eq 7, 3) := by decide +kernel
theorem d25_126 : decode method_7_code 126 = .ok (.iconst 1, 1) := by decide +kernel
theorem d25_127 : decode method_7_code 127 = .ok (.goto 4, 3) := by decide +kernel
theorem d25_131 : decode method_7_code 131 = .ok (.ireturn, 1) := by decide +kernel
set_option maxRecDepth 65536 in
set_option maxHeartbeats 40000000 in
theorem rm25 (Z : State) (a0 : Array Value) (hw : ∀ d ∈ tables_1, d.before a0 Z = true) (a1 a2 : Addr) (p hs s : Int32) (P HS SS : Nat) (G : Nat → Int32) (h0 : Heap) (n0 : Nat) (A1 : Arf Z h0 a1 .byte SS (own_bf (fun i => G (P + i)))) (A2 : Arf Z h0 a2 .byte 800 (own_bf G)) (hp : p.toInt = (P : Int)) (hhs : hs.toInt = (HS : Int)) (hHS : HS ≤ SS) (hP : P + SS ≤ 800) (hss : s.toInt = (SS : Int)) :
    Con Z n0 (⟨"com/example/vidare/vidare/core/DerInsidePinLaw", "child", "([B[BIII)Z"⟩ : MethodName) method_7_code 7 (some .boolean) [] ({ frames := 1, cells := 0, slots := 0, locals := 16 } : Room) #[(.ref a1), (.ref a2), (.int p), (.int hs), (.int s)] h0 (fun v h => v = some (.int (1 : Int32)) ∧ h0 = h) := by
  refine Con.intro (L0 := #[.val (.ref a1), .val (.ref a2), .val (.int p), .val (.int hs), .val (.int s), .unset, .unset]) (plainFor_of_name (by first | (simp [plainName, overriddenIn]; done) | decide +kernel)) (fun m => by first | (simp [entryFrame, mkF, argsToLocals, Value.category]; done) | rfl) ?_
  intro C k
  replace k := k.aloadN d25_0 rfl rfl
  replace k := k.ifnullNo d25_1
  replace k := k.aloadN d25_4 rfl rfl
  replace k := k.arrlen d25_5 A1 s (own_toI hss)
  replace k := k.iload d25_6 rfl
  replace k := k.icmpYes (pc' := 13) d25_8 (teq rfl).1 (by decide) (by decide)
  replace k := k.aloadN d25_13 rfl rfl
  replace k := k.aloadN d25_14 rfl rfl
  replace k := k.iloadN d25_15 rfl
  replace k := k.iconst (0 : Int32) d25_16 rfl
  replace k := k.iloadN d25_17 rfl
  obtain ⟨_, _, ⟨rfl, rfl⟩, k⟩ := k.callS (y := (⟨"com/example/vidare/vidare/core/DerInsidePinLaw", "same", "([B[BIII)Z"⟩ : MethodName)) d25_18 (hw _ (List.mem_of_getElem? (i := 132) rfl)) (hw _ (List.mem_of_getElem? (i := 133) rfl)) (hw _ (List.mem_of_getElem? (i := 2) rfl)) (hw _ (List.mem_of_getElem? (i := 134) rfl)) (W := 0) (argsL := [(.ref a1), (.ref a2), (.int p), (.int (0 : Int32)), (.int hs)]) (rest := []) (rm26 Z a0 hw a1 a2 p (0 : Int32) hs P 0 HS SS G h0 n0 A1 A2 hp hhs hHS hP (by decide)) rfl (pd_11) rfl rfl rfl (by decide) (by decide) (by decide) (by decide) (by decide)
  replace k := k.stk [(.int (1 : Int32))] rfl
  replace k := k.ifNo d25_21 (by decide)
  replace k := k.aloadN d25_24 rfl rfl
  replace k := k.aloadN d25_25 rfl rfl
  replace k := k.iloadN d25_26 rfl
  replace k := k.iconst (1 : Int32) d25_27 rfl
  replace k := k.iloadN d25_28 rfl
  obtain ⟨_, _, ⟨rfl, rfl⟩, k⟩ := k.callS (y := (⟨"com/example/vidare/vidare/core/DerInsidePinLaw", "same", "([B[BIII)Z"⟩ : MethodName)) d25_29 (hw _ (List.mem_of_getElem? (i := 132) rfl)) (hw _ (List.mem_of_getElem? (i := 133) rfl)) (hw _ (List.mem_of_getElem? (i := 2) rfl)) (hw _ (List.mem_of_getElem? (i := 134) rfl)) (W := 0) (argsL := [(.ref a1), (.ref a2), (.int p), (.int (1 : Int32)), (.int hs)]) (rest := []) (rm26 Z a0 hw a1 a2 p (1 : Int32) hs P 1 HS SS G h0 n0 A1 A2 hp hhs hHS hP (by decide)) rfl (pd_11) rfl rfl rfl (by decide) (by decide) (by decide) (by decide) (by decide)
  replace k := k.stk [(.int (1 : Int32))] rfl
  replace k := k.ifNo d25_32 (by decide)
  replace k := k.aloadN d25_35 rfl rfl
  replace k := k.aloadN d25_36 rfl rfl
  replace k := k.iloadN d25_37 rfl
  replace k := k.iconst (2 : Int32) d25_38 rfl
  replace k := k.iloadN d25_39 rfl
  obtain ⟨_, _, ⟨rfl, rfl⟩, k⟩ := k.callS (y := (⟨"com/example/vidare/vidare/core/DerInsidePinLaw", "same", "([B[BIII)Z"⟩ : MethodName)) d25_40 (hw _ (List.mem_of_getElem? (i := 132) rfl)) (hw _ (List.mem_of_getElem? (i := 133) rfl)) (hw _ (List.mem_of_getElem? (i := 2) rfl)) (hw _ (List.mem_of_getElem? (i := 134) rfl)) (W := 0) (argsL := [(.ref a1), (.ref a2), (.int p), (.int (2 : Int32)), (.int hs)]) (rest := []) (rm26 Z a0 hw a1 a2 p (2 : Int32) hs P 2 HS SS G h0 n0 A1 A2 hp hhs hHS hP (by decide)) rfl (pd_11) rfl rfl rfl (by decide) (by decide) (by decide) (by decide) (by decide)
  replace k := k.stk [(.int (1 : Int32))] rfl
  replace k := k.ifNo d25_43 (by decide)
  replace k := k.aloadN d25_46 rfl rfl
  replace k := k.aloadN d25_47 rfl rfl
  replace k := k.iloadN d25_48 rfl
  replace k := k.iconst (3 : Int32) d25_49 rfl
  replace k := k.iloadN d25_50 rfl
  obtain ⟨_, _, ⟨rfl, rfl⟩, k⟩ := k.callS (y := (⟨"com/example/vidare/vidare/core/DerInsidePinLaw", "same", "([B[BIII)Z"⟩ : MethodName)) d25_51 (hw _ (List.mem_of_getElem? (i := 132) rfl)) (hw _ (List.mem_of_getElem? (i := 133) rfl)) (hw _ (List.mem_of_getElem? (i := 2) rfl)) (hw _ (List.mem_of_getElem? (i := 134) rfl)) (W := 0) (argsL := [(.ref a1), (.ref a2), (.int p), (.int (3 : Int32)), (.int hs)]) (rest := []) (rm26 Z a0 hw a1 a2 p (3 : Int32) hs P 3 HS SS G h0 n0 A1 A2 hp hhs hHS hP (by decide)) rfl (pd_11) rfl rfl rfl (by decide) (by decide) (by decide) (by decide) (by decide)
  replace k := k.stk [(.int (1 : Int32))] rfl
  replace k := k.ifNo d25_54 (by decide)
  replace k := k.aloadN d25_57 rfl rfl
  replace k := k.aloadN d25_58 rfl rfl
  replace k := k.iloadN d25_59 rfl
  replace k := k.iconst (4 : Int32) d25_60 rfl
  replace k := k.iloadN d25_61 rfl
  obtain ⟨_, _, ⟨rfl, rfl⟩, k⟩ := k.callS (y := (⟨"com/example/vidare/vidare/core/DerInsidePinLaw", "same", "([B[BIII)Z"⟩ : MethodName)) d25_62 (hw _ (List.mem_of_getElem? (i := 132) rfl)) (hw _ (List.mem_of_getElem? (i := 133) rfl)) (hw _ (List.mem_of_getElem? (i := 2) rfl)) (hw _ (List.mem_of_getElem? (i := 134) rfl)) (W := 0) (argsL := [(.ref a1), (.ref a2), (.int p), (.int (4 : Int32)), (.int hs)]) (rest := []) (rm26 Z a0 hw a1 a2 p (4 : Int32) hs P 4 HS SS G h0 n0 A1 A2 hp hhs hHS hP (by decide)) rfl (pd_11) rfl rfl rfl (by decide) (by decide) (by decide) (by decide) (by decide)
  replace k := k.stk [(.int (1 : Int32))] rfl
  replace k := k.ifNo d25_65 (by decide)
  replace k := k.iconst (1 : Int32) d25_68 rfl
  replace k := k.goto (pc' := 73) d25_69 (by decide) (by decide)
  replace k := k.istore #[.val (.ref a1), .val (.ref a2), .val (.int p), .val (.int hs), .val (.int s), .val (.int (1 : Int32)), .unset] d25_73 rfl
  replace k := k.iload d25_75 rfl
  replace k := k.iloadN d25_77 rfl
  by_cases hc101 : s = hs
  · skip
    replace k := k.icmpYes (pc' := 109) d25_78 (teq hc101).1 (by decide) (by decide)
    replace k := k.iconst (1 : Int32) d25_109 rfl
    replace k := k.goto (pc' := 114) d25_110 (by decide) (by decide)
    replace k := k.istore #[.val (.ref a1), .val (.ref a2), .val (.int p), .val (.int hs), .val (.int s), .val (.int (1 : Int32)), .val (.int (1 : Int32))] d25_114 rfl
    replace k := k.iload d25_116 rfl
    replace k := k.ifNo d25_118 (by decide)
    replace k := k.iload d25_121 rfl
    replace k := k.ifNo d25_123 (by decide)
    replace k := k.iconst (1 : Int32) d25_126 rfl
    replace k := k.goto (pc' := 131) d25_127 (by decide) (by decide)
    exact k.iret d25_131 rfl (by simp) rfl ⟨rfl, rfl⟩ (by decide) (by decide)
  · skip
    replace k := k.icmpNo d25_78 (feq hc101).1
    have hlt : HS < SS := own_ltne hc101 hss hhs hHS
    have q1 : (p + hs).toInt = ((P + HS : Nat) : Int) := own_ad hp hhs (by omega)
    have q2 : (s - (1 : Int32)).toInt = ((SS - 1 : Nat) : Int) := own_sb1 hss (by omega)
    have q3 : ((p + s) - (1 : Int32)).toInt = ((P + (SS - 1) : Nat) : Int) := (own_sb1 (own_ad hp hss (by omega)) (by omega)).trans (by omega)
    replace k := k.aloadN d25_81 rfl rfl
    replace k := k.iloadN d25_82 rfl
    replace k := k.baload d25_83 A1  HS (own_at hhs) (own_nn hhs) hlt (.int (G (P + HS))) rfl
    replace k := k.aloadN d25_84 rfl rfl
    replace k := k.iloadN d25_85 rfl
    replace k := k.iloadN d25_86 rfl
    replace k := k.iadd d25_87
    replace k := k.baload d25_88 A2  (P + HS) (own_at q1) (own_nn q1) (by omega) (.int (G (P + HS))) rfl
    replace k := k.icmpNo d25_89 (teq rfl).2
    replace k := k.aloadN d25_92 rfl rfl
    replace k := k.iload d25_93 rfl
    replace k := k.iconst (1 : Int32) d25_95 rfl
    replace k := k.isub d25_96
    replace k := k.baload d25_97 A1  (SS - 1) (own_at q2) (own_nn q2) (by omega) (.int (G (P + (SS - 1)))) rfl
    replace k := k.aloadN d25_98 rfl rfl
    replace k := k.iloadN d25_99 rfl
    replace k := k.iload d25_100 rfl
    replace k := k.iadd d25_102
    replace k := k.iconst (1 : Int32) d25_103 rfl
    replace k := k.isub d25_104
    replace k := k.baload d25_105 A2  (P + (SS - 1)) (own_at q3) (own_nn q3) (by omega) (.int (G (P + (SS - 1)))) rfl
    replace k := k.icmpNo d25_106 (teq rfl).2
    replace k := k.iconst (1 : Int32) d25_109 rfl
    replace k := k.goto (pc' := 114) d25_110 (by decide) (by decide)
    replace k := k.istore #[.val (.ref a1), .val (.ref a2), .val (.int p), .val (.int hs), .val (.int s), .val (.int (1 : Int32)), .val (.int (1 : Int32))] d25_114 rfl
    replace k := k.iload d25_116 rfl
    replace k := k.ifNo d25_118 (by decide)
    replace k := k.iload d25_121 rfl
    replace k := k.ifNo d25_123 (by decide)
    replace k := k.iconst (1 : Int32) d25_126 rfl
    replace k := k.goto (pc' := 131) d25_127 (by decide) (by decide)
    exact k.iret d25_131 rfl (by simp) rfl ⟨rfl, rfl⟩ (by decide) (by decide)

set_option maxRecDepth 65536 in
set_option maxHeartbeats 40000000 in
theorem rm0 (Z : State) (a0 : Array Value) (hw : ∀ d ∈ tables_1, d.before a0 Z = true) (p1 p2 p3 p4 p5 : Int32) (aD : Addr) (fD : Nat → Value) (h0 : Heap) (n0 : Nat) (Z0 : n0 ≤ h0.size) (S_D : Sta Z h0 "java/util/ArrayList" "DEFAULTCAPACITY_EMPTY_ELEMENTDATA" "[Ljava/lang/Object;" (.ref aD)) (A_D : Arf Z h0 aD (.object "java/lang/Object") 0 fD) :
    Con Z n0 x code maxLocals ret tables_1 room_1 #[(.int p1), (.int p2), (.int p3), (.int p4), (.int p5)] h0 (fun v h => v = some (.int (1 : Int32))) := by
  refine Con.intro (L0 := #[.val (.int p1), .val (.int p2), .val (.int p3), .val (.int p4), .val (.int p5), .unset, .unset, .unset, .unset, .unset, .unset, .unset, .unset, .unset, .unset, .unset, .unset, .unset, .unset, .unset, .unset, .unset, .unset, .unset, .unset, .unset, .unset, .unset, .unset, .unset, .unset]) (plainFor_of_name (by first | (simp [plainName, overriddenIn]; done) | decide +kernel)) (fun m => by first | (simp [entryFrame, mkF, argsToLocals, Value.category, maxLocals]; done) | rfl) ?_
  intro C k
  replace k := k.iloadN at_0 rfl
  replace k := k.iconst (3 : Int32) at_1 rfl
  replace k := k.iand at_2
  obtain ⟨x5, hx5⟩ : ∃ z, z = (p1 &&& (3 : Int32)) := ⟨_, rfl⟩
  replace k := k.stk [(.int x5)] (by rw [hx5])
  obtain ⟨X5, h5, b5⟩ := own_m3 _ _ hx5
  replace k := k.istore #[.val (.int p1), .val (.int p2), .val (.int p3), .val (.int p4), .val (.int p5), .val (.int x5), .unset, .unset, .unset, .unset, .unset, .unset, .unset, .unset, .unset, .unset, .unset, .unset, .unset, .unset, .unset, .unset, .unset, .unset, .unset, .unset, .unset, .unset, .unset, .unset, .unset] at_3 rfl
  replace k := k.iloadN at_5 rfl
  replace k := k.iconst (2 : Int32) at_6 rfl
  replace k := k.iushr at_7
  replace k := k.iconst (3 : Int32) at_8 rfl
  replace k := k.iand at_9
  replace k := k.iconst (3 : Int32) at_10 rfl
  replace k := k.irem at_11 (by decide)
  rcases own_n3 p1 with hn | hn | hn
  · skip
    replace k := k.stk [(.int (0 : Int32))] (by rw [hn])
    replace k := k.istore #[.val (.int p1), .val (.int p2), .val (.int p3), .val (.int p4), .val (.int p5), .val (.int x5), .val (.int (0 : Int32)), .unset, .unset, .unset, .unset, .unset, .unset, .unset, .unset, .unset, .unset, .unset, .unset, .unset, .unset, .unset, .unset, .unset, .unset, .unset, .unset, .unset, .unset, .unset, .unset] at_12 rfl
    replace k := k.iloadN at_14 rfl
    replace k := k.iconst (4 : Int32) at_15 rfl
    replace k := k.iushr at_16
    replace k := k.iconst (3 : Int32) at_17 rfl
    replace k := k.iand at_18
    obtain ⟨x7, hx7⟩ : ∃ z, z = (((p1.toUInt32 >>> ((4 : Int32) &&& 31).toUInt32).toInt32) &&& (3 : Int32)) := ⟨_, rfl⟩
    replace k := k.stk [(.int x7)] (by rw [hx7])
    obtain ⟨X7, h7, b7⟩ := own_m3 _ _ hx7
    replace k := k.istore #[.val (.int p1), .val (.int p2), .val (.int p3), .val (.int p4), .val (.int p5), .val (.int x5), .val (.int (0 : Int32)), .val (.int x7), .unset, .unset, .unset, .unset, .unset, .unset, .unset, .unset, .unset, .unset, .unset, .unset, .unset, .unset, .unset, .unset, .unset, .unset, .unset, .unset, .unset, .unset, .unset] at_19 rfl
    replace k := k.iloadN at_21 rfl
    replace k := k.bipush (6 : Int32) at_22 rfl
    replace k := k.iushr at_24
    replace k := k.iconst (3 : Int32) at_25 rfl
    replace k := k.iand at_26
    obtain ⟨x8, hx8⟩ : ∃ z, z = (((p1.toUInt32 >>> ((6 : Int32) &&& 31).toUInt32).toInt32) &&& (3 : Int32)) := ⟨_, rfl⟩
    replace k := k.stk [(.int x8)] (by rw [hx8])
    obtain ⟨X8, h8, b8⟩ := own_m3 _ _ hx8
    replace k := k.istore #[.val (.int p1), .val (.int p2), .val (.int p3), .val (.int p4), .val (.int p5), .val (.int x5), .val (.int (0 : Int32)), .val (.int x7), .val (.int x8), .unset, .unset, .unset, .unset, .unset, .unset, .unset, .unset, .unset, .unset, .unset, .unset, .unset, .unset, .unset, .unset, .unset, .unset, .unset, .unset, .unset, .unset] at_27 rfl
    replace k := k.iloadN at_29 rfl
    replace k := k.bipush (8 : Int32) at_30 rfl
    replace k := k.iushr at_32
    replace k := k.iconst (3 : Int32) at_33 rfl
    replace k := k.iand at_34
    obtain ⟨x9, hx9⟩ : ∃ z, z = (((p1.toUInt32 >>> ((8 : Int32) &&& 31).toUInt32).toInt32) &&& (3 : Int32)) := ⟨_, rfl⟩
    replace k := k.stk [(.int x9)] (by rw [hx9])
    obtain ⟨X9, h9, b9⟩ := own_m3 _ _ hx9
    replace k := k.istore #[.val (.int p1), .val (.int p2), .val (.int p3), .val (.int p4), .val (.int p5), .val (.int x5), .val (.int (0 : Int32)), .val (.int x7), .val (.int x8), .val (.int x9), .unset, .unset, .unset, .unset, .unset, .unset, .unset, .unset, .unset, .unset, .unset, .unset, .unset, .unset, .unset, .unset, .unset, .unset, .unset, .unset, .unset] at_35 rfl
    replace k := k.iloadN at_37 rfl
    replace k := k.bipush (10 : Int32) at_38 rfl
    replace k := k.iushr at_40
    replace k := k.sipush (255 : Int32) at_41 rfl
    replace k := k.iand at_44
    obtain ⟨x10, hx10⟩ : ∃ z, z = (((p1.toUInt32 >>> ((10 : Int32) &&& 31).toUInt32).toInt32) &&& (255 : Int32)) := ⟨_, rfl⟩
    replace k := k.stk [(.int x10)] (by rw [hx10])
    replace k := k.istore #[.val (.int p1), .val (.int p2), .val (.int p3), .val (.int p4), .val (.int p5), .val (.int x5), .val (.int (0 : Int32)), .val (.int x7), .val (.int x8), .val (.int x9), .val (.int x10), .unset, .unset, .unset, .unset, .unset, .unset, .unset, .unset, .unset, .unset, .unset, .unset, .unset, .unset, .unset, .unset, .unset, .unset, .unset, .unset] at_45 rfl
    replace k := k.iloadN at_47 rfl
    replace k := k.bipush (18 : Int32) at_48 rfl
    replace k := k.iushr at_50
    replace k := k.sipush (255 : Int32) at_51 rfl
    replace k := k.iand at_54
    obtain ⟨x11, hx11⟩ : ∃ z, z = (((p1.toUInt32 >>> ((18 : Int32) &&& 31).toUInt32).toInt32) &&& (255 : Int32)) := ⟨_, rfl⟩
    replace k := k.stk [(.int x11)] (by rw [hx11])
    replace k := k.istore #[.val (.int p1), .val (.int p2), .val (.int p3), .val (.int p4), .val (.int p5), .val (.int x5), .val (.int (0 : Int32)), .val (.int x7), .val (.int x8), .val (.int x9), .val (.int x10), .val (.int x11), .unset, .unset, .unset, .unset, .unset, .unset, .unset, .unset, .unset, .unset, .unset, .unset, .unset, .unset, .unset, .unset, .unset, .unset, .unset] at_55 rfl
    replace k := k.iloadN at_57 rfl
    replace k := k.bipush (18 : Int32) at_58 rfl
    replace k := k.iushr at_60
    replace k := k.sipush (255 : Int32) at_61 rfl
    replace k := k.iand at_64
    obtain ⟨x12, hx12⟩ : ∃ z, z = (((p2.toUInt32 >>> ((18 : Int32) &&& 31).toUInt32).toInt32) &&& (255 : Int32)) := ⟨_, rfl⟩
    replace k := k.stk [(.int x12)] (by rw [hx12])
    replace k := k.istore #[.val (.int p1), .val (.int p2), .val (.int p3), .val (.int p4), .val (.int p5), .val (.int x5), .val (.int (0 : Int32)), .val (.int x7), .val (.int x8), .val (.int x9), .val (.int x10), .val (.int x11), .val (.int x12), .unset, .unset, .unset, .unset, .unset, .unset, .unset, .unset, .unset, .unset, .unset, .unset, .unset, .unset, .unset, .unset, .unset, .unset] at_65 rfl
    replace k := k.iloadN at_67 rfl
    replace k := k.sipush (511 : Int32) at_68 rfl
    replace k := k.iand at_71
    obtain ⟨_, _, ⟨rfl, rfl⟩, k⟩ := k.callS (y := (⟨"com/example/vidare/vidare/core/DerInsidePinLaw", "contentLength", "(I)I"⟩ : MethodName)) at_72 (hw _ (List.mem_of_getElem? (i := 0) rfl)) (hw _ (List.mem_of_getElem? (i := 1) rfl)) (hw _ (List.mem_of_getElem? (i := 2) rfl)) (hw _ (List.mem_of_getElem? (i := 3) rfl)) (W := 0) (argsL := [(.int (p2 &&& (511 : Int32)))]) (rest := []) (rm1 Z a0 hw (p2 &&& (511 : Int32)) h0 n0) rfl (pd_12) rfl rfl rfl (by decide) (by decide) (by decide) (by decide) (by decide)
    replace k := k.stk [(.int (own_cl (p2 &&& (511 : Int32))))] rfl
    obtain ⟨x13, hx13⟩ : ∃ z, z = (own_cl (p2 &&& (511 : Int32))) := ⟨_, rfl⟩
    replace k := k.stk [(.int x13)] (by rw [hx13])
    obtain ⟨X13, h13, b13⟩ := own_clb _ _ hx13
    replace k := k.istore #[.val (.int p1), .val (.int p2), .val (.int p3), .val (.int p4), .val (.int p5), .val (.int x5), .val (.int (0 : Int32)), .val (.int x7), .val (.int x8), .val (.int x9), .val (.int x10), .val (.int x11), .val (.int x12), .val (.int x13), .unset, .unset, .unset, .unset, .unset, .unset, .unset, .unset, .unset, .unset, .unset, .unset, .unset, .unset, .unset, .unset, .unset] at_75 rfl
    replace k := k.iloadN at_77 rfl
    replace k := k.bipush (9 : Int32) at_78 rfl
    replace k := k.iushr at_80
    replace k := k.sipush (511 : Int32) at_81 rfl
    replace k := k.iand at_84
    obtain ⟨_, _, ⟨rfl, rfl⟩, k⟩ := k.callS (y := (⟨"com/example/vidare/vidare/core/DerInsidePinLaw", "contentLength", "(I)I"⟩ : MethodName)) at_85 (hw _ (List.mem_of_getElem? (i := 0) rfl)) (hw _ (List.mem_of_getElem? (i := 1) rfl)) (hw _ (List.mem_of_getElem? (i := 2) rfl)) (hw _ (List.mem_of_getElem? (i := 3) rfl)) (W := 0) (argsL := [(.int (((p2.toUInt32 >>> ((9 : Int32) &&& 31).toUInt32).toInt32) &&& (511 : Int32)))]) (rest := []) (rm1 Z a0 hw (((p2.toUInt32 >>> ((9 : Int32) &&& 31).toUInt32).toInt32) &&& (511 : Int32)) h0 n0) rfl (pd_12) rfl rfl rfl (by decide) (by decide) (by decide) (by decide) (by decide)
    replace k := k.stk [(.int (own_cl (((p2.toUInt32 >>> ((9 : Int32) &&& 31).toUInt32).toInt32) &&& (511 : Int32))))] rfl
    obtain ⟨x14, hx14⟩ : ∃ z, z = (own_cl (((p2.toUInt32 >>> ((9 : Int32) &&& 31).toUInt32).toInt32) &&& (511 : Int32))) := ⟨_, rfl⟩
    replace k := k.stk [(.int x14)] (by rw [hx14])
    obtain ⟨X14, h14, b14⟩ := own_clb _ _ hx14
    replace k := k.istore #[.val (.int p1), .val (.int p2), .val (.int p3), .val (.int p4), .val (.int p5), .val (.int x5), .val (.int (0 : Int32)), .val (.int x7), .val (.int x8), .val (.int x9), .val (.int x10), .val (.int x11), .val (.int x12), .val (.int x13), .val (.int x14), .unset, .unset, .unset, .unset, .unset, .unset, .unset, .unset, .unset, .unset, .unset, .unset, .unset, .unset, .unset, .unset] at_88 rfl
    replace k := k.iload at_90 rfl
    replace k := k.iload at_92 rfl
    obtain ⟨_, _, ⟨rfl, rfl⟩, k⟩ := k.callS (y := (⟨"com/example/vidare/vidare/core/DerInsidePinLaw", "minForm", "(I)I"⟩ : MethodName)) at_94 (hw _ (List.mem_of_getElem? (i := 4) rfl)) (hw _ (List.mem_of_getElem? (i := 5) rfl)) (hw _ (List.mem_of_getElem? (i := 2) rfl)) (hw _ (List.mem_of_getElem? (i := 6) rfl)) (W := 1) (argsL := [(.int x13)]) (rest := [(.int x8)]) (rm2 Z a0 hw x13 h0 n0) rfl (pd_12) rfl rfl rfl (by decide) (by decide) (by decide) (by decide) (by decide)
    replace k := k.stk [(.int (own_mf x13)), (.int x8)] rfl
    obtain ⟨_, _, ⟨rfl, rfl⟩, k⟩ := k.callS (y := (⟨"java/lang/Math", "max", "(II)I"⟩ : MethodName)) at_97 (hw _ (List.mem_of_getElem? (i := 7) rfl)) (hw _ (List.mem_of_getElem? (i := 8) rfl)) (hw _ (List.mem_of_getElem? (i := 9) rfl)) (hw _ (List.mem_of_getElem? (i := 10) rfl)) (W := 0) (argsL := [(.int x8), (.int (own_mf x13))]) (rest := []) (rm3 Z a0 hw x8 (own_mf x13) h0 n0) rfl (pd_1) rfl rfl rfl (by decide) (by decide) (by decide) (by decide) (by decide)
    replace k := k.stk [(.int (own_mx x8 (own_mf x13)))] rfl
    obtain ⟨x15, hx15⟩ : ∃ z, z = (own_mx x8 (own_mf x13)) := ⟨_, rfl⟩
    replace k := k.stk [(.int x15)] (by rw [hx15])
    obtain ⟨F15, hf15⟩ := own_fmx hx15 h8 b8 h13 (by omega)
    have bf15 := hf15.2.1
    replace k := k.istore #[.val (.int p1), .val (.int p2), .val (.int p3), .val (.int p4), .val (.int p5), .val (.int x5), .val (.int (0 : Int32)), .val (.int x7), .val (.int x8), .val (.int x9), .val (.int x10), .val (.int x11), .val (.int x12), .val (.int x13), .val (.int x14), .val (.int x15), .unset, .unset, .unset, .unset, .unset, .unset, .unset, .unset, .unset, .unset, .unset, .unset, .unset, .unset, .unset] at_100 rfl
    replace k := k.iload at_102 rfl
    replace k := k.iload at_104 rfl
    obtain ⟨_, _, ⟨rfl, rfl⟩, k⟩ := k.callS (y := (⟨"com/example/vidare/vidare/core/DerInsidePinLaw", "minForm", "(I)I"⟩ : MethodName)) at_106 (hw _ (List.mem_of_getElem? (i := 4) rfl)) (hw _ (List.mem_of_getElem? (i := 5) rfl)) (hw _ (List.mem_of_getElem? (i := 2) rfl)) (hw _ (List.mem_of_getElem? (i := 6) rfl)) (W := 1) (argsL := [(.int x14)]) (rest := [(.int x9)]) (rm2 Z a0 hw x14 h0 n0) rfl (pd_12) rfl rfl rfl (by decide) (by decide) (by decide) (by decide) (by decide)
    replace k := k.stk [(.int (own_mf x14)), (.int x9)] rfl
    obtain ⟨_, _, ⟨rfl, rfl⟩, k⟩ := k.callS (y := (⟨"java/lang/Math", "max", "(II)I"⟩ : MethodName)) at_109 (hw _ (List.mem_of_getElem? (i := 7) rfl)) (hw _ (List.mem_of_getElem? (i := 8) rfl)) (hw _ (List.mem_of_getElem? (i := 9) rfl)) (hw _ (List.mem_of_getElem? (i := 10) rfl)) (W := 0) (argsL := [(.int x9), (.int (own_mf x14))]) (rest := []) (rm3 Z a0 hw x9 (own_mf x14) h0 n0) rfl (pd_1) rfl rfl rfl (by decide) (by decide) (by decide) (by decide) (by decide)
    replace k := k.stk [(.int (own_mx x9 (own_mf x14)))] rfl
    obtain ⟨x16, hx16⟩ : ∃ z, z = (own_mx x9 (own_mf x14)) := ⟨_, rfl⟩
    replace k := k.stk [(.int x16)] (by rw [hx16])
    obtain ⟨F16, hf16⟩ := own_fmx hx16 h9 b9 h14 (by omega)
    have bf16 := hf16.2.1
    replace k := k.istore #[.val (.int p1), .val (.int p2), .val (.int p3), .val (.int p4), .val (.int p5), .val (.int x5), .val (.int (0 : Int32)), .val (.int x7), .val (.int x8), .val (.int x9), .val (.int x10), .val (.int x11), .val (.int x12), .val (.int x13), .val (.int x14), .val (.int x15), .val (.int x16), .unset, .unset, .unset, .unset, .unset, .unset, .unset, .unset, .unset, .unset, .unset, .unset, .unset, .unset] at_112 rfl
    replace k := k.iconst (2 : Int32) at_114 rfl
    replace k := k.iload at_115 rfl
    replace k := k.iadd at_117
    obtain ⟨x17, hx17⟩ : ∃ z, z = ((2 : Int32) + x15) := ⟨_, rfl⟩
    replace k := k.stk [(.int x17)] (by rw [hx17])
    have h17 : x17.toInt = ((2 + F15 : Nat) : Int) := by rw [hx17]; exact own_ad (A := 2) (by decide) hf15.1 (by omega)
    replace k := k.istore #[.val (.int p1), .val (.int p2), .val (.int p3), .val (.int p4), .val (.int p5), .val (.int x5), .val (.int (0 : Int32)), .val (.int x7), .val (.int x8), .val (.int x9), .val (.int x10), .val (.int x11), .val (.int x12), .val (.int x13), .val (.int x14), .val (.int x15), .val (.int x16), .val (.int x17), .unset, .unset, .unset, .unset, .unset, .unset, .unset, .unset, .unset, .unset, .unset, .unset, .unset] at_118 rfl
    replace k := k.iload at_120 rfl
    replace k := k.iload at_122 rfl
    replace k := k.iadd at_124
    obtain ⟨x18, hx18⟩ : ∃ z, z = (x17 + x13) := ⟨_, rfl⟩
    replace k := k.stk [(.int x18)] (by rw [hx18])
    have h18 : x18.toInt = ((2 + F15 + X13 : Nat) : Int) := by rw [hx18]; exact own_ad h17 h13 (by omega)
    replace k := k.istore #[.val (.int p1), .val (.int p2), .val (.int p3), .val (.int p4), .val (.int p5), .val (.int x5), .val (.int (0 : Int32)), .val (.int x7), .val (.int x8), .val (.int x9), .val (.int x10), .val (.int x11), .val (.int x12), .val (.int x13), .val (.int x14), .val (.int x15), .val (.int x16), .val (.int x17), .val (.int x18), .unset, .unset, .unset, .unset, .unset, .unset, .unset, .unset, .unset, .unset, .unset, .unset] at_125 rfl
    replace k := k.iconst (2 : Int32) at_127 rfl
    replace k := k.iload at_128 rfl
    replace k := k.iadd at_130
    obtain ⟨x19, hx19⟩ : ∃ z, z = ((2 : Int32) + x16) := ⟨_, rfl⟩
    replace k := k.stk [(.int x19)] (by rw [hx19])
    have h19 : x19.toInt = ((2 + F16 : Nat) : Int) := by rw [hx19]; exact own_ad (A := 2) (by decide) hf16.1 (by omega)
    replace k := k.istore #[.val (.int p1), .val (.int p2), .val (.int p3), .val (.int p4), .val (.int p5), .val (.int x5), .val (.int (0 : Int32)), .val (.int x7), .val (.int x8), .val (.int x9), .val (.int x10), .val (.int x11), .val (.int x12), .val (.int x13), .val (.int x14), .val (.int x15), .val (.int x16), .val (.int x17), .val (.int x18), .val (.int x19), .unset, .unset, .unset, .unset, .unset, .unset, .unset, .unset, .unset, .unset, .unset] at_131 rfl
    replace k := k.iload at_133 rfl
    replace k := k.iload at_135 rfl
    replace k := k.iadd at_137
    obtain ⟨x20, hx20⟩ : ∃ z, z = (x19 + x14) := ⟨_, rfl⟩
    replace k := k.stk [(.int x20)] (by rw [hx20])
    have h20 : x20.toInt = ((2 + F16 + X14 : Nat) : Int) := by rw [hx20]; exact own_ad h19 h14 (by omega)
    replace k := k.istore #[.val (.int p1), .val (.int p2), .val (.int p3), .val (.int p4), .val (.int p5), .val (.int x5), .val (.int (0 : Int32)), .val (.int x7), .val (.int x8), .val (.int x9), .val (.int x10), .val (.int x11), .val (.int x12), .val (.int x13), .val (.int x14), .val (.int x15), .val (.int x16), .val (.int x17), .val (.int x18), .val (.int x19), .val (.int x20), .unset, .unset, .unset, .unset, .unset, .unset, .unset, .unset, .unset, .unset] at_138 rfl
    replace k := k.iload at_140 rfl
    replace k := k.iconst (1 : Int32) at_142 rfl
    replace k := k.icmpYes (pc' := 151) at_143 (by decide) (by decide) (by decide)
    replace k := k.iconst (0 : Int32) at_151 rfl
    replace k := k.iload at_152 rfl
    replace k := k.iconst (2 : Int32) at_154 rfl
    replace k := k.icmpYes (pc' := 163) at_155 (by decide) (by decide) (by decide)
    replace k := k.iconst (0 : Int32) at_163 rfl
    replace k := k.iadd at_164
    replace k := k.foldI (0 : Int32) (by decide)
    obtain ⟨x21, hx21⟩ : ∃ z, z = (0 : Int32) := ⟨_, rfl⟩
    replace k := k.stk [(.int x21)] (by rw [hx21])
    have h21 : x21.toInt = ((0 : Nat) : Int) := by rw [hx21]; decide
    replace k := k.istore #[.val (.int p1), .val (.int p2), .val (.int p3), .val (.int p4), .val (.int p5), .val (.int x5), .val (.int (0 : Int32)), .val (.int x7), .val (.int x8), .val (.int x9), .val (.int x10), .val (.int x11), .val (.int x12), .val (.int x13), .val (.int x14), .val (.int x15), .val (.int x16), .val (.int x17), .val (.int x18), .val (.int x19), .val (.int x20), .val (.int x21), .unset, .unset, .unset, .unset, .unset, .unset, .unset, .unset, .unset] at_165 rfl
    replace k := k.iload at_167 rfl
    replace k := k.iload at_169 rfl
    obtain ⟨_, _, ⟨rfl, rfl⟩, k⟩ := k.callS (y := (⟨"com/example/vidare/vidare/core/DerInsidePinLaw", "minForm", "(I)I"⟩ : MethodName)) at_171 (hw _ (List.mem_of_getElem? (i := 4) rfl)) (hw _ (List.mem_of_getElem? (i := 5) rfl)) (hw _ (List.mem_of_getElem? (i := 2) rfl)) (hw _ (List.mem_of_getElem? (i := 6) rfl)) (W := 1) (argsL := [(.int x21)]) (rest := [(.int x7)]) (rm2 Z a0 hw x21 h0 n0) rfl (pd_12) rfl rfl rfl (by decide) (by decide) (by decide) (by decide) (by decide)
    replace k := k.stk [(.int (own_mf x21)), (.int x7)] rfl
    obtain ⟨_, _, ⟨rfl, rfl⟩, k⟩ := k.callS (y := (⟨"java/lang/Math", "max", "(II)I"⟩ : MethodName)) at_174 (hw _ (List.mem_of_getElem? (i := 7) rfl)) (hw _ (List.mem_of_getElem? (i := 8) rfl)) (hw _ (List.mem_of_getElem? (i := 9) rfl)) (hw _ (List.mem_of_getElem? (i := 10) rfl)) (W := 0) (argsL := [(.int x7), (.int (own_mf x21))]) (rest := []) (rm3 Z a0 hw x7 (own_mf x21) h0 n0) rfl (pd_1) rfl rfl rfl (by decide) (by decide) (by decide) (by decide) (by decide)
    replace k := k.stk [(.int (own_mx x7 (own_mf x21)))] rfl
    obtain ⟨x22, hx22⟩ : ∃ z, z = (own_mx x7 (own_mf x21)) := ⟨_, rfl⟩
    replace k := k.stk [(.int x22)] (by rw [hx22])
    obtain ⟨F22, hf22⟩ := own_fmx hx22 h7 b7 h21 (by omega)
    have bf22 := hf22.2.1
    replace k := k.istore #[.val (.int p1), .val (.int p2), .val (.int p3), .val (.int p4), .val (.int p5), .val (.int x5), .val (.int (0 : Int32)), .val (.int x7), .val (.int x8), .val (.int x9), .val (.int x10), .val (.int x11), .val (.int x12), .val (.int x13), .val (.int x14), .val (.int x15), .val (.int x16), .val (.int x17), .val (.int x18), .val (.int x19), .val (.int x20), .val (.int x21), .val (.int x22), .unset, .unset, .unset, .unset, .unset, .unset, .unset, .unset] at_177 rfl
    replace k := k.sipush (800 : Int32) at_179 rfl
    obtain ⟨h101, b101, g101, E101, A101, X101, k⟩ := k.newarr (ad := "[B") at_182 (hw _ (List.mem_of_getElem? (i := 11) rfl)) (by decide) 800 (by decide) 800 (by decide) (by decide) (by decide) (by decide) (by decide)
    have ge_b101 : n0 ≤ b101 := Nat.le_trans Z0 (Nat.le_of_eq g101.symm)
    replace k := k.astore #[.val (.int p1), .val (.int p2), .val (.int p3), .val (.int p4), .val (.int p5), .val (.int x5), .val (.int (0 : Int32)), .val (.int x7), .val (.int x8), .val (.int x9), .val (.int x10), .val (.int x11), .val (.int x12), .val (.int x13), .val (.int x14), .val (.int x15), .val (.int x16), .val (.int x17), .val (.int x18), .val (.int x19), .val (.int x20), .val (.int x21), .val (.int x22), .val (.ref b101), .unset, .unset, .unset, .unset, .unset, .unset, .unset] at_184 rfl rfl
    have Ab0 : Arf Z h101 b101 .byte 800 (own_bf (fun _ => 0)) := A101.congr (fun i hi => rfl)
    replace k := k.aload at_186 rfl rfl
    replace k := k.iconst (0 : Int32) at_188 rfl
    replace k := k.iloadN at_189 rfl
    replace k := k.i2b at_190
    obtain ⟨h102, W102, A102, k⟩ := k.bastore at_191 Ab0 0 (by decide) (by decide) (by decide) ge_b101 (p4.toInt8.toInt32) (own_i2b _)
    replace k := k.aload at_192 rfl rfl
    replace k := k.iconst (1 : Int32) at_194 rfl
    replace k := k.iloadN at_195 rfl
    replace k := k.bipush (8 : Int32) at_196 rfl
    replace k := k.iushr at_198
    replace k := k.i2b at_199
    obtain ⟨h103, W103, A103, k⟩ := k.bastore at_200 (own_bfA A102) 1 (by decide) (by decide) (by decide) ge_b101 (((p4.toUInt32 >>> ((8 : Int32) &&& 31).toUInt32).toInt32).toInt8.toInt32) (own_i2b _)
    replace k := k.aload at_201 rfl rfl
    replace k := k.iconst (2 : Int32) at_203 rfl
    replace k := k.iloadN at_204 rfl
    replace k := k.bipush (16 : Int32) at_205 rfl
    replace k := k.iushr at_207
    replace k := k.i2b at_208
    obtain ⟨h104, W104, A104, k⟩ := k.bastore at_209 (own_bfA A103) 2 (by decide) (by decide) (by decide) ge_b101 (((p4.toUInt32 >>> ((16 : Int32) &&& 31).toUInt32).toInt32).toInt8.toInt32) (own_i2b _)
    replace k := k.aload at_210 rfl rfl
    replace k := k.iload at_212 rfl
    replace k := k.iload at_214 rfl
    replace k := k.iload at_216 rfl
    replace k := k.iload at_218 rfl
    obtain ⟨_, hH105, ⟨rfl, KH105, GH105, AH105, DH105, hdH105, wH105⟩, k⟩ := k.callS (y := (⟨"com/example/vidare/vidare/core/DerInsidePinLaw", "header", "([BIIII)I"⟩ : MethodName)) at_220 (hw _ (List.mem_of_getElem? (i := 12) rfl)) (hw _ (List.mem_of_getElem? (i := 13) rfl)) (hw _ (List.mem_of_getElem? (i := 2) rfl)) (hw _ (List.mem_of_getElem? (i := 14) rfl)) (W := 0) (argsL := [(.ref b101), (.int x5), (.int x10), (.int x22), (.int x21)]) (rest := []) (rm4 Z a0 hw b101 x5 x10 x22 x21 X5 (own_up (own_up (own_up (fun _ => 0) 0 (p4.toInt8.toInt32)) 1 (((p4.toUInt32 >>> ((8 : Int32) &&& 31).toUInt32).toInt32).toInt8.toInt32)) 2 (((p4.toUInt32 >>> ((16 : Int32) &&& 31).toUInt32).toInt32).toInt8.toInt32)) h104 n0 ge_b101 (own_bfA A104) (own_derU (own_derU (own_derU own_der0 (own_b8 _)) (own_b8 _)) (own_b8 _)) h5 (by omega) (own_fm4 hf22)) rfl (pd_13) rfl rfl rfl (by decide) (by decide) (by decide) (by decide) (by decide)
    replace k := k.stk [(.int ((2 : Int32) + x22))] rfl
    obtain ⟨x24, hx24⟩ : ∃ z, z = ((2 : Int32) + x22) := ⟨_, rfl⟩
    replace k := k.stk [(.int x24)] (by rw [hx24])
    have h24 : x24.toInt = ((2 + F22 : Nat) : Int) := by rw [hx24]; exact own_ad (A := 2) (by decide) hf22.1 (by omega)
    replace k := k.istore #[.val (.int p1), .val (.int p2), .val (.int p3), .val (.int p4), .val (.int p5), .val (.int x5), .val (.int (0 : Int32)), .val (.int x7), .val (.int x8), .val (.int x9), .val (.int x10), .val (.int x11), .val (.int x12), .val (.int x13), .val (.int x14), .val (.int x15), .val (.int x16), .val (.int x17), .val (.int x18), .val (.int x19), .val (.int x20), .val (.int x21), .val (.int x22), .val (.ref b101), .val (.int x24), .unset, .unset, .unset, .unset, .unset, .unset] at_223 rfl
    replace k := k.iload at_225 rfl
    replace k := k.iload at_227 rfl
    replace k := k.iadd at_229
    obtain ⟨x25, hx25⟩ : ∃ z, z = (x5 + x24) := ⟨_, rfl⟩
    replace k := k.stk [(.int x25)] (by rw [hx25])
    have h25 : x25.toInt = (((X5 + 2 + F22) : Nat) : Int) := by rw [hx25]; exact (own_ad h5 h24 (by omega)).trans (by omega)
    replace k := k.istore #[.val (.int p1), .val (.int p2), .val (.int p3), .val (.int p4), .val (.int p5), .val (.int x5), .val (.int (0 : Int32)), .val (.int x7), .val (.int x8), .val (.int x9), .val (.int x10), .val (.int x11), .val (.int x12), .val (.int x13), .val (.int x14), .val (.int x15), .val (.int x16), .val (.int x17), .val (.int x18), .val (.int x19), .val (.int x20), .val (.int x21), .val (.int x22), .val (.ref b101), .val (.int x24), .val (.int x25), .unset, .unset, .unset, .unset, .unset] at_230 rfl
    replace k := k.iload at_232 rfl
    replace k := k.iload at_234 rfl
    replace k := k.iadd at_236
    obtain ⟨x26, hx26⟩ : ∃ z, z = (x25 + x18) := ⟨_, rfl⟩
    replace k := k.stk [(.int x26)] (by rw [hx26])
    have h26 : x26.toInt = (((X5 + 2 + F22 + (2 + F15 + X13)) : Nat) : Int) := by rw [hx26]; exact own_ad h25 h18 (by omega)
    replace k := k.istore #[.val (.int p1), .val (.int p2), .val (.int p3), .val (.int p4), .val (.int p5), .val (.int x5), .val (.int (0 : Int32)), .val (.int x7), .val (.int x8), .val (.int x9), .val (.int x10), .val (.int x11), .val (.int x12), .val (.int x13), .val (.int x14), .val (.int x15), .val (.int x16), .val (.int x17), .val (.int x18), .val (.int x19), .val (.int x20), .val (.int x21), .val (.int x22), .val (.ref b101), .val (.int x24), .val (.int x25), .val (.int x26), .unset, .unset, .unset, .unset] at_237 rfl
    replace k := k.iload at_239 rfl
    replace k := k.iconst (1 : Int32) at_241 rfl
    replace k := k.icmpYes (pc' := 275) at_242 (by decide) (by decide) (by decide)
    replace k := k.iload at_275 rfl
    replace k := k.iconst (2 : Int32) at_277 rfl
    replace k := k.icmpYes (pc' := 314) at_278 (by decide) (by decide) (by decide)
    replace k := k.iload at_314 rfl
    replace k := k.iload at_316 rfl
    replace k := k.iadd at_318
    replace k := k.iload at_319 rfl
    replace k := k.iadd at_321
    obtain ⟨x27, hx27⟩ : ∃ z, z = ((x5 + x24) + x21) := ⟨_, rfl⟩
    replace k := k.stk [(.int x27)] (by rw [hx27])
    have h27 : x27.toInt = ((X5 + 2 + F22 + 0 : Nat) : Int) := by rw [hx27]; exact (own_ad (own_ad h5 h24 (by omega)) h21 (by omega)).trans (by omega)
    have h27_1 : (x27 + (1 : Int32)).toInt = ((X5 + 2 + F22 + 0 + 1 : Nat) : Int) := own_ad h27 (by decide) (by omega)
    have h27_2 : (x27 + (2 : Int32)).toInt = ((X5 + 2 + F22 + 0 + 2 : Nat) : Int) := own_ad h27 (by decide) (by omega)
    have h27_3 : (x27 + (3 : Int32)).toInt = ((X5 + 2 + F22 + 0 + 3 : Nat) : Int) := own_ad h27 (by decide) (by omega)
    have h27_4 : (x27 + (4 : Int32)).toInt = ((X5 + 2 + F22 + 0 + 4 : Nat) : Int) := own_ad h27 (by decide) (by omega)
    replace k := k.istore #[.val (.int p1), .val (.int p2), .val (.int p3), .val (.int p4), .val (.int p5), .val (.int x5), .val (.int (0 : Int32)), .val (.int x7), .val (.int x8), .val (.int x9), .val (.int x10), .val (.int x11), .val (.int x12), .val (.int x13), .val (.int x14), .val (.int x15), .val (.int x16), .val (.int x17), .val (.int x18), .val (.int x19), .val (.int x20), .val (.int x21), .val (.int x22), .val (.ref b101), .val (.int x24), .val (.int x25), .val (.int x26), .val (.int x27), .unset, .unset, .unset] at_322 rfl
    replace k := k.aload at_324 rfl rfl
    replace k := k.iload at_326 rfl
    replace k := k.iload at_328 rfl
    replace k := k.i2b at_330
    obtain ⟨h106, W106, A106, k⟩ := k.bastore at_331 AH105 (X5 + 2 + F22 + 0) (own_at h27) (own_nn h27) (by omega) ge_b101 (p5.toInt8.toInt32) (own_i2b _)
    obtain ⟨G107, hG107⟩ : ∃ g, g = (own_up GH105 (X5 + 2 + F22 + 0) (p5.toInt8.toInt32)) := ⟨_, rfl⟩
    have AG107 : Arf Z h106 b101 .byte 800 (own_bf G107) := by rw [hG107]; exact (own_bfA A106)
    have DG107 : own_der G107 := by rw [hG107]; exact (own_derU DH105 (own_b8 _))
    have wG107 : ∀ j, j < X5 + 2 + F22 + 0 → G107 j = GH105 j := fun j hj => by rw [hG107]; exact if_neg (by omega)
    have hd108 := own_hdrM hdH105 hf22 (fun j hj => wG107 j (by omega))
    replace k := k.aload at_332 rfl rfl
    replace k := k.iload at_334 rfl
    replace k := k.iconst (1 : Int32) at_336 rfl
    replace k := k.iadd at_337
    replace k := k.iload at_338 rfl
    replace k := k.bipush (8 : Int32) at_340 rfl
    replace k := k.iushr at_342
    replace k := k.i2b at_343
    obtain ⟨h109, W109, A109, k⟩ := k.bastore at_344 AG107 (X5 + 2 + F22 + 0 + 1) (own_at h27_1) (own_nn h27_1) (by omega) ge_b101 (((p5.toUInt32 >>> ((8 : Int32) &&& 31).toUInt32).toInt32).toInt8.toInt32) (own_i2b _)
    obtain ⟨G110, hG110⟩ : ∃ g, g = (own_up G107 (X5 + 2 + F22 + 0 + 1) (((p5.toUInt32 >>> ((8 : Int32) &&& 31).toUInt32).toInt32).toInt8.toInt32)) := ⟨_, rfl⟩
    have AG110 : Arf Z h109 b101 .byte 800 (own_bf G110) := by rw [hG110]; exact (own_bfA A109)
    have DG110 : own_der G110 := by rw [hG110]; exact (own_derU DG107 (own_b8 _))
    have wG110 : ∀ j, j < X5 + 2 + F22 + 0 → G110 j = G107 j := fun j hj => by rw [hG110]; exact if_neg (by omega)
    have hd111 := own_hdrM hd108 hf22 (fun j hj => wG110 j (by omega))
    replace k := k.aload at_345 rfl rfl
    replace k := k.iload at_347 rfl
    replace k := k.iconst (2 : Int32) at_349 rfl
    replace k := k.iadd at_350
    replace k := k.iload at_351 rfl
    replace k := k.bipush (16 : Int32) at_353 rfl
    replace k := k.iushr at_355
    replace k := k.i2b at_356
    obtain ⟨h112, W112, A112, k⟩ := k.bastore at_357 AG110 (X5 + 2 + F22 + 0 + 2) (own_at h27_2) (own_nn h27_2) (by omega) ge_b101 (((p5.toUInt32 >>> ((16 : Int32) &&& 31).toUInt32).toInt32).toInt8.toInt32) (own_i2b _)
    obtain ⟨G113, hG113⟩ : ∃ g, g = (own_up G110 (X5 + 2 + F22 + 0 + 2) (((p5.toUInt32 >>> ((16 : Int32) &&& 31).toUInt32).toInt32).toInt8.toInt32)) := ⟨_, rfl⟩
    have AG113 : Arf Z h112 b101 .byte 800 (own_bf G113) := by rw [hG113]; exact (own_bfA A112)
    have DG113 : own_der G113 := by rw [hG113]; exact (own_derU DG110 (own_b8 _))
    have wG113 : ∀ j, j < X5 + 2 + F22 + 0 → G113 j = G110 j := fun j hj => by rw [hG113]; exact if_neg (by omega)
    have hd114 := own_hdrM hd111 hf22 (fun j hj => wG113 j (by omega))
    replace k := k.aload at_358 rfl rfl
    replace k := k.iload at_360 rfl
    replace k := k.iconst (3 : Int32) at_362 rfl
    replace k := k.iadd at_363
    replace k := k.iload at_364 rfl
    replace k := k.bipush (24 : Int32) at_366 rfl
    replace k := k.iushr at_368
    replace k := k.i2b at_369
    obtain ⟨h115, W115, A115, k⟩ := k.bastore at_370 AG113 (X5 + 2 + F22 + 0 + 3) (own_at h27_3) (own_nn h27_3) (by omega) ge_b101 (((p5.toUInt32 >>> ((24 : Int32) &&& 31).toUInt32).toInt32).toInt8.toInt32) (own_i2b _)
    obtain ⟨G116, hG116⟩ : ∃ g, g = (own_up G113 (X5 + 2 + F22 + 0 + 3) (((p5.toUInt32 >>> ((24 : Int32) &&& 31).toUInt32).toInt32).toInt8.toInt32)) := ⟨_, rfl⟩
    have AG116 : Arf Z h115 b101 .byte 800 (own_bf G116) := by rw [hG116]; exact (own_bfA A115)
    have DG116 : own_der G116 := by rw [hG116]; exact (own_derU DG113 (own_b8 _))
    have wG116 : ∀ j, j < X5 + 2 + F22 + 0 → G116 j = G113 j := fun j hj => by rw [hG116]; exact if_neg (by omega)
    have hd117 := own_hdrM hd114 hf22 (fun j hj => wG116 j (by omega))
    replace k := k.aload at_371 rfl rfl
    replace k := k.iload at_373 rfl
    replace k := k.iconst (4 : Int32) at_375 rfl
    replace k := k.iadd at_376
    replace k := k.iloadN at_377 rfl
    replace k := k.bipush (24 : Int32) at_378 rfl
    replace k := k.iushr at_380
    replace k := k.i2b at_381
    obtain ⟨h118, W118, A118, k⟩ := k.bastore at_382 AG116 (X5 + 2 + F22 + 0 + 4) (own_at h27_4) (own_nn h27_4) (by omega) ge_b101 (((p4.toUInt32 >>> ((24 : Int32) &&& 31).toUInt32).toInt32).toInt8.toInt32) (own_i2b _)
    obtain ⟨G119, hG119⟩ : ∃ g, g = (own_up G116 (X5 + 2 + F22 + 0 + 4) (((p4.toUInt32 >>> ((24 : Int32) &&& 31).toUInt32).toInt32).toInt8.toInt32)) := ⟨_, rfl⟩
    have AG119 : Arf Z h118 b101 .byte 800 (own_bf G119) := by rw [hG119]; exact (own_bfA A118)
    have DG119 : own_der G119 := by rw [hG119]; exact (own_derU DG116 (own_b8 _))
    have wG119 : ∀ j, j < X5 + 2 + F22 + 0 → G119 j = G116 j := fun j hj => by rw [hG119]; exact if_neg (by omega)
    have hd120 := own_hdrM hd117 hf22 (fun j hj => wG119 j (by omega))
    replace k := k.aload at_383 rfl rfl
    replace k := k.iload at_385 rfl
    obtain ⟨_, hI121, ⟨lI121, dI121, rfl, KI121, ElI121, FsI121, FeI121⟩, k⟩ := k.callS (y := (⟨"com/example/vidare/vidare/core/Der", "inside", "([BI)Ljava/util/List;"⟩ : MethodName)) at_387 (hw _ (List.mem_of_getElem? (i := 15) rfl)) (hw _ (List.mem_of_getElem? (i := 16) rfl)) (hw _ (List.mem_of_getElem? (i := 17) rfl)) (hw _ (List.mem_of_getElem? (i := 18) rfl)) (W := 0) (argsL := [(.ref b101), (.int x5)]) (rest := []) (rm5_0 Z a0 hw b101 aD x5 x22 x21 X5 F22 0 G119 fD  h118 n0 (Nat.le_trans (Nat.le_trans (Nat.le_trans (Nat.le_trans (Nat.le_trans (Nat.le_trans (Nat.le_trans (Nat.le_trans (Nat.le_trans (Nat.le_trans Z0 E101.1) (Nat.le_of_eq (Wr.size W102).symm)) (Nat.le_of_eq (Wr.size W103).symm)) (Nat.le_of_eq (Wr.size W104).symm)) KH105.1) (Nat.le_of_eq (Wr.size W106).symm)) (Nat.le_of_eq (Wr.size W109).symm)) (Nat.le_of_eq (Wr.size W112).symm)) (Nat.le_of_eq (Wr.size W115).symm)) (Nat.le_of_eq (Wr.size W118).symm)) (Sta.wr W118 (Sta.wr W115 (Sta.wr W112 (Sta.wr W109 (Sta.wr W106 (Sta.keepN (Sta.wr W104 (Sta.wr W103 (Sta.wr W102 (Sta.ext E101 S_D)))) KH105 (allS (Exa.nost (Exa.wr W104 (Exa.wr W103 (Exa.wr W102 X101)))) all0))))))) ((((((((((A_D.ext E101).other W102 (Nat.ne_of_lt (Nat.lt_of_lt_of_le A_D.lt (Nat.le_of_eq g101.symm)))).other W103 (Nat.ne_of_lt (Nat.lt_of_lt_of_le A_D.lt (Nat.le_of_eq g101.symm)))).other W104 (Nat.ne_of_lt (Nat.lt_of_lt_of_le A_D.lt (Nat.le_of_eq g101.symm)))).keep KH105 (ninS (Nat.ne_of_lt (Nat.lt_of_lt_of_le A_D.lt (Nat.le_of_eq g101.symm))) nin0)).other W106 (Nat.ne_of_lt (Nat.lt_of_lt_of_le A_D.lt (Nat.le_of_eq g101.symm)))).other W109 (Nat.ne_of_lt (Nat.lt_of_lt_of_le A_D.lt (Nat.le_of_eq g101.symm)))).other W112 (Nat.ne_of_lt (Nat.lt_of_lt_of_le A_D.lt (Nat.le_of_eq g101.symm)))).other W115 (Nat.ne_of_lt (Nat.lt_of_lt_of_le A_D.lt (Nat.le_of_eq g101.symm)))).other W118 (Nat.ne_of_lt (Nat.lt_of_lt_of_le A_D.lt (Nat.le_of_eq g101.symm)))) AG119 DG119 h5 hd120 hf22 h21 rfl (by omega) ) rfl (pd_14) rfl rfl rfl (by decide) (by decide) (by decide) (by decide) (by decide)
    replace k := k.stk [(.ref lI121)] rfl
    replace k := k.astore #[.val (.int p1), .val (.int p2), .val (.int p3), .val (.int p4), .val (.int p5), .val (.int x5), .val (.int (0 : Int32)), .val (.int x7), .val (.int x8), .val (.int x9), .val (.int x10), .val (.int x11), .val (.int x12), .val (.int x13), .val (.int x14), .val (.int x15), .val (.int x16), .val (.int x17), .val (.int x18), .val (.int x19), .val (.int x20), .val (.int x21), .val (.int x22), .val (.ref b101), .val (.int x24), .val (.int x25), .val (.int x26), .val (.int x27), .val (.ref lI121), .unset, .unset] at_390 rfl rfl
    replace k := k.aload at_392 rfl rfl
    obtain ⟨_, _, ⟨rfl, rfl⟩, k⟩ := k.callF (xi := (⟨"java/util/List", "size", "()I"⟩ : MethodName)) (y := (⟨"java/util/ArrayList", "size", "()I"⟩ : MethodName)) (a := lI121) at_394 (hw _ (List.mem_of_getElem? (i := 49) rfl)) (hw _ (List.mem_of_getElem? (i := 50) rfl)) (fun s args hs => mvT hs (hw _ (List.mem_of_getElem? (i := 51) rfl))) (hw _ (List.mem_of_getElem? (i := 52) rfl)) (hw _ (List.mem_of_getElem? (i := 53) rfl)) (hw _ (List.mem_of_getElem? (i := 54) rfl)) (hw _ (List.mem_of_getElem? (i := 55) rfl)) (hw _ (List.mem_of_getElem? (i := 56) rfl)) (hw _ (List.mem_of_getElem? (i := 25) rfl)) (hw _ (List.mem_of_getElem? (i := 57) rfl)) ElI121 (W := 0) (argsL := []) (rest := []) (rm11 Z a0 hw lI121 (0 : Int32) hI121 n0 FsI121) rfl (pd_15) rfl rfl rfl (by decide) (by decide) (by decide) (by decide) (by decide)
    replace k := k.stk [(.int (0 : Int32))] rfl
    replace k := k.iload at_399 rfl
    replace k := k.icmpYes (pc' := 406) at_401 (by decide) (by decide) (by decide)
    replace k := k.iload at_406 rfl
    replace k := k.iconst (1 : Int32) at_408 rfl
    replace k := k.icmpYes (pc' := 437) at_409 (by decide) (by decide) (by decide)
    replace k := k.iconst (1 : Int32) at_437 rfl
    replace k := k.goto (pc' := 442) at_438 (by decide) (by decide)
    replace k := k.istore #[.val (.int p1), .val (.int p2), .val (.int p3), .val (.int p4), .val (.int p5), .val (.int x5), .val (.int (0 : Int32)), .val (.int x7), .val (.int x8), .val (.int x9), .val (.int x10), .val (.int x11), .val (.int x12), .val (.int x13), .val (.int x14), .val (.int x15), .val (.int x16), .val (.int x17), .val (.int x18), .val (.int x19), .val (.int x20), .val (.int x21), .val (.int x22), .val (.ref b101), .val (.int x24), .val (.int x25), .val (.int x26), .val (.int x27), .val (.ref lI121), .val (.int (1 : Int32)), .unset] at_442 rfl
    replace k := k.iload at_444 rfl
    replace k := k.iconst (2 : Int32) at_446 rfl
    replace k := k.icmpYes (pc' := 475) at_447 (by decide) (by decide) (by decide)
    replace k := k.iconst (1 : Int32) at_475 rfl
    replace k := k.goto (pc' := 480) at_476 (by decide) (by decide)
    replace k := k.istore #[.val (.int p1), .val (.int p2), .val (.int p3), .val (.int p4), .val (.int p5), .val (.int x5), .val (.int (0 : Int32)), .val (.int x7), .val (.int x8), .val (.int x9), .val (.int x10), .val (.int x11), .val (.int x12), .val (.int x13), .val (.int x14), .val (.int x15), .val (.int x16), .val (.int x17), .val (.int x18), .val (.int x19), .val (.int x20), .val (.int x21), .val (.int x22), .val (.ref b101), .val (.int x24), .val (.int x25), .val (.int x26), .val (.int x27), .val (.ref lI121), .val (.int (1 : Int32)), .val (.int (1 : Int32))] at_480 rfl
    replace k := k.iload at_482 rfl
    replace k := k.ifNo at_484 (by decide)
    replace k := k.iload at_487 rfl
    replace k := k.ifNo at_489 (by decide)
    replace k := k.iconst (1 : Int32) at_492 rfl
    replace k := k.goto (pc' := 497) at_493 (by decide) (by decide)
    exact k.iret at_497 rfl (by simp) rfl rfl (by decide) (by decide)
  · skip
    replace k := k.stk [(.int (1 : Int32))] (by rw [hn])
    replace k := k.istore #[.val (.int p1), .val (.int p2), .val (.int p3), .val (.int p4), .val (.int p5), .val (.int x5), .val (.int (1 : Int32)), .unset, .unset, .unset, .unset, .unset, .unset, .unset, .unset, .unset, .unset, .unset, .unset, .unset, .unset, .unset, .unset, .unset, .unset, .unset, .unset, .unset, .unset, .unset, .unset] at_12 rfl
    replace k := k.iloadN at_14 rfl
    replace k := k.iconst (4 : Int32) at_15 rfl
    replace k := k.iushr at_16
    replace k := k.iconst (3 : Int32) at_17 rfl
    replace k := k.iand at_18
    obtain ⟨x7, hx7⟩ : ∃ z, z = (((p1.toUInt32 >>> ((4 : Int32) &&& 31).toUInt32).toInt32) &&& (3 : Int32)) := ⟨_, rfl⟩
    replace k := k.stk [(.int x7)] (by rw [hx7])
    obtain ⟨X7, h7, b7⟩ := own_m3 _ _ hx7
    replace k := k.istore #[.val (.int p1), .val (.int p2), .val (.int p3), .val (.int p4), .val (.int p5), .val (.int x5), .val (.int (1 : Int32)), .val (.int x7), .unset, .unset, .unset, .unset, .unset, .unset, .unset, .unset, .unset, .unset, .unset, .unset, .unset, .unset, .unset, .unset, .unset, .unset, .unset, .unset, .unset, .unset, .unset] at_19 rfl
    replace k := k.iloadN at_21 rfl
    replace k := k.bipush (6 : Int32) at_22 rfl
    replace k := k.iushr at_24
    replace k := k.iconst (3 : Int32) at_25 rfl
    replace k := k.iand at_26
    obtain ⟨x8, hx8⟩ : ∃ z, z = (((p1.toUInt32 >>> ((6 : Int32) &&& 31).toUInt32).toInt32) &&& (3 : Int32)) := ⟨_, rfl⟩
    replace k := k.stk [(.int x8)] (by rw [hx8])
    obtain ⟨X8, h8, b8⟩ := own_m3 _ _ hx8
    replace k := k.istore #[.val (.int p1), .val (.int p2), .val (.int p3), .val (.int p4), .val (.int p5), .val (.int x5), .val (.int (1 : Int32)), .val (.int x7), .val (.int x8), .unset, .unset, .unset, .unset, .unset, .unset, .unset, .unset, .unset, .unset, .unset, .unset, .unset, .unset, .unset, .unset, .unset, .unset, .unset, .unset, .unset, .unset] at_27 rfl
    replace k := k.iloadN at_29 rfl
    replace k := k.bipush (8 : Int32) at_30 rfl
    replace k := k.iushr at_32
    replace k := k.iconst (3 : Int32) at_33 rfl
    replace k := k.iand at_34
    obtain ⟨x9, hx9⟩ : ∃ z, z = (((p1.toUInt32 >>> ((8 : Int32) &&& 31).toUInt32).toInt32) &&& (3 : Int32)) := ⟨_, rfl⟩
    replace k := k.stk [(.int x9)] (by rw [hx9])
    obtain ⟨X9, h9, b9⟩ := own_m3 _ _ hx9
    replace k := k.istore #[.val (.int p1), .val (.int p2), .val (.int p3), .val (.int p4), .val (.int p5), .val (.int x5), .val (.int (1 : Int32)), .val (.int x7), .val (.int x8), .val (.int x9), .unset, .unset, .unset, .unset, .unset, .unset, .unset, .unset, .unset, .unset, .unset, .unset, .unset, .unset, .unset, .unset, .unset, .unset, .unset, .unset, .unset] at_35 rfl
    replace k := k.iloadN at_37 rfl
    replace k := k.bipush (10 : Int32) at_38 rfl
    replace k := k.iushr at_40
    replace k := k.sipush (255 : Int32) at_41 rfl
    replace k := k.iand at_44
    obtain ⟨x10, hx10⟩ : ∃ z, z = (((p1.toUInt32 >>> ((10 : Int32) &&& 31).toUInt32).toInt32) &&& (255 : Int32)) := ⟨_, rfl⟩
    replace k := k.stk [(.int x10)] (by rw [hx10])
    replace k := k.istore #[.val (.int p1), .val (.int p2), .val (.int p3), .val (.int p4), .val (.int p5), .val (.int x5), .val (.int (1 : Int32)), .val (.int x7), .val (.int x8), .val (.int x9), .val (.int x10), .unset, .unset, .unset, .unset, .unset, .unset, .unset, .unset, .unset, .unset, .unset, .unset, .unset, .unset, .unset, .unset, .unset, .unset, .unset, .unset] at_45 rfl
    replace k := k.iloadN at_47 rfl
    replace k := k.bipush (18 : Int32) at_48 rfl
    replace k := k.iushr at_50
    replace k := k.sipush (255 : Int32) at_51 rfl
    replace k := k.iand at_54
    obtain ⟨x11, hx11⟩ : ∃ z, z = (((p1.toUInt32 >>> ((18 : Int32) &&& 31).toUInt32).toInt32) &&& (255 : Int32)) := ⟨_, rfl⟩
    replace k := k.stk [(.int x11)] (by rw [hx11])
    replace k := k.istore #[.val (.int p1), .val (.int p2), .val (.int p3), .val (.int p4), .val (.int p5), .val (.int x5), .val (.int (1 : Int32)), .val (.int x7), .val (.int x8), .val (.int x9), .val (.int x10), .val (.int x11), .unset, .unset, .unset, .unset, .unset, .unset, .unset, .unset, .unset, .unset, .unset, .unset, .unset, .unset, .unset, .unset, .unset, .unset, .unset] at_55 rfl
    replace k := k.iloadN at_57 rfl
    replace k := k.bipush (18 : Int32) at_58 rfl
    replace k := k.iushr at_60
    replace k := k.sipush (255 : Int32) at_61 rfl
    replace k := k.iand at_64
    obtain ⟨x12, hx12⟩ : ∃ z, z = (((p2.toUInt32 >>> ((18 : Int32) &&& 31).toUInt32).toInt32) &&& (255 : Int32)) := ⟨_, rfl⟩
    replace k := k.stk [(.int x12)] (by rw [hx12])
    replace k := k.istore #[.val (.int p1), .val (.int p2), .val (.int p3), .val (.int p4), .val (.int p5), .val (.int x5), .val (.int (1 : Int32)), .val (.int x7), .val (.int x8), .val (.int x9), .val (.int x10), .val (.int x11), .val (.int x12), .unset, .unset, .unset, .unset, .unset, .unset, .unset, .unset, .unset, .unset, .unset, .unset, .unset, .unset, .unset, .unset, .unset, .unset] at_65 rfl
    replace k := k.iloadN at_67 rfl
    replace k := k.sipush (511 : Int32) at_68 rfl
    replace k := k.iand at_71
    obtain ⟨_, _, ⟨rfl, rfl⟩, k⟩ := k.callS (y := (⟨"com/example/vidare/vidare/core/DerInsidePinLaw", "contentLength", "(I)I"⟩ : MethodName)) at_72 (hw _ (List.mem_of_getElem? (i := 0) rfl)) (hw _ (List.mem_of_getElem? (i := 1) rfl)) (hw _ (List.mem_of_getElem? (i := 2) rfl)) (hw _ (List.mem_of_getElem? (i := 3) rfl)) (W := 0) (argsL := [(.int (p2 &&& (511 : Int32)))]) (rest := []) (rm1 Z a0 hw (p2 &&& (511 : Int32)) h0 n0) rfl (pd_12) rfl rfl rfl (by decide) (by decide) (by decide) (by decide) (by decide)
    replace k := k.stk [(.int (own_cl (p2 &&& (511 : Int32))))] rfl
    obtain ⟨x13, hx13⟩ : ∃ z, z = (own_cl (p2 &&& (511 : Int32))) := ⟨_, rfl⟩
    replace k := k.stk [(.int x13)] (by rw [hx13])
    obtain ⟨X13, h13, b13⟩ := own_clb _ _ hx13
    replace k := k.istore #[.val (.int p1), .val (.int p2), .val (.int p3), .val (.int p4), .val (.int p5), .val (.int x5), .val (.int (1 : Int32)), .val (.int x7), .val (.int x8), .val (.int x9), .val (.int x10), .val (.int x11), .val (.int x12), .val (.int x13), .unset, .unset, .unset, .unset, .unset, .unset, .unset, .unset, .unset, .unset, .unset, .unset, .unset, .unset, .unset, .unset, .unset] at_75 rfl
    replace k := k.iloadN at_77 rfl
    replace k := k.bipush (9 : Int32) at_78 rfl
    replace k := k.iushr at_80
    replace k := k.sipush (511 : Int32) at_81 rfl
    replace k := k.iand at_84
    obtain ⟨_, _, ⟨rfl, rfl⟩, k⟩ := k.callS (y := (⟨"com/example/vidare/vidare/core/DerInsidePinLaw", "contentLength", "(I)I"⟩ : MethodName)) at_85 (hw _ (List.mem_of_getElem? (i := 0) rfl)) (hw _ (List.mem_of_getElem? (i := 1) rfl)) (hw _ (List.mem_of_getElem? (i := 2) rfl)) (hw _ (List.mem_of_getElem? (i := 3) rfl)) (W := 0) (argsL := [(.int (((p2.toUInt32 >>> ((9 : Int32) &&& 31).toUInt32).toInt32) &&& (511 : Int32)))]) (rest := []) (rm1 Z a0 hw (((p2.toUInt32 >>> ((9 : Int32) &&& 31).toUInt32).toInt32) &&& (511 : Int32)) h0 n0) rfl (pd_12) rfl rfl rfl (by decide) (by decide) (by decide) (by decide) (by decide)
    replace k := k.stk [(.int (own_cl (((p2.toUInt32 >>> ((9 : Int32) &&& 31).toUInt32).toInt32) &&& (511 : Int32))))] rfl
    obtain ⟨x14, hx14⟩ : ∃ z, z = (own_cl (((p2.toUInt32 >>> ((9 : Int32) &&& 31).toUInt32).toInt32) &&& (511 : Int32))) := ⟨_, rfl⟩
    replace k := k.stk [(.int x14)] (by rw [hx14])
    obtain ⟨X14, h14, b14⟩ := own_clb _ _ hx14
    replace k := k.istore #[.val (.int p1), .val (.int p2), .val (.int p3), .val (.int p4), .val (.int p5), .val (.int x5), .val (.int (1 : Int32)), .val (.int x7), .val (.int x8), .val (.int x9), .val (.int x10), .val (.int x11), .val (.int x12), .val (.int x13), .val (.int x14), .unset, .unset, .unset, .unset, .unset, .unset, .unset, .unset, .unset, .unset, .unset, .unset, .unset, .unset, .unset, .unset] at_88 rfl
    replace k := k.iload at_90 rfl
    replace k := k.iload at_92 rfl
    obtain ⟨_, _, ⟨rfl, rfl⟩, k⟩ := k.callS (y := (⟨"com/example/vidare/vidare/core/DerInsidePinLaw", "minForm", "(I)I"⟩ : MethodName)) at_94 (hw _ (List.mem_of_getElem? (i := 4) rfl)) (hw _ (List.mem_of_getElem? (i := 5) rfl)) (hw _ (List.mem_of_getElem? (i := 2) rfl)) (hw _ (List.mem_of_getElem? (i := 6) rfl)) (W := 1) (argsL := [(.int x13)]) (rest := [(.int x8)]) (rm2 Z a0 hw x13 h0 n0) rfl (pd_12) rfl rfl rfl (by decide) (by decide) (by decide) (by decide) (by decide)
    replace k := k.stk [(.int (own_mf x13)), (.int x8)] rfl
    obtain ⟨_, _, ⟨rfl, rfl⟩, k⟩ := k.callS (y := (⟨"java/lang/Math", "max", "(II)I"⟩ : MethodName)) at_97 (hw _ (List.mem_of_getElem? (i := 7) rfl)) (hw _ (List.mem_of_getElem? (i := 8) rfl)) (hw _ (List.mem_of_getElem? (i := 9) rfl)) (hw _ (List.mem_of_getElem? (i := 10) rfl)) (W := 0) (argsL := [(.int x8), (.int (own_mf x13))]) (rest := []) (rm3 Z a0 hw x8 (own_mf x13) h0 n0) rfl (pd_1) rfl rfl rfl (by decide) (by decide) (by decide) (by decide) (by decide)
    replace k := k.stk [(.int (own_mx x8 (own_mf x13)))] rfl
    obtain ⟨x15, hx15⟩ : ∃ z, z = (own_mx x8 (own_mf x13)) := ⟨_, rfl⟩
    replace k := k.stk [(.int x15)] (by rw [hx15])
    obtain ⟨F15, hf15⟩ := own_fmx hx15 h8 b8 h13 (by omega)
    have bf15 := hf15.2.1
    replace k := k.istore #[.val (.int p1), .val (.int p2), .val (.int p3), .val (.int p4), .val (.int p5), .val (.int x5), .val (.int (1 : Int32)), .val (.int x7), .val (.int x8), .val (.int x9), .val (.int x10), .val (.int x11), .val (.int x12), .val (.int x13), .val (.int x14), .val (.int x15), .unset, .unset, .unset, .unset, .unset, .unset, .unset, .unset, .unset, .unset, .unset, .unset, .unset, .unset, .unset] at_100 rfl
    replace k := k.iload at_102 rfl
    replace k := k.iload at_104 rfl
    obtain ⟨_, _, ⟨rfl, rfl⟩, k⟩ := k.callS (y := (⟨"com/example/vidare/vidare/core/DerInsidePinLaw", "minForm", "(I)I"⟩ : MethodName)) at_106 (hw _ (List.mem_of_getElem? (i := 4) rfl)) (hw _ (List.mem_of_getElem? (i := 5) rfl)) (hw _ (List.mem_of_getElem? (i := 2) rfl)) (hw _ (List.mem_of_getElem? (i := 6) rfl)) (W := 1) (argsL := [(.int x14)]) (rest := [(.int x9)]) (rm2 Z a0 hw x14 h0 n0) rfl (pd_12) rfl rfl rfl (by decide) (by decide) (by decide) (by decide) (by decide)
    replace k := k.stk [(.int (own_mf x14)), (.int x9)] rfl
    obtain ⟨_, _, ⟨rfl, rfl⟩, k⟩ := k.callS (y := (⟨"java/lang/Math", "max", "(II)I"⟩ : MethodName)) at_109 (hw _ (List.mem_of_getElem? (i := 7) rfl)) (hw _ (List.mem_of_getElem? (i := 8) rfl)) (hw _ (List.mem_of_getElem? (i := 9) rfl)) (hw _ (List.mem_of_getElem? (i := 10) rfl)) (W := 0) (argsL := [(.int x9), (.int (own_mf x14))]) (rest := []) (rm3 Z a0 hw x9 (own_mf x14) h0 n0) rfl (pd_1) rfl rfl rfl (by decide) (by decide) (by decide) (by decide) (by decide)
    replace k := k.stk [(.int (own_mx x9 (own_mf x14)))] rfl
    obtain ⟨x16, hx16⟩ : ∃ z, z = (own_mx x9 (own_mf x14)) := ⟨_, rfl⟩
    replace k := k.stk [(.int x16)] (by rw [hx16])
    obtain ⟨F16, hf16⟩ := own_fmx hx16 h9 b9 h14 (by omega)
    have bf16 := hf16.2.1
    replace k := k.istore #[.val (.int p1), .val (.int p2), .val (.int p3), .val (.int p4), .val (.int p5), .val (.int x5), .val (.int (1 : Int32)), .val (.int x7), .val (.int x8), .val (.int x9), .val (.int x10), .val (.int x11), .val (.int x12), .val (.int x13), .val (.int x14), .val (.int x15), .val (.int x16), .unset, .unset, .unset, .unset, .unset, .unset, .unset, .unset, .unset, .unset, .unset, .unset, .unset, .unset] at_112 rfl
    replace k := k.iconst (2 : Int32) at_114 rfl
    replace k := k.iload at_115 rfl
    replace k := k.iadd at_117
    obtain ⟨x17, hx17⟩ : ∃ z, z = ((2 : Int32) + x15) := ⟨_, rfl⟩
    replace k := k.stk [(.int x17)] (by rw [hx17])
    have h17 : x17.toInt = ((2 + F15 : Nat) : Int) := by rw [hx17]; exact own_ad (A := 2) (by decide) hf15.1 (by omega)
    replace k := k.istore #[.val (.int p1), .val (.int p2), .val (.int p3), .val (.int p4), .val (.int p5), .val (.int x5), .val (.int (1 : Int32)), .val (.int x7), .val (.int x8), .val (.int x9), .val (.int x10), .val (.int x11), .val (.int x12), .val (.int x13), .val (.int x14), .val (.int x15), .val (.int x16), .val (.int x17), .unset, .unset, .unset, .unset, .unset, .unset, .unset, .unset, .unset, .unset, .unset, .unset, .unset] at_118 rfl
    replace k := k.iload at_120 rfl
    replace k := k.iload at_122 rfl
    replace k := k.iadd at_124
    obtain ⟨x18, hx18⟩ : ∃ z, z = (x17 + x13) := ⟨_, rfl⟩
    replace k := k.stk [(.int x18)] (by rw [hx18])
    have h18 : x18.toInt = ((2 + F15 + X13 : Nat) : Int) := by rw [hx18]; exact own_ad h17 h13 (by omega)
    replace k := k.istore #[.val (.int p1), .val (.int p2), .val (.int p3), .val (.int p4), .val (.int p5), .val (.int x5), .val (.int (1 : Int32)), .val (.int x7), .val (.int x8), .val (.int x9), .val (.int x10), .val (.int x11), .val (.int x12), .val (.int x13), .val (.int x14), .val (.int x15), .val (.int x16), .val (.int x17), .val (.int x18), .unset, .unset, .unset, .unset, .unset, .unset, .unset, .unset, .unset, .unset, .unset, .unset] at_125 rfl
    replace k := k.iconst (2 : Int32) at_127 rfl
    replace k := k.iload at_128 rfl
    replace k := k.iadd at_130
    obtain ⟨x19, hx19⟩ : ∃ z, z = ((2 : Int32) + x16) := ⟨_, rfl⟩
    replace k := k.stk [(.int x19)] (by rw [hx19])
    have h19 : x19.toInt = ((2 + F16 : Nat) : Int) := by rw [hx19]; exact own_ad (A := 2) (by decide) hf16.1 (by omega)
    replace k := k.istore #[.val (.int p1), .val (.int p2), .val (.int p3), .val (.int p4), .val (.int p5), .val (.int x5), .val (.int (1 : Int32)), .val (.int x7), .val (.int x8), .val (.int x9), .val (.int x10), .val (.int x11), .val (.int x12), .val (.int x13), .val (.int x14), .val (.int x15), .val (.int x16), .val (.int x17), .val (.int x18), .val (.int x19), .unset, .unset, .unset, .unset, .unset, .unset, .unset, .unset, .unset, .unset, .unset] at_131 rfl
    replace k := k.iload at_133 rfl
    replace k := k.iload at_135 rfl
    replace k := k.iadd at_137
    obtain ⟨x20, hx20⟩ : ∃ z, z = (x19 + x14) := ⟨_, rfl⟩
    replace k := k.stk [(.int x20)] (by rw [hx20])
    have h20 : x20.toInt = ((2 + F16 + X14 : Nat) : Int) := by rw [hx20]; exact own_ad h19 h14 (by omega)
    replace k := k.istore #[.val (.int p1), .val (.int p2), .val (.int p3), .val (.int p4), .val (.int p5), .val (.int x5), .val (.int (1 : Int32)), .val (.int x7), .val (.int x8), .val (.int x9), .val (.int x10), .val (.int x11), .val (.int x12), .val (.int x13), .val (.int x14), .val (.int x15), .val (.int x16), .val (.int x17), .val (.int x18), .val (.int x19), .val (.int x20), .unset, .unset, .unset, .unset, .unset, .unset, .unset, .unset, .unset, .unset] at_138 rfl
    replace k := k.iload at_140 rfl
    replace k := k.iconst (1 : Int32) at_142 rfl
    replace k := k.icmpNo at_143 (by decide)
    replace k := k.iload at_146 rfl
    replace k := k.goto (pc' := 152) at_148 (by decide) (by decide)
    replace k := k.iload at_152 rfl
    replace k := k.iconst (2 : Int32) at_154 rfl
    replace k := k.icmpYes (pc' := 163) at_155 (by decide) (by decide) (by decide)
    replace k := k.iconst (0 : Int32) at_163 rfl
    replace k := k.iadd at_164
    obtain ⟨x21, hx21⟩ : ∃ z, z = (x18 + (0 : Int32)) := ⟨_, rfl⟩
    replace k := k.stk [(.int x21)] (by rw [hx21])
    have h21 : x21.toInt = (((2 + F15 + X13) : Nat) : Int) := by rw [hx21]; exact (own_ad (A := 2 + F15 + X13) (B := 0) h18 (by decide) (by omega)).trans (by omega)
    replace k := k.istore #[.val (.int p1), .val (.int p2), .val (.int p3), .val (.int p4), .val (.int p5), .val (.int x5), .val (.int (1 : Int32)), .val (.int x7), .val (.int x8), .val (.int x9), .val (.int x10), .val (.int x11), .val (.int x12), .val (.int x13), .val (.int x14), .val (.int x15), .val (.int x16), .val (.int x17), .val (.int x18), .val (.int x19), .val (.int x20), .val (.int x21), .unset, .unset, .unset, .unset, .unset, .unset, .unset, .unset, .unset] at_165 rfl
    replace k := k.iload at_167 rfl
    replace k := k.iload at_169 rfl
    obtain ⟨_, _, ⟨rfl, rfl⟩, k⟩ := k.callS (y := (⟨"com/example/vidare/vidare/core/DerInsidePinLaw", "minForm", "(I)I"⟩ : MethodName)) at_171 (hw _ (List.mem_of_getElem? (i := 4) rfl)) (hw _ (List.mem_of_getElem? (i := 5) rfl)) (hw _ (List.mem_of_getElem? (i := 2) rfl)) (hw _ (List.mem_of_getElem? (i := 6) rfl)) (W := 1) (argsL := [(.int x21)]) (rest := [(.int x7)]) (rm2 Z a0 hw x21 h0 n0) rfl (pd_12) rfl rfl rfl (by decide) (by decide) (by decide) (by decide) (by decide)
    replace k := k.stk [(.int (own_mf x21)), (.int x7)] rfl
    obtain ⟨_, _, ⟨rfl, rfl⟩, k⟩ := k.callS (y := (⟨"java/lang/Math", "max", "(II)I"⟩ : MethodName)) at_174 (hw _ (List.mem_of_getElem? (i := 7) rfl)) (hw _ (List.mem_of_getElem? (i := 8) rfl)) (hw _ (List.mem_of_getElem? (i := 9) rfl)) (hw _ (List.mem_of_getElem? (i := 10) rfl)) (W := 0) (argsL := [(.int x7), (.int (own_mf x21))]) (rest := []) (rm3 Z a0 hw x7 (own_mf x21) h0 n0) rfl (pd_1) rfl rfl rfl (by decide) (by decide) (by decide) (by decide) (by decide)
    replace k := k.stk [(.int (own_mx x7 (own_mf x21)))] rfl
    obtain ⟨x22, hx22⟩ : ∃ z, z = (own_mx x7 (own_mf x21)) := ⟨_, rfl⟩
    replace k := k.stk [(.int x22)] (by rw [hx22])
    obtain ⟨F22, hf22⟩ := own_fmx hx22 h7 b7 h21 (by omega)
    have bf22 := hf22.2.1
    replace k := k.istore #[.val (.int p1), .val (.int p2), .val (.int p3), .val (.int p4), .val (.int p5), .val (.int x5), .val (.int (1 : Int32)), .val (.int x7), .val (.int x8), .val (.int x9), .val (.int x10), .val (.int x11), .val (.int x12), .val (.int x13), .val (.int x14), .val (.int x15), .val (.int x16), .val (.int x17), .val (.int x18), .val (.int x19), .val (.int x20), .val (.int x21), .val (.int x22), .unset, .unset, .unset, .unset, .unset, .unset, .unset, .unset] at_177 rfl
    replace k := k.sipush (800 : Int32) at_179 rfl
    obtain ⟨h122, b122, g122, E122, A122, X122, k⟩ := k.newarr (ad := "[B") at_182 (hw _ (List.mem_of_getElem? (i := 11) rfl)) (by decide) 800 (by decide) 800 (by decide) (by decide) (by decide) (by decide) (by decide)
    have ge_b122 : n0 ≤ b122 := Nat.le_trans Z0 (Nat.le_of_eq g122.symm)
    replace k := k.astore #[.val (.int p1), .val (.int p2), .val (.int p3), .val (.int p4), .val (.int p5), .val (.int x5), .val (.int (1 : Int32)), .val (.int x7), .val (.int x8), .val (.int x9), .val (.int x10), .val (.int x11), .val (.int x12), .val (.int x13), .val (.int x14), .val (.int x15), .val (.int x16), .val (.int x17), .val (.int x18), .val (.int x19), .val (.int x20), .val (.int x21), .val (.int x22), .val (.ref b122), .unset, .unset, .unset, .unset, .unset, .unset, .unset] at_184 rfl rfl
    have Ab0 : Arf Z h122 b122 .byte 800 (own_bf (fun _ => 0)) := A122.congr (fun i hi => rfl)
    replace k := k.aload at_186 rfl rfl
    replace k := k.iconst (0 : Int32) at_188 rfl
    replace k := k.iloadN at_189 rfl
    replace k := k.i2b at_190
    obtain ⟨h123, W123, A123, k⟩ := k.bastore at_191 Ab0 0 (by decide) (by decide) (by decide) ge_b122 (p4.toInt8.toInt32) (own_i2b _)
    replace k := k.aload at_192 rfl rfl
    replace k := k.iconst (1 : Int32) at_194 rfl
    replace k := k.iloadN at_195 rfl
    replace k := k.bipush (8 : Int32) at_196 rfl
    replace k := k.iushr at_198
    replace k := k.i2b at_199
    obtain ⟨h124, W124, A124, k⟩ := k.bastore at_200 (own_bfA A123) 1 (by decide) (by decide) (by decide) ge_b122 (((p4.toUInt32 >>> ((8 : Int32) &&& 31).toUInt32).toInt32).toInt8.toInt32) (own_i2b _)
    replace k := k.aload at_201 rfl rfl
    replace k := k.iconst (2 : Int32) at_203 rfl
    replace k := k.iloadN at_204 rfl
    replace k := k.bipush (16 : Int32) at_205 rfl
    replace k := k.iushr at_207
    replace k := k.i2b at_208
    obtain ⟨h125, W125, A125, k⟩ := k.bastore at_209 (own_bfA A124) 2 (by decide) (by decide) (by decide) ge_b122 (((p4.toUInt32 >>> ((16 : Int32) &&& 31).toUInt32).toInt32).toInt8.toInt32) (own_i2b _)
    replace k := k.aload at_210 rfl rfl
    replace k := k.iload at_212 rfl
    replace k := k.iload at_214 rfl
    replace k := k.iload at_216 rfl
    replace k := k.iload at_218 rfl
    obtain ⟨_, hH126, ⟨rfl, KH126, GH126, AH126, DH126, hdH126, wH126⟩, k⟩ := k.callS (y := (⟨"com/example/vidare/vidare/core/DerInsidePinLaw", "header", "([BIIII)I"⟩ : MethodName)) at_220 (hw _ (List.mem_of_getElem? (i := 12) rfl)) (hw _ (List.mem_of_getElem? (i := 13) rfl)) (hw _ (List.mem_of_getElem? (i := 2) rfl)) (hw _ (List.mem_of_getElem? (i := 14) rfl)) (W := 0) (argsL := [(.ref b122), (.int x5), (.int x10), (.int x22), (.int x21)]) (rest := []) (rm4 Z a0 hw b122 x5 x10 x22 x21 X5 (own_up (own_up (own_up (fun _ => 0) 0 (p4.toInt8.toInt32)) 1 (((p4.toUInt32 >>> ((8 : Int32) &&& 31).toUInt32).toInt32).toInt8.toInt32)) 2 (((p4.toUInt32 >>> ((16 : Int32) &&& 31).toUInt32).toInt32).toInt8.toInt32)) h125 n0 ge_b122 (own_bfA A125) (own_derU (own_derU (own_derU own_der0 (own_b8 _)) (own_b8 _)) (own_b8 _)) h5 (by omega) (own_fm4 hf22)) rfl (pd_13) rfl rfl rfl (by decide) (by decide) (by decide) (by decide) (by decide)
    replace k := k.stk [(.int ((2 : Int32) + x22))] rfl
    obtain ⟨x24, hx24⟩ : ∃ z, z = ((2 : Int32) + x22) := ⟨_, rfl⟩
    replace k := k.stk [(.int x24)] (by rw [hx24])
    have h24 : x24.toInt = ((2 + F22 : Nat) : Int) := by rw [hx24]; exact own_ad (A := 2) (by decide) hf22.1 (by omega)
    replace k := k.istore #[.val (.int p1), .val (.int p2), .val (.int p3), .val (.int p4), .val (.int p5), .val (.int x5), .val (.int (1 : Int32)), .val (.int x7), .val (.int x8), .val (.int x9), .val (.int x10), .val (.int x11), .val (.int x12), .val (.int x13), .val (.int x14), .val (.int x15), .val (.int x16), .val (.int x17), .val (.int x18), .val (.int x19), .val (.int x20), .val (.int x21), .val (.int x22), .val (.ref b122), .val (.int x24), .unset, .unset, .unset, .unset, .unset, .unset] at_223 rfl
    replace k := k.iload at_225 rfl
    replace k := k.iload at_227 rfl
    replace k := k.iadd at_229
    obtain ⟨x25, hx25⟩ : ∃ z, z = (x5 + x24) := ⟨_, rfl⟩
    replace k := k.stk [(.int x25)] (by rw [hx25])
    have h25 : x25.toInt = (((X5 + 2 + F22) : Nat) : Int) := by rw [hx25]; exact (own_ad h5 h24 (by omega)).trans (by omega)
    replace k := k.istore #[.val (.int p1), .val (.int p2), .val (.int p3), .val (.int p4), .val (.int p5), .val (.int x5), .val (.int (1 : Int32)), .val (.int x7), .val (.int x8), .val (.int x9), .val (.int x10), .val (.int x11), .val (.int x12), .val (.int x13), .val (.int x14), .val (.int x15), .val (.int x16), .val (.int x17), .val (.int x18), .val (.int x19), .val (.int x20), .val (.int x21), .val (.int x22), .val (.ref b122), .val (.int x24), .val (.int x25), .unset, .unset, .unset, .unset, .unset] at_230 rfl
    replace k := k.iload at_232 rfl
    replace k := k.iload at_234 rfl
    replace k := k.iadd at_236
    obtain ⟨x26, hx26⟩ : ∃ z, z = (x25 + x18) := ⟨_, rfl⟩
    replace k := k.stk [(.int x26)] (by rw [hx26])
    have h26 : x26.toInt = (((X5 + 2 + F22 + (2 + F15 + X13)) : Nat) : Int) := by rw [hx26]; exact own_ad h25 h18 (by omega)
    replace k := k.istore #[.val (.int p1), .val (.int p2), .val (.int p3), .val (.int p4), .val (.int p5), .val (.int x5), .val (.int (1 : Int32)), .val (.int x7), .val (.int x8), .val (.int x9), .val (.int x10), .val (.int x11), .val (.int x12), .val (.int x13), .val (.int x14), .val (.int x15), .val (.int x16), .val (.int x17), .val (.int x18), .val (.int x19), .val (.int x20), .val (.int x21), .val (.int x22), .val (.ref b122), .val (.int x24), .val (.int x25), .val (.int x26), .unset, .unset, .unset, .unset] at_237 rfl
    replace k := k.iload at_239 rfl
    replace k := k.iconst (1 : Int32) at_241 rfl
    replace k := k.icmpNo at_242 (by decide)
    replace k := k.aload at_245 rfl rfl
    replace k := k.iload at_247 rfl
    replace k := k.iload at_249 rfl
    replace k := k.iload at_251 rfl
    replace k := k.iload at_253 rfl
    obtain ⟨_, hH127, ⟨rfl, KH127, GH127, AH127, DH127, hdH127, wH127⟩, k⟩ := k.callS (y := (⟨"com/example/vidare/vidare/core/DerInsidePinLaw", "header", "([BIIII)I"⟩ : MethodName)) at_255 (hw _ (List.mem_of_getElem? (i := 12) rfl)) (hw _ (List.mem_of_getElem? (i := 13) rfl)) (hw _ (List.mem_of_getElem? (i := 2) rfl)) (hw _ (List.mem_of_getElem? (i := 14) rfl)) (W := 0) (argsL := [(.ref b122), (.int x25), (.int x11), (.int x15), (.int x13)]) (rest := []) (rm4 Z a0 hw b122 x25 x11 x15 x13 (X5 + 2 + F22) GH126 hH126 n0 ge_b122 AH126 DH126 h25 (by omega) (own_fm4 hf15)) rfl (pd_13) rfl rfl rfl (by decide) (by decide) (by decide) (by decide) (by decide)
    replace k := k.stk [(.int ((2 : Int32) + x15))] rfl
    have hd128 := own_hdrM hdH126 hf22 (fun j hj => wH127 j (by omega))
    replace k := k.pop at_258 rfl
    replace k := k.aload at_259 rfl rfl
    replace k := k.iload at_261 rfl
    replace k := k.iload at_263 rfl
    replace k := k.iload at_265 rfl
    replace k := k.iloadN at_267 rfl
    replace k := k.iloadN at_268 rfl
    replace k := k.bipush (8 : Int32) at_269 rfl
    replace k := k.iushr at_271
    obtain ⟨_, hL129, ⟨rfl, KL129, GL129, AL129, DL129, wL129⟩, k⟩ := k.callS (y := (⟨"com/example/vidare/vidare/core/DerInsidePinLaw", "fill", "([BIIIII)V"⟩ : MethodName)) at_272 (hw _ (List.mem_of_getElem? (i := 60) rfl)) (hw _ (List.mem_of_getElem? (i := 61) rfl)) (hw _ (List.mem_of_getElem? (i := 2) rfl)) (hw _ (List.mem_of_getElem? (i := 62) rfl)) (W := 0) (argsL := [(.ref b122), (.int x25), (.int x17), (.int x18), (.int p3), (.int ((p3.toUInt32 >>> ((8 : Int32) &&& 31).toUInt32).toInt32))]) (rest := []) (rm12 Z a0 hw b122 x25 x17 x18 p3 ((p3.toUInt32 >>> ((8 : Int32) &&& 31).toUInt32).toInt32) (X5 + 2 + F22) (2 + F15) (2 + F15 + X13) GH127 hH127 n0 ge_b122 AH127 DH127 h25 h17 h18 (by omega) (by omega)) rfl (pd_16) rfl rfl rfl (by decide) (by decide) (by decide) (by decide) (by decide)
    replace k := k.stk [] rfl
    have hd130 := own_hdrM hd128 hf22 (fun j hj => wL129 j (by omega))
    have hd131 := own_hdrM hdH127 hf15 (fun j hj => wL129 j (by omega))
    replace k := k.iload at_275 rfl
    replace k := k.iconst (2 : Int32) at_277 rfl
    replace k := k.icmpYes (pc' := 314) at_278 (by decide) (by decide) (by decide)
    replace k := k.iload at_314 rfl
    replace k := k.iload at_316 rfl
    replace k := k.iadd at_318
    replace k := k.iload at_319 rfl
    replace k := k.iadd at_321
    obtain ⟨x27, hx27⟩ : ∃ z, z = ((x5 + x24) + x21) := ⟨_, rfl⟩
    replace k := k.stk [(.int x27)] (by rw [hx27])
    have h27 : x27.toInt = ((X5 + 2 + F22 + (2 + F15 + X13) : Nat) : Int) := by rw [hx27]; exact (own_ad (own_ad h5 h24 (by omega)) h21 (by omega)).trans (by omega)
    have h27_1 : (x27 + (1 : Int32)).toInt = ((X5 + 2 + F22 + (2 + F15 + X13) + 1 : Nat) : Int) := own_ad h27 (by decide) (by omega)
    have h27_2 : (x27 + (2 : Int32)).toInt = ((X5 + 2 + F22 + (2 + F15 + X13) + 2 : Nat) : Int) := own_ad h27 (by decide) (by omega)
    have h27_3 : (x27 + (3 : Int32)).toInt = ((X5 + 2 + F22 + (2 + F15 + X13) + 3 : Nat) : Int) := own_ad h27 (by decide) (by omega)
    have h27_4 : (x27 + (4 : Int32)).toInt = ((X5 + 2 + F22 + (2 + F15 + X13) + 4 : Nat) : Int) := own_ad h27 (by decide) (by omega)
    replace k := k.istore #[.val (.int p1), .val (.int p2), .val (.int p3), .val (.int p4), .val (.int p5), .val (.int x5), .val (.int (1 : Int32)), .val (.int x7), .val (.int x8), .val (.int x9), .val (.int x10), .val (.int x11), .val (.int x12), .val (.int x13), .val (.int x14), .val (.int x15), .val (.int x16), .val (.int x17), .val (.int x18), .val (.int x19), .val (.int x20), .val (.int x21), .val (.int x22), .val (.ref b122), .val (.int x24), .val (.int x25), .val (.int x26), .val (.int x27), .unset, .unset, .unset] at_322 rfl
    replace k := k.aload at_324 rfl rfl
    replace k := k.iload at_326 rfl
    replace k := k.iload at_328 rfl
    replace k := k.i2b at_330
    obtain ⟨h132, W132, A132, k⟩ := k.bastore at_331 AL129 (X5 + 2 + F22 + (2 + F15 + X13)) (own_at h27) (own_nn h27) (by omega) ge_b122 (p5.toInt8.toInt32) (own_i2b _)
    obtain ⟨G133, hG133⟩ : ∃ g, g = (own_up GL129 (X5 + 2 + F22 + (2 + F15 + X13)) (p5.toInt8.toInt32)) := ⟨_, rfl⟩
    have AG133 : Arf Z h132 b122 .byte 800 (own_bf G133) := by rw [hG133]; exact (own_bfA A132)
    have DG133 : own_der G133 := by rw [hG133]; exact (own_derU DL129 (own_b8 _))
    have wG133 : ∀ j, j < X5 + 2 + F22 + (2 + F15 + X13) → G133 j = GL129 j := fun j hj => by rw [hG133]; exact if_neg (by omega)
    have hd134 := own_hdrM hd130 hf22 (fun j hj => wG133 j (by omega))
    have hd135 := own_hdrM hd131 hf15 (fun j hj => wG133 j (by omega))
    replace k := k.aload at_332 rfl rfl
    replace k := k.iload at_334 rfl
    replace k := k.iconst (1 : Int32) at_336 rfl
    replace k := k.iadd at_337
    replace k := k.iload at_338 rfl
    replace k := k.bipush (8 : Int32) at_340 rfl
    replace k := k.iushr at_342
    replace k := k.i2b at_343
    obtain ⟨h136, W136, A136, k⟩ := k.bastore at_344 AG133 (X5 + 2 + F22 + (2 + F15 + X13) + 1) (own_at h27_1) (own_nn h27_1) (by omega) ge_b122 (((p5.toUInt32 >>> ((8 : Int32) &&& 31).toUInt32).toInt32).toInt8.toInt32) (own_i2b _)
    obtain ⟨G137, hG137⟩ : ∃ g, g = (own_up G133 (X5 + 2 + F22 + (2 + F15 + X13) + 1) (((p5.toUInt32 >>> ((8 : Int32) &&& 31).toUInt32).toInt32).toInt8.toInt32)) := ⟨_, rfl⟩
    have AG137 : Arf Z h136 b122 .byte 800 (own_bf G137) := by rw [hG137]; exact (own_bfA A136)
    have DG137 : own_der G137 := by rw [hG137]; exact (own_derU DG133 (own_b8 _))
    have wG137 : ∀ j, j < X5 + 2 + F22 + (2 + F15 + X13) → G137 j = G133 j := fun j hj => by rw [hG137]; exact if_neg (by omega)
    have hd138 := own_hdrM hd134 hf22 (fun j hj => wG137 j (by omega))
    have hd139 := own_hdrM hd135 hf15 (fun j hj => wG137 j (by omega))
    replace k := k.aload at_345 rfl rfl
    replace k := k.iload at_347 rfl
    replace k := k.iconst (2 : Int32) at_349 rfl
    replace k := k.iadd at_350
    replace k := k.iload at_351 rfl
    replace k := k.bipush (16 : Int32) at_353 rfl
    replace k := k.iushr at_355
    replace k := k.i2b at_356
    obtain ⟨h140, W140, A140, k⟩ := k.bastore at_357 AG137 (X5 + 2 + F22 + (2 + F15 + X13) + 2) (own_at h27_2) (own_nn h27_2) (by omega) ge_b122 (((p5.toUInt32 >>> ((16 : Int32) &&& 31).toUInt32).toInt32).toInt8.toInt32) (own_i2b _)
    obtain ⟨G141, hG141⟩ : ∃ g, g = (own_up G137 (X5 + 2 + F22 + (2 + F15 + X13) + 2) (((p5.toUInt32 >>> ((16 : Int32) &&& 31).toUInt32).toInt32).toInt8.toInt32)) := ⟨_, rfl⟩
    have AG141 : Arf Z h140 b122 .byte 800 (own_bf G141) := by rw [hG141]; exact (own_bfA A140)
    have DG141 : own_der G141 := by rw [hG141]; exact (own_derU DG137 (own_b8 _))
    have wG141 : ∀ j, j < X5 + 2 + F22 + (2 + F15 + X13) → G141 j = G137 j := fun j hj => by rw [hG141]; exact if_neg (by omega)
    have hd142 := own_hdrM hd138 hf22 (fun j hj => wG141 j (by omega))
    have hd143 := own_hdrM hd139 hf15 (fun j hj => wG141 j (by omega))
    replace k := k.aload at_358 rfl rfl
    replace k := k.iload at_360 rfl
    replace k := k.iconst (3 : Int32) at_362 rfl
    replace k := k.iadd at_363
    replace k := k.iload at_364 rfl
    replace k := k.bipush (24 : Int32) at_366 rfl
    replace k := k.iushr at_368
    replace k := k.i2b at_369
    obtain ⟨h144, W144, A144, k⟩ := k.bastore at_370 AG141 (X5 + 2 + F22 + (2 + F15 + X13) + 3) (own_at h27_3) (own_nn h27_3) (by omega) ge_b122 (((p5.toUInt32 >>> ((24 : Int32) &&& 31).toUInt32).toInt32).toInt8.toInt32) (own_i2b _)
    obtain ⟨G145, hG145⟩ : ∃ g, g = (own_up G141 (X5 + 2 + F22 + (2 + F15 + X13) + 3) (((p5.toUInt32 >>> ((24 : Int32) &&& 31).toUInt32).toInt32).toInt8.toInt32)) := ⟨_, rfl⟩
    have AG145 : Arf Z h144 b122 .byte 800 (own_bf G145) := by rw [hG145]; exact (own_bfA A144)
    have DG145 : own_der G145 := by rw [hG145]; exact (own_derU DG141 (own_b8 _))
    have wG145 : ∀ j, j < X5 + 2 + F22 + (2 + F15 + X13) → G145 j = G141 j := fun j hj => by rw [hG145]; exact if_neg (by omega)
    have hd146 := own_hdrM hd142 hf22 (fun j hj => wG145 j (by omega))
    have hd147 := own_hdrM hd143 hf15 (fun j hj => wG145 j (by omega))
    replace k := k.aload at_371 rfl rfl
    replace k := k.iload at_373 rfl
    replace k := k.iconst (4 : Int32) at_375 rfl
    replace k := k.iadd at_376
    replace k := k.iloadN at_377 rfl
    replace k := k.bipush (24 : Int32) at_378 rfl
    replace k := k.iushr at_380
    replace k := k.i2b at_381
    obtain ⟨h148, W148, A148, k⟩ := k.bastore at_382 AG145 (X5 + 2 + F22 + (2 + F15 + X13) + 4) (own_at h27_4) (own_nn h27_4) (by omega) ge_b122 (((p4.toUInt32 >>> ((24 : Int32) &&& 31).toUInt32).toInt32).toInt8.toInt32) (own_i2b _)
    obtain ⟨G149, hG149⟩ : ∃ g, g = (own_up G145 (X5 + 2 + F22 + (2 + F15 + X13) + 4) (((p4.toUInt32 >>> ((24 : Int32) &&& 31).toUInt32).toInt32).toInt8.toInt32)) := ⟨_, rfl⟩
    have AG149 : Arf Z h148 b122 .byte 800 (own_bf G149) := by rw [hG149]; exact (own_bfA A148)
    have DG149 : own_der G149 := by rw [hG149]; exact (own_derU DG145 (own_b8 _))
    have wG149 : ∀ j, j < X5 + 2 + F22 + (2 + F15 + X13) → G149 j = G145 j := fun j hj => by rw [hG149]; exact if_neg (by omega)
    have hd150 := own_hdrM hd146 hf22 (fun j hj => wG149 j (by omega))
    have hd151 := own_hdrM hd147 hf15 (fun j hj => wG149 j (by omega))
    replace k := k.aload at_383 rfl rfl
    replace k := k.iload at_385 rfl
    obtain ⟨_, hI152, ⟨lI152, dI152, xI152_1, rfl, KI152, ElI152, FsI152, FeI152, AdI152, AxI152_1, ExI152_1⟩, k⟩ := k.callS (y := (⟨"com/example/vidare/vidare/core/Der", "inside", "([BI)Ljava/util/List;"⟩ : MethodName)) at_387 (hw _ (List.mem_of_getElem? (i := 15) rfl)) (hw _ (List.mem_of_getElem? (i := 16) rfl)) (hw _ (List.mem_of_getElem? (i := 17) rfl)) (hw _ (List.mem_of_getElem? (i := 18) rfl)) (W := 0) (argsL := [(.ref b122), (.int x5)]) (rest := []) (rm5_1 Z a0 hw b122 aD x5 x22 x21 X5 F22 (2 + F15 + X13) G149 fD x15 x13 F15 X13 h148 n0 (Nat.le_trans (Nat.le_trans (Nat.le_trans (Nat.le_trans (Nat.le_trans (Nat.le_trans (Nat.le_trans (Nat.le_trans (Nat.le_trans (Nat.le_trans (Nat.le_trans (Nat.le_trans Z0 E122.1) (Nat.le_of_eq (Wr.size W123).symm)) (Nat.le_of_eq (Wr.size W124).symm)) (Nat.le_of_eq (Wr.size W125).symm)) KH126.1) KH127.1) KL129.1) (Nat.le_of_eq (Wr.size W132).symm)) (Nat.le_of_eq (Wr.size W136).symm)) (Nat.le_of_eq (Wr.size W140).symm)) (Nat.le_of_eq (Wr.size W144).symm)) (Nat.le_of_eq (Wr.size W148).symm)) (Sta.wr W148 (Sta.wr W144 (Sta.wr W140 (Sta.wr W136 (Sta.wr W132 (Sta.keepN (Sta.keepN (Sta.keepN (Sta.wr W125 (Sta.wr W124 (Sta.wr W123 (Sta.ext E122 S_D)))) KH126 (allS (Exa.nost (Exa.wr W125 (Exa.wr W124 (Exa.wr W123 X122)))) all0)) KH127 (allS (Exa.nost ((Exa.wr W125 (Exa.wr W124 (Exa.wr W123 X122))).keep KH126)) all0)) KL129 (allS (Exa.nost (((Exa.wr W125 (Exa.wr W124 (Exa.wr W123 X122))).keep KH126).keep KH127)) all0))))))) ((((((((((((A_D.ext E122).other W123 (Nat.ne_of_lt (Nat.lt_of_lt_of_le A_D.lt (Nat.le_of_eq g122.symm)))).other W124 (Nat.ne_of_lt (Nat.lt_of_lt_of_le A_D.lt (Nat.le_of_eq g122.symm)))).other W125 (Nat.ne_of_lt (Nat.lt_of_lt_of_le A_D.lt (Nat.le_of_eq g122.symm)))).keep KH126 (ninS (Nat.ne_of_lt (Nat.lt_of_lt_of_le A_D.lt (Nat.le_of_eq g122.symm))) nin0)).keep KH127 (ninS (Nat.ne_of_lt (Nat.lt_of_lt_of_le A_D.lt (Nat.le_of_eq g122.symm))) nin0)).keep KL129 (ninS (Nat.ne_of_lt (Nat.lt_of_lt_of_le A_D.lt (Nat.le_of_eq g122.symm))) nin0)).other W132 (Nat.ne_of_lt (Nat.lt_of_lt_of_le A_D.lt (Nat.le_of_eq g122.symm)))).other W136 (Nat.ne_of_lt (Nat.lt_of_lt_of_le A_D.lt (Nat.le_of_eq g122.symm)))).other W140 (Nat.ne_of_lt (Nat.lt_of_lt_of_le A_D.lt (Nat.le_of_eq g122.symm)))).other W144 (Nat.ne_of_lt (Nat.lt_of_lt_of_le A_D.lt (Nat.le_of_eq g122.symm)))).other W148 (Nat.ne_of_lt (Nat.lt_of_lt_of_le A_D.lt (Nat.le_of_eq g122.symm)))) AG149 DG149 h5 hd150 hf22 h21 rfl (by omega) hd151 hf15 h13 b13) rfl (pd_14) rfl rfl rfl (by decide) (by decide) (by decide) (by decide) (by decide)
    replace k := k.stk [(.ref lI152)] rfl
    replace k := k.astore #[.val (.int p1), .val (.int p2), .val (.int p3), .val (.int p4), .val (.int p5), .val (.int x5), .val (.int (1 : Int32)), .val (.int x7), .val (.int x8), .val (.int x9), .val (.int x10), .val (.int x11), .val (.int x12), .val (.int x13), .val (.int x14), .val (.int x15), .val (.int x16), .val (.int x17), .val (.int x18), .val (.int x19), .val (.int x20), .val (.int x21), .val (.int x22), .val (.ref b122), .val (.int x24), .val (.int x25), .val (.int x26), .val (.int x27), .val (.ref lI152), .unset, .unset] at_390 rfl rfl
    replace k := k.aload at_392 rfl rfl
    obtain ⟨_, _, ⟨rfl, rfl⟩, k⟩ := k.callF (xi := (⟨"java/util/List", "size", "()I"⟩ : MethodName)) (y := (⟨"java/util/ArrayList", "size", "()I"⟩ : MethodName)) (a := lI152) at_394 (hw _ (List.mem_of_getElem? (i := 49) rfl)) (hw _ (List.mem_of_getElem? (i := 50) rfl)) (fun s args hs => mvT hs (hw _ (List.mem_of_getElem? (i := 51) rfl))) (hw _ (List.mem_of_getElem? (i := 52) rfl)) (hw _ (List.mem_of_getElem? (i := 53) rfl)) (hw _ (List.mem_of_getElem? (i := 54) rfl)) (hw _ (List.mem_of_getElem? (i := 55) rfl)) (hw _ (List.mem_of_getElem? (i := 56) rfl)) (hw _ (List.mem_of_getElem? (i := 25) rfl)) (hw _ (List.mem_of_getElem? (i := 57) rfl)) ElI152 (W := 0) (argsL := []) (rest := []) (rm11 Z a0 hw lI152 (1 : Int32) hI152 n0 FsI152) rfl (pd_15) rfl rfl rfl (by decide) (by decide) (by decide) (by decide) (by decide)
    replace k := k.stk [(.int (1 : Int32))] rfl
    replace k := k.iload at_399 rfl
    replace k := k.icmpYes (pc' := 406) at_401 (by decide) (by decide) (by decide)
    replace k := k.iload at_406 rfl
    replace k := k.iconst (1 : Int32) at_408 rfl
    replace k := k.icmpNo at_409 (by decide)
    replace k := k.aload at_412 rfl rfl
    replace k := k.iconst (0 : Int32) at_414 rfl
    obtain ⟨_, _, ⟨rfl, rfl⟩, k⟩ := k.callF (xi := (⟨"java/util/List", "get", "(I)Ljava/lang/Object;"⟩ : MethodName)) (y := (⟨"java/util/ArrayList", "get", "(I)Ljava/lang/Object;"⟩ : MethodName)) (a := lI152) at_415 (hw _ (List.mem_of_getElem? (i := 106) rfl)) (hw _ (List.mem_of_getElem? (i := 107) rfl)) (fun s args hs => mvT hs (hw _ (List.mem_of_getElem? (i := 108) rfl))) (hw _ (List.mem_of_getElem? (i := 109) rfl)) (hw _ (List.mem_of_getElem? (i := 110) rfl)) (hw _ (List.mem_of_getElem? (i := 111) rfl)) (hw _ (List.mem_of_getElem? (i := 112) rfl)) (hw _ (List.mem_of_getElem? (i := 56) rfl)) (hw _ (List.mem_of_getElem? (i := 25) rfl)) (hw _ (List.mem_of_getElem? (i := 113) rfl)) ElI152 (W := 0) (argsL := [(.int (0 : Int32))]) (rest := []) (rm21 Z a0 hw lI152 dI152 xI152_1 (0 : Int32) (1 : Int32) 0 _ hI152 n0 FeI152 AdI152 (by decide) (by decide) (by decide) rfl ElI152 FsI152 (by decide)) rfl (pd_6) rfl rfl rfl (by decide) (by decide) (by decide) (by decide) (by decide)
    replace k := k.stk [(.ref xI152_1)] rfl
    replace k := k.castY at_420 (hw _ (List.mem_of_getElem? (i := 127) rfl)) (Ins.self ExI152_1)
    replace k := k.aload at_423 rfl rfl
    replace k := k.iload at_425 rfl
    replace k := k.iload at_427 rfl
    replace k := k.iload at_429 rfl
    obtain ⟨_, _, ⟨rfl, rfl⟩, k⟩ := k.callS (y := (⟨"com/example/vidare/vidare/core/DerInsidePinLaw", "child", "([B[BIII)Z"⟩ : MethodName)) at_431 (hw _ (List.mem_of_getElem? (i := 129) rfl)) (hw _ (List.mem_of_getElem? (i := 130) rfl)) (hw _ (List.mem_of_getElem? (i := 2) rfl)) (hw _ (List.mem_of_getElem? (i := 131) rfl)) (W := 0) (argsL := [(.ref xI152_1), (.ref b122), (.int x25), (.int x17), (.int x18)]) (rest := []) (rm25 Z a0 hw xI152_1 b122 x25 x17 x18 (X5 + 2 + F22) (2 + F15) (2 + F15 + X13) G149 hI152 n0 (own_cut AxI152_1) (AG149.keep KI152 nin0) h25 h17 (by omega) (by omega) h18) rfl (pd_11) rfl rfl rfl (by decide) (by decide) (by decide) (by decide) (by decide)
    replace k := k.stk [(.int (1 : Int32))] rfl
    replace k := k.ifNo at_434 (by decide)
    replace k := k.iconst (1 : Int32) at_437 rfl
    replace k := k.goto (pc' := 442) at_438 (by decide) (by decide)
    replace k := k.istore #[.val (.int p1), .val (.int p2), .val (.int p3), .val (.int p4), .val (.int p5), .val (.int x5), .val (.int (1 : Int32)), .val (.int x7), .val (.int x8), .val (.int x9), .val (.int x10), .val (.int x11), .val (.int x12), .val (.int x13), .val (.int x14), .val (.int x15), .val (.int x16), .val (.int x17), .val (.int x18), .val (.int x19), .val (.int x20), .val (.int x21), .val (.int x22), .val (.ref b122), .val (.int x24), .val (.int x25), .val (.int x26), .val (.int x27), .val (.ref lI152), .val (.int (1 : Int32)), .unset] at_442 rfl
    replace k := k.iload at_444 rfl
    replace k := k.iconst (2 : Int32) at_446 rfl
    replace k := k.icmpYes (pc' := 475) at_447 (by decide) (by decide) (by decide)
    replace k := k.iconst (1 : Int32) at_475 rfl
    replace k := k.goto (pc' := 480) at_476 (by decide) (by decide)
    replace k := k.istore #[.val (.int p1), .val (.int p2), .val (.int p3), .val (.int p4), .val (.int p5), .val (.int x5), .val (.int (1 : Int32)), .val (.int x7), .val (.int x8), .val (.int x9), .val (.int x10), .val (.int x11), .val (.int x12), .val (.int x13), .val (.int x14), .val (.int x15), .val (.int x16), .val (.int x17), .val (.int x18), .val (.int x19), .val (.int x20), .val (.int x21), .val (.int x22), .val (.ref b122), .val (.int x24), .val (.int x25), .val (.int x26), .val (.int x27), .val (.ref lI152), .val (.int (1 : Int32)), .val (.int (1 : Int32))] at_480 rfl
    replace k := k.iload at_482 rfl
    replace k := k.ifNo at_484 (by decide)
    replace k := k.iload at_487 rfl
    replace k := k.ifNo at_489 (by decide)
    replace k := k.iconst (1 : Int32) at_492 rfl
    replace k := k.goto (pc' := 497) at_493 (by decide) (by decide)
    exact k.iret at_497 rfl (by simp) rfl rfl (by decide) (by decide)
  · skip
    replace k := k.stk [(.int (2 : Int32))] (by rw [hn])
    replace k := k.istore #[.val (.int p1), .val (.int p2), .val (.int p3), .val (.int p4), .val (.int p5), .val (.int x5), .val (.int (2 : Int32)), .unset, .unset, .unset, .unset, .unset, .unset, .unset, .unset, .unset, .unset, .unset, .unset, .unset, .unset, .unset, .unset, .unset, .unset, .unset, .unset, .unset, .unset, .unset, .unset] at_12 rfl
    replace k := k.iloadN at_14 rfl
    replace k := k.iconst (4 : Int32) at_15 rfl
    replace k := k.iushr at_16
    replace k := k.iconst (3 : Int32) at_17 rfl
    replace k := k.iand at_18
    obtain ⟨x7, hx7⟩ : ∃ z, z = (((p1.toUInt32 >>> ((4 : Int32) &&& 31).toUInt32).toInt32) &&& (3 : Int32)) := ⟨_, rfl⟩
    replace k := k.stk [(.int x7)] (by rw [hx7])
    obtain ⟨X7, h7, b7⟩ := own_m3 _ _ hx7
    replace k := k.istore #[.val (.int p1), .val (.int p2), .val (.int p3), .val (.int p4), .val (.int p5), .val (.int x5), .val (.int (2 : Int32)), .val (.int x7), .unset, .unset, .unset, .unset, .unset, .unset, .unset, .unset, .unset, .unset, .unset, .unset, .unset, .unset, .unset, .unset, .unset, .unset, .unset, .unset, .unset, .unset, .unset] at_19 rfl
    replace k := k.iloadN at_21 rfl
    replace k := k.bipush (6 : Int32) at_22 rfl
    replace k := k.iushr at_24
    replace k := k.iconst (3 : Int32) at_25 rfl
    replace k := k.iand at_26
    obtain ⟨x8, hx8⟩ : ∃ z, z = (((p1.toUInt32 >>> ((6 : Int32) &&& 31).toUInt32).toInt32) &&& (3 : Int32)) := ⟨_, rfl⟩
    replace k := k.stk [(.int x8)] (by rw [hx8])
    obtain ⟨X8, h8, b8⟩ := own_m3 _ _ hx8
    replace k := k.istore #[.val (.int p1), .val (.int p2), .val (.int p3), .val (.int p4), .val (.int p5), .val (.int x5), .val (.int (2 : Int32)), .val (.int x7), .val (.int x8), .unset, .unset, .unset, .unset, .unset, .unset, .unset, .unset, .unset, .unset, .unset, .unset, .unset, .unset, .unset, .unset, .unset, .unset, .unset, .unset, .unset, .unset] at_27 rfl
    replace k := k.iloadN at_29 rfl
    replace k := k.bipush (8 : Int32) at_30 rfl
    replace k := k.iushr at_32
    replace k := k.iconst (3 : Int32) at_33 rfl
    replace k := k.iand at_34
    obtain ⟨x9, hx9⟩ : ∃ z, z = (((p1.toUInt32 >>> ((8 : Int32) &&& 31).toUInt32).toInt32) &&& (3 : Int32)) := ⟨_, rfl⟩
    replace k := k.stk [(.int x9)] (by rw [hx9])
    obtain ⟨X9, h9, b9⟩ := own_m3 _ _ hx9
    replace k := k.istore #[.val (.int p1), .val (.int p2), .val (.int p3), .val (.int p4), .val (.int p5), .val (.int x5), .val (.int (2 : Int32)), .val (.int x7), .val (.int x8), .val (.int x9), .unset, .unset, .unset, .unset, .unset, .unset, .unset, .unset, .unset, .unset, .unset, .unset, .unset, .unset, .unset, .unset, .unset, .unset, .unset, .unset, .unset] at_35 rfl
    replace k := k.iloadN at_37 rfl
    replace k := k.bipush (10 : Int32) at_38 rfl
    replace k := k.iushr at_40
    replace k := k.sipush (255 : Int32) at_41 rfl
    replace k := k.iand at_44
    obtain ⟨x10, hx10⟩ : ∃ z, z = (((p1.toUInt32 >>> ((10 : Int32) &&& 31).toUInt32).toInt32) &&& (255 : Int32)) := ⟨_, rfl⟩
    replace k := k.stk [(.int x10)] (by rw [hx10])
    replace k := k.istore #[.val (.int p1), .val (.int p2), .val (.int p3), .val (.int p4), .val (.int p5), .val (.int x5), .val (.int (2 : Int32)), .val (.int x7), .val (.int x8), .val (.int x9), .val (.int x10), .unset, .unset, .unset, .unset, .unset, .unset, .unset, .unset, .unset, .unset, .unset, .unset, .unset, .unset, .unset, .unset, .unset, .unset, .unset, .unset] at_45 rfl
    replace k := k.iloadN at_47 rfl
    replace k := k.bipush (18 : Int32) at_48 rfl
    replace k := k.iushr at_50
    replace k := k.sipush (255 : Int32) at_51 rfl
    replace k := k.iand at_54
    obtain ⟨x11, hx11⟩ : ∃ z, z = (((p1.toUInt32 >>> ((18 : Int32) &&& 31).toUInt32).toInt32) &&& (255 : Int32)) := ⟨_, rfl⟩
    replace k := k.stk [(.int x11)] (by rw [hx11])
    replace k := k.istore #[.val (.int p1), .val (.int p2), .val (.int p3), .val (.int p4), .val (.int p5), .val (.int x5), .val (.int (2 : Int32)), .val (.int x7), .val (.int x8), .val (.int x9), .val (.int x10), .val (.int x11), .unset, .unset, .unset, .unset, .unset, .unset, .unset, .unset, .unset, .unset, .unset, .unset, .unset, .unset, .unset, .unset, .unset, .unset, .unset] at_55 rfl
    replace k := k.iloadN at_57 rfl
    replace k := k.bipush (18 : Int32) at_58 rfl
    replace k := k.iushr at_60
    replace k := k.sipush (255 : Int32) at_61 rfl
    replace k := k.iand at_64
    obtain ⟨x12, hx12⟩ : ∃ z, z = (((p2.toUInt32 >>> ((18 : Int32) &&& 31).toUInt32).toInt32) &&& (255 : Int32)) := ⟨_, rfl⟩
    replace k := k.stk [(.int x12)] (by rw [hx12])
    replace k := k.istore #[.val (.int p1), .val (.int p2), .val (.int p3), .val (.int p4), .val (.int p5), .val (.int x5), .val (.int (2 : Int32)), .val (.int x7), .val (.int x8), .val (.int x9), .val (.int x10), .val (.int x11), .val (.int x12), .unset, .unset, .unset, .unset, .unset, .unset, .unset, .unset, .unset, .unset, .unset, .unset, .unset, .unset, .unset, .unset, .unset, .unset] at_65 rfl
    replace k := k.iloadN at_67 rfl
    replace k := k.sipush (511 : Int32) at_68 rfl
    replace k := k.iand at_71
    obtain ⟨_, _, ⟨rfl, rfl⟩, k⟩ := k.callS (y := (⟨"com/example/vidare/vidare/core/DerInsidePinLaw", "contentLength", "(I)I"⟩ : MethodName)) at_72 (hw _ (List.mem_of_getElem? (i := 0) rfl)) (hw _ (List.mem_of_getElem? (i := 1) rfl)) (hw _ (List.mem_of_getElem? (i := 2) rfl)) (hw _ (List.mem_of_getElem? (i := 3) rfl)) (W := 0) (argsL := [(.int (p2 &&& (511 : Int32)))]) (rest := []) (rm1 Z a0 hw (p2 &&& (511 : Int32)) h0 n0) rfl (pd_12) rfl rfl rfl (by decide) (by decide) (by decide) (by decide) (by decide)
    replace k := k.stk [(.int (own_cl (p2 &&& (511 : Int32))))] rfl
    obtain ⟨x13, hx13⟩ : ∃ z, z = (own_cl (p2 &&& (511 : Int32))) := ⟨_, rfl⟩
    replace k := k.stk [(.int x13)] (by rw [hx13])
    obtain ⟨X13, h13, b13⟩ := own_clb _ _ hx13
    replace k := k.istore #[.val (.int p1), .val (.int p2), .val (.int p3), .val (.int p4), .val (.int p5), .val (.int x5), .val (.int (2 : Int32)), .val (.int x7), .val (.int x8), .val (.int x9), .val (.int x10), .val (.int x11), .val (.int x12), .val (.int x13), .unset, .unset, .unset, .unset, .unset, .unset, .unset, .unset, .unset, .unset, .unset, .unset, .unset, .unset, .unset, .unset, .unset] at_75 rfl
    replace k := k.iloadN at_77 rfl
    replace k := k.bipush (9 : Int32) at_78 rfl
    replace k := k.iushr at_80
    replace k := k.sipush (511 : Int32) at_81 rfl
    replace k := k.iand at_84
    obtain ⟨_, _, ⟨rfl, rfl⟩, k⟩ := k.callS (y := (⟨"com/example/vidare/vidare/core/DerInsidePinLaw", "contentLength", "(I)I"⟩ : MethodName)) at_85 (hw _ (List.mem_of_getElem? (i := 0) rfl)) (hw _ (List.mem_of_getElem? (i := 1) rfl)) (hw _ (List.mem_of_getElem? (i := 2) rfl)) (hw _ (List.mem_of_getElem? (i := 3) rfl)) (W := 0) (argsL := [(.int (((p2.toUInt32 >>> ((9 : Int32) &&& 31).toUInt32).toInt32) &&& (511 : Int32)))]) (rest := []) (rm1 Z a0 hw (((p2.toUInt32 >>> ((9 : Int32) &&& 31).toUInt32).toInt32) &&& (511 : Int32)) h0 n0) rfl (pd_12) rfl rfl rfl (by decide) (by decide) (by decide) (by decide) (by decide)
    replace k := k.stk [(.int (own_cl (((p2.toUInt32 >>> ((9 : Int32) &&& 31).toUInt32).toInt32) &&& (511 : Int32))))] rfl
    obtain ⟨x14, hx14⟩ : ∃ z, z = (own_cl (((p2.toUInt32 >>> ((9 : Int32) &&& 31).toUInt32).toInt32) &&& (511 : Int32))) := ⟨_, rfl⟩
    replace k := k.stk [(.int x14)] (by rw [hx14])
    obtain ⟨X14, h14, b14⟩ := own_clb _ _ hx14
    replace k := k.istore #[.val (.int p1), .val (.int p2), .val (.int p3), .val (.int p4), .val (.int p5), .val (.int x5), .val (.int (2 : Int32)), .val (.int x7), .val (.int x8), .val (.int x9), .val (.int x10), .val (.int x11), .val (.int x12), .val (.int x13), .val (.int x14), .unset, .unset, .unset, .unset, .unset, .unset, .unset, .unset, .unset, .unset, .unset, .unset, .unset, .unset, .unset, .unset] at_88 rfl
    replace k := k.iload at_90 rfl
    replace k := k.iload at_92 rfl
    obtain ⟨_, _, ⟨rfl, rfl⟩, k⟩ := k.callS (y := (⟨"com/example/vidare/vidare/core/DerInsidePinLaw", "minForm", "(I)I"⟩ : MethodName)) at_94 (hw _ (List.mem_of_getElem? (i := 4) rfl)) (hw _ (List.mem_of_getElem? (i := 5) rfl)) (hw _ (List.mem_of_getElem? (i := 2) rfl)) (hw _ (List.mem_of_getElem? (i := 6) rfl)) (W := 1) (argsL := [(.int x13)]) (rest := [(.int x8)]) (rm2 Z a0 hw x13 h0 n0) rfl (pd_12) rfl rfl rfl (by decide) (by decide) (by decide) (by decide) (by decide)
    replace k := k.stk [(.int (own_mf x13)), (.int x8)] rfl
    obtain ⟨_, _, ⟨rfl, rfl⟩, k⟩ := k.callS (y := (⟨"java/lang/Math", "max", "(II)I"⟩ : MethodName)) at_97 (hw _ (List.mem_of_getElem? (i := 7) rfl)) (hw _ (List.mem_of_getElem? (i := 8) rfl)) (hw _ (List.mem_of_getElem? (i := 9) rfl)) (hw _ (List.mem_of_getElem? (i := 10) rfl)) (W := 0) (argsL := [(.int x8), (.int (own_mf x13))]) (rest := []) (rm3 Z a0 hw x8 (own_mf x13) h0 n0) rfl (pd_1) rfl rfl rfl (by decide) (by decide) (by decide) (by decide) (by decide)
    replace k := k.stk [(.int (own_mx x8 (own_mf x13)))] rfl
    obtain ⟨x15, hx15⟩ : ∃ z, z = (own_mx x8 (own_mf x13)) := ⟨_, rfl⟩
    replace k := k.stk [(.int x15)] (by rw [hx15])
    obtain ⟨F15, hf15⟩ := own_fmx hx15 h8 b8 h13 (by omega)
    have bf15 := hf15.2.1
    replace k := k.istore #[.val (.int p1), .val (.int p2), .val (.int p3), .val (.int p4), .val (.int p5), .val (.int x5), .val (.int (2 : Int32)), .val (.int x7), .val (.int x8), .val (.int x9), .val (.int x10), .val (.int x11), .val (.int x12), .val (.int x13), .val (.int x14), .val (.int x15), .unset, .unset, .unset, .unset, .unset, .unset, .unset, .unset, .unset, .unset, .unset, .unset, .unset, .unset, .unset] at_100 rfl
    replace k := k.iload at_102 rfl
    replace k := k.iload at_104 rfl
    obtain ⟨_, _, ⟨rfl, rfl⟩, k⟩ := k.callS (y := (⟨"com/example/vidare/vidare/core/DerInsidePinLaw", "minForm", "(I)I"⟩ : MethodName)) at_106 (hw _ (List.mem_of_getElem? (i := 4) rfl)) (hw _ (List.mem_of_getElem? (i := 5) rfl)) (hw _ (List.mem_of_getElem? (i := 2) rfl)) (hw _ (List.mem_of_getElem? (i := 6) rfl)) (W := 1) (argsL := [(.int x14)]) (rest := [(.int x9)]) (rm2 Z a0 hw x14 h0 n0) rfl (pd_12) rfl rfl rfl (by decide) (by decide) (by decide) (by decide) (by decide)
    replace k := k.stk [(.int (own_mf x14)), (.int x9)] rfl
    obtain ⟨_, _, ⟨rfl, rfl⟩, k⟩ := k.callS (y := (⟨"java/lang/Math", "max", "(II)I"⟩ : MethodName)) at_109 (hw _ (List.mem_of_getElem? (i := 7) rfl)) (hw _ (List.mem_of_getElem? (i := 8) rfl)) (hw _ (List.mem_of_getElem? (i := 9) rfl)) (hw _ (List.mem_of_getElem? (i := 10) rfl)) (W := 0) (argsL := [(.int x9), (.int (own_mf x14))]) (rest := []) (rm3 Z a0 hw x9 (own_mf x14) h0 n0) rfl (pd_1) rfl rfl rfl (by decide) (by decide) (by decide) (by decide) (by decide)
    replace k := k.stk [(.int (own_mx x9 (own_mf x14)))] rfl
    obtain ⟨x16, hx16⟩ : ∃ z, z = (own_mx x9 (own_mf x14)) := ⟨_, rfl⟩
    replace k := k.stk [(.int x16)] (by rw [hx16])
    obtain ⟨F16, hf16⟩ := own_fmx hx16 h9 b9 h14 (by omega)
    have bf16 := hf16.2.1
    replace k := k.istore #[.val (.int p1), .val (.int p2), .val (.int p3), .val (.int p4), .val (.int p5), .val (.int x5), .val (.int (2 : Int32)), .val (.int x7), .val (.int x8), .val (.int x9), .val (.int x10), .val (.int x11), .val (.int x12), .val (.int x13), .val (.int x14), .val (.int x15), .val (.int x16), .unset, .unset, .unset, .unset, .unset, .unset, .unset, .unset, .unset, .unset, .unset, .unset, .unset, .unset] at_112 rfl
    replace k := k.iconst (2 : Int32) at_114 rfl
    replace k := k.iload at_115 rfl
    replace k := k.iadd at_117
    obtain ⟨x17, hx17⟩ : ∃ z, z = ((2 : Int32) + x15) := ⟨_, rfl⟩
    replace k := k.stk [(.int x17)] (by rw [hx17])
    have h17 : x17.toInt = ((2 + F15 : Nat) : Int) := by rw [hx17]; exact own_ad (A := 2) (by decide) hf15.1 (by omega)
    replace k := k.istore #[.val (.int p1), .val (.int p2), .val (.int p3), .val (.int p4), .val (.int p5), .val (.int x5), .val (.int (2 : Int32)), .val (.int x7), .val (.int x8), .val (.int x9), .val (.int x10), .val (.int x11), .val (.int x12), .val (.int x13), .val (.int x14), .val (.int x15), .val (.int x16), .val (.int x17), .unset, .unset, .unset, .unset, .unset, .unset, .unset, .unset, .unset, .unset, .unset, .unset, .unset] at_118 rfl
    replace k := k.iload at_120 rfl
    replace k := k.iload at_122 rfl
    replace k := k.iadd at_124
    obtain ⟨x18, hx18⟩ : ∃ z, z = (x17 + x13) := ⟨_, rfl⟩
    replace k := k.stk [(.int x18)] (by rw [hx18])
    have h18 : x18.toInt = ((2 + F15 + X13 : Nat) : Int) := by rw [hx18]; exact own_ad h17 h13 (by omega)
    replace k := k.istore #[.val (.int p1), .val (.int p2), .val (.int p3), .val (.int p4), .val (.int p5), .val (.int x5), .val (.int (2 : Int32)), .val (.int x7), .val (.int x8), .val (.int x9), .val (.int x10), .val (.int x11), .val (.int x12), .val (.int x13), .val (.int x14), .val (.int x15), .val (.int x16), .val (.int x17), .val (.int x18), .unset, .unset, .unset, .unset, .unset, .unset, .unset, .unset, .unset, .unset, .unset, .unset] at_125 rfl
    replace k := k.iconst (2 : Int32) at_127 rfl
    replace k := k.iload at_128 rfl
    replace k := k.iadd at_130
    obtain ⟨x19, hx19⟩ : ∃ z, z = ((2 : Int32) + x16) := ⟨_, rfl⟩
    replace k := k.stk [(.int x19)] (by rw [hx19])
    have h19 : x19.toInt = ((2 + F16 : Nat) : Int) := by rw [hx19]; exact own_ad (A := 2) (by decide) hf16.1 (by omega)
    replace k := k.istore #[.val (.int p1), .val (.int p2), .val (.int p3), .val (.int p4), .val (.int p5), .val (.int x5), .val (.int (2 : Int32)), .val (.int x7), .val (.int x8), .val (.int x9), .val (.int x10), .val (.int x11), .val (.int x12), .val (.int x13), .val (.int x14), .val (.int x15), .val (.int x16), .val (.int x17), .val (.int x18), .val (.int x19), .unset, .unset, .unset, .unset, .unset, .unset, .unset, .unset, .unset, .unset, .unset] at_131 rfl
    replace k := k.iload at_133 rfl
    replace k := k.iload at_135 rfl
    replace k := k.iadd at_137
    obtain ⟨x20, hx20⟩ : ∃ z, z = (x19 + x14) := ⟨_, rfl⟩
    replace k := k.stk [(.int x20)] (by rw [hx20])
    have h20 : x20.toInt = ((2 + F16 + X14 : Nat) : Int) := by rw [hx20]; exact own_ad h19 h14 (by omega)
    replace k := k.istore #[.val (.int p1), .val (.int p2), .val (.int p3), .val (.int p4), .val (.int p5), .val (.int x5), .val (.int (2 : Int32)), .val (.int x7), .val (.int x8), .val (.int x9), .val (.int x10), .val (.int x11), .val (.int x12), .val (.int x13), .val (.int x14), .val (.int x15), .val (.int x16), .val (.int x17), .val (.int x18), .val (.int x19), .val (.int x20), .unset, .unset, .unset, .unset, .unset, .unset, .unset, .unset, .unset, .unset] at_138 rfl
    replace k := k.iload at_140 rfl
    replace k := k.iconst (1 : Int32) at_142 rfl
    replace k := k.icmpNo at_143 (by decide)
    replace k := k.iload at_146 rfl
    replace k := k.goto (pc' := 152) at_148 (by decide) (by decide)
    replace k := k.iload at_152 rfl
    replace k := k.iconst (2 : Int32) at_154 rfl
    replace k := k.icmpNo at_155 (by decide)
    replace k := k.iload at_158 rfl
    replace k := k.goto (pc' := 164) at_160 (by decide) (by decide)
    replace k := k.iadd at_164
    obtain ⟨x21, hx21⟩ : ∃ z, z = (x18 + x20) := ⟨_, rfl⟩
    replace k := k.stk [(.int x21)] (by rw [hx21])
    have h21 : x21.toInt = (((2 + F15 + X13 + (2 + F16 + X14)) : Nat) : Int) := by rw [hx21]; exact own_ad h18 h20 (by omega)
    replace k := k.istore #[.val (.int p1), .val (.int p2), .val (.int p3), .val (.int p4), .val (.int p5), .val (.int x5), .val (.int (2 : Int32)), .val (.int x7), .val (.int x8), .val (.int x9), .val (.int x10), .val (.int x11), .val (.int x12), .val (.int x13), .val (.int x14), .val (.int x15), .val (.int x16), .val (.int x17), .val (.int x18), .val (.int x19), .val (.int x20), .val (.int x21), .unset, .unset, .unset, .unset, .unset, .unset, .unset, .unset, .unset] at_165 rfl
    replace k := k.iload at_167 rfl
    replace k := k.iload at_169 rfl
    obtain ⟨_, _, ⟨rfl, rfl⟩, k⟩ := k.callS (y := (⟨"com/example/vidare/vidare/core/DerInsidePinLaw", "minForm", "(I)I"⟩ : MethodName)) at_171 (hw _ (List.mem_of_getElem? (i := 4) rfl)) (hw _ (List.mem_of_getElem? (i := 5) rfl)) (hw _ (List.mem_of_getElem? (i := 2) rfl)) (hw _ (List.mem_of_getElem? (i := 6) rfl)) (W := 1) (argsL := [(.int x21)]) (rest := [(.int x7)]) (rm2 Z a0 hw x21 h0 n0) rfl (pd_12) rfl rfl rfl (by decide) (by decide) (by decide) (by decide) (by decide)
    replace k := k.stk [(.int (own_mf x21)), (.int x7)] rfl
    obtain ⟨_, _, ⟨rfl, rfl⟩, k⟩ := k.callS (y := (⟨"java/lang/Math", "max", "(II)I"⟩ : MethodName)) at_174 (hw _ (List.mem_of_getElem? (i := 7) rfl)) (hw _ (List.mem_of_getElem? (i := 8) rfl)) (hw _ (List.mem_of_getElem? (i := 9) rfl)) (hw _ (List.mem_of_getElem? (i := 10) rfl)) (W := 0) (argsL := [(.int x7), (.int (own_mf x21))]) (rest := []) (rm3 Z a0 hw x7 (own_mf x21) h0 n0) rfl (pd_1) rfl rfl rfl (by decide) (by decide) (by decide) (by decide) (by decide)
    replace k := k.stk [(.int (own_mx x7 (own_mf x21)))] rfl
    obtain ⟨x22, hx22⟩ : ∃ z, z = (own_mx x7 (own_mf x21)) := ⟨_, rfl⟩
    replace k := k.stk [(.int x22)] (by rw [hx22])
    obtain ⟨F22, hf22⟩ := own_fmx hx22 h7 b7 h21 (by omega)
    have bf22 := hf22.2.1
    replace k := k.istore #[.val (.int p1), .val (.int p2), .val (.int p3), .val (.int p4), .val (.int p5), .val (.int x5), .val (.int (2 : Int32)), .val (.int x7), .val (.int x8), .val (.int x9), .val (.int x10), .val (.int x11), .val (.int x12), .val (.int x13), .val (.int x14), .val (.int x15), .val (.int x16), .val (.int x17), .val (.int x18), .val (.int x19), .val (.int x20), .val (.int x21), .val (.int x22), .unset, .unset, .unset, .unset, .unset, .unset, .unset, .unset] at_177 rfl
    replace k := k.sipush (800 : Int32) at_179 rfl
    obtain ⟨h153, b153, g153, E153, A153, X153, k⟩ := k.newarr (ad := "[B") at_182 (hw _ (List.mem_of_getElem? (i := 11) rfl)) (by decide) 800 (by decide) 800 (by decide) (by decide) (by decide) (by decide) (by decide)
    have ge_b153 : n0 ≤ b153 := Nat.le_trans Z0 (Nat.le_of_eq g153.symm)
    replace k := k.astore #[.val (.int p1), .val (.int p2), .val (.int p3), .val (.int p4), .val (.int p5), .val (.int x5), .val (.int (2 : Int32)), .val (.int x7), .val (.int x8), .val (.int x9), .val (.int x10), .val (.int x11), .val (.int x12), .val (.int x13), .val (.int x14), .val (.int x15), .val (.int x16), .val (.int x17), .val (.int x18), .val (.int x19), .val (.int x20), .val (.int x21), .val (.int x22), .val (.ref b153), .unset, .unset, .unset, .unset, .unset, .unset, .unset] at_184 rfl rfl
    have Ab0 : Arf Z h153 b153 .byte 800 (own_bf (fun _ => 0)) := A153.congr (fun i hi => rfl)
    replace k := k.aload at_186 rfl rfl
    replace k := k.iconst (0 : Int32) at_188 rfl
    replace k := k.iloadN at_189 rfl
    replace k := k.i2b at_190
    obtain ⟨h154, W154, A154, k⟩ := k.bastore at_191 Ab0 0 (by decide) (by decide) (by decide) ge_b153 (p4.toInt8.toInt32) (own_i2b _)
    replace k := k.aload at_192 rfl rfl
    replace k := k.iconst (1 : Int32) at_194 rfl
    replace k := k.iloadN at_195 rfl
    replace k := k.bipush (8 : Int32) at_196 rfl
    replace k := k.iushr at_198
    replace k := k.i2b at_199
    obtain ⟨h155, W155, A155, k⟩ := k.bastore at_200 (own_bfA A154) 1 (by decide) (by decide) (by decide) ge_b153 (((p4.toUInt32 >>> ((8 : Int32) &&& 31).toUInt32).toInt32).toInt8.toInt32) (own_i2b _)
    replace k := k.aload at_201 rfl rfl
    replace k := k.iconst (2 : Int32) at_203 rfl
    replace k := k.iloadN at_204 rfl
    replace k := k.bipush (16 : Int32) at_205 rfl
    replace k := k.iushr at_207
    replace k := k.i2b at_208
    obtain ⟨h156, W156, A156, k⟩ := k.bastore at_209 (own_bfA A155) 2 (by decide) (by decide) (by decide) ge_b153 (((p4.toUInt32 >>> ((16 : Int32) &&& 31).toUInt32).toInt32).toInt8.toInt32) (own_i2b _)
    replace k := k.aload at_210 rfl rfl
    replace k := k.iload at_212 rfl
    replace k := k.iload at_214 rfl
    replace k := k.iload at_216 rfl
    replace k := k.iload at_218 rfl
    obtain ⟨_, hH157, ⟨rfl, KH157, GH157, AH157, DH157, hdH157, wH157⟩, k⟩ := k.callS (y := (⟨"com/example/vidare/vidare/core/DerInsidePinLaw", "header", "([BIIII)I"⟩ : MethodName)) at_220 (hw _ (List.mem_of_getElem? (i := 12) rfl)) (hw _ (List.mem_of_getElem? (i := 13) rfl)) (hw _ (List.mem_of_getElem? (i := 2) rfl)) (hw _ (List.mem_of_getElem? (i := 14) rfl)) (W := 0) (argsL := [(.ref b153), (.int x5), (.int x10), (.int x22), (.int x21)]) (rest := []) (rm4 Z a0 hw b153 x5 x10 x22 x21 X5 (own_up (own_up (own_up (fun _ => 0) 0 (p4.toInt8.toInt32)) 1 (((p4.toUInt32 >>> ((8 : Int32) &&& 31).toUInt32).toInt32).toInt8.toInt32)) 2 (((p4.toUInt32 >>> ((16 : Int32) &&& 31).toUInt32).toInt32).toInt8.toInt32)) h156 n0 ge_b153 (own_bfA A156) (own_derU (own_derU (own_derU own_der0 (own_b8 _)) (own_b8 _)) (own_b8 _)) h5 (by omega) (own_fm4 hf22)) rfl (pd_13) rfl rfl rfl (by decide) (by decide) (by decide) (by decide) (by decide)
    replace k := k.stk [(.int ((2 : Int32) + x22))] rfl
    obtain ⟨x24, hx24⟩ : ∃ z, z = ((2 : Int32) + x22) := ⟨_, rfl⟩
    replace k := k.stk [(.int x24)] (by rw [hx24])
    have h24 : x24.toInt = ((2 + F22 : Nat) : Int) := by rw [hx24]; exact own_ad (A := 2) (by decide) hf22.1 (by omega)
    replace k := k.istore #[.val (.int p1), .val (.int p2), .val (.int p3), .val (.int p4), .val (.int p5), .val (.int x5), .val (.int (2 : Int32)), .val (.int x7), .val (.int x8), .val (.int x9), .val (.int x10), .val (.int x11), .val (.int x12), .val (.int x13), .val (.int x14), .val (.int x15), .val (.int x16), .val (.int x17), .val (.int x18), .val (.int x19), .val (.int x20), .val (.int x21), .val (.int x22), .val (.ref b153), .val (.int x24), .unset, .unset, .unset, .unset, .unset, .unset] at_223 rfl
    replace k := k.iload at_225 rfl
    replace k := k.iload at_227 rfl
    replace k := k.iadd at_229
    obtain ⟨x25, hx25⟩ : ∃ z, z = (x5 + x24) := ⟨_, rfl⟩
    replace k := k.stk [(.int x25)] (by rw [hx25])
    have h25 : x25.toInt = (((X5 + 2 + F22) : Nat) : Int) := by rw [hx25]; exact (own_ad h5 h24 (by omega)).trans (by omega)
    replace k := k.istore #[.val (.int p1), .val (.int p2), .val (.int p3), .val (.int p4), .val (.int p5), .val (.int x5), .val (.int (2 : Int32)), .val (.int x7), .val (.int x8), .val (.int x9), .val (.int x10), .val (.int x11), .val (.int x12), .val (.int x13), .val (.int x14), .val (.int x15), .val (.int x16), .val (.int x17), .val (.int x18), .val (.int x19), .val (.int x20), .val (.int x21), .val (.int x22), .val (.ref b153), .val (.int x24), .val (.int x25), .unset, .unset, .unset, .unset, .unset] at_230 rfl
    replace k := k.iload at_232 rfl
    replace k := k.iload at_234 rfl
    replace k := k.iadd at_236
    obtain ⟨x26, hx26⟩ : ∃ z, z = (x25 + x18) := ⟨_, rfl⟩
    replace k := k.stk [(.int x26)] (by rw [hx26])
    have h26 : x26.toInt = (((X5 + 2 + F22 + (2 + F15 + X13)) : Nat) : Int) := by rw [hx26]; exact own_ad h25 h18 (by omega)
    replace k := k.istore #[.val (.int p1), .val (.int p2), .val (.int p3), .val (.int p4), .val (.int p5), .val (.int x5), .val (.int (2 : Int32)), .val (.int x7), .val (.int x8), .val (.int x9), .val (.int x10), .val (.int x11), .val (.int x12), .val (.int x13), .val (.int x14), .val (.int x15), .val (.int x16), .val (.int x17), .val (.int x18), .val (.int x19), .val (.int x20), .val (.int x21), .val (.int x22), .val (.ref b153), .val (.int x24), .val (.int x25), .val (.int x26), .unset, .unset, .unset, .unset] at_237 rfl
    replace k := k.iload at_239 rfl
    replace k := k.iconst (1 : Int32) at_241 rfl
    replace k := k.icmpNo at_242 (by decide)
    replace k := k.aload at_245 rfl rfl
    replace k := k.iload at_247 rfl
    replace k := k.iload at_249 rfl
    replace k := k.iload at_251 rfl
    replace k := k.iload at_253 rfl
    obtain ⟨_, hH158, ⟨rfl, KH158, GH158, AH158, DH158, hdH158, wH158⟩, k⟩ := k.callS (y := (⟨"com/example/vidare/vidare/core/DerInsidePinLaw", "header", "([BIIII)I"⟩ : MethodName)) at_255 (hw _ (List.mem_of_getElem? (i := 12) rfl)) (hw _ (List.mem_of_getElem? (i := 13) rfl)) (hw _ (List.mem_of_getElem? (i := 2) rfl)) (hw _ (List.mem_of_getElem? (i := 14) rfl)) (W := 0) (argsL := [(.ref b153), (.int x25), (.int x11), (.int x15), (.int x13)]) (rest := []) (rm4 Z a0 hw b153 x25 x11 x15 x13 (X5 + 2 + F22) GH157 hH157 n0 ge_b153 AH157 DH157 h25 (by omega) (own_fm4 hf15)) rfl (pd_13) rfl rfl rfl (by decide) (by decide) (by decide) (by decide) (by decide)
    replace k := k.stk [(.int ((2 : Int32) + x15))] rfl
    have hd159 := own_hdrM hdH157 hf22 (fun j hj => wH158 j (by omega))
    replace k := k.pop at_258 rfl
    replace k := k.aload at_259 rfl rfl
    replace k := k.iload at_261 rfl
    replace k := k.iload at_263 rfl
    replace k := k.iload at_265 rfl
    replace k := k.iloadN at_267 rfl
    replace k := k.iloadN at_268 rfl
    replace k := k.bipush (8 : Int32) at_269 rfl
    replace k := k.iushr at_271
    obtain ⟨_, hL160, ⟨rfl, KL160, GL160, AL160, DL160, wL160⟩, k⟩ := k.callS (y := (⟨"com/example/vidare/vidare/core/DerInsidePinLaw", "fill", "([BIIIII)V"⟩ : MethodName)) at_272 (hw _ (List.mem_of_getElem? (i := 60) rfl)) (hw _ (List.mem_of_getElem? (i := 61) rfl)) (hw _ (List.mem_of_getElem? (i := 2) rfl)) (hw _ (List.mem_of_getElem? (i := 62) rfl)) (W := 0) (argsL := [(.ref b153), (.int x25), (.int x17), (.int x18), (.int p3), (.int ((p3.toUInt32 >>> ((8 : Int32) &&& 31).toUInt32).toInt32))]) (rest := []) (rm12 Z a0 hw b153 x25 x17 x18 p3 ((p3.toUInt32 >>> ((8 : Int32) &&& 31).toUInt32).toInt32) (X5 + 2 + F22) (2 + F15) (2 + F15 + X13) GH158 hH158 n0 ge_b153 AH158 DH158 h25 h17 h18 (by omega) (by omega)) rfl (pd_16) rfl rfl rfl (by decide) (by decide) (by decide) (by decide) (by decide)
    replace k := k.stk [] rfl
    have hd161 := own_hdrM hd159 hf22 (fun j hj => wL160 j (by omega))
    have hd162 := own_hdrM hdH158 hf15 (fun j hj => wL160 j (by omega))
    replace k := k.iload at_275 rfl
    replace k := k.iconst (2 : Int32) at_277 rfl
    replace k := k.icmpNo at_278 (by decide)
    replace k := k.aload at_281 rfl rfl
    replace k := k.iload at_283 rfl
    replace k := k.iload at_285 rfl
    replace k := k.iload at_287 rfl
    replace k := k.iload at_289 rfl
    obtain ⟨_, hH163, ⟨rfl, KH163, GH163, AH163, DH163, hdH163, wH163⟩, k⟩ := k.callS (y := (⟨"com/example/vidare/vidare/core/DerInsidePinLaw", "header", "([BIIII)I"⟩ : MethodName)) at_291 (hw _ (List.mem_of_getElem? (i := 12) rfl)) (hw _ (List.mem_of_getElem? (i := 13) rfl)) (hw _ (List.mem_of_getElem? (i := 2) rfl)) (hw _ (List.mem_of_getElem? (i := 14) rfl)) (W := 0) (argsL := [(.ref b153), (.int x26), (.int x12), (.int x16), (.int x14)]) (rest := []) (rm4 Z a0 hw b153 x26 x12 x16 x14 (X5 + 2 + F22 + (2 + F15 + X13)) GL160 hL160 n0 ge_b153 AL160 DL160 h26 (by omega) (own_fm4 hf16)) rfl (pd_13) rfl rfl rfl (by decide) (by decide) (by decide) (by decide) (by decide)
    replace k := k.stk [(.int ((2 : Int32) + x16))] rfl
    have hd164 := own_hdrM hd161 hf22 (fun j hj => wH163 j (by omega))
    have hd165 := own_hdrM hd162 hf15 (fun j hj => wH163 j (by omega))
    replace k := k.pop at_294 rfl
    replace k := k.aload at_295 rfl rfl
    replace k := k.iload at_297 rfl
    replace k := k.iload at_299 rfl
    replace k := k.iload at_301 rfl
    replace k := k.iloadN at_303 rfl
    replace k := k.bipush (16 : Int32) at_304 rfl
    replace k := k.iushr at_306
    replace k := k.iloadN at_307 rfl
    replace k := k.bipush (24 : Int32) at_308 rfl
    replace k := k.iushr at_310
    obtain ⟨_, hL166, ⟨rfl, KL166, GL166, AL166, DL166, wL166⟩, k⟩ := k.callS (y := (⟨"com/example/vidare/vidare/core/DerInsidePinLaw", "fill", "([BIIIII)V"⟩ : MethodName)) at_311 (hw _ (List.mem_of_getElem? (i := 60) rfl)) (hw _ (List.mem_of_getElem? (i := 61) rfl)) (hw _ (List.mem_of_getElem? (i := 2) rfl)) (hw _ (List.mem_of_getElem? (i := 62) rfl)) (W := 0) (argsL := [(.ref b153), (.int x26), (.int x19), (.int x20), (.int ((p3.toUInt32 >>> ((16 : Int32) &&& 31).toUInt32).toInt32)), (.int ((p3.toUInt32 >>> ((24 : Int32) &&& 31).toUInt32).toInt32))]) (rest := []) (rm12 Z a0 hw b153 x26 x19 x20 ((p3.toUInt32 >>> ((16 : Int32) &&& 31).toUInt32).toInt32) ((p3.toUInt32 >>> ((24 : Int32) &&& 31).toUInt32).toInt32) (X5 + 2 + F22 + (2 + F15 + X13)) (2 + F16) (2 + F16 + X14) GH163 hH163 n0 ge_b153 AH163 DH163 h26 h19 h20 (by omega) (by omega)) rfl (pd_16) rfl rfl rfl (by decide) (by decide) (by decide) (by decide) (by decide)
    replace k := k.stk [] rfl
    have hd167 := own_hdrM hd164 hf22 (fun j hj => wL166 j (by omega))
    have hd168 := own_hdrM hd165 hf15 (fun j hj => wL166 j (by omega))
    have hd169 := own_hdrM hdH163 hf16 (fun j hj => wL166 j (by omega))
    replace k := k.iload at_314 rfl
    replace k := k.iload at_316 rfl
    replace k := k.iadd at_318
    replace k := k.iload at_319 rfl
    replace k := k.iadd at_321
    obtain ⟨x27, hx27⟩ : ∃ z, z = ((x5 + x24) + x21) := ⟨_, rfl⟩
    replace k := k.stk [(.int x27)] (by rw [hx27])
    have h27 : x27.toInt = ((X5 + 2 + F22 + (2 + F15 + X13 + (2 + F16 + X14)) : Nat) : Int) := by rw [hx27]; exact (own_ad (own_ad h5 h24 (by omega)) h21 (by omega)).trans (by omega)
    have h27_1 : (x27 + (1 : Int32)).toInt = ((X5 + 2 + F22 + (2 + F15 + X13 + (2 + F16 + X14)) + 1 : Nat) : Int) := own_ad h27 (by decide) (by omega)
    have h27_2 : (x27 + (2 : Int32)).toInt = ((X5 + 2 + F22 + (2 + F15 + X13 + (2 + F16 + X14)) + 2 : Nat) : Int) := own_ad h27 (by decide) (by omega)
    have h27_3 : (x27 + (3 : Int32)).toInt = ((X5 + 2 + F22 + (2 + F15 + X13 + (2 + F16 + X14)) + 3 : Nat) : Int) := own_ad h27 (by decide) (by omega)
    have h27_4 : (x27 + (4 : Int32)).toInt = ((X5 + 2 + F22 + (2 + F15 + X13 + (2 + F16 + X14)) + 4 : Nat) : Int) := own_ad h27 (by decide) (by omega)
    replace k := k.istore #[.val (.int p1), .val (.int p2), .val (.int p3), .val (.int p4), .val (.int p5), .val (.int x5), .val (.int (2 : Int32)), .val (.int x7), .val (.int x8), .val (.int x9), .val (.int x10), .val (.int x11), .val (.int x12), .val (.int x13), .val (.int x14), .val (.int x15), .val (.int x16), .val (.int x17), .val (.int x18), .val (.int x19), .val (.int x20), .val (.int x21), .val (.int x22), .val (.ref b153), .val (.int x24), .val (.int x25), .val (.int x26), .val (.int x27), .unset, .unset, .unset] at_322 rfl
    replace k := k.aload at_324 rfl rfl
    replace k := k.iload at_326 rfl
    replace k := k.iload at_328 rfl
    replace k := k.i2b at_330
    obtain ⟨h170, W170, A170, k⟩ := k.bastore at_331 AL166 (X5 + 2 + F22 + (2 + F15 + X13 + (2 + F16 + X14))) (own_at h27) (own_nn h27) (by omega) ge_b153 (p5.toInt8.toInt32) (own_i2b _)
    obtain ⟨G171, hG171⟩ : ∃ g, g = (own_up GL166 (X5 + 2 + F22 + (2 + F15 + X13 + (2 + F16 + X14))) (p5.toInt8.toInt32)) := ⟨_, rfl⟩
    have AG171 : Arf Z h170 b153 .byte 800 (own_bf G171) := by rw [hG171]; exact (own_bfA A170)
    have DG171 : own_der G171 := by rw [hG171]; exact (own_derU DL166 (own_b8 _))
    have wG171 : ∀ j, j < X5 + 2 + F22 + (2 + F15 + X13 + (2 + F16 + X14)) → G171 j = GL166 j := fun j hj => by rw [hG171]; exact if_neg (by omega)
    have hd172 := own_hdrM hd167 hf22 (fun j hj => wG171 j (by omega))
    have hd173 := own_hdrM hd168 hf15 (fun j hj => wG171 j (by omega))
    have hd174 := own_hdrM hd169 hf16 (fun j hj => wG171 j (by omega))
    replace k := k.aload at_332 rfl rfl
    replace k := k.iload at_334 rfl
    replace k := k.iconst (1 : Int32) at_336 rfl
    replace k := k.iadd at_337
    replace k := k.iload at_338 rfl
    replace k := k.bipush (8 : Int32) at_340 rfl
    replace k := k.iushr at_342
    replace k := k.i2b at_343
    obtain ⟨h175, W175, A175, k⟩ := k.bastore at_344 AG171 (X5 + 2 + F22 + (2 + F15 + X13 + (2 + F16 + X14)) + 1) (own_at h27_1) (own_nn h27_1) (by omega) ge_b153 (((p5.toUInt32 >>> ((8 : Int32) &&& 31).toUInt32).toInt32).toInt8.toInt32) (own_i2b _)
    obtain ⟨G176, hG176⟩ : ∃ g, g = (own_up G171 (X5 + 2 + F22 + (2 + F15 + X13 + (2 + F16 + X14)) + 1) (((p5.toUInt32 >>> ((8 : Int32) &&& 31).toUInt32).toInt32).toInt8.toInt32)) := ⟨_, rfl⟩
    have AG176 : Arf Z h175 b153 .byte 800 (own_bf G176) := by rw [hG176]; exact (own_bfA A175)
    have DG176 : own_der G176 := by rw [hG176]; exact (own_derU DG171 (own_b8 _))
    have wG176 : ∀ j, j < X5 + 2 + F22 + (2 + F15 + X13 + (2 + F16 + X14)) → G176 j = G171 j := fun j hj => by rw [hG176]; exact if_neg (by omega)
    have hd177 := own_hdrM hd172 hf22 (fun j hj => wG176 j (by omega))
    have hd178 := own_hdrM hd173 hf15 (fun j hj => wG176 j (by omega))
    have hd179 := own_hdrM hd174 hf16 (fun j hj => wG176 j (by omega))
    replace k := k.aload at_345 rfl rfl
    replace k := k.iload at_347 rfl
    replace k := k.iconst (2 : Int32) at_349 rfl
    replace k := k.iadd at_350
    replace k := k.iload at_351 rfl
    replace k := k.bipush (16 : Int32) at_353 rfl
    replace k := k.iushr at_355
    replace k := k.i2b at_356
    obtain ⟨h180, W180, A180, k⟩ := k.bastore at_357 AG176 (X5 + 2 + F22 + (2 + F15 + X13 + (2 + F16 + X14)) + 2) (own_at h27_2) (own_nn h27_2) (by omega) ge_b153 (((p5.toUInt32 >>> ((16 : Int32) &&& 31).toUInt32).toInt32).toInt8.toInt32) (own_i2b _)
    obtain ⟨G181, hG181⟩ : ∃ g, g = (own_up G176 (X5 + 2 + F22 + (2 + F15 + X13 + (2 + F16 + X14)) + 2) (((p5.toUInt32 >>> ((16 : Int32) &&& 31).toUInt32).toInt32).toInt8.toInt32)) := ⟨_, rfl⟩
    have AG181 : Arf Z h180 b153 .byte 800 (own_bf G181) := by rw [hG181]; exact (own_bfA A180)
    have DG181 : own_der G181 := by rw [hG181]; exact (own_derU DG176 (own_b8 _))
    have wG181 : ∀ j, j < X5 + 2 + F22 + (2 + F15 + X13 + (2 + F16 + X14)) → G181 j = G176 j := fun j hj => by rw [hG181]; exact if_neg (by omega)
    have hd182 := own_hdrM hd177 hf22 (fun j hj => wG181 j (by omega))
    have hd183 := own_hdrM hd178 hf15 (fun j hj => wG181 j (by omega))
    have hd184 := own_hdrM hd179 hf16 (fun j hj => wG181 j (by omega))
    replace k := k.aload at_358 rfl rfl
    replace k := k.iload at_360 rfl
    replace k := k.iconst (3 : Int32) at_362 rfl
    replace k := k.iadd at_363
    replace k := k.iload at_364 rfl
    replace k := k.bipush (24 : Int32) at_366 rfl
    replace k := k.iushr at_368
    replace k := k.i2b at_369
    obtain ⟨h185, W185, A185, k⟩ := k.bastore at_370 AG181 (X5 + 2 + F22 + (2 + F15 + X13 + (2 + F16 + X14)) + 3) (own_at h27_3) (own_nn h27_3) (by omega) ge_b153 (((p5.toUInt32 >>> ((24 : Int32) &&& 31).toUInt32).toInt32).toInt8.toInt32) (own_i2b _)
    obtain ⟨G186, hG186⟩ : ∃ g, g = (own_up G181 (X5 + 2 + F22 + (2 + F15 + X13 + (2 + F16 + X14)) + 3) (((p5.toUInt32 >>> ((24 : Int32) &&& 31).toUInt32).toInt32).toInt8.toInt32)) := ⟨_, rfl⟩
    have AG186 : Arf Z h185 b153 .byte 800 (own_bf G186) := by rw [hG186]; exact (own_bfA A185)
    have DG186 : own_der G186 := by rw [hG186]; exact (own_derU DG181 (own_b8 _))
    have wG186 : ∀ j, j < X5 + 2 + F22 + (2 + F15 + X13 + (2 + F16 + X14)) → G186 j = G181 j := fun j hj => by rw [hG186]; exact if_neg (by omega)
    have hd187 := own_hdrM hd182 hf22 (fun j hj => wG186 j (by omega))
    have hd188 := own_hdrM hd183 hf15 (fun j hj => wG186 j (by omega))
    have hd189 := own_hdrM hd184 hf16 (fun j hj => wG186 j (by omega))
    replace k := k.aload at_371 rfl rfl
    replace k := k.iload at_373 rfl
    replace k := k.iconst (4 : Int32) at_375 rfl
    replace k := k.iadd at_376
    replace k := k.iloadN at_377 rfl
    replace k := k.bipush (24 : Int32) at_378 rfl
    replace k := k.iushr at_380
    replace k := k.i2b at_381
    obtain ⟨h190, W190, A190, k⟩ := k.bastore at_382 AG186 (X5 + 2 + F22 + (2 + F15 + X13 + (2 + F16 + X14)) + 4) (own_at h27_4) (own_nn h27_4) (by omega) ge_b153 (((p4.toUInt32 >>> ((24 : Int32) &&& 31).toUInt32).toInt32).toInt8.toInt32) (own_i2b _)
    obtain ⟨G191, hG191⟩ : ∃ g, g = (own_up G186 (X5 + 2 + F22 + (2 + F15 + X13 + (2 + F16 + X14)) + 4) (((p4.toUInt32 >>> ((24 : Int32) &&& 31).toUInt32).toInt32).toInt8.toInt32)) := ⟨_, rfl⟩
    have AG191 : Arf Z h190 b153 .byte 800 (own_bf G191) := by rw [hG191]; exact (own_bfA A190)
    have DG191 : own_der G191 := by rw [hG191]; exact (own_derU DG186 (own_b8 _))
    have wG191 : ∀ j, j < X5 + 2 + F22 + (2 + F15 + X13 + (2 + F16 + X14)) → G191 j = G186 j := fun j hj => by rw [hG191]; exact if_neg (by omega)
    have hd192 := own_hdrM hd187 hf22 (fun j hj => wG191 j (by omega))
    have hd193 := own_hdrM hd188 hf15 (fun j hj => wG191 j (by omega))
    have hd194 := own_hdrM hd189 hf16 (fun j hj => wG191 j (by omega))
    replace k := k.aload at_383 rfl rfl
    replace k := k.iload at_385 rfl
    obtain ⟨_, hI195, ⟨lI195, dI195, xI195_1, xI195_2, rfl, KI195, ElI195, FsI195, FeI195, AdI195, AxI195_1, ExI195_1, AxI195_2, ExI195_2⟩, k⟩ := k.callS (y := (⟨"com/example/vidare/vidare/core/Der", "inside", "([BI)Ljava/util/List;"⟩ : MethodName)) at_387 (hw _ (List.mem_of_getElem? (i := 15) rfl)) (hw _ (List.mem_of_getElem? (i := 16) rfl)) (hw _ (List.mem_of_getElem? (i := 17) rfl)) (hw _ (List.mem_of_getElem? (i := 18) rfl)) (W := 0) (argsL := [(.ref b153), (.int x5)]) (rest := []) (rm5_2 Z a0 hw b153 aD x5 x22 x21 X5 F22 (2 + F15 + X13 + (2 + F16 + X14)) G191 fD x15 x13 F15 X13 x16 x14 F16 X14 h190 n0 (Nat.le_trans (Nat.le_trans (Nat.le_trans (Nat.le_trans (Nat.le_trans (Nat.le_trans (Nat.le_trans (Nat.le_trans (Nat.le_trans (Nat.le_trans (Nat.le_trans (Nat.le_trans (Nat.le_trans (Nat.le_trans Z0 E153.1) (Nat.le_of_eq (Wr.size W154).symm)) (Nat.le_of_eq (Wr.size W155).symm)) (Nat.le_of_eq (Wr.size W156).symm)) KH157.1) KH158.1) KL160.1) KH163.1) KL166.1) (Nat.le_of_eq (Wr.size W170).symm)) (Nat.le_of_eq (Wr.size W175).symm)) (Nat.le_of_eq (Wr.size W180).symm)) (Nat.le_of_eq (Wr.size W185).symm)) (Nat.le_of_eq (Wr.size W190).symm)) (Sta.wr W190 (Sta.wr W185 (Sta.wr W180 (Sta.wr W175 (Sta.wr W170 (Sta.keepN (Sta.keepN (Sta.keepN (Sta.keepN (Sta.keepN (Sta.wr W156 (Sta.wr W155 (Sta.wr W154 (Sta.ext E153 S_D)))) KH157 (allS (Exa.nost (Exa.wr W156 (Exa.wr W155 (Exa.wr W154 X153)))) all0)) KH158 (allS (Exa.nost ((Exa.wr W156 (Exa.wr W155 (Exa.wr W154 X153))).keep KH157)) all0)) KL160 (allS (Exa.nost (((Exa.wr W156 (Exa.wr W155 (Exa.wr W154 X153))).keep KH157).keep KH158)) all0)) KH163 (allS (Exa.nost ((((Exa.wr W156 (Exa.wr W155 (Exa.wr W154 X153))).keep KH157).keep KH158).keep KL160)) all0)) KL166 (allS (Exa.nost (((((Exa.wr W156 (Exa.wr W155 (Exa.wr W154 X153))).keep KH157).keep KH158).keep KL160).keep KH163)) all0))))))) ((((((((((((((A_D.ext E153).other W154 (Nat.ne_of_lt (Nat.lt_of_lt_of_le A_D.lt (Nat.le_of_eq g153.symm)))).other W155 (Nat.ne_of_lt (Nat.lt_of_lt_of_le A_D.lt (Nat.le_of_eq g153.symm)))).other W156 (Nat.ne_of_lt (Nat.lt_of_lt_of_le A_D.lt (Nat.le_of_eq g153.symm)))).keep KH157 (ninS (Nat.ne_of_lt (Nat.lt_of_lt_of_le A_D.lt (Nat.le_of_eq g153.symm))) nin0)).keep KH158 (ninS (Nat.ne_of_lt (Nat.lt_of_lt_of_le A_D.lt (Nat.le_of_eq g153.symm))) nin0)).keep KL160 (ninS (Nat.ne_of_lt (Nat.lt_of_lt_of_le A_D.lt (Nat.le_of_eq g153.symm))) nin0)).keep KH163 (ninS (Nat.ne_of_lt (Nat.lt_of_lt_of_le A_D.lt (Nat.le_of_eq g153.symm))) nin0)).keep KL166 (ninS (Nat.ne_of_lt (Nat.lt_of_lt_of_le A_D.lt (Nat.le_of_eq g153.symm))) nin0)).other W170 (Nat.ne_of_lt (Nat.lt_of_lt_of_le A_D.lt (Nat.le_of_eq g153.symm)))).other W175 (Nat.ne_of_lt (Nat.lt_of_lt_of_le A_D.lt (Nat.le_of_eq g153.symm)))).other W180 (Nat.ne_of_lt (Nat.lt_of_lt_of_le A_D.lt (Nat.le_of_eq g153.symm)))).other W185 (Nat.ne_of_lt (Nat.lt_of_lt_of_le A_D.lt (Nat.le_of_eq g153.symm)))).other W190 (Nat.ne_of_lt (Nat.lt_of_lt_of_le A_D.lt (Nat.le_of_eq g153.symm)))) AG191 DG191 h5 hd192 hf22 h21 rfl (by omega) hd193 hf15 h13 b13 hd194 hf16 h14 b14) rfl (pd_14) rfl rfl rfl (by decide) (by decide) (by decide) (by decide) (by decide)
    replace k := k.stk [(.ref lI195)] rfl
    replace k := k.astore #[.val (.int p1), .val (.int p2), .val (.int p3), .val (.int p4), .val (.int p5), .val (.int x5), .val (.int (2 : Int32)), .val (.int x7), .val (.int x8), .val (.int x9), .val (.int x10), .val (.int x11), .val (.int x12), .val (.int x13), .val (.int x14), .val (.int x15), .val (.int x16), .val (.int x17), .val (.int x18), .val (.int x19), .val (.int x20), .val (.int x21), .val (.int x22), .val (.ref b153), .val (.int x24), .val (.int x25), .val (.int x26), .val (.int x27), .val (.ref lI195), .unset, .unset] at_390 rfl rfl
    replace k := k.aload at_392 rfl rfl
    obtain ⟨_, _, ⟨rfl, rfl⟩, k⟩ := k.callF (xi := (⟨"java/util/List", "size", "()I"⟩ : MethodName)) (y := (⟨"java/util/ArrayList", "size", "()I"⟩ : MethodName)) (a := lI195) at_394 (hw _ (List.mem_of_getElem? (i := 49) rfl)) (hw _ (List.mem_of_getElem? (i := 50) rfl)) (fun s args hs => mvT hs (hw _ (List.mem_of_getElem? (i := 51) rfl))) (hw _ (List.mem_of_getElem? (i := 52) rfl)) (hw _ (List.mem_of_getElem? (i := 53) rfl)) (hw _ (List.mem_of_getElem? (i := 54) rfl)) (hw _ (List.mem_of_getElem? (i := 55) rfl)) (hw _ (List.mem_of_getElem? (i := 56) rfl)) (hw _ (List.mem_of_getElem? (i := 25) rfl)) (hw _ (List.mem_of_getElem? (i := 57) rfl)) ElI195 (W := 0) (argsL := []) (rest := []) (rm11 Z a0 hw lI195 (2 : Int32) hI195 n0 FsI195) rfl (pd_15) rfl rfl rfl (by decide) (by decide) (by decide) (by decide) (by decide)
    replace k := k.stk [(.int (2 : Int32))] rfl
    replace k := k.iload at_399 rfl
    replace k := k.icmpYes (pc' := 406) at_401 (by decide) (by decide) (by decide)
    replace k := k.iload at_406 rfl
    replace k := k.iconst (1 : Int32) at_408 rfl
    replace k := k.icmpNo at_409 (by decide)
    replace k := k.aload at_412 rfl rfl
    replace k := k.iconst (0 : Int32) at_414 rfl
    obtain ⟨_, _, ⟨rfl, rfl⟩, k⟩ := k.callF (xi := (⟨"java/util/List", "get", "(I)Ljava/lang/Object;"⟩ : MethodName)) (y := (⟨"java/util/ArrayList", "get", "(I)Ljava/lang/Object;"⟩ : MethodName)) (a := lI195) at_415 (hw _ (List.mem_of_getElem? (i := 106) rfl)) (hw _ (List.mem_of_getElem? (i := 107) rfl)) (fun s args hs => mvT hs (hw _ (List.mem_of_getElem? (i := 108) rfl))) (hw _ (List.mem_of_getElem? (i := 109) rfl)) (hw _ (List.mem_of_getElem? (i := 110) rfl)) (hw _ (List.mem_of_getElem? (i := 111) rfl)) (hw _ (List.mem_of_getElem? (i := 112) rfl)) (hw _ (List.mem_of_getElem? (i := 56) rfl)) (hw _ (List.mem_of_getElem? (i := 25) rfl)) (hw _ (List.mem_of_getElem? (i := 113) rfl)) ElI195 (W := 0) (argsL := [(.int (0 : Int32))]) (rest := []) (rm21 Z a0 hw lI195 dI195 xI195_1 (0 : Int32) (2 : Int32) 0 _ hI195 n0 FeI195 AdI195 (by decide) (by decide) (by decide) rfl ElI195 FsI195 (by decide)) rfl (pd_6) rfl rfl rfl (by decide) (by decide) (by decide) (by decide) (by decide)
    replace k := k.stk [(.ref xI195_1)] rfl
    replace k := k.castY at_420 (hw _ (List.mem_of_getElem? (i := 127) rfl)) (Ins.self ExI195_1)
    replace k := k.aload at_423 rfl rfl
    replace k := k.iload at_425 rfl
    replace k := k.iload at_427 rfl
    replace k := k.iload at_429 rfl
    obtain ⟨_, _, ⟨rfl, rfl⟩, k⟩ := k.callS (y := (⟨"com/example/vidare/vidare/core/DerInsidePinLaw", "child", "([B[BIII)Z"⟩ : MethodName)) at_431 (hw _ (List.mem_of_getElem? (i := 129) rfl)) (hw _ (List.mem_of_getElem? (i := 130) rfl)) (hw _ (List.mem_of_getElem? (i := 2) rfl)) (hw _ (List.mem_of_getElem? (i := 131) rfl)) (W := 0) (argsL := [(.ref xI195_1), (.ref b153), (.int x25), (.int x17), (.int x18)]) (rest := []) (rm25 Z a0 hw xI195_1 b153 x25 x17 x18 (X5 + 2 + F22) (2 + F15) (2 + F15 + X13) G191 hI195 n0 (own_cut AxI195_1) (AG191.keep KI195 nin0) h25 h17 (by omega) (by omega) h18) rfl (pd_11) rfl rfl rfl (by decide) (by decide) (by decide) (by decide) (by decide)
    replace k := k.stk [(.int (1 : Int32))] rfl
    replace k := k.ifNo at_434 (by decide)
    replace k := k.iconst (1 : Int32) at_437 rfl
    replace k := k.goto (pc' := 442) at_438 (by decide) (by decide)
    replace k := k.istore #[.val (.int p1), .val (.int p2), .val (.int p3), .val (.int p4), .val (.int p5), .val (.int x5), .val (.int (2 : Int32)), .val (.int x7), .val (.int x8), .val (.int x9), .val (.int x10), .val (.int x11), .val (.int x12), .val (.int x13), .val (.int x14), .val (.int x15), .val (.int x16), .val (.int x17), .val (.int x18), .val (.int x19), .val (.int x20), .val (.int x21), .val (.int x22), .val (.ref b153), .val (.int x24), .val (.int x25), .val (.int x26), .val (.int x27), .val (.ref lI195), .val (.int (1 : Int32)), .unset] at_442 rfl
    replace k := k.iload at_444 rfl
    replace k := k.iconst (2 : Int32) at_446 rfl
    replace k := k.icmpNo at_447 (by decide)
    replace k := k.aload at_450 rfl rfl
    replace k := k.iconst (1 : Int32) at_452 rfl
    obtain ⟨_, _, ⟨rfl, rfl⟩, k⟩ := k.callF (xi := (⟨"java/util/List", "get", "(I)Ljava/lang/Object;"⟩ : MethodName)) (y := (⟨"java/util/ArrayList", "get", "(I)Ljava/lang/Object;"⟩ : MethodName)) (a := lI195) at_453 (hw _ (List.mem_of_getElem? (i := 106) rfl)) (hw _ (List.mem_of_getElem? (i := 107) rfl)) (fun s args hs => mvT hs (hw _ (List.mem_of_getElem? (i := 108) rfl))) (hw _ (List.mem_of_getElem? (i := 109) rfl)) (hw _ (List.mem_of_getElem? (i := 110) rfl)) (hw _ (List.mem_of_getElem? (i := 111) rfl)) (hw _ (List.mem_of_getElem? (i := 112) rfl)) (hw _ (List.mem_of_getElem? (i := 56) rfl)) (hw _ (List.mem_of_getElem? (i := 25) rfl)) (hw _ (List.mem_of_getElem? (i := 113) rfl)) ElI195 (W := 0) (argsL := [(.int (1 : Int32))]) (rest := []) (rm21 Z a0 hw lI195 dI195 xI195_2 (1 : Int32) (2 : Int32) 1 _ hI195 n0 FeI195 AdI195 (by decide) (by decide) (by decide) rfl ElI195 FsI195 (by decide)) rfl (pd_6) rfl rfl rfl (by decide) (by decide) (by decide) (by decide) (by decide)
    replace k := k.stk [(.ref xI195_2)] rfl
    replace k := k.castY at_458 (hw _ (List.mem_of_getElem? (i := 127) rfl)) (Ins.self ExI195_2)
    replace k := k.aload at_461 rfl rfl
    replace k := k.iload at_463 rfl
    replace k := k.iload at_465 rfl
    replace k := k.iload at_467 rfl
    obtain ⟨_, _, ⟨rfl, rfl⟩, k⟩ := k.callS (y := (⟨"com/example/vidare/vidare/core/DerInsidePinLaw", "child", "([B[BIII)Z"⟩ : MethodName)) at_469 (hw _ (List.mem_of_getElem? (i := 129) rfl)) (hw _ (List.mem_of_getElem? (i := 130) rfl)) (hw _ (List.mem_of_getElem? (i := 2) rfl)) (hw _ (List.mem_of_getElem? (i := 131) rfl)) (W := 0) (argsL := [(.ref xI195_2), (.ref b153), (.int x26), (.int x19), (.int x20)]) (rest := []) (rm25 Z a0 hw xI195_2 b153 x26 x19 x20 (X5 + 2 + F22 + (2 + F15 + X13)) (2 + F16) (2 + F16 + X14) G191 hI195 n0 (own_cut AxI195_2) (AG191.keep KI195 nin0) h26 h19 (by omega) (by omega) h20) rfl (pd_11) rfl rfl rfl (by decide) (by decide) (by decide) (by decide) (by decide)
    replace k := k.stk [(.int (1 : Int32))] rfl
    replace k := k.ifNo at_472 (by decide)
    replace k := k.iconst (1 : Int32) at_475 rfl
    replace k := k.goto (pc' := 480) at_476 (by decide) (by decide)
    replace k := k.istore #[.val (.int p1), .val (.int p2), .val (.int p3), .val (.int p4), .val (.int p5), .val (.int x5), .val (.int (2 : Int32)), .val (.int x7), .val (.int x8), .val (.int x9), .val (.int x10), .val (.int x11), .val (.int x12), .val (.int x13), .val (.int x14), .val (.int x15), .val (.int x16), .val (.int x17), .val (.int x18), .val (.int x19), .val (.int x20), .val (.int x21), .val (.int x22), .val (.ref b153), .val (.int x24), .val (.int x25), .val (.int x26), .val (.int x27), .val (.ref lI195), .val (.int (1 : Int32)), .val (.int (1 : Int32))] at_480 rfl
    replace k := k.iload at_482 rfl
    replace k := k.ifNo at_484 (by decide)
    replace k := k.iload at_487 rfl
    replace k := k.ifNo at_489 (by decide)
    replace k := k.iconst (1 : Int32) at_492 rfl
    replace k := k.goto (pc' := 497) at_493 (by decide) (by decide)
    exact k.iret at_497 rfl (by simp) rfl rfl (by decide) (by decide)
set_option maxRecDepth 65536 in
set_option maxHeartbeats 40000000 in
theorem comes_1 {Post : Tables → Env → Array Value → State → Outcome → State → Prop} (hpost : ∀ tb e args s v u, (limb_1_1.after args s (.returned v) u = true ∧ limb_1_2.after args s (.returned v) u = true ∧ True) → FrameEnd s (.returned v) u (Jvm.fieldLocs frame_1_writes args s ++ Jvm.arrayLocs frame_1_arrays args s ++ Jvm.staticLocs frame_1_statics s) 24 3264 → Post tb e args s (.returned v) u) :
    ArmFor flags0 classFile x code maxLocals ret World_1 tables_1 room_1 Calls_1 rest_1 Pre_1 Post := by
  intro l hfl _ _ p e ha hc hk s m args below hf hA hF happ hP
  obtain ⟨hcalls, hrest, hpre⟩ := hP
  obtain ⟨-, -, -, hnamed, -, -, -, hat⟩ := (Spec.applies_iff hf).mp happ
  obtain ⟨hg, hn⟩ := and_e (Cond.before_iff.mp (show (Jvm.Cond.and given_1 narrow_1).before args s = true from hpre))
  obtain ⟨gg0, gr0⟩ := and_e hg
  obtain ⟨gg1, gr1⟩ := and_e gr0
  obtain ⟨gg2, gr2⟩ := and_e gr1
  obtain ⟨gg3, gr3⟩ := and_e gr2
  obtain ⟨gg4, gr4⟩ := and_e gr3
  obtain ⟨w0, w1, w2, w3, w4, rfl⟩ : ∃ w0 w1 w2 w3 w4 : Value, args = #[w0, w1, w2, w3, w4] := by
    have hs : args.size = 5 := by simpa [Cond.value, given_1] using gg0
    obtain ⟨L⟩ := args
    match L, hs with
    | [w0, w1, w2, w3, w4], _ => exact ⟨w0, w1, w2, w3, w4, rfl⟩
  have hw := fun d (hd : d ∈ tables_1) => atoms_spec (ws := Jvm.Cond.code x code maxLocals ret :: tables_1) hat d (List.mem_cons_of_mem _ hd)
  have hfit : Fit s := fun {y c} hc i hi => by
    obtain ⟨ha, rfl⟩ := Array.getElem?_eq_some_iff.mp hc
    have q := List.all_eq_true.mp ((Array.all_eq_true_iff_forall_mem.mp hF) _ (Array.getElem_mem ha)) i (List.mem_range.mpr hi)
    simpa [Array.getElem?_eq_getElem hi] using q
  obtain ⟨hsets, hown0⟩ := atoms_of _ (rest_1_c_eq ▸ (show rest_1_c.before _ s = true from hrest))
  have hr0 := Cond.before_iff.mp hown0
  obtain ⟨i0, ei0⟩ := is_v gg1
  obtain rfl : w0 = (.int i0) := Option.some.inj ei0
  obtain ⟨i1, ei1⟩ := is_v gg2
  obtain rfl : w1 = (.int i1) := Option.some.inj ei1
  obtain ⟨i2, ei2⟩ := is_v gg3
  obtain rfl : w2 = (.int i2) := Option.some.inj ei2
  obtain ⟨i3, ei3⟩ := is_v gg4
  obtain rfl : w3 = (.int i3) := Option.some.inj ei3
  obtain ⟨i4, ei4⟩ := is_v gr4
  obtain rfl : w4 = (.int i4) := Option.some.inj ei4
  have j6 := Cond.before_iff.mp (hsets _ (List.mem_of_getElem? (i := 6) rfl))
  obtain ⟨aD, evD⟩ := arr_v j6
  have S_D : Sta s s.heap "java/util/ArrayList" "DEFAULTCAPACITY_EMPTY_ELEMENTDATA" "[Ljava/lang/Object;" (.ref aD) := Sta.start evD (Or.inr ⟨(hw _ (List.mem_of_getElem? (i := 25) rfl)), hsets _ (List.mem_of_getElem? (i := 2) rfl)⟩)
  obtain ⟨clD, ArD⟩ := Arr.start evD j6
  have SzD : clD.slots.size = 0 := own_len evD ArD (own_eqv (Cond.before_iff.mp (hsets _ (List.mem_of_getElem? (i := 8) rfl)))) (by decide)
  have A_D : Arf s s.heap aD (.object "java/lang/Object") 0 (fun _ => .null) := ⟨clD, ArD, SzD, fun i hi => absurd hi (Nat.not_lt_zero _)⟩
  obtain ⟨n, o, h1, h2, h3, _, L, rfl, ⟨rfl, N⟩, hq⟩ := rm0 s _ hw i0 i1 i2 i3 i4 aD (fun _ => .null) s.heap s.heap.size (Nat.le_refl _) S_D A_D l p e ha hc hk s m _ below hf ((Spec.applies_iff_loose hf).mp happ).1 ⟨rfl, State.Warmed39.refl s, rfl⟩ trivial
  refine ⟨n, _, h1, h2, h3, hpost _ _ _ _ _ _ ⟨Cond.after_iff.mpr rfl, Cond.after_iff.mpr (eq_i res_at (Term.int_eval (1)) rfl), trivial⟩ ⟨hq.1, hq.2.1, (hq.2.2.sift fun y hy => Or.inr (N y hy)).mono (by decide) (by decide)⟩⟩
theorem main_1_1 : Claimed_1_1 := comes_1 fun _ _ _ _ _ _ h hF => ⟨h.1, hF⟩
theorem main_1_2 : Claimed_1_2 := comes_1 fun _ _ _ _ _ _ h hF => ⟨h.2.1, hF⟩
end Jvm.Pilot.@@N@@
namespace Jvm.Pilot.@@N@@
open Jvm Jvm.ClassFile Sem Op Lib Jvm.Free Jvm.Stand Jvm.Pilot.@@N@@.Jvm.D
/-! MADE BY PROGRAM (witnessworld.py) out of the Statement's table words and the real class files: 23 classes; the members and pool entries that the words name. The judged class is class 1, her method 7. -/
namespace start1
open Jvm.ClassFile
def u (s : String) : CpInfo := .utf8 (stringToUtf16 s)
/-- a pool by its gaps: so many unusable entries, then the entry; so many at the end -/
def gap : Nat → List CpInfo → List CpInfo
  | 0, r => r
  | n + 1, r => .unusable :: gap n r
def poolList (es : List (Nat × CpInfo)) (last : Nat) : List CpInfo := es.foldr (fun e r => gap e.1 (e.2 :: r)) (gap last [])
def pool (es : List (Nat × CpInfo)) (last : Nat) : Array CpInfo := ⟨poolList es last⟩
def fileOf (pool : Array CpInfo) (this : Nat) (attrs : Array Attribute := #[]) (ms : Array MethodInfo := #[]) (fl : Nat := 33) (sup : Nat := 0) (ifs : Array Nat := #[]) (fds : Array FieldInfo := #[]) : ClassFile where
  minorVersion := 0
  majorVersion := 65
  constantPool := pool
  accessFlags := fl
  thisClass := this
  superClass := sup
  interfaces := ifs
  fields := fds
  methods := ms
  attributes := attrs
def plain (name : String) (sup : Option ClassId) : Class where
  name := name
  kind := .ordinary
  loader := none
  accessFlags := 33
  super := sup
  interfaces := #[]
  cf := none
  fields := #[]
  methods := #[]
  instanceTypes := #[]
  staticTypes := #[]
  resolved := #[]
  callSites := []
  init := .initialized
  statics := none
  mirror := none

def pool0 : Array CpInfo := pool [(5, u "<init>"), (0, u "()V"), (1, .class_ 10), (1, u "java/lang/Object")] 113

def k0c0 : Code := { maxStack := 0, maxLocals := 1, code := object_method_1_code, exceptionTable := #[], attributes := #[] }
def k0m0 : Method := { name := "<init>", desc := "()V", sig := { parameters := [], returnType := none }, accessFlags := 1, code := some k0c0 }
/-- java/lang/Object -/
def k0 : Class := { plain "java/lang/Object" none with
  accessFlags := 33
  interfaces := #[]
  cf := some (fileOf pool0 8 #[] #[{ accessFlags := 1, nameIndex := 5, descriptorIndex := 6, attributes := #[] }] 33 0 #[] #[])
  fields := #[]
  methods := #[k0m0]
  instanceTypes := #[]
  staticTypes := #[]
  resolved := Array.replicate 124 none
  statics := none }

def pool1 : Array CpInfo := pool [(2, .class_ 4), (1, u "java/lang/Object"), (0, u "<init>"), (0, u "()V"), (0, .methodref 8 9), (0, .class_ 10), (0, .nameAndType 11 12), (0, u "com/example/vidare/vidare/core/DerInsidePinLaw"), (0, u "same"), (0, u "([B[BIII)Z"), (0, .methodref 8 14), (0, .nameAndType 15 16), (0, u "contentLength"), (0, u "(I)I"), (0, .methodref 8 18), (0, .nameAndType 19 16), (0, u "minForm"), (0, .methodref 21 22), (0, .class_ 23), (0, .nameAndType 24 25), (0, u "java/lang/Math"), (0, u "max"), (0, u "(II)I"), (0, .methodref 8 27), (0, .nameAndType 28 29), (0, u "header"), (0, u "([BIIII)I"), (0, .methodref 8 31), (0, .nameAndType 32 33), (0, u "fill"), (0, u "([BIIIII)V"), (0, .methodref 35 36), (0, .class_ 37), (0, .nameAndType 38 39), (0, u "com/example/vidare/vidare/core/Der"), (0, u "inside"), (0, u "([BI)Ljava/util/List;"), (0, .interfaceMethodref 41 42), (0, .class_ 43), (0, .nameAndType 44 45), (0, u "java/util/List"), (0, u "size"), (0, u "()I"), (0, .interfaceMethodref 41 47), (0, .nameAndType 48 49), (0, u "get"), (0, u "(I)Ljava/lang/Object;"), (0, .class_ 51), (0, u "[B"), (0, .methodref 8 53), (0, .nameAndType 54 12), (0, u "child"), (3, u "law"), (0, u "(IIIII)Z")] 2

def k1m0 : Method := { name := "<init>", desc := "()V", sig := { parameters := [], returnType := none }, accessFlags := 2, code := none }
def k1c1 : Code := { maxStack := 2, maxLocals := 1, code := method_2_code, exceptionTable := #[], attributes := #[] }
def k1m1 : Method := { name := "minForm", desc := "(I)I", sig := { parameters := [.int], returnType := some .int }, accessFlags := 10, code := some k1c1 }
def k1c2 : Code := { maxStack := 3, maxLocals := 1, code := method_3_code, exceptionTable := #[], attributes := #[] }
def k1m2 : Method := { name := "contentLength", desc := "(I)I", sig := { parameters := [.int], returnType := some .int }, accessFlags := 10, code := some k1c2 }
def k1c3 : Code := { maxStack := 4, maxLocals := 5, code := method_4_code, exceptionTable := #[], attributes := #[] }
def k1m3 : Method := { name := "header", desc := "([BIIII)I", sig := { parameters := [(.array .byte), .int, .int, .int, .int], returnType := some .int }, accessFlags := 10, code := some k1c3 }
def k1c4 : Code := { maxStack := 3, maxLocals := 6, code := method_5_code, exceptionTable := #[], attributes := #[] }
def k1m4 : Method := { name := "fill", desc := "([BIIIII)V", sig := { parameters := [(.array .byte), .int, .int, .int, .int, .int], returnType := none }, accessFlags := 10, code := some k1c4 }
def k1c5 : Code := { maxStack := 4, maxLocals := 5, code := method_6_code, exceptionTable := #[], attributes := #[] }
def k1m5 : Method := { name := "same", desc := "([B[BIII)Z", sig := { parameters := [(.array .byte), (.array .byte), .int, .int, .int], returnType := some .boolean }, accessFlags := 10, code := some k1c5 }
def k1c6 : Code := { maxStack := 5, maxLocals := 7, code := method_7_code, exceptionTable := #[], attributes := #[] }
def k1m6 : Method := { name := "child", desc := "([B[BIII)Z", sig := { parameters := [(.array .byte), (.array .byte), .int, .int, .int], returnType := some .boolean }, accessFlags := 10, code := some k1c6 }
def k1c7 : Code := { maxStack := 7, maxLocals := 31, code := code, exceptionTable := #[], attributes := #[] }
def k1m7 : Method := { name := "law", desc := "(IIIII)Z", sig := { parameters := [.int, .int, .int, .int, .int], returnType := some .boolean }, accessFlags := 9, code := some k1c7 }
/-- com/example/vidare/vidare/core/DerInsidePinLaw -/
def k1 : Class := { plain "com/example/vidare/vidare/core/DerInsidePinLaw" (some 0) with
  accessFlags := 49
  interfaces := #[]
  cf := some (fileOf pool1 8 #[] #[{ accessFlags := 2, nameIndex := 5, descriptorIndex := 6, attributes := #[] }, { accessFlags := 10, nameIndex := 19, descriptorIndex := 16, attributes := #[] }, { accessFlags := 10, nameIndex := 15, descriptorIndex := 16, attributes := #[] }, { accessFlags := 10, nameIndex := 28, descriptorIndex := 29, attributes := #[] }, { accessFlags := 10, nameIndex := 32, descriptorIndex := 33, attributes := #[] }, { accessFlags := 10, nameIndex := 11, descriptorIndex := 12, attributes := #[] }, { accessFlags := 10, nameIndex := 54, descriptorIndex := 12, attributes := #[] }, { accessFlags := 9, nameIndex := 58, descriptorIndex := 59, attributes := #[] }] 49 2 #[] #[])
  fields := #[]
  methods := #[k1m0, k1m1, k1m2, k1m3, k1m4, k1m5, k1m6, k1m7]
  instanceTypes := #[]
  staticTypes := #[]
  resolved := Array.replicate 62 none
  statics := none }

def pool2 : Array CpInfo := pool [(1, .class_ 2), (0, u "java/lang/Math"), (1, .class_ 6), (1, u "java/lang/Object"), (0, u "<init>"), (0, u "()V"), (89, .class_ 100), (1, u "java/lang/Math$RandomNumberGeneratorHolder"), (71, u "negativeZeroFloatBits"), (0, u "J"), (2, u "negativeZeroDoubleBits"), (21, u "max"), (2, u "min"), (43, u "$assertionsDisabled"), (0, u "Z"), (88, u "(II)I"), (2, u "twoToTheDoubleScaleDown"), (0, u "D"), (4, u "twoToTheDoubleScaleUp"), (9, u "E"), (3, u "PI"), (2, u "TAU"), (2, u "DEGREES_TO_RADIANS"), (0, u "RADIANS_TO_DEGREES")] 94

def k2m0 : Method := { name := "<init>", desc := "()V", sig := { parameters := [], returnType := none }, accessFlags := 2, code := none }
def k2c1 : Code := { maxStack := 2, maxLocals := 2, code := jdk_29_method_65_code, exceptionTable := #[], attributes := #[] }
def k2m1 : Method := { name := "max", desc := "(II)I", sig := { parameters := [.int, .int], returnType := some .int }, accessFlags := 9, code := some k2c1 }
def k2c2 : Code := { maxStack := 2, maxLocals := 2, code := jdk_29_method_69_code, exceptionTable := #[], attributes := #[] }
def k2m2 : Method := { name := "min", desc := "(II)I", sig := { parameters := [.int, .int], returnType := some .int }, accessFlags := 9, code := some k2c2 }
/-- java/lang/Math -/
def k2 : Class := { plain "java/lang/Math" (some 0) with
  accessFlags := 49
  interfaces := #[]
  cf := some (fileOf pool2 1 #[.nestMembers #[98]] #[{ accessFlags := 2, nameIndex := 7, descriptorIndex := 8, attributes := #[] }, { accessFlags := 9, nameIndex := 198, descriptorIndex := 335, attributes := #[] }, { accessFlags := 9, nameIndex := 201, descriptorIndex := 335, attributes := #[] }] 49 4 #[] #[{ accessFlags := 25, nameIndex := 354, descriptorIndex := 339, attributes := #[] }, { accessFlags := 25, nameIndex := 358, descriptorIndex := 339, attributes := #[] }, { accessFlags := 25, nameIndex := 361, descriptorIndex := 339, attributes := #[] }, { accessFlags := 26, nameIndex := 364, descriptorIndex := 339, attributes := #[] }, { accessFlags := 26, nameIndex := 365, descriptorIndex := 339, attributes := #[] }, { accessFlags := 26, nameIndex := 172, descriptorIndex := 173, attributes := #[] }, { accessFlags := 26, nameIndex := 176, descriptorIndex := 173, attributes := #[] }, { accessFlags := 8, nameIndex := 344, descriptorIndex := 339, attributes := #[] }, { accessFlags := 8, nameIndex := 338, descriptorIndex := 339, attributes := #[] }, { accessFlags := 4120, nameIndex := 245, descriptorIndex := 246, attributes := #[] }])
  fields := #[{ name := "E", type := .double, accessFlags := 25, slot := 0, constantValue := 0 }, { name := "PI", type := .double, accessFlags := 25, slot := 1, constantValue := 0 }, { name := "TAU", type := .double, accessFlags := 25, slot := 2, constantValue := 0 }, { name := "DEGREES_TO_RADIANS", type := .double, accessFlags := 26, slot := 3, constantValue := 0 }, { name := "RADIANS_TO_DEGREES", type := .double, accessFlags := 26, slot := 4, constantValue := 0 }, { name := "negativeZeroFloatBits", type := .long, accessFlags := 26, slot := 5, constantValue := 0 }, { name := "negativeZeroDoubleBits", type := .long, accessFlags := 26, slot := 6, constantValue := 0 }, { name := "twoToTheDoubleScaleUp", type := .double, accessFlags := 8, slot := 7, constantValue := 0 }, { name := "twoToTheDoubleScaleDown", type := .double, accessFlags := 8, slot := 8, constantValue := 0 }, { name := "$assertionsDisabled", type := .boolean, accessFlags := 4120, slot := 9, constantValue := 0 }]
  methods := #[k2m0, k2m1, k2m2]
  instanceTypes := #[]
  staticTypes := #[.double, .double, .double, .double, .double, .long, .long, .double, .double, .boolean]
  resolved := Array.replicate 460 none
  statics := none }

def pool3 : Array CpInfo := pool [(2, .class_ 4), (0, .nameAndType 5 6), (0, u "java/lang/Object"), (0, u "<init>"), (0, u "()V"), (0, .methodref 8 9), (0, .class_ 10), (0, .nameAndType 11 12), (0, u "com/example/vidare/vidare/core/Der"), (0, u "contents"), (0, u "([BI)[I"), (0, .class_ 14), (0, u "java/util/ArrayList"), (0, .methodref 13 3), (7, .methodref 24 25), (0, .class_ 26), (0, .nameAndType 27 28), (0, u "java/util/Arrays"), (0, u "copyOfRange"), (0, u "([BII)[B"), (0, .methodref 13 30), (0, .nameAndType 31 32), (0, u "add"), (0, u "(Ljava/lang/Object;)Z"), (43, u "SEQUENCE"), (0, u "I"), (2, u "OCTET_STRING"), (5, u "inside"), (0, u "([BI)Ljava/util/List;")] 15

def k3m0 : Method := { name := "<init>", desc := "()V", sig := { parameters := [], returnType := none }, accessFlags := 2, code := none }
def k3c1 : Code := { maxStack := 4, maxLocals := 6, code := prog_10_method_3_code, exceptionTable := #[], attributes := #[] }
def k3m1 : Method := { name := "inside", desc := "([BI)Ljava/util/List;", sig := { parameters := [(.array .byte), .int], returnType := some (.object "java/util/List") }, accessFlags := 8, code := some k3c1 }
def k3c2 : Code := { maxStack := 5, maxLocals := 6, code := prog_10_method_4_code, exceptionTable := #[], attributes := #[] }
def k3m2 : Method := { name := "contents", desc := "([BI)[I", sig := { parameters := [(.array .byte), .int], returnType := some (.array .int) }, accessFlags := 10, code := some k3c2 }
/-- com/example/vidare/vidare/core/Der -/
def k3 : Class := { plain "com/example/vidare/vidare/core/Der" (some 0) with
  accessFlags := 48
  interfaces := #[]
  cf := some (fileOf pool3 8 #[] #[{ accessFlags := 2, nameIndex := 5, descriptorIndex := 6, attributes := #[] }, { accessFlags := 8, nameIndex := 86, descriptorIndex := 87, attributes := #[] }, { accessFlags := 10, nameIndex := 11, descriptorIndex := 12, attributes := #[] }] 48 2 #[] #[{ accessFlags := 24, nameIndex := 76, descriptorIndex := 77, attributes := #[] }, { accessFlags := 24, nameIndex := 80, descriptorIndex := 77, attributes := #[] }])
  fields := #[{ name := "SEQUENCE", type := .int, accessFlags := 24, slot := 0, constantValue := 0 }, { name := "OCTET_STRING", type := .int, accessFlags := 24, slot := 1, constantValue := 0 }]
  methods := #[k3m0, k3m1, k3m2]
  instanceTypes := #[]
  staticTypes := #[.int, .int]
  resolved := Array.replicate 103 none
  statics := none }

def pool4 : Array CpInfo := pool [(8, .class_ 10), (1, u "java/lang/Iterable"), (24, .class_ 36), (0, u "java/lang/Object")] 25

/-- java/lang/Iterable -/
def k4 : Class := { plain "java/lang/Iterable" (some 0) with
  accessFlags := 1537
  interfaces := #[]
  cf := some (fileOf pool4 8 #[] #[] 1537 35 #[] #[])
  fields := #[]
  methods := #[]
  instanceTypes := #[]
  staticTypes := #[]
  resolved := Array.replicate 62 none
  statics := none }

def pool5 : Array CpInfo := pool [(10, .class_ 12), (1, u "java/util/Collection"), (47, .class_ 61), (0, u "java/lang/Object"), (0, .class_ 63), (0, u "java/lang/Iterable")] 51

/-- java/util/Collection -/
def k5 : Class := { plain "java/util/Collection" (some 0) with
  accessFlags := 1537
  interfaces := #[4]
  cf := some (fileOf pool5 10 #[] #[] 1537 60 #[62] #[])
  fields := #[]
  methods := #[]
  instanceTypes := #[]
  staticTypes := #[]
  resolved := Array.replicate 115 none
  statics := none }

def pool6 : Array CpInfo := pool [(1, .methodref 2 3), (0, .class_ 4), (0, .nameAndType 5 6), (0, u "java/lang/Object"), (0, u "<init>"), (0, u "()V"), (1, .class_ 10), (1, u "java/util/AbstractCollection"), (66, .class_ 78), (0, u "java/util/Collection")] 81

def k6c0 : Code := { maxStack := 1, maxLocals := 1, code := jdk_22_method_1_code, exceptionTable := #[], attributes := #[] }
def k6m0 : Method := { name := "<init>", desc := "()V", sig := { parameters := [], returnType := none }, accessFlags := 4, code := some k6c0 }
/-- java/util/AbstractCollection -/
def k6 : Class := { plain "java/util/AbstractCollection" (some 0) with
  accessFlags := 1057
  interfaces := #[5]
  cf := some (fileOf pool6 8 #[] #[{ accessFlags := 4, nameIndex := 5, descriptorIndex := 6, attributes := #[] }] 1057 2 #[77] #[])
  fields := #[]
  methods := #[k6m0]
  instanceTypes := #[]
  staticTypes := #[]
  resolved := Array.replicate 160 none
  statics := none }

def pool7 : Array CpInfo := pool [(8, .class_ 10), (1, u "java/util/SequencedCollection"), (15, .class_ 27), (0, u "java/lang/Object"), (0, .class_ 29), (0, u "java/util/Collection")] 27

/-- java/util/SequencedCollection -/
def k7 : Class := { plain "java/util/SequencedCollection" (some 0) with
  accessFlags := 1537
  interfaces := #[5]
  cf := some (fileOf pool7 8 #[] #[] 1537 26 #[28] #[])
  fields := #[]
  methods := #[]
  instanceTypes := #[]
  staticTypes := #[]
  resolved := Array.replicate 57 none
  statics := none }

def pool8 : Array CpInfo := pool [(8, .class_ 10), (1, u "java/util/List"), (64, u "get"), (0, u "(I)Ljava/lang/Object;"), (2, u "size"), (0, u "()I"), (22, .class_ 104), (0, u "java/lang/Object"), (15, .class_ 121), (0, u "java/util/SequencedCollection")] 129

def k8m0 : Method := { name := "size", desc := "()I", sig := { parameters := [], returnType := some .int }, accessFlags := 1025, code := none }
def k8m1 : Method := { name := "get", desc := "(I)Ljava/lang/Object;", sig := { parameters := [.int], returnType := some (.object "java/lang/Object") }, accessFlags := 1025, code := none }
/-- java/util/List -/
def k8 : Class := { plain "java/util/List" (some 0) with
  accessFlags := 1537
  interfaces := #[7]
  cf := some (fileOf pool8 8 #[] #[{ accessFlags := 1025, nameIndex := 79, descriptorIndex := 80, attributes := #[] }, { accessFlags := 1025, nameIndex := 75, descriptorIndex := 76, attributes := #[] }] 1537 103 #[120] #[])
  fields := #[]
  methods := #[k8m0, k8m1]
  instanceTypes := #[]
  staticTypes := #[]
  resolved := Array.replicate 251 none
  statics := none }

def pool9 : Array CpInfo := pool [(1, .methodref 2 3), (0, .class_ 4), (0, .nameAndType 5 6), (0, u "java/util/AbstractCollection"), (0, u "<init>"), (0, u "()V"), (0, .fieldref 8 9), (0, .class_ 10), (0, .nameAndType 11 12), (0, u "java/util/AbstractList"), (0, u "modCount"), (0, u "I"), (64, .class_ 78), (0, u "java/util/AbstractList$Itr"), (3, .class_ 83), (0, u "java/util/AbstractList$ListItr"), (9, .class_ 94), (0, u "java/util/AbstractList$RandomAccessSubList"), (3, .class_ 99), (0, u "java/util/AbstractList$SubList"), (33, .class_ 134), (0, u "java/util/List"), (73, .class_ 209), (0, u "java/util/AbstractList$SubList$1"), (0, .class_ 211), (0, u "java/util/AbstractList$RandomAccessSpliterator")] 6

def k9c0 : Code := { maxStack := 2, maxLocals := 1, code := jdk_39_method_1_code, exceptionTable := #[], attributes := #[] }
def k9m0 : Method := { name := "<init>", desc := "()V", sig := { parameters := [], returnType := none }, accessFlags := 4, code := some k9c0 }
/-- java/util/AbstractList -/
def k9 : Class := { plain "java/util/AbstractList" (some 6) with
  accessFlags := 1057
  interfaces := #[8]
  cf := some (fileOf pool9 8 #[.nestMembers #[93, 98, 208, 210, 82, 77]] #[{ accessFlags := 4, nameIndex := 5, descriptorIndex := 6, attributes := #[] }] 1057 2 #[133] #[{ accessFlags := 132, nameIndex := 11, descriptorIndex := 12, attributes := #[] }])
  fields := #[{ name := "modCount", type := .int, accessFlags := 132, slot := 0, constantValue := 0 }]
  methods := #[k9m0]
  instanceTypes := #[.int]
  staticTypes := #[]
  resolved := Array.replicate 218 none
  statics := none }

def pool10 : Array CpInfo := pool [(1, .class_ 2), (0, u "java/util/RandomAccess"), (0, .class_ 4), (0, u "java/lang/Object")] 2

/-- java/util/RandomAccess -/
def k10 : Class := { plain "java/util/RandomAccess" (some 0) with
  accessFlags := 1537
  interfaces := #[]
  cf := some (fileOf pool10 1 #[] #[] 1537 3 #[] #[])
  fields := #[]
  methods := #[]
  instanceTypes := #[]
  staticTypes := #[]
  resolved := Array.replicate 7 none
  statics := none }

def pool11 : Array CpInfo := pool [(1, .class_ 2), (0, u "java/lang/Cloneable"), (0, .class_ 4), (0, u "java/lang/Object")] 2

/-- java/lang/Cloneable -/
def k11 : Class := { plain "java/lang/Cloneable" (some 0) with
  accessFlags := 1537
  interfaces := #[]
  cf := some (fileOf pool11 1 #[] #[] 1537 3 #[] #[])
  fields := #[]
  methods := #[]
  instanceTypes := #[]
  staticTypes := #[]
  resolved := Array.replicate 7 none
  statics := none }

def pool12 : Array CpInfo := pool [(1, .class_ 2), (0, u "java/io/Serializable"), (0, .class_ 4), (0, u "java/lang/Object")] 2

/-- java/io/Serializable -/
def k12 : Class := { plain "java/io/Serializable" (some 0) with
  accessFlags := 1537
  interfaces := #[]
  cf := some (fileOf pool12 1 #[] #[] 1537 3 #[] #[])
  fields := #[]
  methods := #[]
  instanceTypes := #[]
  staticTypes := #[]
  resolved := Array.replicate 7 none
  statics := none }

def pool13 : Array CpInfo := pool [(1, .methodref 2 3), (0, .class_ 4), (0, .nameAndType 5 6), (0, u "java/util/AbstractList"), (0, u "<init>"), (0, u "()V"), (0, .class_ 8), (0, u "java/lang/Object"), (0, .fieldref 10 11), (0, .class_ 12), (0, .nameAndType 13 14), (0, u "java/util/ArrayList"), (0, u "elementData"), (0, u "[Ljava/lang/Object;"), (2, u "EMPTY_ELEMENTDATA"), (21, .fieldref 10 40), (0, .nameAndType 41 14), (0, u "DEFAULTCAPACITY_EMPTY_ELEMENTDATA"), (5, u "()[Ljava/lang/Object;"), (0, .fieldref 10 49), (0, .nameAndType 50 51), (0, u "size"), (0, u "I"), (11, .fieldref 10 64), (0, .nameAndType 65 51), (0, u "modCount"), (3, .methodref 10 70), (0, .nameAndType 71 72), (0, u "grow"), (0, u "(I)[Ljava/lang/Object;"), (6, .methodref 80 81), (0, .class_ 82), (0, .nameAndType 83 84), (0, u "java/lang/Math"), (0, u "max"), (0, u "(II)I"), (11, u "(Ljava/lang/Object;)Z"), (21, .methodref 119 120), (0, .class_ 121), (0, .nameAndType 122 84), (0, u "java/util/Objects"), (0, u "checkIndex"), (0, .methodref 10 124), (0, .nameAndType 13 125), (0, u "(I)Ljava/lang/Object;"), (3, .methodref 10 130), (0, .nameAndType 71 47), (0, .methodref 10 132), (0, .nameAndType 133 134), (0, u "add"), (0, u "(Ljava/lang/Object;[Ljava/lang/Object;I)V"), (13, .class_ 149), (0, u "java/util/List"), (36, u "()I"), (75, .class_ 263), (0, u "java/util/ArrayList$ListItr"), (3, .class_ 268), (0, u "java/util/ArrayList$Itr"), (7, .class_ 277), (0, u "java/util/ArrayList$SubList"), (12, .class_ 291), (0, u "java/util/ArrayList$ArrayListSpliterator"), (37, .class_ 330), (0, u "java/util/RandomAccess"), (0, .class_ 332), (0, u "java/lang/Cloneable"), (0, .class_ 334), (0, u "java/io/Serializable"), (0, u "serialVersionUID"), (0, u "J"), (3, u "DEFAULT_CAPACITY"), (40, u "get"), (118, .class_ 501), (0, u "java/util/ArrayList$SubList$2"), (0, .class_ 503), (0, u "java/util/ArrayList$SubList$1")] 5

def k13c0 : Code := { maxStack := 2, maxLocals := 1, code := jdk_38_method_2_code, exceptionTable := #[], attributes := #[] }
def k13m0 : Method := { name := "<init>", desc := "()V", sig := { parameters := [], returnType := none }, accessFlags := 1, code := some k13c0 }
def k13c1 : Code := { maxStack := 4, maxLocals := 4, code := jdk_38_method_6_code, exceptionTable := #[], attributes := #[] }
def k13m1 : Method := { name := "grow", desc := "(I)[Ljava/lang/Object;", sig := { parameters := [.int], returnType := some (.array (.object "java/lang/Object")) }, accessFlags := 2, code := some k13c1 }
def k13c2 : Code := { maxStack := 3, maxLocals := 1, code := jdk_38_method_7_code, exceptionTable := #[], attributes := #[] }
def k13m2 : Method := { name := "grow", desc := "()[Ljava/lang/Object;", sig := { parameters := [], returnType := some (.array (.object "java/lang/Object")) }, accessFlags := 2, code := some k13c2 }
def k13c3 : Code := { maxStack := 1, maxLocals := 1, code := jdk_38_method_8_code, exceptionTable := #[], attributes := #[] }
def k13m3 : Method := { name := "size", desc := "()I", sig := { parameters := [], returnType := some .int }, accessFlags := 1, code := some k13c3 }
def k13c4 : Code := { maxStack := 2, maxLocals := 2, code := jdk_38_method_18_code, exceptionTable := #[], attributes := #[] }
def k13m4 : Method := { name := "elementData", desc := "(I)Ljava/lang/Object;", sig := { parameters := [.int], returnType := some (.object "java/lang/Object") }, accessFlags := 0, code := some k13c4 }
def k13c5 : Code := { maxStack := 2, maxLocals := 2, code := jdk_38_method_20_code, exceptionTable := #[], attributes := #[] }
def k13m5 : Method := { name := "get", desc := "(I)Ljava/lang/Object;", sig := { parameters := [.int], returnType := some (.object "java/lang/Object") }, accessFlags := 1, code := some k13c5 }
def k13c6 : Code := { maxStack := 3, maxLocals := 4, code := jdk_38_method_24_code, exceptionTable := #[], attributes := #[] }
def k13m6 : Method := { name := "add", desc := "(Ljava/lang/Object;[Ljava/lang/Object;I)V", sig := { parameters := [(.object "java/lang/Object"), (.array (.object "java/lang/Object")), .int], returnType := none }, accessFlags := 2, code := some k13c6 }
def k13c7 : Code := { maxStack := 4, maxLocals := 2, code := jdk_38_method_25_code, exceptionTable := #[], attributes := #[] }
def k13m7 : Method := { name := "add", desc := "(Ljava/lang/Object;)Z", sig := { parameters := [(.object "java/lang/Object")], returnType := some .boolean }, accessFlags := 1, code := some k13c7 }
/-- java/util/ArrayList -/
def k13 : Class := { plain "java/util/ArrayList" (some 9) with
  accessFlags := 33
  interfaces := #[8, 10, 11, 12]
  cf := some (fileOf pool13 10 #[.nestMembers #[290, 276, 500, 502, 262, 267]] #[{ accessFlags := 1, nameIndex := 5, descriptorIndex := 6, attributes := #[] }, { accessFlags := 2, nameIndex := 71, descriptorIndex := 72, attributes := #[] }, { accessFlags := 2, nameIndex := 71, descriptorIndex := 47, attributes := #[] }, { accessFlags := 1, nameIndex := 50, descriptorIndex := 186, attributes := #[] }, { accessFlags := 0, nameIndex := 13, descriptorIndex := 125, attributes := #[] }, { accessFlags := 1, nameIndex := 381, descriptorIndex := 125, attributes := #[] }, { accessFlags := 2, nameIndex := 133, descriptorIndex := 134, attributes := #[] }, { accessFlags := 1, nameIndex := 133, descriptorIndex := 96, attributes := #[] }] 33 2 #[148, 329, 331, 333] #[{ accessFlags := 26, nameIndex := 335, descriptorIndex := 336, attributes := #[] }, { accessFlags := 26, nameIndex := 340, descriptorIndex := 51, attributes := #[] }, { accessFlags := 26, nameIndex := 17, descriptorIndex := 14, attributes := #[] }, { accessFlags := 26, nameIndex := 41, descriptorIndex := 14, attributes := #[] }, { accessFlags := 128, nameIndex := 13, descriptorIndex := 14, attributes := #[] }, { accessFlags := 2, nameIndex := 50, descriptorIndex := 51, attributes := #[] }])
  fields := #[{ name := "serialVersionUID", type := .long, accessFlags := 26, slot := 0, constantValue := 0 }, { name := "DEFAULT_CAPACITY", type := .int, accessFlags := 26, slot := 1, constantValue := 0 }, { name := "EMPTY_ELEMENTDATA", type := (.array (.object "java/lang/Object")), accessFlags := 26, slot := 2, constantValue := 0 }, { name := "DEFAULTCAPACITY_EMPTY_ELEMENTDATA", type := (.array (.object "java/lang/Object")), accessFlags := 26, slot := 3, constantValue := 0 }, { name := "elementData", type := (.array (.object "java/lang/Object")), accessFlags := 128, slot := 1, constantValue := 0 }, { name := "size", type := .int, accessFlags := 2, slot := 2, constantValue := 0 }]
  methods := #[k13m0, k13m1, k13m2, k13m3, k13m4, k13m5, k13m6, k13m7]
  instanceTypes := #[.int, (.array (.object "java/lang/Object")), .int]
  staticTypes := #[.long, .int, (.array (.object "java/lang/Object")), (.array (.object "java/lang/Object"))]
  resolved := Array.replicate 509 none
  statics := some 0 }

def pool14 : Array CpInfo := pool [(2, .class_ 4), (1, u "java/lang/Object"), (0, u "<init>"), (0, u "()V"), (7, .class_ 16), (1, u "java/util/Arrays"), (57, .class_ 76), (1, u "java/util/Arrays$NaturalOrder"), (36, .class_ 115), (1, u "java/util/Arrays$LegacyMergeSort"), (1, u "Z"), (21, u "copyOfRange"), (10, .methodref 151 152), (0, .class_ 153), (0, .nameAndType 154 155), (0, u "java/lang/System"), (0, u "arraycopy"), (0, u "(Ljava/lang/Object;ILjava/lang/Object;II)V"), (148, .methodref 305 306), (0, .class_ 307), (0, .nameAndType 308 309), (0, u "java/lang/Math"), (0, u "min"), (0, u "(II)I"), (29, .methodref 14 340), (0, .nameAndType 341 342), (0, u "copyOfRangeByte"), (0, u "([BII)[B"), (0, .methodref 14 344), (0, .nameAndType 345 346), (0, u "checkLength"), (0, u "(II)V"), (28, .class_ 376), (0, u "java/util/Arrays$ArrayList"), (68, u "$assertionsDisabled"), (269, u "MIN_ARRAY_SORT_GRAN"), (0, u "I"), (2, u "INSERTIONSORT_THRESHOLD"), (255, .class_ 976), (0, u "java/util/Arrays$ArrayItr")] 52

def k14m0 : Method := { name := "<init>", desc := "()V", sig := { parameters := [], returnType := none }, accessFlags := 2, code := none }
def k14c1 : Code := { maxStack := 4, maxLocals := 2, code := jdk_65_method_131_code, exceptionTable := #[], attributes := #[] }
def k14m1 : Method := { name := "checkLength", desc := "(II)V", sig := { parameters := [.int, .int], returnType := none }, accessFlags := 10, code := some k14c1 }
def k14c2 : Code := { maxStack := 3, maxLocals := 3, code := jdk_65_method_132_code, exceptionTable := #[], attributes := #[] }
def k14m2 : Method := { name := "copyOfRange", desc := "([BII)[B", sig := { parameters := [(.array .byte), .int, .int], returnType := some (.array .byte) }, accessFlags := 9, code := some k14c2 }
def k14c3 : Code := { maxStack := 6, maxLocals := 5, code := jdk_65_method_133_code, exceptionTable := #[], attributes := #[] }
def k14m3 : Method := { name := "copyOfRangeByte", desc := "([BII)[B", sig := { parameters := [(.array .byte), .int, .int], returnType := some (.array .byte) }, accessFlags := 10, code := some k14c3 }
/-- java/util/Arrays -/
def k14 : Class := { plain "java/util/Arrays" (some 0) with
  accessFlags := 49
  interfaces := #[]
  cf := some (fileOf pool14 14 #[.nestMembers #[975, 375, 113, 74]] #[{ accessFlags := 2, nameIndex := 5, descriptorIndex := 6, attributes := #[] }, { accessFlags := 10, nameIndex := 345, descriptorIndex := 346, attributes := #[] }, { accessFlags := 9, nameIndex := 139, descriptorIndex := 342, attributes := #[] }, { accessFlags := 10, nameIndex := 341, descriptorIndex := 342, attributes := #[] }] 49 2 #[] #[{ accessFlags := 26, nameIndex := 715, descriptorIndex := 716, attributes := #[] }, { accessFlags := 26, nameIndex := 719, descriptorIndex := 716, attributes := #[] }, { accessFlags := 4120, nameIndex := 445, descriptorIndex := 117, attributes := #[] }])
  fields := #[{ name := "MIN_ARRAY_SORT_GRAN", type := .int, accessFlags := 26, slot := 0, constantValue := 0 }, { name := "INSERTIONSORT_THRESHOLD", type := .int, accessFlags := 26, slot := 1, constantValue := 0 }, { name := "$assertionsDisabled", type := .boolean, accessFlags := 4120, slot := 2, constantValue := 0 }]
  methods := #[k14m0, k14m1, k14m2, k14m3]
  instanceTypes := #[]
  staticTypes := #[.int, .int, .boolean]
  resolved := Array.replicate 1029 none
  statics := none }

def pool15 : Array CpInfo := pool [(2, .class_ 4), (1, u "java/lang/Object"), (0, u "<init>"), (0, u "()V"), (1, .class_ 10), (1, u "java/lang/System"), (0, u "allowSecurityManager"), (0, u "I"), (16, u "cons"), (0, u "Ljava/io/Console;"), (77, .class_ 110), (1, u "java/lang/System$CallersHolder"), (43, u "initialErrStream"), (0, u "Ljava/io/PrintStream;"), (19, u "security"), (0, u "Ljava/lang/SecurityManager;"), (31, .class_ 209), (0, u "java/lang/System$1"), (7, u "props"), (0, u "Ljava/util/Properties;"), (2, u "lineSeparator"), (0, u "Ljava/lang/String;"), (96, .class_ 321), (1, u "java/lang/System$LoggerFinder"), (5, .class_ 328), (0, u "java/lang/System$Logger"), (67, u "err"), (2, u "out"), (91, u "notSupportedJnuEncoding"), (15, u "in"), (17, u "initialIn"), (0, u "Ljava/io/InputStream;"), (35, u "bootLayer"), (0, u "Ljava/lang/ModuleLayer;"), (99, .class_ 664), (0, u "java/lang/System$2"), (9, u "NEVER"), (2, u "MAYBE"), (49, u "arraycopy"), (0, u "(Ljava/lang/Object;ILjava/lang/Object;II)V"), (72, .class_ 802), (0, u "java/lang/System$Logger$Level")] 31

def k15m0 : Method := { name := "<init>", desc := "()V", sig := { parameters := [], returnType := none }, accessFlags := 2, code := none }
def k15m1 : Method := { name := "arraycopy", desc := "(Ljava/lang/Object;ILjava/lang/Object;II)V", sig := { parameters := [(.object "java/lang/Object"), .int, (.object "java/lang/Object"), .int, .int], returnType := none }, accessFlags := 265, code := none }
/-- java/lang/System -/
def k15 : Class := { plain "java/lang/System" (some 0) with
  accessFlags := 49
  interfaces := #[]
  cf := some (fileOf pool15 8 #[.nestMembers #[319, 327, 801, 108, 663, 208]] #[{ accessFlags := 2, nameIndex := 5, descriptorIndex := 6, attributes := #[] }, { accessFlags := 265, nameIndex := 727, descriptorIndex := 728, attributes := #[] }] 49 2 #[] #[{ accessFlags := 25, nameIndex := 507, descriptorIndex := 526, attributes := #[] }, { accessFlags := 25, nameIndex := 399, descriptorIndex := 155, attributes := #[] }, { accessFlags := 25, nameIndex := 396, descriptorIndex := 155, attributes := #[] }, { accessFlags := 10, nameIndex := 525, descriptorIndex := 526, attributes := #[] }, { accessFlags := 26, nameIndex := 674, descriptorIndex := 12, attributes := #[] }, { accessFlags := 26, nameIndex := 677, descriptorIndex := 12, attributes := #[] }, { accessFlags := 10, nameIndex := 11, descriptorIndex := 12, attributes := #[] }, { accessFlags := 74, nameIndex := 175, descriptorIndex := 176, attributes := #[] }, { accessFlags := 10, nameIndex := 491, descriptorIndex := 222, attributes := #[] }, { accessFlags := 74, nameIndex := 29, descriptorIndex := 30, attributes := #[] }, { accessFlags := 74, nameIndex := 154, descriptorIndex := 155, attributes := #[] }, { accessFlags := 10, nameIndex := 217, descriptorIndex := 218, attributes := #[] }, { accessFlags := 10, nameIndex := 221, descriptorIndex := 222, attributes := #[] }, { accessFlags := 8, nameIndex := 562, descriptorIndex := 563, attributes := #[] }])
  fields := #[{ name := "in", type := (.object "java/io/InputStream"), accessFlags := 25, slot := 0, constantValue := 0 }, { name := "out", type := (.object "java/io/PrintStream"), accessFlags := 25, slot := 1, constantValue := 0 }, { name := "err", type := (.object "java/io/PrintStream"), accessFlags := 25, slot := 2, constantValue := 0 }, { name := "initialIn", type := (.object "java/io/InputStream"), accessFlags := 10, slot := 3, constantValue := 0 }, { name := "NEVER", type := .int, accessFlags := 26, slot := 4, constantValue := 0 }, { name := "MAYBE", type := .int, accessFlags := 26, slot := 5, constantValue := 0 }, { name := "allowSecurityManager", type := .int, accessFlags := 10, slot := 6, constantValue := 0 }, { name := "security", type := (.object "java/lang/SecurityManager"), accessFlags := 74, slot := 7, constantValue := 0 }, { name := "notSupportedJnuEncoding", type := (.object "java/lang/String"), accessFlags := 10, slot := 8, constantValue := 0 }, { name := "cons", type := (.object "java/io/Console"), accessFlags := 74, slot := 9, constantValue := 0 }, { name := "initialErrStream", type := (.object "java/io/PrintStream"), accessFlags := 74, slot := 10, constantValue := 0 }, { name := "props", type := (.object "java/util/Properties"), accessFlags := 10, slot := 11, constantValue := 0 }, { name := "lineSeparator", type := (.object "java/lang/String"), accessFlags := 10, slot := 12, constantValue := 0 }, { name := "bootLayer", type := (.object "java/lang/ModuleLayer"), accessFlags := 8, slot := 13, constantValue := 0 }]
  methods := #[k15m0, k15m1]
  instanceTypes := #[]
  staticTypes := #[(.object "java/io/InputStream"), (.object "java/io/PrintStream"), (.object "java/io/PrintStream"), (.object "java/io/InputStream"), .int, .int, .int, (.object "java/lang/SecurityManager"), (.object "java/lang/String"), (.object "java/io/Console"), (.object "java/io/PrintStream"), (.object "java/util/Properties"), (.object "java/lang/String"), (.object "java/lang/ModuleLayer")]
  resolved := Array.replicate 834 none
  statics := none }

def pool16 : Array CpInfo := pool [(2, .class_ 4), (1, u "java/lang/Object"), (0, u "<init>"), (0, u "()V"), (35, .class_ 44), (1, u "java/util/Objects"), (60, .methodref 106 107), (0, .class_ 108), (0, .nameAndType 109 110), (0, u "jdk/internal/util/Preconditions"), (0, u "checkIndex"), (0, u "(IILjava/util/function/BiFunction;)I"), (60, u "(II)I")] 12

def k16m0 : Method := { name := "<init>", desc := "()V", sig := { parameters := [], returnType := none }, accessFlags := 2, code := none }
def k16c1 : Code := { maxStack := 3, maxLocals := 2, code := jdk_31_method_17_code, exceptionTable := #[], attributes := #[] }
def k16m1 : Method := { name := "checkIndex", desc := "(II)I", sig := { parameters := [.int, .int], returnType := some .int }, accessFlags := 9, code := some k16c1 }
/-- java/util/Objects -/
def k16 : Class := { plain "java/util/Objects" (some 0) with
  accessFlags := 49
  interfaces := #[]
  cf := some (fileOf pool16 42 #[] #[{ accessFlags := 2, nameIndex := 5, descriptorIndex := 6, attributes := #[] }, { accessFlags := 9, nameIndex := 109, descriptorIndex := 171, attributes := #[] }] 49 2 #[] #[])
  fields := #[]
  methods := #[k16m0, k16m1]
  instanceTypes := #[]
  staticTypes := #[]
  resolved := Array.replicate 184 none
  statics := none }

def pool17 : Array CpInfo := pool [(2, .class_ 4), (1, u "java/lang/Object"), (0, u "<init>"), (0, u "()V"), (17, .class_ 26), (1, u "jdk/internal/util/Preconditions"), (6, u "checkIndex"), (21, .class_ 56), (0, u "jdk/internal/util/Preconditions$4"), (57, .class_ 115), (0, u "jdk/internal/util/Preconditions$1"), (7, u "SIOOBE_FORMATTER"), (0, u "Ljava/util/function/BiFunction;"), (0, .class_ 126), (0, u "jdk/internal/util/Preconditions$2"), (3, u "AIOOBE_FORMATTER"), (0, .class_ 132), (0, u "jdk/internal/util/Preconditions$3"), (3, u "IOOBE_FORMATTER"), (41, u "(IILjava/util/function/BiFunction;)I")] 15

def k17m0 : Method := { name := "<init>", desc := "()V", sig := { parameters := [], returnType := none }, accessFlags := 1, code := none }
def k17c1 : Code := { maxStack := 3, maxLocals := 3, code := jdk_41_method_11_code, exceptionTable := #[], attributes := #[] }
def k17m1 : Method := { name := "checkIndex", desc := "(IILjava/util/function/BiFunction;)I", sig := { parameters := [.int, .int, (.object "java/util/function/BiFunction")], returnType := some .int }, accessFlags := 9, code := some k17c1 }
/-- jdk/internal/util/Preconditions -/
def k17 : Class := { plain "jdk/internal/util/Preconditions" (some 0) with
  accessFlags := 33
  interfaces := #[]
  cf := some (fileOf pool17 24 #[.nestMembers #[55, 131, 125, 114]] #[{ accessFlags := 1, nameIndex := 5, descriptorIndex := 6, attributes := #[] }, { accessFlags := 9, nameIndex := 33, descriptorIndex := 178, attributes := #[] }] 33 2 #[] #[{ accessFlags := 25, nameIndex := 123, descriptorIndex := 124, attributes := #[] }, { accessFlags := 25, nameIndex := 130, descriptorIndex := 124, attributes := #[] }, { accessFlags := 25, nameIndex := 136, descriptorIndex := 124, attributes := #[] }])
  fields := #[{ name := "SIOOBE_FORMATTER", type := (.object "java/util/function/BiFunction"), accessFlags := 25, slot := 0, constantValue := 0 }, { name := "AIOOBE_FORMATTER", type := (.object "java/util/function/BiFunction"), accessFlags := 25, slot := 1, constantValue := 0 }, { name := "IOOBE_FORMATTER", type := (.object "java/util/function/BiFunction"), accessFlags := 25, slot := 2, constantValue := 0 }]
  methods := #[k17m0, k17m1]
  instanceTypes := #[]
  staticTypes := #[(.object "java/util/function/BiFunction"), (.object "java/util/function/BiFunction"), (.object "java/util/function/BiFunction")]
  resolved := Array.replicate 194 none
  statics := none }

/-- the primitive byte -/
def k18 : Class := { plain "byte" none with kind := .primitive 'B', accessFlags := 0x411 }
/-- [B -/
def k19 : Class := { plain "[B" (some 0) with kind := .array 18 .byte, interfaces := #[11, 12], accessFlags := 1041 }

/-- the primitive int -/
def k20 : Class := { plain "int" none with kind := .primitive 'I', accessFlags := 0x411 }
/-- [I -/
def k21 : Class := { plain "[I" (some 0) with kind := .array 20 .int, interfaces := #[11, 12], accessFlags := 1041 }

/-- [Ljava/lang/Object; -/
def k22 : Class := { plain "[Ljava/lang/Object;" (some 0) with kind := .array 0 (.object "java/lang/Object"), interfaces := #[11, 12], accessFlags := 1041 }

def heap : Heap := #[{ cls := 13, slots := #[.long 0, .int 0, .ref 1, .ref 2], vm := .statics 13 },
  { cls := 22, slots := #[], vm := .none },
  { cls := 22, slots := #[], vm := .none }]
def classes : Array Class := #[k0, k1, k2, k3, k4, k5, k6, k7, k8, k9, k10, k11, k12, k13, k14, k15, k16, k17, k18, k19, k20, k21, k22]
def interned : List (Array UInt16 × Addr) := []
def slotsUsed : Nat := 4
def theMethod : MethodId := ⟨1, 7⟩
def args0 : Array Value := #[.int 5, .int 7, .int 8, .int 9, .int 10]
def aboutOver (below : List Frame) : State where
  vm := { classes := classes, interned := interned.toArray }
  heap := heap
  slotsUsed := slotsUsed
  threads := #[{ frames := .invoking theMethod args0 :: below }]
def below0 : List Frame := [.native { method := ⟨0, 0⟩, args := #[] }]
def about1 : State := aboutOver below0
def p0 : Program := .bare "" "" ""
def e0 : Env := launch0.env 0 0 0
theorem w_frames : about1.frames = Frame.invoking theMethod args0 :: below0 := rfl
set_option maxRecDepth 65536 in
theorem w_args : argsFit about1.vm theMethod args0 = true := by decide +kernel
set_option maxRecDepth 65536 in
theorem w_heap : heapFits about1 = true := by decide +kernel
set_option maxRecDepth 65536 in
theorem w_runnable : about1.curStatus? = some .runnable := by decide +kernel
set_option maxRecDepth 65536 in
theorem w_alone : about1.alone = true := by decide +kernel
set_option maxRecDepth 65536 in
theorem w_named : about1.methodNamed? x = some theMethod := by decide +kernel
set_option maxRecDepth 65536 in
theorem w_hears : about1.hears theMethod below0 = true := by decide +kernel
set_option maxRecDepth 65536 in
theorem w_ripe : about1.ripe theMethod args0 below0 = true := by decide +kernel
theorem w_running : about1.status = .running := rfl
set_option maxRecDepth 65536 in
theorem w_room : about1.hasRoom e0.platform room_1 = true :=
  launch0.hasRoom_least _ room_1 (by decide +kernel) (by decide +kernel) (by decide +kernel) (by decide +kernel) (by decide +kernel) (by decide +kernel)
theorem allAtoms_all (ts : List Jvm.Cond) (a : Array Jvm.Value) (st : Jvm.State) : (allAtoms ts).before a st = ts.all (fun c => c.before a st) := by
  induction ts with
  | nil => rfl
  | cons c t ih =>
    show (Jvm.Cond.and c (allAtoms t)).before a st = _
    rw [Jvm.Cond.before_and, ih, List.all_cons]
def words1 : List Jvm.Cond := Jvm.Cond.code x code maxLocals ret :: tables_1
/-- a 'code' word, met by the world's own term for the bytes: nothing is compared byte by byte -/
theorem code_word {y : MethodName} {bytes : ByteArray} {mx : Nat} {rt : Option FieldType} {a : Array Value} {s : State} {m : MethodId} {meth : Method} {c : Code} (h1 : s.methodNamed? y = some m) (h2 : s.vm.method? m = some meth) (h3 : meth.code = some c) (h4 : c.code = bytes)
    (h5 : (c.maxLocals == mx && c.exceptionTable.isEmpty && decide (c.maxStack ≤ mostOperands) && decide (meth.sig.returnType = rt) && !meth.locks && decide (parseMethodDescriptor y.desc = some meth.sig)) = true) : (Jvm.Cond.code y bytes mx rt).before a s = true := by
  simp only [Bool.and_eq_true, beq_iff_eq, Bool.not_eq_true', decide_eq_true_eq] at h5
  obtain ⟨⟨⟨⟨⟨g1, g2⟩, g3⟩, g4⟩, g5⟩, g6⟩ := h5
  simp [Cond.before, Cond.holds, Cond.value, h1, h2, h3, h4, g1, g2, g3, g4, g5, g6]
def isCode : Jvm.Cond → Bool
  | .code _ _ _ _ => true
  | _ => false
theorem all_split {L : List Jvm.Cond} {P : Jvm.Cond → Bool} (h1 : L.all (fun c => isCode c || P c) = true) (h2 : ∀ c ∈ L.filter isCode, P c = true) : L.all P = true := by
  refine List.all_eq_true.mpr fun c hc => ?_
  have h := List.all_eq_true.mp h1 c hc
  rcases Bool.eq_false_or_eq_true (isCode c) with hi | hi
  · exact h2 c (List.mem_filter.mpr ⟨hc, hi⟩)
  · simpa [hi] using h
set_option maxRecDepth 65536 in
theorem w_c0 : (Jvm.Cond.code x code maxLocals ret).before args0 about1 = true := code_word (m := ⟨1, 7⟩) (meth := k1m7) (c := k1c7) (by decide +kernel) rfl rfl rfl (by decide +kernel)
set_option maxRecDepth 65536 in
theorem w_c1 : (Jvm.Cond.code ({ cls := "com/example/vidare/vidare/core/DerInsidePinLaw", name := "contentLength", desc := "(I)I" } : Jvm.MethodName) method_3_code (1 : Nat) (Option.some Jvm.ClassFile.FieldType.int)).before args0 about1 = true := code_word (m := ⟨1, 2⟩) (meth := k1m2) (c := k1c2) (by decide +kernel) rfl rfl rfl (by decide +kernel)
set_option maxRecDepth 65536 in
theorem w_c2 : (Jvm.Cond.code ({ cls := "com/example/vidare/vidare/core/DerInsidePinLaw", name := "minForm", desc := "(I)I" } : Jvm.MethodName) method_2_code (1 : Nat) (Option.some Jvm.ClassFile.FieldType.int)).before args0 about1 = true := code_word (m := ⟨1, 1⟩) (meth := k1m1) (c := k1c1) (by decide +kernel) rfl rfl rfl (by decide +kernel)
set_option maxRecDepth 65536 in
theorem w_c3 : (Jvm.Cond.code ({ cls := "java/lang/Math", name := "max", desc := "(II)I" } : Jvm.MethodName) jdk_29_method_65_code (2 : Nat) (Option.some Jvm.ClassFile.FieldType.int)).before args0 about1 = true := code_word (m := ⟨2, 1⟩) (meth := k2m1) (c := k2c1) (by decide +kernel) rfl rfl rfl (by decide +kernel)
set_option maxRecDepth 65536 in
theorem w_c4 : (Jvm.Cond.code ({ cls := "com/example/vidare/vidare/core/DerInsidePinLaw", name := "header", desc := "([BIIII)I" } : Jvm.MethodName) method_4_code (5 : Nat) (Option.some Jvm.ClassFile.FieldType.int)).before args0 about1 = true := code_word (m := ⟨1, 3⟩) (meth := k1m3) (c := k1c3) (by decide +kernel) rfl rfl rfl (by decide +kernel)
set_option maxRecDepth 65536 in
theorem w_c5 : (Jvm.Cond.code ({ cls := "com/example/vidare/vidare/core/Der", name := "inside", desc := "([BI)Ljava/util/List;" } : Jvm.MethodName) prog_10_method_3_code (6 : Nat) (Option.some (Jvm.ClassFile.FieldType.object "java/util/List"))).before args0 about1 = true := code_word (m := ⟨3, 1⟩) (meth := k3m1) (c := k3c1) (by decide +kernel) rfl rfl rfl (by decide +kernel)
set_option maxRecDepth 65536 in
theorem w_c6 : (Jvm.Cond.code ({ cls := "com/example/vidare/vidare/core/Der", name := "contents", desc := "([BI)[I" } : Jvm.MethodName) prog_10_method_4_code (6 : Nat) (Option.some (Jvm.ClassFile.FieldType.array Jvm.ClassFile.FieldType.int))).before args0 about1 = true := code_word (m := ⟨3, 2⟩) (meth := k3m2) (c := k3c2) (by decide +kernel) rfl rfl rfl (by decide +kernel)
set_option maxRecDepth 65536 in
theorem w_c7 : (Jvm.Cond.code ({ cls := "java/util/ArrayList", name := "<init>", desc := "()V" } : Jvm.MethodName) jdk_38_method_2_code (1 : Nat) (Option.none : Option Jvm.ClassFile.FieldType)).before args0 about1 = true := code_word (m := ⟨13, 0⟩) (meth := k13m0) (c := k13c0) (by decide +kernel) rfl rfl rfl (by decide +kernel)
set_option maxRecDepth 65536 in
theorem w_c8 : (Jvm.Cond.code ({ cls := "java/util/AbstractList", name := "<init>", desc := "()V" } : Jvm.MethodName) jdk_39_method_1_code (1 : Nat) (Option.none : Option Jvm.ClassFile.FieldType)).before args0 about1 = true := code_word (m := ⟨9, 0⟩) (meth := k9m0) (c := k9c0) (by decide +kernel) rfl rfl rfl (by decide +kernel)
set_option maxRecDepth 65536 in
theorem w_c9 : (Jvm.Cond.code ({ cls := "java/util/AbstractCollection", name := "<init>", desc := "()V" } : Jvm.MethodName) jdk_22_method_1_code (1 : Nat) (Option.none : Option Jvm.ClassFile.FieldType)).before args0 about1 = true := code_word (m := ⟨6, 0⟩) (meth := k6m0) (c := k6c0) (by decide +kernel) rfl rfl rfl (by decide +kernel)
set_option maxRecDepth 65536 in
theorem w_c10 : (Jvm.Cond.code ({ cls := "java/lang/Object", name := "<init>", desc := "()V" } : Jvm.MethodName) object_method_1_code (1 : Nat) (Option.none : Option Jvm.ClassFile.FieldType)).before args0 about1 = true := code_word (m := ⟨0, 0⟩) (meth := k0m0) (c := k0c0) (by decide +kernel) rfl rfl rfl (by decide +kernel)
set_option maxRecDepth 65536 in
theorem w_c11 : (Jvm.Cond.code ({ cls := "java/util/ArrayList", name := "size", desc := "()I" } : Jvm.MethodName) jdk_38_method_8_code (1 : Nat) (Option.some Jvm.ClassFile.FieldType.int)).before args0 about1 = true := code_word (m := ⟨13, 3⟩) (meth := k13m3) (c := k13c3) (by decide +kernel) rfl rfl rfl (by decide +kernel)
set_option maxRecDepth 65536 in
theorem w_c12 : (Jvm.Cond.code ({ cls := "com/example/vidare/vidare/core/DerInsidePinLaw", name := "fill", desc := "([BIIIII)V" } : Jvm.MethodName) method_5_code (6 : Nat) (Option.none : Option Jvm.ClassFile.FieldType)).before args0 about1 = true := code_word (m := ⟨1, 4⟩) (meth := k1m4) (c := k1c4) (by decide +kernel) rfl rfl rfl (by decide +kernel)
set_option maxRecDepth 65536 in
theorem w_c13 : (Jvm.Cond.code ({ cls := "java/util/Arrays", name := "copyOfRange", desc := "([BII)[B" } : Jvm.MethodName) jdk_65_method_132_code (3 : Nat) (Option.some (Jvm.ClassFile.FieldType.array Jvm.ClassFile.FieldType.byte))).before args0 about1 = true := code_word (m := ⟨14, 2⟩) (meth := k14m2) (c := k14c2) (by decide +kernel) rfl rfl rfl (by decide +kernel)
set_option maxRecDepth 65536 in
theorem w_c14 : (Jvm.Cond.code ({ cls := "java/util/Arrays", name := "copyOfRangeByte", desc := "([BII)[B" } : Jvm.MethodName) jdk_65_method_133_code (5 : Nat) (Option.some (Jvm.ClassFile.FieldType.array Jvm.ClassFile.FieldType.byte))).before args0 about1 = true := code_word (m := ⟨14, 3⟩) (meth := k14m3) (c := k14c3) (by decide +kernel) rfl rfl rfl (by decide +kernel)
set_option maxRecDepth 65536 in
theorem w_c15 : (Jvm.Cond.code ({ cls := "java/util/Arrays", name := "checkLength", desc := "(II)V" } : Jvm.MethodName) jdk_65_method_131_code (2 : Nat) (Option.none : Option Jvm.ClassFile.FieldType)).before args0 about1 = true := code_word (m := ⟨14, 1⟩) (meth := k14m1) (c := k14c1) (by decide +kernel) rfl rfl rfl (by decide +kernel)
set_option maxRecDepth 65536 in
theorem w_c16 : (Jvm.Cond.code ({ cls := "java/lang/Math", name := "min", desc := "(II)I" } : Jvm.MethodName) jdk_29_method_69_code (2 : Nat) (Option.some Jvm.ClassFile.FieldType.int)).before args0 about1 = true := code_word (m := ⟨2, 2⟩) (meth := k2m2) (c := k2c2) (by decide +kernel) rfl rfl rfl (by decide +kernel)
set_option maxRecDepth 65536 in
theorem w_c17 : (Jvm.Cond.code ({ cls := "java/util/ArrayList", name := "add", desc := "(Ljava/lang/Object;)Z" } : Jvm.MethodName) jdk_38_method_25_code (2 : Nat) (Option.some Jvm.ClassFile.FieldType.boolean)).before args0 about1 = true := code_word (m := ⟨13, 7⟩) (meth := k13m7) (c := k13c7) (by decide +kernel) rfl rfl rfl (by decide +kernel)
set_option maxRecDepth 65536 in
theorem w_c18 : (Jvm.Cond.code ({ cls := "java/util/ArrayList", name := "add", desc := "(Ljava/lang/Object;[Ljava/lang/Object;I)V" } : Jvm.MethodName) jdk_38_method_24_code (4 : Nat) (Option.none : Option Jvm.ClassFile.FieldType)).before args0 about1 = true := code_word (m := ⟨13, 6⟩) (meth := k13m6) (c := k13c6) (by decide +kernel) rfl rfl rfl (by decide +kernel)
set_option maxRecDepth 65536 in
theorem w_c19 : (Jvm.Cond.code ({ cls := "java/util/ArrayList", name := "grow", desc := "()[Ljava/lang/Object;" } : Jvm.MethodName) jdk_38_method_7_code (1 : Nat) (Option.some (Jvm.ClassFile.FieldType.array (Jvm.ClassFile.FieldType.object "java/lang/Object")))).before args0 about1 = true := code_word (m := ⟨13, 2⟩) (meth := k13m2) (c := k13c2) (by decide +kernel) rfl rfl rfl (by decide +kernel)
set_option maxRecDepth 65536 in
theorem w_c20 : (Jvm.Cond.code ({ cls := "java/util/ArrayList", name := "grow", desc := "(I)[Ljava/lang/Object;" } : Jvm.MethodName) jdk_38_method_6_code (4 : Nat) (Option.some (Jvm.ClassFile.FieldType.array (Jvm.ClassFile.FieldType.object "java/lang/Object")))).before args0 about1 = true := code_word (m := ⟨13, 1⟩) (meth := k13m1) (c := k13c1) (by decide +kernel) rfl rfl rfl (by decide +kernel)
set_option maxRecDepth 65536 in
theorem w_c21 : (Jvm.Cond.code ({ cls := "java/util/ArrayList", name := "get", desc := "(I)Ljava/lang/Object;" } : Jvm.MethodName) jdk_38_method_20_code (2 : Nat) (Option.some (Jvm.ClassFile.FieldType.object "java/lang/Object"))).before args0 about1 = true := code_word (m := ⟨13, 5⟩) (meth := k13m5) (c := k13c5) (by decide +kernel) rfl rfl rfl (by decide +kernel)
set_option maxRecDepth 65536 in
theorem w_c22 : (Jvm.Cond.code ({ cls := "java/util/Objects", name := "checkIndex", desc := "(II)I" } : Jvm.MethodName) jdk_31_method_17_code (2 : Nat) (Option.some Jvm.ClassFile.FieldType.int)).before args0 about1 = true := code_word (m := ⟨16, 1⟩) (meth := k16m1) (c := k16c1) (by decide +kernel) rfl rfl rfl (by decide +kernel)
set_option maxRecDepth 65536 in
theorem w_c23 : (Jvm.Cond.code ({ cls := "jdk/internal/util/Preconditions", name := "checkIndex", desc := "(IILjava/util/function/BiFunction;)I" } : Jvm.MethodName) jdk_41_method_11_code (3 : Nat) (Option.some Jvm.ClassFile.FieldType.int)).before args0 about1 = true := code_word (m := ⟨17, 1⟩) (meth := k17m1) (c := k17c1) (by decide +kernel) rfl rfl rfl (by decide +kernel)
set_option maxRecDepth 65536 in
theorem w_c24 : (Jvm.Cond.code ({ cls := "java/util/ArrayList", name := "elementData", desc := "(I)Ljava/lang/Object;" } : Jvm.MethodName) jdk_38_method_18_code (2 : Nat) (Option.some (Jvm.ClassFile.FieldType.object "java/lang/Object"))).before args0 about1 = true := code_word (m := ⟨13, 4⟩) (meth := k13m4) (c := k13c4) (by decide +kernel) rfl rfl rfl (by decide +kernel)
set_option maxRecDepth 65536 in
theorem w_c25 : (Jvm.Cond.code ({ cls := "com/example/vidare/vidare/core/DerInsidePinLaw", name := "child", desc := "([B[BIII)Z" } : Jvm.MethodName) method_7_code (7 : Nat) (Option.some Jvm.ClassFile.FieldType.boolean)).before args0 about1 = true := code_word (m := ⟨1, 6⟩) (meth := k1m6) (c := k1c6) (by decide +kernel) rfl rfl rfl (by decide +kernel)
set_option maxRecDepth 65536 in
theorem w_c26 : (Jvm.Cond.code ({ cls := "com/example/vidare/vidare/core/DerInsidePinLaw", name := "same", desc := "([B[BIII)Z" } : Jvm.MethodName) method_6_code (5 : Nat) (Option.some Jvm.ClassFile.FieldType.boolean)).before args0 about1 = true := code_word (m := ⟨1, 5⟩) (meth := k1m5) (c := k1c5) (by decide +kernel) rfl rfl rfl (by decide +kernel)
def codes1 : List Jvm.Cond := [Jvm.Cond.code x code maxLocals ret, Jvm.Cond.code ({ cls := "com/example/vidare/vidare/core/DerInsidePinLaw", name := "contentLength", desc := "(I)I" } : Jvm.MethodName) method_3_code (1 : Nat) (Option.some Jvm.ClassFile.FieldType.int), Jvm.Cond.code ({ cls := "com/example/vidare/vidare/core/DerInsidePinLaw", name := "minForm", desc := "(I)I" } : Jvm.MethodName) method_2_code (1 : Nat) (Option.some Jvm.ClassFile.FieldType.int), Jvm.Cond.code ({ cls := "java/lang/Math", name := "max", desc := "(II)I" } : Jvm.MethodName) jdk_29_method_65_code (2 : Nat) (Option.some Jvm.ClassFile.FieldType.int), Jvm.Cond.code ({ cls := "com/example/vidare/vidare/core/DerInsidePinLaw", name := "header", desc := "([BIIII)I" } : Jvm.MethodName) method_4_code (5 : Nat) (Option.some Jvm.ClassFile.FieldType.int), Jvm.Cond.code ({ cls := "com/example/vidare/vidare/core/Der", name := "inside", desc := "([BI)Ljava/util/List;" } : Jvm.MethodName) prog_10_method_3_code (6 : Nat) (Option.some (Jvm.ClassFile.FieldType.object "java/util/List")), Jvm.Cond.code ({ cls := "com/example/vidare/vidare/core/Der", name := "contents", desc := "([BI)[I" } : Jvm.MethodName) prog_10_method_4_code (6 : Nat) (Option.some (Jvm.ClassFile.FieldType.array Jvm.ClassFile.FieldType.int)), Jvm.Cond.code ({ cls := "java/util/ArrayList", name := "<init>", desc := "()V" } : Jvm.MethodName) jdk_38_method_2_code (1 : Nat) (Option.none : Option Jvm.ClassFile.FieldType), Jvm.Cond.code ({ cls := "java/util/AbstractList", name := "<init>", desc := "()V" } : Jvm.MethodName) jdk_39_method_1_code (1 : Nat) (Option.none : Option Jvm.ClassFile.FieldType), Jvm.Cond.code ({ cls := "java/util/AbstractCollection", name := "<init>", desc := "()V" } : Jvm.MethodName) jdk_22_method_1_code (1 : Nat) (Option.none : Option Jvm.ClassFile.FieldType), Jvm.Cond.code ({ cls := "java/lang/Object", name := "<init>", desc := "()V" } : Jvm.MethodName) object_method_1_code (1 : Nat) (Option.none : Option Jvm.ClassFile.FieldType), Jvm.Cond.code ({ cls := "java/util/ArrayList", name := "size", desc := "()I" } : Jvm.MethodName) jdk_38_method_8_code (1 : Nat) (Option.some Jvm.ClassFile.FieldType.int), Jvm.Cond.code ({ cls := "com/example/vidare/vidare/core/DerInsidePinLaw", name := "fill", desc := "([BIIIII)V" } : Jvm.MethodName) method_5_code (6 : Nat) (Option.none : Option Jvm.ClassFile.FieldType), Jvm.Cond.code ({ cls := "java/util/Arrays", name := "copyOfRange", desc := "([BII)[B" } : Jvm.MethodName) jdk_65_method_132_code (3 : Nat) (Option.some (Jvm.ClassFile.FieldType.array Jvm.ClassFile.FieldType.byte)), Jvm.Cond.code ({ cls := "java/util/Arrays", name := "copyOfRangeByte", desc := "([BII)[B" } : Jvm.MethodName) jdk_65_method_133_code (5 : Nat) (Option.some (Jvm.ClassFile.FieldType.array Jvm.ClassFile.FieldType.byte)), Jvm.Cond.code ({ cls := "java/util/Arrays", name := "checkLength", desc := "(II)V" } : Jvm.MethodName) jdk_65_method_131_code (2 : Nat) (Option.none : Option Jvm.ClassFile.FieldType), Jvm.Cond.code ({ cls := "java/lang/Math", name := "min", desc := "(II)I" } : Jvm.MethodName) jdk_29_method_69_code (2 : Nat) (Option.some Jvm.ClassFile.FieldType.int), Jvm.Cond.code ({ cls := "java/util/ArrayList", name := "add", desc := "(Ljava/lang/Object;)Z" } : Jvm.MethodName) jdk_38_method_25_code (2 : Nat) (Option.some Jvm.ClassFile.FieldType.boolean), Jvm.Cond.code ({ cls := "java/util/ArrayList", name := "add", desc := "(Ljava/lang/Object;[Ljava/lang/Object;I)V" } : Jvm.MethodName) jdk_38_method_24_code (4 : Nat) (Option.none : Option Jvm.ClassFile.FieldType), Jvm.Cond.code ({ cls := "java/util/ArrayList", name := "grow", desc := "()[Ljava/lang/Object;" } : Jvm.MethodName) jdk_38_method_7_code (1 : Nat) (Option.some (Jvm.ClassFile.FieldType.array (Jvm.ClassFile.FieldType.object "java/lang/Object"))), Jvm.Cond.code ({ cls := "java/util/ArrayList", name := "grow", desc := "(I)[Ljava/lang/Object;" } : Jvm.MethodName) jdk_38_method_6_code (4 : Nat) (Option.some (Jvm.ClassFile.FieldType.array (Jvm.ClassFile.FieldType.object "java/lang/Object"))), Jvm.Cond.code ({ cls := "java/util/ArrayList", name := "get", desc := "(I)Ljava/lang/Object;" } : Jvm.MethodName) jdk_38_method_20_code (2 : Nat) (Option.some (Jvm.ClassFile.FieldType.object "java/lang/Object")), Jvm.Cond.code ({ cls := "java/util/Objects", name := "checkIndex", desc := "(II)I" } : Jvm.MethodName) jdk_31_method_17_code (2 : Nat) (Option.some Jvm.ClassFile.FieldType.int), Jvm.Cond.code ({ cls := "jdk/internal/util/Preconditions", name := "checkIndex", desc := "(IILjava/util/function/BiFunction;)I" } : Jvm.MethodName) jdk_41_method_11_code (3 : Nat) (Option.some Jvm.ClassFile.FieldType.int), Jvm.Cond.code ({ cls := "java/util/ArrayList", name := "elementData", desc := "(I)Ljava/lang/Object;" } : Jvm.MethodName) jdk_38_method_18_code (2 : Nat) (Option.some (Jvm.ClassFile.FieldType.object "java/lang/Object")), Jvm.Cond.code ({ cls := "com/example/vidare/vidare/core/DerInsidePinLaw", name := "child", desc := "([B[BIII)Z" } : Jvm.MethodName) method_7_code (7 : Nat) (Option.some Jvm.ClassFile.FieldType.boolean), Jvm.Cond.code ({ cls := "com/example/vidare/vidare/core/DerInsidePinLaw", name := "same", desc := "([B[BIII)Z" } : Jvm.MethodName) method_6_code (5 : Nat) (Option.some Jvm.ClassFile.FieldType.boolean)]
set_option maxRecDepth 65536 in
theorem codes_eq : words1.filter isCode = codes1 := rfl
theorem w_codes : ∀ c ∈ words1.filter isCode, c.before args0 about1 = true := by
  rw [codes_eq]
  intro c hc
  simp only [codes1, List.mem_cons, List.not_mem_nil, or_false] at hc
  rcases hc with rfl | rfl | rfl | rfl | rfl | rfl | rfl | rfl | rfl | rfl | rfl | rfl | rfl | rfl | rfl | rfl | rfl | rfl | rfl | rfl | rfl | rfl | rfl | rfl | rfl | rfl | rfl
  · exact w_c0
  · exact w_c1
  · exact w_c2
  · exact w_c3
  · exact w_c4
  · exact w_c5
  · exact w_c6
  · exact w_c7
  · exact w_c8
  · exact w_c9
  · exact w_c10
  · exact w_c11
  · exact w_c12
  · exact w_c13
  · exact w_c14
  · exact w_c15
  · exact w_c16
  · exact w_c17
  · exact w_c18
  · exact w_c19
  · exact w_c20
  · exact w_c21
  · exact w_c22
  · exact w_c23
  · exact w_c24
  · exact w_c25
  · exact w_c26
set_option maxRecDepth 65536 in
theorem w_t1 : (words1.take 24).all (fun c => isCode c || c.before args0 about1) = true := by decide +kernel
set_option maxRecDepth 65536 in
theorem w_t2 : ((words1.drop 24).take 24).all (fun c => isCode c || c.before args0 about1) = true := by decide +kernel
set_option maxRecDepth 65536 in
theorem w_t3 : (((words1.drop 24).drop 24).take 24).all (fun c => isCode c || c.before args0 about1) = true := by decide +kernel
set_option maxRecDepth 65536 in
theorem w_t4 : ((((words1.drop 24).drop 24).drop 24).take 24).all (fun c => isCode c || c.before args0 about1) = true := by decide +kernel
set_option maxRecDepth 65536 in
theorem w_t5 : (((((words1.drop 24).drop 24).drop 24).drop 24).take 24).all (fun c => isCode c || c.before args0 about1) = true := by decide +kernel
set_option maxRecDepth 65536 in
theorem w_t6 : (((((words1.drop 24).drop 24).drop 24).drop 24).drop 24).all (fun c => isCode c || c.before args0 about1) = true := by decide +kernel
theorem w_tables : (allAtoms (Jvm.Cond.code x code maxLocals ret :: tables_1)).before args0 about1 = true := by
  rw [allAtoms_all]
  show words1.all (fun c => c.before args0 about1) = true
  refine all_split ?_ w_codes
  rw [← List.take_append_drop 24 words1, List.all_append, w_t1, ← List.take_append_drop 24 (words1.drop 24), List.all_append, w_t2, ← List.take_append_drop 24 ((words1.drop 24).drop 24), List.all_append, w_t3, ← List.take_append_drop 24 (((words1.drop 24).drop 24).drop 24), List.all_append, w_t4, ← List.take_append_drop 24 ((((words1.drop 24).drop 24).drop 24).drop 24), List.all_append, w_t5, w_t6]
  rfl
set_option maxRecDepth 65536 in
theorem w_rest : rest_1_c.before args0 about1 = true := by decide +kernel
set_option maxRecDepth 65536 in
theorem w_case : (Jvm.Cond.and given_1 narrow_1).before args0 about1 = true := by decide +kernel
theorem w_applies : (headSpec (Jvm.Cond.code x code maxLocals ret :: tables_1) room_1).applies x e0.platform about1 = true :=
  (Spec.applies_iff w_frames).mpr ⟨w_running, w_runnable, w_alone, w_named, w_hears, w_ripe, w_room, w_tables⟩
theorem atStart : AtStart classFile x code maxLocals ret World_1 tables_1 room_1 Calls_1 rest_1 Pre_1 launch0 p0 e0 about1 theMethod args0 below0 :=
  ⟨lists_1, trivial, launch0.admits_env _ _ _, launch0.least_env, fairChoices_fair.cas, fairChoices_fair.clock, w_frames, w_args, w_heap, w_applies, trivial, w_rest, w_case⟩
end start1
theorem witness_1 : WitnessClaimed_1 := ⟨start1.p0, start1.e0, start1.about1, start1.theMethod, start1.args0, start1.below0, start1.atStart⟩
end Jvm.Pilot.@@N@@
