import JvmDerived
import JvmDerived.Pilot.@@N@@Statement
import JvmDerived.Pilot.@@N@@Code
set_option linter.unusedVariables false
set_option linter.unusedSimpArgs false
namespace Jvm.Own
open Sem ClassFile Op Lib Jvm.Stand Jvm.Free Jvm.LawKit Jvm.RoadKit
/-! A walk, forward: 'Run' says that the invocation's first state reaches this frame. -/
abbrev Cx := Program × Launch × Env × State × MethodId × Array Value × List Frame × Method × Code × State
def RunI (p : Program) (l : Launch) (e : Env) (s : State) (m : MethodId) (args : Array Value) (below : List Frame) (meth : Method) (c : Code) (A : State) (R : Room) (Z : State) (n0 : Nat) (own nm : String) (ret : Option FieldType) (bytes : ByteArray) (mx : Nat) (h : Heap) (cells slots pc : Nat) (L : Array Slot) (S : List Value) : Prop :=
  p.tables.exec = Jvm.exec ∧ c.code = bytes ∧ c.maxLocals = mx ∧ s.vm.findClass own = some m.cls ∧ Z.Warmed39 s.vm ∧ meth.name = nm ∧ meth.sig.returnType = ret ∧ meth.locks = false ∧
    ∃ (T : State) (locs : List Loc), Stand p l e R s m args below meth c T locs cells slots ∧ Fr n0 locs ∧ T.heap = h ∧ ∀ t, Steps p.tables e below (T.setTop (mkF m pc L S)) t → Steps p.tables e below A t
def Run (C : Cx) (R : Room) (Z : State) (n0 : Nat) (own nm : String) (ret : Option FieldType) (bytes : ByteArray) (mx : Nat) (h : Heap) (cells slots pc : Nat) (L : Array Slot) (S : List Value) : Prop :=
  RunI C.1 C.2.1 C.2.2.1 C.2.2.2.1 C.2.2.2.2.1 C.2.2.2.2.2.1 C.2.2.2.2.2.2.1 C.2.2.2.2.2.2.2.1 C.2.2.2.2.2.2.2.2.1 C.2.2.2.2.2.2.2.2.2 R Z n0 own nm ret bytes mx h cells slots pc L S
def FinI (p : Program) (e : Env) (s : State) (below : List Frame) (A : State) (R : Room) (n0 : Nat) (Q : Option Value → Heap → Prop) : Prop :=
  ∃ s₂ o, Steps p.tables e below A s₂ ∧ s₂.status = .running ∧ Ended s₂ below o ∧ ∃ v L, o = .returned v ∧ (Q v s₂.heap ∧ Fr n0 L) ∧ FrameEnd s o s₂ L R.cells R.slots
def Fini (C : Cx) (R : Room) (n0 : Nat) (Q : Option Value → Heap → Prop) : Prop := FinI C.1 C.2.2.1 C.2.2.2.1 C.2.2.2.2.2.2.1 C.2.2.2.2.2.2.2.2.2 R n0 Q
/-- a method's contract: called with 'as' at the heap h0 it returns, and Q says what; nothing that stood below n0 is written -/
def Con (Z : State) (n0 : Nat) (y : MethodName) (bytes : ByteArray) (mx : Nat) (ret : Option FieldType) (ws : List Jvm.Cond) (rm : Room) (as : Array Value) (h0 : Heap) (Q : Option Value → Heap → Prop) : Prop :=
  ∀ l : Launch, MetFree l y (head1 (Jvm.Cond.code y bytes mx ret :: ws) rm) (fun a U => a = as ∧ Z.Warmed39 U.vm ∧ U.heap = h0) (fun _ _ _ _ _ => True) (fun _ U o U' => ∃ v L, o = .returned v ∧ (Q v U'.heap ∧ Fr n0 L) ∧ FrameEnd U o U' L rm.cells rm.slots)
theorem Con.intro {Z : State} {n0 : Nat} {y : MethodName} {bytes : ByteArray} {mx : Nat} {ret : Option FieldType} {ws : List Jvm.Cond} {rm : Room} {as : Array Value} {h0 : Heap} {Q : Option Value → Heap → Prop} {L0 : Array Slot}
    (hp : plainFor y = true) (hef : ∀ m, entryFrame m as mx = mkF m 0 L0 []) (body : ∀ C : Cx, Run C rm Z n0 y.cls y.name ret bytes mx h0 0 0 0 L0 [] → Fini C rm n0 Q) : Con Z n0 y bytes mx ret ws rm as h0 Q := by
  intro l
  refine MetFree.of_bodySF hp hisR ?_
  intro p e s m args below meth c s₁ Bd hml0 hP hK
  obtain ⟨rfl, hZ, hh⟩ := hP
  have hown : s.vm.findClass y.cls = some m.cls := findClass_of_methodNamed Bd.named
  have X0 : Stand p l e rm s m args below meth c s₁ [] 0 0 := Stand.of_body Bd
  have e0 : s₁.heap = h0 := by rw [← hh, Bd.state]; rfl
  have k : Run (p, l, e, s, m, args, below, meth, c, s₁.setTop (entryFrame m args mx)) rm Z n0 y.cls y.name ret bytes mx h0 0 0 0 L0 [] :=
    ⟨Bd.exec, Bd.bytes, hml0, hown, hZ, (name_of_methodNamed Bd.named Bd.method).1, Bd.returns, Bd.notSynchronized, s₁, [], X0, Fr.nil n0, e0, fun t kt => castTop (hef m) kt⟩
  exact body _ k
theorem ac_eq {x y : Value} (q : x = y) : XT.acmp .eq x y = true ∧ XT.acmp .ne x y = false := ⟨decide_eq_true q, decide_eq_false (fun z => z q)⟩
theorem ac_ne {x y : Value} (q : x ≠ y) : XT.acmp .eq x y = false ∧ XT.acmp .ne x y = true := ⟨decide_eq_false q, decide_eq_true q⟩
/-! an array by a function of the place -/
def updV (f : Nat → Value) (i : Nat) (v : Value) : Nat → Value := fun j => if j = i then v else f j
theorem updV_same (f : Nat → Value) (i : Nat) (v : Value) : updV f i v i = v := if_pos rfl
theorem updV_ne {f : Nat → Value} {i j : Nat} {v : Value} (q : j ≠ i) : updV f i v j = f j := if_neg q
def Arf (Z : State) (h : Heap) (a : Addr) (ty : FieldType) (n : Nat) (f : Nat → Value) : Prop := ∃ c : Cell, Arr Z h a c ty ∧ c.slots.size = n ∧ ∀ i, i < n → c.slots[i]? = some (f i)
section Arrays
variable {Z : State} {h h' : Heap} {a b : Addr} {ty : FieldType} {n sl : Nat} {f g : Nat → Value} {v : Value} {ws : List Addr}
theorem Arf.lt (F : Arf Z h a ty n f) : a < h.size := by obtain ⟨c, A, -⟩ := F; exact A.lt
theorem Arf.ext (F : Arf Z h a ty n f) (E : Ext h h') : Arf Z h' a ty n f := by obtain ⟨c, A, r⟩ := F; exact ⟨c, Arr.ext E A, r⟩
theorem Arf.other (F : Arf Z h b ty n f) (W : Wr h h' a sl v) (q : b ≠ a) : Arf Z h' b ty n f := by obtain ⟨c, A, r⟩ := F; exact ⟨c, Arr.other W A q, r⟩
theorem Arf.keep (F : Arf Z h a ty n f) (K : Keep h h' ws) (q : a ∉ ws) : Arf Z h' a ty n f := by obtain ⟨c, A, r⟩ := F; exact ⟨c, ⟨K.2.1 a c A.1 q, A.2⟩, r⟩
theorem Arf.set (F : Arf Z h a ty n f) {i : Nat} (W : Wr h h' a i v) (hi : i < n) : Arf Z h' a ty n (updV f i v) := by
  obtain ⟨c, A, S, H⟩ := F
  refine ⟨_, Arr.same W A, (sz_set _ _ _).trans S, fun j hj => ?_⟩
  by_cases q : j = i
  · subst q
    rw [updV_same]
    have hs : j < c.slots.size := by omega
    simp [Cell.setSlot, hs]
  · rw [updV_ne q]
    simp only [Cell.setSlot]
    rw [Array.getElem?_setIfInBounds_ne (Ne.symm q)]
    exact H j hj
theorem Arf.congr (F : Arf Z h a ty n f) (q : ∀ i, i < n → f i = g i) : Arf Z h a ty n g := by obtain ⟨c, A, S, H⟩ := F; exact ⟨c, A, S, fun i hi => q i hi ▸ H i hi⟩
theorem Sta.keepN {Cn m d : String} (F : Sta Z h Cn m d v) (K : Keep h h' ws) (q : ∀ x ∈ ws, ∀ c : Cell, h[x]? = some c → c.vm.isStatics = false) : Sta Z h' Cn m d v := by
  obtain ⟨cf, i, k, f, st, cell, h1, h2, h3, h4, h5, h6, h7⟩ := F
  refine ⟨cf, i, k, f, st, cell, h1, h2, h3, h4, K.2.1 st cell h5 (fun z => ?_), h6, h7⟩
  rw [q st z cell h5] at h6; cases h6
theorem Exa.nost {Cn : String} (F : Exa Z h a Cn) : ∀ c : Cell, h[a]? = some c → c.vm.isStatics = false := fun c hc => by
  obtain ⟨cell, k, h1, -, -, h4, -⟩ := F
  cases hc.symm.trans h1; exact h4
theorem Arf.nost (F : Arf Z h a ty n f) : ∀ c : Cell, h[a]? = some c → c.vm.isStatics = false := fun c hc => by
  obtain ⟨cell, A, -⟩ := F
  cases hc.symm.trans A.1; exact A.plain
end Arrays
section Steps
variable {C : Cx} {R : Room} {Z : State} {n0 : Nat} {own nm : String} {ret : Option FieldType} {bytes : ByteArray} {mx : Nat} {h : Heap} {cells slots pc : Nat} {L : Array Slot} {S : List Value}

theorem Run.iloadN {k : Fin 4} {v : Int32} (K : Run C R Z n0 own nm ret bytes mx h cells slots pc L S) (hd : decode bytes pc = .ok (.iload_n k, 1)) (hl : L[k.val]? = some (.val (.int v))) : Run C R Z n0 own nm ret bytes mx h cells slots (pc + 1) L (.int v :: S) := by
  obtain ⟨hx, hby, hml, hown, hZ, hnm, hrt, hlk, T, locs, X, N, eT, st⟩ := K
  exact ⟨hx, hby, hml, hown, hZ, hnm, hrt, hlk, T, locs, X, N, eT, fun t kt => st t (XS.iloadN X.here hx rfl (hb hby hd) hl kt)⟩
theorem Run.iload {k : Nat} {v : Int32} (K : Run C R Z n0 own nm ret bytes mx h cells slots pc L S) (hd : decode bytes pc = .ok (.iload k, 2)) (hl : L[k]? = some (.val (.int v))) : Run C R Z n0 own nm ret bytes mx h cells slots (pc + 2) L (.int v :: S) := by
  obtain ⟨hx, hby, hml, hown, hZ, hnm, hrt, hlk, T, locs, X, N, eT, st⟩ := K
  exact ⟨hx, hby, hml, hown, hZ, hnm, hrt, hlk, T, locs, X, N, eT, fun t kt => st t (XS.iload X.here hx rfl (hb hby hd) hl kt)⟩
theorem Run.lloadN {k : Fin 4} {v : Int64} (K : Run C R Z n0 own nm ret bytes mx h cells slots pc L S) (hd : decode bytes pc = .ok (.lload_n k, 1)) (hl : L[k.val]? = some (.val (.long v))) : Run C R Z n0 own nm ret bytes mx h cells slots (pc + 1) L (.long v :: S) := by
  obtain ⟨hx, hby, hml, hown, hZ, hnm, hrt, hlk, T, locs, X, N, eT, st⟩ := K
  exact ⟨hx, hby, hml, hown, hZ, hnm, hrt, hlk, T, locs, X, N, eT, fun t kt => st t (XS.lloadN X.here hx rfl (hb hby hd) hl kt)⟩
theorem Run.lload {k : Nat} {v : Int64} (K : Run C R Z n0 own nm ret bytes mx h cells slots pc L S) (hd : decode bytes pc = .ok (.lload k, 2)) (hl : L[k]? = some (.val (.long v))) : Run C R Z n0 own nm ret bytes mx h cells slots (pc + 2) L (.long v :: S) := by
  obtain ⟨hx, hby, hml, hown, hZ, hnm, hrt, hlk, T, locs, X, N, eT, st⟩ := K
  exact ⟨hx, hby, hml, hown, hZ, hnm, hrt, hlk, T, locs, X, N, eT, fun t kt => st t (XS.lload X.here hx rfl (hb hby hd) hl kt)⟩
theorem Run.aloadN {k : Fin 4} {v : Value} (K : Run C R Z n0 own nm ret bytes mx h cells slots pc L S) (hd : decode bytes pc = .ok (.aload_n k, 1)) (hl : L[k.val]? = some (.val v)) (hv : v.isRef = true) : Run C R Z n0 own nm ret bytes mx h cells slots (pc + 1) L (v :: S) := by
  obtain ⟨hx, hby, hml, hown, hZ, hnm, hrt, hlk, T, locs, X, N, eT, st⟩ := K
  exact ⟨hx, hby, hml, hown, hZ, hnm, hrt, hlk, T, locs, X, N, eT, fun t kt => st t (XS.aloadN X.here hx rfl (hb hby hd) hl hv kt)⟩
theorem Run.aload {k : Nat} {v : Value} (K : Run C R Z n0 own nm ret bytes mx h cells slots pc L S) (hd : decode bytes pc = .ok (.aload k, 2)) (hl : L[k]? = some (.val v)) (hv : v.isRef = true) : Run C R Z n0 own nm ret bytes mx h cells slots (pc + 2) L (v :: S) := by
  obtain ⟨hx, hby, hml, hown, hZ, hnm, hrt, hlk, T, locs, X, N, eT, st⟩ := K
  exact ⟨hx, hby, hml, hown, hZ, hnm, hrt, hlk, T, locs, X, N, eT, fun t kt => st t (XS.aload X.here hx rfl (hb hby hd) hl hv kt)⟩
theorem Run.istoreN {k : Fin 4} {v : Int32} (l' : Array Slot) (K : Run C R Z n0 own nm ret bytes mx h cells slots pc L (.int v :: S)) (hd : decode bytes pc = .ok (.istore_n k, 1)) (hl : storeLocals L k.val (.int v) = some l') : Run C R Z n0 own nm ret bytes mx h cells slots (pc + 1) l' S := by
  obtain ⟨hx, hby, hml, hown, hZ, hnm, hrt, hlk, T, locs, X, N, eT, st⟩ := K
  exact ⟨hx, hby, hml, hown, hZ, hnm, hrt, hlk, T, locs, X, N, eT, fun t kt => st t (XS.istoreN X.here hx rfl (hb hby hd) rfl hl kt)⟩
theorem Run.istore {k : Nat} {v : Int32} (l' : Array Slot) (K : Run C R Z n0 own nm ret bytes mx h cells slots pc L (.int v :: S)) (hd : decode bytes pc = .ok (.istore k, 2)) (hl : storeLocals L k (.int v) = some l') : Run C R Z n0 own nm ret bytes mx h cells slots (pc + 2) l' S := by
  obtain ⟨hx, hby, hml, hown, hZ, hnm, hrt, hlk, T, locs, X, N, eT, st⟩ := K
  exact ⟨hx, hby, hml, hown, hZ, hnm, hrt, hlk, T, locs, X, N, eT, fun t kt => st t (XS.istore X.here hx rfl (hb hby hd) rfl hl kt)⟩
theorem Run.lstoreN {k : Fin 4} {v : Int64} (l' : Array Slot) (K : Run C R Z n0 own nm ret bytes mx h cells slots pc L (.long v :: S)) (hd : decode bytes pc = .ok (.lstore_n k, 1)) (hl : storeLocals L k.val (.long v) = some l') : Run C R Z n0 own nm ret bytes mx h cells slots (pc + 1) l' S := by
  obtain ⟨hx, hby, hml, hown, hZ, hnm, hrt, hlk, T, locs, X, N, eT, st⟩ := K
  exact ⟨hx, hby, hml, hown, hZ, hnm, hrt, hlk, T, locs, X, N, eT, fun t kt => st t (XS.lstoreN X.here hx rfl (hb hby hd) rfl hl kt)⟩
theorem Run.lstore {k : Nat} {v : Int64} (l' : Array Slot) (K : Run C R Z n0 own nm ret bytes mx h cells slots pc L (.long v :: S)) (hd : decode bytes pc = .ok (.lstore k, 2)) (hl : storeLocals L k (.long v) = some l') : Run C R Z n0 own nm ret bytes mx h cells slots (pc + 2) l' S := by
  obtain ⟨hx, hby, hml, hown, hZ, hnm, hrt, hlk, T, locs, X, N, eT, st⟩ := K
  exact ⟨hx, hby, hml, hown, hZ, hnm, hrt, hlk, T, locs, X, N, eT, fun t kt => st t (XS.lstore X.here hx rfl (hb hby hd) rfl hl kt)⟩
theorem Run.astoreN {k : Fin 4} {v : Value} (l' : Array Slot) (K : Run C R Z n0 own nm ret bytes mx h cells slots pc L (v :: S)) (hd : decode bytes pc = .ok (.astore_n k, 1)) (hv : v.isRef = true) (hl : storeLocals L k.val v = some l') : Run C R Z n0 own nm ret bytes mx h cells slots (pc + 1) l' S := by
  obtain ⟨hx, hby, hml, hown, hZ, hnm, hrt, hlk, T, locs, X, N, eT, st⟩ := K
  exact ⟨hx, hby, hml, hown, hZ, hnm, hrt, hlk, T, locs, X, N, eT, fun t kt => st t (XS.astoreN X.here hx rfl (hb hby hd) rfl hv hl kt)⟩
theorem Run.astore {k : Nat} {v : Value} (l' : Array Slot) (K : Run C R Z n0 own nm ret bytes mx h cells slots pc L (v :: S)) (hd : decode bytes pc = .ok (.astore k, 2)) (hv : v.isRef = true) (hl : storeLocals L k v = some l') : Run C R Z n0 own nm ret bytes mx h cells slots (pc + 2) l' S := by
  obtain ⟨hx, hby, hml, hown, hZ, hnm, hrt, hlk, T, locs, X, N, eT, st⟩ := K
  exact ⟨hx, hby, hml, hown, hZ, hnm, hrt, hlk, T, locs, X, N, eT, fun t kt => st t (XS.astore X.here hx rfl (hb hby hd) rfl hv hl kt)⟩
theorem Run.iconst {i : Int} (z : Int32) (K : Run C R Z n0 own nm ret bytes mx h cells slots pc L S) (hd : decode bytes pc = .ok (.iconst i, 1)) (hz : Int32.ofInt i = z) : Run C R Z n0 own nm ret bytes mx h cells slots (pc + 1) L (.int z :: S) := by
  obtain ⟨hx, hby, hml, hown, hZ, hnm, hrt, hlk, T, locs, X, N, eT, st⟩ := K
  exact ⟨hx, hby, hml, hown, hZ, hnm, hrt, hlk, T, locs, X, N, eT, fun t kt => st t (XS.iconst X.here hx rfl (hb hby hd) (by rw [hz]; exact kt))⟩
theorem Run.bipush {i : Int} (z : Int32) (K : Run C R Z n0 own nm ret bytes mx h cells slots pc L S) (hd : decode bytes pc = .ok (.bipush i, 2)) (hz : (Int8.ofInt i).toInt32 = z) : Run C R Z n0 own nm ret bytes mx h cells slots (pc + 2) L (.int z :: S) := by
  obtain ⟨hx, hby, hml, hown, hZ, hnm, hrt, hlk, T, locs, X, N, eT, st⟩ := K
  exact ⟨hx, hby, hml, hown, hZ, hnm, hrt, hlk, T, locs, X, N, eT, fun t kt => st t (XS.bipush X.here hx rfl (hb hby hd) (by rw [hz]; exact kt))⟩
theorem Run.sipush {i : Int} (z : Int32) (K : Run C R Z n0 own nm ret bytes mx h cells slots pc L S) (hd : decode bytes pc = .ok (.sipush i, 3)) (hz : (Int16.ofInt i).toInt32 = z) : Run C R Z n0 own nm ret bytes mx h cells slots (pc + 3) L (.int z :: S) := by
  obtain ⟨hx, hby, hml, hown, hZ, hnm, hrt, hlk, T, locs, X, N, eT, st⟩ := K
  exact ⟨hx, hby, hml, hown, hZ, hnm, hrt, hlk, T, locs, X, N, eT, fun t kt => st t (XS.sipush X.here hx rfl (hb hby hd) (by rw [hz]; exact kt))⟩
theorem Run.lconst {i : Fin 2} (z : Int64) (K : Run C R Z n0 own nm ret bytes mx h cells slots pc L S) (hd : decode bytes pc = .ok (.lconst i, 1)) (hz : Int64.ofNat i = z) : Run C R Z n0 own nm ret bytes mx h cells slots (pc + 1) L (.long z :: S) := by
  obtain ⟨hx, hby, hml, hown, hZ, hnm, hrt, hlk, T, locs, X, N, eT, st⟩ := K
  exact ⟨hx, hby, hml, hown, hZ, hnm, hrt, hlk, T, locs, X, N, eT, fun t kt => st t (XS.lconst X.here hx rfl (hb hby hd) (by rw [hz]; exact kt))⟩
theorem Run.aconstNull  (K : Run C R Z n0 own nm ret bytes mx h cells slots pc L S) (hd : decode bytes pc = .ok (.aconst_null, 1))  : Run C R Z n0 own nm ret bytes mx h cells slots (pc + 1) L (.null :: S) := by
  obtain ⟨hx, hby, hml, hown, hZ, hnm, hrt, hlk, T, locs, X, N, eT, st⟩ := K
  exact ⟨hx, hby, hml, hown, hZ, hnm, hrt, hlk, T, locs, X, N, eT, fun t kt => st t (XS.aconstNull X.here hx rfl (hb hby hd) kt)⟩
theorem Run.iadd {x y : Int32} (K : Run C R Z n0 own nm ret bytes mx h cells slots pc L (.int y :: .int x :: S)) (hd : decode bytes pc = .ok (.iadd, 1))  : Run C R Z n0 own nm ret bytes mx h cells slots (pc + 1) L (.int (x + y) :: S) := by
  obtain ⟨hx, hby, hml, hown, hZ, hnm, hrt, hlk, T, locs, X, N, eT, st⟩ := K
  exact ⟨hx, hby, hml, hown, hZ, hnm, hrt, hlk, T, locs, X, N, eT, fun t kt => st t (XS.iadd X.here hx rfl (hb hby hd) rfl kt)⟩
theorem Run.isub {x y : Int32} (K : Run C R Z n0 own nm ret bytes mx h cells slots pc L (.int y :: .int x :: S)) (hd : decode bytes pc = .ok (.isub, 1))  : Run C R Z n0 own nm ret bytes mx h cells slots (pc + 1) L (.int (x - y) :: S) := by
  obtain ⟨hx, hby, hml, hown, hZ, hnm, hrt, hlk, T, locs, X, N, eT, st⟩ := K
  exact ⟨hx, hby, hml, hown, hZ, hnm, hrt, hlk, T, locs, X, N, eT, fun t kt => st t (XS.isub X.here hx rfl (hb hby hd) rfl kt)⟩
theorem Run.imul {x y : Int32} (K : Run C R Z n0 own nm ret bytes mx h cells slots pc L (.int y :: .int x :: S)) (hd : decode bytes pc = .ok (.imul, 1))  : Run C R Z n0 own nm ret bytes mx h cells slots (pc + 1) L (.int (x * y) :: S) := by
  obtain ⟨hx, hby, hml, hown, hZ, hnm, hrt, hlk, T, locs, X, N, eT, st⟩ := K
  exact ⟨hx, hby, hml, hown, hZ, hnm, hrt, hlk, T, locs, X, N, eT, fun t kt => st t (XS.imul X.here hx rfl (hb hby hd) rfl kt)⟩
theorem Run.iand {x y : Int32} (K : Run C R Z n0 own nm ret bytes mx h cells slots pc L (.int y :: .int x :: S)) (hd : decode bytes pc = .ok (.iand, 1))  : Run C R Z n0 own nm ret bytes mx h cells slots (pc + 1) L (.int (x &&& y) :: S) := by
  obtain ⟨hx, hby, hml, hown, hZ, hnm, hrt, hlk, T, locs, X, N, eT, st⟩ := K
  exact ⟨hx, hby, hml, hown, hZ, hnm, hrt, hlk, T, locs, X, N, eT, fun t kt => st t (XS.iand X.here hx rfl (hb hby hd) rfl kt)⟩
theorem Run.ior {x y : Int32} (K : Run C R Z n0 own nm ret bytes mx h cells slots pc L (.int y :: .int x :: S)) (hd : decode bytes pc = .ok (.ior, 1))  : Run C R Z n0 own nm ret bytes mx h cells slots (pc + 1) L (.int (x ||| y) :: S) := by
  obtain ⟨hx, hby, hml, hown, hZ, hnm, hrt, hlk, T, locs, X, N, eT, st⟩ := K
  exact ⟨hx, hby, hml, hown, hZ, hnm, hrt, hlk, T, locs, X, N, eT, fun t kt => st t (XS.ior X.here hx rfl (hb hby hd) rfl kt)⟩
theorem Run.ixor {x y : Int32} (K : Run C R Z n0 own nm ret bytes mx h cells slots pc L (.int y :: .int x :: S)) (hd : decode bytes pc = .ok (.ixor, 1))  : Run C R Z n0 own nm ret bytes mx h cells slots (pc + 1) L (.int (x ^^^ y) :: S) := by
  obtain ⟨hx, hby, hml, hown, hZ, hnm, hrt, hlk, T, locs, X, N, eT, st⟩ := K
  exact ⟨hx, hby, hml, hown, hZ, hnm, hrt, hlk, T, locs, X, N, eT, fun t kt => st t (XS.ixor X.here hx rfl (hb hby hd) rfl kt)⟩
theorem Run.ishl {x y : Int32} (K : Run C R Z n0 own nm ret bytes mx h cells slots pc L (.int y :: .int x :: S)) (hd : decode bytes pc = .ok (.ishl, 1))  : Run C R Z n0 own nm ret bytes mx h cells slots (pc + 1) L (.int (x <<< (y &&& 31)) :: S) := by
  obtain ⟨hx, hby, hml, hown, hZ, hnm, hrt, hlk, T, locs, X, N, eT, st⟩ := K
  exact ⟨hx, hby, hml, hown, hZ, hnm, hrt, hlk, T, locs, X, N, eT, fun t kt => st t (XS.ishl X.here hx rfl (hb hby hd) rfl kt)⟩
theorem Run.ishr {x y : Int32} (K : Run C R Z n0 own nm ret bytes mx h cells slots pc L (.int y :: .int x :: S)) (hd : decode bytes pc = .ok (.ishr, 1))  : Run C R Z n0 own nm ret bytes mx h cells slots (pc + 1) L (.int (x >>> (y &&& 31)) :: S) := by
  obtain ⟨hx, hby, hml, hown, hZ, hnm, hrt, hlk, T, locs, X, N, eT, st⟩ := K
  exact ⟨hx, hby, hml, hown, hZ, hnm, hrt, hlk, T, locs, X, N, eT, fun t kt => st t (XS.ishr X.here hx rfl (hb hby hd) rfl kt)⟩
theorem Run.iushr {x y : Int32} (K : Run C R Z n0 own nm ret bytes mx h cells slots pc L (.int y :: .int x :: S)) (hd : decode bytes pc = .ok (.iushr, 1))  : Run C R Z n0 own nm ret bytes mx h cells slots (pc + 1) L (.int ((x.toUInt32 >>> (y &&& 31).toUInt32).toInt32) :: S) := by
  obtain ⟨hx, hby, hml, hown, hZ, hnm, hrt, hlk, T, locs, X, N, eT, st⟩ := K
  exact ⟨hx, hby, hml, hown, hZ, hnm, hrt, hlk, T, locs, X, N, eT, fun t kt => st t (XS.iushr X.here hx rfl (hb hby hd) rfl kt)⟩
theorem Run.irem {x y : Int32} (K : Run C R Z n0 own nm ret bytes mx h cells slots pc L (.int y :: .int x :: S)) (hd : decode bytes pc = .ok (.irem, 1)) (hy : y ≠ 0) : Run C R Z n0 own nm ret bytes mx h cells slots (pc + 1) L (.int (x % y) :: S) := by
  obtain ⟨hx, hby, hml, hown, hZ, hnm, hrt, hlk, T, locs, X, N, eT, st⟩ := K
  exact ⟨hx, hby, hml, hown, hZ, hnm, hrt, hlk, T, locs, X, N, eT, fun t kt => st t (iremM X hx rfl (hb hby hd) rfl hy kt)⟩
theorem Run.idiv {x y : Int32} (K : Run C R Z n0 own nm ret bytes mx h cells slots pc L (.int y :: .int x :: S)) (hd : decode bytes pc = .ok (.idiv, 1)) (hy : y ≠ 0) : Run C R Z n0 own nm ret bytes mx h cells slots (pc + 1) L (.int (x / y) :: S) := by
  obtain ⟨hx, hby, hml, hown, hZ, hnm, hrt, hlk, T, locs, X, N, eT, st⟩ := K
  exact ⟨hx, hby, hml, hown, hZ, hnm, hrt, hlk, T, locs, X, N, eT, fun t kt => st t (XS.idiv X.here hx rfl (hb hby hd) rfl hy kt)⟩
theorem Run.ineg {x : Int32} (K : Run C R Z n0 own nm ret bytes mx h cells slots pc L (.int x :: S)) (hd : decode bytes pc = .ok (.ineg, 1))  : Run C R Z n0 own nm ret bytes mx h cells slots (pc + 1) L (.int (-x) :: S) := by
  obtain ⟨hx, hby, hml, hown, hZ, hnm, hrt, hlk, T, locs, X, N, eT, st⟩ := K
  exact ⟨hx, hby, hml, hown, hZ, hnm, hrt, hlk, T, locs, X, N, eT, fun t kt => st t (XS.ineg X.here hx rfl (hb hby hd) rfl kt)⟩
theorem Run.ladd {x y : Int64} (K : Run C R Z n0 own nm ret bytes mx h cells slots pc L (.long y :: .long x :: S)) (hd : decode bytes pc = .ok (.ladd, 1))  : Run C R Z n0 own nm ret bytes mx h cells slots (pc + 1) L (.long (x + y) :: S) := by
  obtain ⟨hx, hby, hml, hown, hZ, hnm, hrt, hlk, T, locs, X, N, eT, st⟩ := K
  exact ⟨hx, hby, hml, hown, hZ, hnm, hrt, hlk, T, locs, X, N, eT, fun t kt => st t (XS.ladd X.here hx rfl (hb hby hd) rfl kt)⟩
theorem Run.lsub {x y : Int64} (K : Run C R Z n0 own nm ret bytes mx h cells slots pc L (.long y :: .long x :: S)) (hd : decode bytes pc = .ok (.lsub, 1))  : Run C R Z n0 own nm ret bytes mx h cells slots (pc + 1) L (.long (x - y) :: S) := by
  obtain ⟨hx, hby, hml, hown, hZ, hnm, hrt, hlk, T, locs, X, N, eT, st⟩ := K
  exact ⟨hx, hby, hml, hown, hZ, hnm, hrt, hlk, T, locs, X, N, eT, fun t kt => st t (XS.lsub X.here hx rfl (hb hby hd) rfl kt)⟩
theorem Run.lmul {x y : Int64} (K : Run C R Z n0 own nm ret bytes mx h cells slots pc L (.long y :: .long x :: S)) (hd : decode bytes pc = .ok (.lmul, 1))  : Run C R Z n0 own nm ret bytes mx h cells slots (pc + 1) L (.long (x * y) :: S) := by
  obtain ⟨hx, hby, hml, hown, hZ, hnm, hrt, hlk, T, locs, X, N, eT, st⟩ := K
  exact ⟨hx, hby, hml, hown, hZ, hnm, hrt, hlk, T, locs, X, N, eT, fun t kt => st t (XS.lmul X.here hx rfl (hb hby hd) rfl kt)⟩
theorem Run.land {x y : Int64} (K : Run C R Z n0 own nm ret bytes mx h cells slots pc L (.long y :: .long x :: S)) (hd : decode bytes pc = .ok (.land, 1))  : Run C R Z n0 own nm ret bytes mx h cells slots (pc + 1) L (.long (x &&& y) :: S) := by
  obtain ⟨hx, hby, hml, hown, hZ, hnm, hrt, hlk, T, locs, X, N, eT, st⟩ := K
  exact ⟨hx, hby, hml, hown, hZ, hnm, hrt, hlk, T, locs, X, N, eT, fun t kt => st t (XS.land X.here hx rfl (hb hby hd) rfl kt)⟩
theorem Run.lor {x y : Int64} (K : Run C R Z n0 own nm ret bytes mx h cells slots pc L (.long y :: .long x :: S)) (hd : decode bytes pc = .ok (.lor, 1))  : Run C R Z n0 own nm ret bytes mx h cells slots (pc + 1) L (.long (x ||| y) :: S) := by
  obtain ⟨hx, hby, hml, hown, hZ, hnm, hrt, hlk, T, locs, X, N, eT, st⟩ := K
  exact ⟨hx, hby, hml, hown, hZ, hnm, hrt, hlk, T, locs, X, N, eT, fun t kt => st t (XS.lor X.here hx rfl (hb hby hd) rfl kt)⟩
theorem Run.lxor {x y : Int64} (K : Run C R Z n0 own nm ret bytes mx h cells slots pc L (.long y :: .long x :: S)) (hd : decode bytes pc = .ok (.lxor, 1))  : Run C R Z n0 own nm ret bytes mx h cells slots (pc + 1) L (.long (x ^^^ y) :: S) := by
  obtain ⟨hx, hby, hml, hown, hZ, hnm, hrt, hlk, T, locs, X, N, eT, st⟩ := K
  exact ⟨hx, hby, hml, hown, hZ, hnm, hrt, hlk, T, locs, X, N, eT, fun t kt => st t (XS.lxor X.here hx rfl (hb hby hd) rfl kt)⟩
theorem Run.lcmp {x y : Int64} (K : Run C R Z n0 own nm ret bytes mx h cells slots pc L (.long y :: .long x :: S)) (hd : decode bytes pc = .ok (.lcmp, 1))  : Run C R Z n0 own nm ret bytes mx h cells slots (pc + 1) L (.int (lcmpW x y) :: S) := by
  obtain ⟨hx, hby, hml, hown, hZ, hnm, hrt, hlk, T, locs, X, N, eT, st⟩ := K
  exact ⟨hx, hby, hml, hown, hZ, hnm, hrt, hlk, T, locs, X, N, eT, fun t kt => st t (XS.lcmp X.here hx rfl (hb hby hd) rfl kt)⟩
theorem Run.lushr {x : Int64} {y : Int32} (K : Run C R Z n0 own nm ret bytes mx h cells slots pc L (.int y :: .long x :: S)) (hd : decode bytes pc = .ok (.lushr, 1))  : Run C R Z n0 own nm ret bytes mx h cells slots (pc + 1) L (.long ((x.toUInt64 >>> (y &&& 0x3f).toInt64.toUInt64).toInt64) :: S) := by
  obtain ⟨hx, hby, hml, hown, hZ, hnm, hrt, hlk, T, locs, X, N, eT, st⟩ := K
  exact ⟨hx, hby, hml, hown, hZ, hnm, hrt, hlk, T, locs, X, N, eT, fun t kt => st t (XS.lushr X.here hx rfl (hb hby hd) rfl kt)⟩
theorem Run.lshr {x : Int64} {y : Int32} (K : Run C R Z n0 own nm ret bytes mx h cells slots pc L (.int y :: .long x :: S)) (hd : decode bytes pc = .ok (.lshr, 1))  : Run C R Z n0 own nm ret bytes mx h cells slots (pc + 1) L (.long (x >>> (y &&& 0x3f).toInt64) :: S) := by
  obtain ⟨hx, hby, hml, hown, hZ, hnm, hrt, hlk, T, locs, X, N, eT, st⟩ := K
  exact ⟨hx, hby, hml, hown, hZ, hnm, hrt, hlk, T, locs, X, N, eT, fun t kt => st t (XS.lshr X.here hx rfl (hb hby hd) rfl kt)⟩
theorem Run.lshl {x : Int64} {y : Int32} (K : Run C R Z n0 own nm ret bytes mx h cells slots pc L (.int y :: .long x :: S)) (hd : decode bytes pc = .ok (.lshl, 1))  : Run C R Z n0 own nm ret bytes mx h cells slots (pc + 1) L (.long (x <<< (y &&& 0x3f).toInt64) :: S) := by
  obtain ⟨hx, hby, hml, hown, hZ, hnm, hrt, hlk, T, locs, X, N, eT, st⟩ := K
  exact ⟨hx, hby, hml, hown, hZ, hnm, hrt, hlk, T, locs, X, N, eT, fun t kt => st t (XS.lshl X.here hx rfl (hb hby hd) rfl kt)⟩
theorem Run.i2l {x : Int32} (K : Run C R Z n0 own nm ret bytes mx h cells slots pc L (.int x :: S)) (hd : decode bytes pc = .ok (.i2l, 1))  : Run C R Z n0 own nm ret bytes mx h cells slots (pc + 1) L (.long (x.toInt64) :: S) := by
  obtain ⟨hx, hby, hml, hown, hZ, hnm, hrt, hlk, T, locs, X, N, eT, st⟩ := K
  exact ⟨hx, hby, hml, hown, hZ, hnm, hrt, hlk, T, locs, X, N, eT, fun t kt => st t (XS.i2l X.here hx rfl (hb hby hd) rfl kt)⟩
theorem Run.l2i {x : Int64} (K : Run C R Z n0 own nm ret bytes mx h cells slots pc L (.long x :: S)) (hd : decode bytes pc = .ok (.l2i, 1))  : Run C R Z n0 own nm ret bytes mx h cells slots (pc + 1) L (.int (x.toInt32) :: S) := by
  obtain ⟨hx, hby, hml, hown, hZ, hnm, hrt, hlk, T, locs, X, N, eT, st⟩ := K
  exact ⟨hx, hby, hml, hown, hZ, hnm, hrt, hlk, T, locs, X, N, eT, fun t kt => st t (XS.l2i X.here hx rfl (hb hby hd) rfl kt)⟩
theorem Run.i2b {x : Int32} (K : Run C R Z n0 own nm ret bytes mx h cells slots pc L (.int x :: S)) (hd : decode bytes pc = .ok (.i2b, 1))  : Run C R Z n0 own nm ret bytes mx h cells slots (pc + 1) L (.int (x.toInt8.toInt32) :: S) := by
  obtain ⟨hx, hby, hml, hown, hZ, hnm, hrt, hlk, T, locs, X, N, eT, st⟩ := K
  exact ⟨hx, hby, hml, hown, hZ, hnm, hrt, hlk, T, locs, X, N, eT, fun t kt => st t (XS.i2b X.here hx rfl (hb hby hd) rfl kt)⟩
theorem Run.i2s {x : Int32} (K : Run C R Z n0 own nm ret bytes mx h cells slots pc L (.int x :: S)) (hd : decode bytes pc = .ok (.i2s, 1))  : Run C R Z n0 own nm ret bytes mx h cells slots (pc + 1) L (.int (x.toInt16.toInt32) :: S) := by
  obtain ⟨hx, hby, hml, hown, hZ, hnm, hrt, hlk, T, locs, X, N, eT, st⟩ := K
  exact ⟨hx, hby, hml, hown, hZ, hnm, hrt, hlk, T, locs, X, N, eT, fun t kt => st t (XS.i2s X.here hx rfl (hb hby hd) rfl kt)⟩
theorem Run.i2c {x : Int32} (K : Run C R Z n0 own nm ret bytes mx h cells slots pc L (.int x :: S)) (hd : decode bytes pc = .ok (.i2c, 1))  : Run C R Z n0 own nm ret bytes mx h cells slots (pc + 1) L (.int (x.toUInt32.toUInt16.toUInt32.toInt32) :: S) := by
  obtain ⟨hx, hby, hml, hown, hZ, hnm, hrt, hlk, T, locs, X, N, eT, st⟩ := K
  exact ⟨hx, hby, hml, hown, hZ, hnm, hrt, hlk, T, locs, X, N, eT, fun t kt => st t (XS.i2c X.here hx rfl (hb hby hd) rfl kt)⟩
theorem Run.iinc {k : Nat} {cst : Int} {x : Int32} (z : Int32) (l' : Array Slot) (K : Run C R Z n0 own nm ret bytes mx h cells slots pc L S) (hd : decode bytes pc = .ok (.iinc k cst, 3)) (hl : L[k]? = some (.val (.int x))) (hz : Int32.ofInt cst = z) (hl' : storeLocals L k (.int (x + z)) = some l') : Run C R Z n0 own nm ret bytes mx h cells slots (pc + 3) l' S := by
  obtain ⟨hx, hby, hml, hown, hZ, hnm, hrt, hlk, T, locs, X, N, eT, st⟩ := K
  exact ⟨hx, hby, hml, hown, hZ, hnm, hrt, hlk, T, locs, X, N, eT, fun t kt => st t (XS.iinc X.here hx rfl (hb hby hd) hl (by rw [hz]; exact hl') kt)⟩
theorem Run.dup {x : Value} (K : Run C R Z n0 own nm ret bytes mx h cells slots pc L (x :: S)) (hd : decode bytes pc = .ok (.dup, 1)) (hc : x.category = 1) : Run C R Z n0 own nm ret bytes mx h cells slots (pc + 1) L (x :: x :: S) := by
  obtain ⟨hx, hby, hml, hown, hZ, hnm, hrt, hlk, T, locs, X, N, eT, st⟩ := K
  exact ⟨hx, hby, hml, hown, hZ, hnm, hrt, hlk, T, locs, X, N, eT, fun t kt => st t (XS.dup X.here hx rfl (hb hby hd) rfl hc kt)⟩
theorem Run.dupX1 {x y : Value} (K : Run C R Z n0 own nm ret bytes mx h cells slots pc L (x :: y :: S)) (hd : decode bytes pc = .ok (.dup_x1, 1)) (hc : x.category = 1) (hc' : y.category = 1) : Run C R Z n0 own nm ret bytes mx h cells slots (pc + 1) L (x :: y :: x :: S) := by
  obtain ⟨hx, hby, hml, hown, hZ, hnm, hrt, hlk, T, locs, X, N, eT, st⟩ := K
  exact ⟨hx, hby, hml, hown, hZ, hnm, hrt, hlk, T, locs, X, N, eT, fun t kt => st t (XS.dupX1 X.here hx rfl (hb hby hd) rfl hc hc' kt)⟩
theorem Run.pop {x : Value} (K : Run C R Z n0 own nm ret bytes mx h cells slots pc L (x :: S)) (hd : decode bytes pc = .ok (.pop, 1)) (hc : x.category = 1) : Run C R Z n0 own nm ret bytes mx h cells slots (pc + 1) L S := by
  obtain ⟨hx, hby, hml, hown, hZ, hnm, hrt, hlk, T, locs, X, N, eT, st⟩ := K
  exact ⟨hx, hby, hml, hown, hZ, hnm, hrt, hlk, T, locs, X, N, eT, fun t kt => st t (XS.pop X.here hx rfl (hb hby hd) rfl hc kt)⟩
theorem Run.goto {o : Int} {pc' : Nat} (K : Run C R Z n0 own nm ret bytes mx h cells slots pc L S) (hd : decode bytes pc = .ok (.goto o, 3)) (ho : 0 ≤ (pc : Int) + o) (hp : ((pc : Int) + o).toNat = pc') : Run C R Z n0 own nm ret bytes mx h cells slots pc' L S := by
  obtain ⟨hx, hby, hml, hown, hZ, hnm, hrt, hlk, T, locs, X, N, eT, st⟩ := K
  exact ⟨hx, hby, hml, hown, hZ, hnm, hrt, hlk, T, locs, X, N, eT, fun t kt => st t (XS.goto X.here hx rfl (pc0 := pc) rfl (hb hby hd) ho hp kt)⟩
theorem Run.ifYes {cd : ClassFile.Cond} {x : Int32} {o : Int} {pc' : Nat} (K : Run C R Z n0 own nm ret bytes mx h cells slots pc L (.int x :: S)) (hd : decode bytes pc = .ok (.ifCond cd o, 3)) (hc : if_icmp.holds cd x 0 = true) (ho : 0 ≤ (pc : Int) + o) (hp : ((pc : Int) + o).toNat = pc') : Run C R Z n0 own nm ret bytes mx h cells slots pc' L S := by
  obtain ⟨hx, hby, hml, hown, hZ, hnm, hrt, hlk, T, locs, X, N, eT, st⟩ := K
  exact ⟨hx, hby, hml, hown, hZ, hnm, hrt, hlk, T, locs, X, N, eT, fun t kt => st t (XS.ifYes X.here hx rfl (pc0 := pc) rfl (hb hby hd) rfl ((if0 _ _).trans hc) ho hp kt)⟩
theorem Run.ifNo {cd : ClassFile.Cond} {x : Int32} {o : Int} (K : Run C R Z n0 own nm ret bytes mx h cells slots pc L (.int x :: S)) (hd : decode bytes pc = .ok (.ifCond cd o, 3)) (hc : if_icmp.holds cd x 0 = false) : Run C R Z n0 own nm ret bytes mx h cells slots (pc + 3) L S := by
  obtain ⟨hx, hby, hml, hown, hZ, hnm, hrt, hlk, T, locs, X, N, eT, st⟩ := K
  exact ⟨hx, hby, hml, hown, hZ, hnm, hrt, hlk, T, locs, X, N, eT, fun t kt => st t (XS.ifNo X.here hx rfl (hb hby hd) rfl ((if0 _ _).trans hc) kt)⟩
theorem Run.icmpYes {cd : ClassFile.Cond} {x y : Int32} {o : Int} {pc' : Nat} (K : Run C R Z n0 own nm ret bytes mx h cells slots pc L (.int y :: .int x :: S)) (hd : decode bytes pc = .ok (.if_icmp cd o, 3)) (hc : if_icmp.holds cd x y = true) (ho : 0 ≤ (pc : Int) + o) (hp : ((pc : Int) + o).toNat = pc') : Run C R Z n0 own nm ret bytes mx h cells slots pc' L S := by
  obtain ⟨hx, hby, hml, hown, hZ, hnm, hrt, hlk, T, locs, X, N, eT, st⟩ := K
  exact ⟨hx, hby, hml, hown, hZ, hnm, hrt, hlk, T, locs, X, N, eT, fun t kt => st t (XS.icmpYes X.here hx rfl (pc0 := pc) rfl (hb hby hd) rfl hc ho hp kt)⟩
theorem Run.icmpNo {cd : ClassFile.Cond} {x y : Int32} {o : Int} (K : Run C R Z n0 own nm ret bytes mx h cells slots pc L (.int y :: .int x :: S)) (hd : decode bytes pc = .ok (.if_icmp cd o, 3)) (hc : if_icmp.holds cd x y = false) : Run C R Z n0 own nm ret bytes mx h cells slots (pc + 3) L S := by
  obtain ⟨hx, hby, hml, hown, hZ, hnm, hrt, hlk, T, locs, X, N, eT, st⟩ := K
  exact ⟨hx, hby, hml, hown, hZ, hnm, hrt, hlk, T, locs, X, N, eT, fun t kt => st t (XS.icmpNo X.here hx rfl (hb hby hd) rfl hc kt)⟩
theorem Run.ifnullYes {o : Int} {pc' : Nat} (K : Run C R Z n0 own nm ret bytes mx h cells slots pc L (.null :: S)) (hd : decode bytes pc = .ok (.ifnull o, 3)) (ho : 0 ≤ (pc : Int) + o) (hp : ((pc : Int) + o).toNat = pc') : Run C R Z n0 own nm ret bytes mx h cells slots pc' L S := by
  obtain ⟨hx, hby, hml, hown, hZ, hnm, hrt, hlk, T, locs, X, N, eT, st⟩ := K
  exact ⟨hx, hby, hml, hown, hZ, hnm, hrt, hlk, T, locs, X, N, eT, fun t kt => st t (XS.ifnullYes X.here hx rfl (pc0 := pc) rfl (hb hby hd) rfl ho hp kt)⟩
theorem Run.ifnullNo {o : Int} {b : Addr} (K : Run C R Z n0 own nm ret bytes mx h cells slots pc L (.ref b :: S)) (hd : decode bytes pc = .ok (.ifnull o, 3))  : Run C R Z n0 own nm ret bytes mx h cells slots (pc + 3) L S := by
  obtain ⟨hx, hby, hml, hown, hZ, hnm, hrt, hlk, T, locs, X, N, eT, st⟩ := K
  exact ⟨hx, hby, hml, hown, hZ, hnm, hrt, hlk, T, locs, X, N, eT, fun t kt => st t (XS.ifnullNo X.here hx rfl (hb hby hd) rfl kt)⟩
theorem Run.ifnonnullYes {o : Int} {b : Addr} {pc' : Nat} (K : Run C R Z n0 own nm ret bytes mx h cells slots pc L (.ref b :: S)) (hd : decode bytes pc = .ok (.ifnonnull o, 3)) (ho : 0 ≤ (pc : Int) + o) (hp : ((pc : Int) + o).toNat = pc') : Run C R Z n0 own nm ret bytes mx h cells slots pc' L S := by
  obtain ⟨hx, hby, hml, hown, hZ, hnm, hrt, hlk, T, locs, X, N, eT, st⟩ := K
  exact ⟨hx, hby, hml, hown, hZ, hnm, hrt, hlk, T, locs, X, N, eT, fun t kt => st t (XS.ifnonnullYes X.here hx rfl (pc0 := pc) rfl (hb hby hd) rfl ho hp kt)⟩
theorem Run.ifnonnullNo {o : Int} (K : Run C R Z n0 own nm ret bytes mx h cells slots pc L (.null :: S)) (hd : decode bytes pc = .ok (.ifnonnull o, 3))  : Run C R Z n0 own nm ret bytes mx h cells slots (pc + 3) L S := by
  obtain ⟨hx, hby, hml, hown, hZ, hnm, hrt, hlk, T, locs, X, N, eT, st⟩ := K
  exact ⟨hx, hby, hml, hown, hZ, hnm, hrt, hlk, T, locs, X, N, eT, fun t kt => st t (XS.ifnonnullNo X.here hx rfl (hb hby hd) rfl kt)⟩
theorem Run.acmpYes {cd : ClassFile.ACond} {x y : Value} {o : Int} {pc' : Nat} (K : Run C R Z n0 own nm ret bytes mx h cells slots pc L (y :: x :: S)) (hd : decode bytes pc = .ok (.if_acmp cd o, 3)) (h1 : x.isRef = true) (h2 : y.isRef = true) (hc : XT.acmp cd x y = true) (ho : 0 ≤ (pc : Int) + o) (hp : ((pc : Int) + o).toNat = pc') : Run C R Z n0 own nm ret bytes mx h cells slots pc' L S := by
  obtain ⟨hx, hby, hml, hown, hZ, hnm, hrt, hlk, T, locs, X, N, eT, st⟩ := K
  exact ⟨hx, hby, hml, hown, hZ, hnm, hrt, hlk, T, locs, X, N, eT, fun t kt => st t (XT.acmpYes X.here hx rfl (pc0 := pc) rfl (hb hby hd) rfl h1 h2 hc ho hp kt)⟩
theorem Run.acmpNo {cd : ClassFile.ACond} {x y : Value} {o : Int} (K : Run C R Z n0 own nm ret bytes mx h cells slots pc L (y :: x :: S)) (hd : decode bytes pc = .ok (.if_acmp cd o, 3)) (h1 : x.isRef = true) (h2 : y.isRef = true) (hc : XT.acmp cd x y = false) : Run C R Z n0 own nm ret bytes mx h cells slots (pc + 3) L S := by
  obtain ⟨hx, hby, hml, hown, hZ, hnm, hrt, hlk, T, locs, X, N, eT, st⟩ := K
  exact ⟨hx, hby, hml, hown, hZ, hnm, hrt, hlk, T, locs, X, N, eT, fun t kt => st t (XT.acmpNo X.here hx rfl (hb hby hd) rfl h1 h2 hc kt)⟩
theorem Run.dloadN {k : Fin 4} {v : UInt64} (K : Run C R Z n0 own nm ret bytes mx h cells slots pc L S) (hd : decode bytes pc = .ok (.dload_n k, 1)) (hl : L[k.val]? = some (.val (.double v))) : Run C R Z n0 own nm ret bytes mx h cells slots (pc + 1) L (.double v :: S) := by
  obtain ⟨hx, hby, hml, hown, hZ, hnm, hrt, hlk, T, locs, X, N, eT, st⟩ := K
  exact ⟨hx, hby, hml, hown, hZ, hnm, hrt, hlk, T, locs, X, N, eT, fun t kt => st t (XS.dloadN X.here hx rfl (hb hby hd) hl kt)⟩
theorem Run.dload {k : Nat} {v : UInt64} (K : Run C R Z n0 own nm ret bytes mx h cells slots pc L S) (hd : decode bytes pc = .ok (.dload k, 2)) (hl : L[k]? = some (.val (.double v))) : Run C R Z n0 own nm ret bytes mx h cells slots (pc + 2) L (.double v :: S) := by
  obtain ⟨hx, hby, hml, hown, hZ, hnm, hrt, hlk, T, locs, X, N, eT, st⟩ := K
  exact ⟨hx, hby, hml, hown, hZ, hnm, hrt, hlk, T, locs, X, N, eT, fun t kt => st t (XS.dload X.here hx rfl (hb hby hd) hl kt)⟩
theorem Run.dstoreN {k : Fin 4} {v : UInt64} (l' : Array Slot) (K : Run C R Z n0 own nm ret bytes mx h cells slots pc L (.double v :: S)) (hd : decode bytes pc = .ok (.dstore_n k, 1)) (hl : storeLocals L k.val (.double v) = some l') : Run C R Z n0 own nm ret bytes mx h cells slots (pc + 1) l' S := by
  obtain ⟨hx, hby, hml, hown, hZ, hnm, hrt, hlk, T, locs, X, N, eT, st⟩ := K
  exact ⟨hx, hby, hml, hown, hZ, hnm, hrt, hlk, T, locs, X, N, eT, fun t kt => st t (XS.dstoreN X.here hx rfl (hb hby hd) rfl hl kt)⟩
theorem Run.dstore {k : Nat} {v : UInt64} (l' : Array Slot) (K : Run C R Z n0 own nm ret bytes mx h cells slots pc L (.double v :: S)) (hd : decode bytes pc = .ok (.dstore k, 2)) (hl : storeLocals L k (.double v) = some l') : Run C R Z n0 own nm ret bytes mx h cells slots (pc + 2) l' S := by
  obtain ⟨hx, hby, hml, hown, hZ, hnm, hrt, hlk, T, locs, X, N, eT, st⟩ := K
  exact ⟨hx, hby, hml, hown, hZ, hnm, hrt, hlk, T, locs, X, N, eT, fun t kt => st t (XS.dstore X.here hx rfl (hb hby hd) rfl hl kt)⟩
theorem Run.dconst0 (z : UInt64) (K : Run C R Z n0 own nm ret bytes mx h cells slots pc L S) (hd : decode bytes pc = .ok (.dconst 0, 1)) (hz : FP.dconst0 = z) : Run C R Z n0 own nm ret bytes mx h cells slots (pc + 1) L (.double z :: S) := by
  obtain ⟨hx, hby, hml, hown, hZ, hnm, hrt, hlk, T, locs, X, N, eT, st⟩ := K
  exact ⟨hx, hby, hml, hown, hZ, hnm, hrt, hlk, T, locs, X, N, eT, fun t kt => st t (XS.dconst0 X.here hx rfl (hb hby hd) hz kt)⟩
theorem Run.i2d {x : Int32} (z : UInt64) (K : Run C R Z n0 own nm ret bytes mx h cells slots pc L (.int x :: S)) (hd : decode bytes pc = .ok (.i2d, 1)) (hz : FP.i2d x = z) : Run C R Z n0 own nm ret bytes mx h cells slots (pc + 1) L (.double z :: S) := by
  obtain ⟨hx, hby, hml, hown, hZ, hnm, hrt, hlk, T, locs, X, N, eT, st⟩ := K
  exact ⟨hx, hby, hml, hown, hZ, hnm, hrt, hlk, T, locs, X, N, eT, fun t kt => st t (XS.i2dS X.here hx rfl (hb hby hd) rfl hz kt)⟩
theorem Run.l2d {x : Int64} (z : UInt64) (K : Run C R Z n0 own nm ret bytes mx h cells slots pc L (.long x :: S)) (hd : decode bytes pc = .ok (.l2d, 1)) (hz : FP.l2d x = z) : Run C R Z n0 own nm ret bytes mx h cells slots (pc + 1) L (.double z :: S) := by
  obtain ⟨hx, hby, hml, hown, hZ, hnm, hrt, hlk, T, locs, X, N, eT, st⟩ := K
  exact ⟨hx, hby, hml, hown, hZ, hnm, hrt, hlk, T, locs, X, N, eT, fun t kt => st t (XS.l2dS X.here hx rfl (hb hby hd) rfl hz kt)⟩
theorem Run.dadd {x y : UInt64} (z : UInt64) (K : Run C R Z n0 own nm ret bytes mx h cells slots pc L (.double y :: .double x :: S)) (hd : decode bytes pc = .ok (.dadd, 1)) (hn : Jvm.Free.Fl.NoNaN64 (FP.dadd x y)) (hz : FP.dadd x y = z) : Run C R Z n0 own nm ret bytes mx h cells slots (pc + 1) L (.double z :: S) := by
  obtain ⟨hx, hby, hml, hown, hZ, hnm, hrt, hlk, T, locs, X, N, eT, st⟩ := K
  exact ⟨hx, hby, hml, hown, hZ, hnm, hrt, hlk, T, locs, X, N, eT, fun t kt => st t (XS.daddS X.here hx rfl (hb hby hd) rfl hn hz kt)⟩
theorem Run.ddiv {x y : UInt64} (z : UInt64) (K : Run C R Z n0 own nm ret bytes mx h cells slots pc L (.double y :: .double x :: S)) (hd : decode bytes pc = .ok (.ddiv, 1)) (hn : Jvm.Free.Fl.NoNaN64 (FP.ddiv x y)) (hz : FP.ddiv x y = z) : Run C R Z n0 own nm ret bytes mx h cells slots (pc + 1) L (.double z :: S) := by
  obtain ⟨hx, hby, hml, hown, hZ, hnm, hrt, hlk, T, locs, X, N, eT, st⟩ := K
  exact ⟨hx, hby, hml, hown, hZ, hnm, hrt, hlk, T, locs, X, N, eT, fun t kt => st t (XS.ddivS X.here hx rfl (hb hby hd) rfl hn hz kt)⟩
theorem Run.dcmp {o : CmpOp} {x y : UInt64} (z : Int32) (K : Run C R Z n0 own nm ret bytes mx h cells slots pc L (.double y :: .double x :: S)) (hd : decode bytes pc = .ok (.dcmp o, 1)) (hz : cmpValue (FP.dcmp x y) o = z) : Run C R Z n0 own nm ret bytes mx h cells slots (pc + 1) L (.int z :: S) := by
  obtain ⟨hx, hby, hml, hown, hZ, hnm, hrt, hlk, T, locs, X, N, eT, st⟩ := K
  exact ⟨hx, hby, hml, hown, hZ, hnm, hrt, hlk, T, locs, X, N, eT, fun t kt => st t (XS.dcmpS X.here hx rfl (hb hby hd) rfl hz kt)⟩
theorem Run.foldI {w : Int32} (K : Run C R Z n0 own nm ret bytes mx h cells slots pc L (.int w :: S)) (z : Int32) (q : w = z) : Run C R Z n0 own nm ret bytes mx h cells slots pc L (.int z :: S) := q ▸ K
theorem Run.foldJ {w : Int64} (K : Run C R Z n0 own nm ret bytes mx h cells slots pc L (.long w :: S)) (z : Int64) (q : w = z) : Run C R Z n0 own nm ret bytes mx h cells slots pc L (.long z :: S) := q ▸ K
theorem Run.stk (K : Run C R Z n0 own nm ret bytes mx h cells slots pc L S) (S' : List Value) (q : S = S') : Run C R Z n0 own nm ret bytes mx h cells slots pc L S' := q ▸ K
theorem Run.loc (K : Run C R Z n0 own nm ret bytes mx h cells slots pc L S) (L' : Array Slot) (q : L = L') : Run C R Z n0 own nm ret bytes mx h cells slots pc L' S := q ▸ K
theorem Run.atpc (K : Run C R Z n0 own nm ret bytes mx h cells slots pc L S) (pc' : Nat) (q : pc = pc') : Run C R Z n0 own nm ret bytes mx h cells slots pc' L S := q ▸ K
theorem Run.ldcInt {a0 : Array Value} {index : Nat} {v : Int32} (K : Run C R Z n0 own nm ret bytes mx h cells slots pc L S) (hd : decode bytes pc = .ok (.ldc index, 2)) (w : (Jvm.Cond.constant own index v).before a0 Z = true) : Run C R Z n0 own nm ret bytes mx h cells slots (pc + 2) L (.int v :: S) := by
  obtain ⟨hx, hby, hml, hown, hZ, hnm, hrt, hlk, T, locs, X, N, eT, st⟩ := K
  exact ⟨hx, hby, hml, hown, hZ, hnm, hrt, hlk, T, locs, X, N, eT, fun t kt => st t (X.ldcInt hx hown (mvT hZ w) (g := mkF C.2.2.2.2.1 pc L S) rfl (hb hby hd) t kt)⟩
theorem Run.ldc2Long {a0 : Array Value} {index : Nat} {v : Int64} (K : Run C R Z n0 own nm ret bytes mx h cells slots pc L S) (hd : decode bytes pc = .ok (.ldc2_w index, 3)) (w : (Jvm.Cond.constantLong own index v).before a0 Z = true) : Run C R Z n0 own nm ret bytes mx h cells slots (pc + 3) L (.long v :: S) := by
  obtain ⟨hx, hby, hml, hown, hZ, hnm, hrt, hlk, T, locs, X, N, eT, st⟩ := K
  exact ⟨hx, hby, hml, hown, hZ, hnm, hrt, hlk, T, locs, X, N, eT, fun t kt => st t (X.ldc2Long hx hown (mvT hZ w) (g := mkF C.2.2.2.2.1 pc L S) rfl (hb hby hd) t kt)⟩
/-! returns -/
theorem Run.iret {z : Int32} {Q : Option Value → Heap → Prop} (K : Run C R Z n0 own nm ret bytes mx h cells slots pc L (.int z :: S)) (hd : decode bytes pc = .ok (.ireturn, 1)) {ty : FieldType} (hr : ret = some ty) (ht : ty = .int ∨ ty = .boolean ∨ ty = .byte ∨ ty = .char ∨ ty = .short) (hn : narrow ty (.int z) = .int z) (hQ : Q (some (.int z)) h) (hc : cells ≤ R.cells) (hs : slots ≤ R.slots) : Fini C R n0 Q := by
  obtain ⟨hx, hby, hml, hown, hZ, hnm, hrt, hlk, T, locs, X, N, eT, st⟩ := K
  obtain ⟨fs, hr', hrun, hended, hW, hsame⟩ := X.leave (v := some (.int z)) (fun q => by rw [hrt, hr] at q; cases q) hlk
  exact ⟨_, _, st _ (retOut X hx (hrt.trans hr) hn (Or.inl ⟨rfl, ht, _, rfl⟩) (hb hby hd) hr'), hrun, hended, _, _, rfl, ⟨by rw [show (T.setFrames fs).heap = T.heap from rfl, eT]; exact hQ, N⟩, ⟨_, rfl⟩, hW, hsame.mono hc hs⟩
theorem Run.lret {z : Int64} {Q : Option Value → Heap → Prop} (K : Run C R Z n0 own nm ret bytes mx h cells slots pc L (.long z :: S)) (hd : decode bytes pc = .ok (.lreturn, 1)) (hr : ret = some .long) (hQ : Q (some (.long z)) h) (hc : cells ≤ R.cells) (hs : slots ≤ R.slots) : Fini C R n0 Q := by
  obtain ⟨hx, hby, hml, hown, hZ, hnm, hrt, hlk, T, locs, X, N, eT, st⟩ := K
  obtain ⟨fs, hr', hrun, hended, hW, hsame⟩ := X.leave (v := some (.long z)) (fun q => by rw [hrt, hr] at q; cases q) hlk
  exact ⟨_, _, st _ (retOut X hx (hrt.trans hr) rfl (Or.inr (Or.inl ⟨rfl, rfl, _, rfl⟩)) (hb hby hd) hr'), hrun, hended, _, _, rfl, ⟨by rw [show (T.setFrames fs).heap = T.heap from rfl, eT]; exact hQ, N⟩, ⟨_, rfl⟩, hW, hsame.mono hc hs⟩
theorem Run.dret {z : UInt64} {Q : Option Value → Heap → Prop} (K : Run C R Z n0 own nm ret bytes mx h cells slots pc L (.double z :: S)) (hd : decode bytes pc = .ok (.dreturn, 1)) (hr : ret = some .double) (hQ : Q (some (.double z)) h) (hc : cells ≤ R.cells) (hs : slots ≤ R.slots) : Fini C R n0 Q := by
  obtain ⟨hx, hby, hml, hown, hZ, hnm, hrt, hlk, T, locs, X, N, eT, st⟩ := K
  obtain ⟨fs, hr', hrun, hended, hW, hsame⟩ := X.leave (v := some (.double z)) (fun q => by rw [hrt, hr] at q; cases q) hlk
  exact ⟨_, _, st _ (retOut X hx (hrt.trans hr) rfl (Or.inr (Or.inr (Or.inl ⟨rfl, rfl, _, rfl⟩))) (hb hby hd) hr'), hrun, hended, _, _, rfl, ⟨by rw [show (T.setFrames fs).heap = T.heap from rfl, eT]; exact hQ, N⟩, ⟨_, rfl⟩, hW, hsame.mono hc hs⟩
theorem Run.aret {w : Value} {Q : Option Value → Heap → Prop} (K : Run C R Z n0 own nm ret bytes mx h cells slots pc L (w :: S)) (hd : decode bytes pc = .ok (.areturn, 1)) {ty : FieldType} (hr : ret = some ty) (ht : ty.isReference = true) (hn : narrow ty w = w) (hw : w.isRef = true) (hQ : Q (some w) h) (hc : cells ≤ R.cells) (hs : slots ≤ R.slots) : Fini C R n0 Q := by
  obtain ⟨hx, hby, hml, hown, hZ, hnm, hrt, hlk, T, locs, X, N, eT, st⟩ := K
  obtain ⟨fs, hr', hrun, hended, hW, hsame⟩ := X.leave (v := some w) (fun q => by rw [hrt, hr] at q; cases q) hlk
  exact ⟨_, _, st _ (retOut X hx (hrt.trans hr) hn (Or.inr (Or.inr (Or.inr (Or.inr ⟨rfl, ht, hw⟩)))) (hb hby hd) hr'), hrun, hended, _, _, rfl, ⟨by rw [show (T.setFrames fs).heap = T.heap from rfl, eT]; exact hQ, N⟩, ⟨_, rfl⟩, hW, hsame.mono hc hs⟩
theorem Run.vret {Q : Option Value → Heap → Prop} (K : Run C R Z n0 own nm ret bytes mx h cells slots pc L []) (hd : decode bytes pc = .ok (.return_, 1)) (hr : ret = none) (hQ : Q none h) (hc : cells ≤ R.cells) (hs : slots ≤ R.slots) : Fini C R n0 Q := by
  obtain ⟨hx, hby, hml, hown, hZ, hnm, hrt, hlk, T, locs, X, N, eT, st⟩ := K
  obtain ⟨fs, hr', hrun, hended, hW, hsame⟩ := X.leave (v := none) (fun _ => rfl) hlk
  exact ⟨_, _, st _ (X.returnOut hx (hrt.trans hr) (hb hby hd) hr'), hrun, hended, _, _, rfl, ⟨by rw [show (T.setFrames fs).heap = T.heap from rfl, eT]; exact hQ, N⟩, ⟨_, rfl⟩, hW, hsame.mono hc hs⟩
/-! calls -/
theorem Run.callS {a0 : Array Value} {index : Nat} {y : MethodName} {by2 : ByteArray} {mx2 W : Nat} {rt2 : Option FieldType} {rm : Room} {argsL rest : List Value} {Q : Option Value → Heap → Prop} {ps : List FieldType} (K : Run C R Z n0 own nm ret bytes mx h cells slots pc L S) (hd : decode bytes pc = .ok (.invokestatic index, 3))
    (wl : (Jvm.Cond.methodLink own index y).before a0 Z = true) (wst : (Jvm.Cond.static y).before a0 Z = true) (wi : (Jvm.Cond.initialized y.cls).before a0 Z = true) (wc : (Jvm.Cond.code y by2 mx2 rt2).before a0 Z = true)
    (con : Con Z n0 y by2 mx2 rt2 [] rm argsL.toArray h Q) (hS : S = argsL.reverse ++ rest) (hpd : parseMethodDescriptor y.desc = some ⟨ps, rt2⟩) (hlen : argsL.length = ps.length) (hW : (rest.map fun v => v.category).sum = W) (hLs : L.size = mx)
    (hfr : rm.frames + 1 ≤ R.frames) (hlo : W + (mx2 + 11) + rm.locals ≤ R.locals) (hce : cells + rm.cells ≤ R.cells) (hsl : slots + rm.slots ≤ R.slots) (hy : y.cls ≠ "java/lang/invoke/MethodHandle" ∧ y.cls ≠ "java/lang/invoke/VarHandle") :
    ∃ v h', Q v h' ∧ Run C R Z n0 own nm ret bytes mx h' (cells + rm.cells) (slots + rm.slots) (pc + 3) L (v.toList ++ rest) := by
  obtain ⟨hx, hby, hml, hown, hZ, hnm, hrt, hlk, T, locs, X, N, eT, st⟩ := K
  obtain ⟨v, _, ⟨T', L', k', n'⟩, -, X', ⟨Lc, hQ, l1, y1, z1⟩, st'⟩ := Jvm.LawKit.callS X hx (y := y) hown (mvT hZ wl) (mvT hZ wst) (mvT hZ wi) (mvT hZ wc) hy (backOf (Q := fun v h L => Q v h ∧ Fr n0 L) (W := W) (con C.2.1) hZ wc wi hfr hlo) (g := mkF C.2.2.2.2.1 pc L S) rfl (by rw [hml]; exact hLs) (argsL := argsL) (rest := rest) (lenOf hpd hlen) hS (by show 2 * 0 + _ ≤ _; omega) (hb hby hd) (fun _ _ => ⟨rfl, eT, hce, hsl⟩)
  dsimp only [Pt.U, Pt.locs, Pt.cells, Pt.slots] at X' l1 y1 z1 st' hQ
  subst l1 y1 z1
  exact ⟨v, T'.heap, hQ.1, hx, hby, hml, hown, hZ, hnm, hrt, hlk, T', _, X', Fr.app N hQ.2, rfl, fun t kt => st t (st' t kt)⟩
theorem Run.callI {a0 : Array Value} {index : Nat} {y : MethodName} {by2 : ByteArray} {mx2 W : Nat} {rm : Room} {a : Addr} {argsL rest : List Value} {Q : Option Value → Heap → Prop} {ps : List FieldType} (K : Run C R Z n0 own nm ret bytes mx h cells slots pc L S) (hd : decode bytes pc = .ok (.invokespecial index, 3))
    (hy1 : y.name = "<init>") (wl : (Jvm.Cond.methodLink own index y).before a0 Z = true) (wst : (Jvm.Cond.instanceMethod y).before a0 Z = true) (wi : (Jvm.Cond.initialized y.cls).before a0 Z = true) (wc : (Jvm.Cond.code y by2 mx2 none).before a0 Z = true)
    (con : Con Z n0 y by2 mx2 none [] rm (.ref a :: argsL).toArray h Q) (hS : S = argsL.reverse ++ .ref a :: rest) (hpd : parseMethodDescriptor y.desc = some ⟨ps, none⟩) (hlen : argsL.length = ps.length) (hW : (rest.map fun v => v.category).sum = W) (hLs : L.size = mx)
    (hfr : rm.frames + 1 ≤ R.frames) (hlo : W + (mx2 + 11) + rm.locals ≤ R.locals) (hce : cells + rm.cells ≤ R.cells) (hsl : slots + rm.slots ≤ R.slots) (hy : y.cls ≠ "java/lang/invoke/MethodHandle" ∧ y.cls ≠ "java/lang/invoke/VarHandle") :
    ∃ v h', Q v h' ∧ Run C R Z n0 own nm ret bytes mx h' (cells + rm.cells) (slots + rm.slots) (pc + 3) L (v.toList ++ rest) := by
  obtain ⟨hx, hby, hml, hown, hZ, hnm, hrt, hlk, T, locs, X, N, eT, st⟩ := K
  obtain ⟨v, _, ⟨T', L', k', n'⟩, -, X', ⟨Lc, hQ, l1, y1, z1⟩, st'⟩ := X.specialBack hx (y := y) hy1 hown (mvT hZ wl) (mvT hZ wst) (mvT hZ wc) hy (backOf (Q := fun v h L => Q v h ∧ Fr n0 L) (W := W) (con C.2.1) hZ wc wi hfr hlo) (g := mkF C.2.2.2.2.1 pc L S) rfl (by rw [hml]; exact hLs) (Steps.refl _) (a := a) (argsL := argsL) (rest := rest) (lenOf hpd hlen) hS (by show 2 * 0 + _ ≤ _; omega) (hb hby hd) (fun _ _ => ⟨rfl, eT, hce, hsl⟩)
  dsimp only [Pt.U, Pt.locs, Pt.cells, Pt.slots] at X' l1 y1 z1 st' hQ
  subst l1 y1 z1
  exact ⟨v, T'.heap, hQ.1, hx, hby, hml, hown, hZ, hnm, hrt, hlk, T', _, X', Fr.app N hQ.2, rfl, fun t kt => st t (st'.trans kt)⟩
theorem Run.callV {a0 : Array Value} {index : Nat} {y z : MethodName} {Cl : String} {by2 : ByteArray} {mx2 W : Nat} {rt2 : Option FieldType} {rm : Room} {a : Addr} {argsL rest : List Value} {Q : Option Value → Heap → Prop} {ps : List FieldType} (K : Run C R Z n0 own nm ret bytes mx h cells slots pc L S) (hd : decode bytes pc = .ok (.invokevirtual index, 3))
    (wl : (Jvm.Cond.methodLink own index y).before a0 Z = true) (wd : (Jvm.Cond.declares y).before a0 Z = true) (nf : ∀ s : State, Z.Warmed39 s.vm → NotFace s y) (ws : (Jvm.Cond.selects Cl y z).before a0 Z = true) (wst : (Jvm.Cond.instanceMethod z).before a0 Z = true) (wi : (Jvm.Cond.initialized z.cls).before a0 Z = true) (wc : (Jvm.Cond.code z by2 mx2 rt2).before a0 Z = true)
    (E : Exa Z h a Cl) (con : Con Z n0 z by2 mx2 rt2 [] rm (.ref a :: argsL).toArray h Q) (hS : S = argsL.reverse ++ .ref a :: rest) (hpd : parseMethodDescriptor y.desc = some ⟨ps, rt2⟩) (hlen : argsL.length = ps.length) (hW : (rest.map fun v => v.category).sum = W) (hLs : L.size = mx)
    (hfr : rm.frames + 1 ≤ R.frames) (hlo : W + (mx2 + 11) + rm.locals ≤ R.locals) (hce : cells + rm.cells ≤ R.cells) (hsl : slots + rm.slots ≤ R.slots) (hy : y.cls ≠ "java/lang/invoke/MethodHandle" ∧ y.cls ≠ "java/lang/invoke/VarHandle") :
    ∃ v h', Q v h' ∧ Run C R Z n0 own nm ret bytes mx h' (cells + rm.cells) (slots + rm.slots) (pc + 3) L (v.toList ++ rest) := by
  obtain ⟨hx, hby, hml, hown, hZ, hnm, hrt, hlk, T, locs, X, N, eT, st⟩ := K
  obtain ⟨cq, kq, qa, qb, qc⟩ := isOf hZ eT E
  obtain ⟨v, _, ⟨T', L', k', n'⟩, -, X', ⟨Lc, hQ, l1, y1, z1⟩, st'⟩ := X.virtualBack hx (y := y) (z := z) hown (mvT hZ wl) (mvT hZ wd) (nf _ hZ) (mvT hZ ws) (mvT hZ wst) hy (backOf (Q := fun v h L => Q v h ∧ Fr n0 L) (W := W) (con C.2.1) hZ wc wi hfr hlo) qa qc (g := mkF C.2.2.2.2.1 pc L S) rfl (by rw [hml]; exact hLs) (Steps.refl _) (argsL := argsL) (rest := rest) (lenOf hpd hlen) hS (by show 2 * 0 + _ ≤ _; omega) (hb hby hd) (fun _ _ => ⟨rfl, eT, hce, hsl⟩)
  dsimp only [Pt.U, Pt.locs, Pt.cells, Pt.slots] at X' l1 y1 z1 st' hQ
  subst l1 y1 z1
  exact ⟨v, T'.heap, hQ.1, hx, hby, hml, hown, hZ, hnm, hrt, hlk, T', _, X', Fr.app N hQ.2, rfl, fun t kt => st t (st'.trans kt)⟩
/-! fields, statics, objects -/
theorem Run.getF {a0 : Array Value} {index : Nat} {R0 O n d host : String} {a : Addr} {v : Value} (K : Run C R Z n0 own nm ret bytes mx h cells slots pc L (.ref a :: S)) (hd : decode bytes pc = .ok (.getfield index, 3)) (w : (Jvm.Cond.fieldLink own index R0 n d).before a0 Z = true ∨ (Jvm.Cond.fieldLinkNest own index R0 n d host).before a0 Z = true) (via : Via Z R0 O n d) (F : Fld Z h a O n d v) :
    Run C R Z n0 own nm ret bytes mx h cells slots (pc + 3) L (v :: S) := by
  obtain ⟨hx, hby, hml, hown, hZ, hnm, hrt, hlk, T, locs, X, N, eT, st⟩ := K
  obtain ⟨T', X', e', st'⟩ := RoadKit.getF X hx hZ hown w via eT F (g := mkF C.2.2.2.2.1 pc L (.ref a :: S)) rfl rfl (hb hby hd)
  exact ⟨hx, hby, hml, hown, hZ, hnm, hrt, hlk, T', locs, X', N, e', fun t kt => st t (st' t kt)⟩
theorem Run.getS {a0 : Array Value} {index : Nat} {R0 O n d host : String} {v : Value} (K : Run C R Z n0 own nm ret bytes mx h cells slots pc L S) (hd : decode bytes pc = .ok (.getstatic index, 3)) (w : (Jvm.Cond.fieldLink own index R0 n d).before a0 Z = true ∨ (Jvm.Cond.fieldLinkNest own index R0 n d host).before a0 Z = true) (via : Via Z R0 O n d) (F : Sta Z h O n d v) :
    Run C R Z n0 own nm ret bytes mx h cells slots (pc + 3) L (v :: S) := by
  obtain ⟨hx, hby, hml, hown, hZ, hnm, hrt, hlk, T, locs, X, N, eT, st⟩ := K
  obtain ⟨T', X', e', st'⟩ := RoadKit.getS2 X hx hZ hown w via eT F (g := mkF C.2.2.2.2.1 pc L S) rfl (hb hby hd)
  exact ⟨hx, hby, hml, hown, hZ, hnm, hrt, hlk, T', locs, X', N, e', fun t kt => st t (st' t kt)⟩
theorem Run.putF {a0 : Array Value} {index kk : Nat} {R0 O n d host Cl : String} {ty : FieldType} {a : Addr} {v old : Value} (K : Run C R Z n0 own nm ret bytes mx h cells slots pc L (v :: .ref a :: S)) (hd : decode bytes pc = .ok (.putfield index, 3)) (w : (Jvm.Cond.fieldLink own index R0 n d).before a0 Z = true ∨ (Jvm.Cond.fieldLinkNest own index R0 n d host).before a0 Z = true) (via : Via Z R0 O n d)
    (F : Fld Z h a O n d old) (E : Exa Z h a Cl) (Lw : (Jvm.Cond.lays Cl O n d).before a0 Z = true ∨ ((Jvm.Cond.laysFinal Cl O n d).before a0 Z = true ∧ own = O ∧ nm = "<init>")) (wi : (Jvm.Cond.instantiable Cl kk).before a0 Z = true) (hty : parseFieldDescriptor d = some ty) (hn : narrow ty v = v) (hf : fits ty v = true) (ga : n0 ≤ a) :
    ∃ h', Wr h h' a (RoadKit.slotOf Z O n d) v ∧ Run C R Z n0 own nm ret bytes mx h' cells slots (pc + 3) L S := by
  obtain ⟨hx, hby, hml, hown, hZ, hnm, hrt, hlk, T, locs, X, N, eT, st⟩ := K
  obtain ⟨T', h', X', e', W', st'⟩ := RoadKit.putF X hx hZ hown w via eT F E (Lw.imp id fun q => ⟨q.1, q.2.1, hnm.trans q.2.2⟩) wi hty hn hf (g := mkF C.2.2.2.2.1 pc L (v :: .ref a :: S)) rfl rfl (hb hby hd)
  exact ⟨h', W', hx, hby, hml, hown, hZ, hnm, hrt, hlk, T', _, X', Fr.snoc X' N ga, e', fun t kt => st t (st' t kt)⟩
theorem Run.newO {a0 : Array Value} {index n : Nat} {Cl : String} (K : Run C R Z n0 own nm ret bytes mx h cells slots pc L S) (hd : decode bytes pc = .ok (.new index, 3)) (w : (Jvm.Cond.classLink own index Cl).before a0 Z = true) (wi : (Jvm.Cond.instantiable Cl n).before a0 Z = true) (wz : (Jvm.Cond.initialized Cl).before a0 Z = true) (hc : cells + 1 ≤ R.cells) (hl : slots + n ≤ R.slots) :
    ∃ (h' : Heap) (b : Addr), b = h.size ∧ Ext h h' ∧ Exa Z h' b Cl ∧ (∀ {O f d : String} {ty : FieldType}, Laid Z a0 Cl O f d → parseFieldDescriptor d = some ty → Fld Z h' b O f d (defaultValue ty)) ∧ Run C R Z n0 own nm ret bytes mx h' (cells + 1) (slots + n) (pc + 3) L (.ref b :: S) := by
  obtain ⟨hx, hby, hml, hown, hZ, hnm, hrt, hlk, T, locs, X, N, eT, st⟩ := K
  obtain ⟨T', h', X', e', E', A', D', -, st'⟩ := RoadKit.newO X hx hZ hown w wi wz eT (g := mkF C.2.2.2.2.1 pc L S) rfl (hb hby hd) hc hl
  exact ⟨h', _, rfl, E', A', D', hx, hby, hml, hown, hZ, hnm, hrt, hlk, T', _, X', N, e', fun t kt => st t (st' t kt)⟩
theorem Run.initO {a0 : Array Value} {index W : Nat} {a : Addr} (K : Run C R Z n0 own nm ret bytes mx h cells slots pc L (.ref a :: S)) (hd : decode bytes pc = .ok (.invokespecial index, 3)) (w1 : (Jvm.Cond.methodLink own index Lib.objectInit).before a0 Z = true) (w2 : (Jvm.Cond.instanceMethod Lib.objectInit).before a0 Z = true) (w3 : (Jvm.Cond.code Lib.objectInit ⟨#[0xb1]⟩ 1 none).before a0 Z = true) (hLs : L.size = mx) (hW : (S.map fun v => v.category).sum = W) (hf : 1 ≤ R.frames) (hl : W + 12 ≤ R.locals) :
    Run C R Z n0 own nm ret bytes mx h cells slots (pc + 3) L S := by
  obtain ⟨hx, hby, hml, hown, hZ, hnm, hrt, hlk, T, locs, X, N, eT, st⟩ := K
  obtain ⟨T', X', e', st'⟩ := RoadKit.initO X hx hZ hown w1 w2 w3 eT (g := mkF C.2.2.2.2.1 pc L (.ref a :: S)) rfl (by rw [hml]; exact hLs) rfl (hb hby hd) hf (W := W) (by show 2 * 0 + _ ≤ _; omega) hl
  exact ⟨hx, hby, hml, hown, hZ, hnm, hrt, hlk, T', locs, X', N, e', fun t kt => st t (st' t kt)⟩
theorem Run.castY {a0 : Array Value} {index : Nat} {Kl : String} {a : Addr} (K : Run C R Z n0 own nm ret bytes mx h cells slots pc L (.ref a :: S)) (hd : decode bytes pc = .ok (.checkcast index, 3)) (w : (Jvm.Cond.classLink own index Kl).before a0 Z = true) (F : Ins Z h a Kl true) : Run C R Z n0 own nm ret bytes mx h cells slots (pc + 3) L (.ref a :: S) := by
  obtain ⟨hx, hby, hml, hown, hZ, hnm, hrt, hlk, T, locs, X, N, eT, st⟩ := K
  obtain ⟨T', X', e', st'⟩ := RoadKit.castY X hx hZ hown w eT F (g := mkF C.2.2.2.2.1 pc L (.ref a :: S)) rfl rfl (hb hby hd)
  exact ⟨hx, hby, hml, hown, hZ, hnm, hrt, hlk, T', locs, X', N, e', fun t kt => st t (st' t kt)⟩
/-! arrays, by a function of the place -/
theorem Run.arrlen {a : Addr} {ty : FieldType} {n : Nat} {f : Nat → Value} (K : Run C R Z n0 own nm ret bytes mx h cells slots pc L (.ref a :: S)) (hd : decode bytes pc = .ok (.arraylength, 1)) (F : Arf Z h a ty n f) (z : Int32) (hz : n.toInt32 = z) : Run C R Z n0 own nm ret bytes mx h cells slots (pc + 1) L (.int z :: S) := by
  obtain ⟨hx, hby, hml, hown, hZ, hnm, hrt, hlk, T, locs, X, N, eT, st⟩ := K
  obtain ⟨cl, Ar, Sz, H⟩ := F
  subst hz Sz
  exact ⟨hx, hby, hml, hown, hZ, hnm, hrt, hlk, T, locs, X, N, eT, fun t kt => st t (X.arraylength hx (by rw [eT]; exact Ar.1) (State.isArrayOf_alike hZ.alike Ar.2.1) (g := mkF C.2.2.2.2.1 pc L (.ref a :: S)) rfl rfl (hb hby hd) t kt)⟩
theorem Run.iaload {a : Addr} {n : Nat} {f : Nat → Value} {j : Int32} (K : Run C R Z n0 own nm ret bytes mx h cells slots pc L (.int j :: .ref a :: S)) (hd : decode bytes pc = .ok (.iaload, 1)) (F : Arf Z h a .int n f) (i : Nat) (hj : j.toNatClampNeg = i) (h0 : ¬ j < 0) (hi : i < n) (v : Value) (hv : f i = v) : Run C R Z n0 own nm ret bytes mx h cells slots (pc + 1) L (v :: S) := by
  obtain ⟨hx, hby, hml, hown, hZ, hnm, hrt, hlk, T, locs, X, N, eT, st⟩ := K
  obtain ⟨cl, Ar, Sz, H⟩ := F
  subst hj hv Sz
  exact ⟨hx, hby, hml, hown, hZ, hnm, hrt, hlk, T, locs, X, N, eT, fun t kt => st t (X.iaload hx (j := j) (v := f j.toNatClampNeg) (by rw [eT]; exact Ar.1) (State.isArrayOf_alike hZ.alike Ar.2.1) Ar.2.2 (fun q => q.elim h0 (Nat.not_le.mpr hi)) (H _ hi) (g := mkF C.2.2.2.2.1 pc L (.int j :: .ref a :: S)) rfl rfl (hb hby hd) t kt)⟩
theorem Run.baload {a : Addr} {n : Nat} {f : Nat → Value} {j : Int32} (K : Run C R Z n0 own nm ret bytes mx h cells slots pc L (.int j :: .ref a :: S)) (hd : decode bytes pc = .ok (.baload, 1)) (F : Arf Z h a .byte n f) (i : Nat) (hj : j.toNatClampNeg = i) (h0 : ¬ j < 0) (hi : i < n) (v : Value) (hv : f i = v) : Run C R Z n0 own nm ret bytes mx h cells slots (pc + 1) L (v :: S) := by
  obtain ⟨hx, hby, hml, hown, hZ, hnm, hrt, hlk, T, locs, X, N, eT, st⟩ := K
  obtain ⟨cl, Ar, Sz, H⟩ := F
  subst hj hv Sz
  exact ⟨hx, hby, hml, hown, hZ, hnm, hrt, hlk, T, locs, X, N, eT, fun t kt => st t (X.baloadBytes hx (j := j) (v := f j.toNatClampNeg) (by rw [eT]; exact Ar.1) (State.isArrayOf_alike hZ.alike Ar.2.1) Ar.2.2 (fun q => q.elim h0 (Nat.not_le.mpr hi)) (H _ hi) (g := mkF C.2.2.2.2.1 pc L (.int j :: .ref a :: S)) rfl rfl (hb hby hd) t kt)⟩
theorem Run.aaload {a : Addr} {ty : FieldType} {n : Nat} {f : Nat → Value} {j : Int32} (K : Run C R Z n0 own nm ret bytes mx h cells slots pc L (.int j :: .ref a :: S)) (hd : decode bytes pc = .ok (.aaload, 1)) (F : Arf Z h a ty n f) (hty : ty.isReference = true) (i : Nat) (hj : j.toNatClampNeg = i) (h0 : ¬ j < 0) (hi : i < n) (v : Value) (hv : f i = v) : Run C R Z n0 own nm ret bytes mx h cells slots (pc + 1) L (v :: S) := by
  obtain ⟨hx, hby, hml, hown, hZ, hnm, hrt, hlk, T, locs, X, N, eT, st⟩ := K
  obtain ⟨cl, Ar, Sz, H⟩ := F
  subst hj hv Sz
  exact ⟨hx, hby, hml, hown, hZ, hnm, hrt, hlk, T, locs, X, N, eT, fun t kt => st t (X.aaload hx (j := j) (v := f j.toNatClampNeg) (by rw [eT]; exact Ar.1) (State.isArrayOf_alike hZ.alike Ar.2.1) hty Ar.2.2 (fun q => q.elim h0 (Nat.not_le.mpr hi)) (H _ hi) (g := mkF C.2.2.2.2.1 pc L (.int j :: .ref a :: S)) rfl rfl (hb hby hd) t kt)⟩
theorem Run.iastore {a : Addr} {n : Nat} {f : Nat → Value} {j x : Int32} (K : Run C R Z n0 own nm ret bytes mx h cells slots pc L (.int x :: .int j :: .ref a :: S)) (hd : decode bytes pc = .ok (.iastore, 1)) (F : Arf Z h a .int n f) (i : Nat) (hj : j.toNatClampNeg = i) (h0 : ¬ j < 0) (hi : i < n) (ga : n0 ≤ a) :
    ∃ h', Wr h h' a i (.int x) ∧ Arf Z h' a .int n (updV f i (.int x)) ∧ Run C R Z n0 own nm ret bytes mx h' cells slots (pc + 1) L S := by
  obtain ⟨hx, hby, hml, hown, hZ, hnm, hrt, hlk, T, locs, X, N, eT, st⟩ := K
  obtain ⟨cl, Ar, Sz, H⟩ := F
  subst hj Sz
  obtain ⟨T', h', X', e', W', st'⟩ := RoadKit.stI X hx hZ eT Ar (j := j) (x := x) (fun q => q.elim h0 (Nat.not_le.mpr hi)) (g := mkF C.2.2.2.2.1 pc L (.int x :: .int j :: .ref a :: S)) rfl rfl (hb hby hd)
  exact ⟨h', W', Arf.set ⟨cl, Ar, rfl, H⟩ W' hi, hx, hby, hml, hown, hZ, hnm, hrt, hlk, T', _, X', Fr.snoc X' N ga, e', fun t kt => st t (st' t kt)⟩
theorem Run.bastore {a : Addr} {n : Nat} {f : Nat → Value} {j x : Int32} (K : Run C R Z n0 own nm ret bytes mx h cells slots pc L (.int x :: .int j :: .ref a :: S)) (hd : decode bytes pc = .ok (.bastore, 1)) (F : Arf Z h a .byte n f) (i : Nat) (hj : j.toNatClampNeg = i) (h0 : ¬ j < 0) (hi : i < n) (ga : n0 ≤ a) (x' : Int32) (hx' : x.toInt8.toInt32 = x') :
    ∃ h', Wr h h' a i (.int x') ∧ Arf Z h' a .byte n (updV f i (.int x')) ∧ Run C R Z n0 own nm ret bytes mx h' cells slots (pc + 1) L S := by
  obtain ⟨hx, hby, hml, hown, hZ, hnm, hrt, hlk, T, locs, X, N, eT, st⟩ := K
  obtain ⟨cl, Ar, Sz, H⟩ := F
  subst hj Sz hx'
  obtain ⟨T', h', X', e', W', st'⟩ := RoadKit.stB X hx hZ eT Ar (j := j) (x := x) (fun q => q.elim h0 (Nat.not_le.mpr hi)) (g := mkF C.2.2.2.2.1 pc L (.int x :: .int j :: .ref a :: S)) rfl rfl (hb hby hd)
  exact ⟨h', W', Arf.set ⟨cl, Ar, rfl, H⟩ W' hi, hx, hby, hml, hown, hZ, hnm, hrt, hlk, T', _, X', Fr.snoc X' N ga, e', fun t kt => st t (st' t kt)⟩
theorem Run.caload {a : Addr} {n : Nat} {f : Nat → Value} {j : Int32} (K : Run C R Z n0 own nm ret bytes mx h cells slots pc L (.int j :: .ref a :: S)) (hd : decode bytes pc = .ok (.caload, 1)) (F : Arf Z h a .char n f) (i : Nat) (hj : j.toNatClampNeg = i) (h0 : ¬ j < 0) (hi : i < n) (v : Value) (hv : f i = v) : Run C R Z n0 own nm ret bytes mx h cells slots (pc + 1) L (v :: S) := by
  obtain ⟨hx, hby, hml, hown, hZ, hnm, hrt, hlk, T, locs, X, N, eT, st⟩ := K
  obtain ⟨cl, Ar, Sz, H⟩ := F
  subst hj hv Sz
  exact ⟨hx, hby, hml, hown, hZ, hnm, hrt, hlk, T, locs, X, N, eT, fun t kt => st t (X.caload hx (j := j) (v := f j.toNatClampNeg) (by rw [eT]; exact Ar.1) (State.isArrayOf_alike hZ.alike Ar.2.1) Ar.2.2 (fun q => q.elim h0 (Nat.not_le.mpr hi)) (H _ hi) (g := mkF C.2.2.2.2.1 pc L (.int j :: .ref a :: S)) rfl rfl (hb hby hd) t kt)⟩
theorem Run.daload {a : Addr} {n : Nat} {f : Nat → Value} {j : Int32} (K : Run C R Z n0 own nm ret bytes mx h cells slots pc L (.int j :: .ref a :: S)) (hd : decode bytes pc = .ok (.daload, 1)) (F : Arf Z h a .double n f) (i : Nat) (hj : j.toNatClampNeg = i) (h0 : ¬ j < 0) (hi : i < n) (v : Value) (hv : f i = v) : Run C R Z n0 own nm ret bytes mx h cells slots (pc + 1) L (v :: S) := by
  obtain ⟨hx, hby, hml, hown, hZ, hnm, hrt, hlk, T, locs, X, N, eT, st⟩ := K
  obtain ⟨cl, Ar, Sz, H⟩ := F
  subst hj hv Sz
  exact ⟨hx, hby, hml, hown, hZ, hnm, hrt, hlk, T, locs, X, N, eT, fun t kt => st t (X.daload hx (j := j) (v := f j.toNatClampNeg) (by rw [eT]; exact Ar.1) (State.isArrayOf_alike hZ.alike Ar.2.1) Ar.2.2 (fun q => q.elim h0 (Nat.not_le.mpr hi)) (H _ hi) (g := mkF C.2.2.2.2.1 pc L (.int j :: .ref a :: S)) rfl rfl (hb hby hd) t kt)⟩
theorem Run.castore {a : Addr} {n : Nat} {f : Nat → Value} {j x : Int32} (K : Run C R Z n0 own nm ret bytes mx h cells slots pc L (.int x :: .int j :: .ref a :: S)) (hd : decode bytes pc = .ok (.castore, 1)) (F : Arf Z h a .char n f) (i : Nat) (hj : j.toNatClampNeg = i) (h0 : ¬ j < 0) (hi : i < n) (ga : n0 ≤ a) (x' : Int32) (hx' : x.toUInt32.toUInt16.toUInt32.toInt32 = x') :
    ∃ h', Wr h h' a i (.int x') ∧ Arf Z h' a .char n (updV f i (.int x')) ∧ Run C R Z n0 own nm ret bytes mx h' cells slots (pc + 1) L S := by
  obtain ⟨hx, hby, hml, hown, hZ, hnm, hrt, hlk, T, locs, X, N, eT, st⟩ := K
  obtain ⟨cl, Ar, Sz, H⟩ := F
  subst hj Sz hx'
  obtain ⟨T', h', X', e', W', st'⟩ := RoadKit.stC X hx hZ eT Ar (j := j) (x := x) (fun q => q.elim h0 (Nat.not_le.mpr hi)) (g := mkF C.2.2.2.2.1 pc L (.int x :: .int j :: .ref a :: S)) rfl rfl (hb hby hd)
  exact ⟨h', W', Arf.set ⟨cl, Ar, rfl, H⟩ W' hi, hx, hby, hml, hown, hZ, hnm, hrt, hlk, T', _, X', Fr.snoc X' N ga, e', fun t kt => st t (st' t kt)⟩
theorem Run.dastore {a : Addr} {n : Nat} {f : Nat → Value} {j : Int32} {x : UInt64} (K : Run C R Z n0 own nm ret bytes mx h cells slots pc L (.double x :: .int j :: .ref a :: S)) (hd : decode bytes pc = .ok (.dastore, 1)) (F : Arf Z h a .double n f) (i : Nat) (hj : j.toNatClampNeg = i) (h0 : ¬ j < 0) (hi : i < n) (ga : n0 ≤ a) :
    ∃ h', Wr h h' a i (.double x) ∧ Arf Z h' a .double n (updV f i (.double x)) ∧ Run C R Z n0 own nm ret bytes mx h' cells slots (pc + 1) L S := by
  obtain ⟨hx, hby, hml, hown, hZ, hnm, hrt, hlk, T, locs, X, N, eT, st⟩ := K
  obtain ⟨cl, Ar, Sz, H⟩ := F
  subst hj Sz
  obtain ⟨T', h', X', e', W', st'⟩ := RoadKit.stD X hx hZ eT Ar (j := j) (x := x) (fun q => q.elim h0 (Nat.not_le.mpr hi)) (g := mkF C.2.2.2.2.1 pc L (.double x :: .int j :: .ref a :: S)) rfl rfl (hb hby hd)
  exact ⟨h', W', Arf.set ⟨cl, Ar, rfl, H⟩ W' hi, hx, hby, hml, hown, hZ, hnm, hrt, hlk, T', _, X', Fr.snoc X' N ga, e', fun t kt => st t (st' t kt)⟩
theorem Run.newarr {a0 : Array Value} {aty : ArrayType} {n : Int32} {ad : String} (K : Run C R Z n0 own nm ret bytes mx h cells slots pc L (.int n :: S)) (hd : decode bytes pc = .ok (.newarray aty, 2)) (w : (Jvm.Cond.arrayClass (newarray.typeOf aty)).before a0 Z = true) (hn : ¬ n < 0) (z : Nat) (hz : n.toNatClampNeg = z) (cap : Nat) (hcap : z ≤ cap) (hb8 : cap * 8 ≤ 536870912) (hc : cells + 1 ≤ R.cells) (hl : slots + cap ≤ R.slots) (had : "[" ++ (newarray.typeOf aty).toString = ad) :
    ∃ (h' : Heap) (b : Addr), b = h.size ∧ Ext h h' ∧ Arf Z h' b (newarray.typeOf aty) z (fun _ => defaultValue (newarray.typeOf aty)) ∧ Exa Z h' b ad ∧ Run C R Z n0 own nm ret bytes mx h' (cells + 1) (slots + cap) (pc + 2) L (.ref b :: S) := by
  obtain ⟨hx, hby, hml, hown, hZ, hnm, hrt, hlk, T, locs, X, N, eT, st⟩ := K
  subst hz
  obtain ⟨T', h', cA, X', e', E', A', Ex', st'⟩ := RoadKit.newPE X hx hZ w eT (g := mkF C.2.2.2.2.1 pc L (.int n :: S)) rfl (hb hby hd) rfl hn hcap hb8 hc hl had
  exact ⟨h', _, rfl, E', ⟨_, A', sz_new _ _ _, fun i hi => by simp [newA, hi]⟩, Ex', hx, hby, hml, hown, hZ, hnm, hrt, hlk, T', _, X', N, e', fun t kt => st t (st' t kt)⟩
theorem Run.clone {a0 : Array Value} {index W : Nat} {ad : String} {a : Addr} {ty : FieldType} {n : Nat} {f : Nat → Value} (K : Run C R Z n0 own nm ret bytes mx h cells slots pc L (.ref a :: S)) (hd : decode bytes pc = .ok (.invokevirtual index, 3))
    (w1 : (Jvm.Cond.methodLink own index ⟨ad, "clone", "()Ljava/lang/Object;"⟩).before a0 Z = true) (w2 : (Jvm.Cond.sameMethod ad "java/lang/Object" "clone" "()Ljava/lang/Object;").before a0 Z = true) (w3 : (Jvm.Cond.native ⟨"java/lang/Object", "clone", "()Ljava/lang/Object;"⟩).before a0 Z = true)
    (w4 : (Jvm.Cond.instanceMethod ⟨"java/lang/Object", "clone", "()Ljava/lang/Object;"⟩).before a0 Z = true) (w5 : (Jvm.Cond.selects ad ⟨ad, "clone", "()Ljava/lang/Object;"⟩ ⟨"java/lang/Object", "clone", "()Ljava/lang/Object;"⟩).before a0 Z = true) (w6 : (Jvm.Cond.castable ad "java/lang/Cloneable").before a0 Z = true)
    (F : Arf Z h a ty n f) (hfit : ∀ i, i < n → fits ty (f i) = true) (E : Exa Z h a ad) (cap : Nat) (hcap : n ≤ cap) (hW : (S.map fun v => v.category).sum = W) (hLs : L.size = mx) (hf : 1 ≤ R.frames) (hl : W + 14 ≤ R.locals) (hc : cells + 1 ≤ R.cells) (hsl : slots + cap ≤ R.slots) :
    ∃ (h' : Heap) (b : Addr), b = h.size ∧ Ext h h' ∧ Arf Z h' b ty n f ∧ Exa Z h' b ad ∧ Run C R Z n0 own nm ret bytes mx h' (cells + 1) (slots + cap) (pc + 3) L (.ref b :: S) := by
  obtain ⟨hx, hby, hml, hown, hZ, hnm, hrt, hlk, T, locs, X, N, eT, st⟩ := K
  obtain ⟨cl, Ar, Sz, H⟩ := F
  subst Sz
  have FC : FitC Z cl := fitC_of Ar fun i hi v hv => by rw [H i hi] at hv; cases hv; exact hfit i hi
  obtain ⟨T', h', X', e', ex, A', E', st'⟩ := cloneA X hx hZ hown w1 w2 w3 w4 w5 w6 eT Ar E FC (g := mkF C.2.2.2.2.1 pc L (.ref a :: S)) rfl (by rw [hml]; exact hLs) rfl (hb hby hd) hf (W := W) (cap := cap) (by show 2 * 0 + _ ≤ _; omega) hl hcap hc hsl
  exact ⟨h', _, rfl, ex, ⟨cloneOf cl, A', rfl, H⟩, E', hx, hby, hml, hown, hZ, hnm, hrt, hlk, T', _, X', N, e', fun t kt => st t (st' t kt)⟩
theorem Run.instY {a0 : Array Value} {index : Nat} {Kl : String} {a : Addr} (K : Run C R Z n0 own nm ret bytes mx h cells slots pc L (.ref a :: S)) (hd : decode bytes pc = .ok (.instanceof index, 3)) (w : (Jvm.Cond.classLink own index Kl).before a0 Z = true) (F : Ins Z h a Kl true) : Run C R Z n0 own nm ret bytes mx h cells slots (pc + 3) L (.int (1 : Int32) :: S) := by
  obtain ⟨hx, hby, hml, hown, hZ, hnm, hrt, hlk, T, locs, X, N, eT, st⟩ := K
  obtain ⟨T', X', e', st'⟩ := RoadKit.instY X hx hZ hown w eT F (g := mkF C.2.2.2.2.1 pc L (.ref a :: S)) rfl rfl (hb hby hd)
  exact ⟨hx, hby, hml, hown, hZ, hnm, hrt, hlk, T', locs, X', N, e', fun t kt => st t (st' t kt)⟩
theorem Run.castNull {index : Nat} (K : Run C R Z n0 own nm ret bytes mx h cells slots pc L (.null :: S)) (hd : decode bytes pc = .ok (.checkcast index, 3)) : Run C R Z n0 own nm ret bytes mx h cells slots (pc + 3) L (.null :: S) := by
  obtain ⟨hx, hby, hml, hown, hZ, hnm, hrt, hlk, T, locs, X, N, eT, st⟩ := K
  exact ⟨hx, hby, hml, hown, hZ, hnm, hrt, hlk, T, locs, X, N, eT, fun t kt => st t (X.checkcastNull hx (g := mkF C.2.2.2.2.1 pc L (.null :: S)) rfl rfl (hb hby hd) t kt)⟩
theorem Run.lswHit {x : Int32} {dflt : Int} {pairs : Array (Int × Int)} {len : Nat} {b off : Int} {pc' : Nat} (K : Run C R Z n0 own nm ret bytes mx h cells slots pc L (.int x :: S)) (hd : decode bytes pc = .ok (.lookupswitch dflt pairs, len)) (hsorted : (pairs.toList.zip (pairs.toList.drop 1)).all (fun (a, next) => a.1 < next.1) = true) (hfind : pairs.find? (·.1 == x.toInt) = some (b, off)) (ho : 0 ≤ (pc : Int) + off) (hp : ((pc : Int) + off).toNat = pc') : Run C R Z n0 own nm ret bytes mx h cells slots pc' L S := by
  obtain ⟨hx, hby, hml, hown, hZ, hnm, hrt, hlk, T, locs, X, N, eT, st⟩ := K
  subst hp
  exact ⟨hx, hby, hml, hown, hZ, hnm, hrt, hlk, T, locs, X, N, eT, fun t kt => st t (X.lookupswitchHit hx (g := mkF C.2.2.2.2.1 pc L (.int x :: S)) rfl rfl (hb hby hd) hsorted hfind ho t kt)⟩
theorem Run.lswMiss {x : Int32} {dflt : Int} {pairs : Array (Int × Int)} {len : Nat} {pc' : Nat} (K : Run C R Z n0 own nm ret bytes mx h cells slots pc L (.int x :: S)) (hd : decode bytes pc = .ok (.lookupswitch dflt pairs, len)) (hsorted : (pairs.toList.zip (pairs.toList.drop 1)).all (fun (a, next) => a.1 < next.1) = true) (hfind : ∀ p ∈ pairs.toList, p.1 ≠ x.toInt) (ho : 0 ≤ (pc : Int) + dflt) (hp : ((pc : Int) + dflt).toNat = pc') : Run C R Z n0 own nm ret bytes mx h cells slots pc' L S := by
  obtain ⟨hx, hby, hml, hown, hZ, hnm, hrt, hlk, T, locs, X, N, eT, st⟩ := K
  subst hp
  exact ⟨hx, hby, hml, hown, hZ, hnm, hrt, hlk, T, locs, X, N, eT, fun t kt => st t (X.lookupswitchMiss hx (g := mkF C.2.2.2.2.1 pc L (.int x :: S)) rfl rfl (hb hby hd) hsorted (find_miss hfind) ho t kt)⟩
end Steps
end Jvm.Own

namespace Jvm.Pilot.@@N@@
open Jvm Jvm.ClassFile Sem Op Lib Jvm.Free Jvm.Stand Jvm.LawKit Jvm.RoadKit Jvm.Own Bundle Jvm.Pilot.@@N@@.Jvm.D
theorem pd_0 : parseMethodDescriptor "([D)D" = some ⟨[(.array .double)], some .double⟩ := by decide +kernel
def own_darr (l : List UInt64) (i : Nat) : Value := .double (l.getD i 0)
theorem own_d0 : FP.dconst0 = FP.l2d 0 := by rw [l2d_zero]; rfl
theorem own_b1 (x : Int32) : B53 x.toInt64 := by
  have h := c_i2l x
  have r := rng32 x
  unfold B53
  omega
theorem own_t0 : (0 : Int64).toInt = 0 := by decide
theorem own_bs0 : B53 (0 : Int64) := by unfold B53; decide
theorem own_step (s : Int64) (x : Int32) (K : Int) (h1 : -K ≤ s.toInt) (h2 : s.toInt ≤ K) (hK : K ≤ 1099511627776) : -(K + 2147483648) ≤ (s + x.toInt64).toInt ∧ (s + x.toInt64).toInt ≤ K + 2147483648 := by
  have h := c_i2l x
  have r := rng32 x
  have h3 := c_ladd s x.toInt64
  have r3 := rng64 (s + x.toInt64)
  omega
theorem own_bs1 (x0 : Int32) : B53 ((0 : Int64) + x0.toInt64) := by
  have r1 := own_step (0 : Int64) x0 0 (by decide) (by decide) (by decide)
  unfold B53; omega
theorem own_bs2 (x0 x1 : Int32) : B53 (((0 : Int64) + x0.toInt64) + x1.toInt64) := by
  have r1 := own_step (0 : Int64) x0 0 (by decide) (by decide) (by decide)
  have r2 := own_step _ x1 _ r1.1 r1.2 (by decide)
  unfold B53; omega
theorem own_bs3 (x0 x1 x2 : Int32) : B53 ((((0 : Int64) + x0.toInt64) + x1.toInt64) + x2.toInt64) := by
  have r1 := own_step (0 : Int64) x0 0 (by decide) (by decide) (by decide)
  have r2 := own_step _ x1 _ r1.1 r1.2 (by decide)
  have r3 := own_step _ x2 _ r2.1 r2.2 (by decide)
  unfold B53; omega
theorem own_dn (a : Int64) {b : UInt64} (hb : Jvm.Free.Fl.Fin64 b ∧ Jvm.Free.Fl.Nz64 b) : Jvm.Free.Fl.NoNaN64 (FP.ddiv (FP.l2d a) b) := Jvm.Free.Fl.ddiv_out (Jvm.Free.Fl.l2d_fin a).noNaN hb.1 hb.2
theorem own_nz1 : Jvm.Free.Fl.Fin64 (FP.l2d (1 : Int32).toInt64) ∧ Jvm.Free.Fl.Nz64 (FP.l2d (1 : Int32).toInt64) := by unfold Jvm.Free.Fl.Fin64 Jvm.Free.Fl.Nz64; decide +kernel
theorem own_nz2 : Jvm.Free.Fl.Fin64 (FP.l2d (2 : Int32).toInt64) ∧ Jvm.Free.Fl.Nz64 (FP.l2d (2 : Int32).toInt64) := by unfold Jvm.Free.Fl.Fin64 Jvm.Free.Fl.Nz64; decide +kernel
theorem own_nz3 : Jvm.Free.Fl.Fin64 (FP.l2d (3 : Int32).toInt64) ∧ Jvm.Free.Fl.Nz64 (FP.l2d (3 : Int32).toInt64) := by unfold Jvm.Free.Fl.Fin64 Jvm.Free.Fl.Nz64; decide +kernel
theorem own_nz4 : Jvm.Free.Fl.Fin64 (FP.l2d (4 : Int32).toInt64) ∧ Jvm.Free.Fl.Nz64 (FP.l2d (4 : Int32).toInt64) := by unfold Jvm.Free.Fl.Fin64 Jvm.Free.Fl.Nz64; decide +kernel
theorem own_cd1 {f : Nat → Value} {v0 : UInt64} (i : Nat) (hi : i < 1) : (updV f 0 (.double v0)) i = own_darr [v0] i := by
  match i, hi with
  | 0, _ => rfl
theorem own_cd2 {f : Nat → Value} {v0 v1 : UInt64} (i : Nat) (hi : i < 2) : (updV (updV f 0 (.double v0)) 1 (.double v1)) i = own_darr [v0, v1] i := by
  match i, hi with
  | 0, _ => rfl
  | 1, _ => rfl
theorem own_cd3 {f : Nat → Value} {v0 v1 v2 : UInt64} (i : Nat) (hi : i < 3) : (updV (updV (updV f 0 (.double v0)) 1 (.double v1)) 2 (.double v2)) i = own_darr [v0, v1, v2] i := by
  match i, hi with
  | 0, _ => rfl
  | 1, _ => rfl
  | 2, _ => rfl
theorem own_cd4 {f : Nat → Value} {v0 v1 v2 v3 : UInt64} (i : Nat) (hi : i < 4) : (updV (updV (updV (updV f 0 (.double v0)) 1 (.double v1)) 2 (.double v2)) 3 (.double v3)) i = own_darr [v0, v1, v2, v3] i := by
  match i, hi with
  | 0, _ => rfl
  | 1, _ => rfl
  | 2, _ => rfl
  | 3, _ => rfl
theorem own_mod5 (x : Int32) : ((x &&& (2147483647 : Int32)) % (5 : Int32)) = 0 ∨ ((x &&& (2147483647 : Int32)) % (5 : Int32)) = 1 ∨ ((x &&& (2147483647 : Int32)) % (5 : Int32)) = 2 ∨ ((x &&& (2147483647 : Int32)) % (5 : Int32)) = 3 ∨ ((x &&& (2147483647 : Int32)) % (5 : Int32)) = 4 := by
  have h1 := c_mask x 2147483647 31 (by decide) (by decide)
  have h2 := (c_irem (x &&& 2147483647) 5 5 (by decide)).1 (by rw [h1]; omega)
  simp only [← Int32.toInt_inj]
  have e0 : (0 : Int32).toInt = 0 := by decide
  have e1 : (1 : Int32).toInt = 1 := by decide
  have e2 : (2 : Int32).toInt = 2 := by decide
  have e3 : (3 : Int32).toInt = 3 := by decide
  have e4 : (4 : Int32).toInt = 4 := by decide
  rw [e0, e1, e2, e3, e4]
  omega
theorem d1_0 : decode prog_38_method_6_code 0 = .ok (.aload_n 0, 1) := by decide +kernel
theorem d1_1 : decode prog_38_method_6_code 1 = .ok (.arraylength, 1) := by decide +kernel
theorem d1_2 : decode prog_38_method_6_code 2 = .ok (.ifCond .ne 5, 3) := by decide +kernel
theorem d1_5 : decode prog_38_method_6_code 5 = .ok (.dconst 0, 1) := by decide +kernel
theorem d1_6 : decode prog_38_method_6_code 6 = .ok (.dreturn, 1) := by decide +kernel
set_option maxRecDepth 65536 in
set_option maxHeartbeats 40000000 in
theorem rm1_0 (Z : State) (a0 : Array Value) (hw : ∀ d ∈ tables_1, d.before a0 Z = true) (a1 : Addr) (h0 : Heap) (n0 : Nat) (A1 : Arf Z h0 a1 .double 0 (own_darr [])) :
    Con Z n0 (⟨"com/example/ongoing_interest/ongoinginterest/evaluation/SignificanceTest", "mean", "([D)D"⟩ : MethodName) prog_38_method_6_code 8 (some .double) [] ({ frames := 0, cells := 0, slots := 0, locals := 0 } : Room) #[(.ref a1)] h0 (fun v h => v = some (.double (FP.l2d 0)) ∧ h0 = h) := by
  refine Con.intro (L0 := #[.val (.ref a1), .unset, .unset, .unset, .unset, .unset, .unset, .unset]) (plainFor_of_name (by first | (simp [plainName, overriddenIn]; done) | decide +kernel)) (fun m => by first | (simp [entryFrame, mkF, argsToLocals, Value.category]; done) | rfl) ?_
  intro C k
  replace k := k.aloadN d1_0 rfl rfl
  replace k := k.arrlen d1_1 A1 (0 : Int32) (by decide)
  replace k := k.ifNo d1_2 (by decide)
  replace k := k.dconst0 (FP.l2d 0) d1_5 own_d0
  exact k.dret d1_6 rfl ⟨rfl, rfl⟩ (by decide) (by decide)

theorem d1_7 : decode prog_38_method_6_code 7 = .ok (.dconst 0, 1) := by decide +kernel
theorem d1_8 : decode prog_38_method_6_code 8 = .ok (.dstore_n 1, 1) := by decide +kernel
theorem d1_9 : decode prog_38_method_6_code 9 = .ok (.aload_n 0, 1) := by decide +kernel
theorem d1_10 : decode prog_38_method_6_code 10 = .ok (.astore_n 3, 1) := by decide +kernel
theorem d1_11 : decode prog_38_method_6_code 11 = .ok (.aload_n 3, 1) := by decide +kernel
theorem d1_12 : decode prog_38_method_6_code 12 = .ok (.arraylength, 1) := by decide +kernel
theorem d1_13 : decode prog_38_method_6_code 13 = .ok (.istore 4, 2) := by decide +kernel
theorem d1_15 : decode prog_38_method_6_code 15 = .ok (.iconst 0, 1) := by decide +kernel
theorem d1_16 : decode prog_38_method_6_code 16 = .ok (.istore 5, 2) := by decide +kernel
theorem d1_18 : decode prog_38_method_6_code 18 = .ok (.iload 5, 2) := by decide +kernel
theorem d1_20 : decode prog_38_method_6_code 20 = .ok (.iload 4, 2) := by decide +kernel
theorem d1_22 : decode prog_38_method_6_code 22 = .ok (.if_icmp .ge 20, 3) := by decide +kernel
theorem d1_25 : decode prog_38_method_6_code 25 = .ok (.aload_n 3, 1) := by decide +kernel
theorem d1_26 : decode prog_38_method_6_code 26 = .ok (.iload 5, 2) := by decide +kernel
theorem d1_28 : decode prog_38_method_6_code 28 = .ok (.daload, 1) := by decide +kernel
theorem d1_29 : decode prog_38_method_6_code 29 = .ok (.dstore 6, 2) := by decide +kernel
theorem d1_31 : decode prog_38_method_6_code 31 = .ok (.dload_n 1, 1) := by decide +kernel
theorem d1_32 : decode prog_38_method_6_code 32 = .ok (.dload 6, 2) := by decide +kernel
theorem d1_34 : decode prog_38_method_6_code 34 = .ok (.dadd, 1) := by decide +kernel
theorem d1_35 : decode prog_38_method_6_code 35 = .ok (.dstore_n 1, 1) := by decide +kernel
theorem d1_36 : decode prog_38_method_6_code 36 = .ok (.iinc 5 1, 3) := by decide +kernel
theorem d1_39 : decode prog_38_method_6_code 39 = .ok (.goto (-21), 3) := by decide +kernel
theorem d1_42 : decode prog_38_method_6_code 42 = .ok (.dload_n 1, 1) := by decide +kernel
theorem d1_43 : decode prog_38_method_6_code 43 = .ok (.aload_n 0, 1) := by decide +kernel
theorem d1_44 : decode prog_38_method_6_code 44 = .ok (.arraylength, 1) := by decide +kernel
theorem d1_45 : decode prog_38_method_6_code 45 = .ok (.i2d, 1) := by decide +kernel
theorem d1_46 : decode prog_38_method_6_code 46 = .ok (.ddiv, 1) := by decide +kernel
theorem d1_47 : decode prog_38_method_6_code 47 = .ok (.dreturn, 1) := by decide +kernel
set_option maxRecDepth 65536 in
set_option maxHeartbeats 40000000 in
theorem rm1_1 (Z : State) (a0 : Array Value) (hw : ∀ d ∈ tables_1, d.before a0 Z = true) (a1 : Addr) (x0 : Int32) (h0 : Heap) (n0 : Nat) (A1 : Arf Z h0 a1 .double 1 (own_darr [(FP.l2d x0.toInt64)])) :
    Con Z n0 (⟨"com/example/ongoing_interest/ongoinginterest/evaluation/SignificanceTest", "mean", "([D)D"⟩ : MethodName) prog_38_method_6_code 8 (some .double) [] ({ frames := 0, cells := 0, slots := 0, locals := 0 } : Room) #[(.ref a1)] h0 (fun v h => v = some (.double (FP.ddiv (FP.l2d ((0 : Int64) + x0.toInt64)) (FP.l2d (1 : Int32).toInt64))) ∧ h0 = h) := by
  refine Con.intro (L0 := #[.val (.ref a1), .unset, .unset, .unset, .unset, .unset, .unset, .unset]) (plainFor_of_name (by first | (simp [plainName, overriddenIn]; done) | decide +kernel)) (fun m => by first | (simp [entryFrame, mkF, argsToLocals, Value.category]; done) | rfl) ?_
  intro C k
  replace k := k.aloadN d1_0 rfl rfl
  replace k := k.arrlen d1_1 A1 (1 : Int32) (by decide)
  replace k := k.ifYes (pc' := 7) d1_2 (by decide) (by decide) (by decide)
  replace k := k.dconst0 (FP.l2d 0) d1_7 own_d0
  replace k := k.dstoreN #[.val (.ref a1), .val (.double (FP.l2d 0)), .second, .unset, .unset, .unset, .unset, .unset] d1_8 rfl
  replace k := k.aloadN d1_9 rfl rfl
  replace k := k.astoreN #[.val (.ref a1), .val (.double (FP.l2d 0)), .second, .val (.ref a1), .unset, .unset, .unset, .unset] d1_10 rfl rfl
  replace k := k.aloadN d1_11 rfl rfl
  replace k := k.arrlen d1_12 A1 (1 : Int32) (by decide)
  replace k := k.istore #[.val (.ref a1), .val (.double (FP.l2d 0)), .second, .val (.ref a1), .val (.int (1 : Int32)), .unset, .unset, .unset] d1_13 rfl
  replace k := k.iconst (0 : Int32) d1_15 rfl
  replace k := k.istore #[.val (.ref a1), .val (.double (FP.l2d 0)), .second, .val (.ref a1), .val (.int (1 : Int32)), .val (.int (0 : Int32)), .unset, .unset] d1_16 rfl
  replace k := k.iload d1_18 rfl
  replace k := k.iload d1_20 rfl
  replace k := k.icmpNo d1_22 (by decide)
  replace k := k.aloadN d1_25 rfl rfl
  replace k := k.iload d1_26 rfl
  replace k := k.daload d1_28 A1  0 (by decide) (by decide) (by decide) (.double (FP.l2d x0.toInt64)) rfl
  replace k := k.dstore #[.val (.ref a1), .val (.double (FP.l2d 0)), .second, .val (.ref a1), .val (.int (1 : Int32)), .val (.int (0 : Int32)), .val (.double (FP.l2d x0.toInt64)), .second] d1_29 rfl
  replace k := k.dloadN d1_31 rfl
  replace k := k.dload d1_32 rfl
  replace k := k.dadd (FP.l2d ((0 : Int64) + x0.toInt64)) d1_34 (nn_w (dadd_w (own_bs0 ) (own_b1 _))) (dadd_w (own_bs0 ) (own_b1 _))
  replace k := k.dstoreN #[.val (.ref a1), .val (.double (FP.l2d ((0 : Int64) + x0.toInt64))), .second, .val (.ref a1), .val (.int (1 : Int32)), .val (.int (0 : Int32)), .val (.double (FP.l2d x0.toInt64)), .second] d1_35 rfl
  replace k := k.iinc (1 : Int32) #[.val (.ref a1), .val (.double (FP.l2d ((0 : Int64) + x0.toInt64))), .second, .val (.ref a1), .val (.int (1 : Int32)), .val (.int ((0 : Int32) + (1 : Int32))), .val (.double (FP.l2d x0.toInt64)), .second] d1_36 rfl rfl rfl
  replace k := k.loc #[.val (.ref a1), .val (.double (FP.l2d ((0 : Int64) + x0.toInt64))), .second, .val (.ref a1), .val (.int (1 : Int32)), .val (.int (1 : Int32)), .val (.double (FP.l2d x0.toInt64)), .second] (by rfl)
  replace k := k.goto (pc' := 18) d1_39 (by decide) (by decide)
  replace k := k.iload d1_18 rfl
  replace k := k.iload d1_20 rfl
  replace k := k.icmpYes (pc' := 42) d1_22 (by decide) (by decide) (by decide)
  replace k := k.dloadN d1_42 rfl
  replace k := k.aloadN d1_43 rfl rfl
  replace k := k.arrlen d1_44 A1 (1 : Int32) (by decide)
  replace k := k.i2d (FP.l2d (1 : Int32).toInt64) d1_45 (i2d_w _)
  replace k := k.ddiv (FP.ddiv (FP.l2d ((0 : Int64) + x0.toInt64)) (FP.l2d (1 : Int32).toInt64)) d1_46 (own_dn _ own_nz1) rfl
  exact k.dret d1_47 rfl ⟨rfl, rfl⟩ (by decide) (by decide)

set_option maxRecDepth 65536 in
set_option maxHeartbeats 40000000 in
theorem rm1_2 (Z : State) (a0 : Array Value) (hw : ∀ d ∈ tables_1, d.before a0 Z = true) (a1 : Addr) (x0 x1 : Int32) (h0 : Heap) (n0 : Nat) (A1 : Arf Z h0 a1 .double 2 (own_darr [(FP.l2d x0.toInt64), (FP.l2d x1.toInt64)])) :
    Con Z n0 (⟨"com/example/ongoing_interest/ongoinginterest/evaluation/SignificanceTest", "mean", "([D)D"⟩ : MethodName) prog_38_method_6_code 8 (some .double) [] ({ frames := 0, cells := 0, slots := 0, locals := 0 } : Room) #[(.ref a1)] h0 (fun v h => v = some (.double (FP.ddiv (FP.l2d (((0 : Int64) + x0.toInt64) + x1.toInt64)) (FP.l2d (2 : Int32).toInt64))) ∧ h0 = h) := by
  refine Con.intro (L0 := #[.val (.ref a1), .unset, .unset, .unset, .unset, .unset, .unset, .unset]) (plainFor_of_name (by first | (simp [plainName, overriddenIn]; done) | decide +kernel)) (fun m => by first | (simp [entryFrame, mkF, argsToLocals, Value.category]; done) | rfl) ?_
  intro C k
  replace k := k.aloadN d1_0 rfl rfl
  replace k := k.arrlen d1_1 A1 (2 : Int32) (by decide)
  replace k := k.ifYes (pc' := 7) d1_2 (by decide) (by decide) (by decide)
  replace k := k.dconst0 (FP.l2d 0) d1_7 own_d0
  replace k := k.dstoreN #[.val (.ref a1), .val (.double (FP.l2d 0)), .second, .unset, .unset, .unset, .unset, .unset] d1_8 rfl
  replace k := k.aloadN d1_9 rfl rfl
  replace k := k.astoreN #[.val (.ref a1), .val (.double (FP.l2d 0)), .second, .val (.ref a1), .unset, .unset, .unset, .unset] d1_10 rfl rfl
  replace k := k.aloadN d1_11 rfl rfl
  replace k := k.arrlen d1_12 A1 (2 : Int32) (by decide)
  replace k := k.istore #[.val (.ref a1), .val (.double (FP.l2d 0)), .second, .val (.ref a1), .val (.int (2 : Int32)), .unset, .unset, .unset] d1_13 rfl
  replace k := k.iconst (0 : Int32) d1_15 rfl
  replace k := k.istore #[.val (.ref a1), .val (.double (FP.l2d 0)), .second, .val (.ref a1), .val (.int (2 : Int32)), .val (.int (0 : Int32)), .unset, .unset] d1_16 rfl
  replace k := k.iload d1_18 rfl
  replace k := k.iload d1_20 rfl
  replace k := k.icmpNo d1_22 (by decide)
  replace k := k.aloadN d1_25 rfl rfl
  replace k := k.iload d1_26 rfl
  replace k := k.daload d1_28 A1  0 (by decide) (by decide) (by decide) (.double (FP.l2d x0.toInt64)) rfl
  replace k := k.dstore #[.val (.ref a1), .val (.double (FP.l2d 0)), .second, .val (.ref a1), .val (.int (2 : Int32)), .val (.int (0 : Int32)), .val (.double (FP.l2d x0.toInt64)), .second] d1_29 rfl
  replace k := k.dloadN d1_31 rfl
  replace k := k.dload d1_32 rfl
  replace k := k.dadd (FP.l2d ((0 : Int64) + x0.toInt64)) d1_34 (nn_w (dadd_w (own_bs0 ) (own_b1 _))) (dadd_w (own_bs0 ) (own_b1 _))
  replace k := k.dstoreN #[.val (.ref a1), .val (.double (FP.l2d ((0 : Int64) + x0.toInt64))), .second, .val (.ref a1), .val (.int (2 : Int32)), .val (.int (0 : Int32)), .val (.double (FP.l2d x0.toInt64)), .second] d1_35 rfl
  replace k := k.iinc (1 : Int32) #[.val (.ref a1), .val (.double (FP.l2d ((0 : Int64) + x0.toInt64))), .second, .val (.ref a1), .val (.int (2 : Int32)), .val (.int ((0 : Int32) + (1 : Int32))), .val (.double (FP.l2d x0.toInt64)), .second] d1_36 rfl rfl rfl
  replace k := k.loc #[.val (.ref a1), .val (.double (FP.l2d ((0 : Int64) + x0.toInt64))), .second, .val (.ref a1), .val (.int (2 : Int32)), .val (.int (1 : Int32)), .val (.double (FP.l2d x0.toInt64)), .second] (by rfl)
  replace k := k.goto (pc' := 18) d1_39 (by decide) (by decide)
  replace k := k.iload d1_18 rfl
  replace k := k.iload d1_20 rfl
  replace k := k.icmpNo d1_22 (by decide)
  replace k := k.aloadN d1_25 rfl rfl
  replace k := k.iload d1_26 rfl
  replace k := k.daload d1_28 A1  1 (by decide) (by decide) (by decide) (.double (FP.l2d x1.toInt64)) rfl
  replace k := k.dstore #[.val (.ref a1), .val (.double (FP.l2d ((0 : Int64) + x0.toInt64))), .second, .val (.ref a1), .val (.int (2 : Int32)), .val (.int (1 : Int32)), .val (.double (FP.l2d x1.toInt64)), .second] d1_29 rfl
  replace k := k.dloadN d1_31 rfl
  replace k := k.dload d1_32 rfl
  replace k := k.dadd (FP.l2d (((0 : Int64) + x0.toInt64) + x1.toInt64)) d1_34 (nn_w (dadd_w (own_bs1 _) (own_b1 _))) (dadd_w (own_bs1 _) (own_b1 _))
  replace k := k.dstoreN #[.val (.ref a1), .val (.double (FP.l2d (((0 : Int64) + x0.toInt64) + x1.toInt64))), .second, .val (.ref a1), .val (.int (2 : Int32)), .val (.int (1 : Int32)), .val (.double (FP.l2d x1.toInt64)), .second] d1_35 rfl
  replace k := k.iinc (1 : Int32) #[.val (.ref a1), .val (.double (FP.l2d (((0 : Int64) + x0.toInt64) + x1.toInt64))), .second, .val (.ref a1), .val (.int (2 : Int32)), .val (.int ((1 : Int32) + (1 : Int32))), .val (.double (FP.l2d x1.toInt64)), .second] d1_36 rfl rfl rfl
  replace k := k.loc #[.val (.ref a1), .val (.double (FP.l2d (((0 : Int64) + x0.toInt64) + x1.toInt64))), .second, .val (.ref a1), .val (.int (2 : Int32)), .val (.int (2 : Int32)), .val (.double (FP.l2d x1.toInt64)), .second] (by rfl)
  replace k := k.goto (pc' := 18) d1_39 (by decide) (by decide)
  replace k := k.iload d1_18 rfl
  replace k := k.iload d1_20 rfl
  replace k := k.icmpYes (pc' := 42) d1_22 (by decide) (by decide) (by decide)
  replace k := k.dloadN d1_42 rfl
  replace k := k.aloadN d1_43 rfl rfl
  replace k := k.arrlen d1_44 A1 (2 : Int32) (by decide)
  replace k := k.i2d (FP.l2d (2 : Int32).toInt64) d1_45 (i2d_w _)
  replace k := k.ddiv (FP.ddiv (FP.l2d (((0 : Int64) + x0.toInt64) + x1.toInt64)) (FP.l2d (2 : Int32).toInt64)) d1_46 (own_dn _ own_nz2) rfl
  exact k.dret d1_47 rfl ⟨rfl, rfl⟩ (by decide) (by decide)

set_option maxRecDepth 65536 in
set_option maxHeartbeats 40000000 in
theorem rm1_3 (Z : State) (a0 : Array Value) (hw : ∀ d ∈ tables_1, d.before a0 Z = true) (a1 : Addr) (x0 x1 x2 : Int32) (h0 : Heap) (n0 : Nat) (A1 : Arf Z h0 a1 .double 3 (own_darr [(FP.l2d x0.toInt64), (FP.l2d x1.toInt64), (FP.l2d x2.toInt64)])) :
    Con Z n0 (⟨"com/example/ongoing_interest/ongoinginterest/evaluation/SignificanceTest", "mean", "([D)D"⟩ : MethodName) prog_38_method_6_code 8 (some .double) [] ({ frames := 0, cells := 0, slots := 0, locals := 0 } : Room) #[(.ref a1)] h0 (fun v h => v = some (.double (FP.ddiv (FP.l2d ((((0 : Int64) + x0.toInt64) + x1.toInt64) + x2.toInt64)) (FP.l2d (3 : Int32).toInt64))) ∧ h0 = h) := by
  refine Con.intro (L0 := #[.val (.ref a1), .unset, .unset, .unset, .unset, .unset, .unset, .unset]) (plainFor_of_name (by first | (simp [plainName, overriddenIn]; done) | decide +kernel)) (fun m => by first | (simp [entryFrame, mkF, argsToLocals, Value.category]; done) | rfl) ?_
  intro C k
  replace k := k.aloadN d1_0 rfl rfl
  replace k := k.arrlen d1_1 A1 (3 : Int32) (by decide)
  replace k := k.ifYes (pc' := 7) d1_2 (by decide) (by decide) (by decide)
  replace k := k.dconst0 (FP.l2d 0) d1_7 own_d0
  replace k := k.dstoreN #[.val (.ref a1), .val (.double (FP.l2d 0)), .second, .unset, .unset, .unset, .unset, .unset] d1_8 rfl
  replace k := k.aloadN d1_9 rfl rfl
  replace k := k.astoreN #[.val (.ref a1), .val (.double (FP.l2d 0)), .second, .val (.ref a1), .unset, .unset, .unset, .unset] d1_10 rfl rfl
  replace k := k.aloadN d1_11 rfl rfl
  replace k := k.arrlen d1_12 A1 (3 : Int32) (by decide)
  replace k := k.istore #[.val (.ref a1), .val (.double (FP.l2d 0)), .second, .val (.ref a1), .val (.int (3 : Int32)), .unset, .unset, .unset] d1_13 rfl
  replace k := k.iconst (0 : Int32) d1_15 rfl
  replace k := k.istore #[.val (.ref a1), .val (.double (FP.l2d 0)), .second, .val (.ref a1), .val (.int (3 : Int32)), .val (.int (0 : Int32)), .unset, .unset] d1_16 rfl
  replace k := k.iload d1_18 rfl
  replace k := k.iload d1_20 rfl
  replace k := k.icmpNo d1_22 (by decide)
  replace k := k.aloadN d1_25 rfl rfl
  replace k := k.iload d1_26 rfl
  replace k := k.daload d1_28 A1  0 (by decide) (by decide) (by decide) (.double (FP.l2d x0.toInt64)) rfl
  replace k := k.dstore #[.val (.ref a1), .val (.double (FP.l2d 0)), .second, .val (.ref a1), .val (.int (3 : Int32)), .val (.int (0 : Int32)), .val (.double (FP.l2d x0.toInt64)), .second] d1_29 rfl
  replace k := k.dloadN d1_31 rfl
  replace k := k.dload d1_32 rfl
  replace k := k.dadd (FP.l2d ((0 : Int64) + x0.toInt64)) d1_34 (nn_w (dadd_w (own_bs0 ) (own_b1 _))) (dadd_w (own_bs0 ) (own_b1 _))
  replace k := k.dstoreN #[.val (.ref a1), .val (.double (FP.l2d ((0 : Int64) + x0.toInt64))), .second, .val (.ref a1), .val (.int (3 : Int32)), .val (.int (0 : Int32)), .val (.double (FP.l2d x0.toInt64)), .second] d1_35 rfl
  replace k := k.iinc (1 : Int32) #[.val (.ref a1), .val (.double (FP.l2d ((0 : Int64) + x0.toInt64))), .second, .val (.ref a1), .val (.int (3 : Int32)), .val (.int ((0 : Int32) + (1 : Int32))), .val (.double (FP.l2d x0.toInt64)), .second] d1_36 rfl rfl rfl
  replace k := k.loc #[.val (.ref a1), .val (.double (FP.l2d ((0 : Int64) + x0.toInt64))), .second, .val (.ref a1), .val (.int (3 : Int32)), .val (.int (1 : Int32)), .val (.double (FP.l2d x0.toInt64)), .second] (by rfl)
  replace k := k.goto (pc' := 18) d1_39 (by decide) (by decide)
  replace k := k.iload d1_18 rfl
  replace k := k.iload d1_20 rfl
  replace k := k.icmpNo d1_22 (by decide)
  replace k := k.aloadN d1_25 rfl rfl
  replace k := k.iload d1_26 rfl
  replace k := k.daload d1_28 A1  1 (by decide) (by decide) (by decide) (.double (FP.l2d x1.toInt64)) rfl
  replace k := k.dstore #[.val (.ref a1), .val (.double (FP.l2d ((0 : Int64) + x0.toInt64))), .second, .val (.ref a1), .val (.int (3 : Int32)), .val (.int (1 : Int32)), .val (.double (FP.l2d x1.toInt64)), .second] d1_29 rfl
  replace k := k.dloadN d1_31 rfl
  replace k := k.dload d1_32 rfl
  replace k := k.dadd (FP.l2d (((0 : Int64) + x0.toInt64) + x1.toInt64)) d1_34 (nn_w (dadd_w (own_bs1 _) (own_b1 _))) (dadd_w (own_bs1 _) (own_b1 _))
  replace k := k.dstoreN #[.val (.ref a1), .val (.double (FP.l2d (((0 : Int64) + x0.toInt64) + x1.toInt64))), .second, .val (.ref a1), .val (.int (3 : Int32)), .val (.int (1 : Int32)), .val (.double (FP.l2d x1.toInt64)), .second] d1_35 rfl
  replace k := k.iinc (1 : Int32) #[.val (.ref a1), .val (.double (FP.l2d (((0 : Int64) + x0.toInt64) + x1.toInt64))), .second, .val (.ref a1), .val (.int (3 : Int32)), .val (.int ((1 : Int32) + (1 : Int32))), .val (.double (FP.l2d x1.toInt64)), .second] d1_36 rfl rfl rfl
  replace k := k.loc #[.val (.ref a1), .val (.double (FP.l2d (((0 : Int64) + x0.toInt64) + x1.toInt64))), .second, .val (.ref a1), .val (.int (3 : Int32)), .val (.int (2 : Int32)), .val (.double (FP.l2d x1.toInt64)), .second] (by rfl)
  replace k := k.goto (pc' := 18) d1_39 (by decide) (by decide)
  replace k := k.iload d1_18 rfl
  replace k := k.iload d1_20 rfl
  replace k := k.icmpNo d1_22 (by decide)
  replace k := k.aloadN d1_25 rfl rfl
  replace k := k.iload d1_26 rfl
  replace k := k.daload d1_28 A1  2 (by decide) (by decide) (by decide) (.double (FP.l2d x2.toInt64)) rfl
  replace k := k.dstore #[.val (.ref a1), .val (.double (FP.l2d (((0 : Int64) + x0.toInt64) + x1.toInt64))), .second, .val (.ref a1), .val (.int (3 : Int32)), .val (.int (2 : Int32)), .val (.double (FP.l2d x2.toInt64)), .second] d1_29 rfl
  replace k := k.dloadN d1_31 rfl
  replace k := k.dload d1_32 rfl
  replace k := k.dadd (FP.l2d ((((0 : Int64) + x0.toInt64) + x1.toInt64) + x2.toInt64)) d1_34 (nn_w (dadd_w (own_bs2 _ _) (own_b1 _))) (dadd_w (own_bs2 _ _) (own_b1 _))
  replace k := k.dstoreN #[.val (.ref a1), .val (.double (FP.l2d ((((0 : Int64) + x0.toInt64) + x1.toInt64) + x2.toInt64))), .second, .val (.ref a1), .val (.int (3 : Int32)), .val (.int (2 : Int32)), .val (.double (FP.l2d x2.toInt64)), .second] d1_35 rfl
  replace k := k.iinc (1 : Int32) #[.val (.ref a1), .val (.double (FP.l2d ((((0 : Int64) + x0.toInt64) + x1.toInt64) + x2.toInt64))), .second, .val (.ref a1), .val (.int (3 : Int32)), .val (.int ((2 : Int32) + (1 : Int32))), .val (.double (FP.l2d x2.toInt64)), .second] d1_36 rfl rfl rfl
  replace k := k.loc #[.val (.ref a1), .val (.double (FP.l2d ((((0 : Int64) + x0.toInt64) + x1.toInt64) + x2.toInt64))), .second, .val (.ref a1), .val (.int (3 : Int32)), .val (.int (3 : Int32)), .val (.double (FP.l2d x2.toInt64)), .second] (by rfl)
  replace k := k.goto (pc' := 18) d1_39 (by decide) (by decide)
  replace k := k.iload d1_18 rfl
  replace k := k.iload d1_20 rfl
  replace k := k.icmpYes (pc' := 42) d1_22 (by decide) (by decide) (by decide)
  replace k := k.dloadN d1_42 rfl
  replace k := k.aloadN d1_43 rfl rfl
  replace k := k.arrlen d1_44 A1 (3 : Int32) (by decide)
  replace k := k.i2d (FP.l2d (3 : Int32).toInt64) d1_45 (i2d_w _)
  replace k := k.ddiv (FP.ddiv (FP.l2d ((((0 : Int64) + x0.toInt64) + x1.toInt64) + x2.toInt64)) (FP.l2d (3 : Int32).toInt64)) d1_46 (own_dn _ own_nz3) rfl
  exact k.dret d1_47 rfl ⟨rfl, rfl⟩ (by decide) (by decide)

set_option maxRecDepth 65536 in
set_option maxHeartbeats 40000000 in
theorem rm1_4 (Z : State) (a0 : Array Value) (hw : ∀ d ∈ tables_1, d.before a0 Z = true) (a1 : Addr) (x0 x1 x2 x3 : Int32) (h0 : Heap) (n0 : Nat) (A1 : Arf Z h0 a1 .double 4 (own_darr [(FP.l2d x0.toInt64), (FP.l2d x1.toInt64), (FP.l2d x2.toInt64), (FP.l2d x3.toInt64)])) :
    Con Z n0 (⟨"com/example/ongoing_interest/ongoinginterest/evaluation/SignificanceTest", "mean", "([D)D"⟩ : MethodName) prog_38_method_6_code 8 (some .double) [] ({ frames := 0, cells := 0, slots := 0, locals := 0 } : Room) #[(.ref a1)] h0 (fun v h => v = some (.double (FP.ddiv (FP.l2d (((((0 : Int64) + x0.toInt64) + x1.toInt64) + x2.toInt64) + x3.toInt64)) (FP.l2d (4 : Int32).toInt64))) ∧ h0 = h) := by
  refine Con.intro (L0 := #[.val (.ref a1), .unset, .unset, .unset, .unset, .unset, .unset, .unset]) (plainFor_of_name (by first | (simp [plainName, overriddenIn]; done) | decide +kernel)) (fun m => by first | (simp [entryFrame, mkF, argsToLocals, Value.category]; done) | rfl) ?_
  intro C k
  replace k := k.aloadN d1_0 rfl rfl
  replace k := k.arrlen d1_1 A1 (4 : Int32) (by decide)
  replace k := k.ifYes (pc' := 7) d1_2 (by decide) (by decide) (by decide)
  replace k := k.dconst0 (FP.l2d 0) d1_7 own_d0
  replace k := k.dstoreN #[.val (.ref a1), .val (.double (FP.l2d 0)), .second, .unset, .unset, .unset, .unset, .unset] d1_8 rfl
  replace k := k.aloadN d1_9 rfl rfl
  replace k := k.astoreN #[.val (.ref a1), .val (.double (FP.l2d 0)), .second, .val (.ref a1), .unset, .unset, .unset, .unset] d1_10 rfl rfl
  replace k := k.aloadN d1_11 rfl rfl
  replace k := k.arrlen d1_12 A1 (4 : Int32) (by decide)
  replace k := k.istore #[.val (.ref a1), .val (.double (FP.l2d 0)), .second, .val (.ref a1), .val (.int (4 : Int32)), .unset, .unset, .unset] d1_13 rfl
  replace k := k.iconst (0 : Int32) d1_15 rfl
  replace k := k.istore #[.val (.ref a1), .val (.double (FP.l2d 0)), .second, .val (.ref a1), .val (.int (4 : Int32)), .val (.int (0 : Int32)), .unset, .unset] d1_16 rfl
  replace k := k.iload d1_18 rfl
  replace k := k.iload d1_20 rfl
  replace k := k.icmpNo d1_22 (by decide)
  replace k := k.aloadN d1_25 rfl rfl
  replace k := k.iload d1_26 rfl
  replace k := k.daload d1_28 A1  0 (by decide) (by decide) (by decide) (.double (FP.l2d x0.toInt64)) rfl
  replace k := k.dstore #[.val (.ref a1), .val (.double (FP.l2d 0)), .second, .val (.ref a1), .val (.int (4 : Int32)), .val (.int (0 : Int32)), .val (.double (FP.l2d x0.toInt64)), .second] d1_29 rfl
  replace k := k.dloadN d1_31 rfl
  replace k := k.dload d1_32 rfl
  replace k := k.dadd (FP.l2d ((0 : Int64) + x0.toInt64)) d1_34 (nn_w (dadd_w (own_bs0 ) (own_b1 _))) (dadd_w (own_bs0 ) (own_b1 _))
  replace k := k.dstoreN #[.val (.ref a1), .val (.double (FP.l2d ((0 : Int64) + x0.toInt64))), .second, .val (.ref a1), .val (.int (4 : Int32)), .val (.int (0 : Int32)), .val (.double (FP.l2d x0.toInt64)), .second] d1_35 rfl
  replace k := k.iinc (1 : Int32) #[.val (.ref a1), .val (.double (FP.l2d ((0 : Int64) + x0.toInt64))), .second, .val (.ref a1), .val (.int (4 : Int32)), .val (.int ((0 : Int32) + (1 : Int32))), .val (.double (FP.l2d x0.toInt64)), .second] d1_36 rfl rfl rfl
  replace k := k.loc #[.val (.ref a1), .val (.double (FP.l2d ((0 : Int64) + x0.toInt64))), .second, .val (.ref a1), .val (.int (4 : Int32)), .val (.int (1 : Int32)), .val (.double (FP.l2d x0.toInt64)), .second] (by rfl)
  replace k := k.goto (pc' := 18) d1_39 (by decide) (by decide)
  replace k := k.iload d1_18 rfl
  replace k := k.iload d1_20 rfl
  replace k := k.icmpNo d1_22 (by decide)
  replace k := k.aloadN d1_25 rfl rfl
  replace k := k.iload d1_26 rfl
  replace k := k.daload d1_28 A1  1 (by decide) (by decide) (by decide) (.double (FP.l2d x1.toInt64)) rfl
  replace k := k.dstore #[.val (.ref a1), .val (.double (FP.l2d ((0 : Int64) + x0.toInt64))), .second, .val (.ref a1), .val (.int (4 : Int32)), .val (.int (1 : Int32)), .val (.double (FP.l2d x1.toInt64)), .second] d1_29 rfl
  replace k := k.dloadN d1_31 rfl
  replace k := k.dload d1_32 rfl
  replace k := k.dadd (FP.l2d (((0 : Int64) + x0.toInt64) + x1.toInt64)) d1_34 (nn_w (dadd_w (own_bs1 _) (own_b1 _))) (dadd_w (own_bs1 _) (own_b1 _))
  replace k := k.dstoreN #[.val (.ref a1), .val (.double (FP.l2d (((0 : Int64) + x0.toInt64) + x1.toInt64))), .second, .val (.ref a1), .val (.int (4 : Int32)), .val (.int (1 : Int32)), .val (.double (FP.l2d x1.toInt64)), .second] d1_35 rfl
  replace k := k.iinc (1 : Int32) #[.val (.ref a1), .val (.double (FP.l2d (((0 : Int64) + x0.toInt64) + x1.toInt64))), .second, .val (.ref a1), .val (.int (4 : Int32)), .val (.int ((1 : Int32) + (1 : Int32))), .val (.double (FP.l2d x1.toInt64)), .second] d1_36 rfl rfl rfl
  replace k := k.loc #[.val (.ref a1), .val (.double (FP.l2d (((0 : Int64) + x0.toInt64) + x1.toInt64))), .second, .val (.ref a1), .val (.int (4 : Int32)), .val (.int (2 : Int32)), .val (.double (FP.l2d x1.toInt64)), .second] (by rfl)
  replace k := k.goto (pc' := 18) d1_39 (by decide) (by decide)
  replace k := k.iload d1_18 rfl
  replace k := k.iload d1_20 rfl
  replace k := k.icmpNo d1_22 (by decide)
  replace k := k.aloadN d1_25 rfl rfl
  replace k := k.iload d1_26 rfl
  replace k := k.daload d1_28 A1  2 (by decide) (by decide) (by decide) (.double (FP.l2d x2.toInt64)) rfl
  replace k := k.dstore #[.val (.ref a1), .val (.double (FP.l2d (((0 : Int64) + x0.toInt64) + x1.toInt64))), .second, .val (.ref a1), .val (.int (4 : Int32)), .val (.int (2 : Int32)), .val (.double (FP.l2d x2.toInt64)), .second] d1_29 rfl
  replace k := k.dloadN d1_31 rfl
  replace k := k.dload d1_32 rfl
  replace k := k.dadd (FP.l2d ((((0 : Int64) + x0.toInt64) + x1.toInt64) + x2.toInt64)) d1_34 (nn_w (dadd_w (own_bs2 _ _) (own_b1 _))) (dadd_w (own_bs2 _ _) (own_b1 _))
  replace k := k.dstoreN #[.val (.ref a1), .val (.double (FP.l2d ((((0 : Int64) + x0.toInt64) + x1.toInt64) + x2.toInt64))), .second, .val (.ref a1), .val (.int (4 : Int32)), .val (.int (2 : Int32)), .val (.double (FP.l2d x2.toInt64)), .second] d1_35 rfl
  replace k := k.iinc (1 : Int32) #[.val (.ref a1), .val (.double (FP.l2d ((((0 : Int64) + x0.toInt64) + x1.toInt64) + x2.toInt64))), .second, .val (.ref a1), .val (.int (4 : Int32)), .val (.int ((2 : Int32) + (1 : Int32))), .val (.double (FP.l2d x2.toInt64)), .second] d1_36 rfl rfl rfl
  replace k := k.loc #[.val (.ref a1), .val (.double (FP.l2d ((((0 : Int64) + x0.toInt64) + x1.toInt64) + x2.toInt64))), .second, .val (.ref a1), .val (.int (4 : Int32)), .val (.int (3 : Int32)), .val (.double (FP.l2d x2.toInt64)), .second] (by rfl)
  replace k := k.goto (pc' := 18) d1_39 (by decide) (by decide)
  replace k := k.iload d1_18 rfl
  replace k := k.iload d1_20 rfl
  replace k := k.icmpNo d1_22 (by decide)
  replace k := k.aloadN d1_25 rfl rfl
  replace k := k.iload d1_26 rfl
  replace k := k.daload d1_28 A1  3 (by decide) (by decide) (by decide) (.double (FP.l2d x3.toInt64)) rfl
  replace k := k.dstore #[.val (.ref a1), .val (.double (FP.l2d ((((0 : Int64) + x0.toInt64) + x1.toInt64) + x2.toInt64))), .second, .val (.ref a1), .val (.int (4 : Int32)), .val (.int (3 : Int32)), .val (.double (FP.l2d x3.toInt64)), .second] d1_29 rfl
  replace k := k.dloadN d1_31 rfl
  replace k := k.dload d1_32 rfl
  replace k := k.dadd (FP.l2d (((((0 : Int64) + x0.toInt64) + x1.toInt64) + x2.toInt64) + x3.toInt64)) d1_34 (nn_w (dadd_w (own_bs3 _ _ _) (own_b1 _))) (dadd_w (own_bs3 _ _ _) (own_b1 _))
  replace k := k.dstoreN #[.val (.ref a1), .val (.double (FP.l2d (((((0 : Int64) + x0.toInt64) + x1.toInt64) + x2.toInt64) + x3.toInt64))), .second, .val (.ref a1), .val (.int (4 : Int32)), .val (.int (3 : Int32)), .val (.double (FP.l2d x3.toInt64)), .second] d1_35 rfl
  replace k := k.iinc (1 : Int32) #[.val (.ref a1), .val (.double (FP.l2d (((((0 : Int64) + x0.toInt64) + x1.toInt64) + x2.toInt64) + x3.toInt64))), .second, .val (.ref a1), .val (.int (4 : Int32)), .val (.int ((3 : Int32) + (1 : Int32))), .val (.double (FP.l2d x3.toInt64)), .second] d1_36 rfl rfl rfl
  replace k := k.loc #[.val (.ref a1), .val (.double (FP.l2d (((((0 : Int64) + x0.toInt64) + x1.toInt64) + x2.toInt64) + x3.toInt64))), .second, .val (.ref a1), .val (.int (4 : Int32)), .val (.int (4 : Int32)), .val (.double (FP.l2d x3.toInt64)), .second] (by rfl)
  replace k := k.goto (pc' := 18) d1_39 (by decide) (by decide)
  replace k := k.iload d1_18 rfl
  replace k := k.iload d1_20 rfl
  replace k := k.icmpYes (pc' := 42) d1_22 (by decide) (by decide) (by decide)
  replace k := k.dloadN d1_42 rfl
  replace k := k.aloadN d1_43 rfl rfl
  replace k := k.arrlen d1_44 A1 (4 : Int32) (by decide)
  replace k := k.i2d (FP.l2d (4 : Int32).toInt64) d1_45 (i2d_w _)
  replace k := k.ddiv (FP.ddiv (FP.l2d (((((0 : Int64) + x0.toInt64) + x1.toInt64) + x2.toInt64) + x3.toInt64)) (FP.l2d (4 : Int32).toInt64)) d1_46 (own_dn _ own_nz4) rfl
  exact k.dret d1_47 rfl ⟨rfl, rfl⟩ (by decide) (by decide)

set_option maxRecDepth 65536 in
set_option maxHeartbeats 40000000 in
theorem rm0 (Z : State) (a0 : Array Value) (hw : ∀ d ∈ tables_1, d.before a0 Z = true) (p1 p2 p3 p4 p5 : Int32) (h0 : Heap) (n0 : Nat) (Z0 : n0 ≤ h0.size) :
    Con Z n0 x code maxLocals ret tables_1 room_1 #[(.int p1), (.int p2), (.int p3), (.int p4), (.int p5)] h0 (fun v h => v = some (.int (1 : Int32))) := by
  refine Con.intro (L0 := #[.val (.int p1), .val (.int p2), .val (.int p3), .val (.int p4), .val (.int p5), .unset, .unset, .unset, .unset, .unset, .unset, .unset, .unset]) (plainFor_of_name (by first | (simp [plainName, overriddenIn]; done) | decide +kernel)) (fun m => by first | (simp [entryFrame, mkF, argsToLocals, Value.category, maxLocals]; done) | rfl) ?_
  intro C k
  replace k := k.iloadN at_0 rfl
  replace k := k.ldcInt at_1 (hw _ (List.mem_of_getElem? (i := 0) rfl))
  replace k := k.iand at_3
  replace k := k.iconst (5 : Int32) at_4 rfl
  replace k := k.irem at_5 (by decide)
  replace k := k.istore #[.val (.int p1), .val (.int p2), .val (.int p3), .val (.int p4), .val (.int p5), .val (.int ((p1 &&& (2147483647 : Int32)) % (5 : Int32))), .unset, .unset, .unset, .unset, .unset, .unset, .unset] at_6 rfl
  rcases own_mod5 p1 with hx5 | hx5 | hx5 | hx5 | hx5
  · skip
    replace k := k.loc #[.val (.int p1), .val (.int p2), .val (.int p3), .val (.int p4), .val (.int p5), .val (.int (0 : Int32)), .unset, .unset, .unset, .unset, .unset, .unset, .unset] (by rw [hx5])
    replace k := k.iload at_8 rfl
    obtain ⟨h101, b101, g101, E101, A101, X101, k⟩ := k.newarr (ad := "[D") at_10 (hw _ (List.mem_of_getElem? (i := 1) rfl)) (by decide) 0 (by decide) 0 (by decide) (by decide) (by decide) (by decide) (by decide)
    have ge_b101 : n0 ≤ b101 := Nat.le_trans Z0 (Nat.le_of_eq g101.symm)
    replace k := k.astore #[.val (.int p1), .val (.int p2), .val (.int p3), .val (.int p4), .val (.int p5), .val (.int (0 : Int32)), .val (.ref b101), .unset, .unset, .unset, .unset, .unset, .unset] at_12 rfl rfl
    replace k := k.iload at_14 rfl
    replace k := k.ifYes (pc' := 25) at_16 (by decide) (by decide) (by decide)
    replace k := k.iload at_25 rfl
    replace k := k.iconst (1 : Int32) at_27 rfl
    replace k := k.icmpYes (pc' := 37) at_28 (by decide) (by decide) (by decide)
    replace k := k.iload at_37 rfl
    replace k := k.iconst (2 : Int32) at_39 rfl
    replace k := k.icmpYes (pc' := 49) at_40 (by decide) (by decide) (by decide)
    replace k := k.iload at_49 rfl
    replace k := k.iconst (3 : Int32) at_51 rfl
    replace k := k.icmpYes (pc' := 62) at_52 (by decide) (by decide) (by decide)
    replace k := k.aload at_62 rfl rfl
    obtain ⟨_, _, ⟨rfl, rfl⟩, k⟩ := k.callS (y := (⟨"com/example/ongoing_interest/ongoinginterest/evaluation/SignificanceTest", "mean", "([D)D"⟩ : MethodName)) at_64 (hw _ (List.mem_of_getElem? (i := 2) rfl)) (hw _ (List.mem_of_getElem? (i := 3) rfl)) (hw _ (List.mem_of_getElem? (i := 4) rfl)) (hw _ (List.mem_of_getElem? (i := 5) rfl)) (W := 0) (argsL := [(.ref b101)]) (rest := []) (rm1_0 Z a0 hw b101  h101 n0 (A101.congr (fun i hi => absurd hi (Nat.not_lt_zero _)))) rfl (pd_0) rfl rfl rfl (by decide) (by decide) (by decide) (by decide) (by decide)
    replace k := k.stk [(.double (FP.l2d 0))] rfl
    replace k := k.dstore #[.val (.int p1), .val (.int p2), .val (.int p3), .val (.int p4), .val (.int p5), .val (.int (0 : Int32)), .val (.ref b101), .val (.double (FP.l2d 0)), .second, .unset, .unset, .unset, .unset] at_67 rfl
    replace k := k.iload at_69 rfl
    replace k := k.ifNo at_71 (by decide)
    replace k := k.dload at_74 rfl
    replace k := k.dconst0 (FP.l2d 0) at_76 own_d0
    replace k := k.dcmp (0 : Int32) at_77 (dcmpV_self (nn_w rfl) _)
    replace k := k.ifNo at_78 (by decide)
    replace k := k.iconst (1 : Int32) at_81 rfl
    replace k := k.goto (pc' := 86) at_82 (by decide) (by decide)
    exact k.iret at_86 rfl (by simp) rfl rfl (by decide) (by decide)
  · skip
    replace k := k.loc #[.val (.int p1), .val (.int p2), .val (.int p3), .val (.int p4), .val (.int p5), .val (.int (1 : Int32)), .unset, .unset, .unset, .unset, .unset, .unset, .unset] (by rw [hx5])
    replace k := k.iload at_8 rfl
    obtain ⟨h102, b102, g102, E102, A102, X102, k⟩ := k.newarr (ad := "[D") at_10 (hw _ (List.mem_of_getElem? (i := 1) rfl)) (by decide) 1 (by decide) 1 (by decide) (by decide) (by decide) (by decide) (by decide)
    have ge_b102 : n0 ≤ b102 := Nat.le_trans Z0 (Nat.le_of_eq g102.symm)
    replace k := k.astore #[.val (.int p1), .val (.int p2), .val (.int p3), .val (.int p4), .val (.int p5), .val (.int (1 : Int32)), .val (.ref b102), .unset, .unset, .unset, .unset, .unset, .unset] at_12 rfl rfl
    replace k := k.iload at_14 rfl
    replace k := k.ifNo at_16 (by decide)
    replace k := k.aload at_19 rfl rfl
    replace k := k.iconst (0 : Int32) at_21 rfl
    replace k := k.iloadN at_22 rfl
    replace k := k.i2d (FP.l2d p2.toInt64) at_23 (i2d_w _)
    obtain ⟨h103, W103, A103, k⟩ := k.dastore at_24 A102 0 (by decide) (by decide) (by decide) ge_b102
    replace k := k.iload at_25 rfl
    replace k := k.iconst (1 : Int32) at_27 rfl
    replace k := k.icmpYes (pc' := 37) at_28 (by decide) (by decide) (by decide)
    replace k := k.iload at_37 rfl
    replace k := k.iconst (2 : Int32) at_39 rfl
    replace k := k.icmpYes (pc' := 49) at_40 (by decide) (by decide) (by decide)
    replace k := k.iload at_49 rfl
    replace k := k.iconst (3 : Int32) at_51 rfl
    replace k := k.icmpYes (pc' := 62) at_52 (by decide) (by decide) (by decide)
    replace k := k.aload at_62 rfl rfl
    obtain ⟨_, _, ⟨rfl, rfl⟩, k⟩ := k.callS (y := (⟨"com/example/ongoing_interest/ongoinginterest/evaluation/SignificanceTest", "mean", "([D)D"⟩ : MethodName)) at_64 (hw _ (List.mem_of_getElem? (i := 2) rfl)) (hw _ (List.mem_of_getElem? (i := 3) rfl)) (hw _ (List.mem_of_getElem? (i := 4) rfl)) (hw _ (List.mem_of_getElem? (i := 5) rfl)) (W := 0) (argsL := [(.ref b102)]) (rest := []) (rm1_1 Z a0 hw b102 p2 h103 n0 (A103.congr (fun i hi => own_cd1 i hi))) rfl (pd_0) rfl rfl rfl (by decide) (by decide) (by decide) (by decide) (by decide)
    replace k := k.stk [(.double (FP.ddiv (FP.l2d ((0 : Int64) + p2.toInt64)) (FP.l2d (1 : Int32).toInt64)))] rfl
    replace k := k.dstore #[.val (.int p1), .val (.int p2), .val (.int p3), .val (.int p4), .val (.int p5), .val (.int (1 : Int32)), .val (.ref b102), .val (.double (FP.ddiv (FP.l2d ((0 : Int64) + p2.toInt64)) (FP.l2d (1 : Int32).toInt64))), .second, .unset, .unset, .unset, .unset] at_67 rfl
    replace k := k.iload at_69 rfl
    replace k := k.ifYes (pc' := 87) at_71 (by decide) (by decide) (by decide)
    replace k := k.lconst (0 : Int64) at_87 rfl
    replace k := k.lstore #[.val (.int p1), .val (.int p2), .val (.int p3), .val (.int p4), .val (.int p5), .val (.int (1 : Int32)), .val (.ref b102), .val (.double (FP.ddiv (FP.l2d ((0 : Int64) + p2.toInt64)) (FP.l2d (1 : Int32).toInt64))), .second, .val (.long (0 : Int64)), .second, .unset, .unset] at_88 rfl
    replace k := k.iload at_90 rfl
    replace k := k.ifNo at_92 (by decide)
    replace k := k.lload at_95 rfl
    replace k := k.iloadN at_97 rfl
    replace k := k.i2l at_98
    replace k := k.ladd at_99
    replace k := k.lstore #[.val (.int p1), .val (.int p2), .val (.int p3), .val (.int p4), .val (.int p5), .val (.int (1 : Int32)), .val (.ref b102), .val (.double (FP.ddiv (FP.l2d ((0 : Int64) + p2.toInt64)) (FP.l2d (1 : Int32).toInt64))), .second, .val (.long ((0 : Int64) + (p2.toInt64))), .second, .unset, .unset] at_100 rfl
    replace k := k.iload at_102 rfl
    replace k := k.iconst (1 : Int32) at_104 rfl
    replace k := k.icmpYes (pc' := 115) at_105 (by decide) (by decide) (by decide)
    replace k := k.iload at_115 rfl
    replace k := k.iconst (2 : Int32) at_117 rfl
    replace k := k.icmpYes (pc' := 128) at_118 (by decide) (by decide) (by decide)
    replace k := k.iload at_128 rfl
    replace k := k.iconst (3 : Int32) at_130 rfl
    replace k := k.icmpYes (pc' := 142) at_131 (by decide) (by decide) (by decide)
    replace k := k.lload at_142 rfl
    replace k := k.l2d (FP.l2d ((0 : Int64) + (p2.toInt64))) at_144 rfl
    replace k := k.iload at_145 rfl
    replace k := k.i2d (FP.l2d (1 : Int32).toInt64) at_147 (i2d_w _)
    replace k := k.ddiv (FP.ddiv (FP.l2d ((0 : Int64) + p2.toInt64)) (FP.l2d (1 : Int32).toInt64)) at_148 (own_dn _ own_nz1) rfl
    replace k := k.dstore #[.val (.int p1), .val (.int p2), .val (.int p3), .val (.int p4), .val (.int p5), .val (.int (1 : Int32)), .val (.ref b102), .val (.double (FP.ddiv (FP.l2d ((0 : Int64) + p2.toInt64)) (FP.l2d (1 : Int32).toInt64))), .second, .val (.long ((0 : Int64) + (p2.toInt64))), .second, .val (.double (FP.ddiv (FP.l2d ((0 : Int64) + p2.toInt64)) (FP.l2d (1 : Int32).toInt64))), .second] at_149 rfl
    replace k := k.dload at_151 rfl
    replace k := k.dload at_153 rfl
    replace k := k.dcmp (0 : Int32) at_155 (dcmpV_self (own_dn _ own_nz1) _)
    replace k := k.ifNo at_156 (by decide)
    replace k := k.iconst (1 : Int32) at_159 rfl
    replace k := k.goto (pc' := 164) at_160 (by decide) (by decide)
    exact k.iret at_164 rfl (by simp) rfl rfl (by decide) (by decide)
  · skip
    replace k := k.loc #[.val (.int p1), .val (.int p2), .val (.int p3), .val (.int p4), .val (.int p5), .val (.int (2 : Int32)), .unset, .unset, .unset, .unset, .unset, .unset, .unset] (by rw [hx5])
    replace k := k.iload at_8 rfl
    obtain ⟨h104, b104, g104, E104, A104, X104, k⟩ := k.newarr (ad := "[D") at_10 (hw _ (List.mem_of_getElem? (i := 1) rfl)) (by decide) 2 (by decide) 2 (by decide) (by decide) (by decide) (by decide) (by decide)
    have ge_b104 : n0 ≤ b104 := Nat.le_trans Z0 (Nat.le_of_eq g104.symm)
    replace k := k.astore #[.val (.int p1), .val (.int p2), .val (.int p3), .val (.int p4), .val (.int p5), .val (.int (2 : Int32)), .val (.ref b104), .unset, .unset, .unset, .unset, .unset, .unset] at_12 rfl rfl
    replace k := k.iload at_14 rfl
    replace k := k.ifNo at_16 (by decide)
    replace k := k.aload at_19 rfl rfl
    replace k := k.iconst (0 : Int32) at_21 rfl
    replace k := k.iloadN at_22 rfl
    replace k := k.i2d (FP.l2d p2.toInt64) at_23 (i2d_w _)
    obtain ⟨h105, W105, A105, k⟩ := k.dastore at_24 A104 0 (by decide) (by decide) (by decide) ge_b104
    replace k := k.iload at_25 rfl
    replace k := k.iconst (1 : Int32) at_27 rfl
    replace k := k.icmpNo at_28 (by decide)
    replace k := k.aload at_31 rfl rfl
    replace k := k.iconst (1 : Int32) at_33 rfl
    replace k := k.iloadN at_34 rfl
    replace k := k.i2d (FP.l2d p3.toInt64) at_35 (i2d_w _)
    obtain ⟨h106, W106, A106, k⟩ := k.dastore at_36 A105 1 (by decide) (by decide) (by decide) ge_b104
    replace k := k.iload at_37 rfl
    replace k := k.iconst (2 : Int32) at_39 rfl
    replace k := k.icmpYes (pc' := 49) at_40 (by decide) (by decide) (by decide)
    replace k := k.iload at_49 rfl
    replace k := k.iconst (3 : Int32) at_51 rfl
    replace k := k.icmpYes (pc' := 62) at_52 (by decide) (by decide) (by decide)
    replace k := k.aload at_62 rfl rfl
    obtain ⟨_, _, ⟨rfl, rfl⟩, k⟩ := k.callS (y := (⟨"com/example/ongoing_interest/ongoinginterest/evaluation/SignificanceTest", "mean", "([D)D"⟩ : MethodName)) at_64 (hw _ (List.mem_of_getElem? (i := 2) rfl)) (hw _ (List.mem_of_getElem? (i := 3) rfl)) (hw _ (List.mem_of_getElem? (i := 4) rfl)) (hw _ (List.mem_of_getElem? (i := 5) rfl)) (W := 0) (argsL := [(.ref b104)]) (rest := []) (rm1_2 Z a0 hw b104 p2 p3 h106 n0 (A106.congr (fun i hi => own_cd2 i hi))) rfl (pd_0) rfl rfl rfl (by decide) (by decide) (by decide) (by decide) (by decide)
    replace k := k.stk [(.double (FP.ddiv (FP.l2d (((0 : Int64) + p2.toInt64) + p3.toInt64)) (FP.l2d (2 : Int32).toInt64)))] rfl
    replace k := k.dstore #[.val (.int p1), .val (.int p2), .val (.int p3), .val (.int p4), .val (.int p5), .val (.int (2 : Int32)), .val (.ref b104), .val (.double (FP.ddiv (FP.l2d (((0 : Int64) + p2.toInt64) + p3.toInt64)) (FP.l2d (2 : Int32).toInt64))), .second, .unset, .unset, .unset, .unset] at_67 rfl
    replace k := k.iload at_69 rfl
    replace k := k.ifYes (pc' := 87) at_71 (by decide) (by decide) (by decide)
    replace k := k.lconst (0 : Int64) at_87 rfl
    replace k := k.lstore #[.val (.int p1), .val (.int p2), .val (.int p3), .val (.int p4), .val (.int p5), .val (.int (2 : Int32)), .val (.ref b104), .val (.double (FP.ddiv (FP.l2d (((0 : Int64) + p2.toInt64) + p3.toInt64)) (FP.l2d (2 : Int32).toInt64))), .second, .val (.long (0 : Int64)), .second, .unset, .unset] at_88 rfl
    replace k := k.iload at_90 rfl
    replace k := k.ifNo at_92 (by decide)
    replace k := k.lload at_95 rfl
    replace k := k.iloadN at_97 rfl
    replace k := k.i2l at_98
    replace k := k.ladd at_99
    replace k := k.lstore #[.val (.int p1), .val (.int p2), .val (.int p3), .val (.int p4), .val (.int p5), .val (.int (2 : Int32)), .val (.ref b104), .val (.double (FP.ddiv (FP.l2d (((0 : Int64) + p2.toInt64) + p3.toInt64)) (FP.l2d (2 : Int32).toInt64))), .second, .val (.long ((0 : Int64) + (p2.toInt64))), .second, .unset, .unset] at_100 rfl
    replace k := k.iload at_102 rfl
    replace k := k.iconst (1 : Int32) at_104 rfl
    replace k := k.icmpNo at_105 (by decide)
    replace k := k.lload at_108 rfl
    replace k := k.iloadN at_110 rfl
    replace k := k.i2l at_111
    replace k := k.ladd at_112
    replace k := k.lstore #[.val (.int p1), .val (.int p2), .val (.int p3), .val (.int p4), .val (.int p5), .val (.int (2 : Int32)), .val (.ref b104), .val (.double (FP.ddiv (FP.l2d (((0 : Int64) + p2.toInt64) + p3.toInt64)) (FP.l2d (2 : Int32).toInt64))), .second, .val (.long (((0 : Int64) + (p2.toInt64)) + (p3.toInt64))), .second, .unset, .unset] at_113 rfl
    replace k := k.iload at_115 rfl
    replace k := k.iconst (2 : Int32) at_117 rfl
    replace k := k.icmpYes (pc' := 128) at_118 (by decide) (by decide) (by decide)
    replace k := k.iload at_128 rfl
    replace k := k.iconst (3 : Int32) at_130 rfl
    replace k := k.icmpYes (pc' := 142) at_131 (by decide) (by decide) (by decide)
    replace k := k.lload at_142 rfl
    replace k := k.l2d (FP.l2d (((0 : Int64) + (p2.toInt64)) + (p3.toInt64))) at_144 rfl
    replace k := k.iload at_145 rfl
    replace k := k.i2d (FP.l2d (2 : Int32).toInt64) at_147 (i2d_w _)
    replace k := k.ddiv (FP.ddiv (FP.l2d (((0 : Int64) + p2.toInt64) + p3.toInt64)) (FP.l2d (2 : Int32).toInt64)) at_148 (own_dn _ own_nz2) rfl
    replace k := k.dstore #[.val (.int p1), .val (.int p2), .val (.int p3), .val (.int p4), .val (.int p5), .val (.int (2 : Int32)), .val (.ref b104), .val (.double (FP.ddiv (FP.l2d (((0 : Int64) + p2.toInt64) + p3.toInt64)) (FP.l2d (2 : Int32).toInt64))), .second, .val (.long (((0 : Int64) + (p2.toInt64)) + (p3.toInt64))), .second, .val (.double (FP.ddiv (FP.l2d (((0 : Int64) + p2.toInt64) + p3.toInt64)) (FP.l2d (2 : Int32).toInt64))), .second] at_149 rfl
    replace k := k.dload at_151 rfl
    replace k := k.dload at_153 rfl
    replace k := k.dcmp (0 : Int32) at_155 (dcmpV_self (own_dn _ own_nz2) _)
    replace k := k.ifNo at_156 (by decide)
    replace k := k.iconst (1 : Int32) at_159 rfl
    replace k := k.goto (pc' := 164) at_160 (by decide) (by decide)
    exact k.iret at_164 rfl (by simp) rfl rfl (by decide) (by decide)
  · skip
    replace k := k.loc #[.val (.int p1), .val (.int p2), .val (.int p3), .val (.int p4), .val (.int p5), .val (.int (3 : Int32)), .unset, .unset, .unset, .unset, .unset, .unset, .unset] (by rw [hx5])
    replace k := k.iload at_8 rfl
    obtain ⟨h107, b107, g107, E107, A107, X107, k⟩ := k.newarr (ad := "[D") at_10 (hw _ (List.mem_of_getElem? (i := 1) rfl)) (by decide) 3 (by decide) 3 (by decide) (by decide) (by decide) (by decide) (by decide)
    have ge_b107 : n0 ≤ b107 := Nat.le_trans Z0 (Nat.le_of_eq g107.symm)
    replace k := k.astore #[.val (.int p1), .val (.int p2), .val (.int p3), .val (.int p4), .val (.int p5), .val (.int (3 : Int32)), .val (.ref b107), .unset, .unset, .unset, .unset, .unset, .unset] at_12 rfl rfl
    replace k := k.iload at_14 rfl
    replace k := k.ifNo at_16 (by decide)
    replace k := k.aload at_19 rfl rfl
    replace k := k.iconst (0 : Int32) at_21 rfl
    replace k := k.iloadN at_22 rfl
    replace k := k.i2d (FP.l2d p2.toInt64) at_23 (i2d_w _)
    obtain ⟨h108, W108, A108, k⟩ := k.dastore at_24 A107 0 (by decide) (by decide) (by decide) ge_b107
    replace k := k.iload at_25 rfl
    replace k := k.iconst (1 : Int32) at_27 rfl
    replace k := k.icmpNo at_28 (by decide)
    replace k := k.aload at_31 rfl rfl
    replace k := k.iconst (1 : Int32) at_33 rfl
    replace k := k.iloadN at_34 rfl
    replace k := k.i2d (FP.l2d p3.toInt64) at_35 (i2d_w _)
    obtain ⟨h109, W109, A109, k⟩ := k.dastore at_36 A108 1 (by decide) (by decide) (by decide) ge_b107
    replace k := k.iload at_37 rfl
    replace k := k.iconst (2 : Int32) at_39 rfl
    replace k := k.icmpNo at_40 (by decide)
    replace k := k.aload at_43 rfl rfl
    replace k := k.iconst (2 : Int32) at_45 rfl
    replace k := k.iloadN at_46 rfl
    replace k := k.i2d (FP.l2d p4.toInt64) at_47 (i2d_w _)
    obtain ⟨h110, W110, A110, k⟩ := k.dastore at_48 A109 2 (by decide) (by decide) (by decide) ge_b107
    replace k := k.iload at_49 rfl
    replace k := k.iconst (3 : Int32) at_51 rfl
    replace k := k.icmpYes (pc' := 62) at_52 (by decide) (by decide) (by decide)
    replace k := k.aload at_62 rfl rfl
    obtain ⟨_, _, ⟨rfl, rfl⟩, k⟩ := k.callS (y := (⟨"com/example/ongoing_interest/ongoinginterest/evaluation/SignificanceTest", "mean", "([D)D"⟩ : MethodName)) at_64 (hw _ (List.mem_of_getElem? (i := 2) rfl)) (hw _ (List.mem_of_getElem? (i := 3) rfl)) (hw _ (List.mem_of_getElem? (i := 4) rfl)) (hw _ (List.mem_of_getElem? (i := 5) rfl)) (W := 0) (argsL := [(.ref b107)]) (rest := []) (rm1_3 Z a0 hw b107 p2 p3 p4 h110 n0 (A110.congr (fun i hi => own_cd3 i hi))) rfl (pd_0) rfl rfl rfl (by decide) (by decide) (by decide) (by decide) (by decide)
    replace k := k.stk [(.double (FP.ddiv (FP.l2d ((((0 : Int64) + p2.toInt64) + p3.toInt64) + p4.toInt64)) (FP.l2d (3 : Int32).toInt64)))] rfl
    replace k := k.dstore #[.val (.int p1), .val (.int p2), .val (.int p3), .val (.int p4), .val (.int p5), .val (.int (3 : Int32)), .val (.ref b107), .val (.double (FP.ddiv (FP.l2d ((((0 : Int64) + p2.toInt64) + p3.toInt64) + p4.toInt64)) (FP.l2d (3 : Int32).toInt64))), .second, .unset, .unset, .unset, .unset] at_67 rfl
    replace k := k.iload at_69 rfl
    replace k := k.ifYes (pc' := 87) at_71 (by decide) (by decide) (by decide)
    replace k := k.lconst (0 : Int64) at_87 rfl
    replace k := k.lstore #[.val (.int p1), .val (.int p2), .val (.int p3), .val (.int p4), .val (.int p5), .val (.int (3 : Int32)), .val (.ref b107), .val (.double (FP.ddiv (FP.l2d ((((0 : Int64) + p2.toInt64) + p3.toInt64) + p4.toInt64)) (FP.l2d (3 : Int32).toInt64))), .second, .val (.long (0 : Int64)), .second, .unset, .unset] at_88 rfl
    replace k := k.iload at_90 rfl
    replace k := k.ifNo at_92 (by decide)
    replace k := k.lload at_95 rfl
    replace k := k.iloadN at_97 rfl
    replace k := k.i2l at_98
    replace k := k.ladd at_99
    replace k := k.lstore #[.val (.int p1), .val (.int p2), .val (.int p3), .val (.int p4), .val (.int p5), .val (.int (3 : Int32)), .val (.ref b107), .val (.double (FP.ddiv (FP.l2d ((((0 : Int64) + p2.toInt64) + p3.toInt64) + p4.toInt64)) (FP.l2d (3 : Int32).toInt64))), .second, .val (.long ((0 : Int64) + (p2.toInt64))), .second, .unset, .unset] at_100 rfl
    replace k := k.iload at_102 rfl
    replace k := k.iconst (1 : Int32) at_104 rfl
    replace k := k.icmpNo at_105 (by decide)
    replace k := k.lload at_108 rfl
    replace k := k.iloadN at_110 rfl
    replace k := k.i2l at_111
    replace k := k.ladd at_112
    replace k := k.lstore #[.val (.int p1), .val (.int p2), .val (.int p3), .val (.int p4), .val (.int p5), .val (.int (3 : Int32)), .val (.ref b107), .val (.double (FP.ddiv (FP.l2d ((((0 : Int64) + p2.toInt64) + p3.toInt64) + p4.toInt64)) (FP.l2d (3 : Int32).toInt64))), .second, .val (.long (((0 : Int64) + (p2.toInt64)) + (p3.toInt64))), .second, .unset, .unset] at_113 rfl
    replace k := k.iload at_115 rfl
    replace k := k.iconst (2 : Int32) at_117 rfl
    replace k := k.icmpNo at_118 (by decide)
    replace k := k.lload at_121 rfl
    replace k := k.iloadN at_123 rfl
    replace k := k.i2l at_124
    replace k := k.ladd at_125
    replace k := k.lstore #[.val (.int p1), .val (.int p2), .val (.int p3), .val (.int p4), .val (.int p5), .val (.int (3 : Int32)), .val (.ref b107), .val (.double (FP.ddiv (FP.l2d ((((0 : Int64) + p2.toInt64) + p3.toInt64) + p4.toInt64)) (FP.l2d (3 : Int32).toInt64))), .second, .val (.long ((((0 : Int64) + (p2.toInt64)) + (p3.toInt64)) + (p4.toInt64))), .second, .unset, .unset] at_126 rfl
    replace k := k.iload at_128 rfl
    replace k := k.iconst (3 : Int32) at_130 rfl
    replace k := k.icmpYes (pc' := 142) at_131 (by decide) (by decide) (by decide)
    replace k := k.lload at_142 rfl
    replace k := k.l2d (FP.l2d ((((0 : Int64) + (p2.toInt64)) + (p3.toInt64)) + (p4.toInt64))) at_144 rfl
    replace k := k.iload at_145 rfl
    replace k := k.i2d (FP.l2d (3 : Int32).toInt64) at_147 (i2d_w _)
    replace k := k.ddiv (FP.ddiv (FP.l2d ((((0 : Int64) + p2.toInt64) + p3.toInt64) + p4.toInt64)) (FP.l2d (3 : Int32).toInt64)) at_148 (own_dn _ own_nz3) rfl
    replace k := k.dstore #[.val (.int p1), .val (.int p2), .val (.int p3), .val (.int p4), .val (.int p5), .val (.int (3 : Int32)), .val (.ref b107), .val (.double (FP.ddiv (FP.l2d ((((0 : Int64) + p2.toInt64) + p3.toInt64) + p4.toInt64)) (FP.l2d (3 : Int32).toInt64))), .second, .val (.long ((((0 : Int64) + (p2.toInt64)) + (p3.toInt64)) + (p4.toInt64))), .second, .val (.double (FP.ddiv (FP.l2d ((((0 : Int64) + p2.toInt64) + p3.toInt64) + p4.toInt64)) (FP.l2d (3 : Int32).toInt64))), .second] at_149 rfl
    replace k := k.dload at_151 rfl
    replace k := k.dload at_153 rfl
    replace k := k.dcmp (0 : Int32) at_155 (dcmpV_self (own_dn _ own_nz3) _)
    replace k := k.ifNo at_156 (by decide)
    replace k := k.iconst (1 : Int32) at_159 rfl
    replace k := k.goto (pc' := 164) at_160 (by decide) (by decide)
    exact k.iret at_164 rfl (by simp) rfl rfl (by decide) (by decide)
  · skip
    replace k := k.loc #[.val (.int p1), .val (.int p2), .val (.int p3), .val (.int p4), .val (.int p5), .val (.int (4 : Int32)), .unset, .unset, .unset, .unset, .unset, .unset, .unset] (by rw [hx5])
    replace k := k.iload at_8 rfl
    obtain ⟨h111, b111, g111, E111, A111, X111, k⟩ := k.newarr (ad := "[D") at_10 (hw _ (List.mem_of_getElem? (i := 1) rfl)) (by decide) 4 (by decide) 4 (by decide) (by decide) (by decide) (by decide) (by decide)
    have ge_b111 : n0 ≤ b111 := Nat.le_trans Z0 (Nat.le_of_eq g111.symm)
    replace k := k.astore #[.val (.int p1), .val (.int p2), .val (.int p3), .val (.int p4), .val (.int p5), .val (.int (4 : Int32)), .val (.ref b111), .unset, .unset, .unset, .unset, .unset, .unset] at_12 rfl rfl
    replace k := k.iload at_14 rfl
    replace k := k.ifNo at_16 (by decide)
    replace k := k.aload at_19 rfl rfl
    replace k := k.iconst (0 : Int32) at_21 rfl
    replace k := k.iloadN at_22 rfl
    replace k := k.i2d (FP.l2d p2.toInt64) at_23 (i2d_w _)
    obtain ⟨h112, W112, A112, k⟩ := k.dastore at_24 A111 0 (by decide) (by decide) (by decide) ge_b111
    replace k := k.iload at_25 rfl
    replace k := k.iconst (1 : Int32) at_27 rfl
    replace k := k.icmpNo at_28 (by decide)
    replace k := k.aload at_31 rfl rfl
    replace k := k.iconst (1 : Int32) at_33 rfl
    replace k := k.iloadN at_34 rfl
    replace k := k.i2d (FP.l2d p3.toInt64) at_35 (i2d_w _)
    obtain ⟨h113, W113, A113, k⟩ := k.dastore at_36 A112 1 (by decide) (by decide) (by decide) ge_b111
    replace k := k.iload at_37 rfl
    replace k := k.iconst (2 : Int32) at_39 rfl
    replace k := k.icmpNo at_40 (by decide)
    replace k := k.aload at_43 rfl rfl
    replace k := k.iconst (2 : Int32) at_45 rfl
    replace k := k.iloadN at_46 rfl
    replace k := k.i2d (FP.l2d p4.toInt64) at_47 (i2d_w _)
    obtain ⟨h114, W114, A114, k⟩ := k.dastore at_48 A113 2 (by decide) (by decide) (by decide) ge_b111
    replace k := k.iload at_49 rfl
    replace k := k.iconst (3 : Int32) at_51 rfl
    replace k := k.icmpNo at_52 (by decide)
    replace k := k.aload at_55 rfl rfl
    replace k := k.iconst (3 : Int32) at_57 rfl
    replace k := k.iload at_58 rfl
    replace k := k.i2d (FP.l2d p5.toInt64) at_60 (i2d_w _)
    obtain ⟨h115, W115, A115, k⟩ := k.dastore at_61 A114 3 (by decide) (by decide) (by decide) ge_b111
    replace k := k.aload at_62 rfl rfl
    obtain ⟨_, _, ⟨rfl, rfl⟩, k⟩ := k.callS (y := (⟨"com/example/ongoing_interest/ongoinginterest/evaluation/SignificanceTest", "mean", "([D)D"⟩ : MethodName)) at_64 (hw _ (List.mem_of_getElem? (i := 2) rfl)) (hw _ (List.mem_of_getElem? (i := 3) rfl)) (hw _ (List.mem_of_getElem? (i := 4) rfl)) (hw _ (List.mem_of_getElem? (i := 5) rfl)) (W := 0) (argsL := [(.ref b111)]) (rest := []) (rm1_4 Z a0 hw b111 p2 p3 p4 p5 h115 n0 (A115.congr (fun i hi => own_cd4 i hi))) rfl (pd_0) rfl rfl rfl (by decide) (by decide) (by decide) (by decide) (by decide)
    replace k := k.stk [(.double (FP.ddiv (FP.l2d (((((0 : Int64) + p2.toInt64) + p3.toInt64) + p4.toInt64) + p5.toInt64)) (FP.l2d (4 : Int32).toInt64)))] rfl
    replace k := k.dstore #[.val (.int p1), .val (.int p2), .val (.int p3), .val (.int p4), .val (.int p5), .val (.int (4 : Int32)), .val (.ref b111), .val (.double (FP.ddiv (FP.l2d (((((0 : Int64) + p2.toInt64) + p3.toInt64) + p4.toInt64) + p5.toInt64)) (FP.l2d (4 : Int32).toInt64))), .second, .unset, .unset, .unset, .unset] at_67 rfl
    replace k := k.iload at_69 rfl
    replace k := k.ifYes (pc' := 87) at_71 (by decide) (by decide) (by decide)
    replace k := k.lconst (0 : Int64) at_87 rfl
    replace k := k.lstore #[.val (.int p1), .val (.int p2), .val (.int p3), .val (.int p4), .val (.int p5), .val (.int (4 : Int32)), .val (.ref b111), .val (.double (FP.ddiv (FP.l2d (((((0 : Int64) + p2.toInt64) + p3.toInt64) + p4.toInt64) + p5.toInt64)) (FP.l2d (4 : Int32).toInt64))), .second, .val (.long (0 : Int64)), .second, .unset, .unset] at_88 rfl
    replace k := k.iload at_90 rfl
    replace k := k.ifNo at_92 (by decide)
    replace k := k.lload at_95 rfl
    replace k := k.iloadN at_97 rfl
    replace k := k.i2l at_98
    replace k := k.ladd at_99
    replace k := k.lstore #[.val (.int p1), .val (.int p2), .val (.int p3), .val (.int p4), .val (.int p5), .val (.int (4 : Int32)), .val (.ref b111), .val (.double (FP.ddiv (FP.l2d (((((0 : Int64) + p2.toInt64) + p3.toInt64) + p4.toInt64) + p5.toInt64)) (FP.l2d (4 : Int32).toInt64))), .second, .val (.long ((0 : Int64) + (p2.toInt64))), .second, .unset, .unset] at_100 rfl
    replace k := k.iload at_102 rfl
    replace k := k.iconst (1 : Int32) at_104 rfl
    replace k := k.icmpNo at_105 (by decide)
    replace k := k.lload at_108 rfl
    replace k := k.iloadN at_110 rfl
    replace k := k.i2l at_111
    replace k := k.ladd at_112
    replace k := k.lstore #[.val (.int p1), .val (.int p2), .val (.int p3), .val (.int p4), .val (.int p5), .val (.int (4 : Int32)), .val (.ref b111), .val (.double (FP.ddiv (FP.l2d (((((0 : Int64) + p2.toInt64) + p3.toInt64) + p4.toInt64) + p5.toInt64)) (FP.l2d (4 : Int32).toInt64))), .second, .val (.long (((0 : Int64) + (p2.toInt64)) + (p3.toInt64))), .second, .unset, .unset] at_113 rfl
    replace k := k.iload at_115 rfl
    replace k := k.iconst (2 : Int32) at_117 rfl
    replace k := k.icmpNo at_118 (by decide)
    replace k := k.lload at_121 rfl
    replace k := k.iloadN at_123 rfl
    replace k := k.i2l at_124
    replace k := k.ladd at_125
    replace k := k.lstore #[.val (.int p1), .val (.int p2), .val (.int p3), .val (.int p4), .val (.int p5), .val (.int (4 : Int32)), .val (.ref b111), .val (.double (FP.ddiv (FP.l2d (((((0 : Int64) + p2.toInt64) + p3.toInt64) + p4.toInt64) + p5.toInt64)) (FP.l2d (4 : Int32).toInt64))), .second, .val (.long ((((0 : Int64) + (p2.toInt64)) + (p3.toInt64)) + (p4.toInt64))), .second, .unset, .unset] at_126 rfl
    replace k := k.iload at_128 rfl
    replace k := k.iconst (3 : Int32) at_130 rfl
    replace k := k.icmpNo at_131 (by decide)
    replace k := k.lload at_134 rfl
    replace k := k.iload at_136 rfl
    replace k := k.i2l at_138
    replace k := k.ladd at_139
    replace k := k.lstore #[.val (.int p1), .val (.int p2), .val (.int p3), .val (.int p4), .val (.int p5), .val (.int (4 : Int32)), .val (.ref b111), .val (.double (FP.ddiv (FP.l2d (((((0 : Int64) + p2.toInt64) + p3.toInt64) + p4.toInt64) + p5.toInt64)) (FP.l2d (4 : Int32).toInt64))), .second, .val (.long (((((0 : Int64) + (p2.toInt64)) + (p3.toInt64)) + (p4.toInt64)) + (p5.toInt64))), .second, .unset, .unset] at_140 rfl
    replace k := k.lload at_142 rfl
    replace k := k.l2d (FP.l2d (((((0 : Int64) + (p2.toInt64)) + (p3.toInt64)) + (p4.toInt64)) + (p5.toInt64))) at_144 rfl
    replace k := k.iload at_145 rfl
    replace k := k.i2d (FP.l2d (4 : Int32).toInt64) at_147 (i2d_w _)
    replace k := k.ddiv (FP.ddiv (FP.l2d (((((0 : Int64) + p2.toInt64) + p3.toInt64) + p4.toInt64) + p5.toInt64)) (FP.l2d (4 : Int32).toInt64)) at_148 (own_dn _ own_nz4) rfl
    replace k := k.dstore #[.val (.int p1), .val (.int p2), .val (.int p3), .val (.int p4), .val (.int p5), .val (.int (4 : Int32)), .val (.ref b111), .val (.double (FP.ddiv (FP.l2d (((((0 : Int64) + p2.toInt64) + p3.toInt64) + p4.toInt64) + p5.toInt64)) (FP.l2d (4 : Int32).toInt64))), .second, .val (.long (((((0 : Int64) + (p2.toInt64)) + (p3.toInt64)) + (p4.toInt64)) + (p5.toInt64))), .second, .val (.double (FP.ddiv (FP.l2d (((((0 : Int64) + p2.toInt64) + p3.toInt64) + p4.toInt64) + p5.toInt64)) (FP.l2d (4 : Int32).toInt64))), .second] at_149 rfl
    replace k := k.dload at_151 rfl
    replace k := k.dload at_153 rfl
    replace k := k.dcmp (0 : Int32) at_155 (dcmpV_self (own_dn _ own_nz4) _)
    replace k := k.ifNo at_156 (by decide)
    replace k := k.iconst (1 : Int32) at_159 rfl
    replace k := k.goto (pc' := 164) at_160 (by decide) (by decide)
    exact k.iret at_164 rfl (by simp) rfl rfl (by decide) (by decide)
set_option maxRecDepth 65536 in
set_option maxHeartbeats 40000000 in
theorem comes_1 {Post : Tables → Env → Array Value → State → Outcome → State → Prop} (hpost : ∀ tb e args s v u, (limb_1_1.after args s (.returned v) u = true ∧ limb_1_2.after args s (.returned v) u = true ∧ True) → FrameEnd s (.returned v) u (Jvm.fieldLocs frame_1_writes args s ++ Jvm.arrayLocs frame_1_arrays args s ++ Jvm.staticLocs frame_1_statics s) 16 128 → Post tb e args s (.returned v) u) :
    ArmFor flags0 classFile x code maxLocals ret World_1 tables_1 room_1 Calls_1 rest_1 Pre_1 Post := by
  intro l hfl _ _ p e ha hc hk s m args below hf hA hF happ hP
  obtain ⟨hcalls, hrest, hpre⟩ := hP
  obtain ⟨-, -, -, hnamed, -, -, -, hat⟩ := (Spec.applies_iff hf).mp happ
  obtain ⟨hg, hn⟩ := and_e (Cond.before_iff.mp (show (Jvm.Cond.and given_1 narrow_1).before args s = true from hpre))
  obtain ⟨gg0, gr0⟩ := and_e hg
  obtain ⟨gg1, gr1⟩ := and_e gr0
  obtain ⟨gg2, gr2⟩ := and_e gr1
  obtain ⟨gg3, gr3⟩ := and_e gr2
  obtain ⟨gg4, gr4⟩ := and_e gr3
  obtain ⟨w0, w1, w2, w3, w4, rfl⟩ : ∃ w0 w1 w2 w3 w4 : Value, args = #[w0, w1, w2, w3, w4] := by
    have hs : args.size = 5 := by simpa [Cond.value, given_1] using gg0
    obtain ⟨L⟩ := args
    match L, hs with
    | [w0, w1, w2, w3, w4], _ => exact ⟨w0, w1, w2, w3, w4, rfl⟩
  have hw := fun d (hd : d ∈ tables_1) => atoms_spec (ws := Jvm.Cond.code x code maxLocals ret :: tables_1) hat d (List.mem_cons_of_mem _ hd)
  have hfit : Fit s := fun {y c} hc i hi => by
    obtain ⟨ha, rfl⟩ := Array.getElem?_eq_some_iff.mp hc
    have q := List.all_eq_true.mp ((Array.all_eq_true_iff_forall_mem.mp hF) _ (Array.getElem_mem ha)) i (List.mem_range.mpr hi)
    simpa [Array.getElem?_eq_getElem hi] using q
  obtain ⟨i0, ei0⟩ := is_v gg1
  obtain rfl : w0 = (.int i0) := Option.some.inj ei0
  obtain ⟨i1, ei1⟩ := is_v gg2
  obtain rfl : w1 = (.int i1) := Option.some.inj ei1
  obtain ⟨i2, ei2⟩ := is_v gg3
  obtain rfl : w2 = (.int i2) := Option.some.inj ei2
  obtain ⟨i3, ei3⟩ := is_v gg4
  obtain rfl : w3 = (.int i3) := Option.some.inj ei3
  obtain ⟨i4, ei4⟩ := is_v gr4
  obtain rfl : w4 = (.int i4) := Option.some.inj ei4
  obtain ⟨n, o, h1, h2, h3, _, L, rfl, ⟨rfl, N⟩, hq⟩ := rm0 s _ hw i0 i1 i2 i3 i4  s.heap s.heap.size (Nat.le_refl _) l p e ha hc hk s m _ below hf ((Spec.applies_iff_loose hf).mp happ).1 ⟨rfl, State.Warmed39.refl s, rfl⟩ trivial
  refine ⟨n, _, h1, h2, h3, hpost _ _ _ _ _ _ ⟨Cond.after_iff.mpr rfl, Cond.after_iff.mpr (eq_i res_at (Term.int_eval (1)) rfl), trivial⟩ ⟨hq.1, hq.2.1, (hq.2.2.sift fun y hy => Or.inr (N y hy)).mono (by decide) (by decide)⟩⟩
theorem main_1_1 : Claimed_1_1 := comes_1 fun _ _ _ _ _ _ h hF => ⟨h.1, hF⟩
theorem main_1_2 : Claimed_1_2 := comes_1 fun _ _ _ _ _ _ h hF => ⟨h.2.1, hF⟩
end Jvm.Pilot.@@N@@
namespace Jvm.Pilot.@@N@@
open Jvm Jvm.ClassFile Sem Op Lib Jvm.Free Jvm.Stand Jvm.Pilot.@@N@@.Jvm.D
/-! MADE BY PROGRAM (witnessworld.py) out of the Statement's table words and the real class files: 12 classes; the members and pool entries that the words name. The judged class is class 1, her method 1. -/
namespace start1
open Jvm.ClassFile
def u (s : String) : CpInfo := .utf8 (stringToUtf16 s)
/-- a pool by its gaps: so many unusable entries, then the entry; so many at the end -/
def gap : Nat → List CpInfo → List CpInfo
  | 0, r => r
  | n + 1, r => .unusable :: gap n r
def poolList (es : List (Nat × CpInfo)) (last : Nat) : List CpInfo := es.foldr (fun e r => gap e.1 (e.2 :: r)) (gap last [])
def pool (es : List (Nat × CpInfo)) (last : Nat) : Array CpInfo := ⟨poolList es last⟩
def fileOf (pool : Array CpInfo) (this : Nat) (attrs : Array Attribute := #[]) (ms : Array MethodInfo := #[]) (fl : Nat := 33) (sup : Nat := 0) (ifs : Array Nat := #[]) (fds : Array FieldInfo := #[]) : ClassFile where
  minorVersion := 0
  majorVersion := 65
  constantPool := pool
  accessFlags := fl
  thisClass := this
  superClass := sup
  interfaces := ifs
  fields := fds
  methods := ms
  attributes := attrs
def plain (name : String) (sup : Option ClassId) : Class where
  name := name
  kind := .ordinary
  loader := none
  accessFlags := 33
  super := sup
  interfaces := #[]
  cf := none
  fields := #[]
  methods := #[]
  instanceTypes := #[]
  staticTypes := #[]
  resolved := #[]
  callSites := []
  init := .initialized
  statics := none
  mirror := none

def pool0 : Array CpInfo := pool [(5, u "<init>"), (0, u "()V"), (1, .class_ 10), (1, u "java/lang/Object")] 113

def k0m0 : Method := { name := "<init>", desc := "()V", sig := { parameters := [], returnType := none }, accessFlags := 1, code := none }
/-- java/lang/Object -/
def k0 : Class := { plain "java/lang/Object" none with
  accessFlags := 33
  interfaces := #[]
  cf := some (fileOf pool0 8 #[] #[{ accessFlags := 1, nameIndex := 5, descriptorIndex := 6, attributes := #[] }] 33 0 #[] #[])
  fields := #[]
  methods := #[k0m0]
  instanceTypes := #[]
  staticTypes := #[]
  resolved := Array.replicate 124 none
  statics := none }

def pool1 : Array CpInfo := pool [(2, .class_ 4), (1, u "java/lang/Object"), (0, u "<init>"), (0, u "()V"), (0, .integer 2147483647), (0, .methodref 9 10), (0, .class_ 11), (0, .nameAndType 12 13), (0, u "com/example/ongoing_interest/ongoinginterest/evaluation/SignificanceTest"), (0, u "mean"), (0, u "([D)D"), (0, .class_ 15), (0, u "com/example/ongoing_interest/ongoinginterest/evaluation/SignificanceTestMeanPinLaw"), (2, u "law"), (0, u "(IIIII)Z")] 5

def k1m0 : Method := { name := "<init>", desc := "()V", sig := { parameters := [], returnType := none }, accessFlags := 1, code := none }
def k1c1 : Code := { maxStack := 4, maxLocals := 13, code := code, exceptionTable := #[], attributes := #[] }
def k1m1 : Method := { name := "law", desc := "(IIIII)Z", sig := { parameters := [.int, .int, .int, .int, .int], returnType := some .boolean }, accessFlags := 9, code := some k1c1 }
/-- com/example/ongoing_interest/ongoinginterest/evaluation/SignificanceTestMeanPinLaw -/
def k1 : Class := { plain "com/example/ongoing_interest/ongoinginterest/evaluation/SignificanceTestMeanPinLaw" (some 0) with
  accessFlags := 49
  interfaces := #[]
  cf := some (fileOf pool1 14 #[] #[{ accessFlags := 1, nameIndex := 5, descriptorIndex := 6, attributes := #[] }, { accessFlags := 9, nameIndex := 18, descriptorIndex := 19, attributes := #[] }] 49 2 #[] #[])
  fields := #[]
  methods := #[k1m0, k1m1]
  instanceTypes := #[]
  staticTypes := #[]
  resolved := Array.replicate 25 none
  statics := none }

def pool2 : Array CpInfo := pool [(1, .class_ 2), (0, u "java/lang/constant/Constable"), (0, .class_ 4), (0, u "java/lang/Object")] 6

/-- java/lang/constant/Constable -/
def k2 : Class := { plain "java/lang/constant/Constable" (some 0) with
  accessFlags := 1537
  interfaces := #[]
  cf := some (fileOf pool2 1 #[] #[] 1537 3 #[] #[])
  fields := #[]
  methods := #[]
  instanceTypes := #[]
  staticTypes := #[]
  resolved := Array.replicate 11 none
  statics := none }

def pool3 : Array CpInfo := pool [(1, .class_ 2), (0, u "java/lang/Comparable"), (0, .class_ 4), (0, u "java/lang/Object")] 7

/-- java/lang/Comparable -/
def k3 : Class := { plain "java/lang/Comparable" (some 0) with
  accessFlags := 1537
  interfaces := #[]
  cf := some (fileOf pool3 1 #[] #[] 1537 3 #[] #[])
  fields := #[]
  methods := #[]
  instanceTypes := #[]
  staticTypes := #[]
  resolved := Array.replicate 12 none
  statics := none }

def pool4 : Array CpInfo := pool [(1, .class_ 2), (0, u "java/io/Serializable"), (0, .class_ 4), (0, u "java/lang/Object")] 2

/-- java/io/Serializable -/
def k4 : Class := { plain "java/io/Serializable" (some 0) with
  accessFlags := 1537
  interfaces := #[]
  cf := some (fileOf pool4 1 #[] #[] 1537 3 #[] #[])
  fields := #[]
  methods := #[]
  instanceTypes := #[]
  staticTypes := #[]
  resolved := Array.replicate 7 none
  statics := none }

def pool5 : Array CpInfo := pool [(2, .class_ 4), (1, u "java/lang/Enum"), (0, u "name"), (0, u "Ljava/lang/String;"), (2, u "ordinal"), (0, u "I"), (1, .class_ 14), (1, u "java/lang/Object"), (4, u "hash"), (86, .class_ 108), (1, u "java/lang/Enum$EnumDesc"), (2, .class_ 112), (0, u "java/lang/constant/Constable"), (0, .class_ 114), (0, u "java/lang/Comparable"), (0, .class_ 116), (0, u "java/io/Serializable")] 87

/-- java/lang/Enum -/
def k5 : Class := { plain "java/lang/Enum" (some 0) with
  accessFlags := 1057
  interfaces := #[2, 3, 4]
  cf := some (fileOf pool5 2 #[.nestMembers #[106]] #[] 1057 12 #[111, 113, 115] #[{ accessFlags := 18, nameIndex := 5, descriptorIndex := 6, attributes := #[] }, { accessFlags := 18, nameIndex := 9, descriptorIndex := 10, attributes := #[] }, { accessFlags := 2, nameIndex := 19, descriptorIndex := 10, attributes := #[] }])
  fields := #[{ name := "name", type := (.object "java/lang/String"), accessFlags := 18, slot := 0, constantValue := 0 }, { name := "ordinal", type := .int, accessFlags := 18, slot := 1, constantValue := 0 }, { name := "hash", type := .int, accessFlags := 2, slot := 2, constantValue := 0 }]
  methods := #[]
  instanceTypes := #[(.object "java/lang/String"), .int, .int]
  staticTypes := #[]
  resolved := Array.replicate 204 none
  statics := none }

def pool6 : Array CpInfo := pool [(1, .class_ 2), (0, u "com/example/ongoing_interest/ongoinginterest/evaluation/SignificanceTest"), (2, u "PAIRED_T"), (0, u "Lcom/example/ongoing_interest/ongoinginterest/evaluation/SignificanceTest;"), (2, u "WILCOXON"), (2, u "$VALUES"), (0, u "[Lcom/example/ongoing_interest/ongoinginterest/evaluation/SignificanceTest;"), (6, .class_ 22), (1, u "java/lang/Enum"), (8, u "label"), (0, u "Ljava/lang/String;"), (0, .class_ 34), (0, u "com/example/ongoing_interest/ongoinginterest/evaluation/SignificanceTest$1"), (6, .class_ 42), (0, u "com/example/ongoing_interest/ongoinginterest/evaluation/SignificanceTest$2"), (17, u "([D)D"), (0, u "mean")] 13

def k6c0 : Code := { maxStack := 4, maxLocals := 8, code := prog_38_method_6_code, exceptionTable := #[], attributes := #[] }
def k6m0 : Method := { name := "mean", desc := "([D)D", sig := { parameters := [(.array .double)], returnType := some .double }, accessFlags := 8, code := some k6c0 }
/-- com/example/ongoing_interest/ongoinginterest/evaluation/SignificanceTest -/
def k6 : Class := { plain "com/example/ongoing_interest/ongoinginterest/evaluation/SignificanceTest" (some 5) with
  accessFlags := 17441
  interfaces := #[]
  cf := some (fileOf pool6 1 #[.nestMembers #[41, 33]] #[{ accessFlags := 8, nameIndex := 61, descriptorIndex := 60, attributes := #[] }] 17441 20 #[] #[{ accessFlags := 16409, nameIndex := 5, descriptorIndex := 6, attributes := #[] }, { accessFlags := 16409, nameIndex := 9, descriptorIndex := 6, attributes := #[] }, { accessFlags := 18, nameIndex := 31, descriptorIndex := 32, attributes := #[] }, { accessFlags := 4122, nameIndex := 12, descriptorIndex := 13, attributes := #[] }])
  fields := #[{ name := "PAIRED_T", type := (.object "com/example/ongoing_interest/ongoinginterest/evaluation/SignificanceTest"), accessFlags := 16409, slot := 0, constantValue := 0 }, { name := "WILCOXON", type := (.object "com/example/ongoing_interest/ongoinginterest/evaluation/SignificanceTest"), accessFlags := 16409, slot := 1, constantValue := 0 }, { name := "label", type := (.object "java/lang/String"), accessFlags := 18, slot := 3, constantValue := 0 }, { name := "$VALUES", type := (.array (.object "com/example/ongoing_interest/ongoinginterest/evaluation/SignificanceTest")), accessFlags := 4122, slot := 2, constantValue := 0 }]
  methods := #[k6m0]
  instanceTypes := #[(.object "java/lang/String"), .int, .int, (.object "java/lang/String")]
  staticTypes := #[(.object "com/example/ongoing_interest/ongoinginterest/evaluation/SignificanceTest"), (.object "com/example/ongoing_interest/ongoinginterest/evaluation/SignificanceTest"), (.array (.object "com/example/ongoing_interest/ongoinginterest/evaluation/SignificanceTest"))]
  resolved := Array.replicate 75 none
  statics := none }

def pool7 : Array CpInfo := pool [(1, u "java/lang/Cloneable"), (0, .class_ 1), (0, u "java/lang/Object"), (0, .class_ 3)] 3

/-- java/lang/Cloneable -/
def k7 : Class := { plain "java/lang/Cloneable" (some 0) with
  accessFlags := 1537
  interfaces := #[]
  cf := some (fileOf pool7 2 #[] #[] 1537 4 #[] #[])
  fields := #[]
  methods := #[]
  instanceTypes := #[]
  staticTypes := #[]
  resolved := Array.replicate 8 none
  statics := none }

/-- the primitive byte -/
def k8 : Class := { plain "byte" none with kind := .primitive 'B', accessFlags := 0x411 }
/-- [B -/
def k9 : Class := { plain "[B" (some 0) with kind := .array 8 .byte, interfaces := #[7, 4], accessFlags := 1041 }

/-- the primitive int -/
def k10 : Class := { plain "double" none with kind := .primitive 'D', accessFlags := 0x411 }
/-- [I -/
def k11 : Class := { plain "[D" (some 0) with kind := .array 10 .double, interfaces := #[7, 4], accessFlags := 1041 }

def heap : Heap := #[]
def classes : Array Class := #[k0, k1, k2, k3, k4, k5, k6, k7, k8, k9, k10, k11]
def interned : List (Array UInt16 × Addr) := []
def slotsUsed : Nat := 0
def theMethod : MethodId := ⟨1, 1⟩
def args0 : Array Value := #[.int 5, .int 7, .int 8, .int 9, .int 10]
def aboutOver (below : List Frame) : State where
  vm := { classes := classes, interned := interned.toArray }
  heap := heap
  slotsUsed := slotsUsed
  threads := #[{ frames := .invoking theMethod args0 :: below }]
def below0 : List Frame := [.native { method := ⟨0, 0⟩, args := #[] }]
def about1 : State := aboutOver below0
def p0 : Program := .bare "" "" ""
def e0 : Env := launch0.env 0 0 0
theorem w_frames : about1.frames = Frame.invoking theMethod args0 :: below0 := rfl
set_option maxRecDepth 65536 in
theorem w_args : argsFit about1.vm theMethod args0 = true := by decide +kernel
set_option maxRecDepth 65536 in
theorem w_heap : heapFits about1 = true := by decide +kernel
set_option maxRecDepth 65536 in
theorem w_runnable : about1.curStatus? = some .runnable := by decide +kernel
set_option maxRecDepth 65536 in
theorem w_alone : about1.alone = true := by decide +kernel
set_option maxRecDepth 65536 in
theorem w_named : about1.methodNamed? x = some theMethod := by decide +kernel
set_option maxRecDepth 65536 in
theorem w_hears : about1.hears theMethod below0 = true := by decide +kernel
set_option maxRecDepth 65536 in
theorem w_ripe : about1.ripe theMethod args0 below0 = true := by decide +kernel
theorem w_running : about1.status = .running := rfl
set_option maxRecDepth 65536 in
theorem w_room : about1.hasRoom e0.platform room_1 = true :=
  launch0.hasRoom_least _ room_1 (by decide +kernel) (by decide +kernel) (by decide +kernel) (by decide +kernel) (by decide +kernel) (by decide +kernel)
theorem allAtoms_all (ts : List Jvm.Cond) (a : Array Jvm.Value) (st : Jvm.State) : (allAtoms ts).before a st = ts.all (fun c => c.before a st) := by
  induction ts with
  | nil => rfl
  | cons c t ih =>
    show (Jvm.Cond.and c (allAtoms t)).before a st = _
    rw [Jvm.Cond.before_and, ih, List.all_cons]
def words1 : List Jvm.Cond := Jvm.Cond.code x code maxLocals ret :: tables_1
/-- a 'code' word, met by the world's own term for the bytes: nothing is compared byte by byte -/
theorem code_word {y : MethodName} {bytes : ByteArray} {mx : Nat} {rt : Option FieldType} {a : Array Value} {s : State} {m : MethodId} {meth : Method} {c : Code} (h1 : s.methodNamed? y = some m) (h2 : s.vm.method? m = some meth) (h3 : meth.code = some c) (h4 : c.code = bytes)
    (h5 : (c.maxLocals == mx && c.exceptionTable.isEmpty && decide (c.maxStack ≤ mostOperands) && decide (meth.sig.returnType = rt) && !meth.locks && decide (parseMethodDescriptor y.desc = some meth.sig)) = true) : (Jvm.Cond.code y bytes mx rt).before a s = true := by
  simp only [Bool.and_eq_true, beq_iff_eq, Bool.not_eq_true', decide_eq_true_eq] at h5
  obtain ⟨⟨⟨⟨⟨g1, g2⟩, g3⟩, g4⟩, g5⟩, g6⟩ := h5
  simp [Cond.before, Cond.holds, Cond.value, h1, h2, h3, h4, g1, g2, g3, g4, g5, g6]
def isCode : Jvm.Cond → Bool
  | .code _ _ _ _ => true
  | _ => false
theorem all_split {L : List Jvm.Cond} {P : Jvm.Cond → Bool} (h1 : L.all (fun c => isCode c || P c) = true) (h2 : ∀ c ∈ L.filter isCode, P c = true) : L.all P = true := by
  refine List.all_eq_true.mpr fun c hc => ?_
  have h := List.all_eq_true.mp h1 c hc
  rcases Bool.eq_false_or_eq_true (isCode c) with hi | hi
  · exact h2 c (List.mem_filter.mpr ⟨hc, hi⟩)
  · simpa [hi] using h
set_option maxRecDepth 65536 in
theorem w_c0 : (Jvm.Cond.code x code maxLocals ret).before args0 about1 = true := code_word (m := ⟨1, 1⟩) (meth := k1m1) (c := k1c1) (by decide +kernel) rfl rfl rfl (by decide +kernel)
set_option maxRecDepth 65536 in
theorem w_c1 : (Jvm.Cond.code ({ cls := "com/example/ongoing_interest/ongoinginterest/evaluation/SignificanceTest", name := "mean", desc := "([D)D" } : Jvm.MethodName) prog_38_method_6_code (8 : Nat) (Option.some Jvm.ClassFile.FieldType.double)).before args0 about1 = true := code_word (m := ⟨6, 0⟩) (meth := k6m0) (c := k6c0) (by decide +kernel) rfl rfl rfl (by decide +kernel)
def codes1 : List Jvm.Cond := [Jvm.Cond.code x code maxLocals ret, Jvm.Cond.code ({ cls := "com/example/ongoing_interest/ongoinginterest/evaluation/SignificanceTest", name := "mean", desc := "([D)D" } : Jvm.MethodName) prog_38_method_6_code (8 : Nat) (Option.some Jvm.ClassFile.FieldType.double)]
set_option maxRecDepth 65536 in
theorem codes_eq : words1.filter isCode = codes1 := rfl
theorem w_codes : ∀ c ∈ words1.filter isCode, c.before args0 about1 = true := by
  rw [codes_eq]
  intro c hc
  simp only [codes1, List.mem_cons, List.not_mem_nil, or_false] at hc
  rcases hc with rfl | rfl
  · exact w_c0
  · exact w_c1
set_option maxRecDepth 65536 in
theorem w_t1 : words1.all (fun c => isCode c || c.before args0 about1) = true := by decide +kernel
theorem w_tables : (allAtoms (Jvm.Cond.code x code maxLocals ret :: tables_1)).before args0 about1 = true := by
  rw [allAtoms_all]
  show words1.all (fun c => c.before args0 about1) = true
  refine all_split ?_ w_codes
  rw [w_t1]
set_option maxRecDepth 65536 in
theorem w_case : (Jvm.Cond.and given_1 narrow_1).before args0 about1 = true := by decide +kernel
theorem w_applies : (headSpec (Jvm.Cond.code x code maxLocals ret :: tables_1) room_1).applies x e0.platform about1 = true :=
  (Spec.applies_iff w_frames).mpr ⟨w_running, w_runnable, w_alone, w_named, w_hears, w_ripe, w_room, w_tables⟩
theorem atStart : AtStart classFile x code maxLocals ret World_1 tables_1 room_1 Calls_1 rest_1 Pre_1 launch0 p0 e0 about1 theMethod args0 below0 :=
  ⟨lists_1, trivial, launch0.admits_env _ _ _, launch0.least_env, fairChoices_fair.cas, fairChoices_fair.clock, w_frames, w_args, w_heap, w_applies, trivial, trivial, w_case⟩
end start1
theorem witness_1 : WitnessClaimed_1 := ⟨start1.p0, start1.e0, start1.about1, start1.theMethod, start1.args0, start1.below0, start1.atStart⟩
end Jvm.Pilot.@@N@@
