import JvmDerived
import JvmDerived.Pilot.@@N@@Statement
import JvmDerived.Pilot.@@N@@Code
set_option linter.unusedVariables false
set_option linter.unusedSimpArgs false
namespace Jvm.Own
open Sem ClassFile Op Lib Jvm.Stand Jvm.Free Jvm.LawKit Jvm.RoadKit
/-! A walk, forward: 'Run' says that the invocation's first state reaches this frame. -/
abbrev Cx := Program × Launch × Env × State × MethodId × Array Value × List Frame × Method × Code × State
def RunI (p : Program) (l : Launch) (e : Env) (s : State) (m : MethodId) (args : Array Value) (below : List Frame) (meth : Method) (c : Code) (A : State) (R : Room) (Z : State) (n0 : Nat) (own nm : String) (ret : Option FieldType) (bytes : ByteArray) (mx : Nat) (h : Heap) (cells slots pc : Nat) (L : Array Slot) (S : List Value) : Prop :=
  p.tables.exec = Jvm.exec ∧ c.code = bytes ∧ c.maxLocals = mx ∧ s.vm.findClass own = some m.cls ∧ Z.Warmed39 s.vm ∧ meth.name = nm ∧ meth.sig.returnType = ret ∧ meth.locks = false ∧
    ∃ (T : State) (locs : List Loc), Stand p l e R s m args below meth c T locs cells slots ∧ Fr n0 locs ∧ T.heap = h ∧ ∀ t, Steps p.tables e below (T.setTop (mkF m pc L S)) t → Steps p.tables e below A t
def Run (C : Cx) (R : Room) (Z : State) (n0 : Nat) (own nm : String) (ret : Option FieldType) (bytes : ByteArray) (mx : Nat) (h : Heap) (cells slots pc : Nat) (L : Array Slot) (S : List Value) : Prop :=
  RunI C.1 C.2.1 C.2.2.1 C.2.2.2.1 C.2.2.2.2.1 C.2.2.2.2.2.1 C.2.2.2.2.2.2.1 C.2.2.2.2.2.2.2.1 C.2.2.2.2.2.2.2.2.1 C.2.2.2.2.2.2.2.2.2 R Z n0 own nm ret bytes mx h cells slots pc L S
def FinI (p : Program) (e : Env) (s : State) (below : List Frame) (A : State) (R : Room) (n0 : Nat) (Q : Option Value → Heap → Prop) : Prop :=
  ∃ s₂ o, Steps p.tables e below A s₂ ∧ s₂.status = .running ∧ Ended s₂ below o ∧ ∃ v L, o = .returned v ∧ (Q v s₂.heap ∧ Fr n0 L) ∧ FrameEnd s o s₂ L R.cells R.slots
def Fini (C : Cx) (R : Room) (n0 : Nat) (Q : Option Value → Heap → Prop) : Prop := FinI C.1 C.2.2.1 C.2.2.2.1 C.2.2.2.2.2.2.1 C.2.2.2.2.2.2.2.2.2 R n0 Q
/-- a method's contract: called with 'as' at the heap h0 it returns, and Q says what; nothing that stood below n0 is written -/
def Con (Z : State) (n0 : Nat) (y : MethodName) (bytes : ByteArray) (mx : Nat) (ret : Option FieldType) (ws : List Jvm.Cond) (rm : Room) (as : Array Value) (h0 : Heap) (Q : Option Value → Heap → Prop) : Prop :=
  ∀ l : Launch, MetFree l y (head1 (Jvm.Cond.code y bytes mx ret :: ws) rm) (fun a U => a = as ∧ Z.Warmed39 U.vm ∧ U.heap = h0) (fun _ _ _ _ _ => True) (fun _ U o U' => ∃ v L, o = .returned v ∧ (Q v U'.heap ∧ Fr n0 L) ∧ FrameEnd U o U' L rm.cells rm.slots)
theorem Con.intro {Z : State} {n0 : Nat} {y : MethodName} {bytes : ByteArray} {mx : Nat} {ret : Option FieldType} {ws : List Jvm.Cond} {rm : Room} {as : Array Value} {h0 : Heap} {Q : Option Value → Heap → Prop} {L0 : Array Slot}
    (hp : plainFor y = true) (hef : ∀ m, entryFrame m as mx = mkF m 0 L0 []) (body : ∀ C : Cx, Run C rm Z n0 y.cls y.name ret bytes mx h0 0 0 0 L0 [] → Fini C rm n0 Q) : Con Z n0 y bytes mx ret ws rm as h0 Q := by
  intro l
  refine MetFree.of_bodySF hp hisR ?_
  intro p e s m args below meth c s₁ Bd hml0 hP hK
  obtain ⟨rfl, hZ, hh⟩ := hP
  have hown : s.vm.findClass y.cls = some m.cls := findClass_of_methodNamed Bd.named
  have X0 : Stand p l e rm s m args below meth c s₁ [] 0 0 := Stand.of_body Bd
  have e0 : s₁.heap = h0 := by rw [← hh, Bd.state]; rfl
  have k : Run (p, l, e, s, m, args, below, meth, c, s₁.setTop (entryFrame m args mx)) rm Z n0 y.cls y.name ret bytes mx h0 0 0 0 L0 [] :=
    ⟨Bd.exec, Bd.bytes, hml0, hown, hZ, (name_of_methodNamed Bd.named Bd.method).1, Bd.returns, Bd.notSynchronized, s₁, [], X0, Fr.nil n0, e0, fun t kt => castTop (hef m) kt⟩
  exact body _ k
theorem ac_eq {x y : Value} (q : x = y) : XT.acmp .eq x y = true ∧ XT.acmp .ne x y = false := ⟨decide_eq_true q, decide_eq_false (fun z => z q)⟩
theorem ac_ne {x y : Value} (q : x ≠ y) : XT.acmp .eq x y = false ∧ XT.acmp .ne x y = true := ⟨decide_eq_false q, decide_eq_true q⟩
/-! an array by a function of the place -/
def updV (f : Nat → Value) (i : Nat) (v : Value) : Nat → Value := fun j => if j = i then v else f j
theorem updV_same (f : Nat → Value) (i : Nat) (v : Value) : updV f i v i = v := if_pos rfl
theorem updV_ne {f : Nat → Value} {i j : Nat} {v : Value} (q : j ≠ i) : updV f i v j = f j := if_neg q
def Arf (Z : State) (h : Heap) (a : Addr) (ty : FieldType) (n : Nat) (f : Nat → Value) : Prop := ∃ c : Cell, Arr Z h a c ty ∧ c.slots.size = n ∧ ∀ i, i < n → c.slots[i]? = some (f i)
section Arrays
variable {Z : State} {h h' : Heap} {a b : Addr} {ty : FieldType} {n sl : Nat} {f g : Nat → Value} {v : Value} {ws : List Addr}
theorem Arf.lt (F : Arf Z h a ty n f) : a < h.size := by obtain ⟨c, A, -⟩ := F; exact A.lt
theorem Arf.ext (F : Arf Z h a ty n f) (E : Ext h h') : Arf Z h' a ty n f := by obtain ⟨c, A, r⟩ := F; exact ⟨c, Arr.ext E A, r⟩
theorem Arf.other (F : Arf Z h b ty n f) (W : Wr h h' a sl v) (q : b ≠ a) : Arf Z h' b ty n f := by obtain ⟨c, A, r⟩ := F; exact ⟨c, Arr.other W A q, r⟩
theorem Arf.keep (F : Arf Z h a ty n f) (K : Keep h h' ws) (q : a ∉ ws) : Arf Z h' a ty n f := by obtain ⟨c, A, r⟩ := F; exact ⟨c, ⟨K.2.1 a c A.1 q, A.2⟩, r⟩
theorem Arf.set (F : Arf Z h a ty n f) {i : Nat} (W : Wr h h' a i v) (hi : i < n) : Arf Z h' a ty n (updV f i v) := by
  obtain ⟨c, A, S, H⟩ := F
  refine ⟨_, Arr.same W A, (sz_set _ _ _).trans S, fun j hj => ?_⟩
  by_cases q : j = i
  · subst q
    rw [updV_same]
    have hs : j < c.slots.size := by omega
    simp [Cell.setSlot, hs]
  · rw [updV_ne q]
    simp only [Cell.setSlot]
    rw [Array.getElem?_setIfInBounds_ne (Ne.symm q)]
    exact H j hj
theorem Arf.congr (F : Arf Z h a ty n f) (q : ∀ i, i < n → f i = g i) : Arf Z h a ty n g := by obtain ⟨c, A, S, H⟩ := F; exact ⟨c, A, S, fun i hi => q i hi ▸ H i hi⟩
theorem Sta.keepN {Cn m d : String} (F : Sta Z h Cn m d v) (K : Keep h h' ws) (q : ∀ x ∈ ws, ∀ c : Cell, h[x]? = some c → c.vm.isStatics = false) : Sta Z h' Cn m d v := by
  obtain ⟨cf, i, k, f, st, cell, h1, h2, h3, h4, h5, h6, h7⟩ := F
  refine ⟨cf, i, k, f, st, cell, h1, h2, h3, h4, K.2.1 st cell h5 (fun z => ?_), h6, h7⟩
  rw [q st z cell h5] at h6; cases h6
theorem Exa.nost {Cn : String} (F : Exa Z h a Cn) : ∀ c : Cell, h[a]? = some c → c.vm.isStatics = false := fun c hc => by
  obtain ⟨cell, k, h1, -, -, h4, -⟩ := F
  cases hc.symm.trans h1; exact h4
theorem Arf.nost (F : Arf Z h a ty n f) : ∀ c : Cell, h[a]? = some c → c.vm.isStatics = false := fun c hc => by
  obtain ⟨cell, A, -⟩ := F
  cases hc.symm.trans A.1; exact A.plain
end Arrays
section Steps
variable {C : Cx} {R : Room} {Z : State} {n0 : Nat} {own nm : String} {ret : Option FieldType} {bytes : ByteArray} {mx : Nat} {h : Heap} {cells slots pc : Nat} {L : Array Slot} {S : List Value}

theorem Run.iloadN {k : Fin 4} {v : Int32} (K : Run C R Z n0 own nm ret bytes mx h cells slots pc L S) (hd : decode bytes pc = .ok (.iload_n k, 1)) (hl : L[k.val]? = some (.val (.int v))) : Run C R Z n0 own nm ret bytes mx h cells slots (pc + 1) L (.int v :: S) := by
  obtain ⟨hx, hby, hml, hown, hZ, hnm, hrt, hlk, T, locs, X, N, eT, st⟩ := K
  exact ⟨hx, hby, hml, hown, hZ, hnm, hrt, hlk, T, locs, X, N, eT, fun t kt => st t (XS.iloadN X.here hx rfl (hb hby hd) hl kt)⟩
theorem Run.iload {k : Nat} {v : Int32} (K : Run C R Z n0 own nm ret bytes mx h cells slots pc L S) (hd : decode bytes pc = .ok (.iload k, 2)) (hl : L[k]? = some (.val (.int v))) : Run C R Z n0 own nm ret bytes mx h cells slots (pc + 2) L (.int v :: S) := by
  obtain ⟨hx, hby, hml, hown, hZ, hnm, hrt, hlk, T, locs, X, N, eT, st⟩ := K
  exact ⟨hx, hby, hml, hown, hZ, hnm, hrt, hlk, T, locs, X, N, eT, fun t kt => st t (XS.iload X.here hx rfl (hb hby hd) hl kt)⟩
theorem Run.lloadN {k : Fin 4} {v : Int64} (K : Run C R Z n0 own nm ret bytes mx h cells slots pc L S) (hd : decode bytes pc = .ok (.lload_n k, 1)) (hl : L[k.val]? = some (.val (.long v))) : Run C R Z n0 own nm ret bytes mx h cells slots (pc + 1) L (.long v :: S) := by
  obtain ⟨hx, hby, hml, hown, hZ, hnm, hrt, hlk, T, locs, X, N, eT, st⟩ := K
  exact ⟨hx, hby, hml, hown, hZ, hnm, hrt, hlk, T, locs, X, N, eT, fun t kt => st t (XS.lloadN X.here hx rfl (hb hby hd) hl kt)⟩
theorem Run.lload {k : Nat} {v : Int64} (K : Run C R Z n0 own nm ret bytes mx h cells slots pc L S) (hd : decode bytes pc = .ok (.lload k, 2)) (hl : L[k]? = some (.val (.long v))) : Run C R Z n0 own nm ret bytes mx h cells slots (pc + 2) L (.long v :: S) := by
  obtain ⟨hx, hby, hml, hown, hZ, hnm, hrt, hlk, T, locs, X, N, eT, st⟩ := K
  exact ⟨hx, hby, hml, hown, hZ, hnm, hrt, hlk, T, locs, X, N, eT, fun t kt => st t (XS.lload X.here hx rfl (hb hby hd) hl kt)⟩
theorem Run.aloadN {k : Fin 4} {v : Value} (K : Run C R Z n0 own nm ret bytes mx h cells slots pc L S) (hd : decode bytes pc = .ok (.aload_n k, 1)) (hl : L[k.val]? = some (.val v)) (hv : v.isRef = true) : Run C R Z n0 own nm ret bytes mx h cells slots (pc + 1) L (v :: S) := by
  obtain ⟨hx, hby, hml, hown, hZ, hnm, hrt, hlk, T, locs, X, N, eT, st⟩ := K
  exact ⟨hx, hby, hml, hown, hZ, hnm, hrt, hlk, T, locs, X, N, eT, fun t kt => st t (XS.aloadN X.here hx rfl (hb hby hd) hl hv kt)⟩
theorem Run.aload {k : Nat} {v : Value} (K : Run C R Z n0 own nm ret bytes mx h cells slots pc L S) (hd : decode bytes pc = .ok (.aload k, 2)) (hl : L[k]? = some (.val v)) (hv : v.isRef = true) : Run C R Z n0 own nm ret bytes mx h cells slots (pc + 2) L (v :: S) := by
  obtain ⟨hx, hby, hml, hown, hZ, hnm, hrt, hlk, T, locs, X, N, eT, st⟩ := K
  exact ⟨hx, hby, hml, hown, hZ, hnm, hrt, hlk, T, locs, X, N, eT, fun t kt => st t (XS.aload X.here hx rfl (hb hby hd) hl hv kt)⟩
theorem Run.istoreN {k : Fin 4} {v : Int32} (l' : Array Slot) (K : Run C R Z n0 own nm ret bytes mx h cells slots pc L (.int v :: S)) (hd : decode bytes pc = .ok (.istore_n k, 1)) (hl : storeLocals L k.val (.int v) = some l') : Run C R Z n0 own nm ret bytes mx h cells slots (pc + 1) l' S := by
  obtain ⟨hx, hby, hml, hown, hZ, hnm, hrt, hlk, T, locs, X, N, eT, st⟩ := K
  exact ⟨hx, hby, hml, hown, hZ, hnm, hrt, hlk, T, locs, X, N, eT, fun t kt => st t (XS.istoreN X.here hx rfl (hb hby hd) rfl hl kt)⟩
theorem Run.istore {k : Nat} {v : Int32} (l' : Array Slot) (K : Run C R Z n0 own nm ret bytes mx h cells slots pc L (.int v :: S)) (hd : decode bytes pc = .ok (.istore k, 2)) (hl : storeLocals L k (.int v) = some l') : Run C R Z n0 own nm ret bytes mx h cells slots (pc + 2) l' S := by
  obtain ⟨hx, hby, hml, hown, hZ, hnm, hrt, hlk, T, locs, X, N, eT, st⟩ := K
  exact ⟨hx, hby, hml, hown, hZ, hnm, hrt, hlk, T, locs, X, N, eT, fun t kt => st t (XS.istore X.here hx rfl (hb hby hd) rfl hl kt)⟩
theorem Run.lstoreN {k : Fin 4} {v : Int64} (l' : Array Slot) (K : Run C R Z n0 own nm ret bytes mx h cells slots pc L (.long v :: S)) (hd : decode bytes pc = .ok (.lstore_n k, 1)) (hl : storeLocals L k.val (.long v) = some l') : Run C R Z n0 own nm ret bytes mx h cells slots (pc + 1) l' S := by
  obtain ⟨hx, hby, hml, hown, hZ, hnm, hrt, hlk, T, locs, X, N, eT, st⟩ := K
  exact ⟨hx, hby, hml, hown, hZ, hnm, hrt, hlk, T, locs, X, N, eT, fun t kt => st t (XS.lstoreN X.here hx rfl (hb hby hd) rfl hl kt)⟩
theorem Run.lstore {k : Nat} {v : Int64} (l' : Array Slot) (K : Run C R Z n0 own nm ret bytes mx h cells slots pc L (.long v :: S)) (hd : decode bytes pc = .ok (.lstore k, 2)) (hl : storeLocals L k (.long v) = some l') : Run C R Z n0 own nm ret bytes mx h cells slots (pc + 2) l' S := by
  obtain ⟨hx, hby, hml, hown, hZ, hnm, hrt, hlk, T, locs, X, N, eT, st⟩ := K
  exact ⟨hx, hby, hml, hown, hZ, hnm, hrt, hlk, T, locs, X, N, eT, fun t kt => st t (XS.lstore X.here hx rfl (hb hby hd) rfl hl kt)⟩
theorem Run.astoreN {k : Fin 4} {v : Value} (l' : Array Slot) (K : Run C R Z n0 own nm ret bytes mx h cells slots pc L (v :: S)) (hd : decode bytes pc = .ok (.astore_n k, 1)) (hv : v.isRef = true) (hl : storeLocals L k.val v = some l') : Run C R Z n0 own nm ret bytes mx h cells slots (pc + 1) l' S := by
  obtain ⟨hx, hby, hml, hown, hZ, hnm, hrt, hlk, T, locs, X, N, eT, st⟩ := K
  exact ⟨hx, hby, hml, hown, hZ, hnm, hrt, hlk, T, locs, X, N, eT, fun t kt => st t (XS.astoreN X.here hx rfl (hb hby hd) rfl hv hl kt)⟩
theorem Run.astore {k : Nat} {v : Value} (l' : Array Slot) (K : Run C R Z n0 own nm ret bytes mx h cells slots pc L (v :: S)) (hd : decode bytes pc = .ok (.astore k, 2)) (hv : v.isRef = true) (hl : storeLocals L k v = some l') : Run C R Z n0 own nm ret bytes mx h cells slots (pc + 2) l' S := by
  obtain ⟨hx, hby, hml, hown, hZ, hnm, hrt, hlk, T, locs, X, N, eT, st⟩ := K
  exact ⟨hx, hby, hml, hown, hZ, hnm, hrt, hlk, T, locs, X, N, eT, fun t kt => st t (XS.astore X.here hx rfl (hb hby hd) rfl hv hl kt)⟩
theorem Run.iconst {i : Int} (z : Int32) (K : Run C R Z n0 own nm ret bytes mx h cells slots pc L S) (hd : decode bytes pc = .ok (.iconst i, 1)) (hz : Int32.ofInt i = z) : Run C R Z n0 own nm ret bytes mx h cells slots (pc + 1) L (.int z :: S) := by
  obtain ⟨hx, hby, hml, hown, hZ, hnm, hrt, hlk, T, locs, X, N, eT, st⟩ := K
  exact ⟨hx, hby, hml, hown, hZ, hnm, hrt, hlk, T, locs, X, N, eT, fun t kt => st t (XS.iconst X.here hx rfl (hb hby hd) (by rw [hz]; exact kt))⟩
theorem Run.bipush {i : Int} (z : Int32) (K : Run C R Z n0 own nm ret bytes mx h cells slots pc L S) (hd : decode bytes pc = .ok (.bipush i, 2)) (hz : (Int8.ofInt i).toInt32 = z) : Run C R Z n0 own nm ret bytes mx h cells slots (pc + 2) L (.int z :: S) := by
  obtain ⟨hx, hby, hml, hown, hZ, hnm, hrt, hlk, T, locs, X, N, eT, st⟩ := K
  exact ⟨hx, hby, hml, hown, hZ, hnm, hrt, hlk, T, locs, X, N, eT, fun t kt => st t (XS.bipush X.here hx rfl (hb hby hd) (by rw [hz]; exact kt))⟩
theorem Run.sipush {i : Int} (z : Int32) (K : Run C R Z n0 own nm ret bytes mx h cells slots pc L S) (hd : decode bytes pc = .ok (.sipush i, 3)) (hz : (Int16.ofInt i).toInt32 = z) : Run C R Z n0 own nm ret bytes mx h cells slots (pc + 3) L (.int z :: S) := by
  obtain ⟨hx, hby, hml, hown, hZ, hnm, hrt, hlk, T, locs, X, N, eT, st⟩ := K
  exact ⟨hx, hby, hml, hown, hZ, hnm, hrt, hlk, T, locs, X, N, eT, fun t kt => st t (XS.sipush X.here hx rfl (hb hby hd) (by rw [hz]; exact kt))⟩
theorem Run.lconst {i : Fin 2} (z : Int64) (K : Run C R Z n0 own nm ret bytes mx h cells slots pc L S) (hd : decode bytes pc = .ok (.lconst i, 1)) (hz : Int64.ofNat i = z) : Run C R Z n0 own nm ret bytes mx h cells slots (pc + 1) L (.long z :: S) := by
  obtain ⟨hx, hby, hml, hown, hZ, hnm, hrt, hlk, T, locs, X, N, eT, st⟩ := K
  exact ⟨hx, hby, hml, hown, hZ, hnm, hrt, hlk, T, locs, X, N, eT, fun t kt => st t (XS.lconst X.here hx rfl (hb hby hd) (by rw [hz]; exact kt))⟩
theorem Run.aconstNull  (K : Run C R Z n0 own nm ret bytes mx h cells slots pc L S) (hd : decode bytes pc = .ok (.aconst_null, 1))  : Run C R Z n0 own nm ret bytes mx h cells slots (pc + 1) L (.null :: S) := by
  obtain ⟨hx, hby, hml, hown, hZ, hnm, hrt, hlk, T, locs, X, N, eT, st⟩ := K
  exact ⟨hx, hby, hml, hown, hZ, hnm, hrt, hlk, T, locs, X, N, eT, fun t kt => st t (XS.aconstNull X.here hx rfl (hb hby hd) kt)⟩
theorem Run.iadd {x y : Int32} (K : Run C R Z n0 own nm ret bytes mx h cells slots pc L (.int y :: .int x :: S)) (hd : decode bytes pc = .ok (.iadd, 1))  : Run C R Z n0 own nm ret bytes mx h cells slots (pc + 1) L (.int (x + y) :: S) := by
  obtain ⟨hx, hby, hml, hown, hZ, hnm, hrt, hlk, T, locs, X, N, eT, st⟩ := K
  exact ⟨hx, hby, hml, hown, hZ, hnm, hrt, hlk, T, locs, X, N, eT, fun t kt => st t (XS.iadd X.here hx rfl (hb hby hd) rfl kt)⟩
theorem Run.isub {x y : Int32} (K : Run C R Z n0 own nm ret bytes mx h cells slots pc L (.int y :: .int x :: S)) (hd : decode bytes pc = .ok (.isub, 1))  : Run C R Z n0 own nm ret bytes mx h cells slots (pc + 1) L (.int (x - y) :: S) := by
  obtain ⟨hx, hby, hml, hown, hZ, hnm, hrt, hlk, T, locs, X, N, eT, st⟩ := K
  exact ⟨hx, hby, hml, hown, hZ, hnm, hrt, hlk, T, locs, X, N, eT, fun t kt => st t (XS.isub X.here hx rfl (hb hby hd) rfl kt)⟩
theorem Run.imul {x y : Int32} (K : Run C R Z n0 own nm ret bytes mx h cells slots pc L (.int y :: .int x :: S)) (hd : decode bytes pc = .ok (.imul, 1))  : Run C R Z n0 own nm ret bytes mx h cells slots (pc + 1) L (.int (x * y) :: S) := by
  obtain ⟨hx, hby, hml, hown, hZ, hnm, hrt, hlk, T, locs, X, N, eT, st⟩ := K
  exact ⟨hx, hby, hml, hown, hZ, hnm, hrt, hlk, T, locs, X, N, eT, fun t kt => st t (XS.imul X.here hx rfl (hb hby hd) rfl kt)⟩
theorem Run.iand {x y : Int32} (K : Run C R Z n0 own nm ret bytes mx h cells slots pc L (.int y :: .int x :: S)) (hd : decode bytes pc = .ok (.iand, 1))  : Run C R Z n0 own nm ret bytes mx h cells slots (pc + 1) L (.int (x &&& y) :: S) := by
  obtain ⟨hx, hby, hml, hown, hZ, hnm, hrt, hlk, T, locs, X, N, eT, st⟩ := K
  exact ⟨hx, hby, hml, hown, hZ, hnm, hrt, hlk, T, locs, X, N, eT, fun t kt => st t (XS.iand X.here hx rfl (hb hby hd) rfl kt)⟩
theorem Run.ior {x y : Int32} (K : Run C R Z n0 own nm ret bytes mx h cells slots pc L (.int y :: .int x :: S)) (hd : decode bytes pc = .ok (.ior, 1))  : Run C R Z n0 own nm ret bytes mx h cells slots (pc + 1) L (.int (x ||| y) :: S) := by
  obtain ⟨hx, hby, hml, hown, hZ, hnm, hrt, hlk, T, locs, X, N, eT, st⟩ := K
  exact ⟨hx, hby, hml, hown, hZ, hnm, hrt, hlk, T, locs, X, N, eT, fun t kt => st t (XS.ior X.here hx rfl (hb hby hd) rfl kt)⟩
theorem Run.ixor {x y : Int32} (K : Run C R Z n0 own nm ret bytes mx h cells slots pc L (.int y :: .int x :: S)) (hd : decode bytes pc = .ok (.ixor, 1))  : Run C R Z n0 own nm ret bytes mx h cells slots (pc + 1) L (.int (x ^^^ y) :: S) := by
  obtain ⟨hx, hby, hml, hown, hZ, hnm, hrt, hlk, T, locs, X, N, eT, st⟩ := K
  exact ⟨hx, hby, hml, hown, hZ, hnm, hrt, hlk, T, locs, X, N, eT, fun t kt => st t (XS.ixor X.here hx rfl (hb hby hd) rfl kt)⟩
theorem Run.ishl {x y : Int32} (K : Run C R Z n0 own nm ret bytes mx h cells slots pc L (.int y :: .int x :: S)) (hd : decode bytes pc = .ok (.ishl, 1))  : Run C R Z n0 own nm ret bytes mx h cells slots (pc + 1) L (.int (x <<< (y &&& 31)) :: S) := by
  obtain ⟨hx, hby, hml, hown, hZ, hnm, hrt, hlk, T, locs, X, N, eT, st⟩ := K
  exact ⟨hx, hby, hml, hown, hZ, hnm, hrt, hlk, T, locs, X, N, eT, fun t kt => st t (XS.ishl X.here hx rfl (hb hby hd) rfl kt)⟩
theorem Run.ishr {x y : Int32} (K : Run C R Z n0 own nm ret bytes mx h cells slots pc L (.int y :: .int x :: S)) (hd : decode bytes pc = .ok (.ishr, 1))  : Run C R Z n0 own nm ret bytes mx h cells slots (pc + 1) L (.int (x >>> (y &&& 31)) :: S) := by
  obtain ⟨hx, hby, hml, hown, hZ, hnm, hrt, hlk, T, locs, X, N, eT, st⟩ := K
  exact ⟨hx, hby, hml, hown, hZ, hnm, hrt, hlk, T, locs, X, N, eT, fun t kt => st t (XS.ishr X.here hx rfl (hb hby hd) rfl kt)⟩
theorem Run.iushr {x y : Int32} (K : Run C R Z n0 own nm ret bytes mx h cells slots pc L (.int y :: .int x :: S)) (hd : decode bytes pc = .ok (.iushr, 1))  : Run C R Z n0 own nm ret bytes mx h cells slots (pc + 1) L (.int ((x.toUInt32 >>> (y &&& 31).toUInt32).toInt32) :: S) := by
  obtain ⟨hx, hby, hml, hown, hZ, hnm, hrt, hlk, T, locs, X, N, eT, st⟩ := K
  exact ⟨hx, hby, hml, hown, hZ, hnm, hrt, hlk, T, locs, X, N, eT, fun t kt => st t (XS.iushr X.here hx rfl (hb hby hd) rfl kt)⟩
theorem Run.irem {x y : Int32} (K : Run C R Z n0 own nm ret bytes mx h cells slots pc L (.int y :: .int x :: S)) (hd : decode bytes pc = .ok (.irem, 1)) (hy : y ≠ 0) : Run C R Z n0 own nm ret bytes mx h cells slots (pc + 1) L (.int (x % y) :: S) := by
  obtain ⟨hx, hby, hml, hown, hZ, hnm, hrt, hlk, T, locs, X, N, eT, st⟩ := K
  exact ⟨hx, hby, hml, hown, hZ, hnm, hrt, hlk, T, locs, X, N, eT, fun t kt => st t (iremM X hx rfl (hb hby hd) rfl hy kt)⟩
theorem Run.idiv {x y : Int32} (K : Run C R Z n0 own nm ret bytes mx h cells slots pc L (.int y :: .int x :: S)) (hd : decode bytes pc = .ok (.idiv, 1)) (hy : y ≠ 0) : Run C R Z n0 own nm ret bytes mx h cells slots (pc + 1) L (.int (x / y) :: S) := by
  obtain ⟨hx, hby, hml, hown, hZ, hnm, hrt, hlk, T, locs, X, N, eT, st⟩ := K
  exact ⟨hx, hby, hml, hown, hZ, hnm, hrt, hlk, T, locs, X, N, eT, fun t kt => st t (XS.idiv X.here hx rfl (hb hby hd) rfl hy kt)⟩
theorem Run.ineg {x : Int32} (K : Run C R Z n0 own nm ret bytes mx h cells slots pc L (.int x :: S)) (hd : decode bytes pc = .ok (.ineg, 1))  : Run C R Z n0 own nm ret bytes mx h cells slots (pc + 1) L (.int (-x) :: S) := by
  obtain ⟨hx, hby, hml, hown, hZ, hnm, hrt, hlk, T, locs, X, N, eT, st⟩ := K
  exact ⟨hx, hby, hml, hown, hZ, hnm, hrt, hlk, T, locs, X, N, eT, fun t kt => st t (XS.ineg X.here hx rfl (hb hby hd) rfl kt)⟩
theorem Run.ladd {x y : Int64} (K : Run C R Z n0 own nm ret bytes mx h cells slots pc L (.long y :: .long x :: S)) (hd : decode bytes pc = .ok (.ladd, 1))  : Run C R Z n0 own nm ret bytes mx h cells slots (pc + 1) L (.long (x + y) :: S) := by
  obtain ⟨hx, hby, hml, hown, hZ, hnm, hrt, hlk, T, locs, X, N, eT, st⟩ := K
  exact ⟨hx, hby, hml, hown, hZ, hnm, hrt, hlk, T, locs, X, N, eT, fun t kt => st t (XS.ladd X.here hx rfl (hb hby hd) rfl kt)⟩
theorem Run.lsub {x y : Int64} (K : Run C R Z n0 own nm ret bytes mx h cells slots pc L (.long y :: .long x :: S)) (hd : decode bytes pc = .ok (.lsub, 1))  : Run C R Z n0 own nm ret bytes mx h cells slots (pc + 1) L (.long (x - y) :: S) := by
  obtain ⟨hx, hby, hml, hown, hZ, hnm, hrt, hlk, T, locs, X, N, eT, st⟩ := K
  exact ⟨hx, hby, hml, hown, hZ, hnm, hrt, hlk, T, locs, X, N, eT, fun t kt => st t (XS.lsub X.here hx rfl (hb hby hd) rfl kt)⟩
theorem Run.lmul {x y : Int64} (K : Run C R Z n0 own nm ret bytes mx h cells slots pc L (.long y :: .long x :: S)) (hd : decode bytes pc = .ok (.lmul, 1))  : Run C R Z n0 own nm ret bytes mx h cells slots (pc + 1) L (.long (x * y) :: S) := by
  obtain ⟨hx, hby, hml, hown, hZ, hnm, hrt, hlk, T, locs, X, N, eT, st⟩ := K
  exact ⟨hx, hby, hml, hown, hZ, hnm, hrt, hlk, T, locs, X, N, eT, fun t kt => st t (XS.lmul X.here hx rfl (hb hby hd) rfl kt)⟩
theorem Run.land {x y : Int64} (K : Run C R Z n0 own nm ret bytes mx h cells slots pc L (.long y :: .long x :: S)) (hd : decode bytes pc = .ok (.land, 1))  : Run C R Z n0 own nm ret bytes mx h cells slots (pc + 1) L (.long (x &&& y) :: S) := by
  obtain ⟨hx, hby, hml, hown, hZ, hnm, hrt, hlk, T, locs, X, N, eT, st⟩ := K
  exact ⟨hx, hby, hml, hown, hZ, hnm, hrt, hlk, T, locs, X, N, eT, fun t kt => st t (XS.land X.here hx rfl (hb hby hd) rfl kt)⟩
theorem Run.lor {x y : Int64} (K : Run C R Z n0 own nm ret bytes mx h cells slots pc L (.long y :: .long x :: S)) (hd : decode bytes pc = .ok (.lor, 1))  : Run C R Z n0 own nm ret bytes mx h cells slots (pc + 1) L (.long (x ||| y) :: S) := by
  obtain ⟨hx, hby, hml, hown, hZ, hnm, hrt, hlk, T, locs, X, N, eT, st⟩ := K
  exact ⟨hx, hby, hml, hown, hZ, hnm, hrt, hlk, T, locs, X, N, eT, fun t kt => st t (XS.lor X.here hx rfl (hb hby hd) rfl kt)⟩
theorem Run.lxor {x y : Int64} (K : Run C R Z n0 own nm ret bytes mx h cells slots pc L (.long y :: .long x :: S)) (hd : decode bytes pc = .ok (.lxor, 1))  : Run C R Z n0 own nm ret bytes mx h cells slots (pc + 1) L (.long (x ^^^ y) :: S) := by
  obtain ⟨hx, hby, hml, hown, hZ, hnm, hrt, hlk, T, locs, X, N, eT, st⟩ := K
  exact ⟨hx, hby, hml, hown, hZ, hnm, hrt, hlk, T, locs, X, N, eT, fun t kt => st t (XS.lxor X.here hx rfl (hb hby hd) rfl kt)⟩
theorem Run.lcmp {x y : Int64} (K : Run C R Z n0 own nm ret bytes mx h cells slots pc L (.long y :: .long x :: S)) (hd : decode bytes pc = .ok (.lcmp, 1))  : Run C R Z n0 own nm ret bytes mx h cells slots (pc + 1) L (.int (lcmpW x y) :: S) := by
  obtain ⟨hx, hby, hml, hown, hZ, hnm, hrt, hlk, T, locs, X, N, eT, st⟩ := K
  exact ⟨hx, hby, hml, hown, hZ, hnm, hrt, hlk, T, locs, X, N, eT, fun t kt => st t (XS.lcmp X.here hx rfl (hb hby hd) rfl kt)⟩
theorem Run.lushr {x : Int64} {y : Int32} (K : Run C R Z n0 own nm ret bytes mx h cells slots pc L (.int y :: .long x :: S)) (hd : decode bytes pc = .ok (.lushr, 1))  : Run C R Z n0 own nm ret bytes mx h cells slots (pc + 1) L (.long ((x.toUInt64 >>> (y &&& 0x3f).toInt64.toUInt64).toInt64) :: S) := by
  obtain ⟨hx, hby, hml, hown, hZ, hnm, hrt, hlk, T, locs, X, N, eT, st⟩ := K
  exact ⟨hx, hby, hml, hown, hZ, hnm, hrt, hlk, T, locs, X, N, eT, fun t kt => st t (XS.lushr X.here hx rfl (hb hby hd) rfl kt)⟩
theorem Run.lshr {x : Int64} {y : Int32} (K : Run C R Z n0 own nm ret bytes mx h cells slots pc L (.int y :: .long x :: S)) (hd : decode bytes pc = .ok (.lshr, 1))  : Run C R Z n0 own nm ret bytes mx h cells slots (pc + 1) L (.long (x >>> (y &&& 0x3f).toInt64) :: S) := by
  obtain ⟨hx, hby, hml, hown, hZ, hnm, hrt, hlk, T, locs, X, N, eT, st⟩ := K
  exact ⟨hx, hby, hml, hown, hZ, hnm, hrt, hlk, T, locs, X, N, eT, fun t kt => st t (XS.lshr X.here hx rfl (hb hby hd) rfl kt)⟩
theorem Run.lshl {x : Int64} {y : Int32} (K : Run C R Z n0 own nm ret bytes mx h cells slots pc L (.int y :: .long x :: S)) (hd : decode bytes pc = .ok (.lshl, 1))  : Run C R Z n0 own nm ret bytes mx h cells slots (pc + 1) L (.long (x <<< (y &&& 0x3f).toInt64) :: S) := by
  obtain ⟨hx, hby, hml, hown, hZ, hnm, hrt, hlk, T, locs, X, N, eT, st⟩ := K
  exact ⟨hx, hby, hml, hown, hZ, hnm, hrt, hlk, T, locs, X, N, eT, fun t kt => st t (XS.lshl X.here hx rfl (hb hby hd) rfl kt)⟩
theorem Run.i2l {x : Int32} (K : Run C R Z n0 own nm ret bytes mx h cells slots pc L (.int x :: S)) (hd : decode bytes pc = .ok (.i2l, 1))  : Run C R Z n0 own nm ret bytes mx h cells slots (pc + 1) L (.long (x.toInt64) :: S) := by
  obtain ⟨hx, hby, hml, hown, hZ, hnm, hrt, hlk, T, locs, X, N, eT, st⟩ := K
  exact ⟨hx, hby, hml, hown, hZ, hnm, hrt, hlk, T, locs, X, N, eT, fun t kt => st t (XS.i2l X.here hx rfl (hb hby hd) rfl kt)⟩
theorem Run.l2i {x : Int64} (K : Run C R Z n0 own nm ret bytes mx h cells slots pc L (.long x :: S)) (hd : decode bytes pc = .ok (.l2i, 1))  : Run C R Z n0 own nm ret bytes mx h cells slots (pc + 1) L (.int (x.toInt32) :: S) := by
  obtain ⟨hx, hby, hml, hown, hZ, hnm, hrt, hlk, T, locs, X, N, eT, st⟩ := K
  exact ⟨hx, hby, hml, hown, hZ, hnm, hrt, hlk, T, locs, X, N, eT, fun t kt => st t (XS.l2i X.here hx rfl (hb hby hd) rfl kt)⟩
theorem Run.i2b {x : Int32} (K : Run C R Z n0 own nm ret bytes mx h cells slots pc L (.int x :: S)) (hd : decode bytes pc = .ok (.i2b, 1))  : Run C R Z n0 own nm ret bytes mx h cells slots (pc + 1) L (.int (x.toInt8.toInt32) :: S) := by
  obtain ⟨hx, hby, hml, hown, hZ, hnm, hrt, hlk, T, locs, X, N, eT, st⟩ := K
  exact ⟨hx, hby, hml, hown, hZ, hnm, hrt, hlk, T, locs, X, N, eT, fun t kt => st t (XS.i2b X.here hx rfl (hb hby hd) rfl kt)⟩
theorem Run.i2s {x : Int32} (K : Run C R Z n0 own nm ret bytes mx h cells slots pc L (.int x :: S)) (hd : decode bytes pc = .ok (.i2s, 1))  : Run C R Z n0 own nm ret bytes mx h cells slots (pc + 1) L (.int (x.toInt16.toInt32) :: S) := by
  obtain ⟨hx, hby, hml, hown, hZ, hnm, hrt, hlk, T, locs, X, N, eT, st⟩ := K
  exact ⟨hx, hby, hml, hown, hZ, hnm, hrt, hlk, T, locs, X, N, eT, fun t kt => st t (XS.i2s X.here hx rfl (hb hby hd) rfl kt)⟩
theorem Run.i2c {x : Int32} (K : Run C R Z n0 own nm ret bytes mx h cells slots pc L (.int x :: S)) (hd : decode bytes pc = .ok (.i2c, 1))  : Run C R Z n0 own nm ret bytes mx h cells slots (pc + 1) L (.int (x.toUInt32.toUInt16.toUInt32.toInt32) :: S) := by
  obtain ⟨hx, hby, hml, hown, hZ, hnm, hrt, hlk, T, locs, X, N, eT, st⟩ := K
  exact ⟨hx, hby, hml, hown, hZ, hnm, hrt, hlk, T, locs, X, N, eT, fun t kt => st t (XS.i2c X.here hx rfl (hb hby hd) rfl kt)⟩
theorem Run.iinc {k : Nat} {cst : Int} {x : Int32} (z : Int32) (l' : Array Slot) (K : Run C R Z n0 own nm ret bytes mx h cells slots pc L S) (hd : decode bytes pc = .ok (.iinc k cst, 3)) (hl : L[k]? = some (.val (.int x))) (hz : Int32.ofInt cst = z) (hl' : storeLocals L k (.int (x + z)) = some l') : Run C R Z n0 own nm ret bytes mx h cells slots (pc + 3) l' S := by
  obtain ⟨hx, hby, hml, hown, hZ, hnm, hrt, hlk, T, locs, X, N, eT, st⟩ := K
  exact ⟨hx, hby, hml, hown, hZ, hnm, hrt, hlk, T, locs, X, N, eT, fun t kt => st t (XS.iinc X.here hx rfl (hb hby hd) hl (by rw [hz]; exact hl') kt)⟩
theorem Run.dup {x : Value} (K : Run C R Z n0 own nm ret bytes mx h cells slots pc L (x :: S)) (hd : decode bytes pc = .ok (.dup, 1)) (hc : x.category = 1) : Run C R Z n0 own nm ret bytes mx h cells slots (pc + 1) L (x :: x :: S) := by
  obtain ⟨hx, hby, hml, hown, hZ, hnm, hrt, hlk, T, locs, X, N, eT, st⟩ := K
  exact ⟨hx, hby, hml, hown, hZ, hnm, hrt, hlk, T, locs, X, N, eT, fun t kt => st t (XS.dup X.here hx rfl (hb hby hd) rfl hc kt)⟩
theorem Run.dupX1 {x y : Value} (K : Run C R Z n0 own nm ret bytes mx h cells slots pc L (x :: y :: S)) (hd : decode bytes pc = .ok (.dup_x1, 1)) (hc : x.category = 1) (hc' : y.category = 1) : Run C R Z n0 own nm ret bytes mx h cells slots (pc + 1) L (x :: y :: x :: S) := by
  obtain ⟨hx, hby, hml, hown, hZ, hnm, hrt, hlk, T, locs, X, N, eT, st⟩ := K
  exact ⟨hx, hby, hml, hown, hZ, hnm, hrt, hlk, T, locs, X, N, eT, fun t kt => st t (XS.dupX1 X.here hx rfl (hb hby hd) rfl hc hc' kt)⟩
theorem Run.pop {x : Value} (K : Run C R Z n0 own nm ret bytes mx h cells slots pc L (x :: S)) (hd : decode bytes pc = .ok (.pop, 1)) (hc : x.category = 1) : Run C R Z n0 own nm ret bytes mx h cells slots (pc + 1) L S := by
  obtain ⟨hx, hby, hml, hown, hZ, hnm, hrt, hlk, T, locs, X, N, eT, st⟩ := K
  exact ⟨hx, hby, hml, hown, hZ, hnm, hrt, hlk, T, locs, X, N, eT, fun t kt => st t (XS.pop X.here hx rfl (hb hby hd) rfl hc kt)⟩
theorem Run.goto {o : Int} {pc' : Nat} (K : Run C R Z n0 own nm ret bytes mx h cells slots pc L S) (hd : decode bytes pc = .ok (.goto o, 3)) (ho : 0 ≤ (pc : Int) + o) (hp : ((pc : Int) + o).toNat = pc') : Run C R Z n0 own nm ret bytes mx h cells slots pc' L S := by
  obtain ⟨hx, hby, hml, hown, hZ, hnm, hrt, hlk, T, locs, X, N, eT, st⟩ := K
  exact ⟨hx, hby, hml, hown, hZ, hnm, hrt, hlk, T, locs, X, N, eT, fun t kt => st t (XS.goto X.here hx rfl (pc0 := pc) rfl (hb hby hd) ho hp kt)⟩
theorem Run.ifYes {cd : ClassFile.Cond} {x : Int32} {o : Int} {pc' : Nat} (K : Run C R Z n0 own nm ret bytes mx h cells slots pc L (.int x :: S)) (hd : decode bytes pc = .ok (.ifCond cd o, 3)) (hc : if_icmp.holds cd x 0 = true) (ho : 0 ≤ (pc : Int) + o) (hp : ((pc : Int) + o).toNat = pc') : Run C R Z n0 own nm ret bytes mx h cells slots pc' L S := by
  obtain ⟨hx, hby, hml, hown, hZ, hnm, hrt, hlk, T, locs, X, N, eT, st⟩ := K
  exact ⟨hx, hby, hml, hown, hZ, hnm, hrt, hlk, T, locs, X, N, eT, fun t kt => st t (XS.ifYes X.here hx rfl (pc0 := pc) rfl (hb hby hd) rfl ((if0 _ _).trans hc) ho hp kt)⟩
theorem Run.ifNo {cd : ClassFile.Cond} {x : Int32} {o : Int} (K : Run C R Z n0 own nm ret bytes mx h cells slots pc L (.int x :: S)) (hd : decode bytes pc = .ok (.ifCond cd o, 3)) (hc : if_icmp.holds cd x 0 = false) : Run C R Z n0 own nm ret bytes mx h cells slots (pc + 3) L S := by
  obtain ⟨hx, hby, hml, hown, hZ, hnm, hrt, hlk, T, locs, X, N, eT, st⟩ := K
  exact ⟨hx, hby, hml, hown, hZ, hnm, hrt, hlk, T, locs, X, N, eT, fun t kt => st t (XS.ifNo X.here hx rfl (hb hby hd) rfl ((if0 _ _).trans hc) kt)⟩
theorem Run.icmpYes {cd : ClassFile.Cond} {x y : Int32} {o : Int} {pc' : Nat} (K : Run C R Z n0 own nm ret bytes mx h cells slots pc L (.int y :: .int x :: S)) (hd : decode bytes pc = .ok (.if_icmp cd o, 3)) (hc : if_icmp.holds cd x y = true) (ho : 0 ≤ (pc : Int) + o) (hp : ((pc : Int) + o).toNat = pc') : Run C R Z n0 own nm ret bytes mx h cells slots pc' L S := by
  obtain ⟨hx, hby, hml, hown, hZ, hnm, hrt, hlk, T, locs, X, N, eT, st⟩ := K
  exact ⟨hx, hby, hml, hown, hZ, hnm, hrt, hlk, T, locs, X, N, eT, fun t kt => st t (XS.icmpYes X.here hx rfl (pc0 := pc) rfl (hb hby hd) rfl hc ho hp kt)⟩
theorem Run.icmpNo {cd : ClassFile.Cond} {x y : Int32} {o : Int} (K : Run C R Z n0 own nm ret bytes mx h cells slots pc L (.int y :: .int x :: S)) (hd : decode bytes pc = .ok (.if_icmp cd o, 3)) (hc : if_icmp.holds cd x y = false) : Run C R Z n0 own nm ret bytes mx h cells slots (pc + 3) L S := by
  obtain ⟨hx, hby, hml, hown, hZ, hnm, hrt, hlk, T, locs, X, N, eT, st⟩ := K
  exact ⟨hx, hby, hml, hown, hZ, hnm, hrt, hlk, T, locs, X, N, eT, fun t kt => st t (XS.icmpNo X.here hx rfl (hb hby hd) rfl hc kt)⟩
theorem Run.ifnullYes {o : Int} {pc' : Nat} (K : Run C R Z n0 own nm ret bytes mx h cells slots pc L (.null :: S)) (hd : decode bytes pc = .ok (.ifnull o, 3)) (ho : 0 ≤ (pc : Int) + o) (hp : ((pc : Int) + o).toNat = pc') : Run C R Z n0 own nm ret bytes mx h cells slots pc' L S := by
  obtain ⟨hx, hby, hml, hown, hZ, hnm, hrt, hlk, T, locs, X, N, eT, st⟩ := K
  exact ⟨hx, hby, hml, hown, hZ, hnm, hrt, hlk, T, locs, X, N, eT, fun t kt => st t (XS.ifnullYes X.here hx rfl (pc0 := pc) rfl (hb hby hd) rfl ho hp kt)⟩
theorem Run.ifnullNo {o : Int} {b : Addr} (K : Run C R Z n0 own nm ret bytes mx h cells slots pc L (.ref b :: S)) (hd : decode bytes pc = .ok (.ifnull o, 3))  : Run C R Z n0 own nm ret bytes mx h cells slots (pc + 3) L S := by
  obtain ⟨hx, hby, hml, hown, hZ, hnm, hrt, hlk, T, locs, X, N, eT, st⟩ := K
  exact ⟨hx, hby, hml, hown, hZ, hnm, hrt, hlk, T, locs, X, N, eT, fun t kt => st t (XS.ifnullNo X.here hx rfl (hb hby hd) rfl kt)⟩
theorem Run.ifnonnullYes {o : Int} {b : Addr} {pc' : Nat} (K : Run C R Z n0 own nm ret bytes mx h cells slots pc L (.ref b :: S)) (hd : decode bytes pc = .ok (.ifnonnull o, 3)) (ho : 0 ≤ (pc : Int) + o) (hp : ((pc : Int) + o).toNat = pc') : Run C R Z n0 own nm ret bytes mx h cells slots pc' L S := by
  obtain ⟨hx, hby, hml, hown, hZ, hnm, hrt, hlk, T, locs, X, N, eT, st⟩ := K
  exact ⟨hx, hby, hml, hown, hZ, hnm, hrt, hlk, T, locs, X, N, eT, fun t kt => st t (XS.ifnonnullYes X.here hx rfl (pc0 := pc) rfl (hb hby hd) rfl ho hp kt)⟩
theorem Run.ifnonnullNo {o : Int} (K : Run C R Z n0 own nm ret bytes mx h cells slots pc L (.null :: S)) (hd : decode bytes pc = .ok (.ifnonnull o, 3))  : Run C R Z n0 own nm ret bytes mx h cells slots (pc + 3) L S := by
  obtain ⟨hx, hby, hml, hown, hZ, hnm, hrt, hlk, T, locs, X, N, eT, st⟩ := K
  exact ⟨hx, hby, hml, hown, hZ, hnm, hrt, hlk, T, locs, X, N, eT, fun t kt => st t (XS.ifnonnullNo X.here hx rfl (hb hby hd) rfl kt)⟩
theorem Run.acmpYes {cd : ClassFile.ACond} {x y : Value} {o : Int} {pc' : Nat} (K : Run C R Z n0 own nm ret bytes mx h cells slots pc L (y :: x :: S)) (hd : decode bytes pc = .ok (.if_acmp cd o, 3)) (h1 : x.isRef = true) (h2 : y.isRef = true) (hc : XT.acmp cd x y = true) (ho : 0 ≤ (pc : Int) + o) (hp : ((pc : Int) + o).toNat = pc') : Run C R Z n0 own nm ret bytes mx h cells slots pc' L S := by
  obtain ⟨hx, hby, hml, hown, hZ, hnm, hrt, hlk, T, locs, X, N, eT, st⟩ := K
  exact ⟨hx, hby, hml, hown, hZ, hnm, hrt, hlk, T, locs, X, N, eT, fun t kt => st t (XT.acmpYes X.here hx rfl (pc0 := pc) rfl (hb hby hd) rfl h1 h2 hc ho hp kt)⟩
theorem Run.acmpNo {cd : ClassFile.ACond} {x y : Value} {o : Int} (K : Run C R Z n0 own nm ret bytes mx h cells slots pc L (y :: x :: S)) (hd : decode bytes pc = .ok (.if_acmp cd o, 3)) (h1 : x.isRef = true) (h2 : y.isRef = true) (hc : XT.acmp cd x y = false) : Run C R Z n0 own nm ret bytes mx h cells slots (pc + 3) L S := by
  obtain ⟨hx, hby, hml, hown, hZ, hnm, hrt, hlk, T, locs, X, N, eT, st⟩ := K
  exact ⟨hx, hby, hml, hown, hZ, hnm, hrt, hlk, T, locs, X, N, eT, fun t kt => st t (XT.acmpNo X.here hx rfl (hb hby hd) rfl h1 h2 hc kt)⟩
theorem Run.dloadN {k : Fin 4} {v : UInt64} (K : Run C R Z n0 own nm ret bytes mx h cells slots pc L S) (hd : decode bytes pc = .ok (.dload_n k, 1)) (hl : L[k.val]? = some (.val (.double v))) : Run C R Z n0 own nm ret bytes mx h cells slots (pc + 1) L (.double v :: S) := by
  obtain ⟨hx, hby, hml, hown, hZ, hnm, hrt, hlk, T, locs, X, N, eT, st⟩ := K
  exact ⟨hx, hby, hml, hown, hZ, hnm, hrt, hlk, T, locs, X, N, eT, fun t kt => st t (XS.dloadN X.here hx rfl (hb hby hd) hl kt)⟩
theorem Run.dload {k : Nat} {v : UInt64} (K : Run C R Z n0 own nm ret bytes mx h cells slots pc L S) (hd : decode bytes pc = .ok (.dload k, 2)) (hl : L[k]? = some (.val (.double v))) : Run C R Z n0 own nm ret bytes mx h cells slots (pc + 2) L (.double v :: S) := by
  obtain ⟨hx, hby, hml, hown, hZ, hnm, hrt, hlk, T, locs, X, N, eT, st⟩ := K
  exact ⟨hx, hby, hml, hown, hZ, hnm, hrt, hlk, T, locs, X, N, eT, fun t kt => st t (XS.dload X.here hx rfl (hb hby hd) hl kt)⟩
theorem Run.dstoreN {k : Fin 4} {v : UInt64} (l' : Array Slot) (K : Run C R Z n0 own nm ret bytes mx h cells slots pc L (.double v :: S)) (hd : decode bytes pc = .ok (.dstore_n k, 1)) (hl : storeLocals L k.val (.double v) = some l') : Run C R Z n0 own nm ret bytes mx h cells slots (pc + 1) l' S := by
  obtain ⟨hx, hby, hml, hown, hZ, hnm, hrt, hlk, T, locs, X, N, eT, st⟩ := K
  exact ⟨hx, hby, hml, hown, hZ, hnm, hrt, hlk, T, locs, X, N, eT, fun t kt => st t (XS.dstoreN X.here hx rfl (hb hby hd) rfl hl kt)⟩
theorem Run.dstore {k : Nat} {v : UInt64} (l' : Array Slot) (K : Run C R Z n0 own nm ret bytes mx h cells slots pc L (.double v :: S)) (hd : decode bytes pc = .ok (.dstore k, 2)) (hl : storeLocals L k (.double v) = some l') : Run C R Z n0 own nm ret bytes mx h cells slots (pc + 2) l' S := by
  obtain ⟨hx, hby, hml, hown, hZ, hnm, hrt, hlk, T, locs, X, N, eT, st⟩ := K
  exact ⟨hx, hby, hml, hown, hZ, hnm, hrt, hlk, T, locs, X, N, eT, fun t kt => st t (XS.dstore X.here hx rfl (hb hby hd) rfl hl kt)⟩
theorem Run.dconst0 (z : UInt64) (K : Run C R Z n0 own nm ret bytes mx h cells slots pc L S) (hd : decode bytes pc = .ok (.dconst 0, 1)) (hz : FP.dconst0 = z) : Run C R Z n0 own nm ret bytes mx h cells slots (pc + 1) L (.double z :: S) := by
  obtain ⟨hx, hby, hml, hown, hZ, hnm, hrt, hlk, T, locs, X, N, eT, st⟩ := K
  exact ⟨hx, hby, hml, hown, hZ, hnm, hrt, hlk, T, locs, X, N, eT, fun t kt => st t (XS.dconst0 X.here hx rfl (hb hby hd) hz kt)⟩
theorem Run.i2d {x : Int32} (z : UInt64) (K : Run C R Z n0 own nm ret bytes mx h cells slots pc L (.int x :: S)) (hd : decode bytes pc = .ok (.i2d, 1)) (hz : FP.i2d x = z) : Run C R Z n0 own nm ret bytes mx h cells slots (pc + 1) L (.double z :: S) := by
  obtain ⟨hx, hby, hml, hown, hZ, hnm, hrt, hlk, T, locs, X, N, eT, st⟩ := K
  exact ⟨hx, hby, hml, hown, hZ, hnm, hrt, hlk, T, locs, X, N, eT, fun t kt => st t (XS.i2dS X.here hx rfl (hb hby hd) rfl hz kt)⟩
theorem Run.l2d {x : Int64} (z : UInt64) (K : Run C R Z n0 own nm ret bytes mx h cells slots pc L (.long x :: S)) (hd : decode bytes pc = .ok (.l2d, 1)) (hz : FP.l2d x = z) : Run C R Z n0 own nm ret bytes mx h cells slots (pc + 1) L (.double z :: S) := by
  obtain ⟨hx, hby, hml, hown, hZ, hnm, hrt, hlk, T, locs, X, N, eT, st⟩ := K
  exact ⟨hx, hby, hml, hown, hZ, hnm, hrt, hlk, T, locs, X, N, eT, fun t kt => st t (XS.l2dS X.here hx rfl (hb hby hd) rfl hz kt)⟩
theorem Run.dadd {x y : UInt64} (z : UInt64) (K : Run C R Z n0 own nm ret bytes mx h cells slots pc L (.double y :: .double x :: S)) (hd : decode bytes pc = .ok (.dadd, 1)) (hn : Jvm.Free.Fl.NoNaN64 (FP.dadd x y)) (hz : FP.dadd x y = z) : Run C R Z n0 own nm ret bytes mx h cells slots (pc + 1) L (.double z :: S) := by
  obtain ⟨hx, hby, hml, hown, hZ, hnm, hrt, hlk, T, locs, X, N, eT, st⟩ := K
  exact ⟨hx, hby, hml, hown, hZ, hnm, hrt, hlk, T, locs, X, N, eT, fun t kt => st t (XS.daddS X.here hx rfl (hb hby hd) rfl hn hz kt)⟩
theorem Run.ddiv {x y : UInt64} (z : UInt64) (K : Run C R Z n0 own nm ret bytes mx h cells slots pc L (.double y :: .double x :: S)) (hd : decode bytes pc = .ok (.ddiv, 1)) (hn : Jvm.Free.Fl.NoNaN64 (FP.ddiv x y)) (hz : FP.ddiv x y = z) : Run C R Z n0 own nm ret bytes mx h cells slots (pc + 1) L (.double z :: S) := by
  obtain ⟨hx, hby, hml, hown, hZ, hnm, hrt, hlk, T, locs, X, N, eT, st⟩ := K
  exact ⟨hx, hby, hml, hown, hZ, hnm, hrt, hlk, T, locs, X, N, eT, fun t kt => st t (XS.ddivS X.here hx rfl (hb hby hd) rfl hn hz kt)⟩
theorem Run.dcmp {o : CmpOp} {x y : UInt64} (z : Int32) (K : Run C R Z n0 own nm ret bytes mx h cells slots pc L (.double y :: .double x :: S)) (hd : decode bytes pc = .ok (.dcmp o, 1)) (hz : cmpValue (FP.dcmp x y) o = z) : Run C R Z n0 own nm ret bytes mx h cells slots (pc + 1) L (.int z :: S) := by
  obtain ⟨hx, hby, hml, hown, hZ, hnm, hrt, hlk, T, locs, X, N, eT, st⟩ := K
  exact ⟨hx, hby, hml, hown, hZ, hnm, hrt, hlk, T, locs, X, N, eT, fun t kt => st t (XS.dcmpS X.here hx rfl (hb hby hd) rfl hz kt)⟩
theorem Run.foldI {w : Int32} (K : Run C R Z n0 own nm ret bytes mx h cells slots pc L (.int w :: S)) (z : Int32) (q : w = z) : Run C R Z n0 own nm ret bytes mx h cells slots pc L (.int z :: S) := q ▸ K
theorem Run.foldJ {w : Int64} (K : Run C R Z n0 own nm ret bytes mx h cells slots pc L (.long w :: S)) (z : Int64) (q : w = z) : Run C R Z n0 own nm ret bytes mx h cells slots pc L (.long z :: S) := q ▸ K
theorem Run.stk (K : Run C R Z n0 own nm ret bytes mx h cells slots pc L S) (S' : List Value) (q : S = S') : Run C R Z n0 own nm ret bytes mx h cells slots pc L S' := q ▸ K
theorem Run.loc (K : Run C R Z n0 own nm ret bytes mx h cells slots pc L S) (L' : Array Slot) (q : L = L') : Run C R Z n0 own nm ret bytes mx h cells slots pc L' S := q ▸ K
theorem Run.atpc (K : Run C R Z n0 own nm ret bytes mx h cells slots pc L S) (pc' : Nat) (q : pc = pc') : Run C R Z n0 own nm ret bytes mx h cells slots pc' L S := q ▸ K
theorem Run.ldcInt {a0 : Array Value} {index : Nat} {v : Int32} (K : Run C R Z n0 own nm ret bytes mx h cells slots pc L S) (hd : decode bytes pc = .ok (.ldc index, 2)) (w : (Jvm.Cond.constant own index v).before a0 Z = true) : Run C R Z n0 own nm ret bytes mx h cells slots (pc + 2) L (.int v :: S) := by
  obtain ⟨hx, hby, hml, hown, hZ, hnm, hrt, hlk, T, locs, X, N, eT, st⟩ := K
  exact ⟨hx, hby, hml, hown, hZ, hnm, hrt, hlk, T, locs, X, N, eT, fun t kt => st t (X.ldcInt hx hown (mvT hZ w) (g := mkF C.2.2.2.2.1 pc L S) rfl (hb hby hd) t kt)⟩
theorem Run.ldc2Long {a0 : Array Value} {index : Nat} {v : Int64} (K : Run C R Z n0 own nm ret bytes mx h cells slots pc L S) (hd : decode bytes pc = .ok (.ldc2_w index, 3)) (w : (Jvm.Cond.constantLong own index v).before a0 Z = true) : Run C R Z n0 own nm ret bytes mx h cells slots (pc + 3) L (.long v :: S) := by
  obtain ⟨hx, hby, hml, hown, hZ, hnm, hrt, hlk, T, locs, X, N, eT, st⟩ := K
  exact ⟨hx, hby, hml, hown, hZ, hnm, hrt, hlk, T, locs, X, N, eT, fun t kt => st t (X.ldc2Long hx hown (mvT hZ w) (g := mkF C.2.2.2.2.1 pc L S) rfl (hb hby hd) t kt)⟩
/-! returns -/
theorem Run.iret {z : Int32} {Q : Option Value → Heap → Prop} (K : Run C R Z n0 own nm ret bytes mx h cells slots pc L (.int z :: S)) (hd : decode bytes pc = .ok (.ireturn, 1)) {ty : FieldType} (hr : ret = some ty) (ht : ty = .int ∨ ty = .boolean ∨ ty = .byte ∨ ty = .char ∨ ty = .short) (hn : narrow ty (.int z) = .int z) (hQ : Q (some (.int z)) h) (hc : cells ≤ R.cells) (hs : slots ≤ R.slots) : Fini C R n0 Q := by
  obtain ⟨hx, hby, hml, hown, hZ, hnm, hrt, hlk, T, locs, X, N, eT, st⟩ := K
  obtain ⟨fs, hr', hrun, hended, hW, hsame⟩ := X.leave (v := some (.int z)) (fun q => by rw [hrt, hr] at q; cases q) hlk
  exact ⟨_, _, st _ (retOut X hx (hrt.trans hr) hn (Or.inl ⟨rfl, ht, _, rfl⟩) (hb hby hd) hr'), hrun, hended, _, _, rfl, ⟨by rw [show (T.setFrames fs).heap = T.heap from rfl, eT]; exact hQ, N⟩, ⟨_, rfl⟩, hW, hsame.mono hc hs⟩
theorem Run.lret {z : Int64} {Q : Option Value → Heap → Prop} (K : Run C R Z n0 own nm ret bytes mx h cells slots pc L (.long z :: S)) (hd : decode bytes pc = .ok (.lreturn, 1)) (hr : ret = some .long) (hQ : Q (some (.long z)) h) (hc : cells ≤ R.cells) (hs : slots ≤ R.slots) : Fini C R n0 Q := by
  obtain ⟨hx, hby, hml, hown, hZ, hnm, hrt, hlk, T, locs, X, N, eT, st⟩ := K
  obtain ⟨fs, hr', hrun, hended, hW, hsame⟩ := X.leave (v := some (.long z)) (fun q => by rw [hrt, hr] at q; cases q) hlk
  exact ⟨_, _, st _ (retOut X hx (hrt.trans hr) rfl (Or.inr (Or.inl ⟨rfl, rfl, _, rfl⟩)) (hb hby hd) hr'), hrun, hended, _, _, rfl, ⟨by rw [show (T.setFrames fs).heap = T.heap from rfl, eT]; exact hQ, N⟩, ⟨_, rfl⟩, hW, hsame.mono hc hs⟩
theorem Run.dret {z : UInt64} {Q : Option Value → Heap → Prop} (K : Run C R Z n0 own nm ret bytes mx h cells slots pc L (.double z :: S)) (hd : decode bytes pc = .ok (.dreturn, 1)) (hr : ret = some .double) (hQ : Q (some (.double z)) h) (hc : cells ≤ R.cells) (hs : slots ≤ R.slots) : Fini C R n0 Q := by
  obtain ⟨hx, hby, hml, hown, hZ, hnm, hrt, hlk, T, locs, X, N, eT, st⟩ := K
  obtain ⟨fs, hr', hrun, hended, hW, hsame⟩ := X.leave (v := some (.double z)) (fun q => by rw [hrt, hr] at q; cases q) hlk
  exact ⟨_, _, st _ (retOut X hx (hrt.trans hr) rfl (Or.inr (Or.inr (Or.inl ⟨rfl, rfl, _, rfl⟩))) (hb hby hd) hr'), hrun, hended, _, _, rfl, ⟨by rw [show (T.setFrames fs).heap = T.heap from rfl, eT]; exact hQ, N⟩, ⟨_, rfl⟩, hW, hsame.mono hc hs⟩
theorem Run.aret {w : Value} {Q : Option Value → Heap → Prop} (K : Run C R Z n0 own nm ret bytes mx h cells slots pc L (w :: S)) (hd : decode bytes pc = .ok (.areturn, 1)) {ty : FieldType} (hr : ret = some ty) (ht : ty.isReference = true) (hn : narrow ty w = w) (hw : w.isRef = true) (hQ : Q (some w) h) (hc : cells ≤ R.cells) (hs : slots ≤ R.slots) : Fini C R n0 Q := by
  obtain ⟨hx, hby, hml, hown, hZ, hnm, hrt, hlk, T, locs, X, N, eT, st⟩ := K
  obtain ⟨fs, hr', hrun, hended, hW, hsame⟩ := X.leave (v := some w) (fun q => by rw [hrt, hr] at q; cases q) hlk
  exact ⟨_, _, st _ (retOut X hx (hrt.trans hr) hn (Or.inr (Or.inr (Or.inr (Or.inr ⟨rfl, ht, hw⟩)))) (hb hby hd) hr'), hrun, hended, _, _, rfl, ⟨by rw [show (T.setFrames fs).heap = T.heap from rfl, eT]; exact hQ, N⟩, ⟨_, rfl⟩, hW, hsame.mono hc hs⟩
theorem Run.vret {Q : Option Value → Heap → Prop} (K : Run C R Z n0 own nm ret bytes mx h cells slots pc L []) (hd : decode bytes pc = .ok (.return_, 1)) (hr : ret = none) (hQ : Q none h) (hc : cells ≤ R.cells) (hs : slots ≤ R.slots) : Fini C R n0 Q := by
  obtain ⟨hx, hby, hml, hown, hZ, hnm, hrt, hlk, T, locs, X, N, eT, st⟩ := K
  obtain ⟨fs, hr', hrun, hended, hW, hsame⟩ := X.leave (v := none) (fun _ => rfl) hlk
  exact ⟨_, _, st _ (X.returnOut hx (hrt.trans hr) (hb hby hd) hr'), hrun, hended, _, _, rfl, ⟨by rw [show (T.setFrames fs).heap = T.heap from rfl, eT]; exact hQ, N⟩, ⟨_, rfl⟩, hW, hsame.mono hc hs⟩
/-! calls -/
theorem Run.callS {a0 : Array Value} {index : Nat} {y : MethodName} {by2 : ByteArray} {mx2 W : Nat} {rt2 : Option FieldType} {rm : Room} {argsL rest : List Value} {Q : Option Value → Heap → Prop} {ps : List FieldType} (K : Run C R Z n0 own nm ret bytes mx h cells slots pc L S) (hd : decode bytes pc = .ok (.invokestatic index, 3))
    (wl : (Jvm.Cond.methodLink own index y).before a0 Z = true) (wst : (Jvm.Cond.static y).before a0 Z = true) (wi : (Jvm.Cond.initialized y.cls).before a0 Z = true) (wc : (Jvm.Cond.code y by2 mx2 rt2).before a0 Z = true)
    (con : Con Z n0 y by2 mx2 rt2 [] rm argsL.toArray h Q) (hS : S = argsL.reverse ++ rest) (hpd : parseMethodDescriptor y.desc = some ⟨ps, rt2⟩) (hlen : argsL.length = ps.length) (hW : (rest.map fun v => v.category).sum = W) (hLs : L.size = mx)
    (hfr : rm.frames + 1 ≤ R.frames) (hlo : W + (mx2 + 11) + rm.locals ≤ R.locals) (hce : cells + rm.cells ≤ R.cells) (hsl : slots + rm.slots ≤ R.slots) (hy : y.cls ≠ "java/lang/invoke/MethodHandle" ∧ y.cls ≠ "java/lang/invoke/VarHandle") :
    ∃ v h', Q v h' ∧ Run C R Z n0 own nm ret bytes mx h' (cells + rm.cells) (slots + rm.slots) (pc + 3) L (v.toList ++ rest) := by
  obtain ⟨hx, hby, hml, hown, hZ, hnm, hrt, hlk, T, locs, X, N, eT, st⟩ := K
  obtain ⟨v, _, ⟨T', L', k', n'⟩, -, X', ⟨Lc, hQ, l1, y1, z1⟩, st'⟩ := Jvm.LawKit.callS X hx (y := y) hown (mvT hZ wl) (mvT hZ wst) (mvT hZ wi) (mvT hZ wc) hy (backOf (Q := fun v h L => Q v h ∧ Fr n0 L) (W := W) (con C.2.1) hZ wc wi hfr hlo) (g := mkF C.2.2.2.2.1 pc L S) rfl (by rw [hml]; exact hLs) (argsL := argsL) (rest := rest) (lenOf hpd hlen) hS (by show 2 * 0 + _ ≤ _; omega) (hb hby hd) (fun _ _ => ⟨rfl, eT, hce, hsl⟩)
  dsimp only [Pt.U, Pt.locs, Pt.cells, Pt.slots] at X' l1 y1 z1 st' hQ
  subst l1 y1 z1
  exact ⟨v, T'.heap, hQ.1, hx, hby, hml, hown, hZ, hnm, hrt, hlk, T', _, X', Fr.app N hQ.2, rfl, fun t kt => st t (st' t kt)⟩
theorem Run.callI {a0 : Array Value} {index : Nat} {y : MethodName} {by2 : ByteArray} {mx2 W : Nat} {rm : Room} {a : Addr} {argsL rest : List Value} {Q : Option Value → Heap → Prop} {ps : List FieldType} (K : Run C R Z n0 own nm ret bytes mx h cells slots pc L S) (hd : decode bytes pc = .ok (.invokespecial index, 3))
    (hy1 : y.name = "<init>") (wl : (Jvm.Cond.methodLink own index y).before a0 Z = true) (wst : (Jvm.Cond.instanceMethod y).before a0 Z = true) (wi : (Jvm.Cond.initialized y.cls).before a0 Z = true) (wc : (Jvm.Cond.code y by2 mx2 none).before a0 Z = true)
    (con : Con Z n0 y by2 mx2 none [] rm (.ref a :: argsL).toArray h Q) (hS : S = argsL.reverse ++ .ref a :: rest) (hpd : parseMethodDescriptor y.desc = some ⟨ps, none⟩) (hlen : argsL.length = ps.length) (hW : (rest.map fun v => v.category).sum = W) (hLs : L.size = mx)
    (hfr : rm.frames + 1 ≤ R.frames) (hlo : W + (mx2 + 11) + rm.locals ≤ R.locals) (hce : cells + rm.cells ≤ R.cells) (hsl : slots + rm.slots ≤ R.slots) (hy : y.cls ≠ "java/lang/invoke/MethodHandle" ∧ y.cls ≠ "java/lang/invoke/VarHandle") :
    ∃ v h', Q v h' ∧ Run C R Z n0 own nm ret bytes mx h' (cells + rm.cells) (slots + rm.slots) (pc + 3) L (v.toList ++ rest) := by
  obtain ⟨hx, hby, hml, hown, hZ, hnm, hrt, hlk, T, locs, X, N, eT, st⟩ := K
  obtain ⟨v, _, ⟨T', L', k', n'⟩, -, X', ⟨Lc, hQ, l1, y1, z1⟩, st'⟩ := X.specialBack hx (y := y) hy1 hown (mvT hZ wl) (mvT hZ wst) (mvT hZ wc) hy (backOf (Q := fun v h L => Q v h ∧ Fr n0 L) (W := W) (con C.2.1) hZ wc wi hfr hlo) (g := mkF C.2.2.2.2.1 pc L S) rfl (by rw [hml]; exact hLs) (Steps.refl _) (a := a) (argsL := argsL) (rest := rest) (lenOf hpd hlen) hS (by show 2 * 0 + _ ≤ _; omega) (hb hby hd) (fun _ _ => ⟨rfl, eT, hce, hsl⟩)
  dsimp only [Pt.U, Pt.locs, Pt.cells, Pt.slots] at X' l1 y1 z1 st' hQ
  subst l1 y1 z1
  exact ⟨v, T'.heap, hQ.1, hx, hby, hml, hown, hZ, hnm, hrt, hlk, T', _, X', Fr.app N hQ.2, rfl, fun t kt => st t (st'.trans kt)⟩
theorem Run.callV {a0 : Array Value} {index : Nat} {y z : MethodName} {Cl : String} {by2 : ByteArray} {mx2 W : Nat} {rt2 : Option FieldType} {rm : Room} {a : Addr} {argsL rest : List Value} {Q : Option Value → Heap → Prop} {ps : List FieldType} (K : Run C R Z n0 own nm ret bytes mx h cells slots pc L S) (hd : decode bytes pc = .ok (.invokevirtual index, 3))
    (wl : (Jvm.Cond.methodLink own index y).before a0 Z = true) (wd : (Jvm.Cond.declares y).before a0 Z = true) (nf : ∀ s : State, Z.Warmed39 s.vm → NotFace s y) (ws : (Jvm.Cond.selects Cl y z).before a0 Z = true) (wst : (Jvm.Cond.instanceMethod z).before a0 Z = true) (wi : (Jvm.Cond.initialized z.cls).before a0 Z = true) (wc : (Jvm.Cond.code z by2 mx2 rt2).before a0 Z = true)
    (E : Exa Z h a Cl) (con : Con Z n0 z by2 mx2 rt2 [] rm (.ref a :: argsL).toArray h Q) (hS : S = argsL.reverse ++ .ref a :: rest) (hpd : parseMethodDescriptor y.desc = some ⟨ps, rt2⟩) (hlen : argsL.length = ps.length) (hW : (rest.map fun v => v.category).sum = W) (hLs : L.size = mx)
    (hfr : rm.frames + 1 ≤ R.frames) (hlo : W + (mx2 + 11) + rm.locals ≤ R.locals) (hce : cells + rm.cells ≤ R.cells) (hsl : slots + rm.slots ≤ R.slots) (hy : y.cls ≠ "java/lang/invoke/MethodHandle" ∧ y.cls ≠ "java/lang/invoke/VarHandle") :
    ∃ v h', Q v h' ∧ Run C R Z n0 own nm ret bytes mx h' (cells + rm.cells) (slots + rm.slots) (pc + 3) L (v.toList ++ rest) := by
  obtain ⟨hx, hby, hml, hown, hZ, hnm, hrt, hlk, T, locs, X, N, eT, st⟩ := K
  obtain ⟨cq, kq, qa, qb, qc⟩ := isOf hZ eT E
  obtain ⟨v, _, ⟨T', L', k', n'⟩, -, X', ⟨Lc, hQ, l1, y1, z1⟩, st'⟩ := X.virtualBack hx (y := y) (z := z) hown (mvT hZ wl) (mvT hZ wd) (nf _ hZ) (mvT hZ ws) (mvT hZ wst) hy (backOf (Q := fun v h L => Q v h ∧ Fr n0 L) (W := W) (con C.2.1) hZ wc wi hfr hlo) qa qc (g := mkF C.2.2.2.2.1 pc L S) rfl (by rw [hml]; exact hLs) (Steps.refl _) (argsL := argsL) (rest := rest) (lenOf hpd hlen) hS (by show 2 * 0 + _ ≤ _; omega) (hb hby hd) (fun _ _ => ⟨rfl, eT, hce, hsl⟩)
  dsimp only [Pt.U, Pt.locs, Pt.cells, Pt.slots] at X' l1 y1 z1 st' hQ
  subst l1 y1 z1
  exact ⟨v, T'.heap, hQ.1, hx, hby, hml, hown, hZ, hnm, hrt, hlk, T', _, X', Fr.app N hQ.2, rfl, fun t kt => st t (st'.trans kt)⟩
/-! fields, statics, objects -/
theorem Run.getF {a0 : Array Value} {index : Nat} {R0 O n d host : String} {a : Addr} {v : Value} (K : Run C R Z n0 own nm ret bytes mx h cells slots pc L (.ref a :: S)) (hd : decode bytes pc = .ok (.getfield index, 3)) (w : (Jvm.Cond.fieldLink own index R0 n d).before a0 Z = true ∨ (Jvm.Cond.fieldLinkNest own index R0 n d host).before a0 Z = true) (via : Via Z R0 O n d) (F : Fld Z h a O n d v) :
    Run C R Z n0 own nm ret bytes mx h cells slots (pc + 3) L (v :: S) := by
  obtain ⟨hx, hby, hml, hown, hZ, hnm, hrt, hlk, T, locs, X, N, eT, st⟩ := K
  obtain ⟨T', X', e', st'⟩ := RoadKit.getF X hx hZ hown w via eT F (g := mkF C.2.2.2.2.1 pc L (.ref a :: S)) rfl rfl (hb hby hd)
  exact ⟨hx, hby, hml, hown, hZ, hnm, hrt, hlk, T', locs, X', N, e', fun t kt => st t (st' t kt)⟩
theorem Run.getS {a0 : Array Value} {index : Nat} {R0 O n d host : String} {v : Value} (K : Run C R Z n0 own nm ret bytes mx h cells slots pc L S) (hd : decode bytes pc = .ok (.getstatic index, 3)) (w : (Jvm.Cond.fieldLink own index R0 n d).before a0 Z = true ∨ (Jvm.Cond.fieldLinkNest own index R0 n d host).before a0 Z = true) (via : Via Z R0 O n d) (F : Sta Z h O n d v) :
    Run C R Z n0 own nm ret bytes mx h cells slots (pc + 3) L (v :: S) := by
  obtain ⟨hx, hby, hml, hown, hZ, hnm, hrt, hlk, T, locs, X, N, eT, st⟩ := K
  obtain ⟨T', X', e', st'⟩ := RoadKit.getS2 X hx hZ hown w via eT F (g := mkF C.2.2.2.2.1 pc L S) rfl (hb hby hd)
  exact ⟨hx, hby, hml, hown, hZ, hnm, hrt, hlk, T', locs, X', N, e', fun t kt => st t (st' t kt)⟩
theorem Run.putF {a0 : Array Value} {index kk : Nat} {R0 O n d host Cl : String} {ty : FieldType} {a : Addr} {v old : Value} (K : Run C R Z n0 own nm ret bytes mx h cells slots pc L (v :: .ref a :: S)) (hd : decode bytes pc = .ok (.putfield index, 3)) (w : (Jvm.Cond.fieldLink own index R0 n d).before a0 Z = true ∨ (Jvm.Cond.fieldLinkNest own index R0 n d host).before a0 Z = true) (via : Via Z R0 O n d)
    (F : Fld Z h a O n d old) (E : Exa Z h a Cl) (Lw : (Jvm.Cond.lays Cl O n d).before a0 Z = true ∨ ((Jvm.Cond.laysFinal Cl O n d).before a0 Z = true ∧ own = O ∧ nm = "<init>")) (wi : (Jvm.Cond.instantiable Cl kk).before a0 Z = true) (hty : parseFieldDescriptor d = some ty) (hn : narrow ty v = v) (hf : fits ty v = true) (ga : n0 ≤ a) :
    ∃ h', Wr h h' a (RoadKit.slotOf Z O n d) v ∧ Run C R Z n0 own nm ret bytes mx h' cells slots (pc + 3) L S := by
  obtain ⟨hx, hby, hml, hown, hZ, hnm, hrt, hlk, T, locs, X, N, eT, st⟩ := K
  obtain ⟨T', h', X', e', W', st'⟩ := RoadKit.putF X hx hZ hown w via eT F E (Lw.imp id fun q => ⟨q.1, q.2.1, hnm.trans q.2.2⟩) wi hty hn hf (g := mkF C.2.2.2.2.1 pc L (v :: .ref a :: S)) rfl rfl (hb hby hd)
  exact ⟨h', W', hx, hby, hml, hown, hZ, hnm, hrt, hlk, T', _, X', Fr.snoc X' N ga, e', fun t kt => st t (st' t kt)⟩
theorem Run.newO {a0 : Array Value} {index n : Nat} {Cl : String} (K : Run C R Z n0 own nm ret bytes mx h cells slots pc L S) (hd : decode bytes pc = .ok (.new index, 3)) (w : (Jvm.Cond.classLink own index Cl).before a0 Z = true) (wi : (Jvm.Cond.instantiable Cl n).before a0 Z = true) (wz : (Jvm.Cond.initialized Cl).before a0 Z = true) (hc : cells + 1 ≤ R.cells) (hl : slots + n ≤ R.slots) :
    ∃ (h' : Heap) (b : Addr), b = h.size ∧ Ext h h' ∧ Exa Z h' b Cl ∧ (∀ {O f d : String} {ty : FieldType}, Laid Z a0 Cl O f d → parseFieldDescriptor d = some ty → Fld Z h' b O f d (defaultValue ty)) ∧ Run C R Z n0 own nm ret bytes mx h' (cells + 1) (slots + n) (pc + 3) L (.ref b :: S) := by
  obtain ⟨hx, hby, hml, hown, hZ, hnm, hrt, hlk, T, locs, X, N, eT, st⟩ := K
  obtain ⟨T', h', X', e', E', A', D', -, st'⟩ := RoadKit.newO X hx hZ hown w wi wz eT (g := mkF C.2.2.2.2.1 pc L S) rfl (hb hby hd) hc hl
  exact ⟨h', _, rfl, E', A', D', hx, hby, hml, hown, hZ, hnm, hrt, hlk, T', _, X', N, e', fun t kt => st t (st' t kt)⟩
theorem Run.initO {a0 : Array Value} {index W : Nat} {a : Addr} (K : Run C R Z n0 own nm ret bytes mx h cells slots pc L (.ref a :: S)) (hd : decode bytes pc = .ok (.invokespecial index, 3)) (w1 : (Jvm.Cond.methodLink own index Lib.objectInit).before a0 Z = true) (w2 : (Jvm.Cond.instanceMethod Lib.objectInit).before a0 Z = true) (w3 : (Jvm.Cond.code Lib.objectInit ⟨#[0xb1]⟩ 1 none).before a0 Z = true) (hLs : L.size = mx) (hW : (S.map fun v => v.category).sum = W) (hf : 1 ≤ R.frames) (hl : W + 12 ≤ R.locals) :
    Run C R Z n0 own nm ret bytes mx h cells slots (pc + 3) L S := by
  obtain ⟨hx, hby, hml, hown, hZ, hnm, hrt, hlk, T, locs, X, N, eT, st⟩ := K
  obtain ⟨T', X', e', st'⟩ := RoadKit.initO X hx hZ hown w1 w2 w3 eT (g := mkF C.2.2.2.2.1 pc L (.ref a :: S)) rfl (by rw [hml]; exact hLs) rfl (hb hby hd) hf (W := W) (by show 2 * 0 + _ ≤ _; omega) hl
  exact ⟨hx, hby, hml, hown, hZ, hnm, hrt, hlk, T', locs, X', N, e', fun t kt => st t (st' t kt)⟩
theorem Run.castY {a0 : Array Value} {index : Nat} {Kl : String} {a : Addr} (K : Run C R Z n0 own nm ret bytes mx h cells slots pc L (.ref a :: S)) (hd : decode bytes pc = .ok (.checkcast index, 3)) (w : (Jvm.Cond.classLink own index Kl).before a0 Z = true) (F : Ins Z h a Kl true) : Run C R Z n0 own nm ret bytes mx h cells slots (pc + 3) L (.ref a :: S) := by
  obtain ⟨hx, hby, hml, hown, hZ, hnm, hrt, hlk, T, locs, X, N, eT, st⟩ := K
  obtain ⟨T', X', e', st'⟩ := RoadKit.castY X hx hZ hown w eT F (g := mkF C.2.2.2.2.1 pc L (.ref a :: S)) rfl rfl (hb hby hd)
  exact ⟨hx, hby, hml, hown, hZ, hnm, hrt, hlk, T', locs, X', N, e', fun t kt => st t (st' t kt)⟩
/-! arrays, by a function of the place -/
theorem Run.arrlen {a : Addr} {ty : FieldType} {n : Nat} {f : Nat → Value} (K : Run C R Z n0 own nm ret bytes mx h cells slots pc L (.ref a :: S)) (hd : decode bytes pc = .ok (.arraylength, 1)) (F : Arf Z h a ty n f) (z : Int32) (hz : n.toInt32 = z) : Run C R Z n0 own nm ret bytes mx h cells slots (pc + 1) L (.int z :: S) := by
  obtain ⟨hx, hby, hml, hown, hZ, hnm, hrt, hlk, T, locs, X, N, eT, st⟩ := K
  obtain ⟨cl, Ar, Sz, H⟩ := F
  subst hz Sz
  exact ⟨hx, hby, hml, hown, hZ, hnm, hrt, hlk, T, locs, X, N, eT, fun t kt => st t (X.arraylength hx (by rw [eT]; exact Ar.1) (State.isArrayOf_alike hZ.alike Ar.2.1) (g := mkF C.2.2.2.2.1 pc L (.ref a :: S)) rfl rfl (hb hby hd) t kt)⟩
theorem Run.iaload {a : Addr} {n : Nat} {f : Nat → Value} {j : Int32} (K : Run C R Z n0 own nm ret bytes mx h cells slots pc L (.int j :: .ref a :: S)) (hd : decode bytes pc = .ok (.iaload, 1)) (F : Arf Z h a .int n f) (i : Nat) (hj : j.toNatClampNeg = i) (h0 : ¬ j < 0) (hi : i < n) (v : Value) (hv : f i = v) : Run C R Z n0 own nm ret bytes mx h cells slots (pc + 1) L (v :: S) := by
  obtain ⟨hx, hby, hml, hown, hZ, hnm, hrt, hlk, T, locs, X, N, eT, st⟩ := K
  obtain ⟨cl, Ar, Sz, H⟩ := F
  subst hj hv Sz
  exact ⟨hx, hby, hml, hown, hZ, hnm, hrt, hlk, T, locs, X, N, eT, fun t kt => st t (X.iaload hx (j := j) (v := f j.toNatClampNeg) (by rw [eT]; exact Ar.1) (State.isArrayOf_alike hZ.alike Ar.2.1) Ar.2.2 (fun q => q.elim h0 (Nat.not_le.mpr hi)) (H _ hi) (g := mkF C.2.2.2.2.1 pc L (.int j :: .ref a :: S)) rfl rfl (hb hby hd) t kt)⟩
theorem Run.baload {a : Addr} {n : Nat} {f : Nat → Value} {j : Int32} (K : Run C R Z n0 own nm ret bytes mx h cells slots pc L (.int j :: .ref a :: S)) (hd : decode bytes pc = .ok (.baload, 1)) (F : Arf Z h a .byte n f) (i : Nat) (hj : j.toNatClampNeg = i) (h0 : ¬ j < 0) (hi : i < n) (v : Value) (hv : f i = v) : Run C R Z n0 own nm ret bytes mx h cells slots (pc + 1) L (v :: S) := by
  obtain ⟨hx, hby, hml, hown, hZ, hnm, hrt, hlk, T, locs, X, N, eT, st⟩ := K
  obtain ⟨cl, Ar, Sz, H⟩ := F
  subst hj hv Sz
  exact ⟨hx, hby, hml, hown, hZ, hnm, hrt, hlk, T, locs, X, N, eT, fun t kt => st t (X.baloadBytes hx (j := j) (v := f j.toNatClampNeg) (by rw [eT]; exact Ar.1) (State.isArrayOf_alike hZ.alike Ar.2.1) Ar.2.2 (fun q => q.elim h0 (Nat.not_le.mpr hi)) (H _ hi) (g := mkF C.2.2.2.2.1 pc L (.int j :: .ref a :: S)) rfl rfl (hb hby hd) t kt)⟩
theorem Run.aaload {a : Addr} {ty : FieldType} {n : Nat} {f : Nat → Value} {j : Int32} (K : Run C R Z n0 own nm ret bytes mx h cells slots pc L (.int j :: .ref a :: S)) (hd : decode bytes pc = .ok (.aaload, 1)) (F : Arf Z h a ty n f) (hty : ty.isReference = true) (i : Nat) (hj : j.toNatClampNeg = i) (h0 : ¬ j < 0) (hi : i < n) (v : Value) (hv : f i = v) : Run C R Z n0 own nm ret bytes mx h cells slots (pc + 1) L (v :: S) := by
  obtain ⟨hx, hby, hml, hown, hZ, hnm, hrt, hlk, T, locs, X, N, eT, st⟩ := K
  obtain ⟨cl, Ar, Sz, H⟩ := F
  subst hj hv Sz
  exact ⟨hx, hby, hml, hown, hZ, hnm, hrt, hlk, T, locs, X, N, eT, fun t kt => st t (X.aaload hx (j := j) (v := f j.toNatClampNeg) (by rw [eT]; exact Ar.1) (State.isArrayOf_alike hZ.alike Ar.2.1) hty Ar.2.2 (fun q => q.elim h0 (Nat.not_le.mpr hi)) (H _ hi) (g := mkF C.2.2.2.2.1 pc L (.int j :: .ref a :: S)) rfl rfl (hb hby hd) t kt)⟩
theorem Run.iastore {a : Addr} {n : Nat} {f : Nat → Value} {j x : Int32} (K : Run C R Z n0 own nm ret bytes mx h cells slots pc L (.int x :: .int j :: .ref a :: S)) (hd : decode bytes pc = .ok (.iastore, 1)) (F : Arf Z h a .int n f) (i : Nat) (hj : j.toNatClampNeg = i) (h0 : ¬ j < 0) (hi : i < n) (ga : n0 ≤ a) :
    ∃ h', Wr h h' a i (.int x) ∧ Arf Z h' a .int n (updV f i (.int x)) ∧ Run C R Z n0 own nm ret bytes mx h' cells slots (pc + 1) L S := by
  obtain ⟨hx, hby, hml, hown, hZ, hnm, hrt, hlk, T, locs, X, N, eT, st⟩ := K
  obtain ⟨cl, Ar, Sz, H⟩ := F
  subst hj Sz
  obtain ⟨T', h', X', e', W', st'⟩ := RoadKit.stI X hx hZ eT Ar (j := j) (x := x) (fun q => q.elim h0 (Nat.not_le.mpr hi)) (g := mkF C.2.2.2.2.1 pc L (.int x :: .int j :: .ref a :: S)) rfl rfl (hb hby hd)
  exact ⟨h', W', Arf.set ⟨cl, Ar, rfl, H⟩ W' hi, hx, hby, hml, hown, hZ, hnm, hrt, hlk, T', _, X', Fr.snoc X' N ga, e', fun t kt => st t (st' t kt)⟩
theorem Run.bastore {a : Addr} {n : Nat} {f : Nat → Value} {j x : Int32} (K : Run C R Z n0 own nm ret bytes mx h cells slots pc L (.int x :: .int j :: .ref a :: S)) (hd : decode bytes pc = .ok (.bastore, 1)) (F : Arf Z h a .byte n f) (i : Nat) (hj : j.toNatClampNeg = i) (h0 : ¬ j < 0) (hi : i < n) (ga : n0 ≤ a) (x' : Int32) (hx' : x.toInt8.toInt32 = x') :
    ∃ h', Wr h h' a i (.int x') ∧ Arf Z h' a .byte n (updV f i (.int x')) ∧ Run C R Z n0 own nm ret bytes mx h' cells slots (pc + 1) L S := by
  obtain ⟨hx, hby, hml, hown, hZ, hnm, hrt, hlk, T, locs, X, N, eT, st⟩ := K
  obtain ⟨cl, Ar, Sz, H⟩ := F
  subst hj Sz hx'
  obtain ⟨T', h', X', e', W', st'⟩ := RoadKit.stB X hx hZ eT Ar (j := j) (x := x) (fun q => q.elim h0 (Nat.not_le.mpr hi)) (g := mkF C.2.2.2.2.1 pc L (.int x :: .int j :: .ref a :: S)) rfl rfl (hb hby hd)
  exact ⟨h', W', Arf.set ⟨cl, Ar, rfl, H⟩ W' hi, hx, hby, hml, hown, hZ, hnm, hrt, hlk, T', _, X', Fr.snoc X' N ga, e', fun t kt => st t (st' t kt)⟩
theorem Run.caload {a : Addr} {n : Nat} {f : Nat → Value} {j : Int32} (K : Run C R Z n0 own nm ret bytes mx h cells slots pc L (.int j :: .ref a :: S)) (hd : decode bytes pc = .ok (.caload, 1)) (F : Arf Z h a .char n f) (i : Nat) (hj : j.toNatClampNeg = i) (h0 : ¬ j < 0) (hi : i < n) (v : Value) (hv : f i = v) : Run C R Z n0 own nm ret bytes mx h cells slots (pc + 1) L (v :: S) := by
  obtain ⟨hx, hby, hml, hown, hZ, hnm, hrt, hlk, T, locs, X, N, eT, st⟩ := K
  obtain ⟨cl, Ar, Sz, H⟩ := F
  subst hj hv Sz
  exact ⟨hx, hby, hml, hown, hZ, hnm, hrt, hlk, T, locs, X, N, eT, fun t kt => st t (X.caload hx (j := j) (v := f j.toNatClampNeg) (by rw [eT]; exact Ar.1) (State.isArrayOf_alike hZ.alike Ar.2.1) Ar.2.2 (fun q => q.elim h0 (Nat.not_le.mpr hi)) (H _ hi) (g := mkF C.2.2.2.2.1 pc L (.int j :: .ref a :: S)) rfl rfl (hb hby hd) t kt)⟩
theorem Run.daload {a : Addr} {n : Nat} {f : Nat → Value} {j : Int32} (K : Run C R Z n0 own nm ret bytes mx h cells slots pc L (.int j :: .ref a :: S)) (hd : decode bytes pc = .ok (.daload, 1)) (F : Arf Z h a .double n f) (i : Nat) (hj : j.toNatClampNeg = i) (h0 : ¬ j < 0) (hi : i < n) (v : Value) (hv : f i = v) : Run C R Z n0 own nm ret bytes mx h cells slots (pc + 1) L (v :: S) := by
  obtain ⟨hx, hby, hml, hown, hZ, hnm, hrt, hlk, T, locs, X, N, eT, st⟩ := K
  obtain ⟨cl, Ar, Sz, H⟩ := F
  subst hj hv Sz
  exact ⟨hx, hby, hml, hown, hZ, hnm, hrt, hlk, T, locs, X, N, eT, fun t kt => st t (X.daload hx (j := j) (v := f j.toNatClampNeg) (by rw [eT]; exact Ar.1) (State.isArrayOf_alike hZ.alike Ar.2.1) Ar.2.2 (fun q => q.elim h0 (Nat.not_le.mpr hi)) (H _ hi) (g := mkF C.2.2.2.2.1 pc L (.int j :: .ref a :: S)) rfl rfl (hb hby hd) t kt)⟩
theorem Run.castore {a : Addr} {n : Nat} {f : Nat → Value} {j x : Int32} (K : Run C R Z n0 own nm ret bytes mx h cells slots pc L (.int x :: .int j :: .ref a :: S)) (hd : decode bytes pc = .ok (.castore, 1)) (F : Arf Z h a .char n f) (i : Nat) (hj : j.toNatClampNeg = i) (h0 : ¬ j < 0) (hi : i < n) (ga : n0 ≤ a) (x' : Int32) (hx' : x.toUInt32.toUInt16.toUInt32.toInt32 = x') :
    ∃ h', Wr h h' a i (.int x') ∧ Arf Z h' a .char n (updV f i (.int x')) ∧ Run C R Z n0 own nm ret bytes mx h' cells slots (pc + 1) L S := by
  obtain ⟨hx, hby, hml, hown, hZ, hnm, hrt, hlk, T, locs, X, N, eT, st⟩ := K
  obtain ⟨cl, Ar, Sz, H⟩ := F
  subst hj Sz hx'
  obtain ⟨T', h', X', e', W', st'⟩ := RoadKit.stC X hx hZ eT Ar (j := j) (x := x) (fun q => q.elim h0 (Nat.not_le.mpr hi)) (g := mkF C.2.2.2.2.1 pc L (.int x :: .int j :: .ref a :: S)) rfl rfl (hb hby hd)
  exact ⟨h', W', Arf.set ⟨cl, Ar, rfl, H⟩ W' hi, hx, hby, hml, hown, hZ, hnm, hrt, hlk, T', _, X', Fr.snoc X' N ga, e', fun t kt => st t (st' t kt)⟩
theorem Run.dastore {a : Addr} {n : Nat} {f : Nat → Value} {j : Int32} {x : UInt64} (K : Run C R Z n0 own nm ret bytes mx h cells slots pc L (.double x :: .int j :: .ref a :: S)) (hd : decode bytes pc = .ok (.dastore, 1)) (F : Arf Z h a .double n f) (i : Nat) (hj : j.toNatClampNeg = i) (h0 : ¬ j < 0) (hi : i < n) (ga : n0 ≤ a) :
    ∃ h', Wr h h' a i (.double x) ∧ Arf Z h' a .double n (updV f i (.double x)) ∧ Run C R Z n0 own nm ret bytes mx h' cells slots (pc + 1) L S := by
  obtain ⟨hx, hby, hml, hown, hZ, hnm, hrt, hlk, T, locs, X, N, eT, st⟩ := K
  obtain ⟨cl, Ar, Sz, H⟩ := F
  subst hj Sz
  obtain ⟨T', h', X', e', W', st'⟩ := RoadKit.stD X hx hZ eT Ar (j := j) (x := x) (fun q => q.elim h0 (Nat.not_le.mpr hi)) (g := mkF C.2.2.2.2.1 pc L (.double x :: .int j :: .ref a :: S)) rfl rfl (hb hby hd)
  exact ⟨h', W', Arf.set ⟨cl, Ar, rfl, H⟩ W' hi, hx, hby, hml, hown, hZ, hnm, hrt, hlk, T', _, X', Fr.snoc X' N ga, e', fun t kt => st t (st' t kt)⟩
theorem Run.newarr {a0 : Array Value} {aty : ArrayType} {n : Int32} {ad : String} (K : Run C R Z n0 own nm ret bytes mx h cells slots pc L (.int n :: S)) (hd : decode bytes pc = .ok (.newarray aty, 2)) (w : (Jvm.Cond.arrayClass (newarray.typeOf aty)).before a0 Z = true) (hn : ¬ n < 0) (z : Nat) (hz : n.toNatClampNeg = z) (cap : Nat) (hcap : z ≤ cap) (hb8 : cap * 8 ≤ 536870912) (hc : cells + 1 ≤ R.cells) (hl : slots + cap ≤ R.slots) (had : "[" ++ (newarray.typeOf aty).toString = ad) :
    ∃ (h' : Heap) (b : Addr), b = h.size ∧ Ext h h' ∧ Arf Z h' b (newarray.typeOf aty) z (fun _ => defaultValue (newarray.typeOf aty)) ∧ Exa Z h' b ad ∧ Run C R Z n0 own nm ret bytes mx h' (cells + 1) (slots + cap) (pc + 2) L (.ref b :: S) := by
  obtain ⟨hx, hby, hml, hown, hZ, hnm, hrt, hlk, T, locs, X, N, eT, st⟩ := K
  subst hz
  obtain ⟨T', h', cA, X', e', E', A', Ex', st'⟩ := RoadKit.newPE X hx hZ w eT (g := mkF C.2.2.2.2.1 pc L (.int n :: S)) rfl (hb hby hd) rfl hn hcap hb8 hc hl had
  exact ⟨h', _, rfl, E', ⟨_, A', sz_new _ _ _, fun i hi => by simp [newA, hi]⟩, Ex', hx, hby, hml, hown, hZ, hnm, hrt, hlk, T', _, X', N, e', fun t kt => st t (st' t kt)⟩
theorem Run.clone {a0 : Array Value} {index W : Nat} {ad : String} {a : Addr} {ty : FieldType} {n : Nat} {f : Nat → Value} (K : Run C R Z n0 own nm ret bytes mx h cells slots pc L (.ref a :: S)) (hd : decode bytes pc = .ok (.invokevirtual index, 3))
    (w1 : (Jvm.Cond.methodLink own index ⟨ad, "clone", "()Ljava/lang/Object;"⟩).before a0 Z = true) (w2 : (Jvm.Cond.sameMethod ad "java/lang/Object" "clone" "()Ljava/lang/Object;").before a0 Z = true) (w3 : (Jvm.Cond.native ⟨"java/lang/Object", "clone", "()Ljava/lang/Object;"⟩).before a0 Z = true)
    (w4 : (Jvm.Cond.instanceMethod ⟨"java/lang/Object", "clone", "()Ljava/lang/Object;"⟩).before a0 Z = true) (w5 : (Jvm.Cond.selects ad ⟨ad, "clone", "()Ljava/lang/Object;"⟩ ⟨"java/lang/Object", "clone", "()Ljava/lang/Object;"⟩).before a0 Z = true) (w6 : (Jvm.Cond.castable ad "java/lang/Cloneable").before a0 Z = true)
    (F : Arf Z h a ty n f) (hfit : ∀ i, i < n → fits ty (f i) = true) (E : Exa Z h a ad) (cap : Nat) (hcap : n ≤ cap) (hW : (S.map fun v => v.category).sum = W) (hLs : L.size = mx) (hf : 1 ≤ R.frames) (hl : W + 14 ≤ R.locals) (hc : cells + 1 ≤ R.cells) (hsl : slots + cap ≤ R.slots) :
    ∃ (h' : Heap) (b : Addr), b = h.size ∧ Ext h h' ∧ Arf Z h' b ty n f ∧ Exa Z h' b ad ∧ Run C R Z n0 own nm ret bytes mx h' (cells + 1) (slots + cap) (pc + 3) L (.ref b :: S) := by
  obtain ⟨hx, hby, hml, hown, hZ, hnm, hrt, hlk, T, locs, X, N, eT, st⟩ := K
  obtain ⟨cl, Ar, Sz, H⟩ := F
  subst Sz
  have FC : FitC Z cl := fitC_of Ar fun i hi v hv => by rw [H i hi] at hv; cases hv; exact hfit i hi
  obtain ⟨T', h', X', e', ex, A', E', st'⟩ := cloneA X hx hZ hown w1 w2 w3 w4 w5 w6 eT Ar E FC (g := mkF C.2.2.2.2.1 pc L (.ref a :: S)) rfl (by rw [hml]; exact hLs) rfl (hb hby hd) hf (W := W) (cap := cap) (by show 2 * 0 + _ ≤ _; omega) hl hcap hc hsl
  exact ⟨h', _, rfl, ex, ⟨cloneOf cl, A', rfl, H⟩, E', hx, hby, hml, hown, hZ, hnm, hrt, hlk, T', _, X', N, e', fun t kt => st t (st' t kt)⟩
theorem Run.instY {a0 : Array Value} {index : Nat} {Kl : String} {a : Addr} (K : Run C R Z n0 own nm ret bytes mx h cells slots pc L (.ref a :: S)) (hd : decode bytes pc = .ok (.instanceof index, 3)) (w : (Jvm.Cond.classLink own index Kl).before a0 Z = true) (F : Ins Z h a Kl true) : Run C R Z n0 own nm ret bytes mx h cells slots (pc + 3) L (.int (1 : Int32) :: S) := by
  obtain ⟨hx, hby, hml, hown, hZ, hnm, hrt, hlk, T, locs, X, N, eT, st⟩ := K
  obtain ⟨T', X', e', st'⟩ := RoadKit.instY X hx hZ hown w eT F (g := mkF C.2.2.2.2.1 pc L (.ref a :: S)) rfl rfl (hb hby hd)
  exact ⟨hx, hby, hml, hown, hZ, hnm, hrt, hlk, T', locs, X', N, e', fun t kt => st t (st' t kt)⟩
theorem Run.castNull {index : Nat} (K : Run C R Z n0 own nm ret bytes mx h cells slots pc L (.null :: S)) (hd : decode bytes pc = .ok (.checkcast index, 3)) : Run C R Z n0 own nm ret bytes mx h cells slots (pc + 3) L (.null :: S) := by
  obtain ⟨hx, hby, hml, hown, hZ, hnm, hrt, hlk, T, locs, X, N, eT, st⟩ := K
  exact ⟨hx, hby, hml, hown, hZ, hnm, hrt, hlk, T, locs, X, N, eT, fun t kt => st t (X.checkcastNull hx (g := mkF C.2.2.2.2.1 pc L (.null :: S)) rfl rfl (hb hby hd) t kt)⟩
theorem Run.lswHit {x : Int32} {dflt : Int} {pairs : Array (Int × Int)} {len : Nat} {b off : Int} {pc' : Nat} (K : Run C R Z n0 own nm ret bytes mx h cells slots pc L (.int x :: S)) (hd : decode bytes pc = .ok (.lookupswitch dflt pairs, len)) (hsorted : (pairs.toList.zip (pairs.toList.drop 1)).all (fun (a, next) => a.1 < next.1) = true) (hfind : pairs.find? (·.1 == x.toInt) = some (b, off)) (ho : 0 ≤ (pc : Int) + off) (hp : ((pc : Int) + off).toNat = pc') : Run C R Z n0 own nm ret bytes mx h cells slots pc' L S := by
  obtain ⟨hx, hby, hml, hown, hZ, hnm, hrt, hlk, T, locs, X, N, eT, st⟩ := K
  subst hp
  exact ⟨hx, hby, hml, hown, hZ, hnm, hrt, hlk, T, locs, X, N, eT, fun t kt => st t (X.lookupswitchHit hx (g := mkF C.2.2.2.2.1 pc L (.int x :: S)) rfl rfl (hb hby hd) hsorted hfind ho t kt)⟩
theorem Run.lswMiss {x : Int32} {dflt : Int} {pairs : Array (Int × Int)} {len : Nat} {pc' : Nat} (K : Run C R Z n0 own nm ret bytes mx h cells slots pc L (.int x :: S)) (hd : decode bytes pc = .ok (.lookupswitch dflt pairs, len)) (hsorted : (pairs.toList.zip (pairs.toList.drop 1)).all (fun (a, next) => a.1 < next.1) = true) (hfind : ∀ p ∈ pairs.toList, p.1 ≠ x.toInt) (ho : 0 ≤ (pc : Int) + dflt) (hp : ((pc : Int) + dflt).toNat = pc') : Run C R Z n0 own nm ret bytes mx h cells slots pc' L S := by
  obtain ⟨hx, hby, hml, hown, hZ, hnm, hrt, hlk, T, locs, X, N, eT, st⟩ := K
  subst hp
  exact ⟨hx, hby, hml, hown, hZ, hnm, hrt, hlk, T, locs, X, N, eT, fun t kt => st t (X.lookupswitchMiss hx (g := mkF C.2.2.2.2.1 pc L (.int x :: S)) rfl rfl (hb hby hd) hsorted (find_miss hfind) ho t kt)⟩
end Steps
end Jvm.Own

namespace Jvm.Pilot.@@N@@
open Jvm Jvm.ClassFile Sem Op Lib Jvm.Free Jvm.Stand Jvm.LawKit Jvm.RoadKit Jvm.Own Bundle Jvm.Pilot.@@N@@.Jvm.D
theorem pd_0 : parseMethodDescriptor "(C)Z" = some ⟨[.char], some .boolean⟩ := by decide +kernel
theorem pd_1 : parseMethodDescriptor "(C)[B" = some ⟨[.char], some (.array .byte)⟩ := by decide +kernel
theorem pd_2 : parseMethodDescriptor "([BB)V" = some ⟨[(.array .byte), .byte], none⟩ := by decide +kernel
theorem pd_3 : parseMethodDescriptor "()V" = some ⟨[], none⟩ := by decide +kernel
theorem pd_4 : parseMethodDescriptor "(C)Ljava/lang/String;" = some ⟨[.char], some (.object "java/lang/String")⟩ := by decide +kernel
theorem pd_5 : parseMethodDescriptor "(Ljava/lang/String;Ljava/lang/String;I)V" = some ⟨[(.object "java/lang/String"), (.object "java/lang/String"), .int], none⟩ := by decide +kernel
theorem pd_6 : parseMethodDescriptor "()Z" = some ⟨[], some .boolean⟩ := by decide +kernel
theorem own_i2b (x : Int32) : x.toInt8.toInt32.toInt8.toInt32 = x.toInt8.toInt32 := by simp

section Narrow
variable {args : Array Value} {first s : State} {o : Option Outcome} {idx : List Nat} {t u : Term}
theorem own_eqv {n : Int32} (h : (Jvm.Cond.eq t (.int n)).value args first o s idx = some true) : t.eval args first o idx s = some (.int n) := by
  cases ht : t.eval args first o idx s with
  | none => simp [Cond.value, ht] at h
  | some x => cases x <;> simp [Cond.value, Term.int_eval, ht] at h ⊢; exact h
theorem own_ne0 {z n : Int32} (ev : t.eval args first o idx s = some (.int z)) (h : (Jvm.Cond.eq t (.int n)).value args first o s idx = some false) : ¬ (z = n) := by
  intro q; subst q
  simp [Cond.value, Term.int_eval, ev] at h
theorem own_eqr {b : Addr} (hu : u.eval args first o idx s = some (.ref b)) (h : (Jvm.Cond.eq t u).value args first o s idx = some true) : t.eval args first o idx s = some (.ref b) := by
  cases ht : t.eval args first o idx s with
  | none => simp [Cond.value, ht] at h
  | some x => cases x <;> simp [Cond.value, hu, ht] at h ⊢; exact h
theorem own_len {a : Addr} {cl : Cell} {ty : FieldType} {n : Int32} {k : Nat} (ev : t.eval args s none [] s = some (.ref a)) (A : Arr s s.heap a cl ty) (h : (Term.length t).eval args s none [] s = some (.int n)) (hk : n.toInt = (k : Int)) : cl.slots.size = k := by
  have q : s.arrayAt? a = some cl := A.fin (Vm.Alike.refl _)
  simp [Term.eval, ev, q] at h
  have r := len_toInt h.1
  rw [h.2, hk] at r
  omega
end Narrow
def own_rel (p2 : Int32) : Int32 := (if p2 < (1 : Int32) then (0 : Int32) else (1 : Int32))

theorem own_c (x : Int32) : ¬ ((255 : Int32) < ((x &&& (255 : Int32)).toUInt32.toUInt16.toUInt32.toInt32)) := by
  have h1 := c_mask x 255 8 (by decide) (by decide)
  have h2 := c_i2c (x &&& 255)
  have e : (255 : Int32).toInt = 255 := by decide
  have p : (2 ^ 8 : Nat) = 256 := by decide
  rw [Int32.lt_iff_toInt_lt, e]
  rw [p] at h1
  omega
theorem own_law1 (x : Int32) : own_rel x = if (0 : Int32) < x then (1 : Int32) else (0 : Int32) := by
  have e0 : (0 : Int32).toInt = 0 := by decide
  have e1 : (1 : Int32).toInt = 1 := by decide
  unfold own_rel
  simp only [Int32.lt_iff_toInt_lt, e0, e1]
  repeat' split
  all_goals first | rfl | (exfalso; omega)
theorem d2_0 : decode jdk_43_method_3_code 0 = .ok (.iload_n 0, 1) := by decide +kernel
theorem d2_1 : decode jdk_43_method_3_code 1 = .ok (.sipush 255, 3) := by decide +kernel
theorem d2_4 : decode jdk_43_method_3_code 4 = .ok (.if_icmp .gt 7, 3) := by decide +kernel
theorem d2_7 : decode jdk_43_method_3_code 7 = .ok (.iconst 1, 1) := by decide +kernel
theorem d2_8 : decode jdk_43_method_3_code 8 = .ok (.goto 4, 3) := by decide +kernel
theorem d2_12 : decode jdk_43_method_3_code 12 = .ok (.ireturn, 1) := by decide +kernel
set_option maxRecDepth 65536 in
set_option maxHeartbeats 40000000 in
theorem rm2 (Z : State) (a0 : Array Value) (hw : ∀ d ∈ tables_1, d.before a0 Z = true) (p1 : Int32) (h0 : Heap) (n0 : Nat) (c1 : ¬ ((255 : Int32) < p1)) :
    Con Z n0 (⟨"java/lang/StringLatin1", "canEncode", "(C)Z"⟩ : MethodName) jdk_43_method_3_code 1 (some .boolean) [] ({ frames := 0, cells := 0, slots := 0, locals := 0 } : Room) #[(.int p1)] h0 (fun v h => v = some (.int (1 : Int32)) ∧ h0 = h) := by
  refine Con.intro (L0 := #[.val (.int p1)]) (plainFor_of_name (by first | (simp [plainName, overriddenIn]; done) | decide +kernel)) (fun m => by first | (simp [entryFrame, mkF, argsToLocals, Value.category]; done) | rfl) ?_
  intro C k
  replace k := k.iloadN d2_0 rfl
  replace k := k.sipush (255 : Int32) d2_1 rfl
  replace k := k.icmpNo d2_4 (flt c1).2.2.1
  replace k := k.iconst (1 : Int32) d2_7 rfl
  replace k := k.goto (pc' := 12) d2_8 (by decide) (by decide)
  exact k.iret d2_12 rfl (by simp) rfl ⟨rfl, rfl⟩ (by decide) (by decide)

theorem d3_0 : decode jdk_43_method_46_code 0 = .ok (.iconst 1, 1) := by decide +kernel
theorem d3_1 : decode jdk_43_method_46_code 1 = .ok (.newarray .byte, 2) := by decide +kernel
theorem d3_3 : decode jdk_43_method_46_code 3 = .ok (.dup, 1) := by decide +kernel
theorem d3_4 : decode jdk_43_method_46_code 4 = .ok (.iconst 0, 1) := by decide +kernel
theorem d3_5 : decode jdk_43_method_46_code 5 = .ok (.iload_n 0, 1) := by decide +kernel
theorem d3_6 : decode jdk_43_method_46_code 6 = .ok (.i2b, 1) := by decide +kernel
theorem d3_7 : decode jdk_43_method_46_code 7 = .ok (.bastore, 1) := by decide +kernel
theorem d3_8 : decode jdk_43_method_46_code 8 = .ok (.areturn, 1) := by decide +kernel
set_option maxRecDepth 65536 in
set_option maxHeartbeats 40000000 in
theorem rm3 (Z : State) (a0 : Array Value) (hw : ∀ d ∈ tables_1, d.before a0 Z = true) (p1 : Int32) (h0 : Heap) (n0 : Nat) (Z0 : n0 ≤ h0.size) :
    Con Z n0 (⟨"java/lang/StringLatin1", "toBytes", "(C)[B"⟩ : MethodName) jdk_43_method_46_code 1 (some (.array .byte)) [] ({ frames := 0, cells := 1, slots := 1, locals := 0 } : Room) #[(.int p1)] h0 (fun v h => ∃ b, v = some (.ref b) ∧ n0 ≤ b ∧ Keep h0 h []) := by
  refine Con.intro (L0 := #[.val (.int p1)]) (plainFor_of_name (by first | (simp [plainName, overriddenIn]; done) | decide +kernel)) (fun m => by first | (simp [entryFrame, mkF, argsToLocals, Value.category]; done) | rfl) ?_
  intro C k
  replace k := k.iconst (1 : Int32) d3_0 rfl
  obtain ⟨h1, b1, g1, E1, A1, X1, k⟩ := k.newarr (ad := "[B") d3_1 (hw _ (List.mem_of_getElem? (i := 14) rfl)) (by decide) 1 (by decide) 1 (by decide) (by decide) (by decide) (by decide) (by decide)
  have ge_b1 : n0 ≤ b1 := Nat.le_trans Z0 (Nat.le_of_eq g1.symm)
  have sz_b1 : h0.size ≤ b1 := Nat.le_trans (Keep.refl h0 ([] : List Addr)).1 (Nat.le_of_eq g1.symm)
  have K1 : Keep h0 h1 [] := (Keep.refl h0 ([] : List Addr)).ext E1
  replace k := k.dup d3_3 rfl
  replace k := k.iconst (0 : Int32) d3_4 rfl
  replace k := k.iloadN d3_5 rfl
  replace k := k.i2b d3_6
  obtain ⟨h2, W2, A2, k⟩ := k.bastore d3_7 A1 0 (by decide) (by decide) (by decide) ge_b1 (p1.toInt8.toInt32) (own_i2b _)
  have K2 : Keep h0 h2 [] := K1.wr W2 (Or.inr sz_b1)
  exact k.aret d3_8 rfl rfl rfl rfl ⟨_, rfl, ge_b1, K2⟩ (by decide) (by decide)

theorem d4_0 : decode jdk_42_method_151_code 0 = .ok (.aload_n 0, 1) := by decide +kernel
theorem d4_1 : decode jdk_42_method_151_code 1 = .ok (.invokespecial 1, 3) := by decide +kernel
theorem d4_4 : decode jdk_42_method_151_code 4 = .ok (.aload_n 0, 1) := by decide +kernel
theorem d4_5 : decode jdk_42_method_151_code 5 = .ok (.aload_n 1, 1) := by decide +kernel
theorem d4_6 : decode jdk_42_method_151_code 6 = .ok (.putfield 9, 3) := by decide +kernel
theorem d4_9 : decode jdk_42_method_151_code 9 = .ok (.aload_n 0, 1) := by decide +kernel
theorem d4_10 : decode jdk_42_method_151_code 10 = .ok (.iload_n 2, 1) := by decide +kernel
theorem d4_11 : decode jdk_42_method_151_code 11 = .ok (.putfield 15, 3) := by decide +kernel
theorem d4_14 : decode jdk_42_method_151_code 14 = .ok (.return_, 1) := by decide +kernel
set_option maxRecDepth 65536 in
set_option maxHeartbeats 40000000 in
theorem rm4 (Z : State) (a0 : Array Value) (hw : ∀ d ∈ tables_1, d.before a0 Z = true) (a1 a2 : Addr) (h0 : Heap) (n0 : Nat) (Z0 : n0 ≤ h0.size) (g1 : n0 ≤ a1) (E1 : Exa Z h0 a1 "java/lang/String") (F1 : Fld Z h0 a1 "java/lang/String" "value" "[B" .null) (F2 : Fld Z h0 a1 "java/lang/String" "coder" "B" (.int (0 : Int32))) :
    Con Z n0 (⟨"java/lang/String", "<init>", "([BB)V"⟩ : MethodName) jdk_42_method_151_code 3 none [] ({ frames := 1, cells := 0, slots := 0, locals := 12 } : Room) #[(.ref a1), (.ref a2), (.int (0 : Int32))] h0 (fun v h => v = none ∧ Keep h0 h [a1]) := by
  refine Con.intro (L0 := #[.val (.ref a1), .val (.ref a2), .val (.int (0 : Int32))]) (plainFor_of_name (by first | (simp [plainName, overriddenIn]; done) | decide +kernel)) (fun m => by first | (simp [entryFrame, mkF, argsToLocals, Value.category]; done) | rfl) ?_
  intro C k
  replace k := k.aloadN d4_0 rfl rfl
  replace k := k.initO (W := 0) d4_1 (hw _ (List.mem_of_getElem? (i := 19) rfl)) (hw _ (List.mem_of_getElem? (i := 20) rfl)) (hw _ (List.mem_of_getElem? (i := 21) rfl)) rfl rfl (by decide) (by decide)
  replace k := k.aloadN d4_4 rfl rfl
  replace k := k.aloadN d4_5 rfl rfl
  obtain ⟨h1, W1, k⟩ := k.putF d4_6 (host := "") (Or.inl (hw _ (List.mem_of_getElem? (i := 22) rfl))) Via.refl F1 E1 (Or.inr ⟨(hw _ (List.mem_of_getElem? (i := 23) rfl)), rfl, rfl⟩) (hw _ (List.mem_of_getElem? (i := 10) rfl)) (ty := (.array .byte)) (by decide) rfl rfl g1
  have Fw1 := Fld.same W1 F1
  have K1 : Keep h0 h1 [a1] := (Keep.refl h0 ([a1] : List Addr)).wr W1 (Or.inl (List.mem_of_getElem? (i := 0) rfl))
  replace k := k.aloadN d4_9 rfl rfl
  replace k := k.iloadN d4_10 rfl
  obtain ⟨h2, W2, k⟩ := k.putF d4_11 (host := "") (Or.inl (hw _ (List.mem_of_getElem? (i := 24) rfl))) Via.refl (Fld.other W1 F2 (Or.inr (slot_ne (Or.inr (hw _ (List.mem_of_getElem? (i := 25) rfl))) (Or.inr (hw _ (List.mem_of_getElem? (i := 23) rfl))) (by decide) (t := .byte) (t' := (.array .byte)) (by decide) (by decide)))) (Exa.wr W1 E1) (Or.inr ⟨(hw _ (List.mem_of_getElem? (i := 25) rfl)), rfl, rfl⟩) (hw _ (List.mem_of_getElem? (i := 10) rfl)) (ty := .byte) (by decide) rfl rfl g1
  have Fw2 := Fld.same W2 (Fld.other W1 F2 (Or.inr (slot_ne (Or.inr (hw _ (List.mem_of_getElem? (i := 25) rfl))) (Or.inr (hw _ (List.mem_of_getElem? (i := 23) rfl))) (by decide) (t := .byte) (t' := (.array .byte)) (by decide) (by decide))))
  have K2 : Keep h0 h2 [a1] := K1.wr W2 (Or.inl (List.mem_of_getElem? (i := 0) rfl))
  exact k.vret d4_14 rfl ⟨rfl, K2⟩ (by decide) (by decide)

theorem d1_0 : decode jdk_42_method_139_code 0 = .ok (.getstatic 38, 3) := by decide +kernel
theorem d1_3 : decode jdk_42_method_139_code 3 = .ok (.ifCond .eq 23, 3) := by decide +kernel
theorem d1_6 : decode jdk_42_method_139_code 6 = .ok (.iload_n 0, 1) := by decide +kernel
theorem d1_7 : decode jdk_42_method_139_code 7 = .ok (.invokestatic 1015, 3) := by decide +kernel
theorem d1_10 : decode jdk_42_method_139_code 10 = .ok (.ifCond .eq 16, 3) := by decide +kernel
theorem d1_13 : decode jdk_42_method_139_code 13 = .ok (.new 10, 3) := by decide +kernel
theorem d1_16 : decode jdk_42_method_139_code 16 = .ok (.dup, 1) := by decide +kernel
theorem d1_17 : decode jdk_42_method_139_code 17 = .ok (.iload_n 0, 1) := by decide +kernel
theorem d1_18 : decode jdk_42_method_139_code 18 = .ok (.invokestatic 1018, 3) := by decide +kernel
theorem d1_21 : decode jdk_42_method_139_code 21 = .ok (.iconst 0, 1) := by decide +kernel
theorem d1_22 : decode jdk_42_method_139_code 22 = .ok (.invokespecial 209, 3) := by decide +kernel
theorem d1_25 : decode jdk_42_method_139_code 25 = .ok (.areturn, 1) := by decide +kernel
set_option maxRecDepth 65536 in
set_option maxHeartbeats 40000000 in
theorem rm1 (Z : State) (a0 : Array Value) (hw : ∀ d ∈ tables_1, d.before a0 Z = true) (p1 zC : Int32) (h0 : Heap) (n0 : Nat) (Z0 : n0 ≤ h0.size) (S_COMPACT : Sta Z h0 "java/lang/String" "COMPACT_STRINGS" "Z" (.int zC)) (hC : ¬ (zC = (0 : Int32))) (c1 : ¬ ((255 : Int32) < p1)) :
    Con Z n0 (⟨"java/lang/String", "valueOf", "(C)Ljava/lang/String;"⟩ : MethodName) jdk_42_method_139_code 1 (some (.object "java/lang/String")) [] ({ frames := 2, cells := 2, slots := 5, locals := 27 } : Room) #[(.int p1)] h0 (fun v h => ∃ b, v = some (.ref b) ∧ n0 ≤ b ∧ Keep h0 h []) := by
  refine Con.intro (L0 := #[.val (.int p1)]) (plainFor_of_name (by first | (simp [plainName, overriddenIn]; done) | decide +kernel)) (fun m => by first | (simp [entryFrame, mkF, argsToLocals, Value.category]; done) | rfl) ?_
  intro C k
  replace k := k.getS d1_0 (host := "") (Or.inl (hw _ (List.mem_of_getElem? (i := 4) rfl))) Via.refl S_COMPACT
  replace k := k.ifNo d1_3 (feq hC).1
  replace k := k.iloadN d1_6 rfl
  obtain ⟨_, _, ⟨rfl, rfl⟩, k⟩ := k.callS (y := (⟨"java/lang/StringLatin1", "canEncode", "(C)Z"⟩ : MethodName)) d1_7 (hw _ (List.mem_of_getElem? (i := 5) rfl)) (hw _ (List.mem_of_getElem? (i := 6) rfl)) (hw _ (List.mem_of_getElem? (i := 7) rfl)) (hw _ (List.mem_of_getElem? (i := 8) rfl)) (W := 0) (argsL := [(.int p1)]) (rest := []) (rm2 Z a0 hw p1 h0 n0 c1) rfl (pd_0) rfl rfl rfl (by decide) (by decide) (by decide) (by decide) (by decide)
  replace k := k.stk [(.int (1 : Int32))] rfl
  replace k := k.ifNo d1_10 (by decide)
  obtain ⟨h1, b1, g1, E1, A1, D1, k⟩ := k.newO d1_13 (hw _ (List.mem_of_getElem? (i := 9) rfl)) (hw _ (List.mem_of_getElem? (i := 10) rfl)) (hw _ (List.mem_of_getElem? (i := 2) rfl)) (by decide) (by decide)
  have ge_b1 : n0 ≤ b1 := Nat.le_trans Z0 (Nat.le_of_eq g1.symm)
  have sz_b1 : h0.size ≤ b1 := Nat.le_trans (Keep.refl h0 ([] : List Addr)).1 (Nat.le_of_eq g1.symm)
  have K1 : Keep h0 h1 [] := (Keep.refl h0 ([] : List Addr)).ext E1
  have F_value_b1 : Fld Z h1 b1 "java/lang/String" "value" "[B" .null := D1 (Or.inr (hw _ (List.mem_of_getElem? (i := 23) rfl))) (ty := (.array .byte)) (by decide)
  have F_coder_b1 : Fld Z h1 b1 "java/lang/String" "coder" "B" (.int (0 : Int32)) := D1 (Or.inr (hw _ (List.mem_of_getElem? (i := 25) rfl))) (ty := .byte) (by decide)
  replace k := k.dup d1_16 rfl
  replace k := k.iloadN d1_17 rfl
  obtain ⟨_, ht2, ⟨bt2, rfl, gbt2, Kt2⟩, k⟩ := k.callS (y := (⟨"java/lang/StringLatin1", "toBytes", "(C)[B"⟩ : MethodName)) d1_18 (hw _ (List.mem_of_getElem? (i := 11) rfl)) (hw _ (List.mem_of_getElem? (i := 12) rfl)) (hw _ (List.mem_of_getElem? (i := 7) rfl)) (hw _ (List.mem_of_getElem? (i := 13) rfl)) (W := 2) (argsL := [(.int p1)]) (rest := [(.ref b1), (.ref b1)]) (rm3 Z a0 hw p1 h1 n0 (Nat.le_trans Z0 E1.1)) rfl (pd_1) rfl rfl rfl (by decide) (by decide) (by decide) (by decide) (by decide)
  have Kc3 : Keep h0 ht2 [] := K1.trans Kt2 all0
  replace k := k.stk [(.ref bt2), (.ref b1), (.ref b1)] rfl
  replace k := k.iconst (0 : Int32) d1_21 rfl
  obtain ⟨_, hc4, ⟨rfl, Kc4⟩, k⟩ := k.callI (y := (⟨"java/lang/String", "<init>", "([BB)V"⟩ : MethodName)) (a := b1) d1_22 rfl (hw _ (List.mem_of_getElem? (i := 15) rfl)) (hw _ (List.mem_of_getElem? (i := 16) rfl)) (hw _ (List.mem_of_getElem? (i := 2) rfl)) (hw _ (List.mem_of_getElem? (i := 18) rfl)) (W := 1) (argsL := [(.ref bt2), (.int (0 : Int32))]) (rest := [(.ref b1)]) (rm4 Z a0 hw b1 bt2 ht2 n0 (Nat.le_trans (Nat.le_trans Z0 E1.1) Kt2.1) ge_b1 (A1.keep Kt2) (F_value_b1.keep Kt2 nin0) (F_coder_b1.keep Kt2 nin0)) rfl (pd_2) rfl rfl rfl (by decide) (by decide) (by decide) (by decide) (by decide)
  have Kc5 : Keep h0 hc4 [] := Kc3.trans Kc4 (allS (Or.inr sz_b1) all0)
  replace k := k.stk [(.ref b1)] rfl
  exact k.aret d1_25 rfl rfl rfl rfl ⟨_, rfl, ge_b1, Kc5⟩ (by decide) (by decide)

theorem d7_0 : decode jdk_30_method_1_code 0 = .ok (.aload_n 0, 1) := by decide +kernel
theorem d7_1 : decode jdk_30_method_1_code 1 = .ok (.invokespecial 1, 3) := by decide +kernel
theorem d7_4 : decode jdk_30_method_1_code 4 = .ok (.return_, 1) := by decide +kernel
set_option maxRecDepth 65536 in
set_option maxHeartbeats 40000000 in
theorem rm7 (Z : State) (a0 : Array Value) (hw : ∀ d ∈ tables_1, d.before a0 Z = true) (a1 : Addr) (h0 : Heap) (n0 : Nat)  :
    Con Z n0 (⟨"java/lang/Record", "<init>", "()V"⟩ : MethodName) jdk_30_method_1_code 1 none [] ({ frames := 1, cells := 0, slots := 0, locals := 12 } : Room) #[(.ref a1)] h0 (fun v h => v = none ∧ h0 = h) := by
  refine Con.intro (L0 := #[.val (.ref a1)]) (plainFor_of_name (by first | (simp [plainName, overriddenIn]; done) | decide +kernel)) (fun m => by first | (simp [entryFrame, mkF, argsToLocals, Value.category]; done) | rfl) ?_
  intro C k
  replace k := k.aloadN d7_0 rfl rfl
  replace k := k.initO (W := 0) d7_1 (hw _ (List.mem_of_getElem? (i := 37) rfl)) (hw _ (List.mem_of_getElem? (i := 20) rfl)) (hw _ (List.mem_of_getElem? (i := 21) rfl)) rfl rfl (by decide) (by decide)
  exact k.vret d7_4 rfl ⟨rfl, rfl⟩ (by decide) (by decide)

theorem d6_0 : decode prog_26_method_1_code 0 = .ok (.aload_n 0, 1) := by decide +kernel
theorem d6_1 : decode prog_26_method_1_code 1 = .ok (.invokespecial 1, 3) := by decide +kernel
theorem d6_4 : decode prog_26_method_1_code 4 = .ok (.aload_n 0, 1) := by decide +kernel
theorem d6_5 : decode prog_26_method_1_code 5 = .ok (.aload_n 1, 1) := by decide +kernel
theorem d6_6 : decode prog_26_method_1_code 6 = .ok (.putfield 7, 3) := by decide +kernel
theorem d6_9 : decode prog_26_method_1_code 9 = .ok (.aload_n 0, 1) := by decide +kernel
theorem d6_10 : decode prog_26_method_1_code 10 = .ok (.aload_n 2, 1) := by decide +kernel
theorem d6_11 : decode prog_26_method_1_code 11 = .ok (.putfield 13, 3) := by decide +kernel
theorem d6_14 : decode prog_26_method_1_code 14 = .ok (.aload_n 0, 1) := by decide +kernel
theorem d6_15 : decode prog_26_method_1_code 15 = .ok (.iload_n 3, 1) := by decide +kernel
theorem d6_16 : decode prog_26_method_1_code 16 = .ok (.putfield 16, 3) := by decide +kernel
theorem d6_19 : decode prog_26_method_1_code 19 = .ok (.return_, 1) := by decide +kernel
set_option maxRecDepth 65536 in
set_option maxHeartbeats 40000000 in
theorem rm6 (Z : State) (a0 : Array Value) (hw : ∀ d ∈ tables_1, d.before a0 Z = true) (a1 a2 a3 : Addr) (p4 : Int32) (h0 : Heap) (n0 : Nat) (Z0 : n0 ≤ h0.size) (g1 : n0 ≤ a1) (E1 : Exa Z h0 a1 "com/example/ongoing_interest/ongoinginterest/evaluation/Judgement") (F1 : Fld Z h0 a1 "com/example/ongoing_interest/ongoinginterest/evaluation/Judgement" "topic" "Ljava/lang/String;" .null) (F2 : Fld Z h0 a1 "com/example/ongoing_interest/ongoinginterest/evaluation/Judgement" "document" "Ljava/lang/String;" .null) (F3 : Fld Z h0 a1 "com/example/ongoing_interest/ongoinginterest/evaluation/Judgement" "relevance" "I" (.int (0 : Int32))) :
    Con Z n0 (⟨"com/example/ongoing_interest/ongoinginterest/evaluation/Judgement", "<init>", "(Ljava/lang/String;Ljava/lang/String;I)V"⟩ : MethodName) prog_26_method_1_code 4 none [] ({ frames := 2, cells := 0, slots := 0, locals := 24 } : Room) #[(.ref a1), (.ref a2), (.ref a3), (.int p4)] h0 (fun v h => v = none ∧ Keep h0 h [a1] ∧ Fld Z h a1 "com/example/ongoing_interest/ongoinginterest/evaluation/Judgement" "relevance" "I" (.int p4)) := by
  refine Con.intro (L0 := #[.val (.ref a1), .val (.ref a2), .val (.ref a3), .val (.int p4)]) (plainFor_of_name (by first | (simp [plainName, overriddenIn]; done) | decide +kernel)) (fun m => by first | (simp [entryFrame, mkF, argsToLocals, Value.category]; done) | rfl) ?_
  intro C k
  replace k := k.aloadN d6_0 rfl rfl
  obtain ⟨_, _, ⟨rfl, rfl⟩, k⟩ := k.callI (y := (⟨"java/lang/Record", "<init>", "()V"⟩ : MethodName)) (a := a1) d6_1 rfl (hw _ (List.mem_of_getElem? (i := 32) rfl)) (hw _ (List.mem_of_getElem? (i := 33) rfl)) (hw _ (List.mem_of_getElem? (i := 35) rfl)) (hw _ (List.mem_of_getElem? (i := 36) rfl)) (W := 0) (argsL := []) (rest := []) (rm7 Z a0 hw a1 h0 n0) rfl (pd_3) rfl rfl rfl (by decide) (by decide) (by decide) (by decide) (by decide)
  replace k := k.stk [] rfl
  replace k := k.aloadN d6_4 rfl rfl
  replace k := k.aloadN d6_5 rfl rfl
  obtain ⟨h1, W1, k⟩ := k.putF d6_6 (host := "") (Or.inl (hw _ (List.mem_of_getElem? (i := 38) rfl))) Via.refl F1 E1 (Or.inr ⟨(hw _ (List.mem_of_getElem? (i := 39) rfl)), rfl, rfl⟩) (hw _ (List.mem_of_getElem? (i := 27) rfl)) (ty := (.object "java/lang/String")) (by decide) rfl rfl g1
  have Fw1 := Fld.same W1 F1
  have K1 : Keep h0 h1 [a1] := (Keep.refl h0 ([a1] : List Addr)).wr W1 (Or.inl (List.mem_of_getElem? (i := 0) rfl))
  replace k := k.aloadN d6_9 rfl rfl
  replace k := k.aloadN d6_10 rfl rfl
  obtain ⟨h2, W2, k⟩ := k.putF d6_11 (host := "") (Or.inl (hw _ (List.mem_of_getElem? (i := 40) rfl))) Via.refl (Fld.other W1 F2 (Or.inr (slot_ne (Or.inr (hw _ (List.mem_of_getElem? (i := 41) rfl))) (Or.inr (hw _ (List.mem_of_getElem? (i := 39) rfl))) (by decide) (t := (.object "java/lang/String")) (t' := (.object "java/lang/String")) (by decide) (by decide)))) (Exa.wr W1 E1) (Or.inr ⟨(hw _ (List.mem_of_getElem? (i := 41) rfl)), rfl, rfl⟩) (hw _ (List.mem_of_getElem? (i := 27) rfl)) (ty := (.object "java/lang/String")) (by decide) rfl rfl g1
  have Fw2 := Fld.same W2 (Fld.other W1 F2 (Or.inr (slot_ne (Or.inr (hw _ (List.mem_of_getElem? (i := 41) rfl))) (Or.inr (hw _ (List.mem_of_getElem? (i := 39) rfl))) (by decide) (t := (.object "java/lang/String")) (t' := (.object "java/lang/String")) (by decide) (by decide))))
  have K2 : Keep h0 h2 [a1] := K1.wr W2 (Or.inl (List.mem_of_getElem? (i := 0) rfl))
  replace k := k.aloadN d6_14 rfl rfl
  replace k := k.iloadN d6_15 rfl
  obtain ⟨h3, W3, k⟩ := k.putF d6_16 (host := "") (Or.inl (hw _ (List.mem_of_getElem? (i := 42) rfl))) Via.refl (Fld.other W2 (Fld.other W1 F3 (Or.inr (slot_ne (Or.inr (hw _ (List.mem_of_getElem? (i := 43) rfl))) (Or.inr (hw _ (List.mem_of_getElem? (i := 39) rfl))) (by decide) (t := .int) (t' := (.object "java/lang/String")) (by decide) (by decide)))) (Or.inr (slot_ne (Or.inr (hw _ (List.mem_of_getElem? (i := 43) rfl))) (Or.inr (hw _ (List.mem_of_getElem? (i := 41) rfl))) (by decide) (t := .int) (t' := (.object "java/lang/String")) (by decide) (by decide)))) (Exa.wr W2 (Exa.wr W1 E1)) (Or.inr ⟨(hw _ (List.mem_of_getElem? (i := 43) rfl)), rfl, rfl⟩) (hw _ (List.mem_of_getElem? (i := 27) rfl)) (ty := .int) (by decide) rfl rfl g1
  have Fw3 := Fld.same W3 (Fld.other W2 (Fld.other W1 F3 (Or.inr (slot_ne (Or.inr (hw _ (List.mem_of_getElem? (i := 43) rfl))) (Or.inr (hw _ (List.mem_of_getElem? (i := 39) rfl))) (by decide) (t := .int) (t' := (.object "java/lang/String")) (by decide) (by decide)))) (Or.inr (slot_ne (Or.inr (hw _ (List.mem_of_getElem? (i := 43) rfl))) (Or.inr (hw _ (List.mem_of_getElem? (i := 41) rfl))) (by decide) (t := .int) (t' := (.object "java/lang/String")) (by decide) (by decide))))
  have K3 : Keep h0 h3 [a1] := K2.wr W3 (Or.inl (List.mem_of_getElem? (i := 0) rfl))
  exact k.vret d6_19 rfl ⟨rfl, K3, Fw3⟩ (by decide) (by decide)

theorem d8_0 : decode prog_26_method_3_code 0 = .ok (.aload_n 0, 1) := by decide +kernel
theorem d8_1 : decode prog_26_method_3_code 1 = .ok (.getfield 16, 3) := by decide +kernel
theorem d8_4 : decode prog_26_method_3_code 4 = .ok (.iconst 1, 1) := by decide +kernel
theorem d8_5 : decode prog_26_method_3_code 5 = .ok (.if_icmp .lt 7, 3) := by decide +kernel
theorem d8_8 : decode prog_26_method_3_code 8 = .ok (.iconst 1, 1) := by decide +kernel
theorem d8_9 : decode prog_26_method_3_code 9 = .ok (.goto 4, 3) := by decide +kernel
theorem d8_12 : decode prog_26_method_3_code 12 = .ok (.iconst 0, 1) := by decide +kernel
theorem d8_13 : decode prog_26_method_3_code 13 = .ok (.ireturn, 1) := by decide +kernel
set_option maxRecDepth 65536 in
set_option maxHeartbeats 40000000 in
theorem rm8 (Z : State) (a0 : Array Value) (hw : ∀ d ∈ tables_1, d.before a0 Z = true) (a1 : Addr) (p2 : Int32) (h0 : Heap) (n0 : Nat) (F1 : Fld Z h0 a1 "com/example/ongoing_interest/ongoinginterest/evaluation/Judgement" "relevance" "I" (.int p2)) :
    Con Z n0 (⟨"com/example/ongoing_interest/ongoinginterest/evaluation/Judgement", "isRelevant", "()Z"⟩ : MethodName) prog_26_method_3_code 1 (some .boolean) [] ({ frames := 0, cells := 0, slots := 0, locals := 0 } : Room) #[(.ref a1)] h0 (fun v h => v = some (.int (own_rel p2)) ∧ h0 = h) := by
  refine Con.intro (L0 := #[.val (.ref a1)]) (plainFor_of_name (by first | (simp [plainName, overriddenIn]; done) | decide +kernel)) (fun m => by first | (simp [entryFrame, mkF, argsToLocals, Value.category]; done) | rfl) ?_
  intro C k
  replace k := k.aloadN d8_0 rfl rfl
  replace k := k.getF d8_1 (host := "") (Or.inl (hw _ (List.mem_of_getElem? (i := 42) rfl))) Via.refl F1
  replace k := k.iconst (1 : Int32) d8_4 rfl
  by_cases hc1 : p2 < (1 : Int32)
  · skip
    replace k := k.icmpYes (pc' := 12) d8_5 (tlt hc1).1 (by decide) (by decide)
    replace k := k.iconst (0 : Int32) d8_12 rfl
    exact k.iret d8_13 rfl (by simp) rfl ⟨by rw [own_rel, if_pos hc1], rfl⟩ (by decide) (by decide)
  · skip
    replace k := k.icmpNo d8_5 (flt hc1).1
    replace k := k.iconst (1 : Int32) d8_8 rfl
    replace k := k.goto (pc' := 13) d8_9 (by decide) (by decide)
    exact k.iret d8_13 rfl (by simp) rfl ⟨by rw [own_rel, if_neg hc1], rfl⟩ (by decide) (by decide)

set_option maxRecDepth 65536 in
set_option maxHeartbeats 40000000 in
theorem rm0 (Z : State) (a0 : Array Value) (hw : ∀ d ∈ tables_1, d.before a0 Z = true) (p1 p2 p3 zC : Int32) (h0 : Heap) (n0 : Nat) (Z0 : n0 ≤ h0.size) (S_COMPACT : Sta Z h0 "java/lang/String" "COMPACT_STRINGS" "Z" (.int zC)) (hC : ¬ (zC = (0 : Int32))) :
    Con Z n0 x code maxLocals ret tables_1 room_1 #[(.int p1), (.int p2), (.int p3)] h0 (fun v h => v = some (.int (1 : Int32))) := by
  refine Con.intro (L0 := #[.val (.int p1), .val (.int p2), .val (.int p3), .unset, .unset, .unset, .unset]) (plainFor_of_name (by first | (simp [plainName, overriddenIn]; done) | decide +kernel)) (fun m => by first | (simp [entryFrame, mkF, argsToLocals, Value.category, maxLocals]; done) | rfl) ?_
  intro C k
  replace k := k.iloadN at_0 rfl
  replace k := k.sipush (255 : Int32) at_1 rfl
  replace k := k.iand at_4
  replace k := k.i2c at_5
  obtain ⟨_, hs1, ⟨bs1, rfl, gbs1, Ks1⟩, k⟩ := k.callS (y := (⟨"java/lang/String", "valueOf", "(C)Ljava/lang/String;"⟩ : MethodName)) at_6 (hw _ (List.mem_of_getElem? (i := 0) rfl)) (hw _ (List.mem_of_getElem? (i := 1) rfl)) (hw _ (List.mem_of_getElem? (i := 2) rfl)) (hw _ (List.mem_of_getElem? (i := 3) rfl)) (W := 0) (argsL := [(.int ((p2 &&& (255 : Int32)).toUInt32.toUInt16.toUInt32.toInt32))]) (rest := []) (rm1 Z a0 hw ((p2 &&& (255 : Int32)).toUInt32.toUInt16.toUInt32.toInt32) zC h0 n0 Z0 S_COMPACT hC (own_c _)) rfl (pd_4) rfl rfl rfl (by decide) (by decide) (by decide) (by decide) (by decide)
  replace k := k.stk [(.ref bs1)] rfl
  replace k := k.astoreN #[.val (.int p1), .val (.int p2), .val (.int p3), .val (.ref bs1), .unset, .unset, .unset] at_9 rfl rfl
  replace k := k.iloadN at_10 rfl
  replace k := k.sipush (255 : Int32) at_11 rfl
  replace k := k.iand at_14
  replace k := k.i2c at_15
  obtain ⟨_, hs2, ⟨bs2, rfl, gbs2, Ks2⟩, k⟩ := k.callS (y := (⟨"java/lang/String", "valueOf", "(C)Ljava/lang/String;"⟩ : MethodName)) at_16 (hw _ (List.mem_of_getElem? (i := 0) rfl)) (hw _ (List.mem_of_getElem? (i := 1) rfl)) (hw _ (List.mem_of_getElem? (i := 2) rfl)) (hw _ (List.mem_of_getElem? (i := 3) rfl)) (W := 0) (argsL := [(.int ((p3 &&& (255 : Int32)).toUInt32.toUInt16.toUInt32.toInt32))]) (rest := []) (rm1 Z a0 hw ((p3 &&& (255 : Int32)).toUInt32.toUInt16.toUInt32.toInt32) zC hs1 n0 (Nat.le_trans Z0 Ks1.1) (Sta.keepN S_COMPACT Ks1 all0) hC (own_c _)) rfl (pd_4) rfl rfl rfl (by decide) (by decide) (by decide) (by decide) (by decide)
  replace k := k.stk [(.ref bs2)] rfl
  replace k := k.astore #[.val (.int p1), .val (.int p2), .val (.int p3), .val (.ref bs1), .val (.ref bs2), .unset, .unset] at_19 rfl rfl
  obtain ⟨h3, b3, g3, E3, A3, D3, k⟩ := k.newO at_21 (hw _ (List.mem_of_getElem? (i := 26) rfl)) (hw _ (List.mem_of_getElem? (i := 27) rfl)) (hw _ (List.mem_of_getElem? (i := 28) rfl)) (by decide) (by decide)
  have ge_b3 : n0 ≤ b3 := Nat.le_trans (Nat.le_trans (Nat.le_trans Z0 Ks1.1) Ks2.1) (Nat.le_of_eq g3.symm)
  have F_topic_b3 : Fld Z h3 b3 "com/example/ongoing_interest/ongoinginterest/evaluation/Judgement" "topic" "Ljava/lang/String;" .null := D3 (Or.inr (hw _ (List.mem_of_getElem? (i := 39) rfl))) (ty := (.object "java/lang/String")) (by decide)
  have F_document_b3 : Fld Z h3 b3 "com/example/ongoing_interest/ongoinginterest/evaluation/Judgement" "document" "Ljava/lang/String;" .null := D3 (Or.inr (hw _ (List.mem_of_getElem? (i := 41) rfl))) (ty := (.object "java/lang/String")) (by decide)
  have F_relevance_b3 : Fld Z h3 b3 "com/example/ongoing_interest/ongoinginterest/evaluation/Judgement" "relevance" "I" (.int (0 : Int32)) := D3 (Or.inr (hw _ (List.mem_of_getElem? (i := 43) rfl))) (ty := .int) (by decide)
  replace k := k.dup at_24 rfl
  replace k := k.aloadN at_25 rfl rfl
  replace k := k.aload at_26 rfl rfl
  replace k := k.iloadN at_28 rfl
  obtain ⟨_, hj4, ⟨rfl, Kj4, Frj4⟩, k⟩ := k.callI (y := (⟨"com/example/ongoing_interest/ongoinginterest/evaluation/Judgement", "<init>", "(Ljava/lang/String;Ljava/lang/String;I)V"⟩ : MethodName)) (a := b3) at_29 rfl (hw _ (List.mem_of_getElem? (i := 29) rfl)) (hw _ (List.mem_of_getElem? (i := 30) rfl)) (hw _ (List.mem_of_getElem? (i := 28) rfl)) (hw _ (List.mem_of_getElem? (i := 31) rfl)) (W := 1) (argsL := [(.ref bs1), (.ref bs2), (.int p1)]) (rest := [(.ref b3)]) (rm6 Z a0 hw b3 bs1 bs2 p1 h3 n0 (Nat.le_trans (Nat.le_trans (Nat.le_trans Z0 Ks1.1) Ks2.1) E3.1) ge_b3 A3 F_topic_b3 F_document_b3 F_relevance_b3) rfl (pd_5) rfl rfl rfl (by decide) (by decide) (by decide) (by decide) (by decide)
  replace k := k.stk [(.ref b3)] rfl
  replace k := k.astore #[.val (.int p1), .val (.int p2), .val (.int p3), .val (.ref bs1), .val (.ref bs2), .val (.ref b3), .unset] at_32 rfl rfl
  replace k := k.iloadN at_34 rfl
  replace k : Run C room_1 Z n0 x.cls x.name ret code maxLocals hj4 5 13 43 #[.val (.int p1), .val (.int p2), .val (.int p3), .val (.ref bs1), .val (.ref bs2), .val (.ref b3), .unset] [(.int (if (0 : Int32) < p1 then (1 : Int32) else (0 : Int32)))] := by
    by_cases hc5 : (0 : Int32) < p1
    · rw [if_pos hc5]
      replace k := k.ifNo at_35 (tlt hc5).2.2.2
      replace k := k.iconst (1 : Int32) at_38 rfl
      replace k := k.goto (pc' := 43) at_39 (by decide) (by decide)
      exact k
    · rw [if_neg hc5]
      replace k := k.ifYes (pc' := 42) at_35 (flt hc5).2.2.2 (by decide) (by decide)
      replace k := k.iconst (0 : Int32) at_42 rfl
      exact k
  replace k := k.istore #[.val (.int p1), .val (.int p2), .val (.int p3), .val (.ref bs1), .val (.ref bs2), .val (.ref b3), .val (.int (if (0 : Int32) < p1 then (1 : Int32) else (0 : Int32)))] at_43 rfl
  replace k := k.aload at_45 rfl rfl
  obtain ⟨_, _, ⟨rfl, rfl⟩, k⟩ := k.callV (y := (⟨"com/example/ongoing_interest/ongoinginterest/evaluation/Judgement", "isRelevant", "()Z"⟩ : MethodName)) (z := (⟨"com/example/ongoing_interest/ongoinginterest/evaluation/Judgement", "isRelevant", "()Z"⟩ : MethodName)) (a := b3) at_47 (hw _ (List.mem_of_getElem? (i := 44) rfl)) (hw _ (List.mem_of_getElem? (i := 45) rfl)) (fun s hs => notFace_of_selects (args := #[]) (mvT hs (hw _ (List.mem_of_getElem? (i := 47) rfl)))) (hw _ (List.mem_of_getElem? (i := 47) rfl)) (hw _ (List.mem_of_getElem? (i := 46) rfl)) (hw _ (List.mem_of_getElem? (i := 28) rfl)) (hw _ (List.mem_of_getElem? (i := 48) rfl)) (A3.keep Kj4) (W := 0) (argsL := []) (rest := []) (rm8 Z a0 hw b3 p1 hj4 n0 Frj4) rfl (pd_6) rfl rfl rfl (by decide) (by decide) (by decide) (by decide) (by decide)
  replace k := k.stk [(.int (own_rel p1))] rfl
  replace k := k.iload at_50 rfl
  replace k := k.icmpNo at_52 (teq (own_law1 _)).2
  replace k := k.iconst (1 : Int32) at_55 rfl
  replace k := k.goto (pc' := 60) at_56 (by decide) (by decide)
  exact k.iret at_60 rfl (by simp) rfl rfl (by decide) (by decide)
set_option maxRecDepth 65536 in
set_option maxHeartbeats 40000000 in
theorem comes_1 {Post : Tables → Env → Array Value → State → Outcome → State → Prop} (hpost : ∀ tb e args s v u, (limb_1_1.after args s (.returned v) u = true ∧ limb_1_2.after args s (.returned v) u = true ∧ True) → FrameEnd s (.returned v) u (Jvm.fieldLocs frame_1_writes args s ++ Jvm.arrayLocs frame_1_arrays args s ++ Jvm.staticLocs frame_1_statics s) 24 128 → Post tb e args s (.returned v) u) :
    ArmFor flags0 classFile x code maxLocals ret World_1 tables_1 room_1 Calls_1 rest_1 Pre_1 Post := by
  intro l hfl _ _ p e ha hc hk s m args below hf hA hF happ hP
  obtain ⟨hcalls, hrest, hpre⟩ := hP
  obtain ⟨-, -, -, hnamed, -, -, -, hat⟩ := (Spec.applies_iff hf).mp happ
  obtain ⟨hg, hn⟩ := and_e (Cond.before_iff.mp (show (Jvm.Cond.and given_1 narrow_1).before args s = true from hpre))
  obtain ⟨gg0, gr0⟩ := and_e hg
  obtain ⟨gg1, gr1⟩ := and_e gr0
  obtain ⟨gg2, gr2⟩ := and_e gr1
  obtain ⟨w0, w1, w2, rfl⟩ : ∃ w0 w1 w2 : Value, args = #[w0, w1, w2] := by
    have hs : args.size = 3 := by simpa [Cond.value, given_1] using gg0
    obtain ⟨L⟩ := args
    match L, hs with
    | [w0, w1, w2], _ => exact ⟨w0, w1, w2, rfl⟩
  have hw := fun d (hd : d ∈ tables_1) => atoms_spec (ws := Jvm.Cond.code x code maxLocals ret :: tables_1) hat d (List.mem_cons_of_mem _ hd)
  have hfit : Fit s := fun {y c} hc i hi => by
    obtain ⟨ha, rfl⟩ := Array.getElem?_eq_some_iff.mp hc
    have q := List.all_eq_true.mp ((Array.all_eq_true_iff_forall_mem.mp hF) _ (Array.getElem_mem ha)) i (List.mem_range.mpr hi)
    simpa [Array.getElem?_eq_getElem hi] using q
  obtain ⟨hsets, hown0⟩ := atoms_of _ (rest_1_c_eq ▸ (show rest_1_c.before _ s = true from hrest))
  have hr0 := Cond.before_iff.mp hown0
  obtain ⟨i0, ei0⟩ := is_v gg1
  obtain rfl : w0 = (.int i0) := Option.some.inj ei0
  obtain ⟨i1, ei1⟩ := is_v gg2
  obtain rfl : w1 = (.int i1) := Option.some.inj ei1
  obtain ⟨i2, ei2⟩ := is_v gr2
  obtain rfl : w2 = (.int i2) := Option.some.inj ei2
  have cs1 := Cond.before_iff.mp (hsets _ (List.mem_of_getElem? (i := 1) rfl))
  obtain ⟨zC, evC⟩ := is_v cs1
  have S_COMPACT : Sta s s.heap "java/lang/String" "COMPACT_STRINGS" "Z" (.int zC) := Sta.start evC (Or.inl (hsets _ (List.mem_of_getElem? (i := 0) rfl)))
  have hC : ¬ (zC = (0 : Int32)) := own_ne0 evC (not_v (Cond.before_iff.mp (hsets _ (List.mem_of_getElem? (i := 2) rfl))))
  obtain ⟨n, o, h1, h2, h3, _, L, rfl, ⟨rfl, N⟩, hq⟩ := rm0 s _ hw i0 i1 i2 zC s.heap s.heap.size (Nat.le_refl _) S_COMPACT hC l p e ha hc hk s m _ below hf ((Spec.applies_iff_loose hf).mp happ).1 ⟨rfl, State.Warmed39.refl s, rfl⟩ trivial
  refine ⟨n, _, h1, h2, h3, hpost _ _ _ _ _ _ ⟨Cond.after_iff.mpr rfl, Cond.after_iff.mpr (eq_i res_at (Term.int_eval (1)) rfl), trivial⟩ ⟨hq.1, hq.2.1, (hq.2.2.sift fun y hy => Or.inr (N y hy)).mono (by decide) (by decide)⟩⟩
theorem main_1_1 : Claimed_1_1 := comes_1 fun _ _ _ _ _ _ h hF => ⟨h.1, hF⟩
theorem main_1_2 : Claimed_1_2 := comes_1 fun _ _ _ _ _ _ h hF => ⟨h.2.1, hF⟩
end Jvm.Pilot.@@N@@
namespace Jvm.Pilot.@@N@@
open Jvm Jvm.ClassFile Sem Op Lib Jvm.Free Jvm.Stand Jvm.Pilot.@@N@@.Jvm.D
/-! MADE BY PROGRAM (witnessworld.py) out of the Statement's table words and the real class files: 18 classes; the members and pool entries that the words name. The judged class is class 1, her method 1. -/
namespace start1
open Jvm.ClassFile
def u (s : String) : CpInfo := .utf8 (stringToUtf16 s)
/-- a pool by its gaps: so many unusable entries, then the entry; so many at the end -/
def gap : Nat → List CpInfo → List CpInfo
  | 0, r => r
  | n + 1, r => .unusable :: gap n r
def poolList (es : List (Nat × CpInfo)) (last : Nat) : List CpInfo := es.foldr (fun e r => gap e.1 (e.2 :: r)) (gap last [])
def pool (es : List (Nat × CpInfo)) (last : Nat) : Array CpInfo := ⟨poolList es last⟩
def fileOf (pool : Array CpInfo) (this : Nat) (attrs : Array Attribute := #[]) (ms : Array MethodInfo := #[]) (fl : Nat := 33) (sup : Nat := 0) (ifs : Array Nat := #[]) (fds : Array FieldInfo := #[]) : ClassFile where
  minorVersion := 0
  majorVersion := 65
  constantPool := pool
  accessFlags := fl
  thisClass := this
  superClass := sup
  interfaces := ifs
  fields := fds
  methods := ms
  attributes := attrs
def plain (name : String) (sup : Option ClassId) : Class where
  name := name
  kind := .ordinary
  loader := none
  accessFlags := 33
  super := sup
  interfaces := #[]
  cf := none
  fields := #[]
  methods := #[]
  instanceTypes := #[]
  staticTypes := #[]
  resolved := #[]
  callSites := []
  init := .initialized
  statics := none
  mirror := none

def pool0 : Array CpInfo := pool [(5, u "<init>"), (0, u "()V"), (1, .class_ 10), (1, u "java/lang/Object")] 113

def k0c0 : Code := { maxStack := 0, maxLocals := 1, code := object_method_1_code, exceptionTable := #[], attributes := #[] }
def k0m0 : Method := { name := "<init>", desc := "()V", sig := { parameters := [], returnType := none }, accessFlags := 1, code := some k0c0 }
/-- java/lang/Object -/
def k0 : Class := { plain "java/lang/Object" none with
  accessFlags := 33
  interfaces := #[]
  cf := some (fileOf pool0 8 #[] #[{ accessFlags := 1, nameIndex := 5, descriptorIndex := 6, attributes := #[] }] 33 0 #[] #[])
  fields := #[]
  methods := #[k0m0]
  instanceTypes := #[]
  staticTypes := #[]
  resolved := Array.replicate 124 none
  statics := none }

def pool1 : Array CpInfo := pool [(2, .class_ 4), (1, u "java/lang/Object"), (0, u "<init>"), (0, u "()V"), (0, .methodref 8 9), (0, .class_ 10), (0, .nameAndType 11 12), (0, u "java/lang/String"), (0, u "valueOf"), (0, u "(C)Ljava/lang/String;"), (0, .class_ 14), (0, u "com/example/ongoing_interest/ongoinginterest/evaluation/Judgement"), (0, .methodref 13 16), (0, .nameAndType 5 17), (0, u "(Ljava/lang/String;Ljava/lang/String;I)V"), (0, .methodref 13 19), (0, .nameAndType 20 21), (0, u "isRelevant"), (0, u "()Z"), (0, .class_ 23), (0, u "com/example/ongoing_interest/ongoinginterest/evaluation/JudgementIsRelevantPinLaw"), (2, u "law"), (0, u "(III)Z")] 3

def k1m0 : Method := { name := "<init>", desc := "()V", sig := { parameters := [], returnType := none }, accessFlags := 2, code := none }
def k1c1 : Code := { maxStack := 5, maxLocals := 7, code := code, exceptionTable := #[], attributes := #[] }
def k1m1 : Method := { name := "law", desc := "(III)Z", sig := { parameters := [.int, .int, .int], returnType := some .boolean }, accessFlags := 9, code := some k1c1 }
/-- com/example/ongoing_interest/ongoinginterest/evaluation/JudgementIsRelevantPinLaw -/
def k1 : Class := { plain "com/example/ongoing_interest/ongoinginterest/evaluation/JudgementIsRelevantPinLaw" (some 0) with
  accessFlags := 49
  interfaces := #[]
  cf := some (fileOf pool1 22 #[] #[{ accessFlags := 2, nameIndex := 5, descriptorIndex := 6, attributes := #[] }, { accessFlags := 9, nameIndex := 26, descriptorIndex := 27, attributes := #[] }] 49 2 #[] #[])
  fields := #[]
  methods := #[k1m0, k1m1]
  instanceTypes := #[]
  staticTypes := #[]
  resolved := Array.replicate 31 none
  statics := none }

def pool2 : Array CpInfo := pool [(1, .class_ 2), (0, u "java/io/Serializable"), (0, .class_ 4), (0, u "java/lang/Object")] 2

/-- java/io/Serializable -/
def k2 : Class := { plain "java/io/Serializable" (some 0) with
  accessFlags := 1537
  interfaces := #[]
  cf := some (fileOf pool2 1 #[] #[] 1537 3 #[] #[])
  fields := #[]
  methods := #[]
  instanceTypes := #[]
  staticTypes := #[]
  resolved := Array.replicate 7 none
  statics := none }

def pool3 : Array CpInfo := pool [(1, .class_ 2), (0, u "java/lang/Comparable"), (0, .class_ 4), (0, u "java/lang/Object")] 7

/-- java/lang/Comparable -/
def k3 : Class := { plain "java/lang/Comparable" (some 0) with
  accessFlags := 1537
  interfaces := #[]
  cf := some (fileOf pool3 1 #[] #[] 1537 3 #[] #[])
  fields := #[]
  methods := #[]
  instanceTypes := #[]
  staticTypes := #[]
  resolved := Array.replicate 12 none
  statics := none }

def pool4 : Array CpInfo := pool [(2, .class_ 4), (1, u "java/lang/CharSequence"), (42, .class_ 48), (0, u "java/lang/CharSequence$1CodePointIterator"), (10, .class_ 60), (0, u "java/lang/CharSequence$1CharIterator"), (5, .class_ 67), (0, u "java/lang/Object")] 63

/-- java/lang/CharSequence -/
def k4 : Class := { plain "java/lang/CharSequence" (some 0) with
  accessFlags := 1537
  interfaces := #[]
  cf := some (fileOf pool4 2 #[.nestMembers #[47, 59]] #[] 1537 66 #[] #[])
  fields := #[]
  methods := #[]
  instanceTypes := #[]
  staticTypes := #[]
  resolved := Array.replicate 131 none
  statics := none }

def pool5 : Array CpInfo := pool [(1, .class_ 2), (0, u "java/lang/constant/Constable"), (0, .class_ 4), (0, u "java/lang/Object")] 6

/-- java/lang/constant/Constable -/
def k5 : Class := { plain "java/lang/constant/Constable" (some 0) with
  accessFlags := 1537
  interfaces := #[]
  cf := some (fileOf pool5 1 #[] #[] 1537 3 #[] #[])
  fields := #[]
  methods := #[]
  instanceTypes := #[]
  staticTypes := #[]
  resolved := Array.replicate 11 none
  statics := none }

def pool6 : Array CpInfo := pool [(1, .class_ 2), (0, u "java/lang/constant/ConstantDesc"), (0, .class_ 4), (0, u "java/lang/Object")] 32

/-- java/lang/constant/ConstantDesc -/
def k6 : Class := { plain "java/lang/constant/ConstantDesc" (some 0) with
  accessFlags := 1537
  interfaces := #[]
  cf := some (fileOf pool6 1 #[] #[] 1537 3 #[] #[])
  fields := #[]
  methods := #[]
  instanceTypes := #[]
  staticTypes := #[]
  resolved := Array.replicate 37 none
  statics := none }

def pool7 : Array CpInfo := pool [(1, .methodref 2 3), (0, .class_ 4), (0, .nameAndType 5 6), (0, u "java/lang/Object"), (0, u "<init>"), (0, u "()V"), (2, .fieldref 10 11), (0, .class_ 12), (0, .nameAndType 13 14), (0, u "java/lang/String"), (0, u "value"), (0, u "[B"), (0, .fieldref 10 16), (0, .nameAndType 17 18), (0, u "coder"), (0, u "B"), (2, u "hash"), (0, u "I"), (2, u "hashIsZero"), (0, u "Z"), (11, .fieldref 10 39), (0, .nameAndType 40 26), (0, u "COMPACT_STRINGS"), (12, u "toBytes"), (53, .class_ 109), (1, u "java/lang/StringLatin1"), (99, .methodref 10 210), (0, .nameAndType 5 211), (0, u "([BB)V"), (157, u "(C)Z"), (205, .class_ 576), (0, u "java/lang/CharSequence"), (22, u "CASE_INSENSITIVE_ORDER"), (0, u "Ljava/util/Comparator;"), (181, u "valueOf"), (0, u "(C)Ljava/lang/String;"), (231, .methodref 107 1016), (0, .nameAndType 1017 369), (0, u "canEncode"), (0, .methodref 107 1019), (0, .nameAndType 53 1020), (0, u "(C)[B"), (80, u "serialPersistentFields"), (0, u "[Ljava/io/ObjectStreamField;"), (0, .class_ 1104), (0, u "java/lang/String$CaseInsensitiveComparator"), (1, .class_ 1107), (0, u "java/io/Serializable"), (0, .class_ 1109), (0, u "java/lang/Comparable"), (0, .class_ 1111), (0, u "java/lang/constant/Constable"), (0, .class_ 1113), (0, u "java/lang/constant/ConstantDesc"), (2, u "serialVersionUID"), (0, u "J"), (3, u "REPL"), (0, u "C"), (2, u "LATIN1"), (1, u "UTF16")] 323

def k7m0 : Method := { name := "<init>", desc := "()V", sig := { parameters := [], returnType := none }, accessFlags := 1, code := none }
def k7c1 : Code := { maxStack := 4, maxLocals := 1, code := jdk_42_method_139_code, exceptionTable := #[], attributes := #[] }
def k7m1 : Method := { name := "valueOf", desc := "(C)Ljava/lang/String;", sig := { parameters := [.char], returnType := some (.object "java/lang/String") }, accessFlags := 9, code := some k7c1 }
def k7c2 : Code := { maxStack := 2, maxLocals := 3, code := jdk_42_method_151_code, exceptionTable := #[], attributes := #[] }
def k7m2 : Method := { name := "<init>", desc := "([BB)V", sig := { parameters := [(.array .byte), .byte], returnType := none }, accessFlags := 0, code := some k7c2 }
/-- java/lang/String -/
def k7 : Class := { plain "java/lang/String" (some 0) with
  accessFlags := 49
  interfaces := #[2, 3, 4, 5, 6]
  cf := some (fileOf pool7 10 #[.nestMembers #[1103]] #[{ accessFlags := 1, nameIndex := 5, descriptorIndex := 6, attributes := #[] }, { accessFlags := 9, nameIndex := 782, descriptorIndex := 783, attributes := #[] }, { accessFlags := 0, nameIndex := 5, descriptorIndex := 211, attributes := #[] }] 49 2 #[1106, 1108, 575, 1110, 1112] #[{ accessFlags := 18, nameIndex := 13, descriptorIndex := 14, attributes := #[] }, { accessFlags := 18, nameIndex := 17, descriptorIndex := 18, attributes := #[] }, { accessFlags := 2, nameIndex := 21, descriptorIndex := 22, attributes := #[] }, { accessFlags := 2, nameIndex := 25, descriptorIndex := 26, attributes := #[] }, { accessFlags := 26, nameIndex := 1116, descriptorIndex := 1117, attributes := #[] }, { accessFlags := 24, nameIndex := 40, descriptorIndex := 26, attributes := #[] }, { accessFlags := 26, nameIndex := 1101, descriptorIndex := 1102, attributes := #[] }, { accessFlags := 26, nameIndex := 1121, descriptorIndex := 1122, attributes := #[] }, { accessFlags := 25, nameIndex := 599, descriptorIndex := 600, attributes := #[] }, { accessFlags := 24, nameIndex := 1125, descriptorIndex := 18, attributes := #[] }, { accessFlags := 24, nameIndex := 1127, descriptorIndex := 18, attributes := #[] }])
  fields := #[{ name := "value", type := (.array .byte), accessFlags := 18, slot := 0, constantValue := 0 }, { name := "coder", type := .byte, accessFlags := 18, slot := 1, constantValue := 0 }, { name := "hash", type := .int, accessFlags := 2, slot := 2, constantValue := 0 }, { name := "hashIsZero", type := .boolean, accessFlags := 2, slot := 3, constantValue := 0 }, { name := "serialVersionUID", type := .long, accessFlags := 26, slot := 0, constantValue := 0 }, { name := "COMPACT_STRINGS", type := .boolean, accessFlags := 24, slot := 1, constantValue := 0 }, { name := "serialPersistentFields", type := (.array (.object "java/io/ObjectStreamField")), accessFlags := 26, slot := 2, constantValue := 0 }, { name := "REPL", type := .char, accessFlags := 26, slot := 3, constantValue := 0 }, { name := "CASE_INSENSITIVE_ORDER", type := (.object "java/util/Comparator"), accessFlags := 25, slot := 4, constantValue := 0 }, { name := "LATIN1", type := .byte, accessFlags := 24, slot := 5, constantValue := 0 }, { name := "UTF16", type := .byte, accessFlags := 24, slot := 6, constantValue := 0 }]
  methods := #[k7m0, k7m1, k7m2]
  instanceTypes := #[(.array .byte), .byte, .int, .boolean]
  staticTypes := #[.long, .boolean, (.array (.object "java/io/ObjectStreamField")), .char, (.object "java/util/Comparator"), .byte, .byte]
  resolved := Array.replicate 1451 none
  statics := some 0 }

def pool8 : Array CpInfo := pool [(4, .class_ 6), (1, u "java/lang/Object"), (0, u "<init>"), (0, u "()V"), (5, .class_ 16), (1, u "java/lang/StringLatin1"), (73, u "canEncode"), (14, u "(C)Z"), (15, u "$assertionsDisabled"), (0, u "Z"), (98, .class_ 223), (1, u "java/lang/StringLatin1$LinesSpliterator"), (156, u "toBytes"), (1, u "(C)[B"), (7, .class_ 391), (0, u "java/lang/StringLatin1$CharsSpliterator")] 3

def k8m0 : Method := { name := "<init>", desc := "()V", sig := { parameters := [], returnType := none }, accessFlags := 0, code := none }
def k8c1 : Code := { maxStack := 2, maxLocals := 1, code := jdk_43_method_3_code, exceptionTable := #[], attributes := #[] }
def k8m1 : Method := { name := "canEncode", desc := "(C)Z", sig := { parameters := [.char], returnType := some .boolean }, accessFlags := 9, code := some k8c1 }
def k8c2 : Code := { maxStack := 4, maxLocals := 1, code := jdk_43_method_46_code, exceptionTable := #[], attributes := #[] }
def k8m2 : Method := { name := "toBytes", desc := "(C)[B", sig := { parameters := [.char], returnType := some (.array .byte) }, accessFlags := 9, code := some k8c2 }
/-- java/lang/StringLatin1 -/
def k8 : Class := { plain "java/lang/StringLatin1" (some 0) with
  accessFlags := 48
  interfaces := #[]
  cf := some (fileOf pool8 14 #[.nestMembers #[390, 221]] #[{ accessFlags := 0, nameIndex := 7, descriptorIndex := 8, attributes := #[] }, { accessFlags := 9, nameIndex := 90, descriptorIndex := 105, attributes := #[] }, { accessFlags := 9, nameIndex := 380, descriptorIndex := 382, attributes := #[] }] 48 4 #[] #[{ accessFlags := 4120, nameIndex := 121, descriptorIndex := 122, attributes := #[] }])
  fields := #[{ name := "$assertionsDisabled", type := .boolean, accessFlags := 4120, slot := 0, constantValue := 0 }]
  methods := #[k8m0, k8m1, k8m2]
  instanceTypes := #[]
  staticTypes := #[.boolean]
  resolved := Array.replicate 395 none
  statics := none }

def pool9 : Array CpInfo := pool [(1, .methodref 2 3), (0, .class_ 4), (0, .nameAndType 5 6), (0, u "java/lang/Object"), (0, u "<init>"), (0, u "()V"), (0, .class_ 8), (0, u "java/lang/Record")] 13

def k9c0 : Code := { maxStack := 1, maxLocals := 1, code := jdk_30_method_1_code, exceptionTable := #[], attributes := #[] }
def k9m0 : Method := { name := "<init>", desc := "()V", sig := { parameters := [], returnType := none }, accessFlags := 4, code := some k9c0 }
/-- java/lang/Record -/
def k9 : Class := { plain "java/lang/Record" (some 0) with
  accessFlags := 1057
  interfaces := #[]
  cf := some (fileOf pool9 7 #[] #[{ accessFlags := 4, nameIndex := 5, descriptorIndex := 6, attributes := #[] }] 1057 2 #[] #[])
  fields := #[]
  methods := #[k9m0]
  instanceTypes := #[]
  staticTypes := #[]
  resolved := Array.replicate 22 none
  statics := none }

def pool10 : Array CpInfo := pool [(1, .methodref 2 3), (0, .class_ 4), (0, .nameAndType 5 6), (0, u "java/lang/Record"), (0, u "<init>"), (0, u "()V"), (0, .fieldref 8 9), (0, .class_ 10), (0, .nameAndType 11 12), (0, u "com/example/ongoing_interest/ongoinginterest/evaluation/Judgement"), (0, u "topic"), (0, u "Ljava/lang/String;"), (0, .fieldref 8 14), (0, .nameAndType 15 12), (0, u "document"), (0, .fieldref 8 17), (0, .nameAndType 18 19), (0, u "relevance"), (0, u "I"), (31, u "(Ljava/lang/String;Ljava/lang/String;I)V"), (12, u "RELEVANT"), (2, u "FIELDS"), (9, u "isRelevant"), (0, u "()Z")] 35

def k10c0 : Code := { maxStack := 2, maxLocals := 4, code := prog_26_method_1_code, exceptionTable := #[], attributes := #[] }
def k10m0 : Method := { name := "<init>", desc := "(Ljava/lang/String;Ljava/lang/String;I)V", sig := { parameters := [(.object "java/lang/String"), (.object "java/lang/String"), .int], returnType := none }, accessFlags := 1, code := some k10c0 }
def k10c1 : Code := { maxStack := 2, maxLocals := 1, code := prog_26_method_3_code, exceptionTable := #[], attributes := #[] }
def k10m1 : Method := { name := "isRelevant", desc := "()Z", sig := { parameters := [], returnType := some .boolean }, accessFlags := 1, code := some k10c1 }
/-- com/example/ongoing_interest/ongoinginterest/evaluation/Judgement -/
def k10 : Class := { plain "com/example/ongoing_interest/ongoinginterest/evaluation/Judgement" (some 9) with
  accessFlags := 49
  interfaces := #[]
  cf := some (fileOf pool10 8 #[] #[{ accessFlags := 1, nameIndex := 5, descriptorIndex := 51, attributes := #[] }, { accessFlags := 1, nameIndex := 77, descriptorIndex := 78, attributes := #[] }] 49 2 #[] #[{ accessFlags := 18, nameIndex := 11, descriptorIndex := 12, attributes := #[] }, { accessFlags := 18, nameIndex := 15, descriptorIndex := 12, attributes := #[] }, { accessFlags := 18, nameIndex := 18, descriptorIndex := 19, attributes := #[] }, { accessFlags := 24, nameIndex := 64, descriptorIndex := 19, attributes := #[] }, { accessFlags := 26, nameIndex := 67, descriptorIndex := 19, attributes := #[] }])
  fields := #[{ name := "topic", type := (.object "java/lang/String"), accessFlags := 18, slot := 0, constantValue := 0 }, { name := "document", type := (.object "java/lang/String"), accessFlags := 18, slot := 1, constantValue := 0 }, { name := "relevance", type := .int, accessFlags := 18, slot := 2, constantValue := 0 }, { name := "RELEVANT", type := .int, accessFlags := 24, slot := 0, constantValue := 0 }, { name := "FIELDS", type := .int, accessFlags := 26, slot := 1, constantValue := 0 }]
  methods := #[k10m0, k10m1]
  instanceTypes := #[(.object "java/lang/String"), (.object "java/lang/String"), .int]
  staticTypes := #[.int, .int]
  resolved := Array.replicate 114 none
  statics := none }

def pool11 : Array CpInfo := pool [(2, .class_ 4), (1, u "java/lang/Object"), (0, u "<init>"), (0, u "()V"), (17, .class_ 26), (1, u "jdk/internal/util/Preconditions"), (28, .class_ 56), (0, u "jdk/internal/util/Preconditions$4"), (57, .class_ 115), (0, u "jdk/internal/util/Preconditions$1"), (7, u "SIOOBE_FORMATTER"), (0, u "Ljava/util/function/BiFunction;"), (0, .class_ 126), (0, u "jdk/internal/util/Preconditions$2"), (3, u "AIOOBE_FORMATTER"), (0, .class_ 132), (0, u "jdk/internal/util/Preconditions$3"), (3, u "IOOBE_FORMATTER")] 57

def k11m0 : Method := { name := "<init>", desc := "()V", sig := { parameters := [], returnType := none }, accessFlags := 1, code := none }
/-- jdk/internal/util/Preconditions -/
def k11 : Class := { plain "jdk/internal/util/Preconditions" (some 0) with
  accessFlags := 33
  interfaces := #[]
  cf := some (fileOf pool11 24 #[.nestMembers #[55, 131, 125, 114]] #[{ accessFlags := 1, nameIndex := 5, descriptorIndex := 6, attributes := #[] }] 33 2 #[] #[{ accessFlags := 25, nameIndex := 123, descriptorIndex := 124, attributes := #[] }, { accessFlags := 25, nameIndex := 130, descriptorIndex := 124, attributes := #[] }, { accessFlags := 25, nameIndex := 136, descriptorIndex := 124, attributes := #[] }])
  fields := #[{ name := "SIOOBE_FORMATTER", type := (.object "java/util/function/BiFunction"), accessFlags := 25, slot := 0, constantValue := 0 }, { name := "AIOOBE_FORMATTER", type := (.object "java/util/function/BiFunction"), accessFlags := 25, slot := 1, constantValue := 0 }, { name := "IOOBE_FORMATTER", type := (.object "java/util/function/BiFunction"), accessFlags := 25, slot := 2, constantValue := 0 }]
  methods := #[k11m0]
  instanceTypes := #[]
  staticTypes := #[(.object "java/util/function/BiFunction"), (.object "java/util/function/BiFunction"), (.object "java/util/function/BiFunction")]
  resolved := Array.replicate 194 none
  statics := some 1 }

def pool12 : Array CpInfo := pool [(9, u "<init>"), (6, .class_ 18), (1, u "java/lang/Object"), (0, u "()V"), (1, .class_ 23), (1, u "jdk/internal/util/ArraysSupport"), (0, u "LOG2_ARRAY_LONG_INDEX_SCALE"), (0, u "I"), (2, u "U"), (0, u "Ljdk/internal/misc/Unsafe;"), (8, u "BIG_ENDIAN"), (0, u "Z"), (8, u "LOG2_BYTE_BIT_SIZE"), (4, u "LOG2_ARRAY_INT_INDEX_SCALE"), (54, u "JLA"), (0, u "Ljdk/internal/access/JavaLangAccess;"), (11, u "LOG2_ARRAY_BOOLEAN_INDEX_SCALE"), (9, u "LOG2_ARRAY_BYTE_INDEX_SCALE"), (5, u "LOG2_ARRAY_CHAR_INDEX_SCALE"), (5, u "LOG2_ARRAY_SHORT_INDEX_SCALE"), (18, u "LOG2_ARRAY_FLOAT_INDEX_SCALE"), (24, u "LOG2_ARRAY_DOUBLE_INDEX_SCALE"), (89, u "T_BOOLEAN"), (2, u "T_CHAR"), (1, u "T_FLOAT"), (1, u "T_DOUBLE"), (1, u "T_BYTE"), (1, u "T_SHORT"), (1, u "T_INT"), (1, u "T_LONG"), (1, u "SOFT_MAX_ARRAY_LENGTH")] 83

def k12m0 : Method := { name := "<init>", desc := "()V", sig := { parameters := [], returnType := none }, accessFlags := 2, code := none }
/-- jdk/internal/util/ArraysSupport -/
def k12 : Class := { plain "jdk/internal/util/ArraysSupport" (some 0) with
  accessFlags := 33
  interfaces := #[]
  cf := some (fileOf pool12 21 #[] #[{ accessFlags := 2, nameIndex := 9, descriptorIndex := 19, attributes := #[] }] 33 16 #[] #[{ accessFlags := 24, nameIndex := 28, descriptorIndex := 29, attributes := #[] }, { accessFlags := 26, nameIndex := 38, descriptorIndex := 39, attributes := #[] }, { accessFlags := 25, nameIndex := 121, descriptorIndex := 25, attributes := #[] }, { accessFlags := 25, nameIndex := 131, descriptorIndex := 25, attributes := #[] }, { accessFlags := 25, nameIndex := 137, descriptorIndex := 25, attributes := #[] }, { accessFlags := 25, nameIndex := 143, descriptorIndex := 25, attributes := #[] }, { accessFlags := 25, nameIndex := 53, descriptorIndex := 25, attributes := #[] }, { accessFlags := 25, nameIndex := 24, descriptorIndex := 25, attributes := #[] }, { accessFlags := 25, nameIndex := 162, descriptorIndex := 25, attributes := #[] }, { accessFlags := 25, nameIndex := 187, descriptorIndex := 25, attributes := #[] }, { accessFlags := 26, nameIndex := 48, descriptorIndex := 25, attributes := #[] }, { accessFlags := 25, nameIndex := 277, descriptorIndex := 25, attributes := #[] }, { accessFlags := 25, nameIndex := 280, descriptorIndex := 25, attributes := #[] }, { accessFlags := 25, nameIndex := 282, descriptorIndex := 25, attributes := #[] }, { accessFlags := 25, nameIndex := 284, descriptorIndex := 25, attributes := #[] }, { accessFlags := 25, nameIndex := 286, descriptorIndex := 25, attributes := #[] }, { accessFlags := 25, nameIndex := 288, descriptorIndex := 25, attributes := #[] }, { accessFlags := 25, nameIndex := 290, descriptorIndex := 25, attributes := #[] }, { accessFlags := 25, nameIndex := 292, descriptorIndex := 25, attributes := #[] }, { accessFlags := 26, nameIndex := 108, descriptorIndex := 109, attributes := #[] }, { accessFlags := 25, nameIndex := 294, descriptorIndex := 25, attributes := #[] }])
  fields := #[{ name := "U", type := (.object "jdk/internal/misc/Unsafe"), accessFlags := 24, slot := 0, constantValue := 0 }, { name := "BIG_ENDIAN", type := .boolean, accessFlags := 26, slot := 1, constantValue := 0 }, { name := "LOG2_ARRAY_BOOLEAN_INDEX_SCALE", type := .int, accessFlags := 25, slot := 2, constantValue := 0 }, { name := "LOG2_ARRAY_BYTE_INDEX_SCALE", type := .int, accessFlags := 25, slot := 3, constantValue := 0 }, { name := "LOG2_ARRAY_CHAR_INDEX_SCALE", type := .int, accessFlags := 25, slot := 4, constantValue := 0 }, { name := "LOG2_ARRAY_SHORT_INDEX_SCALE", type := .int, accessFlags := 25, slot := 5, constantValue := 0 }, { name := "LOG2_ARRAY_INT_INDEX_SCALE", type := .int, accessFlags := 25, slot := 6, constantValue := 0 }, { name := "LOG2_ARRAY_LONG_INDEX_SCALE", type := .int, accessFlags := 25, slot := 7, constantValue := 0 }, { name := "LOG2_ARRAY_FLOAT_INDEX_SCALE", type := .int, accessFlags := 25, slot := 8, constantValue := 0 }, { name := "LOG2_ARRAY_DOUBLE_INDEX_SCALE", type := .int, accessFlags := 25, slot := 9, constantValue := 0 }, { name := "LOG2_BYTE_BIT_SIZE", type := .int, accessFlags := 26, slot := 10, constantValue := 0 }, { name := "T_BOOLEAN", type := .int, accessFlags := 25, slot := 11, constantValue := 0 }, { name := "T_CHAR", type := .int, accessFlags := 25, slot := 12, constantValue := 0 }, { name := "T_FLOAT", type := .int, accessFlags := 25, slot := 13, constantValue := 0 }, { name := "T_DOUBLE", type := .int, accessFlags := 25, slot := 14, constantValue := 0 }, { name := "T_BYTE", type := .int, accessFlags := 25, slot := 15, constantValue := 0 }, { name := "T_SHORT", type := .int, accessFlags := 25, slot := 16, constantValue := 0 }, { name := "T_INT", type := .int, accessFlags := 25, slot := 17, constantValue := 0 }, { name := "T_LONG", type := .int, accessFlags := 25, slot := 18, constantValue := 0 }, { name := "JLA", type := (.object "jdk/internal/access/JavaLangAccess"), accessFlags := 26, slot := 19, constantValue := 0 }, { name := "SOFT_MAX_ARRAY_LENGTH", type := .int, accessFlags := 25, slot := 20, constantValue := 0 }]
  methods := #[k12m0]
  instanceTypes := #[]
  staticTypes := #[(.object "jdk/internal/misc/Unsafe"), .boolean, .int, .int, .int, .int, .int, .int, .int, .int, .int, .int, .int, .int, .int, .int, .int, .int, .int, (.object "jdk/internal/access/JavaLangAccess"), .int]
  resolved := Array.replicate 378 none
  statics := none }

def pool13 : Array CpInfo := pool [(1, u "java/lang/Cloneable"), (0, .class_ 1), (0, u "java/lang/Object"), (0, .class_ 3)] 3

/-- java/lang/Cloneable -/
def k13 : Class := { plain "java/lang/Cloneable" (some 0) with
  accessFlags := 1537
  interfaces := #[]
  cf := some (fileOf pool13 2 #[] #[] 1537 4 #[] #[])
  fields := #[]
  methods := #[]
  instanceTypes := #[]
  staticTypes := #[]
  resolved := Array.replicate 8 none
  statics := none }

/-- the primitive byte -/
def k14 : Class := { plain "byte" none with kind := .primitive 'B', accessFlags := 0x411 }
/-- [B -/
def k15 : Class := { plain "[B" (some 0) with kind := .array 14 .byte, interfaces := #[13, 2], accessFlags := 1041 }

/-- the primitive int -/
def k16 : Class := { plain "int" none with kind := .primitive 'I', accessFlags := 0x411 }
/-- [I -/
def k17 : Class := { plain "[I" (some 0) with kind := .array 16 .int, interfaces := #[13, 2], accessFlags := 1041 }

def heap : Heap := #[{ cls := 7, slots := #[.long 0, .int 1, .null, .int 0, .null, .int 0, .int 0], vm := .statics 7 },
  { cls := 11, slots := #[.null, .null, .null], vm := .statics 11 }]
def classes : Array Class := #[k0, k1, k2, k3, k4, k5, k6, k7, k8, k9, k10, k11, k12, k13, k14, k15, k16, k17]
def interned : List (Array UInt16 × Addr) := []
def slotsUsed : Nat := 10
def theMethod : MethodId := ⟨1, 1⟩
def args0 : Array Value := #[.int 5, .int 7, .int 8]
def aboutOver (below : List Frame) : State where
  vm := { classes := classes, interned := interned.toArray }
  heap := heap
  slotsUsed := slotsUsed
  threads := #[{ frames := .invoking theMethod args0 :: below }]
def below0 : List Frame := [.native { method := ⟨0, 0⟩, args := #[] }]
def about1 : State := aboutOver below0
def p0 : Program := .bare "" "" ""
def e0 : Env := launch0.env 0 0 0
theorem w_frames : about1.frames = Frame.invoking theMethod args0 :: below0 := rfl
set_option maxRecDepth 65536 in
theorem w_args : argsFit about1.vm theMethod args0 = true := by decide +kernel
set_option maxRecDepth 65536 in
theorem w_heap : heapFits about1 = true := by decide +kernel
set_option maxRecDepth 65536 in
theorem w_runnable : about1.curStatus? = some .runnable := by decide +kernel
set_option maxRecDepth 65536 in
theorem w_alone : about1.alone = true := by decide +kernel
set_option maxRecDepth 65536 in
theorem w_named : about1.methodNamed? x = some theMethod := by decide +kernel
set_option maxRecDepth 65536 in
theorem w_hears : about1.hears theMethod below0 = true := by decide +kernel
set_option maxRecDepth 65536 in
theorem w_ripe : about1.ripe theMethod args0 below0 = true := by decide +kernel
theorem w_running : about1.status = .running := rfl
set_option maxRecDepth 65536 in
theorem w_room : about1.hasRoom e0.platform room_1 = true :=
  launch0.hasRoom_least _ room_1 (by decide +kernel) (by decide +kernel) (by decide +kernel) (by decide +kernel) (by decide +kernel) (by decide +kernel)
theorem allAtoms_all (ts : List Jvm.Cond) (a : Array Jvm.Value) (st : Jvm.State) : (allAtoms ts).before a st = ts.all (fun c => c.before a st) := by
  induction ts with
  | nil => rfl
  | cons c t ih =>
    show (Jvm.Cond.and c (allAtoms t)).before a st = _
    rw [Jvm.Cond.before_and, ih, List.all_cons]
def words1 : List Jvm.Cond := Jvm.Cond.code x code maxLocals ret :: tables_1
/-- a 'code' word, met by the world's own term for the bytes: nothing is compared byte by byte -/
theorem code_word {y : MethodName} {bytes : ByteArray} {mx : Nat} {rt : Option FieldType} {a : Array Value} {s : State} {m : MethodId} {meth : Method} {c : Code} (h1 : s.methodNamed? y = some m) (h2 : s.vm.method? m = some meth) (h3 : meth.code = some c) (h4 : c.code = bytes)
    (h5 : (c.maxLocals == mx && c.exceptionTable.isEmpty && decide (c.maxStack ≤ mostOperands) && decide (meth.sig.returnType = rt) && !meth.locks && decide (parseMethodDescriptor y.desc = some meth.sig)) = true) : (Jvm.Cond.code y bytes mx rt).before a s = true := by
  simp only [Bool.and_eq_true, beq_iff_eq, Bool.not_eq_true', decide_eq_true_eq] at h5
  obtain ⟨⟨⟨⟨⟨g1, g2⟩, g3⟩, g4⟩, g5⟩, g6⟩ := h5
  simp [Cond.before, Cond.holds, Cond.value, h1, h2, h3, h4, g1, g2, g3, g4, g5, g6]
def isCode : Jvm.Cond → Bool
  | .code _ _ _ _ => true
  | _ => false
theorem all_split {L : List Jvm.Cond} {P : Jvm.Cond → Bool} (h1 : L.all (fun c => isCode c || P c) = true) (h2 : ∀ c ∈ L.filter isCode, P c = true) : L.all P = true := by
  refine List.all_eq_true.mpr fun c hc => ?_
  have h := List.all_eq_true.mp h1 c hc
  rcases Bool.eq_false_or_eq_true (isCode c) with hi | hi
  · exact h2 c (List.mem_filter.mpr ⟨hc, hi⟩)
  · simpa [hi] using h
set_option maxRecDepth 65536 in
theorem w_c0 : (Jvm.Cond.code x code maxLocals ret).before args0 about1 = true := code_word (m := ⟨1, 1⟩) (meth := k1m1) (c := k1c1) (by decide +kernel) rfl rfl rfl (by decide +kernel)
set_option maxRecDepth 65536 in
theorem w_c1 : (Jvm.Cond.code ({ cls := "java/lang/String", name := "valueOf", desc := "(C)Ljava/lang/String;" } : Jvm.MethodName) jdk_42_method_139_code (1 : Nat) (Option.some (Jvm.ClassFile.FieldType.object "java/lang/String"))).before args0 about1 = true := code_word (m := ⟨7, 1⟩) (meth := k7m1) (c := k7c1) (by decide +kernel) rfl rfl rfl (by decide +kernel)
set_option maxRecDepth 65536 in
theorem w_c2 : (Jvm.Cond.code ({ cls := "java/lang/StringLatin1", name := "canEncode", desc := "(C)Z" } : Jvm.MethodName) jdk_43_method_3_code (1 : Nat) (Option.some Jvm.ClassFile.FieldType.boolean)).before args0 about1 = true := code_word (m := ⟨8, 1⟩) (meth := k8m1) (c := k8c1) (by decide +kernel) rfl rfl rfl (by decide +kernel)
set_option maxRecDepth 65536 in
theorem w_c3 : (Jvm.Cond.code ({ cls := "java/lang/StringLatin1", name := "toBytes", desc := "(C)[B" } : Jvm.MethodName) jdk_43_method_46_code (1 : Nat) (Option.some (Jvm.ClassFile.FieldType.array Jvm.ClassFile.FieldType.byte))).before args0 about1 = true := code_word (m := ⟨8, 2⟩) (meth := k8m2) (c := k8c2) (by decide +kernel) rfl rfl rfl (by decide +kernel)
set_option maxRecDepth 65536 in
theorem w_c4 : (Jvm.Cond.code ({ cls := "java/lang/String", name := "<init>", desc := "([BB)V" } : Jvm.MethodName) jdk_42_method_151_code (3 : Nat) (Option.none : Option Jvm.ClassFile.FieldType)).before args0 about1 = true := code_word (m := ⟨7, 2⟩) (meth := k7m2) (c := k7c2) (by decide +kernel) rfl rfl rfl (by decide +kernel)
set_option maxRecDepth 65536 in
theorem w_c5 : (Jvm.Cond.code ({ cls := "java/lang/Object", name := "<init>", desc := "()V" } : Jvm.MethodName) object_method_1_code (1 : Nat) (Option.none : Option Jvm.ClassFile.FieldType)).before args0 about1 = true := code_word (m := ⟨0, 0⟩) (meth := k0m0) (c := k0c0) (by decide +kernel) rfl rfl rfl (by decide +kernel)
set_option maxRecDepth 65536 in
theorem w_c6 : (Jvm.Cond.code ({ cls := "com/example/ongoing_interest/ongoinginterest/evaluation/Judgement", name := "<init>", desc := "(Ljava/lang/String;Ljava/lang/String;I)V" } : Jvm.MethodName) prog_26_method_1_code (4 : Nat) (Option.none : Option Jvm.ClassFile.FieldType)).before args0 about1 = true := code_word (m := ⟨10, 0⟩) (meth := k10m0) (c := k10c0) (by decide +kernel) rfl rfl rfl (by decide +kernel)
set_option maxRecDepth 65536 in
theorem w_c7 : (Jvm.Cond.code ({ cls := "java/lang/Record", name := "<init>", desc := "()V" } : Jvm.MethodName) jdk_30_method_1_code (1 : Nat) (Option.none : Option Jvm.ClassFile.FieldType)).before args0 about1 = true := code_word (m := ⟨9, 0⟩) (meth := k9m0) (c := k9c0) (by decide +kernel) rfl rfl rfl (by decide +kernel)
set_option maxRecDepth 65536 in
theorem w_c8 : (Jvm.Cond.code ({ cls := "com/example/ongoing_interest/ongoinginterest/evaluation/Judgement", name := "isRelevant", desc := "()Z" } : Jvm.MethodName) prog_26_method_3_code (1 : Nat) (Option.some Jvm.ClassFile.FieldType.boolean)).before args0 about1 = true := code_word (m := ⟨10, 1⟩) (meth := k10m1) (c := k10c1) (by decide +kernel) rfl rfl rfl (by decide +kernel)
def codes1 : List Jvm.Cond := [Jvm.Cond.code x code maxLocals ret, Jvm.Cond.code ({ cls := "java/lang/String", name := "valueOf", desc := "(C)Ljava/lang/String;" } : Jvm.MethodName) jdk_42_method_139_code (1 : Nat) (Option.some (Jvm.ClassFile.FieldType.object "java/lang/String")), Jvm.Cond.code ({ cls := "java/lang/StringLatin1", name := "canEncode", desc := "(C)Z" } : Jvm.MethodName) jdk_43_method_3_code (1 : Nat) (Option.some Jvm.ClassFile.FieldType.boolean), Jvm.Cond.code ({ cls := "java/lang/StringLatin1", name := "toBytes", desc := "(C)[B" } : Jvm.MethodName) jdk_43_method_46_code (1 : Nat) (Option.some (Jvm.ClassFile.FieldType.array Jvm.ClassFile.FieldType.byte)), Jvm.Cond.code ({ cls := "java/lang/String", name := "<init>", desc := "([BB)V" } : Jvm.MethodName) jdk_42_method_151_code (3 : Nat) (Option.none : Option Jvm.ClassFile.FieldType), Jvm.Cond.code ({ cls := "java/lang/Object", name := "<init>", desc := "()V" } : Jvm.MethodName) object_method_1_code (1 : Nat) (Option.none : Option Jvm.ClassFile.FieldType), Jvm.Cond.code ({ cls := "com/example/ongoing_interest/ongoinginterest/evaluation/Judgement", name := "<init>", desc := "(Ljava/lang/String;Ljava/lang/String;I)V" } : Jvm.MethodName) prog_26_method_1_code (4 : Nat) (Option.none : Option Jvm.ClassFile.FieldType), Jvm.Cond.code ({ cls := "java/lang/Record", name := "<init>", desc := "()V" } : Jvm.MethodName) jdk_30_method_1_code (1 : Nat) (Option.none : Option Jvm.ClassFile.FieldType), Jvm.Cond.code ({ cls := "com/example/ongoing_interest/ongoinginterest/evaluation/Judgement", name := "isRelevant", desc := "()Z" } : Jvm.MethodName) prog_26_method_3_code (1 : Nat) (Option.some Jvm.ClassFile.FieldType.boolean)]
set_option maxRecDepth 65536 in
theorem codes_eq : words1.filter isCode = codes1 := rfl
theorem w_codes : ∀ c ∈ words1.filter isCode, c.before args0 about1 = true := by
  rw [codes_eq]
  intro c hc
  simp only [codes1, List.mem_cons, List.not_mem_nil, or_false] at hc
  rcases hc with rfl | rfl | rfl | rfl | rfl | rfl | rfl | rfl | rfl
  · exact w_c0
  · exact w_c1
  · exact w_c2
  · exact w_c3
  · exact w_c4
  · exact w_c5
  · exact w_c6
  · exact w_c7
  · exact w_c8
set_option maxRecDepth 65536 in
theorem w_t1 : (words1.take 24).all (fun c => isCode c || c.before args0 about1) = true := by decide +kernel
set_option maxRecDepth 65536 in
theorem w_t2 : ((words1.drop 24).take 24).all (fun c => isCode c || c.before args0 about1) = true := by decide +kernel
set_option maxRecDepth 65536 in
theorem w_t3 : ((words1.drop 24).drop 24).all (fun c => isCode c || c.before args0 about1) = true := by decide +kernel
theorem w_tables : (allAtoms (Jvm.Cond.code x code maxLocals ret :: tables_1)).before args0 about1 = true := by
  rw [allAtoms_all]
  show words1.all (fun c => c.before args0 about1) = true
  refine all_split ?_ w_codes
  rw [← List.take_append_drop 24 words1, List.all_append, w_t1, ← List.take_append_drop 24 (words1.drop 24), List.all_append, w_t2, w_t3]
  rfl
set_option maxRecDepth 65536 in
theorem w_rest : rest_1_c.before args0 about1 = true := by decide +kernel
set_option maxRecDepth 65536 in
theorem w_case : (Jvm.Cond.and given_1 narrow_1).before args0 about1 = true := by decide +kernel
theorem w_applies : (headSpec (Jvm.Cond.code x code maxLocals ret :: tables_1) room_1).applies x e0.platform about1 = true :=
  (Spec.applies_iff w_frames).mpr ⟨w_running, w_runnable, w_alone, w_named, w_hears, w_ripe, w_room, w_tables⟩
theorem atStart : AtStart classFile x code maxLocals ret World_1 tables_1 room_1 Calls_1 rest_1 Pre_1 launch0 p0 e0 about1 theMethod args0 below0 :=
  ⟨lists_1, trivial, launch0.admits_env _ _ _, launch0.least_env, fairChoices_fair.cas, fairChoices_fair.clock, w_frames, w_args, w_heap, w_applies, trivial, w_rest, w_case⟩
end start1
theorem witness_1 : WitnessClaimed_1 := ⟨start1.p0, start1.e0, start1.about1, start1.theMethod, start1.args0, start1.below0, start1.atStart⟩
end Jvm.Pilot.@@N@@
