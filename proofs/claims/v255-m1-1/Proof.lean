import JvmDerived
import JvmDerived.Pilot.@@N@@Statement
import JvmDerived.Pilot.@@N@@Code
set_option linter.unusedVariables false
set_option linter.unusedSimpArgs false
namespace Jvm.Own
open Sem ClassFile Op Lib Jvm.Stand Jvm.Free Jvm.LawKit Jvm.RoadKit
/-! A walk, forward: 'Run' says that the invocation's first state reaches this frame. -/
abbrev Cx := Program × Launch × Env × State × MethodId × Array Value × List Frame × Method × Code × State
def RunI (p : Program) (l : Launch) (e : Env) (s : State) (m : MethodId) (args : Array Value) (below : List Frame) (meth : Method) (c : Code) (A : State) (R : Room) (Z : State) (n0 : Nat) (own nm : String) (ret : Option FieldType) (bytes : ByteArray) (mx : Nat) (h : Heap) (cells slots pc : Nat) (L : Array Slot) (S : List Value) : Prop :=
  p.tables.exec = Jvm.exec ∧ c.code = bytes ∧ c.maxLocals = mx ∧ s.vm.findClass own = some m.cls ∧ Z.Warmed39 s.vm ∧ meth.name = nm ∧ meth.sig.returnType = ret ∧ meth.locks = false ∧
    ∃ (T : State) (locs : List Loc), Stand p l e R s m args below meth c T locs cells slots ∧ Fr n0 locs ∧ T.heap = h ∧ ∀ t, Steps p.tables e below (T.setTop (mkF m pc L S)) t → Steps p.tables e below A t
def Run (C : Cx) (R : Room) (Z : State) (n0 : Nat) (own nm : String) (ret : Option FieldType) (bytes : ByteArray) (mx : Nat) (h : Heap) (cells slots pc : Nat) (L : Array Slot) (S : List Value) : Prop :=
  RunI C.1 C.2.1 C.2.2.1 C.2.2.2.1 C.2.2.2.2.1 C.2.2.2.2.2.1 C.2.2.2.2.2.2.1 C.2.2.2.2.2.2.2.1 C.2.2.2.2.2.2.2.2.1 C.2.2.2.2.2.2.2.2.2 R Z n0 own nm ret bytes mx h cells slots pc L S
def FinI (p : Program) (e : Env) (s : State) (below : List Frame) (A : State) (R : Room) (n0 : Nat) (Q : Option Value → Heap → Prop) : Prop :=
  ∃ s₂ o, Steps p.tables e below A s₂ ∧ s₂.status = .running ∧ Ended s₂ below o ∧ ∃ v L, o = .returned v ∧ (Q v s₂.heap ∧ Fr n0 L) ∧ FrameEnd s o s₂ L R.cells R.slots
def Fini (C : Cx) (R : Room) (n0 : Nat) (Q : Option Value → Heap → Prop) : Prop := FinI C.1 C.2.2.1 C.2.2.2.1 C.2.2.2.2.2.2.1 C.2.2.2.2.2.2.2.2.2 R n0 Q
/-- a method's contract: called with 'as' at the heap h0 it returns, and Q says what; nothing that stood below n0 is written -/
def Con (Z : State) (n0 : Nat) (y : MethodName) (bytes : ByteArray) (mx : Nat) (ret : Option FieldType) (ws : List Jvm.Cond) (rm : Room) (as : Array Value) (h0 : Heap) (Q : Option Value → Heap → Prop) : Prop :=
  ∀ l : Launch, MetFree l y (head1 (Jvm.Cond.code y bytes mx ret :: ws) rm) (fun a U => a = as ∧ Z.Warmed39 U.vm ∧ U.heap = h0) (fun _ _ _ _ _ => True) (fun _ U o U' => ∃ v L, o = .returned v ∧ (Q v U'.heap ∧ Fr n0 L) ∧ FrameEnd U o U' L rm.cells rm.slots)
theorem Con.intro {Z : State} {n0 : Nat} {y : MethodName} {bytes : ByteArray} {mx : Nat} {ret : Option FieldType} {ws : List Jvm.Cond} {rm : Room} {as : Array Value} {h0 : Heap} {Q : Option Value → Heap → Prop} {L0 : Array Slot}
    (hp : plainFor y = true) (hef : ∀ m, entryFrame m as mx = mkF m 0 L0 []) (body : ∀ C : Cx, Run C rm Z n0 y.cls y.name ret bytes mx h0 0 0 0 L0 [] → Fini C rm n0 Q) : Con Z n0 y bytes mx ret ws rm as h0 Q := by
  intro l
  refine MetFree.of_bodySF hp hisR ?_
  intro p e s m args below meth c s₁ Bd hml0 hP hK
  obtain ⟨rfl, hZ, hh⟩ := hP
  have hown : s.vm.findClass y.cls = some m.cls := findClass_of_methodNamed Bd.named
  have X0 : Stand p l e rm s m args below meth c s₁ [] 0 0 := Stand.of_body Bd
  have e0 : s₁.heap = h0 := by rw [← hh, Bd.state]; rfl
  have k : Run (p, l, e, s, m, args, below, meth, c, s₁.setTop (entryFrame m args mx)) rm Z n0 y.cls y.name ret bytes mx h0 0 0 0 L0 [] :=
    ⟨Bd.exec, Bd.bytes, hml0, hown, hZ, (name_of_methodNamed Bd.named Bd.method).1, Bd.returns, Bd.notSynchronized, s₁, [], X0, Fr.nil n0, e0, fun t kt => castTop (hef m) kt⟩
  exact body _ k
theorem ac_eq {x y : Value} (q : x = y) : XT.acmp .eq x y = true ∧ XT.acmp .ne x y = false := ⟨decide_eq_true q, decide_eq_false (fun z => z q)⟩
theorem ac_ne {x y : Value} (q : x ≠ y) : XT.acmp .eq x y = false ∧ XT.acmp .ne x y = true := ⟨decide_eq_false q, decide_eq_true q⟩
/-! an array by a function of the place -/
def updV (f : Nat → Value) (i : Nat) (v : Value) : Nat → Value := fun j => if j = i then v else f j
theorem updV_same (f : Nat → Value) (i : Nat) (v : Value) : updV f i v i = v := if_pos rfl
theorem updV_ne {f : Nat → Value} {i j : Nat} {v : Value} (q : j ≠ i) : updV f i v j = f j := if_neg q
def Arf (Z : State) (h : Heap) (a : Addr) (ty : FieldType) (n : Nat) (f : Nat → Value) : Prop := ∃ c : Cell, Arr Z h a c ty ∧ c.slots.size = n ∧ ∀ i, i < n → c.slots[i]? = some (f i)
section Arrays
variable {Z : State} {h h' : Heap} {a b : Addr} {ty : FieldType} {n sl : Nat} {f g : Nat → Value} {v : Value} {ws : List Addr}
theorem Arf.lt (F : Arf Z h a ty n f) : a < h.size := by obtain ⟨c, A, -⟩ := F; exact A.lt
theorem Arf.ext (F : Arf Z h a ty n f) (E : Ext h h') : Arf Z h' a ty n f := by obtain ⟨c, A, r⟩ := F; exact ⟨c, Arr.ext E A, r⟩
theorem Arf.other (F : Arf Z h b ty n f) (W : Wr h h' a sl v) (q : b ≠ a) : Arf Z h' b ty n f := by obtain ⟨c, A, r⟩ := F; exact ⟨c, Arr.other W A q, r⟩
theorem Arf.keep (F : Arf Z h a ty n f) (K : Keep h h' ws) (q : a ∉ ws) : Arf Z h' a ty n f := by obtain ⟨c, A, r⟩ := F; exact ⟨c, ⟨K.2.1 a c A.1 q, A.2⟩, r⟩
theorem Arf.set (F : Arf Z h a ty n f) {i : Nat} (W : Wr h h' a i v) (hi : i < n) : Arf Z h' a ty n (updV f i v) := by
  obtain ⟨c, A, S, H⟩ := F
  refine ⟨_, Arr.same W A, (sz_set _ _ _).trans S, fun j hj => ?_⟩
  by_cases q : j = i
  · subst q
    rw [updV_same]
    have hs : j < c.slots.size := by omega
    simp [Cell.setSlot, hs]
  · rw [updV_ne q]
    simp only [Cell.setSlot]
    rw [Array.getElem?_setIfInBounds_ne (Ne.symm q)]
    exact H j hj
theorem Arf.congr (F : Arf Z h a ty n f) (q : ∀ i, i < n → f i = g i) : Arf Z h a ty n g := by obtain ⟨c, A, S, H⟩ := F; exact ⟨c, A, S, fun i hi => q i hi ▸ H i hi⟩
theorem Sta.keepN {Cn m d : String} (F : Sta Z h Cn m d v) (K : Keep h h' ws) (q : ∀ x ∈ ws, ∀ c : Cell, h[x]? = some c → c.vm.isStatics = false) : Sta Z h' Cn m d v := by
  obtain ⟨cf, i, k, f, st, cell, h1, h2, h3, h4, h5, h6, h7⟩ := F
  refine ⟨cf, i, k, f, st, cell, h1, h2, h3, h4, K.2.1 st cell h5 (fun z => ?_), h6, h7⟩
  rw [q st z cell h5] at h6; cases h6
theorem Exa.nost {Cn : String} (F : Exa Z h a Cn) : ∀ c : Cell, h[a]? = some c → c.vm.isStatics = false := fun c hc => by
  obtain ⟨cell, k, h1, -, -, h4, -⟩ := F
  cases hc.symm.trans h1; exact h4
theorem Arf.nost (F : Arf Z h a ty n f) : ∀ c : Cell, h[a]? = some c → c.vm.isStatics = false := fun c hc => by
  obtain ⟨cell, A, -⟩ := F
  cases hc.symm.trans A.1; exact A.plain
end Arrays
section Steps
variable {C : Cx} {R : Room} {Z : State} {n0 : Nat} {own nm : String} {ret : Option FieldType} {bytes : ByteArray} {mx : Nat} {h : Heap} {cells slots pc : Nat} {L : Array Slot} {S : List Value}

theorem Run.iloadN {k : Fin 4} {v : Int32} (K : Run C R Z n0 own nm ret bytes mx h cells slots pc L S) (hd : decode bytes pc = .ok (.iload_n k, 1)) (hl : L[k.val]? = some (.val (.int v))) : Run C R Z n0 own nm ret bytes mx h cells slots (pc + 1) L (.int v :: S) := by
  obtain ⟨hx, hby, hml, hown, hZ, hnm, hrt, hlk, T, locs, X, N, eT, st⟩ := K
  exact ⟨hx, hby, hml, hown, hZ, hnm, hrt, hlk, T, locs, X, N, eT, fun t kt => st t (XS.iloadN X.here hx rfl (hb hby hd) hl kt)⟩
theorem Run.iload {k : Nat} {v : Int32} (K : Run C R Z n0 own nm ret bytes mx h cells slots pc L S) (hd : decode bytes pc = .ok (.iload k, 2)) (hl : L[k]? = some (.val (.int v))) : Run C R Z n0 own nm ret bytes mx h cells slots (pc + 2) L (.int v :: S) := by
  obtain ⟨hx, hby, hml, hown, hZ, hnm, hrt, hlk, T, locs, X, N, eT, st⟩ := K
  exact ⟨hx, hby, hml, hown, hZ, hnm, hrt, hlk, T, locs, X, N, eT, fun t kt => st t (XS.iload X.here hx rfl (hb hby hd) hl kt)⟩
theorem Run.lloadN {k : Fin 4} {v : Int64} (K : Run C R Z n0 own nm ret bytes mx h cells slots pc L S) (hd : decode bytes pc = .ok (.lload_n k, 1)) (hl : L[k.val]? = some (.val (.long v))) : Run C R Z n0 own nm ret bytes mx h cells slots (pc + 1) L (.long v :: S) := by
  obtain ⟨hx, hby, hml, hown, hZ, hnm, hrt, hlk, T, locs, X, N, eT, st⟩ := K
  exact ⟨hx, hby, hml, hown, hZ, hnm, hrt, hlk, T, locs, X, N, eT, fun t kt => st t (XS.lloadN X.here hx rfl (hb hby hd) hl kt)⟩
theorem Run.lload {k : Nat} {v : Int64} (K : Run C R Z n0 own nm ret bytes mx h cells slots pc L S) (hd : decode bytes pc = .ok (.lload k, 2)) (hl : L[k]? = some (.val (.long v))) : Run C R Z n0 own nm ret bytes mx h cells slots (pc + 2) L (.long v :: S) := by
  obtain ⟨hx, hby, hml, hown, hZ, hnm, hrt, hlk, T, locs, X, N, eT, st⟩ := K
  exact ⟨hx, hby, hml, hown, hZ, hnm, hrt, hlk, T, locs, X, N, eT, fun t kt => st t (XS.lload X.here hx rfl (hb hby hd) hl kt)⟩
theorem Run.aloadN {k : Fin 4} {v : Value} (K : Run C R Z n0 own nm ret bytes mx h cells slots pc L S) (hd : decode bytes pc = .ok (.aload_n k, 1)) (hl : L[k.val]? = some (.val v)) (hv : v.isRef = true) : Run C R Z n0 own nm ret bytes mx h cells slots (pc + 1) L (v :: S) := by
  obtain ⟨hx, hby, hml, hown, hZ, hnm, hrt, hlk, T, locs, X, N, eT, st⟩ := K
  exact ⟨hx, hby, hml, hown, hZ, hnm, hrt, hlk, T, locs, X, N, eT, fun t kt => st t (XS.aloadN X.here hx rfl (hb hby hd) hl hv kt)⟩
theorem Run.aload {k : Nat} {v : Value} (K : Run C R Z n0 own nm ret bytes mx h cells slots pc L S) (hd : decode bytes pc = .ok (.aload k, 2)) (hl : L[k]? = some (.val v)) (hv : v.isRef = true) : Run C R Z n0 own nm ret bytes mx h cells slots (pc + 2) L (v :: S) := by
  obtain ⟨hx, hby, hml, hown, hZ, hnm, hrt, hlk, T, locs, X, N, eT, st⟩ := K
  exact ⟨hx, hby, hml, hown, hZ, hnm, hrt, hlk, T, locs, X, N, eT, fun t kt => st t (XS.aload X.here hx rfl (hb hby hd) hl hv kt)⟩
theorem Run.istoreN {k : Fin 4} {v : Int32} (l' : Array Slot) (K : Run C R Z n0 own nm ret bytes mx h cells slots pc L (.int v :: S)) (hd : decode bytes pc = .ok (.istore_n k, 1)) (hl : storeLocals L k.val (.int v) = some l') : Run C R Z n0 own nm ret bytes mx h cells slots (pc + 1) l' S := by
  obtain ⟨hx, hby, hml, hown, hZ, hnm, hrt, hlk, T, locs, X, N, eT, st⟩ := K
  exact ⟨hx, hby, hml, hown, hZ, hnm, hrt, hlk, T, locs, X, N, eT, fun t kt => st t (XS.istoreN X.here hx rfl (hb hby hd) rfl hl kt)⟩
theorem Run.istore {k : Nat} {v : Int32} (l' : Array Slot) (K : Run C R Z n0 own nm ret bytes mx h cells slots pc L (.int v :: S)) (hd : decode bytes pc = .ok (.istore k, 2)) (hl : storeLocals L k (.int v) = some l') : Run C R Z n0 own nm ret bytes mx h cells slots (pc + 2) l' S := by
  obtain ⟨hx, hby, hml, hown, hZ, hnm, hrt, hlk, T, locs, X, N, eT, st⟩ := K
  exact ⟨hx, hby, hml, hown, hZ, hnm, hrt, hlk, T, locs, X, N, eT, fun t kt => st t (XS.istore X.here hx rfl (hb hby hd) rfl hl kt)⟩
theorem Run.lstoreN {k : Fin 4} {v : Int64} (l' : Array Slot) (K : Run C R Z n0 own nm ret bytes mx h cells slots pc L (.long v :: S)) (hd : decode bytes pc = .ok (.lstore_n k, 1)) (hl : storeLocals L k.val (.long v) = some l') : Run C R Z n0 own nm ret bytes mx h cells slots (pc + 1) l' S := by
  obtain ⟨hx, hby, hml, hown, hZ, hnm, hrt, hlk, T, locs, X, N, eT, st⟩ := K
  exact ⟨hx, hby, hml, hown, hZ, hnm, hrt, hlk, T, locs, X, N, eT, fun t kt => st t (XS.lstoreN X.here hx rfl (hb hby hd) rfl hl kt)⟩
theorem Run.lstore {k : Nat} {v : Int64} (l' : Array Slot) (K : Run C R Z n0 own nm ret bytes mx h cells slots pc L (.long v :: S)) (hd : decode bytes pc = .ok (.lstore k, 2)) (hl : storeLocals L k (.long v) = some l') : Run C R Z n0 own nm ret bytes mx h cells slots (pc + 2) l' S := by
  obtain ⟨hx, hby, hml, hown, hZ, hnm, hrt, hlk, T, locs, X, N, eT, st⟩ := K
  exact ⟨hx, hby, hml, hown, hZ, hnm, hrt, hlk, T, locs, X, N, eT, fun t kt => st t (XS.lstore X.here hx rfl (hb hby hd) rfl hl kt)⟩
theorem Run.astoreN {k : Fin 4} {v : Value} (l' : Array Slot) (K : Run C R Z n0 own nm ret bytes mx h cells slots pc L (v :: S)) (hd : decode bytes pc = .ok (.astore_n k, 1)) (hv : v.isRef = true) (hl : storeLocals L k.val v = some l') : Run C R Z n0 own nm ret bytes mx h cells slots (pc + 1) l' S := by
  obtain ⟨hx, hby, hml, hown, hZ, hnm, hrt, hlk, T, locs, X, N, eT, st⟩ := K
  exact ⟨hx, hby, hml, hown, hZ, hnm, hrt, hlk, T, locs, X, N, eT, fun t kt => st t (XS.astoreN X.here hx rfl (hb hby hd) rfl hv hl kt)⟩
theorem Run.astore {k : Nat} {v : Value} (l' : Array Slot) (K : Run C R Z n0 own nm ret bytes mx h cells slots pc L (v :: S)) (hd : decode bytes pc = .ok (.astore k, 2)) (hv : v.isRef = true) (hl : storeLocals L k v = some l') : Run C R Z n0 own nm ret bytes mx h cells slots (pc + 2) l' S := by
  obtain ⟨hx, hby, hml, hown, hZ, hnm, hrt, hlk, T, locs, X, N, eT, st⟩ := K
  exact ⟨hx, hby, hml, hown, hZ, hnm, hrt, hlk, T, locs, X, N, eT, fun t kt => st t (XS.astore X.here hx rfl (hb hby hd) rfl hv hl kt)⟩
theorem Run.iconst {i : Int} (z : Int32) (K : Run C R Z n0 own nm ret bytes mx h cells slots pc L S) (hd : decode bytes pc = .ok (.iconst i, 1)) (hz : Int32.ofInt i = z) : Run C R Z n0 own nm ret bytes mx h cells slots (pc + 1) L (.int z :: S) := by
  obtain ⟨hx, hby, hml, hown, hZ, hnm, hrt, hlk, T, locs, X, N, eT, st⟩ := K
  exact ⟨hx, hby, hml, hown, hZ, hnm, hrt, hlk, T, locs, X, N, eT, fun t kt => st t (XS.iconst X.here hx rfl (hb hby hd) (by rw [hz]; exact kt))⟩
theorem Run.bipush {i : Int} (z : Int32) (K : Run C R Z n0 own nm ret bytes mx h cells slots pc L S) (hd : decode bytes pc = .ok (.bipush i, 2)) (hz : (Int8.ofInt i).toInt32 = z) : Run C R Z n0 own nm ret bytes mx h cells slots (pc + 2) L (.int z :: S) := by
  obtain ⟨hx, hby, hml, hown, hZ, hnm, hrt, hlk, T, locs, X, N, eT, st⟩ := K
  exact ⟨hx, hby, hml, hown, hZ, hnm, hrt, hlk, T, locs, X, N, eT, fun t kt => st t (XS.bipush X.here hx rfl (hb hby hd) (by rw [hz]; exact kt))⟩
theorem Run.sipush {i : Int} (z : Int32) (K : Run C R Z n0 own nm ret bytes mx h cells slots pc L S) (hd : decode bytes pc = .ok (.sipush i, 3)) (hz : (Int16.ofInt i).toInt32 = z) : Run C R Z n0 own nm ret bytes mx h cells slots (pc + 3) L (.int z :: S) := by
  obtain ⟨hx, hby, hml, hown, hZ, hnm, hrt, hlk, T, locs, X, N, eT, st⟩ := K
  exact ⟨hx, hby, hml, hown, hZ, hnm, hrt, hlk, T, locs, X, N, eT, fun t kt => st t (XS.sipush X.here hx rfl (hb hby hd) (by rw [hz]; exact kt))⟩
theorem Run.lconst {i : Fin 2} (z : Int64) (K : Run C R Z n0 own nm ret bytes mx h cells slots pc L S) (hd : decode bytes pc = .ok (.lconst i, 1)) (hz : Int64.ofNat i = z) : Run C R Z n0 own nm ret bytes mx h cells slots (pc + 1) L (.long z :: S) := by
  obtain ⟨hx, hby, hml, hown, hZ, hnm, hrt, hlk, T, locs, X, N, eT, st⟩ := K
  exact ⟨hx, hby, hml, hown, hZ, hnm, hrt, hlk, T, locs, X, N, eT, fun t kt => st t (XS.lconst X.here hx rfl (hb hby hd) (by rw [hz]; exact kt))⟩
theorem Run.aconstNull  (K : Run C R Z n0 own nm ret bytes mx h cells slots pc L S) (hd : decode bytes pc = .ok (.aconst_null, 1))  : Run C R Z n0 own nm ret bytes mx h cells slots (pc + 1) L (.null :: S) := by
  obtain ⟨hx, hby, hml, hown, hZ, hnm, hrt, hlk, T, locs, X, N, eT, st⟩ := K
  exact ⟨hx, hby, hml, hown, hZ, hnm, hrt, hlk, T, locs, X, N, eT, fun t kt => st t (XS.aconstNull X.here hx rfl (hb hby hd) kt)⟩
theorem Run.iadd {x y : Int32} (K : Run C R Z n0 own nm ret bytes mx h cells slots pc L (.int y :: .int x :: S)) (hd : decode bytes pc = .ok (.iadd, 1))  : Run C R Z n0 own nm ret bytes mx h cells slots (pc + 1) L (.int (x + y) :: S) := by
  obtain ⟨hx, hby, hml, hown, hZ, hnm, hrt, hlk, T, locs, X, N, eT, st⟩ := K
  exact ⟨hx, hby, hml, hown, hZ, hnm, hrt, hlk, T, locs, X, N, eT, fun t kt => st t (XS.iadd X.here hx rfl (hb hby hd) rfl kt)⟩
theorem Run.isub {x y : Int32} (K : Run C R Z n0 own nm ret bytes mx h cells slots pc L (.int y :: .int x :: S)) (hd : decode bytes pc = .ok (.isub, 1))  : Run C R Z n0 own nm ret bytes mx h cells slots (pc + 1) L (.int (x - y) :: S) := by
  obtain ⟨hx, hby, hml, hown, hZ, hnm, hrt, hlk, T, locs, X, N, eT, st⟩ := K
  exact ⟨hx, hby, hml, hown, hZ, hnm, hrt, hlk, T, locs, X, N, eT, fun t kt => st t (XS.isub X.here hx rfl (hb hby hd) rfl kt)⟩
theorem Run.imul {x y : Int32} (K : Run C R Z n0 own nm ret bytes mx h cells slots pc L (.int y :: .int x :: S)) (hd : decode bytes pc = .ok (.imul, 1))  : Run C R Z n0 own nm ret bytes mx h cells slots (pc + 1) L (.int (x * y) :: S) := by
  obtain ⟨hx, hby, hml, hown, hZ, hnm, hrt, hlk, T, locs, X, N, eT, st⟩ := K
  exact ⟨hx, hby, hml, hown, hZ, hnm, hrt, hlk, T, locs, X, N, eT, fun t kt => st t (XS.imul X.here hx rfl (hb hby hd) rfl kt)⟩
theorem Run.iand {x y : Int32} (K : Run C R Z n0 own nm ret bytes mx h cells slots pc L (.int y :: .int x :: S)) (hd : decode bytes pc = .ok (.iand, 1))  : Run C R Z n0 own nm ret bytes mx h cells slots (pc + 1) L (.int (x &&& y) :: S) := by
  obtain ⟨hx, hby, hml, hown, hZ, hnm, hrt, hlk, T, locs, X, N, eT, st⟩ := K
  exact ⟨hx, hby, hml, hown, hZ, hnm, hrt, hlk, T, locs, X, N, eT, fun t kt => st t (XS.iand X.here hx rfl (hb hby hd) rfl kt)⟩
theorem Run.ior {x y : Int32} (K : Run C R Z n0 own nm ret bytes mx h cells slots pc L (.int y :: .int x :: S)) (hd : decode bytes pc = .ok (.ior, 1))  : Run C R Z n0 own nm ret bytes mx h cells slots (pc + 1) L (.int (x ||| y) :: S) := by
  obtain ⟨hx, hby, hml, hown, hZ, hnm, hrt, hlk, T, locs, X, N, eT, st⟩ := K
  exact ⟨hx, hby, hml, hown, hZ, hnm, hrt, hlk, T, locs, X, N, eT, fun t kt => st t (XS.ior X.here hx rfl (hb hby hd) rfl kt)⟩
theorem Run.ixor {x y : Int32} (K : Run C R Z n0 own nm ret bytes mx h cells slots pc L (.int y :: .int x :: S)) (hd : decode bytes pc = .ok (.ixor, 1))  : Run C R Z n0 own nm ret bytes mx h cells slots (pc + 1) L (.int (x ^^^ y) :: S) := by
  obtain ⟨hx, hby, hml, hown, hZ, hnm, hrt, hlk, T, locs, X, N, eT, st⟩ := K
  exact ⟨hx, hby, hml, hown, hZ, hnm, hrt, hlk, T, locs, X, N, eT, fun t kt => st t (XS.ixor X.here hx rfl (hb hby hd) rfl kt)⟩
theorem Run.ishl {x y : Int32} (K : Run C R Z n0 own nm ret bytes mx h cells slots pc L (.int y :: .int x :: S)) (hd : decode bytes pc = .ok (.ishl, 1))  : Run C R Z n0 own nm ret bytes mx h cells slots (pc + 1) L (.int (x <<< (y &&& 31)) :: S) := by
  obtain ⟨hx, hby, hml, hown, hZ, hnm, hrt, hlk, T, locs, X, N, eT, st⟩ := K
  exact ⟨hx, hby, hml, hown, hZ, hnm, hrt, hlk, T, locs, X, N, eT, fun t kt => st t (XS.ishl X.here hx rfl (hb hby hd) rfl kt)⟩
theorem Run.ishr {x y : Int32} (K : Run C R Z n0 own nm ret bytes mx h cells slots pc L (.int y :: .int x :: S)) (hd : decode bytes pc = .ok (.ishr, 1))  : Run C R Z n0 own nm ret bytes mx h cells slots (pc + 1) L (.int (x >>> (y &&& 31)) :: S) := by
  obtain ⟨hx, hby, hml, hown, hZ, hnm, hrt, hlk, T, locs, X, N, eT, st⟩ := K
  exact ⟨hx, hby, hml, hown, hZ, hnm, hrt, hlk, T, locs, X, N, eT, fun t kt => st t (XS.ishr X.here hx rfl (hb hby hd) rfl kt)⟩
theorem Run.iushr {x y : Int32} (K : Run C R Z n0 own nm ret bytes mx h cells slots pc L (.int y :: .int x :: S)) (hd : decode bytes pc = .ok (.iushr, 1))  : Run C R Z n0 own nm ret bytes mx h cells slots (pc + 1) L (.int ((x.toUInt32 >>> (y &&& 31).toUInt32).toInt32) :: S) := by
  obtain ⟨hx, hby, hml, hown, hZ, hnm, hrt, hlk, T, locs, X, N, eT, st⟩ := K
  exact ⟨hx, hby, hml, hown, hZ, hnm, hrt, hlk, T, locs, X, N, eT, fun t kt => st t (XS.iushr X.here hx rfl (hb hby hd) rfl kt)⟩
theorem Run.irem {x y : Int32} (K : Run C R Z n0 own nm ret bytes mx h cells slots pc L (.int y :: .int x :: S)) (hd : decode bytes pc = .ok (.irem, 1)) (hy : y ≠ 0) : Run C R Z n0 own nm ret bytes mx h cells slots (pc + 1) L (.int (x % y) :: S) := by
  obtain ⟨hx, hby, hml, hown, hZ, hnm, hrt, hlk, T, locs, X, N, eT, st⟩ := K
  exact ⟨hx, hby, hml, hown, hZ, hnm, hrt, hlk, T, locs, X, N, eT, fun t kt => st t (iremM X hx rfl (hb hby hd) rfl hy kt)⟩
theorem Run.idiv {x y : Int32} (K : Run C R Z n0 own nm ret bytes mx h cells slots pc L (.int y :: .int x :: S)) (hd : decode bytes pc = .ok (.idiv, 1)) (hy : y ≠ 0) : Run C R Z n0 own nm ret bytes mx h cells slots (pc + 1) L (.int (x / y) :: S) := by
  obtain ⟨hx, hby, hml, hown, hZ, hnm, hrt, hlk, T, locs, X, N, eT, st⟩ := K
  exact ⟨hx, hby, hml, hown, hZ, hnm, hrt, hlk, T, locs, X, N, eT, fun t kt => st t (XS.idiv X.here hx rfl (hb hby hd) rfl hy kt)⟩
theorem Run.ineg {x : Int32} (K : Run C R Z n0 own nm ret bytes mx h cells slots pc L (.int x :: S)) (hd : decode bytes pc = .ok (.ineg, 1))  : Run C R Z n0 own nm ret bytes mx h cells slots (pc + 1) L (.int (-x) :: S) := by
  obtain ⟨hx, hby, hml, hown, hZ, hnm, hrt, hlk, T, locs, X, N, eT, st⟩ := K
  exact ⟨hx, hby, hml, hown, hZ, hnm, hrt, hlk, T, locs, X, N, eT, fun t kt => st t (XS.ineg X.here hx rfl (hb hby hd) rfl kt)⟩
theorem Run.ladd {x y : Int64} (K : Run C R Z n0 own nm ret bytes mx h cells slots pc L (.long y :: .long x :: S)) (hd : decode bytes pc = .ok (.ladd, 1))  : Run C R Z n0 own nm ret bytes mx h cells slots (pc + 1) L (.long (x + y) :: S) := by
  obtain ⟨hx, hby, hml, hown, hZ, hnm, hrt, hlk, T, locs, X, N, eT, st⟩ := K
  exact ⟨hx, hby, hml, hown, hZ, hnm, hrt, hlk, T, locs, X, N, eT, fun t kt => st t (XS.ladd X.here hx rfl (hb hby hd) rfl kt)⟩
theorem Run.lsub {x y : Int64} (K : Run C R Z n0 own nm ret bytes mx h cells slots pc L (.long y :: .long x :: S)) (hd : decode bytes pc = .ok (.lsub, 1))  : Run C R Z n0 own nm ret bytes mx h cells slots (pc + 1) L (.long (x - y) :: S) := by
  obtain ⟨hx, hby, hml, hown, hZ, hnm, hrt, hlk, T, locs, X, N, eT, st⟩ := K
  exact ⟨hx, hby, hml, hown, hZ, hnm, hrt, hlk, T, locs, X, N, eT, fun t kt => st t (XS.lsub X.here hx rfl (hb hby hd) rfl kt)⟩
theorem Run.lmul {x y : Int64} (K : Run C R Z n0 own nm ret bytes mx h cells slots pc L (.long y :: .long x :: S)) (hd : decode bytes pc = .ok (.lmul, 1))  : Run C R Z n0 own nm ret bytes mx h cells slots (pc + 1) L (.long (x * y) :: S) := by
  obtain ⟨hx, hby, hml, hown, hZ, hnm, hrt, hlk, T, locs, X, N, eT, st⟩ := K
  exact ⟨hx, hby, hml, hown, hZ, hnm, hrt, hlk, T, locs, X, N, eT, fun t kt => st t (XS.lmul X.here hx rfl (hb hby hd) rfl kt)⟩
theorem Run.land {x y : Int64} (K : Run C R Z n0 own nm ret bytes mx h cells slots pc L (.long y :: .long x :: S)) (hd : decode bytes pc = .ok (.land, 1))  : Run C R Z n0 own nm ret bytes mx h cells slots (pc + 1) L (.long (x &&& y) :: S) := by
  obtain ⟨hx, hby, hml, hown, hZ, hnm, hrt, hlk, T, locs, X, N, eT, st⟩ := K
  exact ⟨hx, hby, hml, hown, hZ, hnm, hrt, hlk, T, locs, X, N, eT, fun t kt => st t (XS.land X.here hx rfl (hb hby hd) rfl kt)⟩
theorem Run.lor {x y : Int64} (K : Run C R Z n0 own nm ret bytes mx h cells slots pc L (.long y :: .long x :: S)) (hd : decode bytes pc = .ok (.lor, 1))  : Run C R Z n0 own nm ret bytes mx h cells slots (pc + 1) L (.long (x ||| y) :: S) := by
  obtain ⟨hx, hby, hml, hown, hZ, hnm, hrt, hlk, T, locs, X, N, eT, st⟩ := K
  exact ⟨hx, hby, hml, hown, hZ, hnm, hrt, hlk, T, locs, X, N, eT, fun t kt => st t (XS.lor X.here hx rfl (hb hby hd) rfl kt)⟩
theorem Run.lxor {x y : Int64} (K : Run C R Z n0 own nm ret bytes mx h cells slots pc L (.long y :: .long x :: S)) (hd : decode bytes pc = .ok (.lxor, 1))  : Run C R Z n0 own nm ret bytes mx h cells slots (pc + 1) L (.long (x ^^^ y) :: S) := by
  obtain ⟨hx, hby, hml, hown, hZ, hnm, hrt, hlk, T, locs, X, N, eT, st⟩ := K
  exact ⟨hx, hby, hml, hown, hZ, hnm, hrt, hlk, T, locs, X, N, eT, fun t kt => st t (XS.lxor X.here hx rfl (hb hby hd) rfl kt)⟩
theorem Run.lcmp {x y : Int64} (K : Run C R Z n0 own nm ret bytes mx h cells slots pc L (.long y :: .long x :: S)) (hd : decode bytes pc = .ok (.lcmp, 1))  : Run C R Z n0 own nm ret bytes mx h cells slots (pc + 1) L (.int (lcmpW x y) :: S) := by
  obtain ⟨hx, hby, hml, hown, hZ, hnm, hrt, hlk, T, locs, X, N, eT, st⟩ := K
  exact ⟨hx, hby, hml, hown, hZ, hnm, hrt, hlk, T, locs, X, N, eT, fun t kt => st t (XS.lcmp X.here hx rfl (hb hby hd) rfl kt)⟩
theorem Run.lushr {x : Int64} {y : Int32} (K : Run C R Z n0 own nm ret bytes mx h cells slots pc L (.int y :: .long x :: S)) (hd : decode bytes pc = .ok (.lushr, 1))  : Run C R Z n0 own nm ret bytes mx h cells slots (pc + 1) L (.long ((x.toUInt64 >>> (y &&& 0x3f).toInt64.toUInt64).toInt64) :: S) := by
  obtain ⟨hx, hby, hml, hown, hZ, hnm, hrt, hlk, T, locs, X, N, eT, st⟩ := K
  exact ⟨hx, hby, hml, hown, hZ, hnm, hrt, hlk, T, locs, X, N, eT, fun t kt => st t (XS.lushr X.here hx rfl (hb hby hd) rfl kt)⟩
theorem Run.lshr {x : Int64} {y : Int32} (K : Run C R Z n0 own nm ret bytes mx h cells slots pc L (.int y :: .long x :: S)) (hd : decode bytes pc = .ok (.lshr, 1))  : Run C R Z n0 own nm ret bytes mx h cells slots (pc + 1) L (.long (x >>> (y &&& 0x3f).toInt64) :: S) := by
  obtain ⟨hx, hby, hml, hown, hZ, hnm, hrt, hlk, T, locs, X, N, eT, st⟩ := K
  exact ⟨hx, hby, hml, hown, hZ, hnm, hrt, hlk, T, locs, X, N, eT, fun t kt => st t (XS.lshr X.here hx rfl (hb hby hd) rfl kt)⟩
theorem Run.lshl {x : Int64} {y : Int32} (K : Run C R Z n0 own nm ret bytes mx h cells slots pc L (.int y :: .long x :: S)) (hd : decode bytes pc = .ok (.lshl, 1))  : Run C R Z n0 own nm ret bytes mx h cells slots (pc + 1) L (.long (x <<< (y &&& 0x3f).toInt64) :: S) := by
  obtain ⟨hx, hby, hml, hown, hZ, hnm, hrt, hlk, T, locs, X, N, eT, st⟩ := K
  exact ⟨hx, hby, hml, hown, hZ, hnm, hrt, hlk, T, locs, X, N, eT, fun t kt => st t (XS.lshl X.here hx rfl (hb hby hd) rfl kt)⟩
theorem Run.i2l {x : Int32} (K : Run C R Z n0 own nm ret bytes mx h cells slots pc L (.int x :: S)) (hd : decode bytes pc = .ok (.i2l, 1))  : Run C R Z n0 own nm ret bytes mx h cells slots (pc + 1) L (.long (x.toInt64) :: S) := by
  obtain ⟨hx, hby, hml, hown, hZ, hnm, hrt, hlk, T, locs, X, N, eT, st⟩ := K
  exact ⟨hx, hby, hml, hown, hZ, hnm, hrt, hlk, T, locs, X, N, eT, fun t kt => st t (XS.i2l X.here hx rfl (hb hby hd) rfl kt)⟩
theorem Run.l2i {x : Int64} (K : Run C R Z n0 own nm ret bytes mx h cells slots pc L (.long x :: S)) (hd : decode bytes pc = .ok (.l2i, 1))  : Run C R Z n0 own nm ret bytes mx h cells slots (pc + 1) L (.int (x.toInt32) :: S) := by
  obtain ⟨hx, hby, hml, hown, hZ, hnm, hrt, hlk, T, locs, X, N, eT, st⟩ := K
  exact ⟨hx, hby, hml, hown, hZ, hnm, hrt, hlk, T, locs, X, N, eT, fun t kt => st t (XS.l2i X.here hx rfl (hb hby hd) rfl kt)⟩
theorem Run.i2b {x : Int32} (K : Run C R Z n0 own nm ret bytes mx h cells slots pc L (.int x :: S)) (hd : decode bytes pc = .ok (.i2b, 1))  : Run C R Z n0 own nm ret bytes mx h cells slots (pc + 1) L (.int (x.toInt8.toInt32) :: S) := by
  obtain ⟨hx, hby, hml, hown, hZ, hnm, hrt, hlk, T, locs, X, N, eT, st⟩ := K
  exact ⟨hx, hby, hml, hown, hZ, hnm, hrt, hlk, T, locs, X, N, eT, fun t kt => st t (XS.i2b X.here hx rfl (hb hby hd) rfl kt)⟩
theorem Run.i2s {x : Int32} (K : Run C R Z n0 own nm ret bytes mx h cells slots pc L (.int x :: S)) (hd : decode bytes pc = .ok (.i2s, 1))  : Run C R Z n0 own nm ret bytes mx h cells slots (pc + 1) L (.int (x.toInt16.toInt32) :: S) := by
  obtain ⟨hx, hby, hml, hown, hZ, hnm, hrt, hlk, T, locs, X, N, eT, st⟩ := K
  exact ⟨hx, hby, hml, hown, hZ, hnm, hrt, hlk, T, locs, X, N, eT, fun t kt => st t (XS.i2s X.here hx rfl (hb hby hd) rfl kt)⟩
theorem Run.i2c {x : Int32} (K : Run C R Z n0 own nm ret bytes mx h cells slots pc L (.int x :: S)) (hd : decode bytes pc = .ok (.i2c, 1))  : Run C R Z n0 own nm ret bytes mx h cells slots (pc + 1) L (.int (x.toUInt32.toUInt16.toUInt32.toInt32) :: S) := by
  obtain ⟨hx, hby, hml, hown, hZ, hnm, hrt, hlk, T, locs, X, N, eT, st⟩ := K
  exact ⟨hx, hby, hml, hown, hZ, hnm, hrt, hlk, T, locs, X, N, eT, fun t kt => st t (XS.i2c X.here hx rfl (hb hby hd) rfl kt)⟩
theorem Run.iinc {k : Nat} {cst : Int} {x : Int32} (z : Int32) (l' : Array Slot) (K : Run C R Z n0 own nm ret bytes mx h cells slots pc L S) (hd : decode bytes pc = .ok (.iinc k cst, 3)) (hl : L[k]? = some (.val (.int x))) (hz : Int32.ofInt cst = z) (hl' : storeLocals L k (.int (x + z)) = some l') : Run C R Z n0 own nm ret bytes mx h cells slots (pc + 3) l' S := by
  obtain ⟨hx, hby, hml, hown, hZ, hnm, hrt, hlk, T, locs, X, N, eT, st⟩ := K
  exact ⟨hx, hby, hml, hown, hZ, hnm, hrt, hlk, T, locs, X, N, eT, fun t kt => st t (XS.iinc X.here hx rfl (hb hby hd) hl (by rw [hz]; exact hl') kt)⟩
theorem Run.dup {x : Value} (K : Run C R Z n0 own nm ret bytes mx h cells slots pc L (x :: S)) (hd : decode bytes pc = .ok (.dup, 1)) (hc : x.category = 1) : Run C R Z n0 own nm ret bytes mx h cells slots (pc + 1) L (x :: x :: S) := by
  obtain ⟨hx, hby, hml, hown, hZ, hnm, hrt, hlk, T, locs, X, N, eT, st⟩ := K
  exact ⟨hx, hby, hml, hown, hZ, hnm, hrt, hlk, T, locs, X, N, eT, fun t kt => st t (XS.dup X.here hx rfl (hb hby hd) rfl hc kt)⟩
theorem Run.dupX1 {x y : Value} (K : Run C R Z n0 own nm ret bytes mx h cells slots pc L (x :: y :: S)) (hd : decode bytes pc = .ok (.dup_x1, 1)) (hc : x.category = 1) (hc' : y.category = 1) : Run C R Z n0 own nm ret bytes mx h cells slots (pc + 1) L (x :: y :: x :: S) := by
  obtain ⟨hx, hby, hml, hown, hZ, hnm, hrt, hlk, T, locs, X, N, eT, st⟩ := K
  exact ⟨hx, hby, hml, hown, hZ, hnm, hrt, hlk, T, locs, X, N, eT, fun t kt => st t (XS.dupX1 X.here hx rfl (hb hby hd) rfl hc hc' kt)⟩
theorem Run.pop {x : Value} (K : Run C R Z n0 own nm ret bytes mx h cells slots pc L (x :: S)) (hd : decode bytes pc = .ok (.pop, 1)) (hc : x.category = 1) : Run C R Z n0 own nm ret bytes mx h cells slots (pc + 1) L S := by
  obtain ⟨hx, hby, hml, hown, hZ, hnm, hrt, hlk, T, locs, X, N, eT, st⟩ := K
  exact ⟨hx, hby, hml, hown, hZ, hnm, hrt, hlk, T, locs, X, N, eT, fun t kt => st t (XS.pop X.here hx rfl (hb hby hd) rfl hc kt)⟩
theorem Run.goto {o : Int} {pc' : Nat} (K : Run C R Z n0 own nm ret bytes mx h cells slots pc L S) (hd : decode bytes pc = .ok (.goto o, 3)) (ho : 0 ≤ (pc : Int) + o) (hp : ((pc : Int) + o).toNat = pc') : Run C R Z n0 own nm ret bytes mx h cells slots pc' L S := by
  obtain ⟨hx, hby, hml, hown, hZ, hnm, hrt, hlk, T, locs, X, N, eT, st⟩ := K
  exact ⟨hx, hby, hml, hown, hZ, hnm, hrt, hlk, T, locs, X, N, eT, fun t kt => st t (XS.goto X.here hx rfl (pc0 := pc) rfl (hb hby hd) ho hp kt)⟩
theorem Run.ifYes {cd : ClassFile.Cond} {x : Int32} {o : Int} {pc' : Nat} (K : Run C R Z n0 own nm ret bytes mx h cells slots pc L (.int x :: S)) (hd : decode bytes pc = .ok (.ifCond cd o, 3)) (hc : if_icmp.holds cd x 0 = true) (ho : 0 ≤ (pc : Int) + o) (hp : ((pc : Int) + o).toNat = pc') : Run C R Z n0 own nm ret bytes mx h cells slots pc' L S := by
  obtain ⟨hx, hby, hml, hown, hZ, hnm, hrt, hlk, T, locs, X, N, eT, st⟩ := K
  exact ⟨hx, hby, hml, hown, hZ, hnm, hrt, hlk, T, locs, X, N, eT, fun t kt => st t (XS.ifYes X.here hx rfl (pc0 := pc) rfl (hb hby hd) rfl ((if0 _ _).trans hc) ho hp kt)⟩
theorem Run.ifNo {cd : ClassFile.Cond} {x : Int32} {o : Int} (K : Run C R Z n0 own nm ret bytes mx h cells slots pc L (.int x :: S)) (hd : decode bytes pc = .ok (.ifCond cd o, 3)) (hc : if_icmp.holds cd x 0 = false) : Run C R Z n0 own nm ret bytes mx h cells slots (pc + 3) L S := by
  obtain ⟨hx, hby, hml, hown, hZ, hnm, hrt, hlk, T, locs, X, N, eT, st⟩ := K
  exact ⟨hx, hby, hml, hown, hZ, hnm, hrt, hlk, T, locs, X, N, eT, fun t kt => st t (XS.ifNo X.here hx rfl (hb hby hd) rfl ((if0 _ _).trans hc) kt)⟩
theorem Run.icmpYes {cd : ClassFile.Cond} {x y : Int32} {o : Int} {pc' : Nat} (K : Run C R Z n0 own nm ret bytes mx h cells slots pc L (.int y :: .int x :: S)) (hd : decode bytes pc = .ok (.if_icmp cd o, 3)) (hc : if_icmp.holds cd x y = true) (ho : 0 ≤ (pc : Int) + o) (hp : ((pc : Int) + o).toNat = pc') : Run C R Z n0 own nm ret bytes mx h cells slots pc' L S := by
  obtain ⟨hx, hby, hml, hown, hZ, hnm, hrt, hlk, T, locs, X, N, eT, st⟩ := K
  exact ⟨hx, hby, hml, hown, hZ, hnm, hrt, hlk, T, locs, X, N, eT, fun t kt => st t (XS.icmpYes X.here hx rfl (pc0 := pc) rfl (hb hby hd) rfl hc ho hp kt)⟩
theorem Run.icmpNo {cd : ClassFile.Cond} {x y : Int32} {o : Int} (K : Run C R Z n0 own nm ret bytes mx h cells slots pc L (.int y :: .int x :: S)) (hd : decode bytes pc = .ok (.if_icmp cd o, 3)) (hc : if_icmp.holds cd x y = false) : Run C R Z n0 own nm ret bytes mx h cells slots (pc + 3) L S := by
  obtain ⟨hx, hby, hml, hown, hZ, hnm, hrt, hlk, T, locs, X, N, eT, st⟩ := K
  exact ⟨hx, hby, hml, hown, hZ, hnm, hrt, hlk, T, locs, X, N, eT, fun t kt => st t (XS.icmpNo X.here hx rfl (hb hby hd) rfl hc kt)⟩
theorem Run.ifnullYes {o : Int} {pc' : Nat} (K : Run C R Z n0 own nm ret bytes mx h cells slots pc L (.null :: S)) (hd : decode bytes pc = .ok (.ifnull o, 3)) (ho : 0 ≤ (pc : Int) + o) (hp : ((pc : Int) + o).toNat = pc') : Run C R Z n0 own nm ret bytes mx h cells slots pc' L S := by
  obtain ⟨hx, hby, hml, hown, hZ, hnm, hrt, hlk, T, locs, X, N, eT, st⟩ := K
  exact ⟨hx, hby, hml, hown, hZ, hnm, hrt, hlk, T, locs, X, N, eT, fun t kt => st t (XS.ifnullYes X.here hx rfl (pc0 := pc) rfl (hb hby hd) rfl ho hp kt)⟩
theorem Run.ifnullNo {o : Int} {b : Addr} (K : Run C R Z n0 own nm ret bytes mx h cells slots pc L (.ref b :: S)) (hd : decode bytes pc = .ok (.ifnull o, 3))  : Run C R Z n0 own nm ret bytes mx h cells slots (pc + 3) L S := by
  obtain ⟨hx, hby, hml, hown, hZ, hnm, hrt, hlk, T, locs, X, N, eT, st⟩ := K
  exact ⟨hx, hby, hml, hown, hZ, hnm, hrt, hlk, T, locs, X, N, eT, fun t kt => st t (XS.ifnullNo X.here hx rfl (hb hby hd) rfl kt)⟩
theorem Run.ifnonnullYes {o : Int} {b : Addr} {pc' : Nat} (K : Run C R Z n0 own nm ret bytes mx h cells slots pc L (.ref b :: S)) (hd : decode bytes pc = .ok (.ifnonnull o, 3)) (ho : 0 ≤ (pc : Int) + o) (hp : ((pc : Int) + o).toNat = pc') : Run C R Z n0 own nm ret bytes mx h cells slots pc' L S := by
  obtain ⟨hx, hby, hml, hown, hZ, hnm, hrt, hlk, T, locs, X, N, eT, st⟩ := K
  exact ⟨hx, hby, hml, hown, hZ, hnm, hrt, hlk, T, locs, X, N, eT, fun t kt => st t (XS.ifnonnullYes X.here hx rfl (pc0 := pc) rfl (hb hby hd) rfl ho hp kt)⟩
theorem Run.ifnonnullNo {o : Int} (K : Run C R Z n0 own nm ret bytes mx h cells slots pc L (.null :: S)) (hd : decode bytes pc = .ok (.ifnonnull o, 3))  : Run C R Z n0 own nm ret bytes mx h cells slots (pc + 3) L S := by
  obtain ⟨hx, hby, hml, hown, hZ, hnm, hrt, hlk, T, locs, X, N, eT, st⟩ := K
  exact ⟨hx, hby, hml, hown, hZ, hnm, hrt, hlk, T, locs, X, N, eT, fun t kt => st t (XS.ifnonnullNo X.here hx rfl (hb hby hd) rfl kt)⟩
theorem Run.acmpYes {cd : ClassFile.ACond} {x y : Value} {o : Int} {pc' : Nat} (K : Run C R Z n0 own nm ret bytes mx h cells slots pc L (y :: x :: S)) (hd : decode bytes pc = .ok (.if_acmp cd o, 3)) (h1 : x.isRef = true) (h2 : y.isRef = true) (hc : XT.acmp cd x y = true) (ho : 0 ≤ (pc : Int) + o) (hp : ((pc : Int) + o).toNat = pc') : Run C R Z n0 own nm ret bytes mx h cells slots pc' L S := by
  obtain ⟨hx, hby, hml, hown, hZ, hnm, hrt, hlk, T, locs, X, N, eT, st⟩ := K
  exact ⟨hx, hby, hml, hown, hZ, hnm, hrt, hlk, T, locs, X, N, eT, fun t kt => st t (XT.acmpYes X.here hx rfl (pc0 := pc) rfl (hb hby hd) rfl h1 h2 hc ho hp kt)⟩
theorem Run.acmpNo {cd : ClassFile.ACond} {x y : Value} {o : Int} (K : Run C R Z n0 own nm ret bytes mx h cells slots pc L (y :: x :: S)) (hd : decode bytes pc = .ok (.if_acmp cd o, 3)) (h1 : x.isRef = true) (h2 : y.isRef = true) (hc : XT.acmp cd x y = false) : Run C R Z n0 own nm ret bytes mx h cells slots (pc + 3) L S := by
  obtain ⟨hx, hby, hml, hown, hZ, hnm, hrt, hlk, T, locs, X, N, eT, st⟩ := K
  exact ⟨hx, hby, hml, hown, hZ, hnm, hrt, hlk, T, locs, X, N, eT, fun t kt => st t (XT.acmpNo X.here hx rfl (hb hby hd) rfl h1 h2 hc kt)⟩
theorem Run.dloadN {k : Fin 4} {v : UInt64} (K : Run C R Z n0 own nm ret bytes mx h cells slots pc L S) (hd : decode bytes pc = .ok (.dload_n k, 1)) (hl : L[k.val]? = some (.val (.double v))) : Run C R Z n0 own nm ret bytes mx h cells slots (pc + 1) L (.double v :: S) := by
  obtain ⟨hx, hby, hml, hown, hZ, hnm, hrt, hlk, T, locs, X, N, eT, st⟩ := K
  exact ⟨hx, hby, hml, hown, hZ, hnm, hrt, hlk, T, locs, X, N, eT, fun t kt => st t (XS.dloadN X.here hx rfl (hb hby hd) hl kt)⟩
theorem Run.dload {k : Nat} {v : UInt64} (K : Run C R Z n0 own nm ret bytes mx h cells slots pc L S) (hd : decode bytes pc = .ok (.dload k, 2)) (hl : L[k]? = some (.val (.double v))) : Run C R Z n0 own nm ret bytes mx h cells slots (pc + 2) L (.double v :: S) := by
  obtain ⟨hx, hby, hml, hown, hZ, hnm, hrt, hlk, T, locs, X, N, eT, st⟩ := K
  exact ⟨hx, hby, hml, hown, hZ, hnm, hrt, hlk, T, locs, X, N, eT, fun t kt => st t (XS.dload X.here hx rfl (hb hby hd) hl kt)⟩
theorem Run.dstoreN {k : Fin 4} {v : UInt64} (l' : Array Slot) (K : Run C R Z n0 own nm ret bytes mx h cells slots pc L (.double v :: S)) (hd : decode bytes pc = .ok (.dstore_n k, 1)) (hl : storeLocals L k.val (.double v) = some l') : Run C R Z n0 own nm ret bytes mx h cells slots (pc + 1) l' S := by
  obtain ⟨hx, hby, hml, hown, hZ, hnm, hrt, hlk, T, locs, X, N, eT, st⟩ := K
  exact ⟨hx, hby, hml, hown, hZ, hnm, hrt, hlk, T, locs, X, N, eT, fun t kt => st t (XS.dstoreN X.here hx rfl (hb hby hd) rfl hl kt)⟩
theorem Run.dstore {k : Nat} {v : UInt64} (l' : Array Slot) (K : Run C R Z n0 own nm ret bytes mx h cells slots pc L (.double v :: S)) (hd : decode bytes pc = .ok (.dstore k, 2)) (hl : storeLocals L k (.double v) = some l') : Run C R Z n0 own nm ret bytes mx h cells slots (pc + 2) l' S := by
  obtain ⟨hx, hby, hml, hown, hZ, hnm, hrt, hlk, T, locs, X, N, eT, st⟩ := K
  exact ⟨hx, hby, hml, hown, hZ, hnm, hrt, hlk, T, locs, X, N, eT, fun t kt => st t (XS.dstore X.here hx rfl (hb hby hd) rfl hl kt)⟩
theorem Run.dconst0 (z : UInt64) (K : Run C R Z n0 own nm ret bytes mx h cells slots pc L S) (hd : decode bytes pc = .ok (.dconst 0, 1)) (hz : FP.dconst0 = z) : Run C R Z n0 own nm ret bytes mx h cells slots (pc + 1) L (.double z :: S) := by
  obtain ⟨hx, hby, hml, hown, hZ, hnm, hrt, hlk, T, locs, X, N, eT, st⟩ := K
  exact ⟨hx, hby, hml, hown, hZ, hnm, hrt, hlk, T, locs, X, N, eT, fun t kt => st t (XS.dconst0 X.here hx rfl (hb hby hd) hz kt)⟩
theorem Run.i2d {x : Int32} (z : UInt64) (K : Run C R Z n0 own nm ret bytes mx h cells slots pc L (.int x :: S)) (hd : decode bytes pc = .ok (.i2d, 1)) (hz : FP.i2d x = z) : Run C R Z n0 own nm ret bytes mx h cells slots (pc + 1) L (.double z :: S) := by
  obtain ⟨hx, hby, hml, hown, hZ, hnm, hrt, hlk, T, locs, X, N, eT, st⟩ := K
  exact ⟨hx, hby, hml, hown, hZ, hnm, hrt, hlk, T, locs, X, N, eT, fun t kt => st t (XS.i2dS X.here hx rfl (hb hby hd) rfl hz kt)⟩
theorem Run.l2d {x : Int64} (z : UInt64) (K : Run C R Z n0 own nm ret bytes mx h cells slots pc L (.long x :: S)) (hd : decode bytes pc = .ok (.l2d, 1)) (hz : FP.l2d x = z) : Run C R Z n0 own nm ret bytes mx h cells slots (pc + 1) L (.double z :: S) := by
  obtain ⟨hx, hby, hml, hown, hZ, hnm, hrt, hlk, T, locs, X, N, eT, st⟩ := K
  exact ⟨hx, hby, hml, hown, hZ, hnm, hrt, hlk, T, locs, X, N, eT, fun t kt => st t (XS.l2dS X.here hx rfl (hb hby hd) rfl hz kt)⟩
theorem Run.dadd {x y : UInt64} (z : UInt64) (K : Run C R Z n0 own nm ret bytes mx h cells slots pc L (.double y :: .double x :: S)) (hd : decode bytes pc = .ok (.dadd, 1)) (hn : Jvm.Free.Fl.NoNaN64 (FP.dadd x y)) (hz : FP.dadd x y = z) : Run C R Z n0 own nm ret bytes mx h cells slots (pc + 1) L (.double z :: S) := by
  obtain ⟨hx, hby, hml, hown, hZ, hnm, hrt, hlk, T, locs, X, N, eT, st⟩ := K
  exact ⟨hx, hby, hml, hown, hZ, hnm, hrt, hlk, T, locs, X, N, eT, fun t kt => st t (XS.daddS X.here hx rfl (hb hby hd) rfl hn hz kt)⟩
theorem Run.ddiv {x y : UInt64} (z : UInt64) (K : Run C R Z n0 own nm ret bytes mx h cells slots pc L (.double y :: .double x :: S)) (hd : decode bytes pc = .ok (.ddiv, 1)) (hn : Jvm.Free.Fl.NoNaN64 (FP.ddiv x y)) (hz : FP.ddiv x y = z) : Run C R Z n0 own nm ret bytes mx h cells slots (pc + 1) L (.double z :: S) := by
  obtain ⟨hx, hby, hml, hown, hZ, hnm, hrt, hlk, T, locs, X, N, eT, st⟩ := K
  exact ⟨hx, hby, hml, hown, hZ, hnm, hrt, hlk, T, locs, X, N, eT, fun t kt => st t (XS.ddivS X.here hx rfl (hb hby hd) rfl hn hz kt)⟩
theorem Run.dcmp {o : CmpOp} {x y : UInt64} (z : Int32) (K : Run C R Z n0 own nm ret bytes mx h cells slots pc L (.double y :: .double x :: S)) (hd : decode bytes pc = .ok (.dcmp o, 1)) (hz : cmpValue (FP.dcmp x y) o = z) : Run C R Z n0 own nm ret bytes mx h cells slots (pc + 1) L (.int z :: S) := by
  obtain ⟨hx, hby, hml, hown, hZ, hnm, hrt, hlk, T, locs, X, N, eT, st⟩ := K
  exact ⟨hx, hby, hml, hown, hZ, hnm, hrt, hlk, T, locs, X, N, eT, fun t kt => st t (XS.dcmpS X.here hx rfl (hb hby hd) rfl hz kt)⟩
theorem Run.foldI {w : Int32} (K : Run C R Z n0 own nm ret bytes mx h cells slots pc L (.int w :: S)) (z : Int32) (q : w = z) : Run C R Z n0 own nm ret bytes mx h cells slots pc L (.int z :: S) := q ▸ K
theorem Run.foldJ {w : Int64} (K : Run C R Z n0 own nm ret bytes mx h cells slots pc L (.long w :: S)) (z : Int64) (q : w = z) : Run C R Z n0 own nm ret bytes mx h cells slots pc L (.long z :: S) := q ▸ K
theorem Run.stk (K : Run C R Z n0 own nm ret bytes mx h cells slots pc L S) (S' : List Value) (q : S = S') : Run C R Z n0 own nm ret bytes mx h cells slots pc L S' := q ▸ K
theorem Run.loc (K : Run C R Z n0 own nm ret bytes mx h cells slots pc L S) (L' : Array Slot) (q : L = L') : Run C R Z n0 own nm ret bytes mx h cells slots pc L' S := q ▸ K
theorem Run.atpc (K : Run C R Z n0 own nm ret bytes mx h cells slots pc L S) (pc' : Nat) (q : pc = pc') : Run C R Z n0 own nm ret bytes mx h cells slots pc' L S := q ▸ K
theorem Run.ldcInt {a0 : Array Value} {index : Nat} {v : Int32} (K : Run C R Z n0 own nm ret bytes mx h cells slots pc L S) (hd : decode bytes pc = .ok (.ldc index, 2)) (w : (Jvm.Cond.constant own index v).before a0 Z = true) : Run C R Z n0 own nm ret bytes mx h cells slots (pc + 2) L (.int v :: S) := by
  obtain ⟨hx, hby, hml, hown, hZ, hnm, hrt, hlk, T, locs, X, N, eT, st⟩ := K
  exact ⟨hx, hby, hml, hown, hZ, hnm, hrt, hlk, T, locs, X, N, eT, fun t kt => st t (X.ldcInt hx hown (mvT hZ w) (g := mkF C.2.2.2.2.1 pc L S) rfl (hb hby hd) t kt)⟩
theorem Run.ldc2Long {a0 : Array Value} {index : Nat} {v : Int64} (K : Run C R Z n0 own nm ret bytes mx h cells slots pc L S) (hd : decode bytes pc = .ok (.ldc2_w index, 3)) (w : (Jvm.Cond.constantLong own index v).before a0 Z = true) : Run C R Z n0 own nm ret bytes mx h cells slots (pc + 3) L (.long v :: S) := by
  obtain ⟨hx, hby, hml, hown, hZ, hnm, hrt, hlk, T, locs, X, N, eT, st⟩ := K
  exact ⟨hx, hby, hml, hown, hZ, hnm, hrt, hlk, T, locs, X, N, eT, fun t kt => st t (X.ldc2Long hx hown (mvT hZ w) (g := mkF C.2.2.2.2.1 pc L S) rfl (hb hby hd) t kt)⟩
/-! returns -/
theorem Run.iret {z : Int32} {Q : Option Value → Heap → Prop} (K : Run C R Z n0 own nm ret bytes mx h cells slots pc L (.int z :: S)) (hd : decode bytes pc = .ok (.ireturn, 1)) {ty : FieldType} (hr : ret = some ty) (ht : ty = .int ∨ ty = .boolean ∨ ty = .byte ∨ ty = .char ∨ ty = .short) (hn : narrow ty (.int z) = .int z) (hQ : Q (some (.int z)) h) (hc : cells ≤ R.cells) (hs : slots ≤ R.slots) : Fini C R n0 Q := by
  obtain ⟨hx, hby, hml, hown, hZ, hnm, hrt, hlk, T, locs, X, N, eT, st⟩ := K
  obtain ⟨fs, hr', hrun, hended, hW, hsame⟩ := X.leave (v := some (.int z)) (fun q => by rw [hrt, hr] at q; cases q) hlk
  exact ⟨_, _, st _ (retOut X hx (hrt.trans hr) hn (Or.inl ⟨rfl, ht, _, rfl⟩) (hb hby hd) hr'), hrun, hended, _, _, rfl, ⟨by rw [show (T.setFrames fs).heap = T.heap from rfl, eT]; exact hQ, N⟩, ⟨_, rfl⟩, hW, hsame.mono hc hs⟩
theorem Run.lret {z : Int64} {Q : Option Value → Heap → Prop} (K : Run C R Z n0 own nm ret bytes mx h cells slots pc L (.long z :: S)) (hd : decode bytes pc = .ok (.lreturn, 1)) (hr : ret = some .long) (hQ : Q (some (.long z)) h) (hc : cells ≤ R.cells) (hs : slots ≤ R.slots) : Fini C R n0 Q := by
  obtain ⟨hx, hby, hml, hown, hZ, hnm, hrt, hlk, T, locs, X, N, eT, st⟩ := K
  obtain ⟨fs, hr', hrun, hended, hW, hsame⟩ := X.leave (v := some (.long z)) (fun q => by rw [hrt, hr] at q; cases q) hlk
  exact ⟨_, _, st _ (retOut X hx (hrt.trans hr) rfl (Or.inr (Or.inl ⟨rfl, rfl, _, rfl⟩)) (hb hby hd) hr'), hrun, hended, _, _, rfl, ⟨by rw [show (T.setFrames fs).heap = T.heap from rfl, eT]; exact hQ, N⟩, ⟨_, rfl⟩, hW, hsame.mono hc hs⟩
theorem Run.dret {z : UInt64} {Q : Option Value → Heap → Prop} (K : Run C R Z n0 own nm ret bytes mx h cells slots pc L (.double z :: S)) (hd : decode bytes pc = .ok (.dreturn, 1)) (hr : ret = some .double) (hQ : Q (some (.double z)) h) (hc : cells ≤ R.cells) (hs : slots ≤ R.slots) : Fini C R n0 Q := by
  obtain ⟨hx, hby, hml, hown, hZ, hnm, hrt, hlk, T, locs, X, N, eT, st⟩ := K
  obtain ⟨fs, hr', hrun, hended, hW, hsame⟩ := X.leave (v := some (.double z)) (fun q => by rw [hrt, hr] at q; cases q) hlk
  exact ⟨_, _, st _ (retOut X hx (hrt.trans hr) rfl (Or.inr (Or.inr (Or.inl ⟨rfl, rfl, _, rfl⟩))) (hb hby hd) hr'), hrun, hended, _, _, rfl, ⟨by rw [show (T.setFrames fs).heap = T.heap from rfl, eT]; exact hQ, N⟩, ⟨_, rfl⟩, hW, hsame.mono hc hs⟩
theorem Run.aret {w : Value} {Q : Option Value → Heap → Prop} (K : Run C R Z n0 own nm ret bytes mx h cells slots pc L (w :: S)) (hd : decode bytes pc = .ok (.areturn, 1)) {ty : FieldType} (hr : ret = some ty) (ht : ty.isReference = true) (hn : narrow ty w = w) (hw : w.isRef = true) (hQ : Q (some w) h) (hc : cells ≤ R.cells) (hs : slots ≤ R.slots) : Fini C R n0 Q := by
  obtain ⟨hx, hby, hml, hown, hZ, hnm, hrt, hlk, T, locs, X, N, eT, st⟩ := K
  obtain ⟨fs, hr', hrun, hended, hW, hsame⟩ := X.leave (v := some w) (fun q => by rw [hrt, hr] at q; cases q) hlk
  exact ⟨_, _, st _ (retOut X hx (hrt.trans hr) hn (Or.inr (Or.inr (Or.inr (Or.inr ⟨rfl, ht, hw⟩)))) (hb hby hd) hr'), hrun, hended, _, _, rfl, ⟨by rw [show (T.setFrames fs).heap = T.heap from rfl, eT]; exact hQ, N⟩, ⟨_, rfl⟩, hW, hsame.mono hc hs⟩
theorem Run.vret {Q : Option Value → Heap → Prop} (K : Run C R Z n0 own nm ret bytes mx h cells slots pc L []) (hd : decode bytes pc = .ok (.return_, 1)) (hr : ret = none) (hQ : Q none h) (hc : cells ≤ R.cells) (hs : slots ≤ R.slots) : Fini C R n0 Q := by
  obtain ⟨hx, hby, hml, hown, hZ, hnm, hrt, hlk, T, locs, X, N, eT, st⟩ := K
  obtain ⟨fs, hr', hrun, hended, hW, hsame⟩ := X.leave (v := none) (fun _ => rfl) hlk
  exact ⟨_, _, st _ (X.returnOut hx (hrt.trans hr) (hb hby hd) hr'), hrun, hended, _, _, rfl, ⟨by rw [show (T.setFrames fs).heap = T.heap from rfl, eT]; exact hQ, N⟩, ⟨_, rfl⟩, hW, hsame.mono hc hs⟩
/-! calls -/
theorem Run.callS {a0 : Array Value} {index : Nat} {y : MethodName} {by2 : ByteArray} {mx2 W : Nat} {rt2 : Option FieldType} {rm : Room} {argsL rest : List Value} {Q : Option Value → Heap → Prop} {ps : List FieldType} (K : Run C R Z n0 own nm ret bytes mx h cells slots pc L S) (hd : decode bytes pc = .ok (.invokestatic index, 3))
    (wl : (Jvm.Cond.methodLink own index y).before a0 Z = true) (wst : (Jvm.Cond.static y).before a0 Z = true) (wi : (Jvm.Cond.initialized y.cls).before a0 Z = true) (wc : (Jvm.Cond.code y by2 mx2 rt2).before a0 Z = true)
    (con : Con Z n0 y by2 mx2 rt2 [] rm argsL.toArray h Q) (hS : S = argsL.reverse ++ rest) (hpd : parseMethodDescriptor y.desc = some ⟨ps, rt2⟩) (hlen : argsL.length = ps.length) (hW : (rest.map fun v => v.category).sum = W) (hLs : L.size = mx)
    (hfr : rm.frames + 1 ≤ R.frames) (hlo : W + (mx2 + 11) + rm.locals ≤ R.locals) (hce : cells + rm.cells ≤ R.cells) (hsl : slots + rm.slots ≤ R.slots) (hy : y.cls ≠ "java/lang/invoke/MethodHandle" ∧ y.cls ≠ "java/lang/invoke/VarHandle") :
    ∃ v h', Q v h' ∧ Run C R Z n0 own nm ret bytes mx h' (cells + rm.cells) (slots + rm.slots) (pc + 3) L (v.toList ++ rest) := by
  obtain ⟨hx, hby, hml, hown, hZ, hnm, hrt, hlk, T, locs, X, N, eT, st⟩ := K
  obtain ⟨v, _, ⟨T', L', k', n'⟩, -, X', ⟨Lc, hQ, l1, y1, z1⟩, st'⟩ := Jvm.LawKit.callS X hx (y := y) hown (mvT hZ wl) (mvT hZ wst) (mvT hZ wi) (mvT hZ wc) hy (backOf (Q := fun v h L => Q v h ∧ Fr n0 L) (W := W) (con C.2.1) hZ wc wi hfr hlo) (g := mkF C.2.2.2.2.1 pc L S) rfl (by rw [hml]; exact hLs) (argsL := argsL) (rest := rest) (lenOf hpd hlen) hS (by show 2 * 0 + _ ≤ _; omega) (hb hby hd) (fun _ _ => ⟨rfl, eT, hce, hsl⟩)
  dsimp only [Pt.U, Pt.locs, Pt.cells, Pt.slots] at X' l1 y1 z1 st' hQ
  subst l1 y1 z1
  exact ⟨v, T'.heap, hQ.1, hx, hby, hml, hown, hZ, hnm, hrt, hlk, T', _, X', Fr.app N hQ.2, rfl, fun t kt => st t (st' t kt)⟩
theorem Run.callI {a0 : Array Value} {index : Nat} {y : MethodName} {by2 : ByteArray} {mx2 W : Nat} {rm : Room} {a : Addr} {argsL rest : List Value} {Q : Option Value → Heap → Prop} {ps : List FieldType} (K : Run C R Z n0 own nm ret bytes mx h cells slots pc L S) (hd : decode bytes pc = .ok (.invokespecial index, 3))
    (hy1 : y.name = "<init>") (wl : (Jvm.Cond.methodLink own index y).before a0 Z = true) (wst : (Jvm.Cond.instanceMethod y).before a0 Z = true) (wi : (Jvm.Cond.initialized y.cls).before a0 Z = true) (wc : (Jvm.Cond.code y by2 mx2 none).before a0 Z = true)
    (con : Con Z n0 y by2 mx2 none [] rm (.ref a :: argsL).toArray h Q) (hS : S = argsL.reverse ++ .ref a :: rest) (hpd : parseMethodDescriptor y.desc = some ⟨ps, none⟩) (hlen : argsL.length = ps.length) (hW : (rest.map fun v => v.category).sum = W) (hLs : L.size = mx)
    (hfr : rm.frames + 1 ≤ R.frames) (hlo : W + (mx2 + 11) + rm.locals ≤ R.locals) (hce : cells + rm.cells ≤ R.cells) (hsl : slots + rm.slots ≤ R.slots) (hy : y.cls ≠ "java/lang/invoke/MethodHandle" ∧ y.cls ≠ "java/lang/invoke/VarHandle") :
    ∃ v h', Q v h' ∧ Run C R Z n0 own nm ret bytes mx h' (cells + rm.cells) (slots + rm.slots) (pc + 3) L (v.toList ++ rest) := by
  obtain ⟨hx, hby, hml, hown, hZ, hnm, hrt, hlk, T, locs, X, N, eT, st⟩ := K
  obtain ⟨v, _, ⟨T', L', k', n'⟩, -, X', ⟨Lc, hQ, l1, y1, z1⟩, st'⟩ := X.specialBack hx (y := y) hy1 hown (mvT hZ wl) (mvT hZ wst) (mvT hZ wc) hy (backOf (Q := fun v h L => Q v h ∧ Fr n0 L) (W := W) (con C.2.1) hZ wc wi hfr hlo) (g := mkF C.2.2.2.2.1 pc L S) rfl (by rw [hml]; exact hLs) (Steps.refl _) (a := a) (argsL := argsL) (rest := rest) (lenOf hpd hlen) hS (by show 2 * 0 + _ ≤ _; omega) (hb hby hd) (fun _ _ => ⟨rfl, eT, hce, hsl⟩)
  dsimp only [Pt.U, Pt.locs, Pt.cells, Pt.slots] at X' l1 y1 z1 st' hQ
  subst l1 y1 z1
  exact ⟨v, T'.heap, hQ.1, hx, hby, hml, hown, hZ, hnm, hrt, hlk, T', _, X', Fr.app N hQ.2, rfl, fun t kt => st t (st'.trans kt)⟩
theorem Run.callV {a0 : Array Value} {index : Nat} {y z : MethodName} {Cl : String} {by2 : ByteArray} {mx2 W : Nat} {rt2 : Option FieldType} {rm : Room} {a : Addr} {argsL rest : List Value} {Q : Option Value → Heap → Prop} {ps : List FieldType} (K : Run C R Z n0 own nm ret bytes mx h cells slots pc L S) (hd : decode bytes pc = .ok (.invokevirtual index, 3))
    (wl : (Jvm.Cond.methodLink own index y).before a0 Z = true) (wd : (Jvm.Cond.declares y).before a0 Z = true) (nf : ∀ s : State, Z.Warmed39 s.vm → NotFace s y) (ws : (Jvm.Cond.selects Cl y z).before a0 Z = true) (wst : (Jvm.Cond.instanceMethod z).before a0 Z = true) (wi : (Jvm.Cond.initialized z.cls).before a0 Z = true) (wc : (Jvm.Cond.code z by2 mx2 rt2).before a0 Z = true)
    (E : Exa Z h a Cl) (con : Con Z n0 z by2 mx2 rt2 [] rm (.ref a :: argsL).toArray h Q) (hS : S = argsL.reverse ++ .ref a :: rest) (hpd : parseMethodDescriptor y.desc = some ⟨ps, rt2⟩) (hlen : argsL.length = ps.length) (hW : (rest.map fun v => v.category).sum = W) (hLs : L.size = mx)
    (hfr : rm.frames + 1 ≤ R.frames) (hlo : W + (mx2 + 11) + rm.locals ≤ R.locals) (hce : cells + rm.cells ≤ R.cells) (hsl : slots + rm.slots ≤ R.slots) (hy : y.cls ≠ "java/lang/invoke/MethodHandle" ∧ y.cls ≠ "java/lang/invoke/VarHandle") :
    ∃ v h', Q v h' ∧ Run C R Z n0 own nm ret bytes mx h' (cells + rm.cells) (slots + rm.slots) (pc + 3) L (v.toList ++ rest) := by
  obtain ⟨hx, hby, hml, hown, hZ, hnm, hrt, hlk, T, locs, X, N, eT, st⟩ := K
  obtain ⟨cq, kq, qa, qb, qc⟩ := isOf hZ eT E
  obtain ⟨v, _, ⟨T', L', k', n'⟩, -, X', ⟨Lc, hQ, l1, y1, z1⟩, st'⟩ := X.virtualBack hx (y := y) (z := z) hown (mvT hZ wl) (mvT hZ wd) (nf _ hZ) (mvT hZ ws) (mvT hZ wst) hy (backOf (Q := fun v h L => Q v h ∧ Fr n0 L) (W := W) (con C.2.1) hZ wc wi hfr hlo) qa qc (g := mkF C.2.2.2.2.1 pc L S) rfl (by rw [hml]; exact hLs) (Steps.refl _) (argsL := argsL) (rest := rest) (lenOf hpd hlen) hS (by show 2 * 0 + _ ≤ _; omega) (hb hby hd) (fun _ _ => ⟨rfl, eT, hce, hsl⟩)
  dsimp only [Pt.U, Pt.locs, Pt.cells, Pt.slots] at X' l1 y1 z1 st' hQ
  subst l1 y1 z1
  exact ⟨v, T'.heap, hQ.1, hx, hby, hml, hown, hZ, hnm, hrt, hlk, T', _, X', Fr.app N hQ.2, rfl, fun t kt => st t (st'.trans kt)⟩
/-! fields, statics, objects -/
theorem Run.getF {a0 : Array Value} {index : Nat} {R0 O n d host : String} {a : Addr} {v : Value} (K : Run C R Z n0 own nm ret bytes mx h cells slots pc L (.ref a :: S)) (hd : decode bytes pc = .ok (.getfield index, 3)) (w : (Jvm.Cond.fieldLink own index R0 n d).before a0 Z = true ∨ (Jvm.Cond.fieldLinkNest own index R0 n d host).before a0 Z = true) (via : Via Z R0 O n d) (F : Fld Z h a O n d v) :
    Run C R Z n0 own nm ret bytes mx h cells slots (pc + 3) L (v :: S) := by
  obtain ⟨hx, hby, hml, hown, hZ, hnm, hrt, hlk, T, locs, X, N, eT, st⟩ := K
  obtain ⟨T', X', e', st'⟩ := RoadKit.getF X hx hZ hown w via eT F (g := mkF C.2.2.2.2.1 pc L (.ref a :: S)) rfl rfl (hb hby hd)
  exact ⟨hx, hby, hml, hown, hZ, hnm, hrt, hlk, T', locs, X', N, e', fun t kt => st t (st' t kt)⟩
theorem Run.getS {a0 : Array Value} {index : Nat} {R0 O n d host : String} {v : Value} (K : Run C R Z n0 own nm ret bytes mx h cells slots pc L S) (hd : decode bytes pc = .ok (.getstatic index, 3)) (w : (Jvm.Cond.fieldLink own index R0 n d).before a0 Z = true ∨ (Jvm.Cond.fieldLinkNest own index R0 n d host).before a0 Z = true) (via : Via Z R0 O n d) (F : Sta Z h O n d v) :
    Run C R Z n0 own nm ret bytes mx h cells slots (pc + 3) L (v :: S) := by
  obtain ⟨hx, hby, hml, hown, hZ, hnm, hrt, hlk, T, locs, X, N, eT, st⟩ := K
  obtain ⟨T', X', e', st'⟩ := RoadKit.getS2 X hx hZ hown w via eT F (g := mkF C.2.2.2.2.1 pc L S) rfl (hb hby hd)
  exact ⟨hx, hby, hml, hown, hZ, hnm, hrt, hlk, T', locs, X', N, e', fun t kt => st t (st' t kt)⟩
theorem Run.putF {a0 : Array Value} {index kk : Nat} {R0 O n d host Cl : String} {ty : FieldType} {a : Addr} {v old : Value} (K : Run C R Z n0 own nm ret bytes mx h cells slots pc L (v :: .ref a :: S)) (hd : decode bytes pc = .ok (.putfield index, 3)) (w : (Jvm.Cond.fieldLink own index R0 n d).before a0 Z = true ∨ (Jvm.Cond.fieldLinkNest own index R0 n d host).before a0 Z = true) (via : Via Z R0 O n d)
    (F : Fld Z h a O n d old) (E : Exa Z h a Cl) (Lw : (Jvm.Cond.lays Cl O n d).before a0 Z = true ∨ ((Jvm.Cond.laysFinal Cl O n d).before a0 Z = true ∧ own = O ∧ nm = "<init>")) (wi : (Jvm.Cond.instantiable Cl kk).before a0 Z = true) (hty : parseFieldDescriptor d = some ty) (hn : narrow ty v = v) (hf : fits ty v = true) (ga : n0 ≤ a) :
    ∃ h', Wr h h' a (RoadKit.slotOf Z O n d) v ∧ Run C R Z n0 own nm ret bytes mx h' cells slots (pc + 3) L S := by
  obtain ⟨hx, hby, hml, hown, hZ, hnm, hrt, hlk, T, locs, X, N, eT, st⟩ := K
  obtain ⟨T', h', X', e', W', st'⟩ := RoadKit.putF X hx hZ hown w via eT F E (Lw.imp id fun q => ⟨q.1, q.2.1, hnm.trans q.2.2⟩) wi hty hn hf (g := mkF C.2.2.2.2.1 pc L (v :: .ref a :: S)) rfl rfl (hb hby hd)
  exact ⟨h', W', hx, hby, hml, hown, hZ, hnm, hrt, hlk, T', _, X', Fr.snoc X' N ga, e', fun t kt => st t (st' t kt)⟩
theorem Run.newO {a0 : Array Value} {index n : Nat} {Cl : String} (K : Run C R Z n0 own nm ret bytes mx h cells slots pc L S) (hd : decode bytes pc = .ok (.new index, 3)) (w : (Jvm.Cond.classLink own index Cl).before a0 Z = true) (wi : (Jvm.Cond.instantiable Cl n).before a0 Z = true) (wz : (Jvm.Cond.initialized Cl).before a0 Z = true) (hc : cells + 1 ≤ R.cells) (hl : slots + n ≤ R.slots) :
    ∃ (h' : Heap) (b : Addr), b = h.size ∧ Ext h h' ∧ Exa Z h' b Cl ∧ (∀ {O f d : String} {ty : FieldType}, Laid Z a0 Cl O f d → parseFieldDescriptor d = some ty → Fld Z h' b O f d (defaultValue ty)) ∧ Run C R Z n0 own nm ret bytes mx h' (cells + 1) (slots + n) (pc + 3) L (.ref b :: S) := by
  obtain ⟨hx, hby, hml, hown, hZ, hnm, hrt, hlk, T, locs, X, N, eT, st⟩ := K
  obtain ⟨T', h', X', e', E', A', D', -, st'⟩ := RoadKit.newO X hx hZ hown w wi wz eT (g := mkF C.2.2.2.2.1 pc L S) rfl (hb hby hd) hc hl
  exact ⟨h', _, rfl, E', A', D', hx, hby, hml, hown, hZ, hnm, hrt, hlk, T', _, X', N, e', fun t kt => st t (st' t kt)⟩
theorem Run.initO {a0 : Array Value} {index W : Nat} {a : Addr} (K : Run C R Z n0 own nm ret bytes mx h cells slots pc L (.ref a :: S)) (hd : decode bytes pc = .ok (.invokespecial index, 3)) (w1 : (Jvm.Cond.methodLink own index Lib.objectInit).before a0 Z = true) (w2 : (Jvm.Cond.instanceMethod Lib.objectInit).before a0 Z = true) (w3 : (Jvm.Cond.code Lib.objectInit ⟨#[0xb1]⟩ 1 none).before a0 Z = true) (hLs : L.size = mx) (hW : (S.map fun v => v.category).sum = W) (hf : 1 ≤ R.frames) (hl : W + 12 ≤ R.locals) :
    Run C R Z n0 own nm ret bytes mx h cells slots (pc + 3) L S := by
  obtain ⟨hx, hby, hml, hown, hZ, hnm, hrt, hlk, T, locs, X, N, eT, st⟩ := K
  obtain ⟨T', X', e', st'⟩ := RoadKit.initO X hx hZ hown w1 w2 w3 eT (g := mkF C.2.2.2.2.1 pc L (.ref a :: S)) rfl (by rw [hml]; exact hLs) rfl (hb hby hd) hf (W := W) (by show 2 * 0 + _ ≤ _; omega) hl
  exact ⟨hx, hby, hml, hown, hZ, hnm, hrt, hlk, T', locs, X', N, e', fun t kt => st t (st' t kt)⟩
theorem Run.castY {a0 : Array Value} {index : Nat} {Kl : String} {a : Addr} (K : Run C R Z n0 own nm ret bytes mx h cells slots pc L (.ref a :: S)) (hd : decode bytes pc = .ok (.checkcast index, 3)) (w : (Jvm.Cond.classLink own index Kl).before a0 Z = true) (F : Ins Z h a Kl true) : Run C R Z n0 own nm ret bytes mx h cells slots (pc + 3) L (.ref a :: S) := by
  obtain ⟨hx, hby, hml, hown, hZ, hnm, hrt, hlk, T, locs, X, N, eT, st⟩ := K
  obtain ⟨T', X', e', st'⟩ := RoadKit.castY X hx hZ hown w eT F (g := mkF C.2.2.2.2.1 pc L (.ref a :: S)) rfl rfl (hb hby hd)
  exact ⟨hx, hby, hml, hown, hZ, hnm, hrt, hlk, T', locs, X', N, e', fun t kt => st t (st' t kt)⟩
/-! arrays, by a function of the place -/
theorem Run.arrlen {a : Addr} {ty : FieldType} {n : Nat} {f : Nat → Value} (K : Run C R Z n0 own nm ret bytes mx h cells slots pc L (.ref a :: S)) (hd : decode bytes pc = .ok (.arraylength, 1)) (F : Arf Z h a ty n f) (z : Int32) (hz : n.toInt32 = z) : Run C R Z n0 own nm ret bytes mx h cells slots (pc + 1) L (.int z :: S) := by
  obtain ⟨hx, hby, hml, hown, hZ, hnm, hrt, hlk, T, locs, X, N, eT, st⟩ := K
  obtain ⟨cl, Ar, Sz, H⟩ := F
  subst hz Sz
  exact ⟨hx, hby, hml, hown, hZ, hnm, hrt, hlk, T, locs, X, N, eT, fun t kt => st t (X.arraylength hx (by rw [eT]; exact Ar.1) (State.isArrayOf_alike hZ.alike Ar.2.1) (g := mkF C.2.2.2.2.1 pc L (.ref a :: S)) rfl rfl (hb hby hd) t kt)⟩
theorem Run.iaload {a : Addr} {n : Nat} {f : Nat → Value} {j : Int32} (K : Run C R Z n0 own nm ret bytes mx h cells slots pc L (.int j :: .ref a :: S)) (hd : decode bytes pc = .ok (.iaload, 1)) (F : Arf Z h a .int n f) (i : Nat) (hj : j.toNatClampNeg = i) (h0 : ¬ j < 0) (hi : i < n) (v : Value) (hv : f i = v) : Run C R Z n0 own nm ret bytes mx h cells slots (pc + 1) L (v :: S) := by
  obtain ⟨hx, hby, hml, hown, hZ, hnm, hrt, hlk, T, locs, X, N, eT, st⟩ := K
  obtain ⟨cl, Ar, Sz, H⟩ := F
  subst hj hv Sz
  exact ⟨hx, hby, hml, hown, hZ, hnm, hrt, hlk, T, locs, X, N, eT, fun t kt => st t (X.iaload hx (j := j) (v := f j.toNatClampNeg) (by rw [eT]; exact Ar.1) (State.isArrayOf_alike hZ.alike Ar.2.1) Ar.2.2 (fun q => q.elim h0 (Nat.not_le.mpr hi)) (H _ hi) (g := mkF C.2.2.2.2.1 pc L (.int j :: .ref a :: S)) rfl rfl (hb hby hd) t kt)⟩
theorem Run.baload {a : Addr} {n : Nat} {f : Nat → Value} {j : Int32} (K : Run C R Z n0 own nm ret bytes mx h cells slots pc L (.int j :: .ref a :: S)) (hd : decode bytes pc = .ok (.baload, 1)) (F : Arf Z h a .byte n f) (i : Nat) (hj : j.toNatClampNeg = i) (h0 : ¬ j < 0) (hi : i < n) (v : Value) (hv : f i = v) : Run C R Z n0 own nm ret bytes mx h cells slots (pc + 1) L (v :: S) := by
  obtain ⟨hx, hby, hml, hown, hZ, hnm, hrt, hlk, T, locs, X, N, eT, st⟩ := K
  obtain ⟨cl, Ar, Sz, H⟩ := F
  subst hj hv Sz
  exact ⟨hx, hby, hml, hown, hZ, hnm, hrt, hlk, T, locs, X, N, eT, fun t kt => st t (X.baloadBytes hx (j := j) (v := f j.toNatClampNeg) (by rw [eT]; exact Ar.1) (State.isArrayOf_alike hZ.alike Ar.2.1) Ar.2.2 (fun q => q.elim h0 (Nat.not_le.mpr hi)) (H _ hi) (g := mkF C.2.2.2.2.1 pc L (.int j :: .ref a :: S)) rfl rfl (hb hby hd) t kt)⟩
theorem Run.aaload {a : Addr} {ty : FieldType} {n : Nat} {f : Nat → Value} {j : Int32} (K : Run C R Z n0 own nm ret bytes mx h cells slots pc L (.int j :: .ref a :: S)) (hd : decode bytes pc = .ok (.aaload, 1)) (F : Arf Z h a ty n f) (hty : ty.isReference = true) (i : Nat) (hj : j.toNatClampNeg = i) (h0 : ¬ j < 0) (hi : i < n) (v : Value) (hv : f i = v) : Run C R Z n0 own nm ret bytes mx h cells slots (pc + 1) L (v :: S) := by
  obtain ⟨hx, hby, hml, hown, hZ, hnm, hrt, hlk, T, locs, X, N, eT, st⟩ := K
  obtain ⟨cl, Ar, Sz, H⟩ := F
  subst hj hv Sz
  exact ⟨hx, hby, hml, hown, hZ, hnm, hrt, hlk, T, locs, X, N, eT, fun t kt => st t (X.aaload hx (j := j) (v := f j.toNatClampNeg) (by rw [eT]; exact Ar.1) (State.isArrayOf_alike hZ.alike Ar.2.1) hty Ar.2.2 (fun q => q.elim h0 (Nat.not_le.mpr hi)) (H _ hi) (g := mkF C.2.2.2.2.1 pc L (.int j :: .ref a :: S)) rfl rfl (hb hby hd) t kt)⟩
theorem Run.iastore {a : Addr} {n : Nat} {f : Nat → Value} {j x : Int32} (K : Run C R Z n0 own nm ret bytes mx h cells slots pc L (.int x :: .int j :: .ref a :: S)) (hd : decode bytes pc = .ok (.iastore, 1)) (F : Arf Z h a .int n f) (i : Nat) (hj : j.toNatClampNeg = i) (h0 : ¬ j < 0) (hi : i < n) (ga : n0 ≤ a) :
    ∃ h', Wr h h' a i (.int x) ∧ Arf Z h' a .int n (updV f i (.int x)) ∧ Run C R Z n0 own nm ret bytes mx h' cells slots (pc + 1) L S := by
  obtain ⟨hx, hby, hml, hown, hZ, hnm, hrt, hlk, T, locs, X, N, eT, st⟩ := K
  obtain ⟨cl, Ar, Sz, H⟩ := F
  subst hj Sz
  obtain ⟨T', h', X', e', W', st'⟩ := RoadKit.stI X hx hZ eT Ar (j := j) (x := x) (fun q => q.elim h0 (Nat.not_le.mpr hi)) (g := mkF C.2.2.2.2.1 pc L (.int x :: .int j :: .ref a :: S)) rfl rfl (hb hby hd)
  exact ⟨h', W', Arf.set ⟨cl, Ar, rfl, H⟩ W' hi, hx, hby, hml, hown, hZ, hnm, hrt, hlk, T', _, X', Fr.snoc X' N ga, e', fun t kt => st t (st' t kt)⟩
theorem Run.bastore {a : Addr} {n : Nat} {f : Nat → Value} {j x : Int32} (K : Run C R Z n0 own nm ret bytes mx h cells slots pc L (.int x :: .int j :: .ref a :: S)) (hd : decode bytes pc = .ok (.bastore, 1)) (F : Arf Z h a .byte n f) (i : Nat) (hj : j.toNatClampNeg = i) (h0 : ¬ j < 0) (hi : i < n) (ga : n0 ≤ a) (x' : Int32) (hx' : x.toInt8.toInt32 = x') :
    ∃ h', Wr h h' a i (.int x') ∧ Arf Z h' a .byte n (updV f i (.int x')) ∧ Run C R Z n0 own nm ret bytes mx h' cells slots (pc + 1) L S := by
  obtain ⟨hx, hby, hml, hown, hZ, hnm, hrt, hlk, T, locs, X, N, eT, st⟩ := K
  obtain ⟨cl, Ar, Sz, H⟩ := F
  subst hj Sz hx'
  obtain ⟨T', h', X', e', W', st'⟩ := RoadKit.stB X hx hZ eT Ar (j := j) (x := x) (fun q => q.elim h0 (Nat.not_le.mpr hi)) (g := mkF C.2.2.2.2.1 pc L (.int x :: .int j :: .ref a :: S)) rfl rfl (hb hby hd)
  exact ⟨h', W', Arf.set ⟨cl, Ar, rfl, H⟩ W' hi, hx, hby, hml, hown, hZ, hnm, hrt, hlk, T', _, X', Fr.snoc X' N ga, e', fun t kt => st t (st' t kt)⟩
theorem Run.caload {a : Addr} {n : Nat} {f : Nat → Value} {j : Int32} (K : Run C R Z n0 own nm ret bytes mx h cells slots pc L (.int j :: .ref a :: S)) (hd : decode bytes pc = .ok (.caload, 1)) (F : Arf Z h a .char n f) (i : Nat) (hj : j.toNatClampNeg = i) (h0 : ¬ j < 0) (hi : i < n) (v : Value) (hv : f i = v) : Run C R Z n0 own nm ret bytes mx h cells slots (pc + 1) L (v :: S) := by
  obtain ⟨hx, hby, hml, hown, hZ, hnm, hrt, hlk, T, locs, X, N, eT, st⟩ := K
  obtain ⟨cl, Ar, Sz, H⟩ := F
  subst hj hv Sz
  exact ⟨hx, hby, hml, hown, hZ, hnm, hrt, hlk, T, locs, X, N, eT, fun t kt => st t (X.caload hx (j := j) (v := f j.toNatClampNeg) (by rw [eT]; exact Ar.1) (State.isArrayOf_alike hZ.alike Ar.2.1) Ar.2.2 (fun q => q.elim h0 (Nat.not_le.mpr hi)) (H _ hi) (g := mkF C.2.2.2.2.1 pc L (.int j :: .ref a :: S)) rfl rfl (hb hby hd) t kt)⟩
theorem Run.daload {a : Addr} {n : Nat} {f : Nat → Value} {j : Int32} (K : Run C R Z n0 own nm ret bytes mx h cells slots pc L (.int j :: .ref a :: S)) (hd : decode bytes pc = .ok (.daload, 1)) (F : Arf Z h a .double n f) (i : Nat) (hj : j.toNatClampNeg = i) (h0 : ¬ j < 0) (hi : i < n) (v : Value) (hv : f i = v) : Run C R Z n0 own nm ret bytes mx h cells slots (pc + 1) L (v :: S) := by
  obtain ⟨hx, hby, hml, hown, hZ, hnm, hrt, hlk, T, locs, X, N, eT, st⟩ := K
  obtain ⟨cl, Ar, Sz, H⟩ := F
  subst hj hv Sz
  exact ⟨hx, hby, hml, hown, hZ, hnm, hrt, hlk, T, locs, X, N, eT, fun t kt => st t (X.daload hx (j := j) (v := f j.toNatClampNeg) (by rw [eT]; exact Ar.1) (State.isArrayOf_alike hZ.alike Ar.2.1) Ar.2.2 (fun q => q.elim h0 (Nat.not_le.mpr hi)) (H _ hi) (g := mkF C.2.2.2.2.1 pc L (.int j :: .ref a :: S)) rfl rfl (hb hby hd) t kt)⟩
theorem Run.castore {a : Addr} {n : Nat} {f : Nat → Value} {j x : Int32} (K : Run C R Z n0 own nm ret bytes mx h cells slots pc L (.int x :: .int j :: .ref a :: S)) (hd : decode bytes pc = .ok (.castore, 1)) (F : Arf Z h a .char n f) (i : Nat) (hj : j.toNatClampNeg = i) (h0 : ¬ j < 0) (hi : i < n) (ga : n0 ≤ a) (x' : Int32) (hx' : x.toUInt32.toUInt16.toUInt32.toInt32 = x') :
    ∃ h', Wr h h' a i (.int x') ∧ Arf Z h' a .char n (updV f i (.int x')) ∧ Run C R Z n0 own nm ret bytes mx h' cells slots (pc + 1) L S := by
  obtain ⟨hx, hby, hml, hown, hZ, hnm, hrt, hlk, T, locs, X, N, eT, st⟩ := K
  obtain ⟨cl, Ar, Sz, H⟩ := F
  subst hj Sz hx'
  obtain ⟨T', h', X', e', W', st'⟩ := RoadKit.stC X hx hZ eT Ar (j := j) (x := x) (fun q => q.elim h0 (Nat.not_le.mpr hi)) (g := mkF C.2.2.2.2.1 pc L (.int x :: .int j :: .ref a :: S)) rfl rfl (hb hby hd)
  exact ⟨h', W', Arf.set ⟨cl, Ar, rfl, H⟩ W' hi, hx, hby, hml, hown, hZ, hnm, hrt, hlk, T', _, X', Fr.snoc X' N ga, e', fun t kt => st t (st' t kt)⟩
theorem Run.dastore {a : Addr} {n : Nat} {f : Nat → Value} {j : Int32} {x : UInt64} (K : Run C R Z n0 own nm ret bytes mx h cells slots pc L (.double x :: .int j :: .ref a :: S)) (hd : decode bytes pc = .ok (.dastore, 1)) (F : Arf Z h a .double n f) (i : Nat) (hj : j.toNatClampNeg = i) (h0 : ¬ j < 0) (hi : i < n) (ga : n0 ≤ a) :
    ∃ h', Wr h h' a i (.double x) ∧ Arf Z h' a .double n (updV f i (.double x)) ∧ Run C R Z n0 own nm ret bytes mx h' cells slots (pc + 1) L S := by
  obtain ⟨hx, hby, hml, hown, hZ, hnm, hrt, hlk, T, locs, X, N, eT, st⟩ := K
  obtain ⟨cl, Ar, Sz, H⟩ := F
  subst hj Sz
  obtain ⟨T', h', X', e', W', st'⟩ := RoadKit.stD X hx hZ eT Ar (j := j) (x := x) (fun q => q.elim h0 (Nat.not_le.mpr hi)) (g := mkF C.2.2.2.2.1 pc L (.double x :: .int j :: .ref a :: S)) rfl rfl (hb hby hd)
  exact ⟨h', W', Arf.set ⟨cl, Ar, rfl, H⟩ W' hi, hx, hby, hml, hown, hZ, hnm, hrt, hlk, T', _, X', Fr.snoc X' N ga, e', fun t kt => st t (st' t kt)⟩
theorem Run.newarr {a0 : Array Value} {aty : ArrayType} {n : Int32} {ad : String} (K : Run C R Z n0 own nm ret bytes mx h cells slots pc L (.int n :: S)) (hd : decode bytes pc = .ok (.newarray aty, 2)) (w : (Jvm.Cond.arrayClass (newarray.typeOf aty)).before a0 Z = true) (hn : ¬ n < 0) (z : Nat) (hz : n.toNatClampNeg = z) (cap : Nat) (hcap : z ≤ cap) (hb8 : cap * 8 ≤ 536870912) (hc : cells + 1 ≤ R.cells) (hl : slots + cap ≤ R.slots) (had : "[" ++ (newarray.typeOf aty).toString = ad) :
    ∃ (h' : Heap) (b : Addr), b = h.size ∧ Ext h h' ∧ Arf Z h' b (newarray.typeOf aty) z (fun _ => defaultValue (newarray.typeOf aty)) ∧ Exa Z h' b ad ∧ Run C R Z n0 own nm ret bytes mx h' (cells + 1) (slots + cap) (pc + 2) L (.ref b :: S) := by
  obtain ⟨hx, hby, hml, hown, hZ, hnm, hrt, hlk, T, locs, X, N, eT, st⟩ := K
  subst hz
  obtain ⟨T', h', cA, X', e', E', A', Ex', st'⟩ := RoadKit.newPE X hx hZ w eT (g := mkF C.2.2.2.2.1 pc L (.int n :: S)) rfl (hb hby hd) rfl hn hcap hb8 hc hl had
  exact ⟨h', _, rfl, E', ⟨_, A', sz_new _ _ _, fun i hi => by simp [newA, hi]⟩, Ex', hx, hby, hml, hown, hZ, hnm, hrt, hlk, T', _, X', N, e', fun t kt => st t (st' t kt)⟩
theorem Run.clone {a0 : Array Value} {index W : Nat} {ad : String} {a : Addr} {ty : FieldType} {n : Nat} {f : Nat → Value} (K : Run C R Z n0 own nm ret bytes mx h cells slots pc L (.ref a :: S)) (hd : decode bytes pc = .ok (.invokevirtual index, 3))
    (w1 : (Jvm.Cond.methodLink own index ⟨ad, "clone", "()Ljava/lang/Object;"⟩).before a0 Z = true) (w2 : (Jvm.Cond.sameMethod ad "java/lang/Object" "clone" "()Ljava/lang/Object;").before a0 Z = true) (w3 : (Jvm.Cond.native ⟨"java/lang/Object", "clone", "()Ljava/lang/Object;"⟩).before a0 Z = true)
    (w4 : (Jvm.Cond.instanceMethod ⟨"java/lang/Object", "clone", "()Ljava/lang/Object;"⟩).before a0 Z = true) (w5 : (Jvm.Cond.selects ad ⟨ad, "clone", "()Ljava/lang/Object;"⟩ ⟨"java/lang/Object", "clone", "()Ljava/lang/Object;"⟩).before a0 Z = true) (w6 : (Jvm.Cond.castable ad "java/lang/Cloneable").before a0 Z = true)
    (F : Arf Z h a ty n f) (hfit : ∀ i, i < n → fits ty (f i) = true) (E : Exa Z h a ad) (cap : Nat) (hcap : n ≤ cap) (hW : (S.map fun v => v.category).sum = W) (hLs : L.size = mx) (hf : 1 ≤ R.frames) (hl : W + 14 ≤ R.locals) (hc : cells + 1 ≤ R.cells) (hsl : slots + cap ≤ R.slots) :
    ∃ (h' : Heap) (b : Addr), b = h.size ∧ Ext h h' ∧ Arf Z h' b ty n f ∧ Exa Z h' b ad ∧ Run C R Z n0 own nm ret bytes mx h' (cells + 1) (slots + cap) (pc + 3) L (.ref b :: S) := by
  obtain ⟨hx, hby, hml, hown, hZ, hnm, hrt, hlk, T, locs, X, N, eT, st⟩ := K
  obtain ⟨cl, Ar, Sz, H⟩ := F
  subst Sz
  have FC : FitC Z cl := fitC_of Ar fun i hi v hv => by rw [H i hi] at hv; cases hv; exact hfit i hi
  obtain ⟨T', h', X', e', ex, A', E', st'⟩ := cloneA X hx hZ hown w1 w2 w3 w4 w5 w6 eT Ar E FC (g := mkF C.2.2.2.2.1 pc L (.ref a :: S)) rfl (by rw [hml]; exact hLs) rfl (hb hby hd) hf (W := W) (cap := cap) (by show 2 * 0 + _ ≤ _; omega) hl hcap hc hsl
  exact ⟨h', _, rfl, ex, ⟨cloneOf cl, A', rfl, H⟩, E', hx, hby, hml, hown, hZ, hnm, hrt, hlk, T', _, X', N, e', fun t kt => st t (st' t kt)⟩
theorem Run.instY {a0 : Array Value} {index : Nat} {Kl : String} {a : Addr} (K : Run C R Z n0 own nm ret bytes mx h cells slots pc L (.ref a :: S)) (hd : decode bytes pc = .ok (.instanceof index, 3)) (w : (Jvm.Cond.classLink own index Kl).before a0 Z = true) (F : Ins Z h a Kl true) : Run C R Z n0 own nm ret bytes mx h cells slots (pc + 3) L (.int (1 : Int32) :: S) := by
  obtain ⟨hx, hby, hml, hown, hZ, hnm, hrt, hlk, T, locs, X, N, eT, st⟩ := K
  obtain ⟨T', X', e', st'⟩ := RoadKit.instY X hx hZ hown w eT F (g := mkF C.2.2.2.2.1 pc L (.ref a :: S)) rfl rfl (hb hby hd)
  exact ⟨hx, hby, hml, hown, hZ, hnm, hrt, hlk, T', locs, X', N, e', fun t kt => st t (st' t kt)⟩
theorem Run.castNull {index : Nat} (K : Run C R Z n0 own nm ret bytes mx h cells slots pc L (.null :: S)) (hd : decode bytes pc = .ok (.checkcast index, 3)) : Run C R Z n0 own nm ret bytes mx h cells slots (pc + 3) L (.null :: S) := by
  obtain ⟨hx, hby, hml, hown, hZ, hnm, hrt, hlk, T, locs, X, N, eT, st⟩ := K
  exact ⟨hx, hby, hml, hown, hZ, hnm, hrt, hlk, T, locs, X, N, eT, fun t kt => st t (X.checkcastNull hx (g := mkF C.2.2.2.2.1 pc L (.null :: S)) rfl rfl (hb hby hd) t kt)⟩
theorem Run.lswHit {x : Int32} {dflt : Int} {pairs : Array (Int × Int)} {len : Nat} {b off : Int} {pc' : Nat} (K : Run C R Z n0 own nm ret bytes mx h cells slots pc L (.int x :: S)) (hd : decode bytes pc = .ok (.lookupswitch dflt pairs, len)) (hsorted : (pairs.toList.zip (pairs.toList.drop 1)).all (fun (a, next) => a.1 < next.1) = true) (hfind : pairs.find? (·.1 == x.toInt) = some (b, off)) (ho : 0 ≤ (pc : Int) + off) (hp : ((pc : Int) + off).toNat = pc') : Run C R Z n0 own nm ret bytes mx h cells slots pc' L S := by
  obtain ⟨hx, hby, hml, hown, hZ, hnm, hrt, hlk, T, locs, X, N, eT, st⟩ := K
  subst hp
  exact ⟨hx, hby, hml, hown, hZ, hnm, hrt, hlk, T, locs, X, N, eT, fun t kt => st t (X.lookupswitchHit hx (g := mkF C.2.2.2.2.1 pc L (.int x :: S)) rfl rfl (hb hby hd) hsorted hfind ho t kt)⟩
theorem Run.lswMiss {x : Int32} {dflt : Int} {pairs : Array (Int × Int)} {len : Nat} {pc' : Nat} (K : Run C R Z n0 own nm ret bytes mx h cells slots pc L (.int x :: S)) (hd : decode bytes pc = .ok (.lookupswitch dflt pairs, len)) (hsorted : (pairs.toList.zip (pairs.toList.drop 1)).all (fun (a, next) => a.1 < next.1) = true) (hfind : ∀ p ∈ pairs.toList, p.1 ≠ x.toInt) (ho : 0 ≤ (pc : Int) + dflt) (hp : ((pc : Int) + dflt).toNat = pc') : Run C R Z n0 own nm ret bytes mx h cells slots pc' L S := by
  obtain ⟨hx, hby, hml, hown, hZ, hnm, hrt, hlk, T, locs, X, N, eT, st⟩ := K
  subst hp
  exact ⟨hx, hby, hml, hown, hZ, hnm, hrt, hlk, T, locs, X, N, eT, fun t kt => st t (X.lookupswitchMiss hx (g := mkF C.2.2.2.2.1 pc L (.int x :: S)) rfl rfl (hb hby hd) hsorted (find_miss hfind) ho t kt)⟩
end Steps
end Jvm.Own

namespace Jvm.Pilot.@@N@@
open Jvm Jvm.ClassFile Sem Op Lib Jvm.Free Jvm.Stand Jvm.LawKit Jvm.RoadKit Jvm.Own Bundle Jvm.Pilot.@@N@@.Jvm.D
theorem pd_0 : parseMethodDescriptor "([CI[BII)I" = some ⟨[(.array .char), .int, (.array .byte), .int, .int], some .int⟩ := by decide +kernel
theorem pd_1 : parseMethodDescriptor "([CII)[B" = some ⟨[(.array .char), .int, .int], some (.array .byte)⟩ := by decide +kernel
theorem pd_2 : parseMethodDescriptor "([BI)B" = some ⟨[(.array .byte), .int], some .byte⟩ := by decide +kernel
theorem pd_3 : parseMethodDescriptor "([CIILjava/lang/Void;)V" = some ⟨[(.array .char), .int, .int, (.object "java/lang/Void")], none⟩ := by decide +kernel
theorem pd_4 : parseMethodDescriptor "([C)V" = some ⟨[(.array .char)], none⟩ := by decide +kernel
theorem pd_5 : parseMethodDescriptor "(DLjava/lang/String;DD)D" = some ⟨[.double, (.object "java/lang/String"), .double, .double], some .double⟩ := by decide +kernel

section Narrow
variable {args : Array Value} {first s : State} {o : Option Outcome} {idx : List Nat} {t u : Term}
theorem own_eqv {n : Int32} (h : (Jvm.Cond.eq t (.int n)).value args first o s idx = some true) : t.eval args first o idx s = some (.int n) := by
  cases ht : t.eval args first o idx s with
  | none => simp [Cond.value, ht] at h
  | some x => cases x <;> simp [Cond.value, Term.int_eval, ht] at h ⊢; exact h
theorem own_ne0 {z n : Int32} (ev : t.eval args first o idx s = some (.int z)) (h : (Jvm.Cond.eq t (.int n)).value args first o s idx = some false) : ¬ (z = n) := by
  intro q; subst q
  simp [Cond.value, Term.int_eval, ev] at h
theorem own_eqr {b : Addr} (hu : u.eval args first o idx s = some (.ref b)) (h : (Jvm.Cond.eq t u).value args first o s idx = some true) : t.eval args first o idx s = some (.ref b) := by
  cases ht : t.eval args first o idx s with
  | none => simp [Cond.value, ht] at h
  | some x => cases x <;> simp [Cond.value, hu, ht] at h ⊢; exact h
theorem own_len {a : Addr} {cl : Cell} {ty : FieldType} {n : Int32} {k : Nat} (ev : t.eval args s none [] s = some (.ref a)) (A : Arr s s.heap a cl ty) (h : (Term.length t).eval args s none [] s = some (.int n)) (hk : n.toInt = (k : Int)) : cl.slots.size = k := by
  have q : s.arrayAt? a = some cl := A.fin (Vm.Alike.refl _)
  simp [Term.eval, ev, q] at h
  have r := len_toInt h.1
  rw [h.2, hk] at r
  omega
end Narrow
def own_arr (l : List Int32) (i : Nat) : Value := .int (l.getD i 0)
theorem own_i2b (x : Int32) : x.toInt8.toInt32.toInt8.toInt32 = x.toInt8.toInt32 := by simp
theorem own_i2c (x : Int32) : x.toUInt32.toUInt16.toUInt32.toInt32.toUInt32.toUInt16.toUInt32.toInt32 = x.toUInt32.toUInt16.toUInt32.toInt32 := by
  have h1 := c_i2c x
  have h2 := c_i2c x.toUInt32.toUInt16.toUInt32.toInt32
  rw [← Int32.toInt_inj]
  omega
theorem own_cg2 {f : Nat → Value} {v0 v1 : Int32} (i : Nat) (hi : i < 2) : (updV (updV f 0 (.int v0)) 1 (.int v1)) i = own_arr [v0, v1] i := by
  match i, hi with
  | 0, _ => rfl
  | 1, _ => rfl

theorem own_c (x : Int32) : ¬ ((255 : Int32) < ((x &&& (255 : Int32)).toUInt32.toUInt16.toUInt32.toInt32)) := by
  have h1 := c_mask x 255 8 (by decide) (by decide)
  have h2 := c_i2c (x &&& 255)
  have e : (255 : Int32).toInt = 255 := by decide
  have p : (2 ^ 8 : Nat) = 256 := by decide
  rw [Int32.lt_iff_toInt_lt, e]
  rw [p] at h1
  omega
theorem own_b1 (x : Int32) : B53 x.toInt64 := by
  have h := c_i2l x
  have r := rng32 x
  unfold B53
  omega
theorem own_sum (x y : Int32) : (x.toInt64 + y.toInt64).toInt = x.toInt + y.toInt := by
  have h1 := c_i2l x
  have h2 := c_i2l y
  have r1 := rng32 x
  have r2 := rng32 y
  have h3 := c_ladd x.toInt64 y.toInt64
  have r3 := rng64 (x.toInt64 + y.toInt64)
  omega
theorem own_b2 (x y : Int32) : B53 (x.toInt64 + y.toInt64) := by
  have h := own_sum x y
  have r1 := rng32 x
  have r2 := rng32 y
  unfold B53
  omega
theorem own_lim (x y z : Int32) : (x.toInt64 + y.toInt64 + (z &&& (65535 : Int32)).toInt64).toInt = x.toInt + y.toInt + z.toInt % 65536 := by
  have h := own_sum x y
  have h1 := c_mask z 65535 16 (by decide) (by decide)
  have p : (2 ^ 16 : Nat) = 65536 := by decide
  rw [p] at h1
  have h2 := c_i2l (z &&& 65535)
  have h3 := c_ladd (x.toInt64 + y.toInt64) (z &&& 65535).toInt64
  have r1 := rng32 x
  have r2 := rng32 y
  have r3 := rng64 (x.toInt64 + y.toInt64 + (z &&& 65535).toInt64)
  omega
theorem own_b3 (x y z : Int32) : B53 (x.toInt64 + y.toInt64 + (z &&& (65535 : Int32)).toInt64) := by
  have h := own_lim x y z
  have r1 := rng32 x
  have r2 := rng32 y
  unfold B53
  omega
theorem own_le (x y z : Int32) : ¬ ((0 : Int32) < lcmpW (x.toInt64 + y.toInt64) (x.toInt64 + y.toInt64 + (z &&& (65535 : Int32)).toInt64)) := by
  rw [lw_gt, Int64.lt_iff_toInt_lt]
  have h := own_lim x y z
  have h2 := own_sum x y
  omega
theorem d6_0 : decode jdk_52_method_15_code 0 = .ok (.iload_n 1, 1) := by decide +kernel
theorem d6_1 : decode jdk_52_method_15_code 1 = .ok (.aload_n 0, 1) := by decide +kernel
theorem d6_2 : decode jdk_52_method_15_code 2 = .ok (.arraylength, 1) := by decide +kernel
theorem d6_3 : decode jdk_52_method_15_code 3 = .ok (.isub, 1) := by decide +kernel
theorem d6_4 : decode jdk_52_method_15_code 4 = .ok (.bipush 31, 2) := by decide +kernel
theorem d6_6 : decode jdk_52_method_15_code 6 = .ok (.iushr, 1) := by decide +kernel
theorem d6_7 : decode jdk_52_method_15_code 7 = .ok (.i2b, 1) := by decide +kernel
theorem d6_8 : decode jdk_52_method_15_code 8 = .ok (.ireturn, 1) := by decide +kernel
set_option maxRecDepth 65536 in
set_option maxHeartbeats 40000000 in
theorem rm6_2 (Z : State) (a0 : Array Value) (hw : ∀ d ∈ tables_1, d.before a0 Z = true) (a1 : Addr) (f1 : Nat → Value) (h0 : Heap) (n0 : Nat) (A1 : Arf Z h0 a1 .byte 2 f1) :
    Con Z n0 (⟨"java/lang/StringUTF16", "coderFromArrayLen", "([BI)B"⟩ : MethodName) jdk_52_method_15_code 2 (some .byte) [] ({ frames := 0, cells := 0, slots := 0, locals := 0 } : Room) #[(.ref a1), (.int (2 : Int32))] h0 (fun v h => v = some (.int (0 : Int32)) ∧ h0 = h) := by
  refine Con.intro (L0 := #[.val (.ref a1), .val (.int (2 : Int32))]) (plainFor_of_name (by first | (simp [plainName, overriddenIn]; done) | decide +kernel)) (fun m => by first | (simp [entryFrame, mkF, argsToLocals, Value.category]; done) | rfl) ?_
  intro C k
  replace k := k.iloadN d6_0 rfl
  replace k := k.aloadN d6_1 rfl rfl
  replace k := k.arrlen d6_2 A1 (2 : Int32) (by decide)
  replace k := k.isub d6_3
  replace k := k.foldI (0 : Int32) (by decide)
  replace k := k.bipush (31 : Int32) d6_4 rfl
  replace k := k.iushr d6_6
  replace k := k.foldI (0 : Int32) (by decide)
  replace k := k.i2b d6_7
  replace k := k.foldI (0 : Int32) (by decide)
  exact k.iret d6_8 rfl (by simp) rfl ⟨rfl, rfl⟩ (by decide) (by decide)

theorem d5_0 : decode jdk_52_method_21_code 0 = .ok (.iconst 0, 1) := by decide +kernel
theorem d5_1 : decode jdk_52_method_21_code 1 = .ok (.istore 5, 2) := by decide +kernel
theorem d5_3 : decode jdk_52_method_21_code 3 = .ok (.iload 5, 2) := by decide +kernel
theorem d5_5 : decode jdk_52_method_21_code 5 = .ok (.iload 4, 2) := by decide +kernel
theorem d5_7 : decode jdk_52_method_21_code 7 = .ok (.if_icmp .ge 37, 3) := by decide +kernel
theorem d5_10 : decode jdk_52_method_21_code 10 = .ok (.aload_n 0, 1) := by decide +kernel
theorem d5_11 : decode jdk_52_method_21_code 11 = .ok (.iload_n 1, 1) := by decide +kernel
theorem d5_12 : decode jdk_52_method_21_code 12 = .ok (.caload, 1) := by decide +kernel
theorem d5_13 : decode jdk_52_method_21_code 13 = .ok (.istore 6, 2) := by decide +kernel
theorem d5_15 : decode jdk_52_method_21_code 15 = .ok (.iload 6, 2) := by decide +kernel
theorem d5_17 : decode jdk_52_method_21_code 17 = .ok (.sipush 255, 3) := by decide +kernel
theorem d5_20 : decode jdk_52_method_21_code 20 = .ok (.if_icmp .le 6, 3) := by decide +kernel
theorem d5_26 : decode jdk_52_method_21_code 26 = .ok (.aload_n 2, 1) := by decide +kernel
theorem d5_27 : decode jdk_52_method_21_code 27 = .ok (.iload_n 3, 1) := by decide +kernel
theorem d5_28 : decode jdk_52_method_21_code 28 = .ok (.iload 6, 2) := by decide +kernel
theorem d5_30 : decode jdk_52_method_21_code 30 = .ok (.i2b, 1) := by decide +kernel
theorem d5_31 : decode jdk_52_method_21_code 31 = .ok (.bastore, 1) := by decide +kernel
theorem d5_32 : decode jdk_52_method_21_code 32 = .ok (.iinc 1 1, 3) := by decide +kernel
theorem d5_35 : decode jdk_52_method_21_code 35 = .ok (.iinc 3 1, 3) := by decide +kernel
theorem d5_38 : decode jdk_52_method_21_code 38 = .ok (.iinc 5 1, 3) := by decide +kernel
theorem d5_41 : decode jdk_52_method_21_code 41 = .ok (.goto (-38), 3) := by decide +kernel
theorem d5_44 : decode jdk_52_method_21_code 44 = .ok (.iload 4, 2) := by decide +kernel
theorem d5_46 : decode jdk_52_method_21_code 46 = .ok (.ireturn, 1) := by decide +kernel
set_option maxRecDepth 65536 in
set_option maxHeartbeats 40000000 in
theorem rm5_2 (Z : State) (a0 : Array Value) (hw : ∀ d ∈ tables_1, d.before a0 Z = true) (a1 a2 : Addr) (f2 : Nat → Value) (c0 c1 : Int32) (h0 : Heap) (n0 : Nat) (ne : a1 ≠ a2) (g2 : n0 ≤ a2) (A1 : Arf Z h0 a1 .char 2 (own_arr [c0, c1])) (A2 : Arf Z h0 a2 .byte 2 f2) (hp0 : ¬ ((255 : Int32) < c0)) (hp1 : ¬ ((255 : Int32) < c1)) :
    Con Z n0 (⟨"java/lang/StringUTF16", "compress", "([CI[BII)I"⟩ : MethodName) jdk_52_method_21_code 7 (some .int) [] ({ frames := 0, cells := 0, slots := 0, locals := 0 } : Room) #[(.ref a1), (.int (0 : Int32)), (.ref a2), (.int (0 : Int32)), (.int (2 : Int32))] h0 (fun v h => v = some (.int (2 : Int32)) ∧ Keep h0 h [a2] ∧ Arf Z h a2 .byte 2 (own_arr [(c0.toInt8.toInt32), (c1.toInt8.toInt32)])) := by
  refine Con.intro (L0 := #[.val (.ref a1), .val (.int (0 : Int32)), .val (.ref a2), .val (.int (0 : Int32)), .val (.int (2 : Int32)), .unset, .unset]) (plainFor_of_name (by first | (simp [plainName, overriddenIn]; done) | decide +kernel)) (fun m => by first | (simp [entryFrame, mkF, argsToLocals, Value.category]; done) | rfl) ?_
  intro C k
  replace k := k.iconst (0 : Int32) d5_0 rfl
  replace k := k.istore #[.val (.ref a1), .val (.int (0 : Int32)), .val (.ref a2), .val (.int (0 : Int32)), .val (.int (2 : Int32)), .val (.int (0 : Int32)), .unset] d5_1 rfl
  replace k := k.iload d5_3 rfl
  replace k := k.iload d5_5 rfl
  replace k := k.icmpNo d5_7 (by decide)
  replace k := k.aloadN d5_10 rfl rfl
  replace k := k.iloadN d5_11 rfl
  replace k := k.caload d5_12 A1  0 (by decide) (by decide) (by decide) (.int c0) rfl
  replace k := k.istore #[.val (.ref a1), .val (.int (0 : Int32)), .val (.ref a2), .val (.int (0 : Int32)), .val (.int (2 : Int32)), .val (.int (0 : Int32)), .val (.int c0)] d5_13 rfl
  replace k := k.iload d5_15 rfl
  replace k := k.sipush (255 : Int32) d5_17 rfl
  replace k := k.icmpYes (pc' := 26) d5_20 (flt hp0).2.2.2 (by decide) (by decide)
  replace k := k.aloadN d5_26 rfl rfl
  replace k := k.iloadN d5_27 rfl
  replace k := k.iload d5_28 rfl
  replace k := k.i2b d5_30
  obtain ⟨h101, W101, A101, k⟩ := k.bastore d5_31 A2 0 (by decide) (by decide) (by decide) g2 (c0.toInt8.toInt32) (own_i2b _)
  have K101 : Keep h0 h101 [a2] := (Keep.refl h0 ([a2] : List Addr)).wr W101 (Or.inl (List.mem_of_getElem? (i := 0) rfl))
  replace k := k.iinc (1 : Int32) #[.val (.ref a1), .val (.int ((0 : Int32) + (1 : Int32))), .val (.ref a2), .val (.int (0 : Int32)), .val (.int (2 : Int32)), .val (.int (0 : Int32)), .val (.int c0)] d5_32 rfl rfl rfl
  replace k := k.loc #[.val (.ref a1), .val (.int (1 : Int32)), .val (.ref a2), .val (.int (0 : Int32)), .val (.int (2 : Int32)), .val (.int (0 : Int32)), .val (.int c0)] (by rfl)
  replace k := k.iinc (1 : Int32) #[.val (.ref a1), .val (.int (1 : Int32)), .val (.ref a2), .val (.int ((0 : Int32) + (1 : Int32))), .val (.int (2 : Int32)), .val (.int (0 : Int32)), .val (.int c0)] d5_35 rfl rfl rfl
  replace k := k.loc #[.val (.ref a1), .val (.int (1 : Int32)), .val (.ref a2), .val (.int (1 : Int32)), .val (.int (2 : Int32)), .val (.int (0 : Int32)), .val (.int c0)] (by rfl)
  replace k := k.iinc (1 : Int32) #[.val (.ref a1), .val (.int (1 : Int32)), .val (.ref a2), .val (.int (1 : Int32)), .val (.int (2 : Int32)), .val (.int ((0 : Int32) + (1 : Int32))), .val (.int c0)] d5_38 rfl rfl rfl
  replace k := k.loc #[.val (.ref a1), .val (.int (1 : Int32)), .val (.ref a2), .val (.int (1 : Int32)), .val (.int (2 : Int32)), .val (.int (1 : Int32)), .val (.int c0)] (by rfl)
  replace k := k.goto (pc' := 3) d5_41 (by decide) (by decide)
  replace k := k.iload d5_3 rfl
  replace k := k.iload d5_5 rfl
  replace k := k.icmpNo d5_7 (by decide)
  replace k := k.aloadN d5_10 rfl rfl
  replace k := k.iloadN d5_11 rfl
  replace k := k.caload d5_12 (A1.other W101 ne)  1 (by decide) (by decide) (by decide) (.int c1) rfl
  replace k := k.istore #[.val (.ref a1), .val (.int (1 : Int32)), .val (.ref a2), .val (.int (1 : Int32)), .val (.int (2 : Int32)), .val (.int (1 : Int32)), .val (.int c1)] d5_13 rfl
  replace k := k.iload d5_15 rfl
  replace k := k.sipush (255 : Int32) d5_17 rfl
  replace k := k.icmpYes (pc' := 26) d5_20 (flt hp1).2.2.2 (by decide) (by decide)
  replace k := k.aloadN d5_26 rfl rfl
  replace k := k.iloadN d5_27 rfl
  replace k := k.iload d5_28 rfl
  replace k := k.i2b d5_30
  obtain ⟨h102, W102, A102, k⟩ := k.bastore d5_31 A101 1 (by decide) (by decide) (by decide) g2 (c1.toInt8.toInt32) (own_i2b _)
  have K102 : Keep h0 h102 [a2] := K101.wr W102 (Or.inl (List.mem_of_getElem? (i := 0) rfl))
  replace k := k.iinc (1 : Int32) #[.val (.ref a1), .val (.int ((1 : Int32) + (1 : Int32))), .val (.ref a2), .val (.int (1 : Int32)), .val (.int (2 : Int32)), .val (.int (1 : Int32)), .val (.int c1)] d5_32 rfl rfl rfl
  replace k := k.loc #[.val (.ref a1), .val (.int (2 : Int32)), .val (.ref a2), .val (.int (1 : Int32)), .val (.int (2 : Int32)), .val (.int (1 : Int32)), .val (.int c1)] (by rfl)
  replace k := k.iinc (1 : Int32) #[.val (.ref a1), .val (.int (2 : Int32)), .val (.ref a2), .val (.int ((1 : Int32) + (1 : Int32))), .val (.int (2 : Int32)), .val (.int (1 : Int32)), .val (.int c1)] d5_35 rfl rfl rfl
  replace k := k.loc #[.val (.ref a1), .val (.int (2 : Int32)), .val (.ref a2), .val (.int (2 : Int32)), .val (.int (2 : Int32)), .val (.int (1 : Int32)), .val (.int c1)] (by rfl)
  replace k := k.iinc (1 : Int32) #[.val (.ref a1), .val (.int (2 : Int32)), .val (.ref a2), .val (.int (2 : Int32)), .val (.int (2 : Int32)), .val (.int ((1 : Int32) + (1 : Int32))), .val (.int c1)] d5_38 rfl rfl rfl
  replace k := k.loc #[.val (.ref a1), .val (.int (2 : Int32)), .val (.ref a2), .val (.int (2 : Int32)), .val (.int (2 : Int32)), .val (.int (2 : Int32)), .val (.int c1)] (by rfl)
  replace k := k.goto (pc' := 3) d5_41 (by decide) (by decide)
  replace k := k.iload d5_3 rfl
  replace k := k.iload d5_5 rfl
  replace k := k.icmpYes (pc' := 44) d5_7 (by decide) (by decide) (by decide)
  replace k := k.iload d5_44 rfl
  exact k.iret d5_46 rfl (by simp) rfl ⟨rfl, K102, (A102.congr (fun i hi => own_cg2 i hi))⟩ (by decide) (by decide)

theorem d4_0 : decode jdk_52_method_16_code 0 = .ok (.iload_n 2, 1) := by decide +kernel
theorem d4_1 : decode jdk_52_method_16_code 1 = .ok (.newarray .byte, 2) := by decide +kernel
theorem d4_3 : decode jdk_52_method_16_code 3 = .ok (.astore_n 3, 1) := by decide +kernel
theorem d4_4 : decode jdk_52_method_16_code 4 = .ok (.aload_n 0, 1) := by decide +kernel
theorem d4_5 : decode jdk_52_method_16_code 5 = .ok (.iload_n 1, 1) := by decide +kernel
theorem d4_6 : decode jdk_52_method_16_code 6 = .ok (.aload_n 3, 1) := by decide +kernel
theorem d4_7 : decode jdk_52_method_16_code 7 = .ok (.iconst 0, 1) := by decide +kernel
theorem d4_8 : decode jdk_52_method_16_code 8 = .ok (.iload_n 2, 1) := by decide +kernel
theorem d4_9 : decode jdk_52_method_16_code 9 = .ok (.invokestatic 115, 3) := by decide +kernel
theorem d4_12 : decode jdk_52_method_16_code 12 = .ok (.istore 4, 2) := by decide +kernel
theorem d4_14 : decode jdk_52_method_16_code 14 = .ok (.iload 4, 2) := by decide +kernel
theorem d4_16 : decode jdk_52_method_16_code 16 = .ok (.iload_n 2, 1) := by decide +kernel
theorem d4_17 : decode jdk_52_method_16_code 17 = .ok (.if_icmp .eq 40, 3) := by decide +kernel
theorem d4_57 : decode jdk_52_method_16_code 57 = .ok (.aload_n 3, 1) := by decide +kernel
theorem d4_58 : decode jdk_52_method_16_code 58 = .ok (.areturn, 1) := by decide +kernel
set_option maxRecDepth 65536 in
set_option maxHeartbeats 40000000 in
theorem rm4_2 (Z : State) (a0 : Array Value) (hw : ∀ d ∈ tables_1, d.before a0 Z = true) (a1 : Addr) (c0 c1 : Int32) (h0 : Heap) (n0 : Nat) (Z0 : n0 ≤ h0.size) (A1 : Arf Z h0 a1 .char 2 (own_arr [c0, c1])) (hp0 : ¬ ((255 : Int32) < c0)) (hp1 : ¬ ((255 : Int32) < c1)) :
    Con Z n0 (⟨"java/lang/StringUTF16", "compress", "([CII)[B"⟩ : MethodName) jdk_52_method_16_code 6 (some (.array .byte)) [] ({ frames := 1, cells := 1, slots := 2, locals := 18 } : Room) #[(.ref a1), (.int (0 : Int32)), (.int (2 : Int32))] h0 (fun v h => ∃ b, v = some (.ref b) ∧ Keep h0 h [] ∧ n0 ≤ b ∧ h0.size ≤ b ∧ Arf Z h b .byte 2 (own_arr [(c0.toInt8.toInt32), (c1.toInt8.toInt32)]) ∧ Exa Z h b "[B") := by
  refine Con.intro (L0 := #[.val (.ref a1), .val (.int (0 : Int32)), .val (.int (2 : Int32)), .unset, .unset, .unset]) (plainFor_of_name (by first | (simp [plainName, overriddenIn]; done) | decide +kernel)) (fun m => by first | (simp [entryFrame, mkF, argsToLocals, Value.category]; done) | rfl) ?_
  intro C k
  replace k := k.iloadN d4_0 rfl
  obtain ⟨h101, b101, g101, E101, A101, X101, k⟩ := k.newarr (ad := "[B") d4_1 (hw _ (List.mem_of_getElem? (i := 20) rfl)) (by decide) 2 (by decide) 2 (by decide) (by decide) (by decide) (by decide) (by decide)
  have ge_b101 : n0 ≤ b101 := Nat.le_trans Z0 (Nat.le_of_eq g101.symm)
  have sz_b101 : h0.size ≤ b101 := Nat.le_trans (Keep.refl h0 ([] : List Addr)).1 (Nat.le_of_eq g101.symm)
  have K101 : Keep h0 h101 [] := (Keep.refl h0 ([] : List Addr)).ext E101
  replace k := k.astoreN #[.val (.ref a1), .val (.int (0 : Int32)), .val (.int (2 : Int32)), .val (.ref b101), .unset, .unset] d4_3 rfl rfl
  replace k := k.aloadN d4_4 rfl rfl
  replace k := k.iloadN d4_5 rfl
  replace k := k.aloadN d4_6 rfl rfl
  replace k := k.iconst (0 : Int32) d4_7 rfl
  replace k := k.iloadN d4_8 rfl
  obtain ⟨_, hz102, ⟨rfl, Kz102, Az102⟩, k⟩ := k.callS (y := (⟨"java/lang/StringUTF16", "compress", "([CI[BII)I"⟩ : MethodName)) d4_9 (hw _ (List.mem_of_getElem? (i := 21) rfl)) (hw _ (List.mem_of_getElem? (i := 22) rfl)) (hw _ (List.mem_of_getElem? (i := 18) rfl)) (hw _ (List.mem_of_getElem? (i := 23) rfl)) (W := 0) (argsL := [(.ref a1), (.int (0 : Int32)), (.ref b101), (.int (0 : Int32)), (.int (2 : Int32))]) (rest := []) (rm5_2 Z a0 hw a1 b101 _ c0 c1 h101 n0 (Nat.ne_of_lt (Nat.lt_of_lt_of_le A1.lt (Nat.le_of_eq g101.symm))) ge_b101 (A1.ext E101) A101 hp0 hp1) rfl (pd_0) rfl rfl rfl (by decide) (by decide) (by decide) (by decide) (by decide)
  have Kc103 : Keep h0 hz102 [] := K101.trans Kz102 (allS (Or.inr sz_b101) all0)
  replace k := k.stk [(.int (2 : Int32))] rfl
  replace k := k.istore #[.val (.ref a1), .val (.int (0 : Int32)), .val (.int (2 : Int32)), .val (.ref b101), .val (.int (2 : Int32)), .unset] d4_12 rfl
  replace k := k.iload d4_14 rfl
  replace k := k.iloadN d4_16 rfl
  replace k := k.icmpYes (pc' := 57) d4_17 (by decide) (by decide) (by decide)
  replace k := k.aloadN d4_57 rfl rfl
  exact k.aret d4_58 rfl rfl rfl rfl ⟨_, rfl, Kc103, ge_b101, sz_b101, Az102, (X101.keep Kz102)⟩ (by decide) (by decide)

theorem d2_0 : decode jdk_42_method_149_code 0 = .ok (.aload_n 0, 1) := by decide +kernel
theorem d2_1 : decode jdk_42_method_149_code 1 = .ok (.invokespecial 1, 3) := by decide +kernel
theorem d2_4 : decode jdk_42_method_149_code 4 = .ok (.iload_n 3, 1) := by decide +kernel
theorem d2_5 : decode jdk_42_method_149_code 5 = .ok (.ifCond .ne 22, 3) := by decide +kernel
theorem d2_27 : decode jdk_42_method_149_code 27 = .ok (.getstatic 38, 3) := by decide +kernel
theorem d2_30 : decode jdk_42_method_149_code 30 = .ok (.ifCond .eq 28, 3) := by decide +kernel
theorem d2_33 : decode jdk_42_method_149_code 33 = .ok (.aload_n 1, 1) := by decide +kernel
theorem d2_34 : decode jdk_42_method_149_code 34 = .ok (.iload_n 2, 1) := by decide +kernel
theorem d2_35 : decode jdk_42_method_149_code 35 = .ok (.iload_n 3, 1) := by decide +kernel
theorem d2_36 : decode jdk_42_method_149_code 36 = .ok (.invokestatic 177, 3) := by decide +kernel
theorem d2_39 : decode jdk_42_method_149_code 39 = .ok (.astore 5, 2) := by decide +kernel
theorem d2_41 : decode jdk_42_method_149_code 41 = .ok (.aload_n 0, 1) := by decide +kernel
theorem d2_42 : decode jdk_42_method_149_code 42 = .ok (.aload 5, 2) := by decide +kernel
theorem d2_44 : decode jdk_42_method_149_code 44 = .ok (.iload_n 3, 1) := by decide +kernel
theorem d2_45 : decode jdk_42_method_149_code 45 = .ok (.invokestatic 47, 3) := by decide +kernel
theorem d2_48 : decode jdk_42_method_149_code 48 = .ok (.putfield 15, 3) := by decide +kernel
theorem d2_51 : decode jdk_42_method_149_code 51 = .ok (.aload_n 0, 1) := by decide +kernel
theorem d2_52 : decode jdk_42_method_149_code 52 = .ok (.aload 5, 2) := by decide +kernel
theorem d2_54 : decode jdk_42_method_149_code 54 = .ok (.putfield 9, 3) := by decide +kernel
theorem d2_57 : decode jdk_42_method_149_code 57 = .ok (.return_, 1) := by decide +kernel
set_option maxRecDepth 65536 in
set_option maxHeartbeats 40000000 in
theorem rm2_2 (Z : State) (a0 : Array Value) (hw : ∀ d ∈ tables_1, d.before a0 Z = true) (a1 a2 : Addr) (zC : Int32) (c0 c1 : Int32) (h0 : Heap) (n0 : Nat) (Z0 : n0 ≤ h0.size) (g1 : n0 ≤ a1) (S_COMPACT : Sta Z h0 "java/lang/String" "COMPACT_STRINGS" "Z" (.int zC)) (hC : ¬ (zC = (0 : Int32))) (E1 : Exa Z h0 a1 "java/lang/String") (F1 : Fld Z h0 a1 "java/lang/String" "value" "[B" .null) (F2 : Fld Z h0 a1 "java/lang/String" "coder" "B" (.int (0 : Int32))) (A2 : Arf Z h0 a2 .char 2 (own_arr [c0, c1])) (hp0 : ¬ ((255 : Int32) < c0)) (hp1 : ¬ ((255 : Int32) < c1)) :
    Con Z n0 (⟨"java/lang/String", "<init>", "([CIILjava/lang/Void;)V"⟩ : MethodName) jdk_42_method_149_code 6 none [] ({ frames := 2, cells := 1, slots := 2, locals := 35 } : Room) #[(.ref a1), (.ref a2), (.int (0 : Int32)), (.int (2 : Int32)), .null] h0 (fun v h => v = none ∧ Keep h0 h [a1] ∧ Fld Z h a1 "java/lang/String" "coder" "B" (.int (0 : Int32)) ∧ ∃ t, n0 ≤ t ∧ h0.size ≤ t ∧ Fld Z h a1 "java/lang/String" "value" "[B" (.ref t) ∧ Arf Z h t .byte 2 (own_arr [(c0.toInt8.toInt32), (c1.toInt8.toInt32)]) ∧ Exa Z h t "[B") := by
  refine Con.intro (L0 := #[.val (.ref a1), .val (.ref a2), .val (.int (0 : Int32)), .val (.int (2 : Int32)), .val .null, .unset]) (plainFor_of_name (by first | (simp [plainName, overriddenIn]; done) | decide +kernel)) (fun m => by first | (simp [entryFrame, mkF, argsToLocals, Value.category]; done) | rfl) ?_
  intro C k
  replace k := k.aloadN d2_0 rfl rfl
  replace k := k.initO (W := 0) d2_1 (hw _ (List.mem_of_getElem? (i := 12) rfl)) (hw _ (List.mem_of_getElem? (i := 13) rfl)) (hw _ (List.mem_of_getElem? (i := 14) rfl)) rfl rfl (by decide) (by decide)
  replace k := k.iloadN d2_4 rfl
  replace k := k.ifYes (pc' := 27) d2_5 (by decide) (by decide) (by decide)
  replace k := k.getS d2_27 (host := "") (Or.inl (hw _ (List.mem_of_getElem? (i := 15) rfl))) Via.refl S_COMPACT
  replace k := k.ifNo d2_30 (feq hC).1
  replace k := k.aloadN d2_33 rfl rfl
  replace k := k.iloadN d2_34 rfl
  replace k := k.iloadN d2_35 rfl
  obtain ⟨_, hy101, ⟨by101, rfl, Ky101, gby101, zby101, Ay101, Ey101⟩, k⟩ := k.callS (y := (⟨"java/lang/StringUTF16", "compress", "([CII)[B"⟩ : MethodName)) d2_36 (hw _ (List.mem_of_getElem? (i := 16) rfl)) (hw _ (List.mem_of_getElem? (i := 17) rfl)) (hw _ (List.mem_of_getElem? (i := 18) rfl)) (hw _ (List.mem_of_getElem? (i := 19) rfl)) (W := 0) (argsL := [(.ref a2), (.int (0 : Int32)), (.int (2 : Int32))]) (rest := []) (rm4_2 Z a0 hw a2 c0 c1 h0 n0 Z0 A2 hp0 hp1) rfl (pd_1) rfl rfl rfl (by decide) (by decide) (by decide) (by decide) (by decide)
  have Kc102 : Keep h0 hy101 [a1] := (Keep.refl h0 ([a1] : List Addr)).trans Ky101 all0
  replace k := k.stk [(.ref by101)] rfl
  replace k := k.astore #[.val (.ref a1), .val (.ref a2), .val (.int (0 : Int32)), .val (.int (2 : Int32)), .val .null, .val (.ref by101)] d2_39 rfl rfl
  replace k := k.aloadN d2_41 rfl rfl
  replace k := k.aload d2_42 rfl rfl
  replace k := k.iloadN d2_44 rfl
  obtain ⟨_, _, ⟨rfl, rfl⟩, k⟩ := k.callS (y := (⟨"java/lang/StringUTF16", "coderFromArrayLen", "([BI)B"⟩ : MethodName)) d2_45 (hw _ (List.mem_of_getElem? (i := 24) rfl)) (hw _ (List.mem_of_getElem? (i := 25) rfl)) (hw _ (List.mem_of_getElem? (i := 18) rfl)) (hw _ (List.mem_of_getElem? (i := 26) rfl)) (W := 1) (argsL := [(.ref by101), (.int (2 : Int32))]) (rest := [(.ref a1)]) (rm6_2 Z a0 hw by101 _ hy101 n0 Ay101) rfl (pd_2) rfl rfl rfl (by decide) (by decide) (by decide) (by decide) (by decide)
  replace k := k.stk [(.int (0 : Int32)), (.ref a1)] rfl
  obtain ⟨h103, W103, k⟩ := k.putF d2_48 (host := "") (Or.inl (hw _ (List.mem_of_getElem? (i := 27) rfl))) Via.refl (F2.keep Ky101 nin0) (E1.keep Ky101) (Or.inr ⟨(hw _ (List.mem_of_getElem? (i := 28) rfl)), rfl, rfl⟩) (hw _ (List.mem_of_getElem? (i := 3) rfl)) (ty := .byte) (by decide) rfl rfl g1
  have Fw103 := Fld.same W103 (F2.keep Ky101 nin0)
  have K103 : Keep h0 h103 [a1] := Kc102.wr W103 (Or.inl (List.mem_of_getElem? (i := 0) rfl))
  replace k := k.aloadN d2_51 rfl rfl
  replace k := k.aload d2_52 rfl rfl
  obtain ⟨h104, W104, k⟩ := k.putF d2_54 (host := "") (Or.inl (hw _ (List.mem_of_getElem? (i := 29) rfl))) Via.refl (Fld.other W103 (F1.keep Ky101 nin0) (Or.inr (slot_ne (Or.inr (hw _ (List.mem_of_getElem? (i := 30) rfl))) (Or.inr (hw _ (List.mem_of_getElem? (i := 28) rfl))) (by decide) (t := (.array .byte)) (t' := .byte) (by decide) (by decide)))) (Exa.wr W103 (E1.keep Ky101)) (Or.inr ⟨(hw _ (List.mem_of_getElem? (i := 30) rfl)), rfl, rfl⟩) (hw _ (List.mem_of_getElem? (i := 3) rfl)) (ty := (.array .byte)) (by decide) rfl rfl g1
  have Fw104 := Fld.same W104 (Fld.other W103 (F1.keep Ky101 nin0) (Or.inr (slot_ne (Or.inr (hw _ (List.mem_of_getElem? (i := 30) rfl))) (Or.inr (hw _ (List.mem_of_getElem? (i := 28) rfl))) (by decide) (t := (.array .byte)) (t' := .byte) (by decide) (by decide))))
  have K104 : Keep h0 h104 [a1] := K103.wr W104 (Or.inl (List.mem_of_getElem? (i := 0) rfl))
  exact k.vret d2_57 rfl ⟨rfl, K104, (Fld.other W104 Fw103 (Or.inr (slot_ne (Or.inr (hw _ (List.mem_of_getElem? (i := 28) rfl))) (Or.inr (hw _ (List.mem_of_getElem? (i := 30) rfl))) (by decide) (t := .byte) (t' := (.array .byte)) (by decide) (by decide)))), by101, gby101, zby101, Fw104, ((Ay101.other W103 (Ne.symm (Nat.ne_of_lt (Nat.lt_of_lt_of_le E1.lt zby101)))).other W104 (Ne.symm (Nat.ne_of_lt (Nat.lt_of_lt_of_le E1.lt zby101)))), (Exa.wr W104 (Exa.wr W103 Ey101))⟩ (by decide) (by decide)

theorem d1_0 : decode jdk_42_method_3_code 0 = .ok (.aload_n 0, 1) := by decide +kernel
theorem d1_1 : decode jdk_42_method_3_code 1 = .ok (.aload_n 1, 1) := by decide +kernel
theorem d1_2 : decode jdk_42_method_3_code 2 = .ok (.iconst 0, 1) := by decide +kernel
theorem d1_3 : decode jdk_42_method_3_code 3 = .ok (.aload_n 1, 1) := by decide +kernel
theorem d1_4 : decode jdk_42_method_3_code 4 = .ok (.arraylength, 1) := by decide +kernel
theorem d1_5 : decode jdk_42_method_3_code 5 = .ok (.aconst_null, 1) := by decide +kernel
theorem d1_6 : decode jdk_42_method_3_code 6 = .ok (.invokespecial 27, 3) := by decide +kernel
theorem d1_9 : decode jdk_42_method_3_code 9 = .ok (.return_, 1) := by decide +kernel
set_option maxRecDepth 65536 in
set_option maxHeartbeats 40000000 in
theorem rm1_2 (Z : State) (a0 : Array Value) (hw : ∀ d ∈ tables_1, d.before a0 Z = true) (a1 a2 : Addr) (zC : Int32) (c0 c1 : Int32) (h0 : Heap) (n0 : Nat) (Z0 : n0 ≤ h0.size) (g1 : n0 ≤ a1) (S_COMPACT : Sta Z h0 "java/lang/String" "COMPACT_STRINGS" "Z" (.int zC)) (hC : ¬ (zC = (0 : Int32))) (E1 : Exa Z h0 a1 "java/lang/String") (F1 : Fld Z h0 a1 "java/lang/String" "value" "[B" .null) (F2 : Fld Z h0 a1 "java/lang/String" "coder" "B" (.int (0 : Int32))) (A2 : Arf Z h0 a2 .char 2 (own_arr [c0, c1])) (hp0 : ¬ ((255 : Int32) < c0)) (hp1 : ¬ ((255 : Int32) < c1)) :
    Con Z n0 (⟨"java/lang/String", "<init>", "([C)V"⟩ : MethodName) jdk_42_method_3_code 2 none [] ({ frames := 3, cells := 1, slots := 2, locals := 52 } : Room) #[(.ref a1), (.ref a2)] h0 (fun v h => v = none ∧ Keep h0 h [a1] ∧ Fld Z h a1 "java/lang/String" "coder" "B" (.int (0 : Int32)) ∧ ∃ t, n0 ≤ t ∧ h0.size ≤ t ∧ Fld Z h a1 "java/lang/String" "value" "[B" (.ref t) ∧ Arf Z h t .byte 2 (own_arr [(c0.toInt8.toInt32), (c1.toInt8.toInt32)]) ∧ Exa Z h t "[B") := by
  refine Con.intro (L0 := #[.val (.ref a1), .val (.ref a2)]) (plainFor_of_name (by first | (simp [plainName, overriddenIn]; done) | decide +kernel)) (fun m => by first | (simp [entryFrame, mkF, argsToLocals, Value.category]; done) | rfl) ?_
  intro C k
  replace k := k.aloadN d1_0 rfl rfl
  replace k := k.aloadN d1_1 rfl rfl
  replace k := k.iconst (0 : Int32) d1_2 rfl
  replace k := k.aloadN d1_3 rfl rfl
  replace k := k.arrlen d1_4 A2 (2 : Int32) (by decide)
  replace k := k.aconstNull d1_5
  obtain ⟨_, hx101, ⟨rfl, Kx101, Px101⟩, k⟩ := k.callI (y := (⟨"java/lang/String", "<init>", "([CIILjava/lang/Void;)V"⟩ : MethodName)) (a := a1) d1_6 rfl (hw _ (List.mem_of_getElem? (i := 8) rfl)) (hw _ (List.mem_of_getElem? (i := 9) rfl)) (hw _ (List.mem_of_getElem? (i := 4) rfl)) (hw _ (List.mem_of_getElem? (i := 11) rfl)) (W := 0) (argsL := [(.ref a2), (.int (0 : Int32)), (.int (2 : Int32)), .null]) (rest := []) (rm2_2 Z a0 hw a1 a2 zC c0 c1 h0 n0 Z0 g1 S_COMPACT hC E1 F1 F2 A2 hp0 hp1) rfl (pd_3) rfl rfl rfl (by decide) (by decide) (by decide) (by decide) (by decide)
  have Kc102 : Keep h0 hx101 [a1] := (Keep.refl h0 ([a1] : List Addr)).trans Kx101 (allS (Or.inl (List.mem_of_getElem? (i := 0) rfl)) all0)
  replace k := k.stk [] rfl
  exact k.vret d1_9 rfl ⟨rfl, Kx101, Px101⟩ (by decide) (by decide)

theorem ef_rm7 (m : MethodId) (x0 : UInt64) (x1 : Addr) (x2 : UInt64) (x3 : UInt64) : entryFrame m #[(.double x0), (.ref x1), (.double x2), (.double x3)] 9 = mkF m 0 #[.val (.double x0), .second, .val (.ref x1), .val (.double x2), .second, .val (.double x3), .second, .unset, .unset] [] := by first | (simp [entryFrame, mkF, argsToLocals, Value.category]; done) | rfl
theorem d7_0 : decode prog_21_method_5_code 0 = .ok (.dload_n 0, 1) := by decide +kernel
theorem d7_1 : decode prog_21_method_5_code 1 = .ok (.dload_n 3, 1) := by decide +kernel
theorem d7_2 : decode prog_21_method_5_code 2 = .ok (.dadd, 1) := by decide +kernel
theorem d7_3 : decode prog_21_method_5_code 3 = .ok (.dstore 7, 2) := by decide +kernel
theorem d7_5 : decode prog_21_method_5_code 5 = .ok (.dload 7, 2) := by decide +kernel
theorem d7_7 : decode prog_21_method_5_code 7 = .ok (.dload 5, 2) := by decide +kernel
theorem d7_9 : decode prog_21_method_5_code 9 = .ok (.dcmp .l, 1) := by decide +kernel
theorem d7_10 : decode prog_21_method_5_code 10 = .ok (.ifCond .le 20, 3) := by decide +kernel
theorem d7_30 : decode prog_21_method_5_code 30 = .ok (.dload 7, 2) := by decide +kernel
theorem d7_32 : decode prog_21_method_5_code 32 = .ok (.dreturn, 1) := by decide +kernel
set_option maxRecDepth 65536 in
set_option maxHeartbeats 40000000 in
theorem rm7 (Z : State) (a0 : Array Value) (hw : ∀ d ∈ tables_1, d.before a0 Z = true) (q1 q2 q3 : Int64) (a2 : Addr) (h0 : Heap) (n0 : Nat) (b1 : B53 q1) (b2 : B53 q2) (b3 : B53 q3) (b4 : B53 (q1 + q2)) (le : ¬ ((0 : Int32) < lcmpW (q1 + q2) q3)) :
    Con Z n0 (⟨"com/example/tallyweir/tallyweir/summary/Points", "addToTotal", "(DLjava/lang/String;DD)D"⟩ : MethodName) prog_21_method_5_code 9 (some .double) [] ({ frames := 0, cells := 0, slots := 0, locals := 0 } : Room) #[(.double (FP.l2d q1)), (.ref a2), (.double (FP.l2d q2)), (.double (FP.l2d q3))] h0 (fun v h => v = some (.double (FP.l2d (q1 + q2))) ∧ h0 = h) := by
  refine Con.intro (L0 := #[.val (.double (FP.l2d q1)), .second, .val (.ref a2), .val (.double (FP.l2d q2)), .second, .val (.double (FP.l2d q3)), .second, .unset, .unset]) (plainFor_of_name (by first | (simp [plainName, overriddenIn]; done) | decide +kernel)) (fun m => ef_rm7 m (FP.l2d q1) a2 (FP.l2d q2) (FP.l2d q3)) ?_
  intro C k
  replace k := k.dloadN d7_0 rfl
  replace k := k.dloadN d7_1 rfl
  replace k := k.dadd (FP.l2d (q1 + q2)) d7_2 (nn_w (dadd_w b1 b2)) (dadd_w b1 b2)
  replace k := k.dstore #[.val (.double (FP.l2d q1)), .second, .val (.ref a2), .val (.double (FP.l2d q2)), .second, .val (.double (FP.l2d q3)), .second, .val (.double (FP.l2d (q1 + q2))), .second] d7_3 rfl
  replace k := k.dload d7_5 rfl
  replace k := k.dload d7_7 rfl
  replace k := k.dcmp (lcmpW (q1 + q2) q3) d7_9 (dcmpV_w b4 b3 _)
  replace k := k.ifYes (pc' := 30) d7_10 (flt le).2.2.2 (by decide) (by decide)
  replace k := k.dload d7_30 rfl
  exact k.dret d7_32 rfl ⟨rfl, rfl⟩ (by decide) (by decide)

set_option maxRecDepth 65536 in
set_option maxHeartbeats 40000000 in
theorem rm0 (Z : State) (a0 : Array Value) (hw : ∀ d ∈ tables_1, d.before a0 Z = true) (p1 p2 p3 p4 zC : Int32) (h0 : Heap) (n0 : Nat) (Z0 : n0 ≤ h0.size) (S_COMPACT : Sta Z h0 "java/lang/String" "COMPACT_STRINGS" "Z" (.int zC)) (hC : ¬ (zC = (0 : Int32))) :
    Con Z n0 x code maxLocals ret tables_1 room_1 #[(.int p1), (.int p2), (.int p3), (.int p4)] h0 (fun v h => v = some (.int (1 : Int32))) := by
  refine Con.intro (L0 := #[.val (.int p1), .val (.int p2), .val (.int p3), .val (.int p4), .unset, .unset, .unset, .unset, .unset, .unset, .unset, .unset, .unset, .unset]) (plainFor_of_name (by first | (simp [plainName, overriddenIn]; done) | decide +kernel)) (fun m => by first | (simp [entryFrame, mkF, argsToLocals, Value.category, maxLocals]; done) | rfl) ?_
  intro C k
  replace k := k.iloadN at_0 rfl
  replace k := k.i2l at_1
  replace k := k.iloadN at_2 rfl
  replace k := k.i2l at_3
  replace k := k.ladd at_4
  replace k := k.lstore #[.val (.int p1), .val (.int p2), .val (.int p3), .val (.int p4), .val (.long ((p1.toInt64) + (p2.toInt64))), .second, .unset, .unset, .unset, .unset, .unset, .unset, .unset, .unset] at_5 rfl
  replace k := k.lload at_7 rfl
  replace k := k.iloadN at_9 rfl
  replace k := k.ldcInt at_10 (hw _ (List.mem_of_getElem? (i := 0) rfl))
  replace k := k.iand at_12
  replace k := k.i2l at_13
  replace k := k.ladd at_14
  replace k := k.lstore #[.val (.int p1), .val (.int p2), .val (.int p3), .val (.int p4), .val (.long ((p1.toInt64) + (p2.toInt64))), .second, .val (.long (((p1.toInt64) + (p2.toInt64)) + ((p3 &&& (65535 : Int32)).toInt64))), .second, .unset, .unset, .unset, .unset, .unset, .unset] at_15 rfl
  replace k := k.lload at_17 rfl
  replace k := k.l2d (FP.l2d (((p1.toInt64) + (p2.toInt64)) + ((p3 &&& (65535 : Int32)).toInt64))) at_19 rfl
  replace k := k.dstore #[.val (.int p1), .val (.int p2), .val (.int p3), .val (.int p4), .val (.long ((p1.toInt64) + (p2.toInt64))), .second, .val (.long (((p1.toInt64) + (p2.toInt64)) + ((p3 &&& (65535 : Int32)).toInt64))), .second, .val (.double (FP.l2d (((p1.toInt64) + (p2.toInt64)) + ((p3 &&& (65535 : Int32)).toInt64)))), .second, .unset, .unset, .unset, .unset] at_20 rfl
  replace k := k.iconst (2 : Int32) at_22 rfl
  obtain ⟨h101, b101, g101, E101, A101, X101, k⟩ := k.newarr (ad := "[C") at_23 (hw _ (List.mem_of_getElem? (i := 1) rfl)) (by decide) 2 (by decide) 2 (by decide) (by decide) (by decide) (by decide) (by decide)
  have ge_b101 : n0 ≤ b101 := Nat.le_trans Z0 (Nat.le_of_eq g101.symm)
  replace k := k.astore #[.val (.int p1), .val (.int p2), .val (.int p3), .val (.int p4), .val (.long ((p1.toInt64) + (p2.toInt64))), .second, .val (.long (((p1.toInt64) + (p2.toInt64)) + ((p3 &&& (65535 : Int32)).toInt64))), .second, .val (.double (FP.l2d (((p1.toInt64) + (p2.toInt64)) + ((p3 &&& (65535 : Int32)).toInt64)))), .second, .val (.ref b101), .unset, .unset, .unset] at_25 rfl rfl
  replace k := k.aload at_27 rfl rfl
  replace k := k.iconst (0 : Int32) at_29 rfl
  replace k := k.iloadN at_30 rfl
  replace k := k.sipush (255 : Int32) at_31 rfl
  replace k := k.iand at_34
  replace k := k.i2c at_35
  obtain ⟨h102, W102, A102, k⟩ := k.castore at_36 A101 0 (by decide) (by decide) (by decide) ge_b101 ((p4 &&& (255 : Int32)).toUInt32.toUInt16.toUInt32.toInt32) (own_i2c _)
  replace k := k.aload at_37 rfl rfl
  replace k := k.iconst (1 : Int32) at_39 rfl
  replace k := k.iloadN at_40 rfl
  replace k := k.bipush (8 : Int32) at_41 rfl
  replace k := k.iushr at_43
  replace k := k.sipush (255 : Int32) at_44 rfl
  replace k := k.iand at_47
  replace k := k.i2c at_48
  obtain ⟨h103, W103, A103, k⟩ := k.castore at_49 A102 1 (by decide) (by decide) (by decide) ge_b101 ((((p4.toUInt32 >>> ((8 : Int32) &&& 31).toUInt32).toInt32) &&& (255 : Int32)).toUInt32.toUInt16.toUInt32.toInt32) (own_i2c _)
  obtain ⟨h104, b104, g104, E104, A104, D104, k⟩ := k.newO at_50 (hw _ (List.mem_of_getElem? (i := 2) rfl)) (hw _ (List.mem_of_getElem? (i := 3) rfl)) (hw _ (List.mem_of_getElem? (i := 4) rfl)) (by decide) (by decide)
  have ge_b104 : n0 ≤ b104 := Nat.le_trans (Nat.le_trans (Nat.le_trans (Nat.le_trans Z0 E101.1) (Nat.le_of_eq (Wr.size W102).symm)) (Nat.le_of_eq (Wr.size W103).symm)) (Nat.le_of_eq g104.symm)
  have F_coder_b104 : Fld Z h104 b104 "java/lang/String" "coder" "B" (.int (0 : Int32)) := D104 (Or.inr (hw _ (List.mem_of_getElem? (i := 28) rfl))) (ty := .byte) (by decide)
  have F_value_b104 : Fld Z h104 b104 "java/lang/String" "value" "[B" .null := D104 (Or.inr (hw _ (List.mem_of_getElem? (i := 30) rfl))) (ty := (.array .byte)) (by decide)
  replace k := k.dup at_53 rfl
  replace k := k.aload at_54 rfl rfl
  obtain ⟨_, hs105, ⟨rfl, Ks105, Fcs105, ts105, gts105, zts105, Fvs105, Ats105, Ets105⟩, k⟩ := k.callI (y := (⟨"java/lang/String", "<init>", "([C)V"⟩ : MethodName)) (a := b104) at_56 rfl (hw _ (List.mem_of_getElem? (i := 5) rfl)) (hw _ (List.mem_of_getElem? (i := 6) rfl)) (hw _ (List.mem_of_getElem? (i := 4) rfl)) (hw _ (List.mem_of_getElem? (i := 7) rfl)) (W := 1) (argsL := [(.ref b101)]) (rest := [(.ref b104)]) (rm1_2 Z a0 hw b104 b101 zC ((p4 &&& (255 : Int32)).toUInt32.toUInt16.toUInt32.toInt32) ((((p4.toUInt32 >>> ((8 : Int32) &&& 31).toUInt32).toInt32) &&& (255 : Int32)).toUInt32.toUInt16.toUInt32.toInt32) h104 n0 (Nat.le_trans (Nat.le_trans (Nat.le_trans (Nat.le_trans Z0 E101.1) (Nat.le_of_eq (Wr.size W102).symm)) (Nat.le_of_eq (Wr.size W103).symm)) E104.1) ge_b104 (Sta.ext E104 (Sta.wr W103 (Sta.wr W102 (Sta.ext E101 S_COMPACT)))) hC A104 F_value_b104 F_coder_b104 ((A103.ext E104).congr (fun i hi => own_cg2 i hi)) (own_c _) (own_c _)) rfl (pd_4) rfl rfl rfl (by decide) (by decide) (by decide) (by decide) (by decide)
  replace k := k.stk [(.ref b104)] rfl
  replace k := k.astore #[.val (.int p1), .val (.int p2), .val (.int p3), .val (.int p4), .val (.long ((p1.toInt64) + (p2.toInt64))), .second, .val (.long (((p1.toInt64) + (p2.toInt64)) + ((p3 &&& (65535 : Int32)).toInt64))), .second, .val (.double (FP.l2d (((p1.toInt64) + (p2.toInt64)) + ((p3 &&& (65535 : Int32)).toInt64)))), .second, .val (.ref b101), .val (.ref b104), .unset, .unset] at_59 rfl rfl
  replace k := k.iloadN at_61 rfl
  replace k := k.i2d (FP.l2d p1.toInt64) at_62 (i2d_w _)
  replace k := k.aload at_63 rfl rfl
  replace k := k.iloadN at_65 rfl
  replace k := k.i2d (FP.l2d p2.toInt64) at_66 (i2d_w _)
  replace k := k.dload at_67 rfl
  obtain ⟨_, _, ⟨rfl, rfl⟩, k⟩ := k.callS (y := (⟨"com/example/tallyweir/tallyweir/summary/Points", "addToTotal", "(DLjava/lang/String;DD)D"⟩ : MethodName)) at_69 (hw _ (List.mem_of_getElem? (i := 31) rfl)) (hw _ (List.mem_of_getElem? (i := 32) rfl)) (hw _ (List.mem_of_getElem? (i := 33) rfl)) (hw _ (List.mem_of_getElem? (i := 34) rfl)) (W := 0) (argsL := [(.double (FP.l2d p1.toInt64)), (.ref b104), (.double (FP.l2d p2.toInt64)), (.double (FP.l2d (((p1.toInt64) + (p2.toInt64)) + ((p3 &&& (65535 : Int32)).toInt64))))]) (rest := []) (rm7 Z a0 hw p1.toInt64 p2.toInt64 ((p1.toInt64 + p2.toInt64) + (p3 &&& (65535 : Int32)).toInt64) b104 hs105 n0 (own_b1 _) (own_b1 _) (own_b3 _ _ _) (own_b2 _ _) (own_le _ _ _)) rfl (pd_5) rfl rfl rfl (by decide) (by decide) (by decide) (by decide) (by decide)
  replace k := k.stk [(.double (FP.l2d (p1.toInt64 + p2.toInt64)))] rfl
  replace k := k.dstore #[.val (.int p1), .val (.int p2), .val (.int p3), .val (.int p4), .val (.long ((p1.toInt64) + (p2.toInt64))), .second, .val (.long (((p1.toInt64) + (p2.toInt64)) + ((p3 &&& (65535 : Int32)).toInt64))), .second, .val (.double (FP.l2d (((p1.toInt64) + (p2.toInt64)) + ((p3 &&& (65535 : Int32)).toInt64)))), .second, .val (.ref b101), .val (.ref b104), .val (.double (FP.l2d (p1.toInt64 + p2.toInt64))), .second] at_72 rfl
  replace k := k.dload at_74 rfl
  replace k := k.lload at_76 rfl
  replace k := k.l2d (FP.l2d ((p1.toInt64) + (p2.toInt64))) at_78 rfl
  replace k := k.dcmp (0 : Int32) at_79 (dcmpV_self (nn_w rfl) _)
  replace k := k.ifNo at_80 (by decide)
  replace k := k.dload at_83 rfl
  replace k := k.dload at_85 rfl
  replace k := k.dcmp (lcmpW (p1.toInt64 + p2.toInt64) ((p1.toInt64 + p2.toInt64) + (p3 &&& (65535 : Int32)).toInt64)) at_87 (dcmpV_w (own_b2 _ _) (own_b3 _ _ _) _)
  replace k := k.ifNo at_88 (flt (own_le _ _ _)).2.2.1
  replace k := k.iconst (1 : Int32) at_91 rfl
  replace k := k.goto (pc' := 96) at_92 (by decide) (by decide)
  exact k.iret at_96 rfl (by simp) rfl rfl (by decide) (by decide)
set_option maxRecDepth 65536 in
set_option maxHeartbeats 40000000 in
theorem comes_1 {Post : Tables → Env → Array Value → State → Outcome → State → Prop} (hpost : ∀ tb e args s v u, (limb_1_1.after args s (.returned v) u = true ∧ limb_1_2.after args s (.returned v) u = true ∧ True) → FrameEnd s (.returned v) u (Jvm.fieldLocs frame_1_writes args s ++ Jvm.arrayLocs frame_1_arrays args s ++ Jvm.staticLocs frame_1_statics s) 16 128 → Post tb e args s (.returned v) u) :
    ArmFor flags0 classFile x code maxLocals ret World_1 tables_1 room_1 Calls_1 rest_1 Pre_1 Post := by
  intro l hfl _ _ p e ha hc hk s m args below hf hA hF happ hP
  obtain ⟨hcalls, hrest, hpre⟩ := hP
  obtain ⟨-, -, -, hnamed, -, -, -, hat⟩ := (Spec.applies_iff hf).mp happ
  obtain ⟨hg, hn⟩ := and_e (Cond.before_iff.mp (show (Jvm.Cond.and given_1 narrow_1).before args s = true from hpre))
  obtain ⟨gg0, gr0⟩ := and_e hg
  obtain ⟨gg1, gr1⟩ := and_e gr0
  obtain ⟨gg2, gr2⟩ := and_e gr1
  obtain ⟨gg3, gr3⟩ := and_e gr2
  obtain ⟨w0, w1, w2, w3, rfl⟩ : ∃ w0 w1 w2 w3 : Value, args = #[w0, w1, w2, w3] := by
    have hs : args.size = 4 := by simpa [Cond.value, given_1] using gg0
    obtain ⟨L⟩ := args
    match L, hs with
    | [w0, w1, w2, w3], _ => exact ⟨w0, w1, w2, w3, rfl⟩
  have hw := fun d (hd : d ∈ tables_1) => atoms_spec (ws := Jvm.Cond.code x code maxLocals ret :: tables_1) hat d (List.mem_cons_of_mem _ hd)
  have hfit : Fit s := fun {y c} hc i hi => by
    obtain ⟨ha, rfl⟩ := Array.getElem?_eq_some_iff.mp hc
    have q := List.all_eq_true.mp ((Array.all_eq_true_iff_forall_mem.mp hF) _ (Array.getElem_mem ha)) i (List.mem_range.mpr hi)
    simpa [Array.getElem?_eq_getElem hi] using q
  obtain ⟨hsets, hown0⟩ := atoms_of _ (rest_1_c_eq ▸ (show rest_1_c.before _ s = true from hrest))
  have hr0 := Cond.before_iff.mp hown0
  obtain ⟨i0, ei0⟩ := is_v gg1
  obtain rfl : w0 = (.int i0) := Option.some.inj ei0
  obtain ⟨i1, ei1⟩ := is_v gg2
  obtain rfl : w1 = (.int i1) := Option.some.inj ei1
  obtain ⟨i2, ei2⟩ := is_v gg3
  obtain rfl : w2 = (.int i2) := Option.some.inj ei2
  obtain ⟨i3, ei3⟩ := is_v gr3
  obtain rfl : w3 = (.int i3) := Option.some.inj ei3
  have cs1 := Cond.before_iff.mp (hsets _ (List.mem_of_getElem? (i := 1) rfl))
  obtain ⟨zC, evC⟩ := is_v cs1
  have S_COMPACT : Sta s s.heap "java/lang/String" "COMPACT_STRINGS" "Z" (.int zC) := Sta.start evC (Or.inl (hsets _ (List.mem_of_getElem? (i := 0) rfl)))
  have hC : ¬ (zC = (0 : Int32)) := own_ne0 evC (not_v (Cond.before_iff.mp (hsets _ (List.mem_of_getElem? (i := 2) rfl))))
  obtain ⟨n, o, h1, h2, h3, _, L, rfl, ⟨rfl, N⟩, hq⟩ := rm0 s _ hw i0 i1 i2 i3 zC s.heap s.heap.size (Nat.le_refl _) S_COMPACT hC l p e ha hc hk s m _ below hf ((Spec.applies_iff_loose hf).mp happ).1 ⟨rfl, State.Warmed39.refl s, rfl⟩ trivial
  refine ⟨n, _, h1, h2, h3, hpost _ _ _ _ _ _ ⟨Cond.after_iff.mpr rfl, Cond.after_iff.mpr (eq_i res_at (Term.int_eval (1)) rfl), trivial⟩ ⟨hq.1, hq.2.1, (hq.2.2.sift fun y hy => Or.inr (N y hy)).mono (by decide) (by decide)⟩⟩
theorem main_1_1 : Claimed_1_1 := comes_1 fun _ _ _ _ _ _ h hF => ⟨h.1, hF⟩
theorem main_1_2 : Claimed_1_2 := comes_1 fun _ _ _ _ _ _ h hF => ⟨h.2.1, hF⟩
end Jvm.Pilot.@@N@@
namespace Jvm.Pilot.@@N@@
open Jvm Jvm.ClassFile Sem Op Lib Jvm.Free Jvm.Stand Jvm.Pilot.@@N@@.Jvm.D
/-! MADE BY PROGRAM (witnessworld.py) out of the Statement's table words and the real class files: 20 classes; the members and pool entries that the words name. The judged class is class 1, her method 1. -/
namespace start1
open Jvm.ClassFile
def u (s : String) : CpInfo := .utf8 (stringToUtf16 s)
/-- a pool by its gaps: so many unusable entries, then the entry; so many at the end -/
def gap : Nat → List CpInfo → List CpInfo
  | 0, r => r
  | n + 1, r => .unusable :: gap n r
def poolList (es : List (Nat × CpInfo)) (last : Nat) : List CpInfo := es.foldr (fun e r => gap e.1 (e.2 :: r)) (gap last [])
def pool (es : List (Nat × CpInfo)) (last : Nat) : Array CpInfo := ⟨poolList es last⟩
def fileOf (pool : Array CpInfo) (this : Nat) (attrs : Array Attribute := #[]) (ms : Array MethodInfo := #[]) (fl : Nat := 33) (sup : Nat := 0) (ifs : Array Nat := #[]) (fds : Array FieldInfo := #[]) : ClassFile where
  minorVersion := 0
  majorVersion := 65
  constantPool := pool
  accessFlags := fl
  thisClass := this
  superClass := sup
  interfaces := ifs
  fields := fds
  methods := ms
  attributes := attrs
def plain (name : String) (sup : Option ClassId) : Class where
  name := name
  kind := .ordinary
  loader := none
  accessFlags := 33
  super := sup
  interfaces := #[]
  cf := none
  fields := #[]
  methods := #[]
  instanceTypes := #[]
  staticTypes := #[]
  resolved := #[]
  callSites := []
  init := .initialized
  statics := none
  mirror := none

def pool0 : Array CpInfo := pool [(5, u "<init>"), (0, u "()V"), (1, .class_ 10), (1, u "java/lang/Object")] 113

def k0c0 : Code := { maxStack := 0, maxLocals := 1, code := object_method_1_code, exceptionTable := #[], attributes := #[] }
def k0m0 : Method := { name := "<init>", desc := "()V", sig := { parameters := [], returnType := none }, accessFlags := 1, code := some k0c0 }
/-- java/lang/Object -/
def k0 : Class := { plain "java/lang/Object" none with
  accessFlags := 33
  interfaces := #[]
  cf := some (fileOf pool0 8 #[] #[{ accessFlags := 1, nameIndex := 5, descriptorIndex := 6, attributes := #[] }] 33 0 #[] #[])
  fields := #[]
  methods := #[k0m0]
  instanceTypes := #[]
  staticTypes := #[]
  resolved := Array.replicate 124 none
  statics := none }

def pool1 : Array CpInfo := pool [(2, .class_ 4), (1, u "java/lang/Object"), (0, u "<init>"), (0, u "()V"), (0, .integer 65535), (0, .class_ 9), (0, u "java/lang/String"), (0, .methodref 8 11), (0, .nameAndType 5 12), (0, u "([C)V"), (0, .methodref 14 15), (0, .class_ 16), (0, .nameAndType 17 18), (0, u "com/example/tallyweir/tallyweir/summary/Points"), (0, u "addToTotal"), (0, u "(DLjava/lang/String;DD)D"), (0, .class_ 20), (0, u "com/example/tallyweir/tallyweir/summary/PointsAddToTotalPinLaw"), (2, u "law"), (0, u "(IIII)Z")] 5

def k1m0 : Method := { name := "<init>", desc := "()V", sig := { parameters := [], returnType := none }, accessFlags := 2, code := none }
def k1c1 : Code := { maxStack := 7, maxLocals := 14, code := code, exceptionTable := #[], attributes := #[] }
def k1m1 : Method := { name := "law", desc := "(IIII)Z", sig := { parameters := [.int, .int, .int, .int], returnType := some .boolean }, accessFlags := 9, code := some k1c1 }
/-- com/example/tallyweir/tallyweir/summary/PointsAddToTotalPinLaw -/
def k1 : Class := { plain "com/example/tallyweir/tallyweir/summary/PointsAddToTotalPinLaw" (some 0) with
  accessFlags := 49
  interfaces := #[]
  cf := some (fileOf pool1 19 #[] #[{ accessFlags := 2, nameIndex := 5, descriptorIndex := 6, attributes := #[] }, { accessFlags := 9, nameIndex := 23, descriptorIndex := 24, attributes := #[] }] 49 2 #[] #[])
  fields := #[]
  methods := #[k1m0, k1m1]
  instanceTypes := #[]
  staticTypes := #[]
  resolved := Array.replicate 30 none
  statics := none }

def pool2 : Array CpInfo := pool [(1, .class_ 2), (0, u "java/io/Serializable"), (0, .class_ 4), (0, u "java/lang/Object")] 2

/-- java/io/Serializable -/
def k2 : Class := { plain "java/io/Serializable" (some 0) with
  accessFlags := 1537
  interfaces := #[]
  cf := some (fileOf pool2 1 #[] #[] 1537 3 #[] #[])
  fields := #[]
  methods := #[]
  instanceTypes := #[]
  staticTypes := #[]
  resolved := Array.replicate 7 none
  statics := none }

def pool3 : Array CpInfo := pool [(1, .class_ 2), (0, u "java/lang/Comparable"), (0, .class_ 4), (0, u "java/lang/Object")] 7

/-- java/lang/Comparable -/
def k3 : Class := { plain "java/lang/Comparable" (some 0) with
  accessFlags := 1537
  interfaces := #[]
  cf := some (fileOf pool3 1 #[] #[] 1537 3 #[] #[])
  fields := #[]
  methods := #[]
  instanceTypes := #[]
  staticTypes := #[]
  resolved := Array.replicate 12 none
  statics := none }

def pool4 : Array CpInfo := pool [(2, .class_ 4), (1, u "java/lang/CharSequence"), (42, .class_ 48), (0, u "java/lang/CharSequence$1CodePointIterator"), (10, .class_ 60), (0, u "java/lang/CharSequence$1CharIterator"), (5, .class_ 67), (0, u "java/lang/Object")] 63

/-- java/lang/CharSequence -/
def k4 : Class := { plain "java/lang/CharSequence" (some 0) with
  accessFlags := 1537
  interfaces := #[]
  cf := some (fileOf pool4 2 #[.nestMembers #[47, 59]] #[] 1537 66 #[] #[])
  fields := #[]
  methods := #[]
  instanceTypes := #[]
  staticTypes := #[]
  resolved := Array.replicate 131 none
  statics := none }

def pool5 : Array CpInfo := pool [(1, .class_ 2), (0, u "java/lang/constant/Constable"), (0, .class_ 4), (0, u "java/lang/Object")] 6

/-- java/lang/constant/Constable -/
def k5 : Class := { plain "java/lang/constant/Constable" (some 0) with
  accessFlags := 1537
  interfaces := #[]
  cf := some (fileOf pool5 1 #[] #[] 1537 3 #[] #[])
  fields := #[]
  methods := #[]
  instanceTypes := #[]
  staticTypes := #[]
  resolved := Array.replicate 11 none
  statics := none }

def pool6 : Array CpInfo := pool [(1, .class_ 2), (0, u "java/lang/constant/ConstantDesc"), (0, .class_ 4), (0, u "java/lang/Object")] 32

/-- java/lang/constant/ConstantDesc -/
def k6 : Class := { plain "java/lang/constant/ConstantDesc" (some 0) with
  accessFlags := 1537
  interfaces := #[]
  cf := some (fileOf pool6 1 #[] #[] 1537 3 #[] #[])
  fields := #[]
  methods := #[]
  instanceTypes := #[]
  staticTypes := #[]
  resolved := Array.replicate 37 none
  statics := none }

def pool7 : Array CpInfo := pool [(1, .methodref 2 3), (0, .class_ 4), (0, .nameAndType 5 6), (0, u "java/lang/Object"), (0, u "<init>"), (0, u "()V"), (2, .fieldref 10 11), (0, .class_ 12), (0, .nameAndType 13 14), (0, u "java/lang/String"), (0, u "value"), (0, u "[B"), (0, .fieldref 10 16), (0, .nameAndType 17 18), (0, u "coder"), (0, u "B"), (2, u "hash"), (0, u "I"), (2, u "hashIsZero"), (0, u "Z"), (0, .methodref 10 28), (0, .nameAndType 5 29), (0, u "([CIILjava/lang/Void;)V"), (8, .fieldref 10 39), (0, .nameAndType 40 26), (0, u "COMPACT_STRINGS"), (1, .class_ 44), (1, u "java/lang/StringUTF16"), (0, u "compress"), (1, .methodref 42 48), (0, .nameAndType 49 50), (0, u "coderFromArrayLen"), (0, u "([BI)B"), (126, .methodref 42 178), (0, .nameAndType 45 179), (0, u "([CII)[B"), (395, .class_ 576), (0, u "java/lang/CharSequence"), (22, u "CASE_INSENSITIVE_ORDER"), (0, u "Ljava/util/Comparator;"), (409, u "([C)V"), (90, u "serialPersistentFields"), (0, u "[Ljava/io/ObjectStreamField;"), (0, .class_ 1104), (0, u "java/lang/String$CaseInsensitiveComparator"), (1, .class_ 1107), (0, u "java/io/Serializable"), (0, .class_ 1109), (0, u "java/lang/Comparable"), (0, .class_ 1111), (0, u "java/lang/constant/Constable"), (0, .class_ 1113), (0, u "java/lang/constant/ConstantDesc"), (2, u "serialVersionUID"), (0, u "J"), (3, u "REPL"), (0, u "C"), (2, u "LATIN1"), (1, u "UTF16")] 323

def k7m0 : Method := { name := "<init>", desc := "()V", sig := { parameters := [], returnType := none }, accessFlags := 1, code := none }
def k7c1 : Code := { maxStack := 5, maxLocals := 2, code := jdk_42_method_3_code, exceptionTable := #[], attributes := #[] }
def k7m1 : Method := { name := "<init>", desc := "([C)V", sig := { parameters := [(.array .char)], returnType := none }, accessFlags := 1, code := some k7c1 }
def k7c2 : Code := { maxStack := 4, maxLocals := 6, code := jdk_42_method_149_code, exceptionTable := #[], attributes := #[] }
def k7m2 : Method := { name := "<init>", desc := "([CIILjava/lang/Void;)V", sig := { parameters := [(.array .char), .int, .int, (.object "java/lang/Void")], returnType := none }, accessFlags := 2, code := some k7c2 }
/-- java/lang/String -/
def k7 : Class := { plain "java/lang/String" (some 0) with
  accessFlags := 49
  interfaces := #[2, 3, 4, 5, 6]
  cf := some (fileOf pool7 10 #[.nestMembers #[1103]] #[{ accessFlags := 1, nameIndex := 5, descriptorIndex := 6, attributes := #[] }, { accessFlags := 1, nameIndex := 5, descriptorIndex := 1010, attributes := #[] }, { accessFlags := 2, nameIndex := 5, descriptorIndex := 29, attributes := #[] }] 49 2 #[1106, 1108, 575, 1110, 1112] #[{ accessFlags := 18, nameIndex := 13, descriptorIndex := 14, attributes := #[] }, { accessFlags := 18, nameIndex := 17, descriptorIndex := 18, attributes := #[] }, { accessFlags := 2, nameIndex := 21, descriptorIndex := 22, attributes := #[] }, { accessFlags := 2, nameIndex := 25, descriptorIndex := 26, attributes := #[] }, { accessFlags := 26, nameIndex := 1116, descriptorIndex := 1117, attributes := #[] }, { accessFlags := 24, nameIndex := 40, descriptorIndex := 26, attributes := #[] }, { accessFlags := 26, nameIndex := 1101, descriptorIndex := 1102, attributes := #[] }, { accessFlags := 26, nameIndex := 1121, descriptorIndex := 1122, attributes := #[] }, { accessFlags := 25, nameIndex := 599, descriptorIndex := 600, attributes := #[] }, { accessFlags := 24, nameIndex := 1125, descriptorIndex := 18, attributes := #[] }, { accessFlags := 24, nameIndex := 1127, descriptorIndex := 18, attributes := #[] }])
  fields := #[{ name := "value", type := (.array .byte), accessFlags := 18, slot := 0, constantValue := 0 }, { name := "coder", type := .byte, accessFlags := 18, slot := 1, constantValue := 0 }, { name := "hash", type := .int, accessFlags := 2, slot := 2, constantValue := 0 }, { name := "hashIsZero", type := .boolean, accessFlags := 2, slot := 3, constantValue := 0 }, { name := "serialVersionUID", type := .long, accessFlags := 26, slot := 0, constantValue := 0 }, { name := "COMPACT_STRINGS", type := .boolean, accessFlags := 24, slot := 1, constantValue := 0 }, { name := "serialPersistentFields", type := (.array (.object "java/io/ObjectStreamField")), accessFlags := 26, slot := 2, constantValue := 0 }, { name := "REPL", type := .char, accessFlags := 26, slot := 3, constantValue := 0 }, { name := "CASE_INSENSITIVE_ORDER", type := (.object "java/util/Comparator"), accessFlags := 25, slot := 4, constantValue := 0 }, { name := "LATIN1", type := .byte, accessFlags := 24, slot := 5, constantValue := 0 }, { name := "UTF16", type := .byte, accessFlags := 24, slot := 6, constantValue := 0 }]
  methods := #[k7m0, k7m1, k7m2]
  instanceTypes := #[(.array .byte), .byte, .int, .boolean]
  staticTypes := #[.long, .boolean, (.array (.object "java/io/ObjectStreamField")), .char, (.object "java/util/Comparator"), .byte, .byte]
  resolved := Array.replicate 1451 none
  statics := some 0 }

def pool8 : Array CpInfo := pool [(6, .class_ 8), (1, u "java/lang/Object"), (0, u "<init>"), (0, u "()V"), (1, .class_ 14), (1, u "java/lang/StringUTF16"), (31, u "$assertionsDisabled"), (0, u "Z"), (13, u "HI_BYTE_SHIFT"), (0, u "I"), (2, u "LO_BYTE_SHIFT"), (49, .methodref 12 116), (0, .nameAndType 117 118), (0, u "compress"), (0, u "([CI[BII)I"), (3, u "([CII)[B"), (138, u "coderFromArrayLen"), (0, u "([BI)B"), (106, .class_ 371), (1, u "java/lang/StringUTF16$LinesSpliterator"), (58, u "MAX_LENGTH"), (196, .class_ 628), (0, u "java/lang/StringUTF16$CodePointsSpliterator"), (0, .class_ 630), (0, u "java/lang/StringUTF16$CharsSpliterator")] 4

def k8m0 : Method := { name := "<init>", desc := "()V", sig := { parameters := [], returnType := none }, accessFlags := 0, code := none }
def k8c1 : Code := { maxStack := 2, maxLocals := 2, code := jdk_52_method_15_code, exceptionTable := #[], attributes := #[] }
def k8m1 : Method := { name := "coderFromArrayLen", desc := "([BI)B", sig := { parameters := [(.array .byte), .int], returnType := some .byte }, accessFlags := 8, code := some k8c1 }
def k8c2 : Code := { maxStack := 5, maxLocals := 6, code := jdk_52_method_16_code, exceptionTable := #[], attributes := #[] }
def k8m2 : Method := { name := "compress", desc := "([CII)[B", sig := { parameters := [(.array .char), .int, .int], returnType := some (.array .byte) }, accessFlags := 9, code := some k8c2 }
def k8c3 : Code := { maxStack := 3, maxLocals := 7, code := jdk_52_method_21_code, exceptionTable := #[], attributes := #[] }
def k8m3 : Method := { name := "compress", desc := "([CI[BII)I", sig := { parameters := [(.array .char), .int, (.array .byte), .int, .int], returnType := some .int }, accessFlags := 9, code := some k8c3 }
/-- java/lang/StringUTF16 -/
def k8 : Class := { plain "java/lang/StringUTF16" (some 0) with
  accessFlags := 48
  interfaces := #[]
  cf := some (fileOf pool8 12 #[.nestMembers #[627, 629, 369]] #[{ accessFlags := 0, nameIndex := 9, descriptorIndex := 10, attributes := #[] }, { accessFlags := 8, nameIndex := 261, descriptorIndex := 262, attributes := #[] }, { accessFlags := 9, nameIndex := 117, descriptorIndex := 122, attributes := #[] }, { accessFlags := 9, nameIndex := 117, descriptorIndex := 118, attributes := #[] }] 48 6 #[] #[{ accessFlags := 26, nameIndex := 61, descriptorIndex := 62, attributes := #[] }, { accessFlags := 26, nameIndex := 65, descriptorIndex := 62, attributes := #[] }, { accessFlags := 24, nameIndex := 430, descriptorIndex := 62, attributes := #[] }, { accessFlags := 4120, nameIndex := 46, descriptorIndex := 47, attributes := #[] }])
  fields := #[{ name := "HI_BYTE_SHIFT", type := .int, accessFlags := 26, slot := 0, constantValue := 0 }, { name := "LO_BYTE_SHIFT", type := .int, accessFlags := 26, slot := 1, constantValue := 0 }, { name := "MAX_LENGTH", type := .int, accessFlags := 24, slot := 2, constantValue := 0 }, { name := "$assertionsDisabled", type := .boolean, accessFlags := 4120, slot := 3, constantValue := 0 }]
  methods := #[k8m0, k8m1, k8m2, k8m3]
  instanceTypes := #[]
  staticTypes := #[.int, .int, .int, .boolean]
  resolved := Array.replicate 635 none
  statics := none }

def pool9 : Array CpInfo := pool [(2, .class_ 4), (1, u "java/lang/Object"), (0, u "<init>"), (0, u "()V"), (1, .class_ 10), (1, u "com/example/tallyweir/tallyweir/summary/Points"), (35, u "addToTotal"), (0, u "(DLjava/lang/String;DD)D"), (13, u "MAX_KEY_LENGTH"), (0, u "I")] 31

def k9m0 : Method := { name := "<init>", desc := "()V", sig := { parameters := [], returnType := none }, accessFlags := 2, code := none }
def k9c1 : Code := { maxStack := 7, maxLocals := 9, code := prog_21_method_5_code, exceptionTable := #[], attributes := #[] }
def k9m1 : Method := { name := "addToTotal", desc := "(DLjava/lang/String;DD)D", sig := { parameters := [.double, (.object "java/lang/String"), .double, .double], returnType := some .double }, accessFlags := 9, code := some k9c1 }
/-- com/example/tallyweir/tallyweir/summary/Points -/
def k9 : Class := { plain "com/example/tallyweir/tallyweir/summary/Points" (some 0) with
  accessFlags := 49
  interfaces := #[]
  cf := some (fileOf pool9 8 #[] #[{ accessFlags := 2, nameIndex := 5, descriptorIndex := 6, attributes := #[] }, { accessFlags := 9, nameIndex := 46, descriptorIndex := 47, attributes := #[] }] 49 2 #[] #[{ accessFlags := 25, nameIndex := 61, descriptorIndex := 62, attributes := #[] }])
  fields := #[{ name := "MAX_KEY_LENGTH", type := .int, accessFlags := 25, slot := 0, constantValue := 0 }]
  methods := #[k9m0, k9m1]
  instanceTypes := #[]
  staticTypes := #[.int]
  resolved := Array.replicate 94 none
  statics := none }

def pool10 : Array CpInfo := pool [(4, .class_ 6), (1, u "java/lang/Object"), (0, u "<init>"), (0, u "()V"), (5, .class_ 16), (1, u "java/lang/StringLatin1"), (104, u "$assertionsDisabled"), (0, u "Z"), (98, .class_ 223), (1, u "java/lang/StringLatin1$LinesSpliterator"), (166, .class_ 391), (0, u "java/lang/StringLatin1$CharsSpliterator")] 3

def k10m0 : Method := { name := "<init>", desc := "()V", sig := { parameters := [], returnType := none }, accessFlags := 0, code := none }
/-- java/lang/StringLatin1 -/
def k10 : Class := { plain "java/lang/StringLatin1" (some 0) with
  accessFlags := 48
  interfaces := #[]
  cf := some (fileOf pool10 14 #[.nestMembers #[390, 221]] #[{ accessFlags := 0, nameIndex := 7, descriptorIndex := 8, attributes := #[] }] 48 4 #[] #[{ accessFlags := 4120, nameIndex := 121, descriptorIndex := 122, attributes := #[] }])
  fields := #[{ name := "$assertionsDisabled", type := .boolean, accessFlags := 4120, slot := 0, constantValue := 0 }]
  methods := #[k10m0]
  instanceTypes := #[]
  staticTypes := #[.boolean]
  resolved := Array.replicate 395 none
  statics := none }

def pool11 : Array CpInfo := pool [(2, .class_ 4), (1, u "java/lang/Object"), (0, u "<init>"), (0, u "()V"), (17, .class_ 26), (1, u "jdk/internal/util/Preconditions"), (28, .class_ 56), (0, u "jdk/internal/util/Preconditions$4"), (57, .class_ 115), (0, u "jdk/internal/util/Preconditions$1"), (7, u "SIOOBE_FORMATTER"), (0, u "Ljava/util/function/BiFunction;"), (0, .class_ 126), (0, u "jdk/internal/util/Preconditions$2"), (3, u "AIOOBE_FORMATTER"), (0, .class_ 132), (0, u "jdk/internal/util/Preconditions$3"), (3, u "IOOBE_FORMATTER")] 57

def k11m0 : Method := { name := "<init>", desc := "()V", sig := { parameters := [], returnType := none }, accessFlags := 1, code := none }
/-- jdk/internal/util/Preconditions -/
def k11 : Class := { plain "jdk/internal/util/Preconditions" (some 0) with
  accessFlags := 33
  interfaces := #[]
  cf := some (fileOf pool11 24 #[.nestMembers #[55, 131, 125, 114]] #[{ accessFlags := 1, nameIndex := 5, descriptorIndex := 6, attributes := #[] }] 33 2 #[] #[{ accessFlags := 25, nameIndex := 123, descriptorIndex := 124, attributes := #[] }, { accessFlags := 25, nameIndex := 130, descriptorIndex := 124, attributes := #[] }, { accessFlags := 25, nameIndex := 136, descriptorIndex := 124, attributes := #[] }])
  fields := #[{ name := "SIOOBE_FORMATTER", type := (.object "java/util/function/BiFunction"), accessFlags := 25, slot := 0, constantValue := 0 }, { name := "AIOOBE_FORMATTER", type := (.object "java/util/function/BiFunction"), accessFlags := 25, slot := 1, constantValue := 0 }, { name := "IOOBE_FORMATTER", type := (.object "java/util/function/BiFunction"), accessFlags := 25, slot := 2, constantValue := 0 }]
  methods := #[k11m0]
  instanceTypes := #[]
  staticTypes := #[(.object "java/util/function/BiFunction"), (.object "java/util/function/BiFunction"), (.object "java/util/function/BiFunction")]
  resolved := Array.replicate 194 none
  statics := some 1 }

def pool12 : Array CpInfo := pool [(9, u "<init>"), (6, .class_ 18), (1, u "java/lang/Object"), (0, u "()V"), (1, .class_ 23), (1, u "jdk/internal/util/ArraysSupport"), (0, u "LOG2_ARRAY_LONG_INDEX_SCALE"), (0, u "I"), (2, u "U"), (0, u "Ljdk/internal/misc/Unsafe;"), (8, u "BIG_ENDIAN"), (0, u "Z"), (8, u "LOG2_BYTE_BIT_SIZE"), (4, u "LOG2_ARRAY_INT_INDEX_SCALE"), (54, u "JLA"), (0, u "Ljdk/internal/access/JavaLangAccess;"), (11, u "LOG2_ARRAY_BOOLEAN_INDEX_SCALE"), (9, u "LOG2_ARRAY_BYTE_INDEX_SCALE"), (5, u "LOG2_ARRAY_CHAR_INDEX_SCALE"), (5, u "LOG2_ARRAY_SHORT_INDEX_SCALE"), (18, u "LOG2_ARRAY_FLOAT_INDEX_SCALE"), (24, u "LOG2_ARRAY_DOUBLE_INDEX_SCALE"), (89, u "T_BOOLEAN"), (2, u "T_CHAR"), (1, u "T_FLOAT"), (1, u "T_DOUBLE"), (1, u "T_BYTE"), (1, u "T_SHORT"), (1, u "T_INT"), (1, u "T_LONG"), (1, u "SOFT_MAX_ARRAY_LENGTH")] 83

def k12m0 : Method := { name := "<init>", desc := "()V", sig := { parameters := [], returnType := none }, accessFlags := 2, code := none }
/-- jdk/internal/util/ArraysSupport -/
def k12 : Class := { plain "jdk/internal/util/ArraysSupport" (some 0) with
  accessFlags := 33
  interfaces := #[]
  cf := some (fileOf pool12 21 #[] #[{ accessFlags := 2, nameIndex := 9, descriptorIndex := 19, attributes := #[] }] 33 16 #[] #[{ accessFlags := 24, nameIndex := 28, descriptorIndex := 29, attributes := #[] }, { accessFlags := 26, nameIndex := 38, descriptorIndex := 39, attributes := #[] }, { accessFlags := 25, nameIndex := 121, descriptorIndex := 25, attributes := #[] }, { accessFlags := 25, nameIndex := 131, descriptorIndex := 25, attributes := #[] }, { accessFlags := 25, nameIndex := 137, descriptorIndex := 25, attributes := #[] }, { accessFlags := 25, nameIndex := 143, descriptorIndex := 25, attributes := #[] }, { accessFlags := 25, nameIndex := 53, descriptorIndex := 25, attributes := #[] }, { accessFlags := 25, nameIndex := 24, descriptorIndex := 25, attributes := #[] }, { accessFlags := 25, nameIndex := 162, descriptorIndex := 25, attributes := #[] }, { accessFlags := 25, nameIndex := 187, descriptorIndex := 25, attributes := #[] }, { accessFlags := 26, nameIndex := 48, descriptorIndex := 25, attributes := #[] }, { accessFlags := 25, nameIndex := 277, descriptorIndex := 25, attributes := #[] }, { accessFlags := 25, nameIndex := 280, descriptorIndex := 25, attributes := #[] }, { accessFlags := 25, nameIndex := 282, descriptorIndex := 25, attributes := #[] }, { accessFlags := 25, nameIndex := 284, descriptorIndex := 25, attributes := #[] }, { accessFlags := 25, nameIndex := 286, descriptorIndex := 25, attributes := #[] }, { accessFlags := 25, nameIndex := 288, descriptorIndex := 25, attributes := #[] }, { accessFlags := 25, nameIndex := 290, descriptorIndex := 25, attributes := #[] }, { accessFlags := 25, nameIndex := 292, descriptorIndex := 25, attributes := #[] }, { accessFlags := 26, nameIndex := 108, descriptorIndex := 109, attributes := #[] }, { accessFlags := 25, nameIndex := 294, descriptorIndex := 25, attributes := #[] }])
  fields := #[{ name := "U", type := (.object "jdk/internal/misc/Unsafe"), accessFlags := 24, slot := 0, constantValue := 0 }, { name := "BIG_ENDIAN", type := .boolean, accessFlags := 26, slot := 1, constantValue := 0 }, { name := "LOG2_ARRAY_BOOLEAN_INDEX_SCALE", type := .int, accessFlags := 25, slot := 2, constantValue := 0 }, { name := "LOG2_ARRAY_BYTE_INDEX_SCALE", type := .int, accessFlags := 25, slot := 3, constantValue := 0 }, { name := "LOG2_ARRAY_CHAR_INDEX_SCALE", type := .int, accessFlags := 25, slot := 4, constantValue := 0 }, { name := "LOG2_ARRAY_SHORT_INDEX_SCALE", type := .int, accessFlags := 25, slot := 5, constantValue := 0 }, { name := "LOG2_ARRAY_INT_INDEX_SCALE", type := .int, accessFlags := 25, slot := 6, constantValue := 0 }, { name := "LOG2_ARRAY_LONG_INDEX_SCALE", type := .int, accessFlags := 25, slot := 7, constantValue := 0 }, { name := "LOG2_ARRAY_FLOAT_INDEX_SCALE", type := .int, accessFlags := 25, slot := 8, constantValue := 0 }, { name := "LOG2_ARRAY_DOUBLE_INDEX_SCALE", type := .int, accessFlags := 25, slot := 9, constantValue := 0 }, { name := "LOG2_BYTE_BIT_SIZE", type := .int, accessFlags := 26, slot := 10, constantValue := 0 }, { name := "T_BOOLEAN", type := .int, accessFlags := 25, slot := 11, constantValue := 0 }, { name := "T_CHAR", type := .int, accessFlags := 25, slot := 12, constantValue := 0 }, { name := "T_FLOAT", type := .int, accessFlags := 25, slot := 13, constantValue := 0 }, { name := "T_DOUBLE", type := .int, accessFlags := 25, slot := 14, constantValue := 0 }, { name := "T_BYTE", type := .int, accessFlags := 25, slot := 15, constantValue := 0 }, { name := "T_SHORT", type := .int, accessFlags := 25, slot := 16, constantValue := 0 }, { name := "T_INT", type := .int, accessFlags := 25, slot := 17, constantValue := 0 }, { name := "T_LONG", type := .int, accessFlags := 25, slot := 18, constantValue := 0 }, { name := "JLA", type := (.object "jdk/internal/access/JavaLangAccess"), accessFlags := 26, slot := 19, constantValue := 0 }, { name := "SOFT_MAX_ARRAY_LENGTH", type := .int, accessFlags := 25, slot := 20, constantValue := 0 }]
  methods := #[k12m0]
  instanceTypes := #[]
  staticTypes := #[(.object "jdk/internal/misc/Unsafe"), .boolean, .int, .int, .int, .int, .int, .int, .int, .int, .int, .int, .int, .int, .int, .int, .int, .int, .int, (.object "jdk/internal/access/JavaLangAccess"), .int]
  resolved := Array.replicate 378 none
  statics := none }

def pool13 : Array CpInfo := pool [(1, u "java/lang/Cloneable"), (0, .class_ 1), (0, u "java/lang/Object"), (0, .class_ 3)] 3

/-- java/lang/Cloneable -/
def k13 : Class := { plain "java/lang/Cloneable" (some 0) with
  accessFlags := 1537
  interfaces := #[]
  cf := some (fileOf pool13 2 #[] #[] 1537 4 #[] #[])
  fields := #[]
  methods := #[]
  instanceTypes := #[]
  staticTypes := #[]
  resolved := Array.replicate 8 none
  statics := none }

/-- the primitive byte -/
def k14 : Class := { plain "byte" none with kind := .primitive 'B', accessFlags := 0x411 }
/-- [B -/
def k15 : Class := { plain "[B" (some 0) with kind := .array 14 .byte, interfaces := #[13, 2], accessFlags := 1041 }

/-- the primitive char -/
def k16 : Class := { plain "char" none with kind := .primitive 'C', accessFlags := 0x411 }
/-- [C -/
def k17 : Class := { plain "[C" (some 0) with kind := .array 16 .char, interfaces := #[13, 2], accessFlags := 1041 }

/-- the primitive int -/
def k18 : Class := { plain "int" none with kind := .primitive 'I', accessFlags := 0x411 }
/-- [I -/
def k19 : Class := { plain "[I" (some 0) with kind := .array 18 .int, interfaces := #[13, 2], accessFlags := 1041 }

def heap : Heap := #[{ cls := 7, slots := #[.long 0, .int 1, .null, .int 0, .null, .int 0, .int 0], vm := .statics 7 },
  { cls := 11, slots := #[.null, .null, .null], vm := .statics 11 }]
def classes : Array Class := #[k0, k1, k2, k3, k4, k5, k6, k7, k8, k9, k10, k11, k12, k13, k14, k15, k16, k17, k18, k19]
def interned : List (Array UInt16 × Addr) := []
def slotsUsed : Nat := 10
def theMethod : MethodId := ⟨1, 1⟩
def args0 : Array Value := #[.int 5, .int 7, .int 8, .int 9]
def aboutOver (below : List Frame) : State where
  vm := { classes := classes, interned := interned.toArray }
  heap := heap
  slotsUsed := slotsUsed
  threads := #[{ frames := .invoking theMethod args0 :: below }]
def below0 : List Frame := [.native { method := ⟨0, 0⟩, args := #[] }]
def about1 : State := aboutOver below0
def p0 : Program := .bare "" "" ""
def e0 : Env := launch0.env 0 0 0
theorem w_frames : about1.frames = Frame.invoking theMethod args0 :: below0 := rfl
set_option maxRecDepth 65536 in
theorem w_args : argsFit about1.vm theMethod args0 = true := by decide +kernel
set_option maxRecDepth 65536 in
theorem w_heap : heapFits about1 = true := by decide +kernel
set_option maxRecDepth 65536 in
theorem w_runnable : about1.curStatus? = some .runnable := by decide +kernel
set_option maxRecDepth 65536 in
theorem w_alone : about1.alone = true := by decide +kernel
set_option maxRecDepth 65536 in
theorem w_named : about1.methodNamed? x = some theMethod := by decide +kernel
set_option maxRecDepth 65536 in
theorem w_hears : about1.hears theMethod below0 = true := by decide +kernel
set_option maxRecDepth 65536 in
theorem w_ripe : about1.ripe theMethod args0 below0 = true := by decide +kernel
theorem w_running : about1.status = .running := rfl
set_option maxRecDepth 65536 in
theorem w_room : about1.hasRoom e0.platform room_1 = true :=
  launch0.hasRoom_least _ room_1 (by decide +kernel) (by decide +kernel) (by decide +kernel) (by decide +kernel) (by decide +kernel) (by decide +kernel)
theorem allAtoms_all (ts : List Jvm.Cond) (a : Array Jvm.Value) (st : Jvm.State) : (allAtoms ts).before a st = ts.all (fun c => c.before a st) := by
  induction ts with
  | nil => rfl
  | cons c t ih =>
    show (Jvm.Cond.and c (allAtoms t)).before a st = _
    rw [Jvm.Cond.before_and, ih, List.all_cons]
def words1 : List Jvm.Cond := Jvm.Cond.code x code maxLocals ret :: tables_1
/-- a 'code' word, met by the world's own term for the bytes: nothing is compared byte by byte -/
theorem code_word {y : MethodName} {bytes : ByteArray} {mx : Nat} {rt : Option FieldType} {a : Array Value} {s : State} {m : MethodId} {meth : Method} {c : Code} (h1 : s.methodNamed? y = some m) (h2 : s.vm.method? m = some meth) (h3 : meth.code = some c) (h4 : c.code = bytes)
    (h5 : (c.maxLocals == mx && c.exceptionTable.isEmpty && decide (c.maxStack ≤ mostOperands) && decide (meth.sig.returnType = rt) && !meth.locks && decide (parseMethodDescriptor y.desc = some meth.sig)) = true) : (Jvm.Cond.code y bytes mx rt).before a s = true := by
  simp only [Bool.and_eq_true, beq_iff_eq, Bool.not_eq_true', decide_eq_true_eq] at h5
  obtain ⟨⟨⟨⟨⟨g1, g2⟩, g3⟩, g4⟩, g5⟩, g6⟩ := h5
  simp [Cond.before, Cond.holds, Cond.value, h1, h2, h3, h4, g1, g2, g3, g4, g5, g6]
def isCode : Jvm.Cond → Bool
  | .code _ _ _ _ => true
  | _ => false
theorem all_split {L : List Jvm.Cond} {P : Jvm.Cond → Bool} (h1 : L.all (fun c => isCode c || P c) = true) (h2 : ∀ c ∈ L.filter isCode, P c = true) : L.all P = true := by
  refine List.all_eq_true.mpr fun c hc => ?_
  have h := List.all_eq_true.mp h1 c hc
  rcases Bool.eq_false_or_eq_true (isCode c) with hi | hi
  · exact h2 c (List.mem_filter.mpr ⟨hc, hi⟩)
  · simpa [hi] using h
set_option maxRecDepth 65536 in
theorem w_c0 : (Jvm.Cond.code x code maxLocals ret).before args0 about1 = true := code_word (m := ⟨1, 1⟩) (meth := k1m1) (c := k1c1) (by decide +kernel) rfl rfl rfl (by decide +kernel)
set_option maxRecDepth 65536 in
theorem w_c1 : (Jvm.Cond.code ({ cls := "java/lang/String", name := "<init>", desc := "([C)V" } : Jvm.MethodName) jdk_42_method_3_code (2 : Nat) (Option.none : Option Jvm.ClassFile.FieldType)).before args0 about1 = true := code_word (m := ⟨7, 1⟩) (meth := k7m1) (c := k7c1) (by decide +kernel) rfl rfl rfl (by decide +kernel)
set_option maxRecDepth 65536 in
theorem w_c2 : (Jvm.Cond.code ({ cls := "java/lang/String", name := "<init>", desc := "([CIILjava/lang/Void;)V" } : Jvm.MethodName) jdk_42_method_149_code (6 : Nat) (Option.none : Option Jvm.ClassFile.FieldType)).before args0 about1 = true := code_word (m := ⟨7, 2⟩) (meth := k7m2) (c := k7c2) (by decide +kernel) rfl rfl rfl (by decide +kernel)
set_option maxRecDepth 65536 in
theorem w_c3 : (Jvm.Cond.code ({ cls := "java/lang/Object", name := "<init>", desc := "()V" } : Jvm.MethodName) object_method_1_code (1 : Nat) (Option.none : Option Jvm.ClassFile.FieldType)).before args0 about1 = true := code_word (m := ⟨0, 0⟩) (meth := k0m0) (c := k0c0) (by decide +kernel) rfl rfl rfl (by decide +kernel)
set_option maxRecDepth 65536 in
theorem w_c4 : (Jvm.Cond.code ({ cls := "java/lang/StringUTF16", name := "compress", desc := "([CII)[B" } : Jvm.MethodName) jdk_52_method_16_code (6 : Nat) (Option.some (Jvm.ClassFile.FieldType.array Jvm.ClassFile.FieldType.byte))).before args0 about1 = true := code_word (m := ⟨8, 2⟩) (meth := k8m2) (c := k8c2) (by decide +kernel) rfl rfl rfl (by decide +kernel)
set_option maxRecDepth 65536 in
theorem w_c5 : (Jvm.Cond.code ({ cls := "java/lang/StringUTF16", name := "compress", desc := "([CI[BII)I" } : Jvm.MethodName) jdk_52_method_21_code (7 : Nat) (Option.some Jvm.ClassFile.FieldType.int)).before args0 about1 = true := code_word (m := ⟨8, 3⟩) (meth := k8m3) (c := k8c3) (by decide +kernel) rfl rfl rfl (by decide +kernel)
set_option maxRecDepth 65536 in
theorem w_c6 : (Jvm.Cond.code ({ cls := "java/lang/StringUTF16", name := "coderFromArrayLen", desc := "([BI)B" } : Jvm.MethodName) jdk_52_method_15_code (2 : Nat) (Option.some Jvm.ClassFile.FieldType.byte)).before args0 about1 = true := code_word (m := ⟨8, 1⟩) (meth := k8m1) (c := k8c1) (by decide +kernel) rfl rfl rfl (by decide +kernel)
set_option maxRecDepth 65536 in
theorem w_c7 : (Jvm.Cond.code ({ cls := "com/example/tallyweir/tallyweir/summary/Points", name := "addToTotal", desc := "(DLjava/lang/String;DD)D" } : Jvm.MethodName) prog_21_method_5_code (9 : Nat) (Option.some Jvm.ClassFile.FieldType.double)).before args0 about1 = true := code_word (m := ⟨9, 1⟩) (meth := k9m1) (c := k9c1) (by decide +kernel) rfl rfl rfl (by decide +kernel)
def codes1 : List Jvm.Cond := [Jvm.Cond.code x code maxLocals ret, Jvm.Cond.code ({ cls := "java/lang/String", name := "<init>", desc := "([C)V" } : Jvm.MethodName) jdk_42_method_3_code (2 : Nat) (Option.none : Option Jvm.ClassFile.FieldType), Jvm.Cond.code ({ cls := "java/lang/String", name := "<init>", desc := "([CIILjava/lang/Void;)V" } : Jvm.MethodName) jdk_42_method_149_code (6 : Nat) (Option.none : Option Jvm.ClassFile.FieldType), Jvm.Cond.code ({ cls := "java/lang/Object", name := "<init>", desc := "()V" } : Jvm.MethodName) object_method_1_code (1 : Nat) (Option.none : Option Jvm.ClassFile.FieldType), Jvm.Cond.code ({ cls := "java/lang/StringUTF16", name := "compress", desc := "([CII)[B" } : Jvm.MethodName) jdk_52_method_16_code (6 : Nat) (Option.some (Jvm.ClassFile.FieldType.array Jvm.ClassFile.FieldType.byte)), Jvm.Cond.code ({ cls := "java/lang/StringUTF16", name := "compress", desc := "([CI[BII)I" } : Jvm.MethodName) jdk_52_method_21_code (7 : Nat) (Option.some Jvm.ClassFile.FieldType.int), Jvm.Cond.code ({ cls := "java/lang/StringUTF16", name := "coderFromArrayLen", desc := "([BI)B" } : Jvm.MethodName) jdk_52_method_15_code (2 : Nat) (Option.some Jvm.ClassFile.FieldType.byte), Jvm.Cond.code ({ cls := "com/example/tallyweir/tallyweir/summary/Points", name := "addToTotal", desc := "(DLjava/lang/String;DD)D" } : Jvm.MethodName) prog_21_method_5_code (9 : Nat) (Option.some Jvm.ClassFile.FieldType.double)]
set_option maxRecDepth 65536 in
theorem codes_eq : words1.filter isCode = codes1 := rfl
theorem w_codes : ∀ c ∈ words1.filter isCode, c.before args0 about1 = true := by
  rw [codes_eq]
  intro c hc
  simp only [codes1, List.mem_cons, List.not_mem_nil, or_false] at hc
  rcases hc with rfl | rfl | rfl | rfl | rfl | rfl | rfl | rfl
  · exact w_c0
  · exact w_c1
  · exact w_c2
  · exact w_c3
  · exact w_c4
  · exact w_c5
  · exact w_c6
  · exact w_c7
set_option maxRecDepth 65536 in
theorem w_t1 : (words1.take 24).all (fun c => isCode c || c.before args0 about1) = true := by decide +kernel
set_option maxRecDepth 65536 in
theorem w_t2 : (words1.drop 24).all (fun c => isCode c || c.before args0 about1) = true := by decide +kernel
theorem w_tables : (allAtoms (Jvm.Cond.code x code maxLocals ret :: tables_1)).before args0 about1 = true := by
  rw [allAtoms_all]
  show words1.all (fun c => c.before args0 about1) = true
  refine all_split ?_ w_codes
  rw [← List.take_append_drop 24 words1, List.all_append, w_t1, w_t2]
  rfl
set_option maxRecDepth 65536 in
theorem w_rest : rest_1_c.before args0 about1 = true := by decide +kernel
set_option maxRecDepth 65536 in
theorem w_case : (Jvm.Cond.and given_1 narrow_1).before args0 about1 = true := by decide +kernel
theorem w_applies : (headSpec (Jvm.Cond.code x code maxLocals ret :: tables_1) room_1).applies x e0.platform about1 = true :=
  (Spec.applies_iff w_frames).mpr ⟨w_running, w_runnable, w_alone, w_named, w_hears, w_ripe, w_room, w_tables⟩
theorem atStart : AtStart classFile x code maxLocals ret World_1 tables_1 room_1 Calls_1 rest_1 Pre_1 launch0 p0 e0 about1 theMethod args0 below0 :=
  ⟨lists_1, trivial, launch0.admits_env _ _ _, launch0.least_env, fairChoices_fair.cas, fairChoices_fair.clock, w_frames, w_args, w_heap, w_applies, trivial, w_rest, w_case⟩
end start1
theorem witness_1 : WitnessClaimed_1 := ⟨start1.p0, start1.e0, start1.about1, start1.theMethod, start1.args0, start1.below0, start1.atStart⟩
end Jvm.Pilot.@@N@@
