import JvmDerived
import JvmDerived.Pilot.@@N@@Statement
import JvmDerived.Pilot.@@N@@Code
set_option linter.unusedVariables false
set_option linter.unusedSimpArgs false
namespace Jvm.Own
open Sem ClassFile Op Lib Jvm.Stand Jvm.Free Jvm.LawKit Jvm.RoadKit
/-! A walk, forward: 'Run' says that the invocation's first state reaches this frame. -/
abbrev Cx := Program × Launch × Env × State × MethodId × Array Value × List Frame × Method × Code × State
def RunI (p : Program) (l : Launch) (e : Env) (s : State) (m : MethodId) (args : Array Value) (below : List Frame) (meth : Method) (c : Code) (A : State) (R : Room) (Z : State) (n0 : Nat) (own nm : String) (ret : Option FieldType) (bytes : ByteArray) (mx : Nat) (h : Heap) (cells slots pc : Nat) (L : Array Slot) (S : List Value) : Prop :=
  p.tables.exec = Jvm.exec ∧ c.code = bytes ∧ c.maxLocals = mx ∧ s.vm.findClass own = some m.cls ∧ Z.Warmed39 s.vm ∧ meth.name = nm ∧ meth.sig.returnType = ret ∧ meth.locks = false ∧
    ∃ (T : State) (locs : List Loc), Stand p l e R s m args below meth c T locs cells slots ∧ Fr n0 locs ∧ T.heap = h ∧ ∀ t, Steps p.tables e below (T.setTop (mkF m pc L S)) t → Steps p.tables e below A t
def Run (C : Cx) (R : Room) (Z : State) (n0 : Nat) (own nm : String) (ret : Option FieldType) (bytes : ByteArray) (mx : Nat) (h : Heap) (cells slots pc : Nat) (L : Array Slot) (S : List Value) : Prop :=
  RunI C.1 C.2.1 C.2.2.1 C.2.2.2.1 C.2.2.2.2.1 C.2.2.2.2.2.1 C.2.2.2.2.2.2.1 C.2.2.2.2.2.2.2.1 C.2.2.2.2.2.2.2.2.1 C.2.2.2.2.2.2.2.2.2 R Z n0 own nm ret bytes mx h cells slots pc L S
def FinI (p : Program) (e : Env) (s : State) (below : List Frame) (A : State) (R : Room) (n0 : Nat) (Q : Option Value → Heap → Prop) : Prop :=
  ∃ s₂ o, Steps p.tables e below A s₂ ∧ s₂.status = .running ∧ Ended s₂ below o ∧ ∃ v L, o = .returned v ∧ (Q v s₂.heap ∧ Fr n0 L) ∧ FrameEnd s o s₂ L R.cells R.slots
def Fini (C : Cx) (R : Room) (n0 : Nat) (Q : Option Value → Heap → Prop) : Prop := FinI C.1 C.2.2.1 C.2.2.2.1 C.2.2.2.2.2.2.1 C.2.2.2.2.2.2.2.2.2 R n0 Q
/-- a method's contract: called with 'as' at the heap h0 it returns, and Q says what; nothing that stood below n0 is written -/
def Con (Z : State) (n0 : Nat) (y : MethodName) (bytes : ByteArray) (mx : Nat) (ret : Option FieldType) (ws : List Jvm.Cond) (rm : Room) (as : Array Value) (h0 : Heap) (Q : Option Value → Heap → Prop) : Prop :=
  ∀ l : Launch, MetFree l y (head1 (Jvm.Cond.code y bytes mx ret :: ws) rm) (fun a U => a = as ∧ Z.Warmed39 U.vm ∧ U.heap = h0) (fun _ _ _ _ _ => True) (fun _ U o U' => ∃ v L, o = .returned v ∧ (Q v U'.heap ∧ Fr n0 L) ∧ FrameEnd U o U' L rm.cells rm.slots)
theorem Con.intro {Z : State} {n0 : Nat} {y : MethodName} {bytes : ByteArray} {mx : Nat} {ret : Option FieldType} {ws : List Jvm.Cond} {rm : Room} {as : Array Value} {h0 : Heap} {Q : Option Value → Heap → Prop} {L0 : Array Slot}
    (hp : plainFor y = true) (hef : ∀ m, entryFrame m as mx = mkF m 0 L0 []) (body : ∀ C : Cx, Run C rm Z n0 y.cls y.name ret bytes mx h0 0 0 0 L0 [] → Fini C rm n0 Q) : Con Z n0 y bytes mx ret ws rm as h0 Q := by
  intro l
  refine MetFree.of_bodySF hp hisR ?_
  intro p e s m args below meth c s₁ Bd hml0 hP hK
  obtain ⟨rfl, hZ, hh⟩ := hP
  have hown : s.vm.findClass y.cls = some m.cls := findClass_of_methodNamed Bd.named
  have X0 : Stand p l e rm s m args below meth c s₁ [] 0 0 := Stand.of_body Bd
  have e0 : s₁.heap = h0 := by rw [← hh, Bd.state]; rfl
  have k : Run (p, l, e, s, m, args, below, meth, c, s₁.setTop (entryFrame m args mx)) rm Z n0 y.cls y.name ret bytes mx h0 0 0 0 L0 [] :=
    ⟨Bd.exec, Bd.bytes, hml0, hown, hZ, (name_of_methodNamed Bd.named Bd.method).1, Bd.returns, Bd.notSynchronized, s₁, [], X0, Fr.nil n0, e0, fun t kt => castTop (hef m) kt⟩
  exact body _ k
theorem ac_eq {x y : Value} (q : x = y) : XT.acmp .eq x y = true ∧ XT.acmp .ne x y = false := ⟨decide_eq_true q, decide_eq_false (fun z => z q)⟩
theorem ac_ne {x y : Value} (q : x ≠ y) : XT.acmp .eq x y = false ∧ XT.acmp .ne x y = true := ⟨decide_eq_false q, decide_eq_true q⟩
/-! an array by a function of the place -/
def updV (f : Nat → Value) (i : Nat) (v : Value) : Nat → Value := fun j => if j = i then v else f j
theorem updV_same (f : Nat → Value) (i : Nat) (v : Value) : updV f i v i = v := if_pos rfl
theorem updV_ne {f : Nat → Value} {i j : Nat} {v : Value} (q : j ≠ i) : updV f i v j = f j := if_neg q
def Arf (Z : State) (h : Heap) (a : Addr) (ty : FieldType) (n : Nat) (f : Nat → Value) : Prop := ∃ c : Cell, Arr Z h a c ty ∧ c.slots.size = n ∧ ∀ i, i < n → c.slots[i]? = some (f i)
section Arrays
variable {Z : State} {h h' : Heap} {a b : Addr} {ty : FieldType} {n sl : Nat} {f g : Nat → Value} {v : Value} {ws : List Addr}
theorem Arf.lt (F : Arf Z h a ty n f) : a < h.size := by obtain ⟨c, A, -⟩ := F; exact A.lt
theorem Arf.ext (F : Arf Z h a ty n f) (E : Ext h h') : Arf Z h' a ty n f := by obtain ⟨c, A, r⟩ := F; exact ⟨c, Arr.ext E A, r⟩
theorem Arf.other (F : Arf Z h b ty n f) (W : Wr h h' a sl v) (q : b ≠ a) : Arf Z h' b ty n f := by obtain ⟨c, A, r⟩ := F; exact ⟨c, Arr.other W A q, r⟩
theorem Arf.keep (F : Arf Z h a ty n f) (K : Keep h h' ws) (q : a ∉ ws) : Arf Z h' a ty n f := by obtain ⟨c, A, r⟩ := F; exact ⟨c, ⟨K.2.1 a c A.1 q, A.2⟩, r⟩
theorem Arf.set (F : Arf Z h a ty n f) {i : Nat} (W : Wr h h' a i v) (hi : i < n) : Arf Z h' a ty n (updV f i v) := by
  obtain ⟨c, A, S, H⟩ := F
  refine ⟨_, Arr.same W A, (sz_set _ _ _).trans S, fun j hj => ?_⟩
  by_cases q : j = i
  · subst q
    rw [updV_same]
    have hs : j < c.slots.size := by omega
    simp [Cell.setSlot, hs]
  · rw [updV_ne q]
    simp only [Cell.setSlot]
    rw [Array.getElem?_setIfInBounds_ne (Ne.symm q)]
    exact H j hj
theorem Arf.congr (F : Arf Z h a ty n f) (q : ∀ i, i < n → f i = g i) : Arf Z h a ty n g := by obtain ⟨c, A, S, H⟩ := F; exact ⟨c, A, S, fun i hi => q i hi ▸ H i hi⟩
theorem Sta.keepN {Cn m d : String} (F : Sta Z h Cn m d v) (K : Keep h h' ws) (q : ∀ x ∈ ws, ∀ c : Cell, h[x]? = some c → c.vm.isStatics = false) : Sta Z h' Cn m d v := by
  obtain ⟨cf, i, k, f, st, cell, h1, h2, h3, h4, h5, h6, h7⟩ := F
  refine ⟨cf, i, k, f, st, cell, h1, h2, h3, h4, K.2.1 st cell h5 (fun z => ?_), h6, h7⟩
  rw [q st z cell h5] at h6; cases h6
theorem Exa.nost {Cn : String} (F : Exa Z h a Cn) : ∀ c : Cell, h[a]? = some c → c.vm.isStatics = false := fun c hc => by
  obtain ⟨cell, k, h1, -, -, h4, -⟩ := F
  cases hc.symm.trans h1; exact h4
theorem Arf.nost (F : Arf Z h a ty n f) : ∀ c : Cell, h[a]? = some c → c.vm.isStatics = false := fun c hc => by
  obtain ⟨cell, A, -⟩ := F
  cases hc.symm.trans A.1; exact A.plain
end Arrays
section Steps
variable {C : Cx} {R : Room} {Z : State} {n0 : Nat} {own nm : String} {ret : Option FieldType} {bytes : ByteArray} {mx : Nat} {h : Heap} {cells slots pc : Nat} {L : Array Slot} {S : List Value}

theorem Run.iloadN {k : Fin 4} {v : Int32} (K : Run C R Z n0 own nm ret bytes mx h cells slots pc L S) (hd : decode bytes pc = .ok (.iload_n k, 1)) (hl : L[k.val]? = some (.val (.int v))) : Run C R Z n0 own nm ret bytes mx h cells slots (pc + 1) L (.int v :: S) := by
  obtain ⟨hx, hby, hml, hown, hZ, hnm, hrt, hlk, T, locs, X, N, eT, st⟩ := K
  exact ⟨hx, hby, hml, hown, hZ, hnm, hrt, hlk, T, locs, X, N, eT, fun t kt => st t (XS.iloadN X.here hx rfl (hb hby hd) hl kt)⟩
theorem Run.iload {k : Nat} {v : Int32} (K : Run C R Z n0 own nm ret bytes mx h cells slots pc L S) (hd : decode bytes pc = .ok (.iload k, 2)) (hl : L[k]? = some (.val (.int v))) : Run C R Z n0 own nm ret bytes mx h cells slots (pc + 2) L (.int v :: S) := by
  obtain ⟨hx, hby, hml, hown, hZ, hnm, hrt, hlk, T, locs, X, N, eT, st⟩ := K
  exact ⟨hx, hby, hml, hown, hZ, hnm, hrt, hlk, T, locs, X, N, eT, fun t kt => st t (XS.iload X.here hx rfl (hb hby hd) hl kt)⟩
theorem Run.lloadN {k : Fin 4} {v : Int64} (K : Run C R Z n0 own nm ret bytes mx h cells slots pc L S) (hd : decode bytes pc = .ok (.lload_n k, 1)) (hl : L[k.val]? = some (.val (.long v))) : Run C R Z n0 own nm ret bytes mx h cells slots (pc + 1) L (.long v :: S) := by
  obtain ⟨hx, hby, hml, hown, hZ, hnm, hrt, hlk, T, locs, X, N, eT, st⟩ := K
  exact ⟨hx, hby, hml, hown, hZ, hnm, hrt, hlk, T, locs, X, N, eT, fun t kt => st t (XS.lloadN X.here hx rfl (hb hby hd) hl kt)⟩
theorem Run.lload {k : Nat} {v : Int64} (K : Run C R Z n0 own nm ret bytes mx h cells slots pc L S) (hd : decode bytes pc = .ok (.lload k, 2)) (hl : L[k]? = some (.val (.long v))) : Run C R Z n0 own nm ret bytes mx h cells slots (pc + 2) L (.long v :: S) := by
  obtain ⟨hx, hby, hml, hown, hZ, hnm, hrt, hlk, T, locs, X, N, eT, st⟩ := K
  exact ⟨hx, hby, hml, hown, hZ, hnm, hrt, hlk, T, locs, X, N, eT, fun t kt => st t (XS.lload X.here hx rfl (hb hby hd) hl kt)⟩
theorem Run.aloadN {k : Fin 4} {v : Value} (K : Run C R Z n0 own nm ret bytes mx h cells slots pc L S) (hd : decode bytes pc = .ok (.aload_n k, 1)) (hl : L[k.val]? = some (.val v)) (hv : v.isRef = true) : Run C R Z n0 own nm ret bytes mx h cells slots (pc + 1) L (v :: S) := by
  obtain ⟨hx, hby, hml, hown, hZ, hnm, hrt, hlk, T, locs, X, N, eT, st⟩ := K
  exact ⟨hx, hby, hml, hown, hZ, hnm, hrt, hlk, T, locs, X, N, eT, fun t kt => st t (XS.aloadN X.here hx rfl (hb hby hd) hl hv kt)⟩
theorem Run.aload {k : Nat} {v : Value} (K : Run C R Z n0 own nm ret bytes mx h cells slots pc L S) (hd : decode bytes pc = .ok (.aload k, 2)) (hl : L[k]? = some (.val v)) (hv : v.isRef = true) : Run C R Z n0 own nm ret bytes mx h cells slots (pc + 2) L (v :: S) := by
  obtain ⟨hx, hby, hml, hown, hZ, hnm, hrt, hlk, T, locs, X, N, eT, st⟩ := K
  exact ⟨hx, hby, hml, hown, hZ, hnm, hrt, hlk, T, locs, X, N, eT, fun t kt => st t (XS.aload X.here hx rfl (hb hby hd) hl hv kt)⟩
theorem Run.istoreN {k : Fin 4} {v : Int32} (l' : Array Slot) (K : Run C R Z n0 own nm ret bytes mx h cells slots pc L (.int v :: S)) (hd : decode bytes pc = .ok (.istore_n k, 1)) (hl : storeLocals L k.val (.int v) = some l') : Run C R Z n0 own nm ret bytes mx h cells slots (pc + 1) l' S := by
  obtain ⟨hx, hby, hml, hown, hZ, hnm, hrt, hlk, T, locs, X, N, eT, st⟩ := K
  exact ⟨hx, hby, hml, hown, hZ, hnm, hrt, hlk, T, locs, X, N, eT, fun t kt => st t (XS.istoreN X.here hx rfl (hb hby hd) rfl hl kt)⟩
theorem Run.istore {k : Nat} {v : Int32} (l' : Array Slot) (K : Run C R Z n0 own nm ret bytes mx h cells slots pc L (.int v :: S)) (hd : decode bytes pc = .ok (.istore k, 2)) (hl : storeLocals L k (.int v) = some l') : Run C R Z n0 own nm ret bytes mx h cells slots (pc + 2) l' S := by
  obtain ⟨hx, hby, hml, hown, hZ, hnm, hrt, hlk, T, locs, X, N, eT, st⟩ := K
  exact ⟨hx, hby, hml, hown, hZ, hnm, hrt, hlk, T, locs, X, N, eT, fun t kt => st t (XS.istore X.here hx rfl (hb hby hd) rfl hl kt)⟩
theorem Run.lstoreN {k : Fin 4} {v : Int64} (l' : Array Slot) (K : Run C R Z n0 own nm ret bytes mx h cells slots pc L (.long v :: S)) (hd : decode bytes pc = .ok (.lstore_n k, 1)) (hl : storeLocals L k.val (.long v) = some l') : Run C R Z n0 own nm ret bytes mx h cells slots (pc + 1) l' S := by
  obtain ⟨hx, hby, hml, hown, hZ, hnm, hrt, hlk, T, locs, X, N, eT, st⟩ := K
  exact ⟨hx, hby, hml, hown, hZ, hnm, hrt, hlk, T, locs, X, N, eT, fun t kt => st t (XS.lstoreN X.here hx rfl (hb hby hd) rfl hl kt)⟩
theorem Run.lstore {k : Nat} {v : Int64} (l' : Array Slot) (K : Run C R Z n0 own nm ret bytes mx h cells slots pc L (.long v :: S)) (hd : decode bytes pc = .ok (.lstore k, 2)) (hl : storeLocals L k (.long v) = some l') : Run C R Z n0 own nm ret bytes mx h cells slots (pc + 2) l' S := by
  obtain ⟨hx, hby, hml, hown, hZ, hnm, hrt, hlk, T, locs, X, N, eT, st⟩ := K
  exact ⟨hx, hby, hml, hown, hZ, hnm, hrt, hlk, T, locs, X, N, eT, fun t kt => st t (XS.lstore X.here hx rfl (hb hby hd) rfl hl kt)⟩
theorem Run.astoreN {k : Fin 4} {v : Value} (l' : Array Slot) (K : Run C R Z n0 own nm ret bytes mx h cells slots pc L (v :: S)) (hd : decode bytes pc = .ok (.astore_n k, 1)) (hv : v.isRef = true) (hl : storeLocals L k.val v = some l') : Run C R Z n0 own nm ret bytes mx h cells slots (pc + 1) l' S := by
  obtain ⟨hx, hby, hml, hown, hZ, hnm, hrt, hlk, T, locs, X, N, eT, st⟩ := K
  exact ⟨hx, hby, hml, hown, hZ, hnm, hrt, hlk, T, locs, X, N, eT, fun t kt => st t (XS.astoreN X.here hx rfl (hb hby hd) rfl hv hl kt)⟩
theorem Run.astore {k : Nat} {v : Value} (l' : Array Slot) (K : Run C R Z n0 own nm ret bytes mx h cells slots pc L (v :: S)) (hd : decode bytes pc = .ok (.astore k, 2)) (hv : v.isRef = true) (hl : storeLocals L k v = some l') : Run C R Z n0 own nm ret bytes mx h cells slots (pc + 2) l' S := by
  obtain ⟨hx, hby, hml, hown, hZ, hnm, hrt, hlk, T, locs, X, N, eT, st⟩ := K
  exact ⟨hx, hby, hml, hown, hZ, hnm, hrt, hlk, T, locs, X, N, eT, fun t kt => st t (XS.astore X.here hx rfl (hb hby hd) rfl hv hl kt)⟩
theorem Run.iconst {i : Int} (z : Int32) (K : Run C R Z n0 own nm ret bytes mx h cells slots pc L S) (hd : decode bytes pc = .ok (.iconst i, 1)) (hz : Int32.ofInt i = z) : Run C R Z n0 own nm ret bytes mx h cells slots (pc + 1) L (.int z :: S) := by
  obtain ⟨hx, hby, hml, hown, hZ, hnm, hrt, hlk, T, locs, X, N, eT, st⟩ := K
  exact ⟨hx, hby, hml, hown, hZ, hnm, hrt, hlk, T, locs, X, N, eT, fun t kt => st t (XS.iconst X.here hx rfl (hb hby hd) (by rw [hz]; exact kt))⟩
theorem Run.bipush {i : Int} (z : Int32) (K : Run C R Z n0 own nm ret bytes mx h cells slots pc L S) (hd : decode bytes pc = .ok (.bipush i, 2)) (hz : (Int8.ofInt i).toInt32 = z) : Run C R Z n0 own nm ret bytes mx h cells slots (pc + 2) L (.int z :: S) := by
  obtain ⟨hx, hby, hml, hown, hZ, hnm, hrt, hlk, T, locs, X, N, eT, st⟩ := K
  exact ⟨hx, hby, hml, hown, hZ, hnm, hrt, hlk, T, locs, X, N, eT, fun t kt => st t (XS.bipush X.here hx rfl (hb hby hd) (by rw [hz]; exact kt))⟩
theorem Run.sipush {i : Int} (z : Int32) (K : Run C R Z n0 own nm ret bytes mx h cells slots pc L S) (hd : decode bytes pc = .ok (.sipush i, 3)) (hz : (Int16.ofInt i).toInt32 = z) : Run C R Z n0 own nm ret bytes mx h cells slots (pc + 3) L (.int z :: S) := by
  obtain ⟨hx, hby, hml, hown, hZ, hnm, hrt, hlk, T, locs, X, N, eT, st⟩ := K
  exact ⟨hx, hby, hml, hown, hZ, hnm, hrt, hlk, T, locs, X, N, eT, fun t kt => st t (XS.sipush X.here hx rfl (hb hby hd) (by rw [hz]; exact kt))⟩
theorem Run.lconst {i : Fin 2} (z : Int64) (K : Run C R Z n0 own nm ret bytes mx h cells slots pc L S) (hd : decode bytes pc = .ok (.lconst i, 1)) (hz : Int64.ofNat i = z) : Run C R Z n0 own nm ret bytes mx h cells slots (pc + 1) L (.long z :: S) := by
  obtain ⟨hx, hby, hml, hown, hZ, hnm, hrt, hlk, T, locs, X, N, eT, st⟩ := K
  exact ⟨hx, hby, hml, hown, hZ, hnm, hrt, hlk, T, locs, X, N, eT, fun t kt => st t (XS.lconst X.here hx rfl (hb hby hd) (by rw [hz]; exact kt))⟩
theorem Run.aconstNull  (K : Run C R Z n0 own nm ret bytes mx h cells slots pc L S) (hd : decode bytes pc = .ok (.aconst_null, 1))  : Run C R Z n0 own nm ret bytes mx h cells slots (pc + 1) L (.null :: S) := by
  obtain ⟨hx, hby, hml, hown, hZ, hnm, hrt, hlk, T, locs, X, N, eT, st⟩ := K
  exact ⟨hx, hby, hml, hown, hZ, hnm, hrt, hlk, T, locs, X, N, eT, fun t kt => st t (XS.aconstNull X.here hx rfl (hb hby hd) kt)⟩
theorem Run.iadd {x y : Int32} (K : Run C R Z n0 own nm ret bytes mx h cells slots pc L (.int y :: .int x :: S)) (hd : decode bytes pc = .ok (.iadd, 1))  : Run C R Z n0 own nm ret bytes mx h cells slots (pc + 1) L (.int (x + y) :: S) := by
  obtain ⟨hx, hby, hml, hown, hZ, hnm, hrt, hlk, T, locs, X, N, eT, st⟩ := K
  exact ⟨hx, hby, hml, hown, hZ, hnm, hrt, hlk, T, locs, X, N, eT, fun t kt => st t (XS.iadd X.here hx rfl (hb hby hd) rfl kt)⟩
theorem Run.isub {x y : Int32} (K : Run C R Z n0 own nm ret bytes mx h cells slots pc L (.int y :: .int x :: S)) (hd : decode bytes pc = .ok (.isub, 1))  : Run C R Z n0 own nm ret bytes mx h cells slots (pc + 1) L (.int (x - y) :: S) := by
  obtain ⟨hx, hby, hml, hown, hZ, hnm, hrt, hlk, T, locs, X, N, eT, st⟩ := K
  exact ⟨hx, hby, hml, hown, hZ, hnm, hrt, hlk, T, locs, X, N, eT, fun t kt => st t (XS.isub X.here hx rfl (hb hby hd) rfl kt)⟩
theorem Run.imul {x y : Int32} (K : Run C R Z n0 own nm ret bytes mx h cells slots pc L (.int y :: .int x :: S)) (hd : decode bytes pc = .ok (.imul, 1))  : Run C R Z n0 own nm ret bytes mx h cells slots (pc + 1) L (.int (x * y) :: S) := by
  obtain ⟨hx, hby, hml, hown, hZ, hnm, hrt, hlk, T, locs, X, N, eT, st⟩ := K
  exact ⟨hx, hby, hml, hown, hZ, hnm, hrt, hlk, T, locs, X, N, eT, fun t kt => st t (XS.imul X.here hx rfl (hb hby hd) rfl kt)⟩
theorem Run.iand {x y : Int32} (K : Run C R Z n0 own nm ret bytes mx h cells slots pc L (.int y :: .int x :: S)) (hd : decode bytes pc = .ok (.iand, 1))  : Run C R Z n0 own nm ret bytes mx h cells slots (pc + 1) L (.int (x &&& y) :: S) := by
  obtain ⟨hx, hby, hml, hown, hZ, hnm, hrt, hlk, T, locs, X, N, eT, st⟩ := K
  exact ⟨hx, hby, hml, hown, hZ, hnm, hrt, hlk, T, locs, X, N, eT, fun t kt => st t (XS.iand X.here hx rfl (hb hby hd) rfl kt)⟩
theorem Run.ior {x y : Int32} (K : Run C R Z n0 own nm ret bytes mx h cells slots pc L (.int y :: .int x :: S)) (hd : decode bytes pc = .ok (.ior, 1))  : Run C R Z n0 own nm ret bytes mx h cells slots (pc + 1) L (.int (x ||| y) :: S) := by
  obtain ⟨hx, hby, hml, hown, hZ, hnm, hrt, hlk, T, locs, X, N, eT, st⟩ := K
  exact ⟨hx, hby, hml, hown, hZ, hnm, hrt, hlk, T, locs, X, N, eT, fun t kt => st t (XS.ior X.here hx rfl (hb hby hd) rfl kt)⟩
theorem Run.ixor {x y : Int32} (K : Run C R Z n0 own nm ret bytes mx h cells slots pc L (.int y :: .int x :: S)) (hd : decode bytes pc = .ok (.ixor, 1))  : Run C R Z n0 own nm ret bytes mx h cells slots (pc + 1) L (.int (x ^^^ y) :: S) := by
  obtain ⟨hx, hby, hml, hown, hZ, hnm, hrt, hlk, T, locs, X, N, eT, st⟩ := K
  exact ⟨hx, hby, hml, hown, hZ, hnm, hrt, hlk, T, locs, X, N, eT, fun t kt => st t (XS.ixor X.here hx rfl (hb hby hd) rfl kt)⟩
theorem Run.ishl {x y : Int32} (K : Run C R Z n0 own nm ret bytes mx h cells slots pc L (.int y :: .int x :: S)) (hd : decode bytes pc = .ok (.ishl, 1))  : Run C R Z n0 own nm ret bytes mx h cells slots (pc + 1) L (.int (x <<< (y &&& 31)) :: S) := by
  obtain ⟨hx, hby, hml, hown, hZ, hnm, hrt, hlk, T, locs, X, N, eT, st⟩ := K
  exact ⟨hx, hby, hml, hown, hZ, hnm, hrt, hlk, T, locs, X, N, eT, fun t kt => st t (XS.ishl X.here hx rfl (hb hby hd) rfl kt)⟩
theorem Run.ishr {x y : Int32} (K : Run C R Z n0 own nm ret bytes mx h cells slots pc L (.int y :: .int x :: S)) (hd : decode bytes pc = .ok (.ishr, 1))  : Run C R Z n0 own nm ret bytes mx h cells slots (pc + 1) L (.int (x >>> (y &&& 31)) :: S) := by
  obtain ⟨hx, hby, hml, hown, hZ, hnm, hrt, hlk, T, locs, X, N, eT, st⟩ := K
  exact ⟨hx, hby, hml, hown, hZ, hnm, hrt, hlk, T, locs, X, N, eT, fun t kt => st t (XS.ishr X.here hx rfl (hb hby hd) rfl kt)⟩
theorem Run.iushr {x y : Int32} (K : Run C R Z n0 own nm ret bytes mx h cells slots pc L (.int y :: .int x :: S)) (hd : decode bytes pc = .ok (.iushr, 1))  : Run C R Z n0 own nm ret bytes mx h cells slots (pc + 1) L (.int ((x.toUInt32 >>> (y &&& 31).toUInt32).toInt32) :: S) := by
  obtain ⟨hx, hby, hml, hown, hZ, hnm, hrt, hlk, T, locs, X, N, eT, st⟩ := K
  exact ⟨hx, hby, hml, hown, hZ, hnm, hrt, hlk, T, locs, X, N, eT, fun t kt => st t (XS.iushr X.here hx rfl (hb hby hd) rfl kt)⟩
theorem Run.irem {x y : Int32} (K : Run C R Z n0 own nm ret bytes mx h cells slots pc L (.int y :: .int x :: S)) (hd : decode bytes pc = .ok (.irem, 1)) (hy : y ≠ 0) : Run C R Z n0 own nm ret bytes mx h cells slots (pc + 1) L (.int (x % y) :: S) := by
  obtain ⟨hx, hby, hml, hown, hZ, hnm, hrt, hlk, T, locs, X, N, eT, st⟩ := K
  exact ⟨hx, hby, hml, hown, hZ, hnm, hrt, hlk, T, locs, X, N, eT, fun t kt => st t (iremM X hx rfl (hb hby hd) rfl hy kt)⟩
theorem Run.idiv {x y : Int32} (K : Run C R Z n0 own nm ret bytes mx h cells slots pc L (.int y :: .int x :: S)) (hd : decode bytes pc = .ok (.idiv, 1)) (hy : y ≠ 0) : Run C R Z n0 own nm ret bytes mx h cells slots (pc + 1) L (.int (x / y) :: S) := by
  obtain ⟨hx, hby, hml, hown, hZ, hnm, hrt, hlk, T, locs, X, N, eT, st⟩ := K
  exact ⟨hx, hby, hml, hown, hZ, hnm, hrt, hlk, T, locs, X, N, eT, fun t kt => st t (XS.idiv X.here hx rfl (hb hby hd) rfl hy kt)⟩
theorem Run.ineg {x : Int32} (K : Run C R Z n0 own nm ret bytes mx h cells slots pc L (.int x :: S)) (hd : decode bytes pc = .ok (.ineg, 1))  : Run C R Z n0 own nm ret bytes mx h cells slots (pc + 1) L (.int (-x) :: S) := by
  obtain ⟨hx, hby, hml, hown, hZ, hnm, hrt, hlk, T, locs, X, N, eT, st⟩ := K
  exact ⟨hx, hby, hml, hown, hZ, hnm, hrt, hlk, T, locs, X, N, eT, fun t kt => st t (XS.ineg X.here hx rfl (hb hby hd) rfl kt)⟩
theorem Run.ladd {x y : Int64} (K : Run C R Z n0 own nm ret bytes mx h cells slots pc L (.long y :: .long x :: S)) (hd : decode bytes pc = .ok (.ladd, 1))  : Run C R Z n0 own nm ret bytes mx h cells slots (pc + 1) L (.long (x + y) :: S) := by
  obtain ⟨hx, hby, hml, hown, hZ, hnm, hrt, hlk, T, locs, X, N, eT, st⟩ := K
  exact ⟨hx, hby, hml, hown, hZ, hnm, hrt, hlk, T, locs, X, N, eT, fun t kt => st t (XS.ladd X.here hx rfl (hb hby hd) rfl kt)⟩
theorem Run.lsub {x y : Int64} (K : Run C R Z n0 own nm ret bytes mx h cells slots pc L (.long y :: .long x :: S)) (hd : decode bytes pc = .ok (.lsub, 1))  : Run C R Z n0 own nm ret bytes mx h cells slots (pc + 1) L (.long (x - y) :: S) := by
  obtain ⟨hx, hby, hml, hown, hZ, hnm, hrt, hlk, T, locs, X, N, eT, st⟩ := K
  exact ⟨hx, hby, hml, hown, hZ, hnm, hrt, hlk, T, locs, X, N, eT, fun t kt => st t (XS.lsub X.here hx rfl (hb hby hd) rfl kt)⟩
theorem Run.lmul {x y : Int64} (K : Run C R Z n0 own nm ret bytes mx h cells slots pc L (.long y :: .long x :: S)) (hd : decode bytes pc = .ok (.lmul, 1))  : Run C R Z n0 own nm ret bytes mx h cells slots (pc + 1) L (.long (x * y) :: S) := by
  obtain ⟨hx, hby, hml, hown, hZ, hnm, hrt, hlk, T, locs, X, N, eT, st⟩ := K
  exact ⟨hx, hby, hml, hown, hZ, hnm, hrt, hlk, T, locs, X, N, eT, fun t kt => st t (XS.lmul X.here hx rfl (hb hby hd) rfl kt)⟩
theorem Run.land {x y : Int64} (K : Run C R Z n0 own nm ret bytes mx h cells slots pc L (.long y :: .long x :: S)) (hd : decode bytes pc = .ok (.land, 1))  : Run C R Z n0 own nm ret bytes mx h cells slots (pc + 1) L (.long (x &&& y) :: S) := by
  obtain ⟨hx, hby, hml, hown, hZ, hnm, hrt, hlk, T, locs, X, N, eT, st⟩ := K
  exact ⟨hx, hby, hml, hown, hZ, hnm, hrt, hlk, T, locs, X, N, eT, fun t kt => st t (XS.land X.here hx rfl (hb hby hd) rfl kt)⟩
theorem Run.lor {x y : Int64} (K : Run C R Z n0 own nm ret bytes mx h cells slots pc L (.long y :: .long x :: S)) (hd : decode bytes pc = .ok (.lor, 1))  : Run C R Z n0 own nm ret bytes mx h cells slots (pc + 1) L (.long (x ||| y) :: S) := by
  obtain ⟨hx, hby, hml, hown, hZ, hnm, hrt, hlk, T, locs, X, N, eT, st⟩ := K
  exact ⟨hx, hby, hml, hown, hZ, hnm, hrt, hlk, T, locs, X, N, eT, fun t kt => st t (XS.lor X.here hx rfl (hb hby hd) rfl kt)⟩
theorem Run.lxor {x y : Int64} (K : Run C R Z n0 own nm ret bytes mx h cells slots pc L (.long y :: .long x :: S)) (hd : decode bytes pc = .ok (.lxor, 1))  : Run C R Z n0 own nm ret bytes mx h cells slots (pc + 1) L (.long (x ^^^ y) :: S) := by
  obtain ⟨hx, hby, hml, hown, hZ, hnm, hrt, hlk, T, locs, X, N, eT, st⟩ := K
  exact ⟨hx, hby, hml, hown, hZ, hnm, hrt, hlk, T, locs, X, N, eT, fun t kt => st t (XS.lxor X.here hx rfl (hb hby hd) rfl kt)⟩
theorem Run.lcmp {x y : Int64} (K : Run C R Z n0 own nm ret bytes mx h cells slots pc L (.long y :: .long x :: S)) (hd : decode bytes pc = .ok (.lcmp, 1))  : Run C R Z n0 own nm ret bytes mx h cells slots (pc + 1) L (.int (lcmpW x y) :: S) := by
  obtain ⟨hx, hby, hml, hown, hZ, hnm, hrt, hlk, T, locs, X, N, eT, st⟩ := K
  exact ⟨hx, hby, hml, hown, hZ, hnm, hrt, hlk, T, locs, X, N, eT, fun t kt => st t (XS.lcmp X.here hx rfl (hb hby hd) rfl kt)⟩
theorem Run.lushr {x : Int64} {y : Int32} (K : Run C R Z n0 own nm ret bytes mx h cells slots pc L (.int y :: .long x :: S)) (hd : decode bytes pc = .ok (.lushr, 1))  : Run C R Z n0 own nm ret bytes mx h cells slots (pc + 1) L (.long ((x.toUInt64 >>> (y &&& 0x3f).toInt64.toUInt64).toInt64) :: S) := by
  obtain ⟨hx, hby, hml, hown, hZ, hnm, hrt, hlk, T, locs, X, N, eT, st⟩ := K
  exact ⟨hx, hby, hml, hown, hZ, hnm, hrt, hlk, T, locs, X, N, eT, fun t kt => st t (XS.lushr X.here hx rfl (hb hby hd) rfl kt)⟩
theorem Run.lshr {x : Int64} {y : Int32} (K : Run C R Z n0 own nm ret bytes mx h cells slots pc L (.int y :: .long x :: S)) (hd : decode bytes pc = .ok (.lshr, 1))  : Run C R Z n0 own nm ret bytes mx h cells slots (pc + 1) L (.long (x >>> (y &&& 0x3f).toInt64) :: S) := by
  obtain ⟨hx, hby, hml, hown, hZ, hnm, hrt, hlk, T, locs, X, N, eT, st⟩ := K
  exact ⟨hx, hby, hml, hown, hZ, hnm, hrt, hlk, T, locs, X, N, eT, fun t kt => st t (XS.lshr X.here hx rfl (hb hby hd) rfl kt)⟩
theorem Run.lshl {x : Int64} {y : Int32} (K : Run C R Z n0 own nm ret bytes mx h cells slots pc L (.int y :: .long x :: S)) (hd : decode bytes pc = .ok (.lshl, 1))  : Run C R Z n0 own nm ret bytes mx h cells slots (pc + 1) L (.long (x <<< (y &&& 0x3f).toInt64) :: S) := by
  obtain ⟨hx, hby, hml, hown, hZ, hnm, hrt, hlk, T, locs, X, N, eT, st⟩ := K
  exact ⟨hx, hby, hml, hown, hZ, hnm, hrt, hlk, T, locs, X, N, eT, fun t kt => st t (XS.lshl X.here hx rfl (hb hby hd) rfl kt)⟩
theorem Run.i2l {x : Int32} (K : Run C R Z n0 own nm ret bytes mx h cells slots pc L (.int x :: S)) (hd : decode bytes pc = .ok (.i2l, 1))  : Run C R Z n0 own nm ret bytes mx h cells slots (pc + 1) L (.long (x.toInt64) :: S) := by
  obtain ⟨hx, hby, hml, hown, hZ, hnm, hrt, hlk, T, locs, X, N, eT, st⟩ := K
  exact ⟨hx, hby, hml, hown, hZ, hnm, hrt, hlk, T, locs, X, N, eT, fun t kt => st t (XS.i2l X.here hx rfl (hb hby hd) rfl kt)⟩
theorem Run.l2i {x : Int64} (K : Run C R Z n0 own nm ret bytes mx h cells slots pc L (.long x :: S)) (hd : decode bytes pc = .ok (.l2i, 1))  : Run C R Z n0 own nm ret bytes mx h cells slots (pc + 1) L (.int (x.toInt32) :: S) := by
  obtain ⟨hx, hby, hml, hown, hZ, hnm, hrt, hlk, T, locs, X, N, eT, st⟩ := K
  exact ⟨hx, hby, hml, hown, hZ, hnm, hrt, hlk, T, locs, X, N, eT, fun t kt => st t (XS.l2i X.here hx rfl (hb hby hd) rfl kt)⟩
theorem Run.i2b {x : Int32} (K : Run C R Z n0 own nm ret bytes mx h cells slots pc L (.int x :: S)) (hd : decode bytes pc = .ok (.i2b, 1))  : Run C R Z n0 own nm ret bytes mx h cells slots (pc + 1) L (.int (x.toInt8.toInt32) :: S) := by
  obtain ⟨hx, hby, hml, hown, hZ, hnm, hrt, hlk, T, locs, X, N, eT, st⟩ := K
  exact ⟨hx, hby, hml, hown, hZ, hnm, hrt, hlk, T, locs, X, N, eT, fun t kt => st t (XS.i2b X.here hx rfl (hb hby hd) rfl kt)⟩
theorem Run.i2s {x : Int32} (K : Run C R Z n0 own nm ret bytes mx h cells slots pc L (.int x :: S)) (hd : decode bytes pc = .ok (.i2s, 1))  : Run C R Z n0 own nm ret bytes mx h cells slots (pc + 1) L (.int (x.toInt16.toInt32) :: S) := by
  obtain ⟨hx, hby, hml, hown, hZ, hnm, hrt, hlk, T, locs, X, N, eT, st⟩ := K
  exact ⟨hx, hby, hml, hown, hZ, hnm, hrt, hlk, T, locs, X, N, eT, fun t kt => st t (XS.i2s X.here hx rfl (hb hby hd) rfl kt)⟩
theorem Run.i2c {x : Int32} (K : Run C R Z n0 own nm ret bytes mx h cells slots pc L (.int x :: S)) (hd : decode bytes pc = .ok (.i2c, 1))  : Run C R Z n0 own nm ret bytes mx h cells slots (pc + 1) L (.int (x.toUInt32.toUInt16.toUInt32.toInt32) :: S) := by
  obtain ⟨hx, hby, hml, hown, hZ, hnm, hrt, hlk, T, locs, X, N, eT, st⟩ := K
  exact ⟨hx, hby, hml, hown, hZ, hnm, hrt, hlk, T, locs, X, N, eT, fun t kt => st t (XS.i2c X.here hx rfl (hb hby hd) rfl kt)⟩
theorem Run.iinc {k : Nat} {cst : Int} {x : Int32} (z : Int32) (l' : Array Slot) (K : Run C R Z n0 own nm ret bytes mx h cells slots pc L S) (hd : decode bytes pc = .ok (.iinc k cst, 3)) (hl : L[k]? = some (.val (.int x))) (hz : Int32.ofInt cst = z) (hl' : storeLocals L k (.int (x + z)) = some l') : Run C R Z n0 own nm ret bytes mx h cells slots (pc + 3) l' S := by
  obtain ⟨hx, hby, hml, hown, hZ, hnm, hrt, hlk, T, locs, X, N, eT, st⟩ := K
  exact ⟨hx, hby, hml, hown, hZ, hnm, hrt, hlk, T, locs, X, N, eT, fun t kt => st t (XS.iinc X.here hx rfl (hb hby hd) hl (by rw [hz]; exact hl') kt)⟩
theorem Run.dup {x : Value} (K : Run C R Z n0 own nm ret bytes mx h cells slots pc L (x :: S)) (hd : decode bytes pc = .ok (.dup, 1)) (hc : x.category = 1) : Run C R Z n0 own nm ret bytes mx h cells slots (pc + 1) L (x :: x :: S) := by
  obtain ⟨hx, hby, hml, hown, hZ, hnm, hrt, hlk, T, locs, X, N, eT, st⟩ := K
  exact ⟨hx, hby, hml, hown, hZ, hnm, hrt, hlk, T, locs, X, N, eT, fun t kt => st t (XS.dup X.here hx rfl (hb hby hd) rfl hc kt)⟩
theorem Run.dupX1 {x y : Value} (K : Run C R Z n0 own nm ret bytes mx h cells slots pc L (x :: y :: S)) (hd : decode bytes pc = .ok (.dup_x1, 1)) (hc : x.category = 1) (hc' : y.category = 1) : Run C R Z n0 own nm ret bytes mx h cells slots (pc + 1) L (x :: y :: x :: S) := by
  obtain ⟨hx, hby, hml, hown, hZ, hnm, hrt, hlk, T, locs, X, N, eT, st⟩ := K
  exact ⟨hx, hby, hml, hown, hZ, hnm, hrt, hlk, T, locs, X, N, eT, fun t kt => st t (XS.dupX1 X.here hx rfl (hb hby hd) rfl hc hc' kt)⟩
theorem Run.pop {x : Value} (K : Run C R Z n0 own nm ret bytes mx h cells slots pc L (x :: S)) (hd : decode bytes pc = .ok (.pop, 1)) (hc : x.category = 1) : Run C R Z n0 own nm ret bytes mx h cells slots (pc + 1) L S := by
  obtain ⟨hx, hby, hml, hown, hZ, hnm, hrt, hlk, T, locs, X, N, eT, st⟩ := K
  exact ⟨hx, hby, hml, hown, hZ, hnm, hrt, hlk, T, locs, X, N, eT, fun t kt => st t (XS.pop X.here hx rfl (hb hby hd) rfl hc kt)⟩
theorem Run.goto {o : Int} {pc' : Nat} (K : Run C R Z n0 own nm ret bytes mx h cells slots pc L S) (hd : decode bytes pc = .ok (.goto o, 3)) (ho : 0 ≤ (pc : Int) + o) (hp : ((pc : Int) + o).toNat = pc') : Run C R Z n0 own nm ret bytes mx h cells slots pc' L S := by
  obtain ⟨hx, hby, hml, hown, hZ, hnm, hrt, hlk, T, locs, X, N, eT, st⟩ := K
  exact ⟨hx, hby, hml, hown, hZ, hnm, hrt, hlk, T, locs, X, N, eT, fun t kt => st t (XS.goto X.here hx rfl (pc0 := pc) rfl (hb hby hd) ho hp kt)⟩
theorem Run.ifYes {cd : ClassFile.Cond} {x : Int32} {o : Int} {pc' : Nat} (K : Run C R Z n0 own nm ret bytes mx h cells slots pc L (.int x :: S)) (hd : decode bytes pc = .ok (.ifCond cd o, 3)) (hc : if_icmp.holds cd x 0 = true) (ho : 0 ≤ (pc : Int) + o) (hp : ((pc : Int) + o).toNat = pc') : Run C R Z n0 own nm ret bytes mx h cells slots pc' L S := by
  obtain ⟨hx, hby, hml, hown, hZ, hnm, hrt, hlk, T, locs, X, N, eT, st⟩ := K
  exact ⟨hx, hby, hml, hown, hZ, hnm, hrt, hlk, T, locs, X, N, eT, fun t kt => st t (XS.ifYes X.here hx rfl (pc0 := pc) rfl (hb hby hd) rfl ((if0 _ _).trans hc) ho hp kt)⟩
theorem Run.ifNo {cd : ClassFile.Cond} {x : Int32} {o : Int} (K : Run C R Z n0 own nm ret bytes mx h cells slots pc L (.int x :: S)) (hd : decode bytes pc = .ok (.ifCond cd o, 3)) (hc : if_icmp.holds cd x 0 = false) : Run C R Z n0 own nm ret bytes mx h cells slots (pc + 3) L S := by
  obtain ⟨hx, hby, hml, hown, hZ, hnm, hrt, hlk, T, locs, X, N, eT, st⟩ := K
  exact ⟨hx, hby, hml, hown, hZ, hnm, hrt, hlk, T, locs, X, N, eT, fun t kt => st t (XS.ifNo X.here hx rfl (hb hby hd) rfl ((if0 _ _).trans hc) kt)⟩
theorem Run.icmpYes {cd : ClassFile.Cond} {x y : Int32} {o : Int} {pc' : Nat} (K : Run C R Z n0 own nm ret bytes mx h cells slots pc L (.int y :: .int x :: S)) (hd : decode bytes pc = .ok (.if_icmp cd o, 3)) (hc : if_icmp.holds cd x y = true) (ho : 0 ≤ (pc : Int) + o) (hp : ((pc : Int) + o).toNat = pc') : Run C R Z n0 own nm ret bytes mx h cells slots pc' L S := by
  obtain ⟨hx, hby, hml, hown, hZ, hnm, hrt, hlk, T, locs, X, N, eT, st⟩ := K
  exact ⟨hx, hby, hml, hown, hZ, hnm, hrt, hlk, T, locs, X, N, eT, fun t kt => st t (XS.icmpYes X.here hx rfl (pc0 := pc) rfl (hb hby hd) rfl hc ho hp kt)⟩
theorem Run.icmpNo {cd : ClassFile.Cond} {x y : Int32} {o : Int} (K : Run C R Z n0 own nm ret bytes mx h cells slots pc L (.int y :: .int x :: S)) (hd : decode bytes pc = .ok (.if_icmp cd o, 3)) (hc : if_icmp.holds cd x y = false) : Run C R Z n0 own nm ret bytes mx h cells slots (pc + 3) L S := by
  obtain ⟨hx, hby, hml, hown, hZ, hnm, hrt, hlk, T, locs, X, N, eT, st⟩ := K
  exact ⟨hx, hby, hml, hown, hZ, hnm, hrt, hlk, T, locs, X, N, eT, fun t kt => st t (XS.icmpNo X.here hx rfl (hb hby hd) rfl hc kt)⟩
theorem Run.ifnullYes {o : Int} {pc' : Nat} (K : Run C R Z n0 own nm ret bytes mx h cells slots pc L (.null :: S)) (hd : decode bytes pc = .ok (.ifnull o, 3)) (ho : 0 ≤ (pc : Int) + o) (hp : ((pc : Int) + o).toNat = pc') : Run C R Z n0 own nm ret bytes mx h cells slots pc' L S := by
  obtain ⟨hx, hby, hml, hown, hZ, hnm, hrt, hlk, T, locs, X, N, eT, st⟩ := K
  exact ⟨hx, hby, hml, hown, hZ, hnm, hrt, hlk, T, locs, X, N, eT, fun t kt => st t (XS.ifnullYes X.here hx rfl (pc0 := pc) rfl (hb hby hd) rfl ho hp kt)⟩
theorem Run.ifnullNo {o : Int} {b : Addr} (K : Run C R Z n0 own nm ret bytes mx h cells slots pc L (.ref b :: S)) (hd : decode bytes pc = .ok (.ifnull o, 3))  : Run C R Z n0 own nm ret bytes mx h cells slots (pc + 3) L S := by
  obtain ⟨hx, hby, hml, hown, hZ, hnm, hrt, hlk, T, locs, X, N, eT, st⟩ := K
  exact ⟨hx, hby, hml, hown, hZ, hnm, hrt, hlk, T, locs, X, N, eT, fun t kt => st t (XS.ifnullNo X.here hx rfl (hb hby hd) rfl kt)⟩
theorem Run.ifnonnullYes {o : Int} {b : Addr} {pc' : Nat} (K : Run C R Z n0 own nm ret bytes mx h cells slots pc L (.ref b :: S)) (hd : decode bytes pc = .ok (.ifnonnull o, 3)) (ho : 0 ≤ (pc : Int) + o) (hp : ((pc : Int) + o).toNat = pc') : Run C R Z n0 own nm ret bytes mx h cells slots pc' L S := by
  obtain ⟨hx, hby, hml, hown, hZ, hnm, hrt, hlk, T, locs, X, N, eT, st⟩ := K
  exact ⟨hx, hby, hml, hown, hZ, hnm, hrt, hlk, T, locs, X, N, eT, fun t kt => st t (XS.ifnonnullYes X.here hx rfl (pc0 := pc) rfl (hb hby hd) rfl ho hp kt)⟩
theorem Run.ifnonnullNo {o : Int} (K : Run C R Z n0 own nm ret bytes mx h cells slots pc L (.null :: S)) (hd : decode bytes pc = .ok (.ifnonnull o, 3))  : Run C R Z n0 own nm ret bytes mx h cells slots (pc + 3) L S := by
  obtain ⟨hx, hby, hml, hown, hZ, hnm, hrt, hlk, T, locs, X, N, eT, st⟩ := K
  exact ⟨hx, hby, hml, hown, hZ, hnm, hrt, hlk, T, locs, X, N, eT, fun t kt => st t (XS.ifnonnullNo X.here hx rfl (hb hby hd) rfl kt)⟩
theorem Run.acmpYes {cd : ClassFile.ACond} {x y : Value} {o : Int} {pc' : Nat} (K : Run C R Z n0 own nm ret bytes mx h cells slots pc L (y :: x :: S)) (hd : decode bytes pc = .ok (.if_acmp cd o, 3)) (h1 : x.isRef = true) (h2 : y.isRef = true) (hc : XT.acmp cd x y = true) (ho : 0 ≤ (pc : Int) + o) (hp : ((pc : Int) + o).toNat = pc') : Run C R Z n0 own nm ret bytes mx h cells slots pc' L S := by
  obtain ⟨hx, hby, hml, hown, hZ, hnm, hrt, hlk, T, locs, X, N, eT, st⟩ := K
  exact ⟨hx, hby, hml, hown, hZ, hnm, hrt, hlk, T, locs, X, N, eT, fun t kt => st t (XT.acmpYes X.here hx rfl (pc0 := pc) rfl (hb hby hd) rfl h1 h2 hc ho hp kt)⟩
theorem Run.acmpNo {cd : ClassFile.ACond} {x y : Value} {o : Int} (K : Run C R Z n0 own nm ret bytes mx h cells slots pc L (y :: x :: S)) (hd : decode bytes pc = .ok (.if_acmp cd o, 3)) (h1 : x.isRef = true) (h2 : y.isRef = true) (hc : XT.acmp cd x y = false) : Run C R Z n0 own nm ret bytes mx h cells slots (pc + 3) L S := by
  obtain ⟨hx, hby, hml, hown, hZ, hnm, hrt, hlk, T, locs, X, N, eT, st⟩ := K
  exact ⟨hx, hby, hml, hown, hZ, hnm, hrt, hlk, T, locs, X, N, eT, fun t kt => st t (XT.acmpNo X.here hx rfl (hb hby hd) rfl h1 h2 hc kt)⟩
theorem Run.dloadN {k : Fin 4} {v : UInt64} (K : Run C R Z n0 own nm ret bytes mx h cells slots pc L S) (hd : decode bytes pc = .ok (.dload_n k, 1)) (hl : L[k.val]? = some (.val (.double v))) : Run C R Z n0 own nm ret bytes mx h cells slots (pc + 1) L (.double v :: S) := by
  obtain ⟨hx, hby, hml, hown, hZ, hnm, hrt, hlk, T, locs, X, N, eT, st⟩ := K
  exact ⟨hx, hby, hml, hown, hZ, hnm, hrt, hlk, T, locs, X, N, eT, fun t kt => st t (XS.dloadN X.here hx rfl (hb hby hd) hl kt)⟩
theorem Run.dload {k : Nat} {v : UInt64} (K : Run C R Z n0 own nm ret bytes mx h cells slots pc L S) (hd : decode bytes pc = .ok (.dload k, 2)) (hl : L[k]? = some (.val (.double v))) : Run C R Z n0 own nm ret bytes mx h cells slots (pc + 2) L (.double v :: S) := by
  obtain ⟨hx, hby, hml, hown, hZ, hnm, hrt, hlk, T, locs, X, N, eT, st⟩ := K
  exact ⟨hx, hby, hml, hown, hZ, hnm, hrt, hlk, T, locs, X, N, eT, fun t kt => st t (XS.dload X.here hx rfl (hb hby hd) hl kt)⟩
theorem Run.dstoreN {k : Fin 4} {v : UInt64} (l' : Array Slot) (K : Run C R Z n0 own nm ret bytes mx h cells slots pc L (.double v :: S)) (hd : decode bytes pc = .ok (.dstore_n k, 1)) (hl : storeLocals L k.val (.double v) = some l') : Run C R Z n0 own nm ret bytes mx h cells slots (pc + 1) l' S := by
  obtain ⟨hx, hby, hml, hown, hZ, hnm, hrt, hlk, T, locs, X, N, eT, st⟩ := K
  exact ⟨hx, hby, hml, hown, hZ, hnm, hrt, hlk, T, locs, X, N, eT, fun t kt => st t (XS.dstoreN X.here hx rfl (hb hby hd) rfl hl kt)⟩
theorem Run.dstore {k : Nat} {v : UInt64} (l' : Array Slot) (K : Run C R Z n0 own nm ret bytes mx h cells slots pc L (.double v :: S)) (hd : decode bytes pc = .ok (.dstore k, 2)) (hl : storeLocals L k (.double v) = some l') : Run C R Z n0 own nm ret bytes mx h cells slots (pc + 2) l' S := by
  obtain ⟨hx, hby, hml, hown, hZ, hnm, hrt, hlk, T, locs, X, N, eT, st⟩ := K
  exact ⟨hx, hby, hml, hown, hZ, hnm, hrt, hlk, T, locs, X, N, eT, fun t kt => st t (XS.dstore X.here hx rfl (hb hby hd) rfl hl kt)⟩
theorem Run.dconst0 (z : UInt64) (K : Run C R Z n0 own nm ret bytes mx h cells slots pc L S) (hd : decode bytes pc = .ok (.dconst 0, 1)) (hz : FP.dconst0 = z) : Run C R Z n0 own nm ret bytes mx h cells slots (pc + 1) L (.double z :: S) := by
  obtain ⟨hx, hby, hml, hown, hZ, hnm, hrt, hlk, T, locs, X, N, eT, st⟩ := K
  exact ⟨hx, hby, hml, hown, hZ, hnm, hrt, hlk, T, locs, X, N, eT, fun t kt => st t (XS.dconst0 X.here hx rfl (hb hby hd) hz kt)⟩
theorem Run.i2d {x : Int32} (z : UInt64) (K : Run C R Z n0 own nm ret bytes mx h cells slots pc L (.int x :: S)) (hd : decode bytes pc = .ok (.i2d, 1)) (hz : FP.i2d x = z) : Run C R Z n0 own nm ret bytes mx h cells slots (pc + 1) L (.double z :: S) := by
  obtain ⟨hx, hby, hml, hown, hZ, hnm, hrt, hlk, T, locs, X, N, eT, st⟩ := K
  exact ⟨hx, hby, hml, hown, hZ, hnm, hrt, hlk, T, locs, X, N, eT, fun t kt => st t (XS.i2dS X.here hx rfl (hb hby hd) rfl hz kt)⟩
theorem Run.l2d {x : Int64} (z : UInt64) (K : Run C R Z n0 own nm ret bytes mx h cells slots pc L (.long x :: S)) (hd : decode bytes pc = .ok (.l2d, 1)) (hz : FP.l2d x = z) : Run C R Z n0 own nm ret bytes mx h cells slots (pc + 1) L (.double z :: S) := by
  obtain ⟨hx, hby, hml, hown, hZ, hnm, hrt, hlk, T, locs, X, N, eT, st⟩ := K
  exact ⟨hx, hby, hml, hown, hZ, hnm, hrt, hlk, T, locs, X, N, eT, fun t kt => st t (XS.l2dS X.here hx rfl (hb hby hd) rfl hz kt)⟩
theorem Run.dadd {x y : UInt64} (z : UInt64) (K : Run C R Z n0 own nm ret bytes mx h cells slots pc L (.double y :: .double x :: S)) (hd : decode bytes pc = .ok (.dadd, 1)) (hn : Jvm.Free.Fl.NoNaN64 (FP.dadd x y)) (hz : FP.dadd x y = z) : Run C R Z n0 own nm ret bytes mx h cells slots (pc + 1) L (.double z :: S) := by
  obtain ⟨hx, hby, hml, hown, hZ, hnm, hrt, hlk, T, locs, X, N, eT, st⟩ := K
  exact ⟨hx, hby, hml, hown, hZ, hnm, hrt, hlk, T, locs, X, N, eT, fun t kt => st t (XS.daddS X.here hx rfl (hb hby hd) rfl hn hz kt)⟩
theorem Run.ddiv {x y : UInt64} (z : UInt64) (K : Run C R Z n0 own nm ret bytes mx h cells slots pc L (.double y :: .double x :: S)) (hd : decode bytes pc = .ok (.ddiv, 1)) (hn : Jvm.Free.Fl.NoNaN64 (FP.ddiv x y)) (hz : FP.ddiv x y = z) : Run C R Z n0 own nm ret bytes mx h cells slots (pc + 1) L (.double z :: S) := by
  obtain ⟨hx, hby, hml, hown, hZ, hnm, hrt, hlk, T, locs, X, N, eT, st⟩ := K
  exact ⟨hx, hby, hml, hown, hZ, hnm, hrt, hlk, T, locs, X, N, eT, fun t kt => st t (XS.ddivS X.here hx rfl (hb hby hd) rfl hn hz kt)⟩
theorem Run.dcmp {o : CmpOp} {x y : UInt64} (z : Int32) (K : Run C R Z n0 own nm ret bytes mx h cells slots pc L (.double y :: .double x :: S)) (hd : decode bytes pc = .ok (.dcmp o, 1)) (hz : cmpValue (FP.dcmp x y) o = z) : Run C R Z n0 own nm ret bytes mx h cells slots (pc + 1) L (.int z :: S) := by
  obtain ⟨hx, hby, hml, hown, hZ, hnm, hrt, hlk, T, locs, X, N, eT, st⟩ := K
  exact ⟨hx, hby, hml, hown, hZ, hnm, hrt, hlk, T, locs, X, N, eT, fun t kt => st t (XS.dcmpS X.here hx rfl (hb hby hd) rfl hz kt)⟩
theorem Run.foldI {w : Int32} (K : Run C R Z n0 own nm ret bytes mx h cells slots pc L (.int w :: S)) (z : Int32) (q : w = z) : Run C R Z n0 own nm ret bytes mx h cells slots pc L (.int z :: S) := q ▸ K
theorem Run.foldJ {w : Int64} (K : Run C R Z n0 own nm ret bytes mx h cells slots pc L (.long w :: S)) (z : Int64) (q : w = z) : Run C R Z n0 own nm ret bytes mx h cells slots pc L (.long z :: S) := q ▸ K
theorem Run.stk (K : Run C R Z n0 own nm ret bytes mx h cells slots pc L S) (S' : List Value) (q : S = S') : Run C R Z n0 own nm ret bytes mx h cells slots pc L S' := q ▸ K
theorem Run.loc (K : Run C R Z n0 own nm ret bytes mx h cells slots pc L S) (L' : Array Slot) (q : L = L') : Run C R Z n0 own nm ret bytes mx h cells slots pc L' S := q ▸ K
theorem Run.atpc (K : Run C R Z n0 own nm ret bytes mx h cells slots pc L S) (pc' : Nat) (q : pc = pc') : Run C R Z n0 own nm ret bytes mx h cells slots pc' L S := q ▸ K
theorem Run.ldcInt {a0 : Array Value} {index : Nat} {v : Int32} (K : Run C R Z n0 own nm ret bytes mx h cells slots pc L S) (hd : decode bytes pc = .ok (.ldc index, 2)) (w : (Jvm.Cond.constant own index v).before a0 Z = true) : Run C R Z n0 own nm ret bytes mx h cells slots (pc + 2) L (.int v :: S) := by
  obtain ⟨hx, hby, hml, hown, hZ, hnm, hrt, hlk, T, locs, X, N, eT, st⟩ := K
  exact ⟨hx, hby, hml, hown, hZ, hnm, hrt, hlk, T, locs, X, N, eT, fun t kt => st t (X.ldcInt hx hown (mvT hZ w) (g := mkF C.2.2.2.2.1 pc L S) rfl (hb hby hd) t kt)⟩
theorem Run.ldc2Long {a0 : Array Value} {index : Nat} {v : Int64} (K : Run C R Z n0 own nm ret bytes mx h cells slots pc L S) (hd : decode bytes pc = .ok (.ldc2_w index, 3)) (w : (Jvm.Cond.constantLong own index v).before a0 Z = true) : Run C R Z n0 own nm ret bytes mx h cells slots (pc + 3) L (.long v :: S) := by
  obtain ⟨hx, hby, hml, hown, hZ, hnm, hrt, hlk, T, locs, X, N, eT, st⟩ := K
  exact ⟨hx, hby, hml, hown, hZ, hnm, hrt, hlk, T, locs, X, N, eT, fun t kt => st t (X.ldc2Long hx hown (mvT hZ w) (g := mkF C.2.2.2.2.1 pc L S) rfl (hb hby hd) t kt)⟩
/-! returns -/
theorem Run.iret {z : Int32} {Q : Option Value → Heap → Prop} (K : Run C R Z n0 own nm ret bytes mx h cells slots pc L (.int z :: S)) (hd : decode bytes pc = .ok (.ireturn, 1)) {ty : FieldType} (hr : ret = some ty) (ht : ty = .int ∨ ty = .boolean ∨ ty = .byte ∨ ty = .char ∨ ty = .short) (hn : narrow ty (.int z) = .int z) (hQ : Q (some (.int z)) h) (hc : cells ≤ R.cells) (hs : slots ≤ R.slots) : Fini C R n0 Q := by
  obtain ⟨hx, hby, hml, hown, hZ, hnm, hrt, hlk, T, locs, X, N, eT, st⟩ := K
  obtain ⟨fs, hr', hrun, hended, hW, hsame⟩ := X.leave (v := some (.int z)) (fun q => by rw [hrt, hr] at q; cases q) hlk
  exact ⟨_, _, st _ (retOut X hx (hrt.trans hr) hn (Or.inl ⟨rfl, ht, _, rfl⟩) (hb hby hd) hr'), hrun, hended, _, _, rfl, ⟨by rw [show (T.setFrames fs).heap = T.heap from rfl, eT]; exact hQ, N⟩, ⟨_, rfl⟩, hW, hsame.mono hc hs⟩
theorem Run.lret {z : Int64} {Q : Option Value → Heap → Prop} (K : Run C R Z n0 own nm ret bytes mx h cells slots pc L (.long z :: S)) (hd : decode bytes pc = .ok (.lreturn, 1)) (hr : ret = some .long) (hQ : Q (some (.long z)) h) (hc : cells ≤ R.cells) (hs : slots ≤ R.slots) : Fini C R n0 Q := by
  obtain ⟨hx, hby, hml, hown, hZ, hnm, hrt, hlk, T, locs, X, N, eT, st⟩ := K
  obtain ⟨fs, hr', hrun, hended, hW, hsame⟩ := X.leave (v := some (.long z)) (fun q => by rw [hrt, hr] at q; cases q) hlk
  exact ⟨_, _, st _ (retOut X hx (hrt.trans hr) rfl (Or.inr (Or.inl ⟨rfl, rfl, _, rfl⟩)) (hb hby hd) hr'), hrun, hended, _, _, rfl, ⟨by rw [show (T.setFrames fs).heap = T.heap from rfl, eT]; exact hQ, N⟩, ⟨_, rfl⟩, hW, hsame.mono hc hs⟩
theorem Run.dret {z : UInt64} {Q : Option Value → Heap → Prop} (K : Run C R Z n0 own nm ret bytes mx h cells slots pc L (.double z :: S)) (hd : decode bytes pc = .ok (.dreturn, 1)) (hr : ret = some .double) (hQ : Q (some (.double z)) h) (hc : cells ≤ R.cells) (hs : slots ≤ R.slots) : Fini C R n0 Q := by
  obtain ⟨hx, hby, hml, hown, hZ, hnm, hrt, hlk, T, locs, X, N, eT, st⟩ := K
  obtain ⟨fs, hr', hrun, hended, hW, hsame⟩ := X.leave (v := some (.double z)) (fun q => by rw [hrt, hr] at q; cases q) hlk
  exact ⟨_, _, st _ (retOut X hx (hrt.trans hr) rfl (Or.inr (Or.inr (Or.inl ⟨rfl, rfl, _, rfl⟩))) (hb hby hd) hr'), hrun, hended, _, _, rfl, ⟨by rw [show (T.setFrames fs).heap = T.heap from rfl, eT]; exact hQ, N⟩, ⟨_, rfl⟩, hW, hsame.mono hc hs⟩
theorem Run.aret {w : Value} {Q : Option Value → Heap → Prop} (K : Run C R Z n0 own nm ret bytes mx h cells slots pc L (w :: S)) (hd : decode bytes pc = .ok (.areturn, 1)) {ty : FieldType} (hr : ret = some ty) (ht : ty.isReference = true) (hn : narrow ty w = w) (hw : w.isRef = true) (hQ : Q (some w) h) (hc : cells ≤ R.cells) (hs : slots ≤ R.slots) : Fini C R n0 Q := by
  obtain ⟨hx, hby, hml, hown, hZ, hnm, hrt, hlk, T, locs, X, N, eT, st⟩ := K
  obtain ⟨fs, hr', hrun, hended, hW, hsame⟩ := X.leave (v := some w) (fun q => by rw [hrt, hr] at q; cases q) hlk
  exact ⟨_, _, st _ (retOut X hx (hrt.trans hr) hn (Or.inr (Or.inr (Or.inr (Or.inr ⟨rfl, ht, hw⟩)))) (hb hby hd) hr'), hrun, hended, _, _, rfl, ⟨by rw [show (T.setFrames fs).heap = T.heap from rfl, eT]; exact hQ, N⟩, ⟨_, rfl⟩, hW, hsame.mono hc hs⟩
theorem Run.vret {Q : Option Value → Heap → Prop} (K : Run C R Z n0 own nm ret bytes mx h cells slots pc L []) (hd : decode bytes pc = .ok (.return_, 1)) (hr : ret = none) (hQ : Q none h) (hc : cells ≤ R.cells) (hs : slots ≤ R.slots) : Fini C R n0 Q := by
  obtain ⟨hx, hby, hml, hown, hZ, hnm, hrt, hlk, T, locs, X, N, eT, st⟩ := K
  obtain ⟨fs, hr', hrun, hended, hW, hsame⟩ := X.leave (v := none) (fun _ => rfl) hlk
  exact ⟨_, _, st _ (X.returnOut hx (hrt.trans hr) (hb hby hd) hr'), hrun, hended, _, _, rfl, ⟨by rw [show (T.setFrames fs).heap = T.heap from rfl, eT]; exact hQ, N⟩, ⟨_, rfl⟩, hW, hsame.mono hc hs⟩
/-! calls -/
theorem Run.callS {a0 : Array Value} {index : Nat} {y : MethodName} {by2 : ByteArray} {mx2 W : Nat} {rt2 : Option FieldType} {rm : Room} {argsL rest : List Value} {Q : Option Value → Heap → Prop} {ps : List FieldType} (K : Run C R Z n0 own nm ret bytes mx h cells slots pc L S) (hd : decode bytes pc = .ok (.invokestatic index, 3))
    (wl : (Jvm.Cond.methodLink own index y).before a0 Z = true) (wst : (Jvm.Cond.static y).before a0 Z = true) (wi : (Jvm.Cond.initialized y.cls).before a0 Z = true) (wc : (Jvm.Cond.code y by2 mx2 rt2).before a0 Z = true)
    (con : Con Z n0 y by2 mx2 rt2 [] rm argsL.toArray h Q) (hS : S = argsL.reverse ++ rest) (hpd : parseMethodDescriptor y.desc = some ⟨ps, rt2⟩) (hlen : argsL.length = ps.length) (hW : (rest.map fun v => v.category).sum = W) (hLs : L.size = mx)
    (hfr : rm.frames + 1 ≤ R.frames) (hlo : W + (mx2 + 11) + rm.locals ≤ R.locals) (hce : cells + rm.cells ≤ R.cells) (hsl : slots + rm.slots ≤ R.slots) (hy : y.cls ≠ "java/lang/invoke/MethodHandle" ∧ y.cls ≠ "java/lang/invoke/VarHandle") :
    ∃ v h', Q v h' ∧ Run C R Z n0 own nm ret bytes mx h' (cells + rm.cells) (slots + rm.slots) (pc + 3) L (v.toList ++ rest) := by
  obtain ⟨hx, hby, hml, hown, hZ, hnm, hrt, hlk, T, locs, X, N, eT, st⟩ := K
  obtain ⟨v, _, ⟨T', L', k', n'⟩, -, X', ⟨Lc, hQ, l1, y1, z1⟩, st'⟩ := Jvm.LawKit.callS X hx (y := y) hown (mvT hZ wl) (mvT hZ wst) (mvT hZ wi) (mvT hZ wc) hy (backOf (Q := fun v h L => Q v h ∧ Fr n0 L) (W := W) (con C.2.1) hZ wc wi hfr hlo) (g := mkF C.2.2.2.2.1 pc L S) rfl (by rw [hml]; exact hLs) (argsL := argsL) (rest := rest) (lenOf hpd hlen) hS (by show 2 * 0 + _ ≤ _; omega) (hb hby hd) (fun _ _ => ⟨rfl, eT, hce, hsl⟩)
  dsimp only [Pt.U, Pt.locs, Pt.cells, Pt.slots] at X' l1 y1 z1 st' hQ
  subst l1 y1 z1
  exact ⟨v, T'.heap, hQ.1, hx, hby, hml, hown, hZ, hnm, hrt, hlk, T', _, X', Fr.app N hQ.2, rfl, fun t kt => st t (st' t kt)⟩
theorem Run.callI {a0 : Array Value} {index : Nat} {y : MethodName} {by2 : ByteArray} {mx2 W : Nat} {rm : Room} {a : Addr} {argsL rest : List Value} {Q : Option Value → Heap → Prop} {ps : List FieldType} (K : Run C R Z n0 own nm ret bytes mx h cells slots pc L S) (hd : decode bytes pc = .ok (.invokespecial index, 3))
    (hy1 : y.name = "<init>") (wl : (Jvm.Cond.methodLink own index y).before a0 Z = true) (wst : (Jvm.Cond.instanceMethod y).before a0 Z = true) (wi : (Jvm.Cond.initialized y.cls).before a0 Z = true) (wc : (Jvm.Cond.code y by2 mx2 none).before a0 Z = true)
    (con : Con Z n0 y by2 mx2 none [] rm (.ref a :: argsL).toArray h Q) (hS : S = argsL.reverse ++ .ref a :: rest) (hpd : parseMethodDescriptor y.desc = some ⟨ps, none⟩) (hlen : argsL.length = ps.length) (hW : (rest.map fun v => v.category).sum = W) (hLs : L.size = mx)
    (hfr : rm.frames + 1 ≤ R.frames) (hlo : W + (mx2 + 11) + rm.locals ≤ R.locals) (hce : cells + rm.cells ≤ R.cells) (hsl : slots + rm.slots ≤ R.slots) (hy : y.cls ≠ "java/lang/invoke/MethodHandle" ∧ y.cls ≠ "java/lang/invoke/VarHandle") :
    ∃ v h', Q v h' ∧ Run C R Z n0 own nm ret bytes mx h' (cells + rm.cells) (slots + rm.slots) (pc + 3) L (v.toList ++ rest) := by
  obtain ⟨hx, hby, hml, hown, hZ, hnm, hrt, hlk, T, locs, X, N, eT, st⟩ := K
  obtain ⟨v, _, ⟨T', L', k', n'⟩, -, X', ⟨Lc, hQ, l1, y1, z1⟩, st'⟩ := X.specialBack hx (y := y) hy1 hown (mvT hZ wl) (mvT hZ wst) (mvT hZ wc) hy (backOf (Q := fun v h L => Q v h ∧ Fr n0 L) (W := W) (con C.2.1) hZ wc wi hfr hlo) (g := mkF C.2.2.2.2.1 pc L S) rfl (by rw [hml]; exact hLs) (Steps.refl _) (a := a) (argsL := argsL) (rest := rest) (lenOf hpd hlen) hS (by show 2 * 0 + _ ≤ _; omega) (hb hby hd) (fun _ _ => ⟨rfl, eT, hce, hsl⟩)
  dsimp only [Pt.U, Pt.locs, Pt.cells, Pt.slots] at X' l1 y1 z1 st' hQ
  subst l1 y1 z1
  exact ⟨v, T'.heap, hQ.1, hx, hby, hml, hown, hZ, hnm, hrt, hlk, T', _, X', Fr.app N hQ.2, rfl, fun t kt => st t (st'.trans kt)⟩
theorem Run.callV {a0 : Array Value} {index : Nat} {y z : MethodName} {Cl : String} {by2 : ByteArray} {mx2 W : Nat} {rt2 : Option FieldType} {rm : Room} {a : Addr} {argsL rest : List Value} {Q : Option Value → Heap → Prop} {ps : List FieldType} (K : Run C R Z n0 own nm ret bytes mx h cells slots pc L S) (hd : decode bytes pc = .ok (.invokevirtual index, 3))
    (wl : (Jvm.Cond.methodLink own index y).before a0 Z = true) (wd : (Jvm.Cond.declares y).before a0 Z = true) (nf : ∀ s : State, Z.Warmed39 s.vm → NotFace s y) (ws : (Jvm.Cond.selects Cl y z).before a0 Z = true) (wst : (Jvm.Cond.instanceMethod z).before a0 Z = true) (wi : (Jvm.Cond.initialized z.cls).before a0 Z = true) (wc : (Jvm.Cond.code z by2 mx2 rt2).before a0 Z = true)
    (E : Exa Z h a Cl) (con : Con Z n0 z by2 mx2 rt2 [] rm (.ref a :: argsL).toArray h Q) (hS : S = argsL.reverse ++ .ref a :: rest) (hpd : parseMethodDescriptor y.desc = some ⟨ps, rt2⟩) (hlen : argsL.length = ps.length) (hW : (rest.map fun v => v.category).sum = W) (hLs : L.size = mx)
    (hfr : rm.frames + 1 ≤ R.frames) (hlo : W + (mx2 + 11) + rm.locals ≤ R.locals) (hce : cells + rm.cells ≤ R.cells) (hsl : slots + rm.slots ≤ R.slots) (hy : y.cls ≠ "java/lang/invoke/MethodHandle" ∧ y.cls ≠ "java/lang/invoke/VarHandle") :
    ∃ v h', Q v h' ∧ Run C R Z n0 own nm ret bytes mx h' (cells + rm.cells) (slots + rm.slots) (pc + 3) L (v.toList ++ rest) := by
  obtain ⟨hx, hby, hml, hown, hZ, hnm, hrt, hlk, T, locs, X, N, eT, st⟩ := K
  obtain ⟨cq, kq, qa, qb, qc⟩ := isOf hZ eT E
  obtain ⟨v, _, ⟨T', L', k', n'⟩, -, X', ⟨Lc, hQ, l1, y1, z1⟩, st'⟩ := X.virtualBack hx (y := y) (z := z) hown (mvT hZ wl) (mvT hZ wd) (nf _ hZ) (mvT hZ ws) (mvT hZ wst) hy (backOf (Q := fun v h L => Q v h ∧ Fr n0 L) (W := W) (con C.2.1) hZ wc wi hfr hlo) qa qc (g := mkF C.2.2.2.2.1 pc L S) rfl (by rw [hml]; exact hLs) (Steps.refl _) (argsL := argsL) (rest := rest) (lenOf hpd hlen) hS (by show 2 * 0 + _ ≤ _; omega) (hb hby hd) (fun _ _ => ⟨rfl, eT, hce, hsl⟩)
  dsimp only [Pt.U, Pt.locs, Pt.cells, Pt.slots] at X' l1 y1 z1 st' hQ
  subst l1 y1 z1
  exact ⟨v, T'.heap, hQ.1, hx, hby, hml, hown, hZ, hnm, hrt, hlk, T', _, X', Fr.app N hQ.2, rfl, fun t kt => st t (st'.trans kt)⟩
/-! fields, statics, objects -/
theorem Run.getF {a0 : Array Value} {index : Nat} {R0 O n d host : String} {a : Addr} {v : Value} (K : Run C R Z n0 own nm ret bytes mx h cells slots pc L (.ref a :: S)) (hd : decode bytes pc = .ok (.getfield index, 3)) (w : (Jvm.Cond.fieldLink own index R0 n d).before a0 Z = true ∨ (Jvm.Cond.fieldLinkNest own index R0 n d host).before a0 Z = true) (via : Via Z R0 O n d) (F : Fld Z h a O n d v) :
    Run C R Z n0 own nm ret bytes mx h cells slots (pc + 3) L (v :: S) := by
  obtain ⟨hx, hby, hml, hown, hZ, hnm, hrt, hlk, T, locs, X, N, eT, st⟩ := K
  obtain ⟨T', X', e', st'⟩ := RoadKit.getF X hx hZ hown w via eT F (g := mkF C.2.2.2.2.1 pc L (.ref a :: S)) rfl rfl (hb hby hd)
  exact ⟨hx, hby, hml, hown, hZ, hnm, hrt, hlk, T', locs, X', N, e', fun t kt => st t (st' t kt)⟩
theorem Run.getS {a0 : Array Value} {index : Nat} {R0 O n d host : String} {v : Value} (K : Run C R Z n0 own nm ret bytes mx h cells slots pc L S) (hd : decode bytes pc = .ok (.getstatic index, 3)) (w : (Jvm.Cond.fieldLink own index R0 n d).before a0 Z = true ∨ (Jvm.Cond.fieldLinkNest own index R0 n d host).before a0 Z = true) (via : Via Z R0 O n d) (F : Sta Z h O n d v) :
    Run C R Z n0 own nm ret bytes mx h cells slots (pc + 3) L (v :: S) := by
  obtain ⟨hx, hby, hml, hown, hZ, hnm, hrt, hlk, T, locs, X, N, eT, st⟩ := K
  obtain ⟨T', X', e', st'⟩ := RoadKit.getS2 X hx hZ hown w via eT F (g := mkF C.2.2.2.2.1 pc L S) rfl (hb hby hd)
  exact ⟨hx, hby, hml, hown, hZ, hnm, hrt, hlk, T', locs, X', N, e', fun t kt => st t (st' t kt)⟩
theorem Run.putF {a0 : Array Value} {index kk : Nat} {R0 O n d host Cl : String} {ty : FieldType} {a : Addr} {v old : Value} (K : Run C R Z n0 own nm ret bytes mx h cells slots pc L (v :: .ref a :: S)) (hd : decode bytes pc = .ok (.putfield index, 3)) (w : (Jvm.Cond.fieldLink own index R0 n d).before a0 Z = true ∨ (Jvm.Cond.fieldLinkNest own index R0 n d host).before a0 Z = true) (via : Via Z R0 O n d)
    (F : Fld Z h a O n d old) (E : Exa Z h a Cl) (Lw : (Jvm.Cond.lays Cl O n d).before a0 Z = true ∨ ((Jvm.Cond.laysFinal Cl O n d).before a0 Z = true ∧ own = O ∧ nm = "<init>")) (wi : (Jvm.Cond.instantiable Cl kk).before a0 Z = true) (hty : parseFieldDescriptor d = some ty) (hn : narrow ty v = v) (hf : fits ty v = true) (ga : n0 ≤ a) :
    ∃ h', Wr h h' a (RoadKit.slotOf Z O n d) v ∧ Run C R Z n0 own nm ret bytes mx h' cells slots (pc + 3) L S := by
  obtain ⟨hx, hby, hml, hown, hZ, hnm, hrt, hlk, T, locs, X, N, eT, st⟩ := K
  obtain ⟨T', h', X', e', W', st'⟩ := RoadKit.putF X hx hZ hown w via eT F E (Lw.imp id fun q => ⟨q.1, q.2.1, hnm.trans q.2.2⟩) wi hty hn hf (g := mkF C.2.2.2.2.1 pc L (v :: .ref a :: S)) rfl rfl (hb hby hd)
  exact ⟨h', W', hx, hby, hml, hown, hZ, hnm, hrt, hlk, T', _, X', Fr.snoc X' N ga, e', fun t kt => st t (st' t kt)⟩
theorem Run.newO {a0 : Array Value} {index n : Nat} {Cl : String} (K : Run C R Z n0 own nm ret bytes mx h cells slots pc L S) (hd : decode bytes pc = .ok (.new index, 3)) (w : (Jvm.Cond.classLink own index Cl).before a0 Z = true) (wi : (Jvm.Cond.instantiable Cl n).before a0 Z = true) (wz : (Jvm.Cond.initialized Cl).before a0 Z = true) (hc : cells + 1 ≤ R.cells) (hl : slots + n ≤ R.slots) :
    ∃ (h' : Heap) (b : Addr), b = h.size ∧ Ext h h' ∧ Exa Z h' b Cl ∧ (∀ {O f d : String} {ty : FieldType}, Laid Z a0 Cl O f d → parseFieldDescriptor d = some ty → Fld Z h' b O f d (defaultValue ty)) ∧ Run C R Z n0 own nm ret bytes mx h' (cells + 1) (slots + n) (pc + 3) L (.ref b :: S) := by
  obtain ⟨hx, hby, hml, hown, hZ, hnm, hrt, hlk, T, locs, X, N, eT, st⟩ := K
  obtain ⟨T', h', X', e', E', A', D', -, st'⟩ := RoadKit.newO X hx hZ hown w wi wz eT (g := mkF C.2.2.2.2.1 pc L S) rfl (hb hby hd) hc hl
  exact ⟨h', _, rfl, E', A', D', hx, hby, hml, hown, hZ, hnm, hrt, hlk, T', _, X', N, e', fun t kt => st t (st' t kt)⟩
theorem Run.initO {a0 : Array Value} {index W : Nat} {a : Addr} (K : Run C R Z n0 own nm ret bytes mx h cells slots pc L (.ref a :: S)) (hd : decode bytes pc = .ok (.invokespecial index, 3)) (w1 : (Jvm.Cond.methodLink own index Lib.objectInit).before a0 Z = true) (w2 : (Jvm.Cond.instanceMethod Lib.objectInit).before a0 Z = true) (w3 : (Jvm.Cond.code Lib.objectInit ⟨#[0xb1]⟩ 1 none).before a0 Z = true) (hLs : L.size = mx) (hW : (S.map fun v => v.category).sum = W) (hf : 1 ≤ R.frames) (hl : W + 12 ≤ R.locals) :
    Run C R Z n0 own nm ret bytes mx h cells slots (pc + 3) L S := by
  obtain ⟨hx, hby, hml, hown, hZ, hnm, hrt, hlk, T, locs, X, N, eT, st⟩ := K
  obtain ⟨T', X', e', st'⟩ := RoadKit.initO X hx hZ hown w1 w2 w3 eT (g := mkF C.2.2.2.2.1 pc L (.ref a :: S)) rfl (by rw [hml]; exact hLs) rfl (hb hby hd) hf (W := W) (by show 2 * 0 + _ ≤ _; omega) hl
  exact ⟨hx, hby, hml, hown, hZ, hnm, hrt, hlk, T', locs, X', N, e', fun t kt => st t (st' t kt)⟩
theorem Run.castY {a0 : Array Value} {index : Nat} {Kl : String} {a : Addr} (K : Run C R Z n0 own nm ret bytes mx h cells slots pc L (.ref a :: S)) (hd : decode bytes pc = .ok (.checkcast index, 3)) (w : (Jvm.Cond.classLink own index Kl).before a0 Z = true) (F : Ins Z h a Kl true) : Run C R Z n0 own nm ret bytes mx h cells slots (pc + 3) L (.ref a :: S) := by
  obtain ⟨hx, hby, hml, hown, hZ, hnm, hrt, hlk, T, locs, X, N, eT, st⟩ := K
  obtain ⟨T', X', e', st'⟩ := RoadKit.castY X hx hZ hown w eT F (g := mkF C.2.2.2.2.1 pc L (.ref a :: S)) rfl rfl (hb hby hd)
  exact ⟨hx, hby, hml, hown, hZ, hnm, hrt, hlk, T', locs, X', N, e', fun t kt => st t (st' t kt)⟩
/-! arrays, by a function of the place -/
theorem Run.arrlen {a : Addr} {ty : FieldType} {n : Nat} {f : Nat → Value} (K : Run C R Z n0 own nm ret bytes mx h cells slots pc L (.ref a :: S)) (hd : decode bytes pc = .ok (.arraylength, 1)) (F : Arf Z h a ty n f) (z : Int32) (hz : n.toInt32 = z) : Run C R Z n0 own nm ret bytes mx h cells slots (pc + 1) L (.int z :: S) := by
  obtain ⟨hx, hby, hml, hown, hZ, hnm, hrt, hlk, T, locs, X, N, eT, st⟩ := K
  obtain ⟨cl, Ar, Sz, H⟩ := F
  subst hz Sz
  exact ⟨hx, hby, hml, hown, hZ, hnm, hrt, hlk, T, locs, X, N, eT, fun t kt => st t (X.arraylength hx (by rw [eT]; exact Ar.1) (State.isArrayOf_alike hZ.alike Ar.2.1) (g := mkF C.2.2.2.2.1 pc L (.ref a :: S)) rfl rfl (hb hby hd) t kt)⟩
theorem Run.iaload {a : Addr} {n : Nat} {f : Nat → Value} {j : Int32} (K : Run C R Z n0 own nm ret bytes mx h cells slots pc L (.int j :: .ref a :: S)) (hd : decode bytes pc = .ok (.iaload, 1)) (F : Arf Z h a .int n f) (i : Nat) (hj : j.toNatClampNeg = i) (h0 : ¬ j < 0) (hi : i < n) (v : Value) (hv : f i = v) : Run C R Z n0 own nm ret bytes mx h cells slots (pc + 1) L (v :: S) := by
  obtain ⟨hx, hby, hml, hown, hZ, hnm, hrt, hlk, T, locs, X, N, eT, st⟩ := K
  obtain ⟨cl, Ar, Sz, H⟩ := F
  subst hj hv Sz
  exact ⟨hx, hby, hml, hown, hZ, hnm, hrt, hlk, T, locs, X, N, eT, fun t kt => st t (X.iaload hx (j := j) (v := f j.toNatClampNeg) (by rw [eT]; exact Ar.1) (State.isArrayOf_alike hZ.alike Ar.2.1) Ar.2.2 (fun q => q.elim h0 (Nat.not_le.mpr hi)) (H _ hi) (g := mkF C.2.2.2.2.1 pc L (.int j :: .ref a :: S)) rfl rfl (hb hby hd) t kt)⟩
theorem Run.baload {a : Addr} {n : Nat} {f : Nat → Value} {j : Int32} (K : Run C R Z n0 own nm ret bytes mx h cells slots pc L (.int j :: .ref a :: S)) (hd : decode bytes pc = .ok (.baload, 1)) (F : Arf Z h a .byte n f) (i : Nat) (hj : j.toNatClampNeg = i) (h0 : ¬ j < 0) (hi : i < n) (v : Value) (hv : f i = v) : Run C R Z n0 own nm ret bytes mx h cells slots (pc + 1) L (v :: S) := by
  obtain ⟨hx, hby, hml, hown, hZ, hnm, hrt, hlk, T, locs, X, N, eT, st⟩ := K
  obtain ⟨cl, Ar, Sz, H⟩ := F
  subst hj hv Sz
  exact ⟨hx, hby, hml, hown, hZ, hnm, hrt, hlk, T, locs, X, N, eT, fun t kt => st t (X.baloadBytes hx (j := j) (v := f j.toNatClampNeg) (by rw [eT]; exact Ar.1) (State.isArrayOf_alike hZ.alike Ar.2.1) Ar.2.2 (fun q => q.elim h0 (Nat.not_le.mpr hi)) (H _ hi) (g := mkF C.2.2.2.2.1 pc L (.int j :: .ref a :: S)) rfl rfl (hb hby hd) t kt)⟩
theorem Run.aaload {a : Addr} {ty : FieldType} {n : Nat} {f : Nat → Value} {j : Int32} (K : Run C R Z n0 own nm ret bytes mx h cells slots pc L (.int j :: .ref a :: S)) (hd : decode bytes pc = .ok (.aaload, 1)) (F : Arf Z h a ty n f) (hty : ty.isReference = true) (i : Nat) (hj : j.toNatClampNeg = i) (h0 : ¬ j < 0) (hi : i < n) (v : Value) (hv : f i = v) : Run C R Z n0 own nm ret bytes mx h cells slots (pc + 1) L (v :: S) := by
  obtain ⟨hx, hby, hml, hown, hZ, hnm, hrt, hlk, T, locs, X, N, eT, st⟩ := K
  obtain ⟨cl, Ar, Sz, H⟩ := F
  subst hj hv Sz
  exact ⟨hx, hby, hml, hown, hZ, hnm, hrt, hlk, T, locs, X, N, eT, fun t kt => st t (X.aaload hx (j := j) (v := f j.toNatClampNeg) (by rw [eT]; exact Ar.1) (State.isArrayOf_alike hZ.alike Ar.2.1) hty Ar.2.2 (fun q => q.elim h0 (Nat.not_le.mpr hi)) (H _ hi) (g := mkF C.2.2.2.2.1 pc L (.int j :: .ref a :: S)) rfl rfl (hb hby hd) t kt)⟩
theorem Run.iastore {a : Addr} {n : Nat} {f : Nat → Value} {j x : Int32} (K : Run C R Z n0 own nm ret bytes mx h cells slots pc L (.int x :: .int j :: .ref a :: S)) (hd : decode bytes pc = .ok (.iastore, 1)) (F : Arf Z h a .int n f) (i : Nat) (hj : j.toNatClampNeg = i) (h0 : ¬ j < 0) (hi : i < n) (ga : n0 ≤ a) :
    ∃ h', Wr h h' a i (.int x) ∧ Arf Z h' a .int n (updV f i (.int x)) ∧ Run C R Z n0 own nm ret bytes mx h' cells slots (pc + 1) L S := by
  obtain ⟨hx, hby, hml, hown, hZ, hnm, hrt, hlk, T, locs, X, N, eT, st⟩ := K
  obtain ⟨cl, Ar, Sz, H⟩ := F
  subst hj Sz
  obtain ⟨T', h', X', e', W', st'⟩ := RoadKit.stI X hx hZ eT Ar (j := j) (x := x) (fun q => q.elim h0 (Nat.not_le.mpr hi)) (g := mkF C.2.2.2.2.1 pc L (.int x :: .int j :: .ref a :: S)) rfl rfl (hb hby hd)
  exact ⟨h', W', Arf.set ⟨cl, Ar, rfl, H⟩ W' hi, hx, hby, hml, hown, hZ, hnm, hrt, hlk, T', _, X', Fr.snoc X' N ga, e', fun t kt => st t (st' t kt)⟩
theorem Run.bastore {a : Addr} {n : Nat} {f : Nat → Value} {j x : Int32} (K : Run C R Z n0 own nm ret bytes mx h cells slots pc L (.int x :: .int j :: .ref a :: S)) (hd : decode bytes pc = .ok (.bastore, 1)) (F : Arf Z h a .byte n f) (i : Nat) (hj : j.toNatClampNeg = i) (h0 : ¬ j < 0) (hi : i < n) (ga : n0 ≤ a) (x' : Int32) (hx' : x.toInt8.toInt32 = x') :
    ∃ h', Wr h h' a i (.int x') ∧ Arf Z h' a .byte n (updV f i (.int x')) ∧ Run C R Z n0 own nm ret bytes mx h' cells slots (pc + 1) L S := by
  obtain ⟨hx, hby, hml, hown, hZ, hnm, hrt, hlk, T, locs, X, N, eT, st⟩ := K
  obtain ⟨cl, Ar, Sz, H⟩ := F
  subst hj Sz hx'
  obtain ⟨T', h', X', e', W', st'⟩ := RoadKit.stB X hx hZ eT Ar (j := j) (x := x) (fun q => q.elim h0 (Nat.not_le.mpr hi)) (g := mkF C.2.2.2.2.1 pc L (.int x :: .int j :: .ref a :: S)) rfl rfl (hb hby hd)
  exact ⟨h', W', Arf.set ⟨cl, Ar, rfl, H⟩ W' hi, hx, hby, hml, hown, hZ, hnm, hrt, hlk, T', _, X', Fr.snoc X' N ga, e', fun t kt => st t (st' t kt)⟩
theorem Run.caload {a : Addr} {n : Nat} {f : Nat → Value} {j : Int32} (K : Run C R Z n0 own nm ret bytes mx h cells slots pc L (.int j :: .ref a :: S)) (hd : decode bytes pc = .ok (.caload, 1)) (F : Arf Z h a .char n f) (i : Nat) (hj : j.toNatClampNeg = i) (h0 : ¬ j < 0) (hi : i < n) (v : Value) (hv : f i = v) : Run C R Z n0 own nm ret bytes mx h cells slots (pc + 1) L (v :: S) := by
  obtain ⟨hx, hby, hml, hown, hZ, hnm, hrt, hlk, T, locs, X, N, eT, st⟩ := K
  obtain ⟨cl, Ar, Sz, H⟩ := F
  subst hj hv Sz
  exact ⟨hx, hby, hml, hown, hZ, hnm, hrt, hlk, T, locs, X, N, eT, fun t kt => st t (X.caload hx (j := j) (v := f j.toNatClampNeg) (by rw [eT]; exact Ar.1) (State.isArrayOf_alike hZ.alike Ar.2.1) Ar.2.2 (fun q => q.elim h0 (Nat.not_le.mpr hi)) (H _ hi) (g := mkF C.2.2.2.2.1 pc L (.int j :: .ref a :: S)) rfl rfl (hb hby hd) t kt)⟩
theorem Run.daload {a : Addr} {n : Nat} {f : Nat → Value} {j : Int32} (K : Run C R Z n0 own nm ret bytes mx h cells slots pc L (.int j :: .ref a :: S)) (hd : decode bytes pc = .ok (.daload, 1)) (F : Arf Z h a .double n f) (i : Nat) (hj : j.toNatClampNeg = i) (h0 : ¬ j < 0) (hi : i < n) (v : Value) (hv : f i = v) : Run C R Z n0 own nm ret bytes mx h cells slots (pc + 1) L (v :: S) := by
  obtain ⟨hx, hby, hml, hown, hZ, hnm, hrt, hlk, T, locs, X, N, eT, st⟩ := K
  obtain ⟨cl, Ar, Sz, H⟩ := F
  subst hj hv Sz
  exact ⟨hx, hby, hml, hown, hZ, hnm, hrt, hlk, T, locs, X, N, eT, fun t kt => st t (X.daload hx (j := j) (v := f j.toNatClampNeg) (by rw [eT]; exact Ar.1) (State.isArrayOf_alike hZ.alike Ar.2.1) Ar.2.2 (fun q => q.elim h0 (Nat.not_le.mpr hi)) (H _ hi) (g := mkF C.2.2.2.2.1 pc L (.int j :: .ref a :: S)) rfl rfl (hb hby hd) t kt)⟩
theorem Run.castore {a : Addr} {n : Nat} {f : Nat → Value} {j x : Int32} (K : Run C R Z n0 own nm ret bytes mx h cells slots pc L (.int x :: .int j :: .ref a :: S)) (hd : decode bytes pc = .ok (.castore, 1)) (F : Arf Z h a .char n f) (i : Nat) (hj : j.toNatClampNeg = i) (h0 : ¬ j < 0) (hi : i < n) (ga : n0 ≤ a) (x' : Int32) (hx' : x.toUInt32.toUInt16.toUInt32.toInt32 = x') :
    ∃ h', Wr h h' a i (.int x') ∧ Arf Z h' a .char n (updV f i (.int x')) ∧ Run C R Z n0 own nm ret bytes mx h' cells slots (pc + 1) L S := by
  obtain ⟨hx, hby, hml, hown, hZ, hnm, hrt, hlk, T, locs, X, N, eT, st⟩ := K
  obtain ⟨cl, Ar, Sz, H⟩ := F
  subst hj Sz hx'
  obtain ⟨T', h', X', e', W', st'⟩ := RoadKit.stC X hx hZ eT Ar (j := j) (x := x) (fun q => q.elim h0 (Nat.not_le.mpr hi)) (g := mkF C.2.2.2.2.1 pc L (.int x :: .int j :: .ref a :: S)) rfl rfl (hb hby hd)
  exact ⟨h', W', Arf.set ⟨cl, Ar, rfl, H⟩ W' hi, hx, hby, hml, hown, hZ, hnm, hrt, hlk, T', _, X', Fr.snoc X' N ga, e', fun t kt => st t (st' t kt)⟩
theorem Run.dastore {a : Addr} {n : Nat} {f : Nat → Value} {j : Int32} {x : UInt64} (K : Run C R Z n0 own nm ret bytes mx h cells slots pc L (.double x :: .int j :: .ref a :: S)) (hd : decode bytes pc = .ok (.dastore, 1)) (F : Arf Z h a .double n f) (i : Nat) (hj : j.toNatClampNeg = i) (h0 : ¬ j < 0) (hi : i < n) (ga : n0 ≤ a) :
    ∃ h', Wr h h' a i (.double x) ∧ Arf Z h' a .double n (updV f i (.double x)) ∧ Run C R Z n0 own nm ret bytes mx h' cells slots (pc + 1) L S := by
  obtain ⟨hx, hby, hml, hown, hZ, hnm, hrt, hlk, T, locs, X, N, eT, st⟩ := K
  obtain ⟨cl, Ar, Sz, H⟩ := F
  subst hj Sz
  obtain ⟨T', h', X', e', W', st'⟩ := RoadKit.stD X hx hZ eT Ar (j := j) (x := x) (fun q => q.elim h0 (Nat.not_le.mpr hi)) (g := mkF C.2.2.2.2.1 pc L (.double x :: .int j :: .ref a :: S)) rfl rfl (hb hby hd)
  exact ⟨h', W', Arf.set ⟨cl, Ar, rfl, H⟩ W' hi, hx, hby, hml, hown, hZ, hnm, hrt, hlk, T', _, X', Fr.snoc X' N ga, e', fun t kt => st t (st' t kt)⟩
theorem Run.newarr {a0 : Array Value} {aty : ArrayType} {n : Int32} {ad : String} (K : Run C R Z n0 own nm ret bytes mx h cells slots pc L (.int n :: S)) (hd : decode bytes pc = .ok (.newarray aty, 2)) (w : (Jvm.Cond.arrayClass (newarray.typeOf aty)).before a0 Z = true) (hn : ¬ n < 0) (z : Nat) (hz : n.toNatClampNeg = z) (cap : Nat) (hcap : z ≤ cap) (hb8 : cap * 8 ≤ 536870912) (hc : cells + 1 ≤ R.cells) (hl : slots + cap ≤ R.slots) (had : "[" ++ (newarray.typeOf aty).toString = ad) :
    ∃ (h' : Heap) (b : Addr), b = h.size ∧ Ext h h' ∧ Arf Z h' b (newarray.typeOf aty) z (fun _ => defaultValue (newarray.typeOf aty)) ∧ Exa Z h' b ad ∧ Run C R Z n0 own nm ret bytes mx h' (cells + 1) (slots + cap) (pc + 2) L (.ref b :: S) := by
  obtain ⟨hx, hby, hml, hown, hZ, hnm, hrt, hlk, T, locs, X, N, eT, st⟩ := K
  subst hz
  obtain ⟨T', h', cA, X', e', E', A', Ex', st'⟩ := RoadKit.newPE X hx hZ w eT (g := mkF C.2.2.2.2.1 pc L (.int n :: S)) rfl (hb hby hd) rfl hn hcap hb8 hc hl had
  exact ⟨h', _, rfl, E', ⟨_, A', sz_new _ _ _, fun i hi => by simp [newA, hi]⟩, Ex', hx, hby, hml, hown, hZ, hnm, hrt, hlk, T', _, X', N, e', fun t kt => st t (st' t kt)⟩
theorem Run.clone {a0 : Array Value} {index W : Nat} {ad : String} {a : Addr} {ty : FieldType} {n : Nat} {f : Nat → Value} (K : Run C R Z n0 own nm ret bytes mx h cells slots pc L (.ref a :: S)) (hd : decode bytes pc = .ok (.invokevirtual index, 3))
    (w1 : (Jvm.Cond.methodLink own index ⟨ad, "clone", "()Ljava/lang/Object;"⟩).before a0 Z = true) (w2 : (Jvm.Cond.sameMethod ad "java/lang/Object" "clone" "()Ljava/lang/Object;").before a0 Z = true) (w3 : (Jvm.Cond.native ⟨"java/lang/Object", "clone", "()Ljava/lang/Object;"⟩).before a0 Z = true)
    (w4 : (Jvm.Cond.instanceMethod ⟨"java/lang/Object", "clone", "()Ljava/lang/Object;"⟩).before a0 Z = true) (w5 : (Jvm.Cond.selects ad ⟨ad, "clone", "()Ljava/lang/Object;"⟩ ⟨"java/lang/Object", "clone", "()Ljava/lang/Object;"⟩).before a0 Z = true) (w6 : (Jvm.Cond.castable ad "java/lang/Cloneable").before a0 Z = true)
    (F : Arf Z h a ty n f) (hfit : ∀ i, i < n → fits ty (f i) = true) (E : Exa Z h a ad) (cap : Nat) (hcap : n ≤ cap) (hW : (S.map fun v => v.category).sum = W) (hLs : L.size = mx) (hf : 1 ≤ R.frames) (hl : W + 14 ≤ R.locals) (hc : cells + 1 ≤ R.cells) (hsl : slots + cap ≤ R.slots) :
    ∃ (h' : Heap) (b : Addr), b = h.size ∧ Ext h h' ∧ Arf Z h' b ty n f ∧ Exa Z h' b ad ∧ Run C R Z n0 own nm ret bytes mx h' (cells + 1) (slots + cap) (pc + 3) L (.ref b :: S) := by
  obtain ⟨hx, hby, hml, hown, hZ, hnm, hrt, hlk, T, locs, X, N, eT, st⟩ := K
  obtain ⟨cl, Ar, Sz, H⟩ := F
  subst Sz
  have FC : FitC Z cl := fitC_of Ar fun i hi v hv => by rw [H i hi] at hv; cases hv; exact hfit i hi
  obtain ⟨T', h', X', e', ex, A', E', st'⟩ := cloneA X hx hZ hown w1 w2 w3 w4 w5 w6 eT Ar E FC (g := mkF C.2.2.2.2.1 pc L (.ref a :: S)) rfl (by rw [hml]; exact hLs) rfl (hb hby hd) hf (W := W) (cap := cap) (by show 2 * 0 + _ ≤ _; omega) hl hcap hc hsl
  exact ⟨h', _, rfl, ex, ⟨cloneOf cl, A', rfl, H⟩, E', hx, hby, hml, hown, hZ, hnm, hrt, hlk, T', _, X', N, e', fun t kt => st t (st' t kt)⟩
theorem Run.instY {a0 : Array Value} {index : Nat} {Kl : String} {a : Addr} (K : Run C R Z n0 own nm ret bytes mx h cells slots pc L (.ref a :: S)) (hd : decode bytes pc = .ok (.instanceof index, 3)) (w : (Jvm.Cond.classLink own index Kl).before a0 Z = true) (F : Ins Z h a Kl true) : Run C R Z n0 own nm ret bytes mx h cells slots (pc + 3) L (.int (1 : Int32) :: S) := by
  obtain ⟨hx, hby, hml, hown, hZ, hnm, hrt, hlk, T, locs, X, N, eT, st⟩ := K
  obtain ⟨T', X', e', st'⟩ := RoadKit.instY X hx hZ hown w eT F (g := mkF C.2.2.2.2.1 pc L (.ref a :: S)) rfl rfl (hb hby hd)
  exact ⟨hx, hby, hml, hown, hZ, hnm, hrt, hlk, T', locs, X', N, e', fun t kt => st t (st' t kt)⟩
theorem Run.castNull {index : Nat} (K : Run C R Z n0 own nm ret bytes mx h cells slots pc L (.null :: S)) (hd : decode bytes pc = .ok (.checkcast index, 3)) : Run C R Z n0 own nm ret bytes mx h cells slots (pc + 3) L (.null :: S) := by
  obtain ⟨hx, hby, hml, hown, hZ, hnm, hrt, hlk, T, locs, X, N, eT, st⟩ := K
  exact ⟨hx, hby, hml, hown, hZ, hnm, hrt, hlk, T, locs, X, N, eT, fun t kt => st t (X.checkcastNull hx (g := mkF C.2.2.2.2.1 pc L (.null :: S)) rfl rfl (hb hby hd) t kt)⟩
theorem Run.lswHit {x : Int32} {dflt : Int} {pairs : Array (Int × Int)} {len : Nat} {b off : Int} {pc' : Nat} (K : Run C R Z n0 own nm ret bytes mx h cells slots pc L (.int x :: S)) (hd : decode bytes pc = .ok (.lookupswitch dflt pairs, len)) (hsorted : (pairs.toList.zip (pairs.toList.drop 1)).all (fun (a, next) => a.1 < next.1) = true) (hfind : pairs.find? (·.1 == x.toInt) = some (b, off)) (ho : 0 ≤ (pc : Int) + off) (hp : ((pc : Int) + off).toNat = pc') : Run C R Z n0 own nm ret bytes mx h cells slots pc' L S := by
  obtain ⟨hx, hby, hml, hown, hZ, hnm, hrt, hlk, T, locs, X, N, eT, st⟩ := K
  subst hp
  exact ⟨hx, hby, hml, hown, hZ, hnm, hrt, hlk, T, locs, X, N, eT, fun t kt => st t (X.lookupswitchHit hx (g := mkF C.2.2.2.2.1 pc L (.int x :: S)) rfl rfl (hb hby hd) hsorted hfind ho t kt)⟩
theorem Run.lswMiss {x : Int32} {dflt : Int} {pairs : Array (Int × Int)} {len : Nat} {pc' : Nat} (K : Run C R Z n0 own nm ret bytes mx h cells slots pc L (.int x :: S)) (hd : decode bytes pc = .ok (.lookupswitch dflt pairs, len)) (hsorted : (pairs.toList.zip (pairs.toList.drop 1)).all (fun (a, next) => a.1 < next.1) = true) (hfind : ∀ p ∈ pairs.toList, p.1 ≠ x.toInt) (ho : 0 ≤ (pc : Int) + dflt) (hp : ((pc : Int) + dflt).toNat = pc') : Run C R Z n0 own nm ret bytes mx h cells slots pc' L S := by
  obtain ⟨hx, hby, hml, hown, hZ, hnm, hrt, hlk, T, locs, X, N, eT, st⟩ := K
  subst hp
  exact ⟨hx, hby, hml, hown, hZ, hnm, hrt, hlk, T, locs, X, N, eT, fun t kt => st t (X.lookupswitchMiss hx (g := mkF C.2.2.2.2.1 pc L (.int x :: S)) rfl rfl (hb hby hd) hsorted (find_miss hfind) ho t kt)⟩
end Steps
end Jvm.Own

namespace Jvm.Pilot.@@N@@
open Jvm Jvm.ClassFile Sem Op Lib Jvm.Free Jvm.Stand Jvm.LawKit Jvm.RoadKit Jvm.Own Bundle Jvm.Pilot.@@N@@.Jvm.D
theorem pd_0 : parseMethodDescriptor "([I[I)V" = some ⟨[(.array .int), (.array .int)], none⟩ := by decide +kernel
theorem pd_1 : parseMethodDescriptor "([I[II)I" = some ⟨[(.array .int), (.array .int), .int], some .int⟩ := by decide +kernel
theorem pd_2 : parseMethodDescriptor "([I[I)Z" = some ⟨[(.array .int), (.array .int)], some .boolean⟩ := by decide +kernel
theorem pd_3 : parseMethodDescriptor "(I)Lcom/example/ravel/ravel/bytecode/Sources;" = some ⟨[.int], some (.object "com/example/ravel/ravel/bytecode/Sources")⟩ := by decide +kernel
theorem pd_4 : parseMethodDescriptor "()[I" = some ⟨[], some (.array .int)⟩ := by decide +kernel
theorem pd_5 : parseMethodDescriptor "()Z" = some ⟨[], some .boolean⟩ := by decide +kernel
theorem pd_6 : parseMethodDescriptor "(Ljava/lang/Object;)Z" = some ⟨[(.object "java/lang/Object")], some .boolean⟩ := by decide +kernel
theorem own_z1 {f : Nat → Value} {v : Value} (i : Nat) (hi : i < 1) : updV f 0 v i = v := by
  have : i = 0 := by omega
  subst this
  rfl
def own_mi1 (p3 p4 : Int32) : Int32 := (if p3 = p4 then (-1 : Int32) else (0 : Int32))
def own_ae1 (p3 p4 : Int32) : Int32 := (if (own_mi1 p3 p4) < (0 : Int32) then (1 : Int32) else (0 : Int32))
def own_mi0 (p3 p4 : Int32) : Int32 := (-1 : Int32)
def own_ae0 (p3 p4 : Int32) : Int32 := (if (own_mi0 p3 p4) < (0 : Int32) then (1 : Int32) else (0 : Int32))
def own_eq (p3 p4 : Int32) : Int32 := (if (own_ae1 p3 p4) = (0 : Int32) then (0 : Int32) else (if (own_ae0 (0 : Int32) (0 : Int32)) = (0 : Int32) then (0 : Int32) else (1 : Int32)))
theorem own_law (x y : Int32) : own_eq x y = if x = y then (1 : Int32) else (0 : Int32) := by
  unfold own_eq own_ae1 own_ae0 own_mi1 own_mi0
  by_cases q : x = y
  · simp [q]
  · simp [q]
theorem d2_0 : decode prog_21_method_1_code 0 = .ok (.aload_n 0, 1) := by decide +kernel
theorem d2_1 : decode prog_21_method_1_code 1 = .ok (.invokespecial 1, 3) := by decide +kernel
theorem d2_4 : decode prog_21_method_1_code 4 = .ok (.aload_n 0, 1) := by decide +kernel
theorem d2_5 : decode prog_21_method_1_code 5 = .ok (.aload_n 1, 1) := by decide +kernel
theorem d2_6 : decode prog_21_method_1_code 6 = .ok (.putfield 7, 3) := by decide +kernel
theorem d2_9 : decode prog_21_method_1_code 9 = .ok (.aload_n 0, 1) := by decide +kernel
theorem d2_10 : decode prog_21_method_1_code 10 = .ok (.aload_n 2, 1) := by decide +kernel
theorem d2_11 : decode prog_21_method_1_code 11 = .ok (.putfield 13, 3) := by decide +kernel
theorem d2_14 : decode prog_21_method_1_code 14 = .ok (.return_, 1) := by decide +kernel
set_option maxRecDepth 65536 in
set_option maxHeartbeats 40000000 in
theorem rm2 (Z : State) (a0 : Array Value) (hw : ∀ d ∈ tables_1, d.before a0 Z = true) (a1 a2 a3 : Addr) (h0 : Heap) (n0 : Nat) (g1 : n0 ≤ a1) (E1 : Exa Z h0 a1 "com/example/ravel/ravel/bytecode/Sources") (F1 : Fld Z h0 a1 "com/example/ravel/ravel/bytecode/Sources" "arguments" "[I" .null) (F2 : Fld Z h0 a1 "com/example/ravel/ravel/bytecode/Sources" "producers" "[I" .null) :
    Con Z n0 (⟨"com/example/ravel/ravel/bytecode/Sources", "<init>", "([I[I)V"⟩ : MethodName) prog_21_method_1_code 3 none [] ({ frames := 1, cells := 0, slots := 0, locals := 12 } : Room) #[(.ref a1), (.ref a2), (.ref a3)] h0 (fun v h => v = none ∧ Keep h0 h [a1] ∧ Fld Z h a1 "com/example/ravel/ravel/bytecode/Sources" "arguments" "[I" (.ref a2) ∧ Fld Z h a1 "com/example/ravel/ravel/bytecode/Sources" "producers" "[I" (.ref a3)) := by
  refine Con.intro (L0 := #[.val (.ref a1), .val (.ref a2), .val (.ref a3)]) (plainFor_of_name (by first | (simp [plainName, overriddenIn]; done) | decide +kernel)) (fun m => by first | (simp [entryFrame, mkF, argsToLocals, Value.category]; done) | rfl) ?_
  intro C k
  replace k := k.aloadN d2_0 rfl rfl
  replace k := k.initO (W := 0) d2_1 (hw _ (List.mem_of_getElem? (i := 10) rfl)) (hw _ (List.mem_of_getElem? (i := 11) rfl)) (hw _ (List.mem_of_getElem? (i := 12) rfl)) rfl rfl (by decide) (by decide)
  replace k := k.aloadN d2_4 rfl rfl
  replace k := k.aloadN d2_5 rfl rfl
  obtain ⟨h1, W1, k⟩ := k.putF d2_6 (host := "") (Or.inl (hw _ (List.mem_of_getElem? (i := 13) rfl))) Via.refl F1 E1 (Or.inr ⟨(hw _ (List.mem_of_getElem? (i := 14) rfl)), rfl, rfl⟩) (hw _ (List.mem_of_getElem? (i := 5) rfl)) (ty := (.array .int)) (by decide) rfl rfl g1
  have Fw1 := Fld.same W1 F1
  have K1 : Keep h0 h1 [a1] := (Keep.refl h0 ([a1] : List Addr)).wr W1 (Or.inl (List.mem_of_getElem? (i := 0) rfl))
  replace k := k.aloadN d2_9 rfl rfl
  replace k := k.aloadN d2_10 rfl rfl
  obtain ⟨h2, W2, k⟩ := k.putF d2_11 (host := "") (Or.inl (hw _ (List.mem_of_getElem? (i := 15) rfl))) Via.refl (Fld.other W1 F2 (Or.inr (slot_ne (Or.inr (hw _ (List.mem_of_getElem? (i := 16) rfl))) (Or.inr (hw _ (List.mem_of_getElem? (i := 14) rfl))) (by decide) (t := (.array .int)) (t' := (.array .int)) (by decide) (by decide)))) (Exa.wr W1 E1) (Or.inr ⟨(hw _ (List.mem_of_getElem? (i := 16) rfl)), rfl, rfl⟩) (hw _ (List.mem_of_getElem? (i := 5) rfl)) (ty := (.array .int)) (by decide) rfl rfl g1
  have Fw2 := Fld.same W2 (Fld.other W1 F2 (Or.inr (slot_ne (Or.inr (hw _ (List.mem_of_getElem? (i := 16) rfl))) (Or.inr (hw _ (List.mem_of_getElem? (i := 14) rfl))) (by decide) (t := (.array .int)) (t' := (.array .int)) (by decide) (by decide))))
  have K2 : Keep h0 h2 [a1] := K1.wr W2 (Or.inl (List.mem_of_getElem? (i := 0) rfl))
  exact k.vret d2_14 rfl ⟨rfl, K2, (Fld.other W2 Fw1 (Or.inr (slot_ne (Or.inr (hw _ (List.mem_of_getElem? (i := 14) rfl))) (Or.inr (hw _ (List.mem_of_getElem? (i := 16) rfl))) (by decide) (t := (.array .int)) (t' := (.array .int)) (by decide) (by decide)))), Fw2⟩ (by decide) (by decide)

theorem d1_0 : decode prog_21_method_2_code 0 = .ok (.new 8, 3) := by decide +kernel
theorem d1_3 : decode prog_21_method_2_code 3 = .ok (.dup, 1) := by decide +kernel
theorem d1_4 : decode prog_21_method_2_code 4 = .ok (.iconst 1, 1) := by decide +kernel
theorem d1_5 : decode prog_21_method_2_code 5 = .ok (.newarray .int, 2) := by decide +kernel
theorem d1_7 : decode prog_21_method_2_code 7 = .ok (.dup, 1) := by decide +kernel
theorem d1_8 : decode prog_21_method_2_code 8 = .ok (.iconst 0, 1) := by decide +kernel
theorem d1_9 : decode prog_21_method_2_code 9 = .ok (.iload_n 0, 1) := by decide +kernel
theorem d1_10 : decode prog_21_method_2_code 10 = .ok (.iastore, 1) := by decide +kernel
theorem d1_11 : decode prog_21_method_2_code 11 = .ok (.iconst 0, 1) := by decide +kernel
theorem d1_12 : decode prog_21_method_2_code 12 = .ok (.newarray .int, 2) := by decide +kernel
theorem d1_14 : decode prog_21_method_2_code 14 = .ok (.invokespecial 16, 3) := by decide +kernel
theorem d1_17 : decode prog_21_method_2_code 17 = .ok (.areturn, 1) := by decide +kernel
set_option maxRecDepth 65536 in
set_option maxHeartbeats 40000000 in
theorem rm1 (Z : State) (a0 : Array Value) (hw : ∀ d ∈ tables_1, d.before a0 Z = true) (p1 : Int32) (h0 : Heap) (n0 : Nat) (Z0 : n0 ≤ h0.size) :
    Con Z n0 (⟨"com/example/ravel/ravel/bytecode/Sources", "argument", "(I)Lcom/example/ravel/ravel/bytecode/Sources;"⟩ : MethodName) prog_21_method_2_code 1 (some (.object "com/example/ravel/ravel/bytecode/Sources")) [] ({ frames := 2, cells := 3, slots := 3, locals := 27 } : Room) #[(.int p1)] h0 (fun v h => ∃ b x y, v = some (.ref b) ∧ n0 ≤ b ∧ h0.size ≤ x ∧ h0.size ≤ y ∧ Keep h0 h [] ∧ Exa Z h b "com/example/ravel/ravel/bytecode/Sources" ∧ Fld Z h b "com/example/ravel/ravel/bytecode/Sources" "arguments" "[I" (.ref x) ∧ Fld Z h b "com/example/ravel/ravel/bytecode/Sources" "producers" "[I" (.ref y) ∧ Arf Z h x .int 1 (fun _ => .int p1) ∧ Exa Z h x "[I" ∧ Arf Z h y .int 0 (fun _ => .int (0 : Int32)) ∧ Exa Z h y "[I") := by
  refine Con.intro (L0 := #[.val (.int p1)]) (plainFor_of_name (by first | (simp [plainName, overriddenIn]; done) | decide +kernel)) (fun m => by first | (simp [entryFrame, mkF, argsToLocals, Value.category]; done) | rfl) ?_
  intro C k
  obtain ⟨h1, b1, g1, E1, A1, D1, k⟩ := k.newO d1_0 (hw _ (List.mem_of_getElem? (i := 4) rfl)) (hw _ (List.mem_of_getElem? (i := 5) rfl)) (hw _ (List.mem_of_getElem? (i := 2) rfl)) (by decide) (by decide)
  have ge_b1 : n0 ≤ b1 := Nat.le_trans Z0 (Nat.le_of_eq g1.symm)
  have sz_b1 : h0.size ≤ b1 := Nat.le_trans (Keep.refl h0 ([] : List Addr)).1 (Nat.le_of_eq g1.symm)
  have K1 : Keep h0 h1 [] := (Keep.refl h0 ([] : List Addr)).ext E1
  have F_arguments_b1 : Fld Z h1 b1 "com/example/ravel/ravel/bytecode/Sources" "arguments" "[I" .null := D1 (Or.inr (hw _ (List.mem_of_getElem? (i := 14) rfl))) (ty := (.array .int)) (by decide)
  have F_producers_b1 : Fld Z h1 b1 "com/example/ravel/ravel/bytecode/Sources" "producers" "[I" .null := D1 (Or.inr (hw _ (List.mem_of_getElem? (i := 16) rfl))) (ty := (.array .int)) (by decide)
  replace k := k.dup d1_3 rfl
  replace k := k.iconst (1 : Int32) d1_4 rfl
  obtain ⟨h2, b2, g2, E2, A2, X2, k⟩ := k.newarr (ad := "[I") d1_5 (hw _ (List.mem_of_getElem? (i := 6) rfl)) (by decide) 1 (by decide) 1 (by decide) (by decide) (by decide) (by decide) (by decide)
  have ge_b2 : n0 ≤ b2 := Nat.le_trans (Nat.le_trans Z0 E1.1) (Nat.le_of_eq g2.symm)
  have sz_b2 : h0.size ≤ b2 := Nat.le_trans K1.1 (Nat.le_of_eq g2.symm)
  have K2 : Keep h0 h2 [] := K1.ext E2
  replace k := k.dup d1_7 rfl
  replace k := k.iconst (0 : Int32) d1_8 rfl
  replace k := k.iloadN d1_9 rfl
  obtain ⟨h3, W3, A3, k⟩ := k.iastore d1_10 A2 0 (by decide) (by decide) (by decide) ge_b2
  have K3 : Keep h0 h3 [] := K2.wr W3 (Or.inr sz_b2)
  replace k := k.iconst (0 : Int32) d1_11 rfl
  obtain ⟨h4, b4, g4, E4, A4, X4, k⟩ := k.newarr (ad := "[I") d1_12 (hw _ (List.mem_of_getElem? (i := 6) rfl)) (by decide) 0 (by decide) 0 (by decide) (by decide) (by decide) (by decide) (by decide)
  have ge_b4 : n0 ≤ b4 := Nat.le_trans (Nat.le_trans (Nat.le_trans (Nat.le_trans Z0 E1.1) E2.1) (Nat.le_of_eq (Wr.size W3).symm)) (Nat.le_of_eq g4.symm)
  have sz_b4 : h0.size ≤ b4 := Nat.le_trans K3.1 (Nat.le_of_eq g4.symm)
  have K4 : Keep h0 h4 [] := K3.ext E4
  obtain ⟨_, hc5, ⟨rfl, Kc5, Fac5, Fbc5⟩, k⟩ := k.callI (y := (⟨"com/example/ravel/ravel/bytecode/Sources", "<init>", "([I[I)V"⟩ : MethodName)) (a := b1) d1_14 rfl (hw _ (List.mem_of_getElem? (i := 7) rfl)) (hw _ (List.mem_of_getElem? (i := 8) rfl)) (hw _ (List.mem_of_getElem? (i := 2) rfl)) (hw _ (List.mem_of_getElem? (i := 9) rfl)) (W := 1) (argsL := [(.ref b2), (.ref b4)]) (rest := [(.ref b1)]) (rm2 Z a0 hw b1 b2 b4 h4 n0 ge_b1 (Exa.ext E4 (Exa.wr W3 (Exa.ext E2 A1))) (Fld.ext E4 (Fld.other W3 (Fld.ext E2 F_arguments_b1) (Or.inl (Nat.ne_of_lt (Nat.lt_of_lt_of_le A1.lt (Nat.le_of_eq g2.symm)))))) (Fld.ext E4 (Fld.other W3 (Fld.ext E2 F_producers_b1) (Or.inl (Nat.ne_of_lt (Nat.lt_of_lt_of_le A1.lt (Nat.le_of_eq g2.symm))))))) rfl (pd_0) rfl rfl rfl (by decide) (by decide) (by decide) (by decide) (by decide)
  have Kc6 : Keep h0 hc5 [] := K4.trans Kc5 (allS (Or.inr sz_b1) all0)
  replace k := k.stk [(.ref b1)] rfl
  exact k.aret d1_17 rfl rfl rfl rfl ⟨_, _, _, rfl, ge_b1, sz_b2, sz_b4, Kc6, ((Exa.ext E4 (Exa.wr W3 (Exa.ext E2 A1))).keep Kc5), Fac5, Fbc5, (((A3.ext E4).keep Kc5 (ninS (Ne.symm (Nat.ne_of_lt (Nat.lt_of_lt_of_le A1.lt (Nat.le_of_eq g2.symm)))) nin0)).congr (fun i hi => own_z1 i hi)), ((Exa.ext E4 (Exa.wr W3 X2)).keep Kc5), ((A4.keep Kc5 (ninS (Ne.symm (Nat.ne_of_lt (Nat.lt_of_lt_of_le (Exa.wr W3 (Exa.ext E2 A1)).lt (Nat.le_of_eq g4.symm)))) nin0)).congr (fun i hi => absurd hi (Nat.not_lt_zero _))), (X4.keep Kc5)⟩ (by decide) (by decide)

theorem d4_0 : decode prog_21_method_4_code 0 = .ok (.aload_n 0, 1) := by decide +kernel
theorem d4_1 : decode prog_21_method_4_code 1 = .ok (.getfield 7, 3) := by decide +kernel
theorem d4_4 : decode prog_21_method_4_code 4 = .ok (.invokevirtual 19, 3) := by decide +kernel
theorem d4_7 : decode prog_21_method_4_code 7 = .ok (.checkcast 20, 3) := by decide +kernel
theorem d4_10 : decode prog_21_method_4_code 10 = .ok (.areturn, 1) := by decide +kernel
set_option maxRecDepth 65536 in
set_option maxHeartbeats 40000000 in
theorem rm4 (Z : State) (a0 : Array Value) (hw : ∀ d ∈ tables_1, d.before a0 Z = true) (a1 x : Addr) (p2 : Int32) (h0 : Heap) (n0 : Nat) (Z0 : n0 ≤ h0.size) (F1 : Fld Z h0 a1 "com/example/ravel/ravel/bytecode/Sources" "arguments" "[I" (.ref x)) (Ax : Arf Z h0 x .int 1 (fun _ => .int p2)) (Ex : Exa Z h0 x "[I") :
    Con Z n0 (⟨"com/example/ravel/ravel/bytecode/Sources", "arguments", "()[I"⟩ : MethodName) prog_21_method_4_code 1 (some (.array .int)) [] ({ frames := 1, cells := 1, slots := 1, locals := 14 } : Room) #[(.ref a1)] h0 (fun v h => ∃ b, v = some (.ref b) ∧ Keep h0 h [] ∧ Arf Z h b .int 1 (fun _ => .int p2)) := by
  refine Con.intro (L0 := #[.val (.ref a1)]) (plainFor_of_name (by first | (simp [plainName, overriddenIn]; done) | decide +kernel)) (fun m => by first | (simp [entryFrame, mkF, argsToLocals, Value.category]; done) | rfl) ?_
  intro C k
  replace k := k.aloadN d4_0 rfl rfl
  replace k := k.getF d4_1 (host := "") (Or.inl (hw _ (List.mem_of_getElem? (i := 13) rfl))) Via.refl F1
  obtain ⟨h1, b1, g1, E1, A1, X1, k⟩ := k.clone (W := 0) d4_4 (hw _ (List.mem_of_getElem? (i := 22) rfl)) (hw _ (List.mem_of_getElem? (i := 23) rfl)) (hw _ (List.mem_of_getElem? (i := 27) rfl)) (hw _ (List.mem_of_getElem? (i := 25) rfl)) (hw _ (List.mem_of_getElem? (i := 26) rfl)) (hw _ (List.mem_of_getElem? (i := 28) rfl)) Ax (by intro i hi; rfl) Ex 1 (by decide) rfl rfl (by decide) (by decide) (by decide) (by decide)
  have ge_b1 : n0 ≤ b1 := Nat.le_trans Z0 (Nat.le_of_eq g1.symm)
  have sz_b1 : h0.size ≤ b1 := Nat.le_trans (Keep.refl h0 ([] : List Addr)).1 (Nat.le_of_eq g1.symm)
  have K1 : Keep h0 h1 [] := (Keep.refl h0 ([] : List Addr)).ext E1
  replace k := k.castY d4_7 (hw _ (List.mem_of_getElem? (i := 29) rfl)) (Ins.self X1)
  exact k.aret d4_10 rfl rfl rfl rfl ⟨_, rfl, K1, A1⟩ (by decide) (by decide)

theorem d5_0 : decode prog_21_method_5_code 0 = .ok (.aload_n 0, 1) := by decide +kernel
theorem d5_1 : decode prog_21_method_5_code 1 = .ok (.getfield 13, 3) := by decide +kernel
theorem d5_4 : decode prog_21_method_5_code 4 = .ok (.invokevirtual 19, 3) := by decide +kernel
theorem d5_7 : decode prog_21_method_5_code 7 = .ok (.checkcast 20, 3) := by decide +kernel
theorem d5_10 : decode prog_21_method_5_code 10 = .ok (.areturn, 1) := by decide +kernel
set_option maxRecDepth 65536 in
set_option maxHeartbeats 40000000 in
theorem rm5 (Z : State) (a0 : Array Value) (hw : ∀ d ∈ tables_1, d.before a0 Z = true) (a1 x : Addr) (p2 : Int32) (h0 : Heap) (n0 : Nat) (Z0 : n0 ≤ h0.size) (F1 : Fld Z h0 a1 "com/example/ravel/ravel/bytecode/Sources" "producers" "[I" (.ref x)) (Ax : Arf Z h0 x .int 0 (fun _ => .int p2)) (Ex : Exa Z h0 x "[I") :
    Con Z n0 (⟨"com/example/ravel/ravel/bytecode/Sources", "producers", "()[I"⟩ : MethodName) prog_21_method_5_code 1 (some (.array .int)) [] ({ frames := 1, cells := 1, slots := 0, locals := 14 } : Room) #[(.ref a1)] h0 (fun v h => ∃ b, v = some (.ref b) ∧ Keep h0 h [] ∧ Arf Z h b .int 0 (fun _ => .int p2)) := by
  refine Con.intro (L0 := #[.val (.ref a1)]) (plainFor_of_name (by first | (simp [plainName, overriddenIn]; done) | decide +kernel)) (fun m => by first | (simp [entryFrame, mkF, argsToLocals, Value.category]; done) | rfl) ?_
  intro C k
  replace k := k.aloadN d5_0 rfl rfl
  replace k := k.getF d5_1 (host := "") (Or.inl (hw _ (List.mem_of_getElem? (i := 15) rfl))) Via.refl F1
  obtain ⟨h1, b1, g1, E1, A1, X1, k⟩ := k.clone (W := 0) d5_4 (hw _ (List.mem_of_getElem? (i := 22) rfl)) (hw _ (List.mem_of_getElem? (i := 23) rfl)) (hw _ (List.mem_of_getElem? (i := 27) rfl)) (hw _ (List.mem_of_getElem? (i := 25) rfl)) (hw _ (List.mem_of_getElem? (i := 26) rfl)) (hw _ (List.mem_of_getElem? (i := 28) rfl)) Ax (by intro i hi; rfl) Ex 0 (by decide) rfl rfl (by decide) (by decide) (by decide) (by decide)
  have ge_b1 : n0 ≤ b1 := Nat.le_trans Z0 (Nat.le_of_eq g1.symm)
  have sz_b1 : h0.size ≤ b1 := Nat.le_trans (Keep.refl h0 ([] : List Addr)).1 (Nat.le_of_eq g1.symm)
  have K1 : Keep h0 h1 [] := (Keep.refl h0 ([] : List Addr)).ext E1
  replace k := k.castY d5_7 (hw _ (List.mem_of_getElem? (i := 29) rfl)) (Ins.self X1)
  exact k.aret d5_10 rfl rfl rfl rfl ⟨_, rfl, K1, A1⟩ (by decide) (by decide)

theorem d6_0 : decode prog_21_method_6_code 0 = .ok (.aload_n 0, 1) := by decide +kernel
theorem d6_1 : decode prog_21_method_6_code 1 = .ok (.getfield 7, 3) := by decide +kernel
theorem d6_4 : decode prog_21_method_6_code 4 = .ok (.arraylength, 1) := by decide +kernel
theorem d6_5 : decode prog_21_method_6_code 5 = .ok (.ifCond .ne 15, 3) := by decide +kernel
theorem d6_20 : decode prog_21_method_6_code 20 = .ok (.iconst 0, 1) := by decide +kernel
theorem d6_21 : decode prog_21_method_6_code 21 = .ok (.ireturn, 1) := by decide +kernel
set_option maxRecDepth 65536 in
set_option maxHeartbeats 40000000 in
theorem rm6 (Z : State) (a0 : Array Value) (hw : ∀ d ∈ tables_1, d.before a0 Z = true) (a1 x : Addr) (p2 : Int32) (h0 : Heap) (n0 : Nat) (F1 : Fld Z h0 a1 "com/example/ravel/ravel/bytecode/Sources" "arguments" "[I" (.ref x)) (Ax : Arf Z h0 x .int 1 (fun _ => .int p2)) :
    Con Z n0 (⟨"com/example/ravel/ravel/bytecode/Sources", "isEmpty", "()Z"⟩ : MethodName) prog_21_method_6_code 1 (some .boolean) [] ({ frames := 0, cells := 0, slots := 0, locals := 0 } : Room) #[(.ref a1)] h0 (fun v h => v = some (.int (0 : Int32)) ∧ h0 = h) := by
  refine Con.intro (L0 := #[.val (.ref a1)]) (plainFor_of_name (by first | (simp [plainName, overriddenIn]; done) | decide +kernel)) (fun m => by first | (simp [entryFrame, mkF, argsToLocals, Value.category]; done) | rfl) ?_
  intro C k
  replace k := k.aloadN d6_0 rfl rfl
  replace k := k.getF d6_1 (host := "") (Or.inl (hw _ (List.mem_of_getElem? (i := 13) rfl))) Via.refl F1
  replace k := k.arrlen d6_4 Ax (1 : Int32) (by decide)
  replace k := k.ifYes (pc' := 20) d6_5 (by decide) (by decide) (by decide)
  replace k := k.iconst (0 : Int32) d6_20 rfl
  exact k.iret d6_21 rfl (by simp) rfl ⟨rfl, rfl⟩ (by decide) (by decide)

theorem d9_0 : decode jdk_48_method_19_code 0 = .ok (.iconst 0, 1) := by decide +kernel
theorem d9_1 : decode jdk_48_method_19_code 1 = .ok (.istore_n 3, 1) := by decide +kernel
theorem d9_2 : decode jdk_48_method_19_code 2 = .ok (.iload_n 2, 1) := by decide +kernel
theorem d9_3 : decode jdk_48_method_19_code 3 = .ok (.iconst 1, 1) := by decide +kernel
theorem d9_4 : decode jdk_48_method_19_code 4 = .ok (.if_icmp .le 44, 3) := by decide +kernel
theorem d9_48 : decode jdk_48_method_19_code 48 = .ok (.iload_n 3, 1) := by decide +kernel
theorem d9_49 : decode jdk_48_method_19_code 49 = .ok (.iload_n 2, 1) := by decide +kernel
theorem d9_50 : decode jdk_48_method_19_code 50 = .ok (.if_icmp .ge 20, 3) := by decide +kernel
theorem d9_53 : decode jdk_48_method_19_code 53 = .ok (.aload_n 0, 1) := by decide +kernel
theorem d9_54 : decode jdk_48_method_19_code 54 = .ok (.iload_n 3, 1) := by decide +kernel
theorem d9_55 : decode jdk_48_method_19_code 55 = .ok (.iaload, 1) := by decide +kernel
theorem d9_56 : decode jdk_48_method_19_code 56 = .ok (.aload_n 1, 1) := by decide +kernel
theorem d9_57 : decode jdk_48_method_19_code 57 = .ok (.iload_n 3, 1) := by decide +kernel
theorem d9_58 : decode jdk_48_method_19_code 58 = .ok (.iaload, 1) := by decide +kernel
theorem d9_59 : decode jdk_48_method_19_code 59 = .ok (.if_icmp .eq 5, 3) := by decide +kernel
theorem d9_62 : decode jdk_48_method_19_code 62 = .ok (.iload_n 3, 1) := by decide +kernel
theorem d9_63 : decode jdk_48_method_19_code 63 = .ok (.ireturn, 1) := by decide +kernel
theorem d9_64 : decode jdk_48_method_19_code 64 = .ok (.iinc 3 1, 3) := by decide +kernel
theorem d9_67 : decode jdk_48_method_19_code 67 = .ok (.goto (-19), 3) := by decide +kernel
theorem d9_70 : decode jdk_48_method_19_code 70 = .ok (.iconst (-1), 1) := by decide +kernel
theorem d9_71 : decode jdk_48_method_19_code 71 = .ok (.ireturn, 1) := by decide +kernel
set_option maxRecDepth 65536 in
set_option maxHeartbeats 40000000 in
theorem rm9_1 (Z : State) (a0 : Array Value) (hw : ∀ d ∈ tables_1, d.before a0 Z = true) (a1 a2 : Addr) (p3 p4 : Int32) (h0 : Heap) (n0 : Nat) (A1 : Arf Z h0 a1 .int 1 (fun _ => .int p3)) (A2 : Arf Z h0 a2 .int 1 (fun _ => .int p4)) :
    Con Z n0 (⟨"jdk/internal/util/ArraysSupport", "mismatch", "([I[II)I"⟩ : MethodName) jdk_48_method_19_code 4 (some .int) [] ({ frames := 0, cells := 0, slots := 0, locals := 0 } : Room) #[(.ref a1), (.ref a2), (.int (1 : Int32))] h0 (fun v h => v = some (.int (own_mi1 p3 p4)) ∧ h0 = h) := by
  refine Con.intro (L0 := #[.val (.ref a1), .val (.ref a2), .val (.int (1 : Int32)), .unset]) (plainFor_of_name (by first | (simp [plainName, overriddenIn]; done) | decide +kernel)) (fun m => by first | (simp [entryFrame, mkF, argsToLocals, Value.category]; done) | rfl) ?_
  intro C k
  replace k := k.iconst (0 : Int32) d9_0 rfl
  replace k := k.istoreN #[.val (.ref a1), .val (.ref a2), .val (.int (1 : Int32)), .val (.int (0 : Int32))] d9_1 rfl
  replace k := k.iloadN d9_2 rfl
  replace k := k.iconst (1 : Int32) d9_3 rfl
  replace k := k.icmpYes (pc' := 48) d9_4 (by decide) (by decide) (by decide)
  replace k := k.iloadN d9_48 rfl
  replace k := k.iloadN d9_49 rfl
  replace k := k.icmpNo d9_50 (by decide)
  replace k := k.aloadN d9_53 rfl rfl
  replace k := k.iloadN d9_54 rfl
  replace k := k.iaload d9_55 A1  0 (by decide) (by decide) (by decide) (.int p3) rfl
  replace k := k.aloadN d9_56 rfl rfl
  replace k := k.iloadN d9_57 rfl
  replace k := k.iaload d9_58 A2  0 (by decide) (by decide) (by decide) (.int p4) rfl
  by_cases hc1 : p3 = p4
  · skip
    replace k := k.icmpYes (pc' := 64) d9_59 (teq hc1).1 (by decide) (by decide)
    replace k := k.iinc (1 : Int32) #[.val (.ref a1), .val (.ref a2), .val (.int (1 : Int32)), .val (.int ((0 : Int32) + (1 : Int32)))] d9_64 rfl rfl rfl
    replace k := k.loc #[.val (.ref a1), .val (.ref a2), .val (.int (1 : Int32)), .val (.int (1 : Int32))] (by rfl)
    replace k := k.goto (pc' := 48) d9_67 (by decide) (by decide)
    replace k := k.iloadN d9_48 rfl
    replace k := k.iloadN d9_49 rfl
    replace k := k.icmpYes (pc' := 70) d9_50 (by decide) (by decide) (by decide)
    replace k := k.iconst (-1 : Int32) d9_70 rfl
    exact k.iret d9_71 rfl (by simp) rfl ⟨by rw [own_mi1, if_pos hc1], rfl⟩ (by decide) (by decide)
  · skip
    replace k := k.icmpNo d9_59 (feq hc1).1
    replace k := k.iloadN d9_62 rfl
    exact k.iret d9_63 rfl (by simp) rfl ⟨by rw [own_mi1, if_neg hc1], rfl⟩ (by decide) (by decide)

theorem d8_0 : decode jdk_65_method_83_code 0 = .ok (.aload_n 0, 1) := by decide +kernel
theorem d8_1 : decode jdk_65_method_83_code 1 = .ok (.aload_n 1, 1) := by decide +kernel
theorem d8_2 : decode jdk_65_method_83_code 2 = .ok (.if_acmp .ne 5, 3) := by decide +kernel
theorem d8_7 : decode jdk_65_method_83_code 7 = .ok (.aload_n 0, 1) := by decide +kernel
theorem d8_8 : decode jdk_65_method_83_code 8 = .ok (.ifnull 7, 3) := by decide +kernel
theorem d8_11 : decode jdk_65_method_83_code 11 = .ok (.aload_n 1, 1) := by decide +kernel
theorem d8_12 : decode jdk_65_method_83_code 12 = .ok (.ifnonnull 5, 3) := by decide +kernel
theorem d8_17 : decode jdk_65_method_83_code 17 = .ok (.aload_n 0, 1) := by decide +kernel
theorem d8_18 : decode jdk_65_method_83_code 18 = .ok (.arraylength, 1) := by decide +kernel
theorem d8_19 : decode jdk_65_method_83_code 19 = .ok (.istore_n 2, 1) := by decide +kernel
theorem d8_20 : decode jdk_65_method_83_code 20 = .ok (.aload_n 1, 1) := by decide +kernel
theorem d8_21 : decode jdk_65_method_83_code 21 = .ok (.arraylength, 1) := by decide +kernel
theorem d8_22 : decode jdk_65_method_83_code 22 = .ok (.iload_n 2, 1) := by decide +kernel
theorem d8_23 : decode jdk_65_method_83_code 23 = .ok (.if_icmp .eq 5, 3) := by decide +kernel
theorem d8_28 : decode jdk_65_method_83_code 28 = .ok (.aload_n 0, 1) := by decide +kernel
theorem d8_29 : decode jdk_65_method_83_code 29 = .ok (.aload_n 1, 1) := by decide +kernel
theorem d8_30 : decode jdk_65_method_83_code 30 = .ok (.iload_n 2, 1) := by decide +kernel
theorem d8_31 : decode jdk_65_method_83_code 31 = .ok (.invokestatic 254, 3) := by decide +kernel
theorem d8_34 : decode jdk_65_method_83_code 34 = .ok (.ifCond .ge 7, 3) := by decide +kernel
theorem d8_37 : decode jdk_65_method_83_code 37 = .ok (.iconst 1, 1) := by decide +kernel
theorem d8_38 : decode jdk_65_method_83_code 38 = .ok (.goto 4, 3) := by decide +kernel
theorem d8_41 : decode jdk_65_method_83_code 41 = .ok (.iconst 0, 1) := by decide +kernel
theorem d8_42 : decode jdk_65_method_83_code 42 = .ok (.ireturn, 1) := by decide +kernel
set_option maxRecDepth 65536 in
set_option maxHeartbeats 40000000 in
theorem rm8_1 (Z : State) (a0 : Array Value) (hw : ∀ d ∈ tables_1, d.before a0 Z = true) (a1 a2 : Addr) (p3 p4 : Int32) (h0 : Heap) (n0 : Nat) (ne : a1 ≠ a2) (A1 : Arf Z h0 a1 .int 1 (fun _ => .int p3)) (A2 : Arf Z h0 a2 .int 1 (fun _ => .int p4)) :
    Con Z n0 (⟨"java/util/Arrays", "equals", "([I[I)Z"⟩ : MethodName) jdk_65_method_83_code 3 (some .boolean) [] ({ frames := 1, cells := 0, slots := 0, locals := 15 } : Room) #[(.ref a1), (.ref a2)] h0 (fun v h => v = some (.int (own_ae1 p3 p4)) ∧ h0 = h) := by
  refine Con.intro (L0 := #[.val (.ref a1), .val (.ref a2), .unset]) (plainFor_of_name (by first | (simp [plainName, overriddenIn]; done) | decide +kernel)) (fun m => by first | (simp [entryFrame, mkF, argsToLocals, Value.category]; done) | rfl) ?_
  intro C k
  replace k := k.aloadN d8_0 rfl rfl
  replace k := k.aloadN d8_1 rfl rfl
  replace k := k.acmpYes (pc' := 7) d8_2 rfl rfl (ac_ne (fun q => ne (Value.ref.inj q))).2 (by decide) (by decide)
  replace k := k.aloadN d8_7 rfl rfl
  replace k := k.ifnullNo d8_8
  replace k := k.aloadN d8_11 rfl rfl
  replace k := k.ifnonnullYes (pc' := 17) d8_12 (by decide) (by decide)
  replace k := k.aloadN d8_17 rfl rfl
  replace k := k.arrlen d8_18 A1 (1 : Int32) (by decide)
  replace k := k.istoreN #[.val (.ref a1), .val (.ref a2), .val (.int (1 : Int32))] d8_19 rfl
  replace k := k.aloadN d8_20 rfl rfl
  replace k := k.arrlen d8_21 A2 (1 : Int32) (by decide)
  replace k := k.iloadN d8_22 rfl
  replace k := k.icmpYes (pc' := 28) d8_23 (by decide) (by decide) (by decide)
  replace k := k.aloadN d8_28 rfl rfl
  replace k := k.aloadN d8_29 rfl rfl
  replace k := k.iloadN d8_30 rfl
  obtain ⟨_, _, ⟨rfl, rfl⟩, k⟩ := k.callS (y := (⟨"jdk/internal/util/ArraysSupport", "mismatch", "([I[II)I"⟩ : MethodName)) d8_31 (hw _ (List.mem_of_getElem? (i := 51) rfl)) (hw _ (List.mem_of_getElem? (i := 52) rfl)) (hw _ (List.mem_of_getElem? (i := 53) rfl)) (hw _ (List.mem_of_getElem? (i := 54) rfl)) (W := 0) (argsL := [(.ref a1), (.ref a2), (.int (1 : Int32))]) (rest := []) (rm9_1 Z a0 hw a1 a2 p3 p4 h0 n0 A1 A2) rfl (pd_1) rfl rfl rfl (by decide) (by decide) (by decide) (by decide) (by decide)
  replace k := k.stk [(.int (own_mi1 p3 p4))] rfl
  by_cases hc1 : (own_mi1 p3 p4) < (0 : Int32)
  · skip
    replace k := k.ifNo d8_34 (tlt hc1).2.1
    replace k := k.iconst (1 : Int32) d8_37 rfl
    replace k := k.goto (pc' := 42) d8_38 (by decide) (by decide)
    exact k.iret d8_42 rfl (by simp) rfl ⟨by rw [own_ae1, if_pos hc1], rfl⟩ (by decide) (by decide)
  · skip
    replace k := k.ifYes (pc' := 41) d8_34 (flt hc1).2.1 (by decide) (by decide)
    replace k := k.iconst (0 : Int32) d8_41 rfl
    exact k.iret d8_42 rfl (by simp) rfl ⟨by rw [own_ae1, if_neg hc1], rfl⟩ (by decide) (by decide)

set_option maxRecDepth 65536 in
set_option maxHeartbeats 40000000 in
theorem rm9_0 (Z : State) (a0 : Array Value) (hw : ∀ d ∈ tables_1, d.before a0 Z = true) (a1 a2 : Addr) (p3 p4 : Int32) (h0 : Heap) (n0 : Nat) (A1 : Arf Z h0 a1 .int 0 (fun _ => .int p3)) (A2 : Arf Z h0 a2 .int 0 (fun _ => .int p4)) :
    Con Z n0 (⟨"jdk/internal/util/ArraysSupport", "mismatch", "([I[II)I"⟩ : MethodName) jdk_48_method_19_code 4 (some .int) [] ({ frames := 0, cells := 0, slots := 0, locals := 0 } : Room) #[(.ref a1), (.ref a2), (.int (0 : Int32))] h0 (fun v h => v = some (.int (own_mi0 p3 p4)) ∧ h0 = h) := by
  refine Con.intro (L0 := #[.val (.ref a1), .val (.ref a2), .val (.int (0 : Int32)), .unset]) (plainFor_of_name (by first | (simp [plainName, overriddenIn]; done) | decide +kernel)) (fun m => by first | (simp [entryFrame, mkF, argsToLocals, Value.category]; done) | rfl) ?_
  intro C k
  replace k := k.iconst (0 : Int32) d9_0 rfl
  replace k := k.istoreN #[.val (.ref a1), .val (.ref a2), .val (.int (0 : Int32)), .val (.int (0 : Int32))] d9_1 rfl
  replace k := k.iloadN d9_2 rfl
  replace k := k.iconst (1 : Int32) d9_3 rfl
  replace k := k.icmpYes (pc' := 48) d9_4 (by decide) (by decide) (by decide)
  replace k := k.iloadN d9_48 rfl
  replace k := k.iloadN d9_49 rfl
  replace k := k.icmpYes (pc' := 70) d9_50 (by decide) (by decide) (by decide)
  replace k := k.iconst (-1 : Int32) d9_70 rfl
  exact k.iret d9_71 rfl (by simp) rfl ⟨by rw [own_mi0], rfl⟩ (by decide) (by decide)

set_option maxRecDepth 65536 in
set_option maxHeartbeats 40000000 in
theorem rm8_0 (Z : State) (a0 : Array Value) (hw : ∀ d ∈ tables_1, d.before a0 Z = true) (a1 a2 : Addr) (p3 p4 : Int32) (h0 : Heap) (n0 : Nat) (ne : a1 ≠ a2) (A1 : Arf Z h0 a1 .int 0 (fun _ => .int p3)) (A2 : Arf Z h0 a2 .int 0 (fun _ => .int p4)) :
    Con Z n0 (⟨"java/util/Arrays", "equals", "([I[I)Z"⟩ : MethodName) jdk_65_method_83_code 3 (some .boolean) [] ({ frames := 1, cells := 0, slots := 0, locals := 15 } : Room) #[(.ref a1), (.ref a2)] h0 (fun v h => v = some (.int (own_ae0 p3 p4)) ∧ h0 = h) := by
  refine Con.intro (L0 := #[.val (.ref a1), .val (.ref a2), .unset]) (plainFor_of_name (by first | (simp [plainName, overriddenIn]; done) | decide +kernel)) (fun m => by first | (simp [entryFrame, mkF, argsToLocals, Value.category]; done) | rfl) ?_
  intro C k
  replace k := k.aloadN d8_0 rfl rfl
  replace k := k.aloadN d8_1 rfl rfl
  replace k := k.acmpYes (pc' := 7) d8_2 rfl rfl (ac_ne (fun q => ne (Value.ref.inj q))).2 (by decide) (by decide)
  replace k := k.aloadN d8_7 rfl rfl
  replace k := k.ifnullNo d8_8
  replace k := k.aloadN d8_11 rfl rfl
  replace k := k.ifnonnullYes (pc' := 17) d8_12 (by decide) (by decide)
  replace k := k.aloadN d8_17 rfl rfl
  replace k := k.arrlen d8_18 A1 (0 : Int32) (by decide)
  replace k := k.istoreN #[.val (.ref a1), .val (.ref a2), .val (.int (0 : Int32))] d8_19 rfl
  replace k := k.aloadN d8_20 rfl rfl
  replace k := k.arrlen d8_21 A2 (0 : Int32) (by decide)
  replace k := k.iloadN d8_22 rfl
  replace k := k.icmpYes (pc' := 28) d8_23 (by decide) (by decide) (by decide)
  replace k := k.aloadN d8_28 rfl rfl
  replace k := k.aloadN d8_29 rfl rfl
  replace k := k.iloadN d8_30 rfl
  obtain ⟨_, _, ⟨rfl, rfl⟩, k⟩ := k.callS (y := (⟨"jdk/internal/util/ArraysSupport", "mismatch", "([I[II)I"⟩ : MethodName)) d8_31 (hw _ (List.mem_of_getElem? (i := 51) rfl)) (hw _ (List.mem_of_getElem? (i := 52) rfl)) (hw _ (List.mem_of_getElem? (i := 53) rfl)) (hw _ (List.mem_of_getElem? (i := 54) rfl)) (W := 0) (argsL := [(.ref a1), (.ref a2), (.int (0 : Int32))]) (rest := []) (rm9_0 Z a0 hw a1 a2 p3 p4 h0 n0 A1 A2) rfl (pd_1) rfl rfl rfl (by decide) (by decide) (by decide) (by decide) (by decide)
  replace k := k.stk [(.int (own_mi0 p3 p4))] rfl
  by_cases hc1 : (own_mi0 p3 p4) < (0 : Int32)
  · skip
    replace k := k.ifNo d8_34 (tlt hc1).2.1
    replace k := k.iconst (1 : Int32) d8_37 rfl
    replace k := k.goto (pc' := 42) d8_38 (by decide) (by decide)
    exact k.iret d8_42 rfl (by simp) rfl ⟨by rw [own_ae0, if_pos hc1], rfl⟩ (by decide) (by decide)
  · skip
    replace k := k.ifYes (pc' := 41) d8_34 (flt hc1).2.1 (by decide) (by decide)
    replace k := k.iconst (0 : Int32) d8_41 rfl
    exact k.iret d8_42 rfl (by simp) rfl ⟨by rw [own_ae0, if_neg hc1], rfl⟩ (by decide) (by decide)

theorem d7_0 : decode prog_21_method_9_code 0 = .ok (.aload_n 1, 1) := by decide +kernel
theorem d7_1 : decode prog_21_method_9_code 1 = .ok (.instanceof 8, 3) := by decide +kernel
theorem d7_4 : decode prog_21_method_9_code 4 = .ok (.ifCond .eq 40, 3) := by decide +kernel
theorem d7_7 : decode prog_21_method_9_code 7 = .ok (.aload_n 1, 1) := by decide +kernel
theorem d7_8 : decode prog_21_method_9_code 8 = .ok (.checkcast 8, 3) := by decide +kernel
theorem d7_11 : decode prog_21_method_9_code 11 = .ok (.astore_n 2, 1) := by decide +kernel
theorem d7_12 : decode prog_21_method_9_code 12 = .ok (.aload_n 0, 1) := by decide +kernel
theorem d7_13 : decode prog_21_method_9_code 13 = .ok (.getfield 7, 3) := by decide +kernel
theorem d7_16 : decode prog_21_method_9_code 16 = .ok (.aload_n 2, 1) := by decide +kernel
theorem d7_17 : decode prog_21_method_9_code 17 = .ok (.getfield 7, 3) := by decide +kernel
theorem d7_20 : decode prog_21_method_9_code 20 = .ok (.invokestatic 34, 3) := by decide +kernel
theorem d7_23 : decode prog_21_method_9_code 23 = .ok (.ifCond .eq 21, 3) := by decide +kernel
theorem d7_26 : decode prog_21_method_9_code 26 = .ok (.aload_n 0, 1) := by decide +kernel
theorem d7_27 : decode prog_21_method_9_code 27 = .ok (.getfield 13, 3) := by decide +kernel
theorem d7_30 : decode prog_21_method_9_code 30 = .ok (.aload_n 2, 1) := by decide +kernel
theorem d7_31 : decode prog_21_method_9_code 31 = .ok (.getfield 13, 3) := by decide +kernel
theorem d7_34 : decode prog_21_method_9_code 34 = .ok (.invokestatic 34, 3) := by decide +kernel
theorem d7_37 : decode prog_21_method_9_code 37 = .ok (.ifCond .eq 7, 3) := by decide +kernel
theorem d7_40 : decode prog_21_method_9_code 40 = .ok (.iconst 1, 1) := by decide +kernel
theorem d7_41 : decode prog_21_method_9_code 41 = .ok (.goto 4, 3) := by decide +kernel
theorem d7_44 : decode prog_21_method_9_code 44 = .ok (.iconst 0, 1) := by decide +kernel
theorem d7_45 : decode prog_21_method_9_code 45 = .ok (.ireturn, 1) := by decide +kernel
set_option maxRecDepth 65536 in
set_option maxHeartbeats 40000000 in
theorem rm7 (Z : State) (a0 : Array Value) (hw : ∀ d ∈ tables_1, d.before a0 Z = true) (a1 a2 x1 x2 y1 y2 : Addr) (p3 p4 : Int32) (h0 : Heap) (n0 : Nat) (E2 : Exa Z h0 a2 "com/example/ravel/ravel/bytecode/Sources") (F1 : Fld Z h0 a1 "com/example/ravel/ravel/bytecode/Sources" "arguments" "[I" (.ref x1)) (G1 : Fld Z h0 a1 "com/example/ravel/ravel/bytecode/Sources" "producers" "[I" (.ref y1)) (F2 : Fld Z h0 a2 "com/example/ravel/ravel/bytecode/Sources" "arguments" "[I" (.ref x2)) (G2 : Fld Z h0 a2 "com/example/ravel/ravel/bytecode/Sources" "producers" "[I" (.ref y2)) (nx : x1 ≠ x2) (ny : y1 ≠ y2) (Ax1 : Arf Z h0 x1 .int 1 (fun _ => .int p3)) (Ax2 : Arf Z h0 x2 .int 1 (fun _ => .int p4)) (Ay1 : Arf Z h0 y1 .int 0 (fun _ => .int (0 : Int32))) (Ay2 : Arf Z h0 y2 .int 0 (fun _ => .int (0 : Int32))) :
    Con Z n0 (⟨"com/example/ravel/ravel/bytecode/Sources", "equals", "(Ljava/lang/Object;)Z"⟩ : MethodName) prog_21_method_9_code 3 (some .boolean) [] ({ frames := 2, cells := 0, slots := 0, locals := 29 } : Room) #[(.ref a1), (.ref a2)] h0 (fun v h => v = some (.int (own_eq p3 p4)) ∧ h0 = h) := by
  refine Con.intro (L0 := #[.val (.ref a1), .val (.ref a2), .unset]) (plainFor_of_name (by first | (simp [plainName, overriddenIn]; done) | decide +kernel)) (fun m => by first | (simp [entryFrame, mkF, argsToLocals, Value.category]; done) | rfl) ?_
  intro C k
  replace k := k.aloadN d7_0 rfl rfl
  replace k := k.instY d7_1 (hw _ (List.mem_of_getElem? (i := 4) rfl)) (Ins.self E2)
  replace k := k.ifNo d7_4 (by decide)
  replace k := k.aloadN d7_7 rfl rfl
  replace k := k.castY d7_8 (hw _ (List.mem_of_getElem? (i := 4) rfl)) (Ins.self E2)
  replace k := k.astoreN #[.val (.ref a1), .val (.ref a2), .val (.ref a2)] d7_11 rfl rfl
  replace k := k.aloadN d7_12 rfl rfl
  replace k := k.getF d7_13 (host := "") (Or.inl (hw _ (List.mem_of_getElem? (i := 13) rfl))) Via.refl F1
  replace k := k.aloadN d7_16 rfl rfl
  replace k := k.getF d7_17 (host := "") (Or.inl (hw _ (List.mem_of_getElem? (i := 13) rfl))) Via.refl F2
  obtain ⟨_, _, ⟨rfl, rfl⟩, k⟩ := k.callS (y := (⟨"java/util/Arrays", "equals", "([I[I)Z"⟩ : MethodName)) d7_20 (hw _ (List.mem_of_getElem? (i := 47) rfl)) (hw _ (List.mem_of_getElem? (i := 48) rfl)) (hw _ (List.mem_of_getElem? (i := 49) rfl)) (hw _ (List.mem_of_getElem? (i := 50) rfl)) (W := 0) (argsL := [(.ref x1), (.ref x2)]) (rest := []) (rm8_1 Z a0 hw x1 x2 p3 p4 h0 n0 nx Ax1 Ax2) rfl (pd_2) rfl rfl rfl (by decide) (by decide) (by decide) (by decide) (by decide)
  replace k := k.stk [(.int (own_ae1 p3 p4))] rfl
  by_cases hc1 : (own_ae1 p3 p4) = (0 : Int32)
  · skip
    replace k := k.ifYes (pc' := 44) d7_23 (teq hc1).1 (by decide) (by decide)
    replace k := k.iconst (0 : Int32) d7_44 rfl
    exact k.iret d7_45 rfl (by simp) rfl ⟨by rw [own_eq, if_pos hc1], rfl⟩ (by decide) (by decide)
  · skip
    replace k := k.ifNo d7_23 (feq hc1).1
    replace k := k.aloadN d7_26 rfl rfl
    replace k := k.getF d7_27 (host := "") (Or.inl (hw _ (List.mem_of_getElem? (i := 15) rfl))) Via.refl G1
    replace k := k.aloadN d7_30 rfl rfl
    replace k := k.getF d7_31 (host := "") (Or.inl (hw _ (List.mem_of_getElem? (i := 15) rfl))) Via.refl G2
    obtain ⟨_, _, ⟨rfl, rfl⟩, k⟩ := k.callS (y := (⟨"java/util/Arrays", "equals", "([I[I)Z"⟩ : MethodName)) d7_34 (hw _ (List.mem_of_getElem? (i := 47) rfl)) (hw _ (List.mem_of_getElem? (i := 48) rfl)) (hw _ (List.mem_of_getElem? (i := 49) rfl)) (hw _ (List.mem_of_getElem? (i := 50) rfl)) (W := 0) (argsL := [(.ref y1), (.ref y2)]) (rest := []) (rm8_0 Z a0 hw y1 y2 (0 : Int32) (0 : Int32) h0 n0 ny Ay1 Ay2) rfl (pd_2) rfl rfl rfl (by decide) (by decide) (by decide) (by decide) (by decide)
    replace k := k.stk [(.int (own_ae0 (0 : Int32) (0 : Int32)))] rfl
    by_cases hc2 : (own_ae0 (0 : Int32) (0 : Int32)) = (0 : Int32)
    · skip
      replace k := k.ifYes (pc' := 44) d7_37 (teq hc2).1 (by decide) (by decide)
      replace k := k.iconst (0 : Int32) d7_44 rfl
      exact k.iret d7_45 rfl (by simp) rfl ⟨by rw [own_eq, if_neg hc1, if_pos hc2], rfl⟩ (by decide) (by decide)
    · skip
      replace k := k.ifNo d7_37 (feq hc2).1
      replace k := k.iconst (1 : Int32) d7_40 rfl
      replace k := k.goto (pc' := 45) d7_41 (by decide) (by decide)
      exact k.iret d7_45 rfl (by simp) rfl ⟨by rw [own_eq, if_neg hc1, if_neg hc2], rfl⟩ (by decide) (by decide)

set_option maxRecDepth 65536 in
set_option maxHeartbeats 40000000 in
theorem rm0 (Z : State) (a0 : Array Value) (hw : ∀ d ∈ tables_1, d.before a0 Z = true) (p1 p2 p3 : Int32) (h0 : Heap) (n0 : Nat) (Z0 : n0 ≤ h0.size) :
    Con Z n0 x code maxLocals ret tables_1 room_1 #[(.int p1), (.int p2), (.int p3)] h0 (fun v h => v = some (.int (1 : Int32))) := by
  refine Con.intro (L0 := #[.val (.int p1), .val (.int p2), .val (.int p3), .unset, .unset, .unset, .unset, .unset, .unset, .unset]) (plainFor_of_name (by first | (simp [plainName, overriddenIn]; done) | decide +kernel)) (fun m => by first | (simp [entryFrame, mkF, argsToLocals, Value.category, maxLocals]; done) | rfl) ?_
  intro C k
  replace k := k.iloadN at_0 rfl
  replace k := k.iconst (1 : Int32) at_1 rfl
  replace k := k.iand at_2
  replace k : Run C room_1 Z n0 x.cls x.name ret code maxLocals h0 0 0 11 #[.val (.int p1), .val (.int p2), .val (.int p3), .unset, .unset, .unset, .unset, .unset, .unset, .unset] [(.int (if (p3 &&& (1 : Int32)) = (0 : Int32) then p2 else p1))] := by
    by_cases hc1 : (p3 &&& (1 : Int32)) = (0 : Int32)
    · rw [if_pos hc1]
      replace k := k.ifYes (pc' := 10) at_3 (teq hc1).1 (by decide) (by decide)
      replace k := k.iloadN at_10 rfl
      exact k
    · rw [if_neg hc1]
      replace k := k.ifNo at_3 (feq hc1).1
      replace k := k.iloadN at_6 rfl
      replace k := k.goto (pc' := 11) at_7 (by decide) (by decide)
      exact k
  replace k := k.istoreN #[.val (.int p1), .val (.int p2), .val (.int p3), .val (.int (if (p3 &&& (1 : Int32)) = (0 : Int32) then p2 else p1)), .unset, .unset, .unset, .unset, .unset, .unset] at_11 rfl
  replace k := k.iloadN at_12 rfl
  obtain ⟨_, hs2, ⟨bs2, xs2, ys2, rfl, gbs2, zxs2, zys2, Ks2, Ebs2, Fxs2, Fys2, Axs2, Exs2, Ays2, Eys2⟩, k⟩ := k.callS (y := (⟨"com/example/ravel/ravel/bytecode/Sources", "argument", "(I)Lcom/example/ravel/ravel/bytecode/Sources;"⟩ : MethodName)) at_13 (hw _ (List.mem_of_getElem? (i := 0) rfl)) (hw _ (List.mem_of_getElem? (i := 1) rfl)) (hw _ (List.mem_of_getElem? (i := 2) rfl)) (hw _ (List.mem_of_getElem? (i := 3) rfl)) (W := 0) (argsL := [(.int p1)]) (rest := []) (rm1 Z a0 hw p1 h0 n0 Z0) rfl (pd_3) rfl rfl rfl (by decide) (by decide) (by decide) (by decide) (by decide)
  replace k := k.stk [(.ref bs2)] rfl
  replace k := k.astore #[.val (.int p1), .val (.int p2), .val (.int p3), .val (.int (if (p3 &&& (1 : Int32)) = (0 : Int32) then p2 else p1)), .val (.ref bs2), .unset, .unset, .unset, .unset, .unset] at_16 rfl rfl
  replace k := k.aload at_18 rfl rfl
  obtain ⟨_, hq3, ⟨bq3, rfl, Kq3, Aq3⟩, k⟩ := k.callV (y := (⟨"com/example/ravel/ravel/bytecode/Sources", "arguments", "()[I"⟩ : MethodName)) (z := (⟨"com/example/ravel/ravel/bytecode/Sources", "arguments", "()[I"⟩ : MethodName)) (a := bs2) at_20 (hw _ (List.mem_of_getElem? (i := 17) rfl)) (hw _ (List.mem_of_getElem? (i := 18) rfl)) (fun s hs => notFace_of_selects (args := #[]) (mvT hs (hw _ (List.mem_of_getElem? (i := 20) rfl)))) (hw _ (List.mem_of_getElem? (i := 20) rfl)) (hw _ (List.mem_of_getElem? (i := 19) rfl)) (hw _ (List.mem_of_getElem? (i := 2) rfl)) (hw _ (List.mem_of_getElem? (i := 21) rfl)) Ebs2 (W := 0) (argsL := []) (rest := []) (rm4 Z a0 hw bs2 xs2 p1 hs2 n0 (Nat.le_trans Z0 Ks2.1) Fxs2 Axs2 Exs2) rfl (pd_4) rfl rfl rfl (by decide) (by decide) (by decide) (by decide) (by decide)
  replace k := k.stk [(.ref bq3)] rfl
  replace k := k.astore #[.val (.int p1), .val (.int p2), .val (.int p3), .val (.int (if (p3 &&& (1 : Int32)) = (0 : Int32) then p2 else p1)), .val (.ref bs2), .val (.ref bq3), .unset, .unset, .unset, .unset] at_23 rfl rfl
  replace k := k.aload at_25 rfl rfl
  obtain ⟨_, hq4, ⟨bq4, rfl, Kq4, Aq4⟩, k⟩ := k.callV (y := (⟨"com/example/ravel/ravel/bytecode/Sources", "producers", "()[I"⟩ : MethodName)) (z := (⟨"com/example/ravel/ravel/bytecode/Sources", "producers", "()[I"⟩ : MethodName)) (a := bs2) at_27 (hw _ (List.mem_of_getElem? (i := 31) rfl)) (hw _ (List.mem_of_getElem? (i := 32) rfl)) (fun s hs => notFace_of_selects (args := #[]) (mvT hs (hw _ (List.mem_of_getElem? (i := 34) rfl)))) (hw _ (List.mem_of_getElem? (i := 34) rfl)) (hw _ (List.mem_of_getElem? (i := 33) rfl)) (hw _ (List.mem_of_getElem? (i := 2) rfl)) (hw _ (List.mem_of_getElem? (i := 35) rfl)) (Ebs2.keep Kq3) (W := 0) (argsL := []) (rest := []) (rm5 Z a0 hw bs2 ys2 (0 : Int32) hq3 n0 (Nat.le_trans (Nat.le_trans Z0 Ks2.1) Kq3.1) (Fys2.keep Kq3 nin0) (Ays2.keep Kq3 nin0) (Eys2.keep Kq3)) rfl (pd_4) rfl rfl rfl (by decide) (by decide) (by decide) (by decide) (by decide)
  replace k := k.stk [(.ref bq4)] rfl
  replace k := k.astore #[.val (.int p1), .val (.int p2), .val (.int p3), .val (.int (if (p3 &&& (1 : Int32)) = (0 : Int32) then p2 else p1)), .val (.ref bs2), .val (.ref bq3), .val (.ref bq4), .unset, .unset, .unset] at_30 rfl rfl
  replace k := k.aload at_32 rfl rfl
  replace k := k.arrlen at_34 (Aq3.keep Kq4 nin0) (1 : Int32) (by decide)
  replace k := k.iconst (1 : Int32) at_35 rfl
  replace k := k.icmpNo at_36 (by decide)
  replace k := k.aload at_39 rfl rfl
  replace k := k.iconst (0 : Int32) at_41 rfl
  replace k := k.iaload at_42 (Aq3.keep Kq4 nin0)  0 (by decide) (by decide) (by decide) (.int p1) rfl
  replace k := k.iloadN at_43 rfl
  replace k := k.icmpNo at_44 (teq rfl).2
  replace k := k.aload at_47 rfl rfl
  replace k := k.arrlen at_49 Aq4 (0 : Int32) (by decide)
  replace k := k.ifNo at_50 (by decide)
  replace k := k.aload at_53 rfl rfl
  obtain ⟨_, _, ⟨rfl, rfl⟩, k⟩ := k.callV (y := (⟨"com/example/ravel/ravel/bytecode/Sources", "isEmpty", "()Z"⟩ : MethodName)) (z := (⟨"com/example/ravel/ravel/bytecode/Sources", "isEmpty", "()Z"⟩ : MethodName)) (a := bs2) at_55 (hw _ (List.mem_of_getElem? (i := 36) rfl)) (hw _ (List.mem_of_getElem? (i := 37) rfl)) (fun s hs => notFace_of_selects (args := #[]) (mvT hs (hw _ (List.mem_of_getElem? (i := 39) rfl)))) (hw _ (List.mem_of_getElem? (i := 39) rfl)) (hw _ (List.mem_of_getElem? (i := 38) rfl)) (hw _ (List.mem_of_getElem? (i := 2) rfl)) (hw _ (List.mem_of_getElem? (i := 40) rfl)) ((Ebs2.keep Kq3).keep Kq4) (W := 0) (argsL := []) (rest := []) (rm6 Z a0 hw bs2 xs2 p1 hq4 n0 ((Fxs2.keep Kq3 nin0).keep Kq4 nin0) ((Axs2.keep Kq3 nin0).keep Kq4 nin0)) rfl (pd_5) rfl rfl rfl (by decide) (by decide) (by decide) (by decide) (by decide)
  replace k := k.stk [(.int (0 : Int32))] rfl
  replace k := k.ifNo at_58 (by decide)
  replace k := k.iconst (1 : Int32) at_61 rfl
  replace k := k.goto (pc' := 66) at_62 (by decide) (by decide)
  replace k := k.istore #[.val (.int p1), .val (.int p2), .val (.int p3), .val (.int (if (p3 &&& (1 : Int32)) = (0 : Int32) then p2 else p1)), .val (.ref bs2), .val (.ref bq3), .val (.ref bq4), .val (.int (1 : Int32)), .unset, .unset] at_66 rfl
  replace k := k.iloadN at_68 rfl
  obtain ⟨_, hs5, ⟨bs5, xs5, ys5, rfl, gbs5, zxs5, zys5, Ks5, Ebs5, Fxs5, Fys5, Axs5, Exs5, Ays5, Eys5⟩, k⟩ := k.callS (y := (⟨"com/example/ravel/ravel/bytecode/Sources", "argument", "(I)Lcom/example/ravel/ravel/bytecode/Sources;"⟩ : MethodName)) at_69 (hw _ (List.mem_of_getElem? (i := 0) rfl)) (hw _ (List.mem_of_getElem? (i := 1) rfl)) (hw _ (List.mem_of_getElem? (i := 2) rfl)) (hw _ (List.mem_of_getElem? (i := 3) rfl)) (W := 0) (argsL := [(.int (if (p3 &&& (1 : Int32)) = (0 : Int32) then p2 else p1))]) (rest := []) (rm1 Z a0 hw (if (p3 &&& (1 : Int32)) = (0 : Int32) then p2 else p1) hq4 n0 (Nat.le_trans (Nat.le_trans (Nat.le_trans Z0 Ks2.1) Kq3.1) Kq4.1)) rfl (pd_3) rfl rfl rfl (by decide) (by decide) (by decide) (by decide) (by decide)
  replace k := k.stk [(.ref bs5)] rfl
  replace k := k.astore #[.val (.int p1), .val (.int p2), .val (.int p3), .val (.int (if (p3 &&& (1 : Int32)) = (0 : Int32) then p2 else p1)), .val (.ref bs2), .val (.ref bq3), .val (.ref bq4), .val (.int (1 : Int32)), .val (.ref bs5), .unset] at_72 rfl rfl
  replace k := k.aload at_74 rfl rfl
  replace k := k.aload at_76 rfl rfl
  obtain ⟨_, _, ⟨rfl, rfl⟩, k⟩ := k.callV (y := (⟨"com/example/ravel/ravel/bytecode/Sources", "equals", "(Ljava/lang/Object;)Z"⟩ : MethodName)) (z := (⟨"com/example/ravel/ravel/bytecode/Sources", "equals", "(Ljava/lang/Object;)Z"⟩ : MethodName)) (a := bs2) at_78 (hw _ (List.mem_of_getElem? (i := 41) rfl)) (hw _ (List.mem_of_getElem? (i := 42) rfl)) (fun s hs => notFace_of_selects (args := #[]) (mvT hs (hw _ (List.mem_of_getElem? (i := 44) rfl)))) (hw _ (List.mem_of_getElem? (i := 44) rfl)) (hw _ (List.mem_of_getElem? (i := 43) rfl)) (hw _ (List.mem_of_getElem? (i := 2) rfl)) (hw _ (List.mem_of_getElem? (i := 45) rfl)) (((Ebs2.keep Kq3).keep Kq4).keep Ks5) (W := 0) (argsL := [(.ref bs5)]) (rest := []) (rm7 Z a0 hw bs2 bs5 xs2 xs5 ys2 ys5 p1 (if (p3 &&& (1 : Int32)) = (0 : Int32) then p2 else p1) hs5 n0 Ebs5 (((Fxs2.keep Kq3 nin0).keep Kq4 nin0).keep Ks5 nin0) (((Fys2.keep Kq3 nin0).keep Kq4 nin0).keep Ks5 nin0) Fxs5 Fys5 (Nat.ne_of_lt (Nat.lt_of_lt_of_le ((Axs2.keep Kq3 nin0).keep Kq4 nin0).lt zxs5)) (Nat.ne_of_lt (Nat.lt_of_lt_of_le ((Ays2.keep Kq3 nin0).keep Kq4 nin0).lt zys5)) (((Axs2.keep Kq3 nin0).keep Kq4 nin0).keep Ks5 nin0) Axs5 (((Ays2.keep Kq3 nin0).keep Kq4 nin0).keep Ks5 nin0) Ays5) rfl (pd_6) rfl rfl rfl (by decide) (by decide) (by decide) (by decide) (by decide)
  replace k := k.stk [(.int (own_eq p1 (if (p3 &&& (1 : Int32)) = (0 : Int32) then p2 else p1)))] rfl
  replace k := k.iloadN at_81 rfl
  replace k := k.iloadN at_82 rfl
  replace k : Run C room_1 Z n0 x.cls x.name ret code maxLocals hs5 8 7 91 #[.val (.int p1), .val (.int p2), .val (.int p3), .val (.int (if (p3 &&& (1 : Int32)) = (0 : Int32) then p2 else p1)), .val (.ref bs2), .val (.ref bq3), .val (.ref bq4), .val (.int (1 : Int32)), .val (.ref bs5), .unset] [(.int (if p1 = (if (p3 &&& (1 : Int32)) = (0 : Int32) then p2 else p1) then (1 : Int32) else (0 : Int32))), (.int (own_eq p1 (if (p3 &&& (1 : Int32)) = (0 : Int32) then p2 else p1)))] := by
    by_cases hc6 : p1 = (if (p3 &&& (1 : Int32)) = (0 : Int32) then p2 else p1)
    · rw [if_pos hc6]
      replace k := k.icmpNo at_83 (teq hc6).2
      replace k := k.iconst (1 : Int32) at_86 rfl
      replace k := k.goto (pc' := 91) at_87 (by decide) (by decide)
      exact k
    · rw [if_neg hc6]
      replace k := k.icmpYes (pc' := 90) at_83 (feq hc6).2 (by decide) (by decide)
      replace k := k.iconst (0 : Int32) at_90 rfl
      exact k
  replace k := k.icmpNo at_91 (teq (own_law _ _)).2
  replace k := k.iconst (1 : Int32) at_94 rfl
  replace k := k.goto (pc' := 99) at_95 (by decide) (by decide)
  replace k := k.istore #[.val (.int p1), .val (.int p2), .val (.int p3), .val (.int (if (p3 &&& (1 : Int32)) = (0 : Int32) then p2 else p1)), .val (.ref bs2), .val (.ref bq3), .val (.ref bq4), .val (.int (1 : Int32)), .val (.ref bs5), .val (.int (1 : Int32))] at_99 rfl
  replace k := k.iload at_101 rfl
  replace k := k.ifNo at_103 (by decide)
  replace k := k.iload at_106 rfl
  replace k := k.ifNo at_108 (by decide)
  replace k := k.iconst (1 : Int32) at_111 rfl
  replace k := k.goto (pc' := 116) at_112 (by decide) (by decide)
  exact k.iret at_116 rfl (by simp) rfl rfl (by decide) (by decide)
set_option maxRecDepth 65536 in
set_option maxHeartbeats 40000000 in
theorem comes_1 {Post : Tables → Env → Array Value → State → Outcome → State → Prop} (hpost : ∀ tb e args s v u, (limb_1_1.after args s (.returned v) u = true ∧ limb_1_2.after args s (.returned v) u = true ∧ True) → FrameEnd s (.returned v) u (Jvm.fieldLocs frame_1_writes args s ++ Jvm.arrayLocs frame_1_arrays args s ++ Jvm.staticLocs frame_1_statics s) 24 128 → Post tb e args s (.returned v) u) :
    ArmFor flags0 classFile x code maxLocals ret World_1 tables_1 room_1 Calls_1 rest_1 Pre_1 Post := by
  intro l hfl _ _ p e ha hc hk s m args below hf hA hF happ hP
  obtain ⟨hcalls, hrest, hpre⟩ := hP
  obtain ⟨-, -, -, hnamed, -, -, -, hat⟩ := (Spec.applies_iff hf).mp happ
  obtain ⟨hg, hn⟩ := and_e (Cond.before_iff.mp (show (Jvm.Cond.and given_1 narrow_1).before args s = true from hpre))
  obtain ⟨gg0, gr0⟩ := and_e hg
  obtain ⟨gg1, gr1⟩ := and_e gr0
  obtain ⟨gg2, gr2⟩ := and_e gr1
  obtain ⟨w0, w1, w2, rfl⟩ : ∃ w0 w1 w2 : Value, args = #[w0, w1, w2] := by
    have hs : args.size = 3 := by simpa [Cond.value, given_1] using gg0
    obtain ⟨L⟩ := args
    match L, hs with
    | [w0, w1, w2], _ => exact ⟨w0, w1, w2, rfl⟩
  have hw := fun d (hd : d ∈ tables_1) => atoms_spec (ws := Jvm.Cond.code x code maxLocals ret :: tables_1) hat d (List.mem_cons_of_mem _ hd)
  have hfit : Fit s := fun {y c} hc i hi => by
    obtain ⟨ha, rfl⟩ := Array.getElem?_eq_some_iff.mp hc
    have q := List.all_eq_true.mp ((Array.all_eq_true_iff_forall_mem.mp hF) _ (Array.getElem_mem ha)) i (List.mem_range.mpr hi)
    simpa [Array.getElem?_eq_getElem hi] using q
  obtain ⟨i0, ei0⟩ := is_v gg1
  obtain rfl : w0 = (.int i0) := Option.some.inj ei0
  obtain ⟨i1, ei1⟩ := is_v gg2
  obtain rfl : w1 = (.int i1) := Option.some.inj ei1
  obtain ⟨i2, ei2⟩ := is_v gr2
  obtain rfl : w2 = (.int i2) := Option.some.inj ei2
  obtain ⟨n, o, h1, h2, h3, _, L, rfl, ⟨rfl, N⟩, hq⟩ := rm0 s _ hw i0 i1 i2  s.heap s.heap.size (Nat.le_refl _) l p e ha hc hk s m _ below hf ((Spec.applies_iff_loose hf).mp happ).1 ⟨rfl, State.Warmed39.refl s, rfl⟩ trivial
  refine ⟨n, _, h1, h2, h3, hpost _ _ _ _ _ _ ⟨Cond.after_iff.mpr rfl, Cond.after_iff.mpr (eq_i res_at (Term.int_eval (1)) rfl), trivial⟩ ⟨hq.1, hq.2.1, (hq.2.2.sift fun y hy => Or.inr (N y hy)).mono (by decide) (by decide)⟩⟩
theorem main_1_1 : Claimed_1_1 := comes_1 fun _ _ _ _ _ _ h hF => ⟨h.1, hF⟩
theorem main_1_2 : Claimed_1_2 := comes_1 fun _ _ _ _ _ _ h hF => ⟨h.2.1, hF⟩
end Jvm.Pilot.@@N@@
namespace Jvm.Pilot.@@N@@
open Jvm Jvm.ClassFile Sem Op Lib Jvm.Free Jvm.Stand Jvm.Pilot.@@N@@.Jvm.D
/-! MADE BY PROGRAM (witnessworld.py) out of the Statement's table words and the real class files: 11 classes; the members and pool entries that the words name. The judged class is class 1, her method 1. -/
namespace start1
open Jvm.ClassFile
def u (s : String) : CpInfo := .utf8 (stringToUtf16 s)
/-- a pool by its gaps: so many unusable entries, then the entry; so many at the end -/
def gap : Nat → List CpInfo → List CpInfo
  | 0, r => r
  | n + 1, r => .unusable :: gap n r
def poolList (es : List (Nat × CpInfo)) (last : Nat) : List CpInfo := es.foldr (fun e r => gap e.1 (e.2 :: r)) (gap last [])
def pool (es : List (Nat × CpInfo)) (last : Nat) : Array CpInfo := ⟨poolList es last⟩
def fileOf (pool : Array CpInfo) (this : Nat) (attrs : Array Attribute := #[]) (ms : Array MethodInfo := #[]) (fl : Nat := 33) (sup : Nat := 0) (ifs : Array Nat := #[]) (fds : Array FieldInfo := #[]) : ClassFile where
  minorVersion := 0
  majorVersion := 65
  constantPool := pool
  accessFlags := fl
  thisClass := this
  superClass := sup
  interfaces := ifs
  fields := fds
  methods := ms
  attributes := attrs
def plain (name : String) (sup : Option ClassId) : Class where
  name := name
  kind := .ordinary
  loader := none
  accessFlags := 33
  super := sup
  interfaces := #[]
  cf := none
  fields := #[]
  methods := #[]
  instanceTypes := #[]
  staticTypes := #[]
  resolved := #[]
  callSites := []
  init := .initialized
  statics := none
  mirror := none

def pool0 : Array CpInfo := pool [(5, u "<init>"), (0, u "()V"), (1, .class_ 10), (1, u "java/lang/Object"), (85, u "clone"), (0, u "()Ljava/lang/Object;")] 26

def k0c0 : Code := { maxStack := 0, maxLocals := 1, code := object_method_1_code, exceptionTable := #[], attributes := #[] }
def k0m0 : Method := { name := "<init>", desc := "()V", sig := { parameters := [], returnType := none }, accessFlags := 1, code := some k0c0 }
def k0m1 : Method := { name := "clone", desc := "()Ljava/lang/Object;", sig := { parameters := [], returnType := some (.object "java/lang/Object") }, accessFlags := 260, code := none }
/-- java/lang/Object -/
def k0 : Class := { plain "java/lang/Object" none with
  accessFlags := 33
  interfaces := #[]
  cf := some (fileOf pool0 8 #[] #[{ accessFlags := 1, nameIndex := 5, descriptorIndex := 6, attributes := #[] }, { accessFlags := 260, nameIndex := 96, descriptorIndex := 97, attributes := #[] }] 33 0 #[] #[])
  fields := #[]
  methods := #[k0m0, k0m1]
  instanceTypes := #[]
  staticTypes := #[]
  resolved := Array.replicate 124 none
  statics := none }

def pool1 : Array CpInfo := pool [(2, .class_ 4), (1, u "java/lang/Object"), (0, u "<init>"), (0, u "()V"), (0, .methodref 8 9), (0, .class_ 10), (0, .nameAndType 11 12), (0, u "com/example/ravel/ravel/bytecode/Sources"), (0, u "argument"), (0, u "(I)Lcom/example/ravel/ravel/bytecode/Sources;"), (0, .methodref 8 14), (0, .nameAndType 15 16), (0, u "arguments"), (0, u "()[I"), (0, .methodref 8 18), (0, .nameAndType 19 16), (0, u "producers"), (0, .methodref 8 21), (0, .nameAndType 22 23), (0, u "isEmpty"), (0, u "()Z"), (0, .methodref 8 25), (0, .nameAndType 26 27), (0, u "equals"), (0, u "(Ljava/lang/Object;)Z"), (0, .class_ 29), (0, u "com/example/ravel/ravel/bytecode/SourcesArgumentPinLaw"), (2, u "law"), (0, u "(III)Z")] 5

def k1m0 : Method := { name := "<init>", desc := "()V", sig := { parameters := [], returnType := none }, accessFlags := 1, code := none }
def k1c1 : Code := { maxStack := 3, maxLocals := 10, code := code, exceptionTable := #[], attributes := #[] }
def k1m1 : Method := { name := "law", desc := "(III)Z", sig := { parameters := [.int, .int, .int], returnType := some .boolean }, accessFlags := 9, code := some k1c1 }
/-- com/example/ravel/ravel/bytecode/SourcesArgumentPinLaw -/
def k1 : Class := { plain "com/example/ravel/ravel/bytecode/SourcesArgumentPinLaw" (some 0) with
  accessFlags := 49
  interfaces := #[]
  cf := some (fileOf pool1 28 #[] #[{ accessFlags := 1, nameIndex := 5, descriptorIndex := 6, attributes := #[] }, { accessFlags := 9, nameIndex := 32, descriptorIndex := 33, attributes := #[] }] 49 2 #[] #[])
  fields := #[]
  methods := #[k1m0, k1m1]
  instanceTypes := #[]
  staticTypes := #[]
  resolved := Array.replicate 39 none
  statics := none }

def pool2 : Array CpInfo := pool [(1, .methodref 2 3), (0, .class_ 4), (0, .nameAndType 5 6), (0, u "java/lang/Object"), (0, u "<init>"), (0, u "()V"), (0, .fieldref 8 9), (0, .class_ 10), (0, .nameAndType 11 12), (0, u "com/example/ravel/ravel/bytecode/Sources"), (0, u "arguments"), (0, u "[I"), (0, .fieldref 8 14), (0, .nameAndType 15 12), (0, u "producers"), (0, .methodref 8 17), (0, .nameAndType 5 18), (0, u "([I[I)V"), (0, .methodref 20 21), (0, .class_ 12), (0, .nameAndType 22 23), (0, u "clone"), (0, u "()Ljava/lang/Object;"), (5, .class_ 31), (1, u "java/util/Arrays"), (2, .methodref 29 35), (0, .nameAndType 36 37), (0, u "equals"), (0, u "([I[I)Z"), (14, u "NONE"), (0, u "Lcom/example/ravel/ravel/bytecode/Sources;"), (2, u "argument"), (0, u "(I)Lcom/example/ravel/ravel/bytecode/Sources;"), (1, u "()[I"), (0, u "isEmpty"), (0, u "()Z"), (2, u "(Ljava/lang/Object;)Z")] 20

def k2c0 : Code := { maxStack := 2, maxLocals := 3, code := prog_21_method_1_code, exceptionTable := #[], attributes := #[] }
def k2m0 : Method := { name := "<init>", desc := "([I[I)V", sig := { parameters := [(.array .int), (.array .int)], returnType := none }, accessFlags := 2, code := some k2c0 }
def k2c1 : Code := { maxStack := 6, maxLocals := 1, code := prog_21_method_2_code, exceptionTable := #[], attributes := #[] }
def k2m1 : Method := { name := "argument", desc := "(I)Lcom/example/ravel/ravel/bytecode/Sources;", sig := { parameters := [.int], returnType := some (.object "com/example/ravel/ravel/bytecode/Sources") }, accessFlags := 8, code := some k2c1 }
def k2c2 : Code := { maxStack := 1, maxLocals := 1, code := prog_21_method_4_code, exceptionTable := #[], attributes := #[] }
def k2m2 : Method := { name := "arguments", desc := "()[I", sig := { parameters := [], returnType := some (.array .int) }, accessFlags := 1, code := some k2c2 }
def k2c3 : Code := { maxStack := 1, maxLocals := 1, code := prog_21_method_5_code, exceptionTable := #[], attributes := #[] }
def k2m3 : Method := { name := "producers", desc := "()[I", sig := { parameters := [], returnType := some (.array .int) }, accessFlags := 1, code := some k2c3 }
def k2c4 : Code := { maxStack := 1, maxLocals := 1, code := prog_21_method_6_code, exceptionTable := #[], attributes := #[] }
def k2m4 : Method := { name := "isEmpty", desc := "()Z", sig := { parameters := [], returnType := some .boolean }, accessFlags := 1, code := some k2c4 }
def k2c5 : Code := { maxStack := 2, maxLocals := 3, code := prog_21_method_9_code, exceptionTable := #[], attributes := #[] }
def k2m5 : Method := { name := "equals", desc := "(Ljava/lang/Object;)Z", sig := { parameters := [(.object "java/lang/Object")], returnType := some .boolean }, accessFlags := 1, code := some k2c5 }
/-- com/example/ravel/ravel/bytecode/Sources -/
def k2 : Class := { plain "com/example/ravel/ravel/bytecode/Sources" (some 0) with
  accessFlags := 49
  interfaces := #[]
  cf := some (fileOf pool2 8 #[] #[{ accessFlags := 2, nameIndex := 5, descriptorIndex := 18, attributes := #[] }, { accessFlags := 8, nameIndex := 56, descriptorIndex := 57, attributes := #[] }, { accessFlags := 1, nameIndex := 11, descriptorIndex := 59, attributes := #[] }, { accessFlags := 1, nameIndex := 15, descriptorIndex := 59, attributes := #[] }, { accessFlags := 1, nameIndex := 60, descriptorIndex := 61, attributes := #[] }, { accessFlags := 1, nameIndex := 36, descriptorIndex := 64, attributes := #[] }] 49 2 #[] #[{ accessFlags := 24, nameIndex := 52, descriptorIndex := 53, attributes := #[] }, { accessFlags := 18, nameIndex := 11, descriptorIndex := 12, attributes := #[] }, { accessFlags := 18, nameIndex := 15, descriptorIndex := 12, attributes := #[] }])
  fields := #[{ name := "NONE", type := (.object "com/example/ravel/ravel/bytecode/Sources"), accessFlags := 24, slot := 0, constantValue := 0 }, { name := "arguments", type := (.array .int), accessFlags := 18, slot := 0, constantValue := 0 }, { name := "producers", type := (.array .int), accessFlags := 18, slot := 1, constantValue := 0 }]
  methods := #[k2m0, k2m1, k2m2, k2m3, k2m4, k2m5]
  instanceTypes := #[(.array .int), (.array .int)]
  staticTypes := #[(.object "com/example/ravel/ravel/bytecode/Sources")]
  resolved := Array.replicate 85 none
  statics := none }

def pool3 : Array CpInfo := pool [(1, .class_ 2), (0, u "java/lang/Cloneable"), (0, .class_ 4), (0, u "java/lang/Object")] 2

/-- java/lang/Cloneable -/
def k3 : Class := { plain "java/lang/Cloneable" (some 0) with
  accessFlags := 1537
  interfaces := #[]
  cf := some (fileOf pool3 1 #[] #[] 1537 3 #[] #[])
  fields := #[]
  methods := #[]
  instanceTypes := #[]
  staticTypes := #[]
  resolved := Array.replicate 7 none
  statics := none }

def pool4 : Array CpInfo := pool [(2, .class_ 4), (1, u "java/lang/Object"), (0, u "<init>"), (0, u "()V"), (7, .class_ 16), (1, u "java/util/Arrays"), (57, .class_ 76), (1, u "java/util/Arrays$NaturalOrder"), (36, .class_ 115), (1, u "java/util/Arrays$LegacyMergeSort"), (1, u "Z"), (128, .class_ 248), (1, u "jdk/internal/util/ArraysSupport"), (0, u "mismatch"), (4, .methodref 246 255), (0, .nameAndType 249 256), (0, u "([I[II)I"), (41, u "equals"), (76, .class_ 376), (0, u "java/util/Arrays$ArrayList"), (68, u "$assertionsDisabled"), (15, u "([I[I)Z"), (253, u "MIN_ARRAY_SORT_GRAN"), (0, u "I"), (2, u "INSERTIONSORT_THRESHOLD"), (255, .class_ 976), (0, u "java/util/Arrays$ArrayItr")] 52

def k4m0 : Method := { name := "<init>", desc := "()V", sig := { parameters := [], returnType := none }, accessFlags := 2, code := none }
def k4c1 : Code := { maxStack := 3, maxLocals := 3, code := jdk_65_method_83_code, exceptionTable := #[], attributes := #[] }
def k4m1 : Method := { name := "equals", desc := "([I[I)Z", sig := { parameters := [(.array .int), (.array .int)], returnType := some .boolean }, accessFlags := 9, code := some k4c1 }
/-- java/util/Arrays -/
def k4 : Class := { plain "java/util/Arrays" (some 0) with
  accessFlags := 49
  interfaces := #[]
  cf := some (fileOf pool4 14 #[.nestMembers #[975, 375, 113, 74]] #[{ accessFlags := 2, nameIndex := 5, descriptorIndex := 6, attributes := #[] }, { accessFlags := 9, nameIndex := 298, descriptorIndex := 461, attributes := #[] }] 49 2 #[] #[{ accessFlags := 26, nameIndex := 715, descriptorIndex := 716, attributes := #[] }, { accessFlags := 26, nameIndex := 719, descriptorIndex := 716, attributes := #[] }, { accessFlags := 4120, nameIndex := 445, descriptorIndex := 117, attributes := #[] }])
  fields := #[{ name := "MIN_ARRAY_SORT_GRAN", type := .int, accessFlags := 26, slot := 0, constantValue := 0 }, { name := "INSERTIONSORT_THRESHOLD", type := .int, accessFlags := 26, slot := 1, constantValue := 0 }, { name := "$assertionsDisabled", type := .boolean, accessFlags := 4120, slot := 2, constantValue := 0 }]
  methods := #[k4m0, k4m1]
  instanceTypes := #[]
  staticTypes := #[.int, .int, .boolean]
  resolved := Array.replicate 1029 none
  statics := none }

def pool5 : Array CpInfo := pool [(9, u "<init>"), (6, .class_ 18), (1, u "java/lang/Object"), (0, u "()V"), (1, .class_ 23), (1, u "jdk/internal/util/ArraysSupport"), (0, u "LOG2_ARRAY_LONG_INDEX_SCALE"), (0, u "I"), (2, u "U"), (0, u "Ljdk/internal/misc/Unsafe;"), (8, u "BIG_ENDIAN"), (0, u "Z"), (8, u "LOG2_BYTE_BIT_SIZE"), (4, u "LOG2_ARRAY_INT_INDEX_SCALE"), (54, u "JLA"), (0, u "Ljdk/internal/access/JavaLangAccess;"), (11, u "LOG2_ARRAY_BOOLEAN_INDEX_SCALE"), (9, u "LOG2_ARRAY_BYTE_INDEX_SCALE"), (5, u "LOG2_ARRAY_CHAR_INDEX_SCALE"), (5, u "LOG2_ARRAY_SHORT_INDEX_SCALE"), (5, u "mismatch"), (12, u "LOG2_ARRAY_FLOAT_INDEX_SCALE"), (24, u "LOG2_ARRAY_DOUBLE_INDEX_SCALE"), (89, u "T_BOOLEAN"), (2, u "T_CHAR"), (1, u "T_FLOAT"), (1, u "T_DOUBLE"), (1, u "T_BYTE"), (1, u "T_SHORT"), (1, u "T_INT"), (1, u "T_LONG"), (1, u "SOFT_MAX_ARRAY_LENGTH"), (47, u "([I[II)I")] 35

def k5m0 : Method := { name := "<init>", desc := "()V", sig := { parameters := [], returnType := none }, accessFlags := 2, code := none }
def k5c1 : Code := { maxStack := 8, maxLocals := 4, code := jdk_48_method_19_code, exceptionTable := #[], attributes := #[] }
def k5m1 : Method := { name := "mismatch", desc := "([I[II)I", sig := { parameters := [(.array .int), (.array .int), .int], returnType := some .int }, accessFlags := 9, code := some k5c1 }
/-- jdk/internal/util/ArraysSupport -/
def k5 : Class := { plain "jdk/internal/util/ArraysSupport" (some 0) with
  accessFlags := 33
  interfaces := #[]
  cf := some (fileOf pool5 21 #[] #[{ accessFlags := 2, nameIndex := 9, descriptorIndex := 19, attributes := #[] }, { accessFlags := 9, nameIndex := 149, descriptorIndex := 342, attributes := #[] }] 33 16 #[] #[{ accessFlags := 24, nameIndex := 28, descriptorIndex := 29, attributes := #[] }, { accessFlags := 26, nameIndex := 38, descriptorIndex := 39, attributes := #[] }, { accessFlags := 25, nameIndex := 121, descriptorIndex := 25, attributes := #[] }, { accessFlags := 25, nameIndex := 131, descriptorIndex := 25, attributes := #[] }, { accessFlags := 25, nameIndex := 137, descriptorIndex := 25, attributes := #[] }, { accessFlags := 25, nameIndex := 143, descriptorIndex := 25, attributes := #[] }, { accessFlags := 25, nameIndex := 53, descriptorIndex := 25, attributes := #[] }, { accessFlags := 25, nameIndex := 24, descriptorIndex := 25, attributes := #[] }, { accessFlags := 25, nameIndex := 162, descriptorIndex := 25, attributes := #[] }, { accessFlags := 25, nameIndex := 187, descriptorIndex := 25, attributes := #[] }, { accessFlags := 26, nameIndex := 48, descriptorIndex := 25, attributes := #[] }, { accessFlags := 25, nameIndex := 277, descriptorIndex := 25, attributes := #[] }, { accessFlags := 25, nameIndex := 280, descriptorIndex := 25, attributes := #[] }, { accessFlags := 25, nameIndex := 282, descriptorIndex := 25, attributes := #[] }, { accessFlags := 25, nameIndex := 284, descriptorIndex := 25, attributes := #[] }, { accessFlags := 25, nameIndex := 286, descriptorIndex := 25, attributes := #[] }, { accessFlags := 25, nameIndex := 288, descriptorIndex := 25, attributes := #[] }, { accessFlags := 25, nameIndex := 290, descriptorIndex := 25, attributes := #[] }, { accessFlags := 25, nameIndex := 292, descriptorIndex := 25, attributes := #[] }, { accessFlags := 26, nameIndex := 108, descriptorIndex := 109, attributes := #[] }, { accessFlags := 25, nameIndex := 294, descriptorIndex := 25, attributes := #[] }])
  fields := #[{ name := "U", type := (.object "jdk/internal/misc/Unsafe"), accessFlags := 24, slot := 0, constantValue := 0 }, { name := "BIG_ENDIAN", type := .boolean, accessFlags := 26, slot := 1, constantValue := 0 }, { name := "LOG2_ARRAY_BOOLEAN_INDEX_SCALE", type := .int, accessFlags := 25, slot := 2, constantValue := 0 }, { name := "LOG2_ARRAY_BYTE_INDEX_SCALE", type := .int, accessFlags := 25, slot := 3, constantValue := 0 }, { name := "LOG2_ARRAY_CHAR_INDEX_SCALE", type := .int, accessFlags := 25, slot := 4, constantValue := 0 }, { name := "LOG2_ARRAY_SHORT_INDEX_SCALE", type := .int, accessFlags := 25, slot := 5, constantValue := 0 }, { name := "LOG2_ARRAY_INT_INDEX_SCALE", type := .int, accessFlags := 25, slot := 6, constantValue := 0 }, { name := "LOG2_ARRAY_LONG_INDEX_SCALE", type := .int, accessFlags := 25, slot := 7, constantValue := 0 }, { name := "LOG2_ARRAY_FLOAT_INDEX_SCALE", type := .int, accessFlags := 25, slot := 8, constantValue := 0 }, { name := "LOG2_ARRAY_DOUBLE_INDEX_SCALE", type := .int, accessFlags := 25, slot := 9, constantValue := 0 }, { name := "LOG2_BYTE_BIT_SIZE", type := .int, accessFlags := 26, slot := 10, constantValue := 0 }, { name := "T_BOOLEAN", type := .int, accessFlags := 25, slot := 11, constantValue := 0 }, { name := "T_CHAR", type := .int, accessFlags := 25, slot := 12, constantValue := 0 }, { name := "T_FLOAT", type := .int, accessFlags := 25, slot := 13, constantValue := 0 }, { name := "T_DOUBLE", type := .int, accessFlags := 25, slot := 14, constantValue := 0 }, { name := "T_BYTE", type := .int, accessFlags := 25, slot := 15, constantValue := 0 }, { name := "T_SHORT", type := .int, accessFlags := 25, slot := 16, constantValue := 0 }, { name := "T_INT", type := .int, accessFlags := 25, slot := 17, constantValue := 0 }, { name := "T_LONG", type := .int, accessFlags := 25, slot := 18, constantValue := 0 }, { name := "JLA", type := (.object "jdk/internal/access/JavaLangAccess"), accessFlags := 26, slot := 19, constantValue := 0 }, { name := "SOFT_MAX_ARRAY_LENGTH", type := .int, accessFlags := 25, slot := 20, constantValue := 0 }]
  methods := #[k5m0, k5m1]
  instanceTypes := #[]
  staticTypes := #[(.object "jdk/internal/misc/Unsafe"), .boolean, .int, .int, .int, .int, .int, .int, .int, .int, .int, .int, .int, .int, .int, .int, .int, .int, .int, (.object "jdk/internal/access/JavaLangAccess"), .int]
  resolved := Array.replicate 378 none
  statics := none }

def pool6 : Array CpInfo := pool [(1, u "java/io/Serializable"), (0, .class_ 1), (0, u "java/lang/Object"), (0, .class_ 3)] 3

/-- java/io/Serializable -/
def k6 : Class := { plain "java/io/Serializable" (some 0) with
  accessFlags := 1537
  interfaces := #[]
  cf := some (fileOf pool6 2 #[] #[] 1537 4 #[] #[])
  fields := #[]
  methods := #[]
  instanceTypes := #[]
  staticTypes := #[]
  resolved := Array.replicate 8 none
  statics := none }

/-- the primitive byte -/
def k7 : Class := { plain "byte" none with kind := .primitive 'B', accessFlags := 0x411 }
/-- [B -/
def k8 : Class := { plain "[B" (some 0) with kind := .array 7 .byte, interfaces := #[3, 6], accessFlags := 1041 }

/-- the primitive int -/
def k9 : Class := { plain "int" none with kind := .primitive 'I', accessFlags := 0x411 }
/-- [I -/
def k10 : Class := { plain "[I" (some 0) with kind := .array 9 .int, interfaces := #[3, 6], accessFlags := 1041 }

def heap : Heap := #[]
def classes : Array Class := #[k0, k1, k2, k3, k4, k5, k6, k7, k8, k9, k10]
def interned : List (Array UInt16 × Addr) := []
def slotsUsed : Nat := 0
def theMethod : MethodId := ⟨1, 1⟩
def args0 : Array Value := #[.int 5, .int 7, .int 1]
def aboutOver (below : List Frame) : State where
  vm := { classes := classes, interned := interned.toArray }
  heap := heap
  slotsUsed := slotsUsed
  threads := #[{ frames := .invoking theMethod args0 :: below }]
def below0 : List Frame := [.native { method := ⟨0, 0⟩, args := #[] }]
def about1 : State := aboutOver below0
def p0 : Program := .bare "" "" ""
def e0 : Env := launch0.env 0 0 0
theorem w_frames : about1.frames = Frame.invoking theMethod args0 :: below0 := rfl
set_option maxRecDepth 65536 in
theorem w_args : argsFit about1.vm theMethod args0 = true := by decide +kernel
set_option maxRecDepth 65536 in
theorem w_heap : heapFits about1 = true := by decide +kernel
set_option maxRecDepth 65536 in
theorem w_runnable : about1.curStatus? = some .runnable := by decide +kernel
set_option maxRecDepth 65536 in
theorem w_alone : about1.alone = true := by decide +kernel
set_option maxRecDepth 65536 in
theorem w_named : about1.methodNamed? x = some theMethod := by decide +kernel
set_option maxRecDepth 65536 in
theorem w_hears : about1.hears theMethod below0 = true := by decide +kernel
set_option maxRecDepth 65536 in
theorem w_ripe : about1.ripe theMethod args0 below0 = true := by decide +kernel
theorem w_running : about1.status = .running := rfl
set_option maxRecDepth 65536 in
theorem w_room : about1.hasRoom e0.platform room_1 = true :=
  launch0.hasRoom_least _ room_1 (by decide +kernel) (by decide +kernel) (by decide +kernel) (by decide +kernel) (by decide +kernel) (by decide +kernel)
theorem allAtoms_all (ts : List Jvm.Cond) (a : Array Jvm.Value) (st : Jvm.State) : (allAtoms ts).before a st = ts.all (fun c => c.before a st) := by
  induction ts with
  | nil => rfl
  | cons c t ih =>
    show (Jvm.Cond.and c (allAtoms t)).before a st = _
    rw [Jvm.Cond.before_and, ih, List.all_cons]
def words1 : List Jvm.Cond := Jvm.Cond.code x code maxLocals ret :: tables_1
/-- a 'code' word, met by the world's own term for the bytes: nothing is compared byte by byte -/
theorem code_word {y : MethodName} {bytes : ByteArray} {mx : Nat} {rt : Option FieldType} {a : Array Value} {s : State} {m : MethodId} {meth : Method} {c : Code} (h1 : s.methodNamed? y = some m) (h2 : s.vm.method? m = some meth) (h3 : meth.code = some c) (h4 : c.code = bytes)
    (h5 : (c.maxLocals == mx && c.exceptionTable.isEmpty && decide (c.maxStack ≤ mostOperands) && decide (meth.sig.returnType = rt) && !meth.locks && decide (parseMethodDescriptor y.desc = some meth.sig)) = true) : (Jvm.Cond.code y bytes mx rt).before a s = true := by
  simp only [Bool.and_eq_true, beq_iff_eq, Bool.not_eq_true', decide_eq_true_eq] at h5
  obtain ⟨⟨⟨⟨⟨g1, g2⟩, g3⟩, g4⟩, g5⟩, g6⟩ := h5
  simp [Cond.before, Cond.holds, Cond.value, h1, h2, h3, h4, g1, g2, g3, g4, g5, g6]
def isCode : Jvm.Cond → Bool
  | .code _ _ _ _ => true
  | _ => false
theorem all_split {L : List Jvm.Cond} {P : Jvm.Cond → Bool} (h1 : L.all (fun c => isCode c || P c) = true) (h2 : ∀ c ∈ L.filter isCode, P c = true) : L.all P = true := by
  refine List.all_eq_true.mpr fun c hc => ?_
  have h := List.all_eq_true.mp h1 c hc
  rcases Bool.eq_false_or_eq_true (isCode c) with hi | hi
  · exact h2 c (List.mem_filter.mpr ⟨hc, hi⟩)
  · simpa [hi] using h
set_option maxRecDepth 65536 in
theorem w_c0 : (Jvm.Cond.code x code maxLocals ret).before args0 about1 = true := code_word (m := ⟨1, 1⟩) (meth := k1m1) (c := k1c1) (by decide +kernel) rfl rfl rfl (by decide +kernel)
set_option maxRecDepth 65536 in
theorem w_c1 : (Jvm.Cond.code ({ cls := "com/example/ravel/ravel/bytecode/Sources", name := "argument", desc := "(I)Lcom/example/ravel/ravel/bytecode/Sources;" } : Jvm.MethodName) prog_21_method_2_code (1 : Nat) (Option.some (Jvm.ClassFile.FieldType.object "com/example/ravel/ravel/bytecode/Sources"))).before args0 about1 = true := code_word (m := ⟨2, 1⟩) (meth := k2m1) (c := k2c1) (by decide +kernel) rfl rfl rfl (by decide +kernel)
set_option maxRecDepth 65536 in
theorem w_c2 : (Jvm.Cond.code ({ cls := "com/example/ravel/ravel/bytecode/Sources", name := "<init>", desc := "([I[I)V" } : Jvm.MethodName) prog_21_method_1_code (3 : Nat) (Option.none : Option Jvm.ClassFile.FieldType)).before args0 about1 = true := code_word (m := ⟨2, 0⟩) (meth := k2m0) (c := k2c0) (by decide +kernel) rfl rfl rfl (by decide +kernel)
set_option maxRecDepth 65536 in
theorem w_c3 : (Jvm.Cond.code ({ cls := "java/lang/Object", name := "<init>", desc := "()V" } : Jvm.MethodName) object_method_1_code (1 : Nat) (Option.none : Option Jvm.ClassFile.FieldType)).before args0 about1 = true := code_word (m := ⟨0, 0⟩) (meth := k0m0) (c := k0c0) (by decide +kernel) rfl rfl rfl (by decide +kernel)
set_option maxRecDepth 65536 in
theorem w_c4 : (Jvm.Cond.code ({ cls := "com/example/ravel/ravel/bytecode/Sources", name := "arguments", desc := "()[I" } : Jvm.MethodName) prog_21_method_4_code (1 : Nat) (Option.some (Jvm.ClassFile.FieldType.array Jvm.ClassFile.FieldType.int))).before args0 about1 = true := code_word (m := ⟨2, 2⟩) (meth := k2m2) (c := k2c2) (by decide +kernel) rfl rfl rfl (by decide +kernel)
set_option maxRecDepth 65536 in
theorem w_c5 : (Jvm.Cond.code ({ cls := "com/example/ravel/ravel/bytecode/Sources", name := "producers", desc := "()[I" } : Jvm.MethodName) prog_21_method_5_code (1 : Nat) (Option.some (Jvm.ClassFile.FieldType.array Jvm.ClassFile.FieldType.int))).before args0 about1 = true := code_word (m := ⟨2, 3⟩) (meth := k2m3) (c := k2c3) (by decide +kernel) rfl rfl rfl (by decide +kernel)
set_option maxRecDepth 65536 in
theorem w_c6 : (Jvm.Cond.code ({ cls := "com/example/ravel/ravel/bytecode/Sources", name := "isEmpty", desc := "()Z" } : Jvm.MethodName) prog_21_method_6_code (1 : Nat) (Option.some Jvm.ClassFile.FieldType.boolean)).before args0 about1 = true := code_word (m := ⟨2, 4⟩) (meth := k2m4) (c := k2c4) (by decide +kernel) rfl rfl rfl (by decide +kernel)
set_option maxRecDepth 65536 in
theorem w_c7 : (Jvm.Cond.code ({ cls := "com/example/ravel/ravel/bytecode/Sources", name := "equals", desc := "(Ljava/lang/Object;)Z" } : Jvm.MethodName) prog_21_method_9_code (3 : Nat) (Option.some Jvm.ClassFile.FieldType.boolean)).before args0 about1 = true := code_word (m := ⟨2, 5⟩) (meth := k2m5) (c := k2c5) (by decide +kernel) rfl rfl rfl (by decide +kernel)
set_option maxRecDepth 65536 in
theorem w_c8 : (Jvm.Cond.code ({ cls := "java/util/Arrays", name := "equals", desc := "([I[I)Z" } : Jvm.MethodName) jdk_65_method_83_code (3 : Nat) (Option.some Jvm.ClassFile.FieldType.boolean)).before args0 about1 = true := code_word (m := ⟨4, 1⟩) (meth := k4m1) (c := k4c1) (by decide +kernel) rfl rfl rfl (by decide +kernel)
set_option maxRecDepth 65536 in
theorem w_c9 : (Jvm.Cond.code ({ cls := "jdk/internal/util/ArraysSupport", name := "mismatch", desc := "([I[II)I" } : Jvm.MethodName) jdk_48_method_19_code (4 : Nat) (Option.some Jvm.ClassFile.FieldType.int)).before args0 about1 = true := code_word (m := ⟨5, 1⟩) (meth := k5m1) (c := k5c1) (by decide +kernel) rfl rfl rfl (by decide +kernel)
def codes1 : List Jvm.Cond := [Jvm.Cond.code x code maxLocals ret, Jvm.Cond.code ({ cls := "com/example/ravel/ravel/bytecode/Sources", name := "argument", desc := "(I)Lcom/example/ravel/ravel/bytecode/Sources;" } : Jvm.MethodName) prog_21_method_2_code (1 : Nat) (Option.some (Jvm.ClassFile.FieldType.object "com/example/ravel/ravel/bytecode/Sources")), Jvm.Cond.code ({ cls := "com/example/ravel/ravel/bytecode/Sources", name := "<init>", desc := "([I[I)V" } : Jvm.MethodName) prog_21_method_1_code (3 : Nat) (Option.none : Option Jvm.ClassFile.FieldType), Jvm.Cond.code ({ cls := "java/lang/Object", name := "<init>", desc := "()V" } : Jvm.MethodName) object_method_1_code (1 : Nat) (Option.none : Option Jvm.ClassFile.FieldType), Jvm.Cond.code ({ cls := "com/example/ravel/ravel/bytecode/Sources", name := "arguments", desc := "()[I" } : Jvm.MethodName) prog_21_method_4_code (1 : Nat) (Option.some (Jvm.ClassFile.FieldType.array Jvm.ClassFile.FieldType.int)), Jvm.Cond.code ({ cls := "com/example/ravel/ravel/bytecode/Sources", name := "producers", desc := "()[I" } : Jvm.MethodName) prog_21_method_5_code (1 : Nat) (Option.some (Jvm.ClassFile.FieldType.array Jvm.ClassFile.FieldType.int)), Jvm.Cond.code ({ cls := "com/example/ravel/ravel/bytecode/Sources", name := "isEmpty", desc := "()Z" } : Jvm.MethodName) prog_21_method_6_code (1 : Nat) (Option.some Jvm.ClassFile.FieldType.boolean), Jvm.Cond.code ({ cls := "com/example/ravel/ravel/bytecode/Sources", name := "equals", desc := "(Ljava/lang/Object;)Z" } : Jvm.MethodName) prog_21_method_9_code (3 : Nat) (Option.some Jvm.ClassFile.FieldType.boolean), Jvm.Cond.code ({ cls := "java/util/Arrays", name := "equals", desc := "([I[I)Z" } : Jvm.MethodName) jdk_65_method_83_code (3 : Nat) (Option.some Jvm.ClassFile.FieldType.boolean), Jvm.Cond.code ({ cls := "jdk/internal/util/ArraysSupport", name := "mismatch", desc := "([I[II)I" } : Jvm.MethodName) jdk_48_method_19_code (4 : Nat) (Option.some Jvm.ClassFile.FieldType.int)]
set_option maxRecDepth 65536 in
theorem codes_eq : words1.filter isCode = codes1 := rfl
theorem w_codes : ∀ c ∈ words1.filter isCode, c.before args0 about1 = true := by
  rw [codes_eq]
  intro c hc
  simp only [codes1, List.mem_cons, List.not_mem_nil, or_false] at hc
  rcases hc with rfl | rfl | rfl | rfl | rfl | rfl | rfl | rfl | rfl | rfl
  · exact w_c0
  · exact w_c1
  · exact w_c2
  · exact w_c3
  · exact w_c4
  · exact w_c5
  · exact w_c6
  · exact w_c7
  · exact w_c8
  · exact w_c9
set_option maxRecDepth 65536 in
theorem w_t1 : (words1.take 24).all (fun c => isCode c || c.before args0 about1) = true := by decide +kernel
set_option maxRecDepth 65536 in
theorem w_t2 : ((words1.drop 24).take 24).all (fun c => isCode c || c.before args0 about1) = true := by decide +kernel
set_option maxRecDepth 65536 in
theorem w_t3 : ((words1.drop 24).drop 24).all (fun c => isCode c || c.before args0 about1) = true := by decide +kernel
theorem w_tables : (allAtoms (Jvm.Cond.code x code maxLocals ret :: tables_1)).before args0 about1 = true := by
  rw [allAtoms_all]
  show words1.all (fun c => c.before args0 about1) = true
  refine all_split ?_ w_codes
  rw [← List.take_append_drop 24 words1, List.all_append, w_t1, ← List.take_append_drop 24 (words1.drop 24), List.all_append, w_t2, w_t3]
  rfl
set_option maxRecDepth 65536 in
theorem w_case : (Jvm.Cond.and given_1 narrow_1).before args0 about1 = true := by decide +kernel
theorem w_applies : (headSpec (Jvm.Cond.code x code maxLocals ret :: tables_1) room_1).applies x e0.platform about1 = true :=
  (Spec.applies_iff w_frames).mpr ⟨w_running, w_runnable, w_alone, w_named, w_hears, w_ripe, w_room, w_tables⟩
theorem atStart : AtStart classFile x code maxLocals ret World_1 tables_1 room_1 Calls_1 rest_1 Pre_1 launch0 p0 e0 about1 theMethod args0 below0 :=
  ⟨lists_1, trivial, launch0.admits_env _ _ _, launch0.least_env, fairChoices_fair.cas, fairChoices_fair.clock, w_frames, w_args, w_heap, w_applies, trivial, trivial, w_case⟩
end start1
theorem witness_1 : WitnessClaimed_1 := ⟨start1.p0, start1.e0, start1.about1, start1.theMethod, start1.args0, start1.below0, start1.atStart⟩
end Jvm.Pilot.@@N@@
