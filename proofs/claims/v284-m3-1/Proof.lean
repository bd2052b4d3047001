import JvmDerived
import JvmDerived.Pilot.@@N@@Statement
import JvmDerived.Pilot.@@N@@Code
set_option linter.unusedVariables false
set_option linter.unusedSimpArgs false
namespace Jvm.Own
open Sem ClassFile Op Lib Jvm.Stand Jvm.Free Jvm.LawKit Jvm.RoadKit
/-! A walk, forward: 'Run' says that the invocation's first state reaches this frame. -/
abbrev Cx := Program × Launch × Env × State × MethodId × Array Value × List Frame × Method × Code × State
def RunI (p : Program) (l : Launch) (e : Env) (s : State) (m : MethodId) (args : Array Value) (below : List Frame) (meth : Method) (c : Code) (A : State) (R : Room) (Z : State) (n0 : Nat) (own nm : String) (ret : Option FieldType) (bytes : ByteArray) (mx : Nat) (h : Heap) (cells slots pc : Nat) (L : Array Slot) (S : List Value) : Prop :=
  p.tables.exec = Jvm.exec ∧ c.code = bytes ∧ c.maxLocals = mx ∧ s.vm.findClass own = some m.cls ∧ Z.Warmed39 s.vm ∧ meth.name = nm ∧ meth.sig.returnType = ret ∧ meth.locks = false ∧
    ∃ (T : State) (locs : List Loc), Stand p l e R s m args below meth c T locs cells slots ∧ Fr n0 locs ∧ T.heap = h ∧ ∀ t, Steps p.tables e below (T.setTop (mkF m pc L S)) t → Steps p.tables e below A t
def Run (C : Cx) (R : Room) (Z : State) (n0 : Nat) (own nm : String) (ret : Option FieldType) (bytes : ByteArray) (mx : Nat) (h : Heap) (cells slots pc : Nat) (L : Array Slot) (S : List Value) : Prop :=
  RunI C.1 C.2.1 C.2.2.1 C.2.2.2.1 C.2.2.2.2.1 C.2.2.2.2.2.1 C.2.2.2.2.2.2.1 C.2.2.2.2.2.2.2.1 C.2.2.2.2.2.2.2.2.1 C.2.2.2.2.2.2.2.2.2 R Z n0 own nm ret bytes mx h cells slots pc L S
def FinI (p : Program) (e : Env) (s : State) (below : List Frame) (A : State) (R : Room) (n0 : Nat) (Q : Option Value → Heap → Prop) : Prop :=
  ∃ s₂ o, Steps p.tables e below A s₂ ∧ s₂.status = .running ∧ Ended s₂ below o ∧ ∃ v L, o = .returned v ∧ (Q v s₂.heap ∧ Fr n0 L) ∧ FrameEnd s o s₂ L R.cells R.slots
def Fini (C : Cx) (R : Room) (n0 : Nat) (Q : Option Value → Heap → Prop) : Prop := FinI C.1 C.2.2.1 C.2.2.2.1 C.2.2.2.2.2.2.1 C.2.2.2.2.2.2.2.2.2 R n0 Q
/-- a method's contract: called with 'as' at the heap h0 it returns, and Q says what; nothing that stood below n0 is written -/
def Con (Z : State) (n0 : Nat) (y : MethodName) (bytes : ByteArray) (mx : Nat) (ret : Option FieldType) (ws : List Jvm.Cond) (rm : Room) (as : Array Value) (h0 : Heap) (Q : Option Value → Heap → Prop) : Prop :=
  ∀ l : Launch, MetFree l y (head1 (Jvm.Cond.code y bytes mx ret :: ws) rm) (fun a U => a = as ∧ Z.Warmed39 U.vm ∧ U.heap = h0) (fun _ _ _ _ _ => True) (fun _ U o U' => ∃ v L, o = .returned v ∧ (Q v U'.heap ∧ Fr n0 L) ∧ FrameEnd U o U' L rm.cells rm.slots)
theorem Con.intro {Z : State} {n0 : Nat} {y : MethodName} {bytes : ByteArray} {mx : Nat} {ret : Option FieldType} {ws : List Jvm.Cond} {rm : Room} {as : Array Value} {h0 : Heap} {Q : Option Value → Heap → Prop} {L0 : Array Slot}
    (hp : plainFor y = true) (hef : ∀ m, entryFrame m as mx = mkF m 0 L0 []) (body : ∀ C : Cx, Run C rm Z n0 y.cls y.name ret bytes mx h0 0 0 0 L0 [] → Fini C rm n0 Q) : Con Z n0 y bytes mx ret ws rm as h0 Q := by
  intro l
  refine MetFree.of_bodySF hp hisR ?_
  intro p e s m args below meth c s₁ Bd hml0 hP hK
  obtain ⟨rfl, hZ, hh⟩ := hP
  have hown : s.vm.findClass y.cls = some m.cls := findClass_of_methodNamed Bd.named
  have X0 : Stand p l e rm s m args below meth c s₁ [] 0 0 := Stand.of_body Bd
  have e0 : s₁.heap = h0 := by rw [← hh, Bd.state]; rfl
  have k : Run (p, l, e, s, m, args, below, meth, c, s₁.setTop (entryFrame m args mx)) rm Z n0 y.cls y.name ret bytes mx h0 0 0 0 L0 [] :=
    ⟨Bd.exec, Bd.bytes, hml0, hown, hZ, (name_of_methodNamed Bd.named Bd.method).1, Bd.returns, Bd.notSynchronized, s₁, [], X0, Fr.nil n0, e0, fun t kt => castTop (hef m) kt⟩
  exact body _ k
theorem ac_eq {x y : Value} (q : x = y) : XT.acmp .eq x y = true ∧ XT.acmp .ne x y = false := ⟨decide_eq_true q, decide_eq_false (fun z => z q)⟩
theorem ac_ne {x y : Value} (q : x ≠ y) : XT.acmp .eq x y = false ∧ XT.acmp .ne x y = true := ⟨decide_eq_false q, decide_eq_true q⟩
/-! an array by a function of the place -/
def updV (f : Nat → Value) (i : Nat) (v : Value) : Nat → Value := fun j => if j = i then v else f j
theorem updV_same (f : Nat → Value) (i : Nat) (v : Value) : updV f i v i = v := if_pos rfl
theorem updV_ne {f : Nat → Value} {i j : Nat} {v : Value} (q : j ≠ i) : updV f i v j = f j := if_neg q
def Arf (Z : State) (h : Heap) (a : Addr) (ty : FieldType) (n : Nat) (f : Nat → Value) : Prop := ∃ c : Cell, Arr Z h a c ty ∧ c.slots.size = n ∧ ∀ i, i < n → c.slots[i]? = some (f i)
section Arrays
variable {Z : State} {h h' : Heap} {a b : Addr} {ty : FieldType} {n sl : Nat} {f g : Nat → Value} {v : Value} {ws : List Addr}
theorem Arf.lt (F : Arf Z h a ty n f) : a < h.size := by obtain ⟨c, A, -⟩ := F; exact A.lt
theorem Arf.ext (F : Arf Z h a ty n f) (E : Ext h h') : Arf Z h' a ty n f := by obtain ⟨c, A, r⟩ := F; exact ⟨c, Arr.ext E A, r⟩
theorem Arf.other (F : Arf Z h b ty n f) (W : Wr h h' a sl v) (q : b ≠ a) : Arf Z h' b ty n f := by obtain ⟨c, A, r⟩ := F; exact ⟨c, Arr.other W A q, r⟩
theorem Arf.keep (F : Arf Z h a ty n f) (K : Keep h h' ws) (q : a ∉ ws) : Arf Z h' a ty n f := by obtain ⟨c, A, r⟩ := F; exact ⟨c, ⟨K.2.1 a c A.1 q, A.2⟩, r⟩
theorem Arf.set (F : Arf Z h a ty n f) {i : Nat} (W : Wr h h' a i v) (hi : i < n) : Arf Z h' a ty n (updV f i v) := by
  obtain ⟨c, A, S, H⟩ := F
  refine ⟨_, Arr.same W A, (sz_set _ _ _).trans S, fun j hj => ?_⟩
  by_cases q : j = i
  · subst q
    rw [updV_same]
    have hs : j < c.slots.size := by omega
    simp [Cell.setSlot, hs]
  · rw [updV_ne q]
    simp only [Cell.setSlot]
    rw [Array.getElem?_setIfInBounds_ne (Ne.symm q)]
    exact H j hj
theorem Arf.congr (F : Arf Z h a ty n f) (q : ∀ i, i < n → f i = g i) : Arf Z h a ty n g := by obtain ⟨c, A, S, H⟩ := F; exact ⟨c, A, S, fun i hi => q i hi ▸ H i hi⟩
theorem Sta.keepN {Cn m d : String} (F : Sta Z h Cn m d v) (K : Keep h h' ws) (q : ∀ x ∈ ws, ∀ c : Cell, h[x]? = some c → c.vm.isStatics = false) : Sta Z h' Cn m d v := by
  obtain ⟨cf, i, k, f, st, cell, h1, h2, h3, h4, h5, h6, h7⟩ := F
  refine ⟨cf, i, k, f, st, cell, h1, h2, h3, h4, K.2.1 st cell h5 (fun z => ?_), h6, h7⟩
  rw [q st z cell h5] at h6; cases h6
theorem Exa.nost {Cn : String} (F : Exa Z h a Cn) : ∀ c : Cell, h[a]? = some c → c.vm.isStatics = false := fun c hc => by
  obtain ⟨cell, k, h1, -, -, h4, -⟩ := F
  cases hc.symm.trans h1; exact h4
theorem Arf.nost (F : Arf Z h a ty n f) : ∀ c : Cell, h[a]? = some c → c.vm.isStatics = false := fun c hc => by
  obtain ⟨cell, A, -⟩ := F
  cases hc.symm.trans A.1; exact A.plain
end Arrays
section Steps
variable {C : Cx} {R : Room} {Z : State} {n0 : Nat} {own nm : String} {ret : Option FieldType} {bytes : ByteArray} {mx : Nat} {h : Heap} {cells slots pc : Nat} {L : Array Slot} {S : List Value}

theorem Run.iloadN {k : Fin 4} {v : Int32} (K : Run C R Z n0 own nm ret bytes mx h cells slots pc L S) (hd : decode bytes pc = .ok (.iload_n k, 1)) (hl : L[k.val]? = some (.val (.int v))) : Run C R Z n0 own nm ret bytes mx h cells slots (pc + 1) L (.int v :: S) := by
  obtain ⟨hx, hby, hml, hown, hZ, hnm, hrt, hlk, T, locs, X, N, eT, st⟩ := K
  exact ⟨hx, hby, hml, hown, hZ, hnm, hrt, hlk, T, locs, X, N, eT, fun t kt => st t (XS.iloadN X.here hx rfl (hb hby hd) hl kt)⟩
theorem Run.iload {k : Nat} {v : Int32} (K : Run C R Z n0 own nm ret bytes mx h cells slots pc L S) (hd : decode bytes pc = .ok (.iload k, 2)) (hl : L[k]? = some (.val (.int v))) : Run C R Z n0 own nm ret bytes mx h cells slots (pc + 2) L (.int v :: S) := by
  obtain ⟨hx, hby, hml, hown, hZ, hnm, hrt, hlk, T, locs, X, N, eT, st⟩ := K
  exact ⟨hx, hby, hml, hown, hZ, hnm, hrt, hlk, T, locs, X, N, eT, fun t kt => st t (XS.iload X.here hx rfl (hb hby hd) hl kt)⟩
theorem Run.lloadN {k : Fin 4} {v : Int64} (K : Run C R Z n0 own nm ret bytes mx h cells slots pc L S) (hd : decode bytes pc = .ok (.lload_n k, 1)) (hl : L[k.val]? = some (.val (.long v))) : Run C R Z n0 own nm ret bytes mx h cells slots (pc + 1) L (.long v :: S) := by
  obtain ⟨hx, hby, hml, hown, hZ, hnm, hrt, hlk, T, locs, X, N, eT, st⟩ := K
  exact ⟨hx, hby, hml, hown, hZ, hnm, hrt, hlk, T, locs, X, N, eT, fun t kt => st t (XS.lloadN X.here hx rfl (hb hby hd) hl kt)⟩
theorem Run.lload {k : Nat} {v : Int64} (K : Run C R Z n0 own nm ret bytes mx h cells slots pc L S) (hd : decode bytes pc = .ok (.lload k, 2)) (hl : L[k]? = some (.val (.long v))) : Run C R Z n0 own nm ret bytes mx h cells slots (pc + 2) L (.long v :: S) := by
  obtain ⟨hx, hby, hml, hown, hZ, hnm, hrt, hlk, T, locs, X, N, eT, st⟩ := K
  exact ⟨hx, hby, hml, hown, hZ, hnm, hrt, hlk, T, locs, X, N, eT, fun t kt => st t (XS.lload X.here hx rfl (hb hby hd) hl kt)⟩
theorem Run.aloadN {k : Fin 4} {v : Value} (K : Run C R Z n0 own nm ret bytes mx h cells slots pc L S) (hd : decode bytes pc = .ok (.aload_n k, 1)) (hl : L[k.val]? = some (.val v)) (hv : v.isRef = true) : Run C R Z n0 own nm ret bytes mx h cells slots (pc + 1) L (v :: S) := by
  obtain ⟨hx, hby, hml, hown, hZ, hnm, hrt, hlk, T, locs, X, N, eT, st⟩ := K
  exact ⟨hx, hby, hml, hown, hZ, hnm, hrt, hlk, T, locs, X, N, eT, fun t kt => st t (XS.aloadN X.here hx rfl (hb hby hd) hl hv kt)⟩
theorem Run.aload {k : Nat} {v : Value} (K : Run C R Z n0 own nm ret bytes mx h cells slots pc L S) (hd : decode bytes pc = .ok (.aload k, 2)) (hl : L[k]? = some (.val v)) (hv : v.isRef = true) : Run C R Z n0 own nm ret bytes mx h cells slots (pc + 2) L (v :: S) := by
  obtain ⟨hx, hby, hml, hown, hZ, hnm, hrt, hlk, T, locs, X, N, eT, st⟩ := K
  exact ⟨hx, hby, hml, hown, hZ, hnm, hrt, hlk, T, locs, X, N, eT, fun t kt => st t (XS.aload X.here hx rfl (hb hby hd) hl hv kt)⟩
theorem Run.istoreN {k : Fin 4} {v : Int32} (l' : Array Slot) (K : Run C R Z n0 own nm ret bytes mx h cells slots pc L (.int v :: S)) (hd : decode bytes pc = .ok (.istore_n k, 1)) (hl : storeLocals L k.val (.int v) = some l') : Run C R Z n0 own nm ret bytes mx h cells slots (pc + 1) l' S := by
  obtain ⟨hx, hby, hml, hown, hZ, hnm, hrt, hlk, T, locs, X, N, eT, st⟩ := K
  exact ⟨hx, hby, hml, hown, hZ, hnm, hrt, hlk, T, locs, X, N, eT, fun t kt => st t (XS.istoreN X.here hx rfl (hb hby hd) rfl hl kt)⟩
theorem Run.istore {k : Nat} {v : Int32} (l' : Array Slot) (K : Run C R Z n0 own nm ret bytes mx h cells slots pc L (.int v :: S)) (hd : decode bytes pc = .ok (.istore k, 2)) (hl : storeLocals L k (.int v) = some l') : Run C R Z n0 own nm ret bytes mx h cells slots (pc + 2) l' S := by
  obtain ⟨hx, hby, hml, hown, hZ, hnm, hrt, hlk, T, locs, X, N, eT, st⟩ := K
  exact ⟨hx, hby, hml, hown, hZ, hnm, hrt, hlk, T, locs, X, N, eT, fun t kt => st t (XS.istore X.here hx rfl (hb hby hd) rfl hl kt)⟩
theorem Run.lstoreN {k : Fin 4} {v : Int64} (l' : Array Slot) (K : Run C R Z n0 own nm ret bytes mx h cells slots pc L (.long v :: S)) (hd : decode bytes pc = .ok (.lstore_n k, 1)) (hl : storeLocals L k.val (.long v) = some l') : Run C R Z n0 own nm ret bytes mx h cells slots (pc + 1) l' S := by
  obtain ⟨hx, hby, hml, hown, hZ, hnm, hrt, hlk, T, locs, X, N, eT, st⟩ := K
  exact ⟨hx, hby, hml, hown, hZ, hnm, hrt, hlk, T, locs, X, N, eT, fun t kt => st t (XS.lstoreN X.here hx rfl (hb hby hd) rfl hl kt)⟩
theorem Run.lstore {k : Nat} {v : Int64} (l' : Array Slot) (K : Run C R Z n0 own nm ret bytes mx h cells slots pc L (.long v :: S)) (hd : decode bytes pc = .ok (.lstore k, 2)) (hl : storeLocals L k (.long v) = some l') : Run C R Z n0 own nm ret bytes mx h cells slots (pc + 2) l' S := by
  obtain ⟨hx, hby, hml, hown, hZ, hnm, hrt, hlk, T, locs, X, N, eT, st⟩ := K
  exact ⟨hx, hby, hml, hown, hZ, hnm, hrt, hlk, T, locs, X, N, eT, fun t kt => st t (XS.lstore X.here hx rfl (hb hby hd) rfl hl kt)⟩
theorem Run.astoreN {k : Fin 4} {v : Value} (l' : Array Slot) (K : Run C R Z n0 own nm ret bytes mx h cells slots pc L (v :: S)) (hd : decode bytes pc = .ok (.astore_n k, 1)) (hv : v.isRef = true) (hl : storeLocals L k.val v = some l') : Run C R Z n0 own nm ret bytes mx h cells slots (pc + 1) l' S := by
  obtain ⟨hx, hby, hml, hown, hZ, hnm, hrt, hlk, T, locs, X, N, eT, st⟩ := K
  exact ⟨hx, hby, hml, hown, hZ, hnm, hrt, hlk, T, locs, X, N, eT, fun t kt => st t (XS.astoreN X.here hx rfl (hb hby hd) rfl hv hl kt)⟩
theorem Run.astore {k : Nat} {v : Value} (l' : Array Slot) (K : Run C R Z n0 own nm ret bytes mx h cells slots pc L (v :: S)) (hd : decode bytes pc = .ok (.astore k, 2)) (hv : v.isRef = true) (hl : storeLocals L k v = some l') : Run C R Z n0 own nm ret bytes mx h cells slots (pc + 2) l' S := by
  obtain ⟨hx, hby, hml, hown, hZ, hnm, hrt, hlk, T, locs, X, N, eT, st⟩ := K
  exact ⟨hx, hby, hml, hown, hZ, hnm, hrt, hlk, T, locs, X, N, eT, fun t kt => st t (XS.astore X.here hx rfl (hb hby hd) rfl hv hl kt)⟩
theorem Run.iconst {i : Int} (z : Int32) (K : Run C R Z n0 own nm ret bytes mx h cells slots pc L S) (hd : decode bytes pc = .ok (.iconst i, 1)) (hz : Int32.ofInt i = z) : Run C R Z n0 own nm ret bytes mx h cells slots (pc + 1) L (.int z :: S) := by
  obtain ⟨hx, hby, hml, hown, hZ, hnm, hrt, hlk, T, locs, X, N, eT, st⟩ := K
  exact ⟨hx, hby, hml, hown, hZ, hnm, hrt, hlk, T, locs, X, N, eT, fun t kt => st t (XS.iconst X.here hx rfl (hb hby hd) (by rw [hz]; exact kt))⟩
theorem Run.bipush {i : Int} (z : Int32) (K : Run C R Z n0 own nm ret bytes mx h cells slots pc L S) (hd : decode bytes pc = .ok (.bipush i, 2)) (hz : (Int8.ofInt i).toInt32 = z) : Run C R Z n0 own nm ret bytes mx h cells slots (pc + 2) L (.int z :: S) := by
  obtain ⟨hx, hby, hml, hown, hZ, hnm, hrt, hlk, T, locs, X, N, eT, st⟩ := K
  exact ⟨hx, hby, hml, hown, hZ, hnm, hrt, hlk, T, locs, X, N, eT, fun t kt => st t (XS.bipush X.here hx rfl (hb hby hd) (by rw [hz]; exact kt))⟩
theorem Run.sipush {i : Int} (z : Int32) (K : Run C R Z n0 own nm ret bytes mx h cells slots pc L S) (hd : decode bytes pc = .ok (.sipush i, 3)) (hz : (Int16.ofInt i).toInt32 = z) : Run C R Z n0 own nm ret bytes mx h cells slots (pc + 3) L (.int z :: S) := by
  obtain ⟨hx, hby, hml, hown, hZ, hnm, hrt, hlk, T, locs, X, N, eT, st⟩ := K
  exact ⟨hx, hby, hml, hown, hZ, hnm, hrt, hlk, T, locs, X, N, eT, fun t kt => st t (XS.sipush X.here hx rfl (hb hby hd) (by rw [hz]; exact kt))⟩
theorem Run.lconst {i : Fin 2} (z : Int64) (K : Run C R Z n0 own nm ret bytes mx h cells slots pc L S) (hd : decode bytes pc = .ok (.lconst i, 1)) (hz : Int64.ofNat i = z) : Run C R Z n0 own nm ret bytes mx h cells slots (pc + 1) L (.long z :: S) := by
  obtain ⟨hx, hby, hml, hown, hZ, hnm, hrt, hlk, T, locs, X, N, eT, st⟩ := K
  exact ⟨hx, hby, hml, hown, hZ, hnm, hrt, hlk, T, locs, X, N, eT, fun t kt => st t (XS.lconst X.here hx rfl (hb hby hd) (by rw [hz]; exact kt))⟩
theorem Run.aconstNull  (K : Run C R Z n0 own nm ret bytes mx h cells slots pc L S) (hd : decode bytes pc = .ok (.aconst_null, 1))  : Run C R Z n0 own nm ret bytes mx h cells slots (pc + 1) L (.null :: S) := by
  obtain ⟨hx, hby, hml, hown, hZ, hnm, hrt, hlk, T, locs, X, N, eT, st⟩ := K
  exact ⟨hx, hby, hml, hown, hZ, hnm, hrt, hlk, T, locs, X, N, eT, fun t kt => st t (XS.aconstNull X.here hx rfl (hb hby hd) kt)⟩
theorem Run.iadd {x y : Int32} (K : Run C R Z n0 own nm ret bytes mx h cells slots pc L (.int y :: .int x :: S)) (hd : decode bytes pc = .ok (.iadd, 1))  : Run C R Z n0 own nm ret bytes mx h cells slots (pc + 1) L (.int (x + y) :: S) := by
  obtain ⟨hx, hby, hml, hown, hZ, hnm, hrt, hlk, T, locs, X, N, eT, st⟩ := K
  exact ⟨hx, hby, hml, hown, hZ, hnm, hrt, hlk, T, locs, X, N, eT, fun t kt => st t (XS.iadd X.here hx rfl (hb hby hd) rfl kt)⟩
theorem Run.isub {x y : Int32} (K : Run C R Z n0 own nm ret bytes mx h cells slots pc L (.int y :: .int x :: S)) (hd : decode bytes pc = .ok (.isub, 1))  : Run C R Z n0 own nm ret bytes mx h cells slots (pc + 1) L (.int (x - y) :: S) := by
  obtain ⟨hx, hby, hml, hown, hZ, hnm, hrt, hlk, T, locs, X, N, eT, st⟩ := K
  exact ⟨hx, hby, hml, hown, hZ, hnm, hrt, hlk, T, locs, X, N, eT, fun t kt => st t (XS.isub X.here hx rfl (hb hby hd) rfl kt)⟩
theorem Run.imul {x y : Int32} (K : Run C R Z n0 own nm ret bytes mx h cells slots pc L (.int y :: .int x :: S)) (hd : decode bytes pc = .ok (.imul, 1))  : Run C R Z n0 own nm ret bytes mx h cells slots (pc + 1) L (.int (x * y) :: S) := by
  obtain ⟨hx, hby, hml, hown, hZ, hnm, hrt, hlk, T, locs, X, N, eT, st⟩ := K
  exact ⟨hx, hby, hml, hown, hZ, hnm, hrt, hlk, T, locs, X, N, eT, fun t kt => st t (XS.imul X.here hx rfl (hb hby hd) rfl kt)⟩
theorem Run.iand {x y : Int32} (K : Run C R Z n0 own nm ret bytes mx h cells slots pc L (.int y :: .int x :: S)) (hd : decode bytes pc = .ok (.iand, 1))  : Run C R Z n0 own nm ret bytes mx h cells slots (pc + 1) L (.int (x &&& y) :: S) := by
  obtain ⟨hx, hby, hml, hown, hZ, hnm, hrt, hlk, T, locs, X, N, eT, st⟩ := K
  exact ⟨hx, hby, hml, hown, hZ, hnm, hrt, hlk, T, locs, X, N, eT, fun t kt => st t (XS.iand X.here hx rfl (hb hby hd) rfl kt)⟩
theorem Run.ior {x y : Int32} (K : Run C R Z n0 own nm ret bytes mx h cells slots pc L (.int y :: .int x :: S)) (hd : decode bytes pc = .ok (.ior, 1))  : Run C R Z n0 own nm ret bytes mx h cells slots (pc + 1) L (.int (x ||| y) :: S) := by
  obtain ⟨hx, hby, hml, hown, hZ, hnm, hrt, hlk, T, locs, X, N, eT, st⟩ := K
  exact ⟨hx, hby, hml, hown, hZ, hnm, hrt, hlk, T, locs, X, N, eT, fun t kt => st t (XS.ior X.here hx rfl (hb hby hd) rfl kt)⟩
theorem Run.ixor {x y : Int32} (K : Run C R Z n0 own nm ret bytes mx h cells slots pc L (.int y :: .int x :: S)) (hd : decode bytes pc = .ok (.ixor, 1))  : Run C R Z n0 own nm ret bytes mx h cells slots (pc + 1) L (.int (x ^^^ y) :: S) := by
  obtain ⟨hx, hby, hml, hown, hZ, hnm, hrt, hlk, T, locs, X, N, eT, st⟩ := K
  exact ⟨hx, hby, hml, hown, hZ, hnm, hrt, hlk, T, locs, X, N, eT, fun t kt => st t (XS.ixor X.here hx rfl (hb hby hd) rfl kt)⟩
theorem Run.ishl {x y : Int32} (K : Run C R Z n0 own nm ret bytes mx h cells slots pc L (.int y :: .int x :: S)) (hd : decode bytes pc = .ok (.ishl, 1))  : Run C R Z n0 own nm ret bytes mx h cells slots (pc + 1) L (.int (x <<< (y &&& 31)) :: S) := by
  obtain ⟨hx, hby, hml, hown, hZ, hnm, hrt, hlk, T, locs, X, N, eT, st⟩ := K
  exact ⟨hx, hby, hml, hown, hZ, hnm, hrt, hlk, T, locs, X, N, eT, fun t kt => st t (XS.ishl X.here hx rfl (hb hby hd) rfl kt)⟩
theorem Run.ishr {x y : Int32} (K : Run C R Z n0 own nm ret bytes mx h cells slots pc L (.int y :: .int x :: S)) (hd : decode bytes pc = .ok (.ishr, 1))  : Run C R Z n0 own nm ret bytes mx h cells slots (pc + 1) L (.int (x >>> (y &&& 31)) :: S) := by
  obtain ⟨hx, hby, hml, hown, hZ, hnm, hrt, hlk, T, locs, X, N, eT, st⟩ := K
  exact ⟨hx, hby, hml, hown, hZ, hnm, hrt, hlk, T, locs, X, N, eT, fun t kt => st t (XS.ishr X.here hx rfl (hb hby hd) rfl kt)⟩
theorem Run.iushr {x y : Int32} (K : Run C R Z n0 own nm ret bytes mx h cells slots pc L (.int y :: .int x :: S)) (hd : decode bytes pc = .ok (.iushr, 1))  : Run C R Z n0 own nm ret bytes mx h cells slots (pc + 1) L (.int ((x.toUInt32 >>> (y &&& 31).toUInt32).toInt32) :: S) := by
  obtain ⟨hx, hby, hml, hown, hZ, hnm, hrt, hlk, T, locs, X, N, eT, st⟩ := K
  exact ⟨hx, hby, hml, hown, hZ, hnm, hrt, hlk, T, locs, X, N, eT, fun t kt => st t (XS.iushr X.here hx rfl (hb hby hd) rfl kt)⟩
theorem Run.irem {x y : Int32} (K : Run C R Z n0 own nm ret bytes mx h cells slots pc L (.int y :: .int x :: S)) (hd : decode bytes pc = .ok (.irem, 1)) (hy : y ≠ 0) : Run C R Z n0 own nm ret bytes mx h cells slots (pc + 1) L (.int (x % y) :: S) := by
  obtain ⟨hx, hby, hml, hown, hZ, hnm, hrt, hlk, T, locs, X, N, eT, st⟩ := K
  exact ⟨hx, hby, hml, hown, hZ, hnm, hrt, hlk, T, locs, X, N, eT, fun t kt => st t (iremM X hx rfl (hb hby hd) rfl hy kt)⟩
theorem Run.idiv {x y : Int32} (K : Run C R Z n0 own nm ret bytes mx h cells slots pc L (.int y :: .int x :: S)) (hd : decode bytes pc = .ok (.idiv, 1)) (hy : y ≠ 0) : Run C R Z n0 own nm ret bytes mx h cells slots (pc + 1) L (.int (x / y) :: S) := by
  obtain ⟨hx, hby, hml, hown, hZ, hnm, hrt, hlk, T, locs, X, N, eT, st⟩ := K
  exact ⟨hx, hby, hml, hown, hZ, hnm, hrt, hlk, T, locs, X, N, eT, fun t kt => st t (XS.idiv X.here hx rfl (hb hby hd) rfl hy kt)⟩
theorem Run.ineg {x : Int32} (K : Run C R Z n0 own nm ret bytes mx h cells slots pc L (.int x :: S)) (hd : decode bytes pc = .ok (.ineg, 1))  : Run C R Z n0 own nm ret bytes mx h cells slots (pc + 1) L (.int (-x) :: S) := by
  obtain ⟨hx, hby, hml, hown, hZ, hnm, hrt, hlk, T, locs, X, N, eT, st⟩ := K
  exact ⟨hx, hby, hml, hown, hZ, hnm, hrt, hlk, T, locs, X, N, eT, fun t kt => st t (XS.ineg X.here hx rfl (hb hby hd) rfl kt)⟩
theorem Run.ladd {x y : Int64} (K : Run C R Z n0 own nm ret bytes mx h cells slots pc L (.long y :: .long x :: S)) (hd : decode bytes pc = .ok (.ladd, 1))  : Run C R Z n0 own nm ret bytes mx h cells slots (pc + 1) L (.long (x + y) :: S) := by
  obtain ⟨hx, hby, hml, hown, hZ, hnm, hrt, hlk, T, locs, X, N, eT, st⟩ := K
  exact ⟨hx, hby, hml, hown, hZ, hnm, hrt, hlk, T, locs, X, N, eT, fun t kt => st t (XS.ladd X.here hx rfl (hb hby hd) rfl kt)⟩
theorem Run.lsub {x y : Int64} (K : Run C R Z n0 own nm ret bytes mx h cells slots pc L (.long y :: .long x :: S)) (hd : decode bytes pc = .ok (.lsub, 1))  : Run C R Z n0 own nm ret bytes mx h cells slots (pc + 1) L (.long (x - y) :: S) := by
  obtain ⟨hx, hby, hml, hown, hZ, hnm, hrt, hlk, T, locs, X, N, eT, st⟩ := K
  exact ⟨hx, hby, hml, hown, hZ, hnm, hrt, hlk, T, locs, X, N, eT, fun t kt => st t (XS.lsub X.here hx rfl (hb hby hd) rfl kt)⟩
theorem Run.lmul {x y : Int64} (K : Run C R Z n0 own nm ret bytes mx h cells slots pc L (.long y :: .long x :: S)) (hd : decode bytes pc = .ok (.lmul, 1))  : Run C R Z n0 own nm ret bytes mx h cells slots (pc + 1) L (.long (x * y) :: S) := by
  obtain ⟨hx, hby, hml, hown, hZ, hnm, hrt, hlk, T, locs, X, N, eT, st⟩ := K
  exact ⟨hx, hby, hml, hown, hZ, hnm, hrt, hlk, T, locs, X, N, eT, fun t kt => st t (XS.lmul X.here hx rfl (hb hby hd) rfl kt)⟩
theorem Run.land {x y : Int64} (K : Run C R Z n0 own nm ret bytes mx h cells slots pc L (.long y :: .long x :: S)) (hd : decode bytes pc = .ok (.land, 1))  : Run C R Z n0 own nm ret bytes mx h cells slots (pc + 1) L (.long (x &&& y) :: S) := by
  obtain ⟨hx, hby, hml, hown, hZ, hnm, hrt, hlk, T, locs, X, N, eT, st⟩ := K
  exact ⟨hx, hby, hml, hown, hZ, hnm, hrt, hlk, T, locs, X, N, eT, fun t kt => st t (XS.land X.here hx rfl (hb hby hd) rfl kt)⟩
theorem Run.lor {x y : Int64} (K : Run C R Z n0 own nm ret bytes mx h cells slots pc L (.long y :: .long x :: S)) (hd : decode bytes pc = .ok (.lor, 1))  : Run C R Z n0 own nm ret bytes mx h cells slots (pc + 1) L (.long (x ||| y) :: S) := by
  obtain ⟨hx, hby, hml, hown, hZ, hnm, hrt, hlk, T, locs, X, N, eT, st⟩ := K
  exact ⟨hx, hby, hml, hown, hZ, hnm, hrt, hlk, T, locs, X, N, eT, fun t kt => st t (XS.lor X.here hx rfl (hb hby hd) rfl kt)⟩
theorem Run.lxor {x y : Int64} (K : Run C R Z n0 own nm ret bytes mx h cells slots pc L (.long y :: .long x :: S)) (hd : decode bytes pc = .ok (.lxor, 1))  : Run C R Z n0 own nm ret bytes mx h cells slots (pc + 1) L (.long (x ^^^ y) :: S) := by
  obtain ⟨hx, hby, hml, hown, hZ, hnm, hrt, hlk, T, locs, X, N, eT, st⟩ := K
  exact ⟨hx, hby, hml, hown, hZ, hnm, hrt, hlk, T, locs, X, N, eT, fun t kt => st t (XS.lxor X.here hx rfl (hb hby hd) rfl kt)⟩
theorem Run.lcmp {x y : Int64} (K : Run C R Z n0 own nm ret bytes mx h cells slots pc L (.long y :: .long x :: S)) (hd : decode bytes pc = .ok (.lcmp, 1))  : Run C R Z n0 own nm ret bytes mx h cells slots (pc + 1) L (.int (lcmpW x y) :: S) := by
  obtain ⟨hx, hby, hml, hown, hZ, hnm, hrt, hlk, T, locs, X, N, eT, st⟩ := K
  exact ⟨hx, hby, hml, hown, hZ, hnm, hrt, hlk, T, locs, X, N, eT, fun t kt => st t (XS.lcmp X.here hx rfl (hb hby hd) rfl kt)⟩
theorem Run.lushr {x : Int64} {y : Int32} (K : Run C R Z n0 own nm ret bytes mx h cells slots pc L (.int y :: .long x :: S)) (hd : decode bytes pc = .ok (.lushr, 1))  : Run C R Z n0 own nm ret bytes mx h cells slots (pc + 1) L (.long ((x.toUInt64 >>> (y &&& 0x3f).toInt64.toUInt64).toInt64) :: S) := by
  obtain ⟨hx, hby, hml, hown, hZ, hnm, hrt, hlk, T, locs, X, N, eT, st⟩ := K
  exact ⟨hx, hby, hml, hown, hZ, hnm, hrt, hlk, T, locs, X, N, eT, fun t kt => st t (XS.lushr X.here hx rfl (hb hby hd) rfl kt)⟩
theorem Run.lshr {x : Int64} {y : Int32} (K : Run C R Z n0 own nm ret bytes mx h cells slots pc L (.int y :: .long x :: S)) (hd : decode bytes pc = .ok (.lshr, 1))  : Run C R Z n0 own nm ret bytes mx h cells slots (pc + 1) L (.long (x >>> (y &&& 0x3f).toInt64) :: S) := by
  obtain ⟨hx, hby, hml, hown, hZ, hnm, hrt, hlk, T, locs, X, N, eT, st⟩ := K
  exact ⟨hx, hby, hml, hown, hZ, hnm, hrt, hlk, T, locs, X, N, eT, fun t kt => st t (XS.lshr X.here hx rfl (hb hby hd) rfl kt)⟩
theorem Run.lshl {x : Int64} {y : Int32} (K : Run C R Z n0 own nm ret bytes mx h cells slots pc L (.int y :: .long x :: S)) (hd : decode bytes pc = .ok (.lshl, 1))  : Run C R Z n0 own nm ret bytes mx h cells slots (pc + 1) L (.long (x <<< (y &&& 0x3f).toInt64) :: S) := by
  obtain ⟨hx, hby, hml, hown, hZ, hnm, hrt, hlk, T, locs, X, N, eT, st⟩ := K
  exact ⟨hx, hby, hml, hown, hZ, hnm, hrt, hlk, T, locs, X, N, eT, fun t kt => st t (XS.lshl X.here hx rfl (hb hby hd) rfl kt)⟩
theorem Run.i2l {x : Int32} (K : Run C R Z n0 own nm ret bytes mx h cells slots pc L (.int x :: S)) (hd : decode bytes pc = .ok (.i2l, 1))  : Run C R Z n0 own nm ret bytes mx h cells slots (pc + 1) L (.long (x.toInt64) :: S) := by
  obtain ⟨hx, hby, hml, hown, hZ, hnm, hrt, hlk, T, locs, X, N, eT, st⟩ := K
  exact ⟨hx, hby, hml, hown, hZ, hnm, hrt, hlk, T, locs, X, N, eT, fun t kt => st t (XS.i2l X.here hx rfl (hb hby hd) rfl kt)⟩
theorem Run.l2i {x : Int64} (K : Run C R Z n0 own nm ret bytes mx h cells slots pc L (.long x :: S)) (hd : decode bytes pc = .ok (.l2i, 1))  : Run C R Z n0 own nm ret bytes mx h cells slots (pc + 1) L (.int (x.toInt32) :: S) := by
  obtain ⟨hx, hby, hml, hown, hZ, hnm, hrt, hlk, T, locs, X, N, eT, st⟩ := K
  exact ⟨hx, hby, hml, hown, hZ, hnm, hrt, hlk, T, locs, X, N, eT, fun t kt => st t (XS.l2i X.here hx rfl (hb hby hd) rfl kt)⟩
theorem Run.i2b {x : Int32} (K : Run C R Z n0 own nm ret bytes mx h cells slots pc L (.int x :: S)) (hd : decode bytes pc = .ok (.i2b, 1))  : Run C R Z n0 own nm ret bytes mx h cells slots (pc + 1) L (.int (x.toInt8.toInt32) :: S) := by
  obtain ⟨hx, hby, hml, hown, hZ, hnm, hrt, hlk, T, locs, X, N, eT, st⟩ := K
  exact ⟨hx, hby, hml, hown, hZ, hnm, hrt, hlk, T, locs, X, N, eT, fun t kt => st t (XS.i2b X.here hx rfl (hb hby hd) rfl kt)⟩
theorem Run.i2s {x : Int32} (K : Run C R Z n0 own nm ret bytes mx h cells slots pc L (.int x :: S)) (hd : decode bytes pc = .ok (.i2s, 1))  : Run C R Z n0 own nm ret bytes mx h cells slots (pc + 1) L (.int (x.toInt16.toInt32) :: S) := by
  obtain ⟨hx, hby, hml, hown, hZ, hnm, hrt, hlk, T, locs, X, N, eT, st⟩ := K
  exact ⟨hx, hby, hml, hown, hZ, hnm, hrt, hlk, T, locs, X, N, eT, fun t kt => st t (XS.i2s X.here hx rfl (hb hby hd) rfl kt)⟩
theorem Run.i2c {x : Int32} (K : Run C R Z n0 own nm ret bytes mx h cells slots pc L (.int x :: S)) (hd : decode bytes pc = .ok (.i2c, 1))  : Run C R Z n0 own nm ret bytes mx h cells slots (pc + 1) L (.int (x.toUInt32.toUInt16.toUInt32.toInt32) :: S) := by
  obtain ⟨hx, hby, hml, hown, hZ, hnm, hrt, hlk, T, locs, X, N, eT, st⟩ := K
  exact ⟨hx, hby, hml, hown, hZ, hnm, hrt, hlk, T, locs, X, N, eT, fun t kt => st t (XS.i2c X.here hx rfl (hb hby hd) rfl kt)⟩
theorem Run.iinc {k : Nat} {cst : Int} {x : Int32} (z : Int32) (l' : Array Slot) (K : Run C R Z n0 own nm ret bytes mx h cells slots pc L S) (hd : decode bytes pc = .ok (.iinc k cst, 3)) (hl : L[k]? = some (.val (.int x))) (hz : Int32.ofInt cst = z) (hl' : storeLocals L k (.int (x + z)) = some l') : Run C R Z n0 own nm ret bytes mx h cells slots (pc + 3) l' S := by
  obtain ⟨hx, hby, hml, hown, hZ, hnm, hrt, hlk, T, locs, X, N, eT, st⟩ := K
  exact ⟨hx, hby, hml, hown, hZ, hnm, hrt, hlk, T, locs, X, N, eT, fun t kt => st t (XS.iinc X.here hx rfl (hb hby hd) hl (by rw [hz]; exact hl') kt)⟩
theorem Run.dup {x : Value} (K : Run C R Z n0 own nm ret bytes mx h cells slots pc L (x :: S)) (hd : decode bytes pc = .ok (.dup, 1)) (hc : x.category = 1) : Run C R Z n0 own nm ret bytes mx h cells slots (pc + 1) L (x :: x :: S) := by
  obtain ⟨hx, hby, hml, hown, hZ, hnm, hrt, hlk, T, locs, X, N, eT, st⟩ := K
  exact ⟨hx, hby, hml, hown, hZ, hnm, hrt, hlk, T, locs, X, N, eT, fun t kt => st t (XS.dup X.here hx rfl (hb hby hd) rfl hc kt)⟩
theorem Run.dupX1 {x y : Value} (K : Run C R Z n0 own nm ret bytes mx h cells slots pc L (x :: y :: S)) (hd : decode bytes pc = .ok (.dup_x1, 1)) (hc : x.category = 1) (hc' : y.category = 1) : Run C R Z n0 own nm ret bytes mx h cells slots (pc + 1) L (x :: y :: x :: S) := by
  obtain ⟨hx, hby, hml, hown, hZ, hnm, hrt, hlk, T, locs, X, N, eT, st⟩ := K
  exact ⟨hx, hby, hml, hown, hZ, hnm, hrt, hlk, T, locs, X, N, eT, fun t kt => st t (XS.dupX1 X.here hx rfl (hb hby hd) rfl hc hc' kt)⟩
theorem Run.pop {x : Value} (K : Run C R Z n0 own nm ret bytes mx h cells slots pc L (x :: S)) (hd : decode bytes pc = .ok (.pop, 1)) (hc : x.category = 1) : Run C R Z n0 own nm ret bytes mx h cells slots (pc + 1) L S := by
  obtain ⟨hx, hby, hml, hown, hZ, hnm, hrt, hlk, T, locs, X, N, eT, st⟩ := K
  exact ⟨hx, hby, hml, hown, hZ, hnm, hrt, hlk, T, locs, X, N, eT, fun t kt => st t (XS.pop X.here hx rfl (hb hby hd) rfl hc kt)⟩
theorem Run.goto {o : Int} {pc' : Nat} (K : Run C R Z n0 own nm ret bytes mx h cells slots pc L S) (hd : decode bytes pc = .ok (.goto o, 3)) (ho : 0 ≤ (pc : Int) + o) (hp : ((pc : Int) + o).toNat = pc') : Run C R Z n0 own nm ret bytes mx h cells slots pc' L S := by
  obtain ⟨hx, hby, hml, hown, hZ, hnm, hrt, hlk, T, locs, X, N, eT, st⟩ := K
  exact ⟨hx, hby, hml, hown, hZ, hnm, hrt, hlk, T, locs, X, N, eT, fun t kt => st t (XS.goto X.here hx rfl (pc0 := pc) rfl (hb hby hd) ho hp kt)⟩
theorem Run.ifYes {cd : ClassFile.Cond} {x : Int32} {o : Int} {pc' : Nat} (K : Run C R Z n0 own nm ret bytes mx h cells slots pc L (.int x :: S)) (hd : decode bytes pc = .ok (.ifCond cd o, 3)) (hc : if_icmp.holds cd x 0 = true) (ho : 0 ≤ (pc : Int) + o) (hp : ((pc : Int) + o).toNat = pc') : Run C R Z n0 own nm ret bytes mx h cells slots pc' L S := by
  obtain ⟨hx, hby, hml, hown, hZ, hnm, hrt, hlk, T, locs, X, N, eT, st⟩ := K
  exact ⟨hx, hby, hml, hown, hZ, hnm, hrt, hlk, T, locs, X, N, eT, fun t kt => st t (XS.ifYes X.here hx rfl (pc0 := pc) rfl (hb hby hd) rfl ((if0 _ _).trans hc) ho hp kt)⟩
theorem Run.ifNo {cd : ClassFile.Cond} {x : Int32} {o : Int} (K : Run C R Z n0 own nm ret bytes mx h cells slots pc L (.int x :: S)) (hd : decode bytes pc = .ok (.ifCond cd o, 3)) (hc : if_icmp.holds cd x 0 = false) : Run C R Z n0 own nm ret bytes mx h cells slots (pc + 3) L S := by
  obtain ⟨hx, hby, hml, hown, hZ, hnm, hrt, hlk, T, locs, X, N, eT, st⟩ := K
  exact ⟨hx, hby, hml, hown, hZ, hnm, hrt, hlk, T, locs, X, N, eT, fun t kt => st t (XS.ifNo X.here hx rfl (hb hby hd) rfl ((if0 _ _).trans hc) kt)⟩
theorem Run.icmpYes {cd : ClassFile.Cond} {x y : Int32} {o : Int} {pc' : Nat} (K : Run C R Z n0 own nm ret bytes mx h cells slots pc L (.int y :: .int x :: S)) (hd : decode bytes pc = .ok (.if_icmp cd o, 3)) (hc : if_icmp.holds cd x y = true) (ho : 0 ≤ (pc : Int) + o) (hp : ((pc : Int) + o).toNat = pc') : Run C R Z n0 own nm ret bytes mx h cells slots pc' L S := by
  obtain ⟨hx, hby, hml, hown, hZ, hnm, hrt, hlk, T, locs, X, N, eT, st⟩ := K
  exact ⟨hx, hby, hml, hown, hZ, hnm, hrt, hlk, T, locs, X, N, eT, fun t kt => st t (XS.icmpYes X.here hx rfl (pc0 := pc) rfl (hb hby hd) rfl hc ho hp kt)⟩
theorem Run.icmpNo {cd : ClassFile.Cond} {x y : Int32} {o : Int} (K : Run C R Z n0 own nm ret bytes mx h cells slots pc L (.int y :: .int x :: S)) (hd : decode bytes pc = .ok (.if_icmp cd o, 3)) (hc : if_icmp.holds cd x y = false) : Run C R Z n0 own nm ret bytes mx h cells slots (pc + 3) L S := by
  obtain ⟨hx, hby, hml, hown, hZ, hnm, hrt, hlk, T, locs, X, N, eT, st⟩ := K
  exact ⟨hx, hby, hml, hown, hZ, hnm, hrt, hlk, T, locs, X, N, eT, fun t kt => st t (XS.icmpNo X.here hx rfl (hb hby hd) rfl hc kt)⟩
theorem Run.ifnullYes {o : Int} {pc' : Nat} (K : Run C R Z n0 own nm ret bytes mx h cells slots pc L (.null :: S)) (hd : decode bytes pc = .ok (.ifnull o, 3)) (ho : 0 ≤ (pc : Int) + o) (hp : ((pc : Int) + o).toNat = pc') : Run C R Z n0 own nm ret bytes mx h cells slots pc' L S := by
  obtain ⟨hx, hby, hml, hown, hZ, hnm, hrt, hlk, T, locs, X, N, eT, st⟩ := K
  exact ⟨hx, hby, hml, hown, hZ, hnm, hrt, hlk, T, locs, X, N, eT, fun t kt => st t (XS.ifnullYes X.here hx rfl (pc0 := pc) rfl (hb hby hd) rfl ho hp kt)⟩
theorem Run.ifnullNo {o : Int} {b : Addr} (K : Run C R Z n0 own nm ret bytes mx h cells slots pc L (.ref b :: S)) (hd : decode bytes pc = .ok (.ifnull o, 3))  : Run C R Z n0 own nm ret bytes mx h cells slots (pc + 3) L S := by
  obtain ⟨hx, hby, hml, hown, hZ, hnm, hrt, hlk, T, locs, X, N, eT, st⟩ := K
  exact ⟨hx, hby, hml, hown, hZ, hnm, hrt, hlk, T, locs, X, N, eT, fun t kt => st t (XS.ifnullNo X.here hx rfl (hb hby hd) rfl kt)⟩
theorem Run.ifnonnullYes {o : Int} {b : Addr} {pc' : Nat} (K : Run C R Z n0 own nm ret bytes mx h cells slots pc L (.ref b :: S)) (hd : decode bytes pc = .ok (.ifnonnull o, 3)) (ho : 0 ≤ (pc : Int) + o) (hp : ((pc : Int) + o).toNat = pc') : Run C R Z n0 own nm ret bytes mx h cells slots pc' L S := by
  obtain ⟨hx, hby, hml, hown, hZ, hnm, hrt, hlk, T, locs, X, N, eT, st⟩ := K
  exact ⟨hx, hby, hml, hown, hZ, hnm, hrt, hlk, T, locs, X, N, eT, fun t kt => st t (XS.ifnonnullYes X.here hx rfl (pc0 := pc) rfl (hb hby hd) rfl ho hp kt)⟩
theorem Run.ifnonnullNo {o : Int} (K : Run C R Z n0 own nm ret bytes mx h cells slots pc L (.null :: S)) (hd : decode bytes pc = .ok (.ifnonnull o, 3))  : Run C R Z n0 own nm ret bytes mx h cells slots (pc + 3) L S := by
  obtain ⟨hx, hby, hml, hown, hZ, hnm, hrt, hlk, T, locs, X, N, eT, st⟩ := K
  exact ⟨hx, hby, hml, hown, hZ, hnm, hrt, hlk, T, locs, X, N, eT, fun t kt => st t (XS.ifnonnullNo X.here hx rfl (hb hby hd) rfl kt)⟩
theorem Run.acmpYes {cd : ClassFile.ACond} {x y : Value} {o : Int} {pc' : Nat} (K : Run C R Z n0 own nm ret bytes mx h cells slots pc L (y :: x :: S)) (hd : decode bytes pc = .ok (.if_acmp cd o, 3)) (h1 : x.isRef = true) (h2 : y.isRef = true) (hc : XT.acmp cd x y = true) (ho : 0 ≤ (pc : Int) + o) (hp : ((pc : Int) + o).toNat = pc') : Run C R Z n0 own nm ret bytes mx h cells slots pc' L S := by
  obtain ⟨hx, hby, hml, hown, hZ, hnm, hrt, hlk, T, locs, X, N, eT, st⟩ := K
  exact ⟨hx, hby, hml, hown, hZ, hnm, hrt, hlk, T, locs, X, N, eT, fun t kt => st t (XT.acmpYes X.here hx rfl (pc0 := pc) rfl (hb hby hd) rfl h1 h2 hc ho hp kt)⟩
theorem Run.acmpNo {cd : ClassFile.ACond} {x y : Value} {o : Int} (K : Run C R Z n0 own nm ret bytes mx h cells slots pc L (y :: x :: S)) (hd : decode bytes pc = .ok (.if_acmp cd o, 3)) (h1 : x.isRef = true) (h2 : y.isRef = true) (hc : XT.acmp cd x y = false) : Run C R Z n0 own nm ret bytes mx h cells slots (pc + 3) L S := by
  obtain ⟨hx, hby, hml, hown, hZ, hnm, hrt, hlk, T, locs, X, N, eT, st⟩ := K
  exact ⟨hx, hby, hml, hown, hZ, hnm, hrt, hlk, T, locs, X, N, eT, fun t kt => st t (XT.acmpNo X.here hx rfl (hb hby hd) rfl h1 h2 hc kt)⟩
theorem Run.dloadN {k : Fin 4} {v : UInt64} (K : Run C R Z n0 own nm ret bytes mx h cells slots pc L S) (hd : decode bytes pc = .ok (.dload_n k, 1)) (hl : L[k.val]? = some (.val (.double v))) : Run C R Z n0 own nm ret bytes mx h cells slots (pc + 1) L (.double v :: S) := by
  obtain ⟨hx, hby, hml, hown, hZ, hnm, hrt, hlk, T, locs, X, N, eT, st⟩ := K
  exact ⟨hx, hby, hml, hown, hZ, hnm, hrt, hlk, T, locs, X, N, eT, fun t kt => st t (XS.dloadN X.here hx rfl (hb hby hd) hl kt)⟩
theorem Run.dload {k : Nat} {v : UInt64} (K : Run C R Z n0 own nm ret bytes mx h cells slots pc L S) (hd : decode bytes pc = .ok (.dload k, 2)) (hl : L[k]? = some (.val (.double v))) : Run C R Z n0 own nm ret bytes mx h cells slots (pc + 2) L (.double v :: S) := by
  obtain ⟨hx, hby, hml, hown, hZ, hnm, hrt, hlk, T, locs, X, N, eT, st⟩ := K
  exact ⟨hx, hby, hml, hown, hZ, hnm, hrt, hlk, T, locs, X, N, eT, fun t kt => st t (XS.dload X.here hx rfl (hb hby hd) hl kt)⟩
theorem Run.dstoreN {k : Fin 4} {v : UInt64} (l' : Array Slot) (K : Run C R Z n0 own nm ret bytes mx h cells slots pc L (.double v :: S)) (hd : decode bytes pc = .ok (.dstore_n k, 1)) (hl : storeLocals L k.val (.double v) = some l') : Run C R Z n0 own nm ret bytes mx h cells slots (pc + 1) l' S := by
  obtain ⟨hx, hby, hml, hown, hZ, hnm, hrt, hlk, T, locs, X, N, eT, st⟩ := K
  exact ⟨hx, hby, hml, hown, hZ, hnm, hrt, hlk, T, locs, X, N, eT, fun t kt => st t (XS.dstoreN X.here hx rfl (hb hby hd) rfl hl kt)⟩
theorem Run.dstore {k : Nat} {v : UInt64} (l' : Array Slot) (K : Run C R Z n0 own nm ret bytes mx h cells slots pc L (.double v :: S)) (hd : decode bytes pc = .ok (.dstore k, 2)) (hl : storeLocals L k (.double v) = some l') : Run C R Z n0 own nm ret bytes mx h cells slots (pc + 2) l' S := by
  obtain ⟨hx, hby, hml, hown, hZ, hnm, hrt, hlk, T, locs, X, N, eT, st⟩ := K
  exact ⟨hx, hby, hml, hown, hZ, hnm, hrt, hlk, T, locs, X, N, eT, fun t kt => st t (XS.dstore X.here hx rfl (hb hby hd) rfl hl kt)⟩
theorem Run.dconst0 (z : UInt64) (K : Run C R Z n0 own nm ret bytes mx h cells slots pc L S) (hd : decode bytes pc = .ok (.dconst 0, 1)) (hz : FP.dconst0 = z) : Run C R Z n0 own nm ret bytes mx h cells slots (pc + 1) L (.double z :: S) := by
  obtain ⟨hx, hby, hml, hown, hZ, hnm, hrt, hlk, T, locs, X, N, eT, st⟩ := K
  exact ⟨hx, hby, hml, hown, hZ, hnm, hrt, hlk, T, locs, X, N, eT, fun t kt => st t (XS.dconst0 X.here hx rfl (hb hby hd) hz kt)⟩
theorem Run.i2d {x : Int32} (z : UInt64) (K : Run C R Z n0 own nm ret bytes mx h cells slots pc L (.int x :: S)) (hd : decode bytes pc = .ok (.i2d, 1)) (hz : FP.i2d x = z) : Run C R Z n0 own nm ret bytes mx h cells slots (pc + 1) L (.double z :: S) := by
  obtain ⟨hx, hby, hml, hown, hZ, hnm, hrt, hlk, T, locs, X, N, eT, st⟩ := K
  exact ⟨hx, hby, hml, hown, hZ, hnm, hrt, hlk, T, locs, X, N, eT, fun t kt => st t (XS.i2dS X.here hx rfl (hb hby hd) rfl hz kt)⟩
theorem Run.l2d {x : Int64} (z : UInt64) (K : Run C R Z n0 own nm ret bytes mx h cells slots pc L (.long x :: S)) (hd : decode bytes pc = .ok (.l2d, 1)) (hz : FP.l2d x = z) : Run C R Z n0 own nm ret bytes mx h cells slots (pc + 1) L (.double z :: S) := by
  obtain ⟨hx, hby, hml, hown, hZ, hnm, hrt, hlk, T, locs, X, N, eT, st⟩ := K
  exact ⟨hx, hby, hml, hown, hZ, hnm, hrt, hlk, T, locs, X, N, eT, fun t kt => st t (XS.l2dS X.here hx rfl (hb hby hd) rfl hz kt)⟩
theorem Run.dadd {x y : UInt64} (z : UInt64) (K : Run C R Z n0 own nm ret bytes mx h cells slots pc L (.double y :: .double x :: S)) (hd : decode bytes pc = .ok (.dadd, 1)) (hn : Jvm.Free.Fl.NoNaN64 (FP.dadd x y)) (hz : FP.dadd x y = z) : Run C R Z n0 own nm ret bytes mx h cells slots (pc + 1) L (.double z :: S) := by
  obtain ⟨hx, hby, hml, hown, hZ, hnm, hrt, hlk, T, locs, X, N, eT, st⟩ := K
  exact ⟨hx, hby, hml, hown, hZ, hnm, hrt, hlk, T, locs, X, N, eT, fun t kt => st t (XS.daddS X.here hx rfl (hb hby hd) rfl hn hz kt)⟩
theorem Run.ddiv {x y : UInt64} (z : UInt64) (K : Run C R Z n0 own nm ret bytes mx h cells slots pc L (.double y :: .double x :: S)) (hd : decode bytes pc = .ok (.ddiv, 1)) (hn : Jvm.Free.Fl.NoNaN64 (FP.ddiv x y)) (hz : FP.ddiv x y = z) : Run C R Z n0 own nm ret bytes mx h cells slots (pc + 1) L (.double z :: S) := by
  obtain ⟨hx, hby, hml, hown, hZ, hnm, hrt, hlk, T, locs, X, N, eT, st⟩ := K
  exact ⟨hx, hby, hml, hown, hZ, hnm, hrt, hlk, T, locs, X, N, eT, fun t kt => st t (XS.ddivS X.here hx rfl (hb hby hd) rfl hn hz kt)⟩
theorem Run.dcmp {o : CmpOp} {x y : UInt64} (z : Int32) (K : Run C R Z n0 own nm ret bytes mx h cells slots pc L (.double y :: .double x :: S)) (hd : decode bytes pc = .ok (.dcmp o, 1)) (hz : cmpValue (FP.dcmp x y) o = z) : Run C R Z n0 own nm ret bytes mx h cells slots (pc + 1) L (.int z :: S) := by
  obtain ⟨hx, hby, hml, hown, hZ, hnm, hrt, hlk, T, locs, X, N, eT, st⟩ := K
  exact ⟨hx, hby, hml, hown, hZ, hnm, hrt, hlk, T, locs, X, N, eT, fun t kt => st t (XS.dcmpS X.here hx rfl (hb hby hd) rfl hz kt)⟩
theorem Run.foldI {w : Int32} (K : Run C R Z n0 own nm ret bytes mx h cells slots pc L (.int w :: S)) (z : Int32) (q : w = z) : Run C R Z n0 own nm ret bytes mx h cells slots pc L (.int z :: S) := q ▸ K
theorem Run.foldJ {w : Int64} (K : Run C R Z n0 own nm ret bytes mx h cells slots pc L (.long w :: S)) (z : Int64) (q : w = z) : Run C R Z n0 own nm ret bytes mx h cells slots pc L (.long z :: S) := q ▸ K
theorem Run.stk (K : Run C R Z n0 own nm ret bytes mx h cells slots pc L S) (S' : List Value) (q : S = S') : Run C R Z n0 own nm ret bytes mx h cells slots pc L S' := q ▸ K
theorem Run.loc (K : Run C R Z n0 own nm ret bytes mx h cells slots pc L S) (L' : Array Slot) (q : L = L') : Run C R Z n0 own nm ret bytes mx h cells slots pc L' S := q ▸ K
theorem Run.atpc (K : Run C R Z n0 own nm ret bytes mx h cells slots pc L S) (pc' : Nat) (q : pc = pc') : Run C R Z n0 own nm ret bytes mx h cells slots pc' L S := q ▸ K
theorem Run.ldcInt {a0 : Array Value} {index : Nat} {v : Int32} (K : Run C R Z n0 own nm ret bytes mx h cells slots pc L S) (hd : decode bytes pc = .ok (.ldc index, 2)) (w : (Jvm.Cond.constant own index v).before a0 Z = true) : Run C R Z n0 own nm ret bytes mx h cells slots (pc + 2) L (.int v :: S) := by
  obtain ⟨hx, hby, hml, hown, hZ, hnm, hrt, hlk, T, locs, X, N, eT, st⟩ := K
  exact ⟨hx, hby, hml, hown, hZ, hnm, hrt, hlk, T, locs, X, N, eT, fun t kt => st t (X.ldcInt hx hown (mvT hZ w) (g := mkF C.2.2.2.2.1 pc L S) rfl (hb hby hd) t kt)⟩
theorem Run.ldc2Long {a0 : Array Value} {index : Nat} {v : Int64} (K : Run C R Z n0 own nm ret bytes mx h cells slots pc L S) (hd : decode bytes pc = .ok (.ldc2_w index, 3)) (w : (Jvm.Cond.constantLong own index v).before a0 Z = true) : Run C R Z n0 own nm ret bytes mx h cells slots (pc + 3) L (.long v :: S) := by
  obtain ⟨hx, hby, hml, hown, hZ, hnm, hrt, hlk, T, locs, X, N, eT, st⟩ := K
  exact ⟨hx, hby, hml, hown, hZ, hnm, hrt, hlk, T, locs, X, N, eT, fun t kt => st t (X.ldc2Long hx hown (mvT hZ w) (g := mkF C.2.2.2.2.1 pc L S) rfl (hb hby hd) t kt)⟩
/-! returns -/
theorem Run.iret {z : Int32} {Q : Option Value → Heap → Prop} (K : Run C R Z n0 own nm ret bytes mx h cells slots pc L (.int z :: S)) (hd : decode bytes pc = .ok (.ireturn, 1)) {ty : FieldType} (hr : ret = some ty) (ht : ty = .int ∨ ty = .boolean ∨ ty = .byte ∨ ty = .char ∨ ty = .short) (hn : narrow ty (.int z) = .int z) (hQ : Q (some (.int z)) h) (hc : cells ≤ R.cells) (hs : slots ≤ R.slots) : Fini C R n0 Q := by
  obtain ⟨hx, hby, hml, hown, hZ, hnm, hrt, hlk, T, locs, X, N, eT, st⟩ := K
  obtain ⟨fs, hr', hrun, hended, hW, hsame⟩ := X.leave (v := some (.int z)) (fun q => by rw [hrt, hr] at q; cases q) hlk
  exact ⟨_, _, st _ (retOut X hx (hrt.trans hr) hn (Or.inl ⟨rfl, ht, _, rfl⟩) (hb hby hd) hr'), hrun, hended, _, _, rfl, ⟨by rw [show (T.setFrames fs).heap = T.heap from rfl, eT]; exact hQ, N⟩, ⟨_, rfl⟩, hW, hsame.mono hc hs⟩
theorem Run.lret {z : Int64} {Q : Option Value → Heap → Prop} (K : Run C R Z n0 own nm ret bytes mx h cells slots pc L (.long z :: S)) (hd : decode bytes pc = .ok (.lreturn, 1)) (hr : ret = some .long) (hQ : Q (some (.long z)) h) (hc : cells ≤ R.cells) (hs : slots ≤ R.slots) : Fini C R n0 Q := by
  obtain ⟨hx, hby, hml, hown, hZ, hnm, hrt, hlk, T, locs, X, N, eT, st⟩ := K
  obtain ⟨fs, hr', hrun, hended, hW, hsame⟩ := X.leave (v := some (.long z)) (fun q => by rw [hrt, hr] at q; cases q) hlk
  exact ⟨_, _, st _ (retOut X hx (hrt.trans hr) rfl (Or.inr (Or.inl ⟨rfl, rfl, _, rfl⟩)) (hb hby hd) hr'), hrun, hended, _, _, rfl, ⟨by rw [show (T.setFrames fs).heap = T.heap from rfl, eT]; exact hQ, N⟩, ⟨_, rfl⟩, hW, hsame.mono hc hs⟩
theorem Run.dret {z : UInt64} {Q : Option Value → Heap → Prop} (K : Run C R Z n0 own nm ret bytes mx h cells slots pc L (.double z :: S)) (hd : decode bytes pc = .ok (.dreturn, 1)) (hr : ret = some .double) (hQ : Q (some (.double z)) h) (hc : cells ≤ R.cells) (hs : slots ≤ R.slots) : Fini C R n0 Q := by
  obtain ⟨hx, hby, hml, hown, hZ, hnm, hrt, hlk, T, locs, X, N, eT, st⟩ := K
  obtain ⟨fs, hr', hrun, hended, hW, hsame⟩ := X.leave (v := some (.double z)) (fun q => by rw [hrt, hr] at q; cases q) hlk
  exact ⟨_, _, st _ (retOut X hx (hrt.trans hr) rfl (Or.inr (Or.inr (Or.inl ⟨rfl, rfl, _, rfl⟩))) (hb hby hd) hr'), hrun, hended, _, _, rfl, ⟨by rw [show (T.setFrames fs).heap = T.heap from rfl, eT]; exact hQ, N⟩, ⟨_, rfl⟩, hW, hsame.mono hc hs⟩
theorem Run.aret {w : Value} {Q : Option Value → Heap → Prop} (K : Run C R Z n0 own nm ret bytes mx h cells slots pc L (w :: S)) (hd : decode bytes pc = .ok (.areturn, 1)) {ty : FieldType} (hr : ret = some ty) (ht : ty.isReference = true) (hn : narrow ty w = w) (hw : w.isRef = true) (hQ : Q (some w) h) (hc : cells ≤ R.cells) (hs : slots ≤ R.slots) : Fini C R n0 Q := by
  obtain ⟨hx, hby, hml, hown, hZ, hnm, hrt, hlk, T, locs, X, N, eT, st⟩ := K
  obtain ⟨fs, hr', hrun, hended, hW, hsame⟩ := X.leave (v := some w) (fun q => by rw [hrt, hr] at q; cases q) hlk
  exact ⟨_, _, st _ (retOut X hx (hrt.trans hr) hn (Or.inr (Or.inr (Or.inr (Or.inr ⟨rfl, ht, hw⟩)))) (hb hby hd) hr'), hrun, hended, _, _, rfl, ⟨by rw [show (T.setFrames fs).heap = T.heap from rfl, eT]; exact hQ, N⟩, ⟨_, rfl⟩, hW, hsame.mono hc hs⟩
theorem Run.vret {Q : Option Value → Heap → Prop} (K : Run C R Z n0 own nm ret bytes mx h cells slots pc L []) (hd : decode bytes pc = .ok (.return_, 1)) (hr : ret = none) (hQ : Q none h) (hc : cells ≤ R.cells) (hs : slots ≤ R.slots) : Fini C R n0 Q := by
  obtain ⟨hx, hby, hml, hown, hZ, hnm, hrt, hlk, T, locs, X, N, eT, st⟩ := K
  obtain ⟨fs, hr', hrun, hended, hW, hsame⟩ := X.leave (v := none) (fun _ => rfl) hlk
  exact ⟨_, _, st _ (X.returnOut hx (hrt.trans hr) (hb hby hd) hr'), hrun, hended, _, _, rfl, ⟨by rw [show (T.setFrames fs).heap = T.heap from rfl, eT]; exact hQ, N⟩, ⟨_, rfl⟩, hW, hsame.mono hc hs⟩
/-! calls -/
theorem Run.callS {a0 : Array Value} {index : Nat} {y : MethodName} {by2 : ByteArray} {mx2 W : Nat} {rt2 : Option FieldType} {rm : Room} {argsL rest : List Value} {Q : Option Value → Heap → Prop} {ps : List FieldType} (K : Run C R Z n0 own nm ret bytes mx h cells slots pc L S) (hd : decode bytes pc = .ok (.invokestatic index, 3))
    (wl : (Jvm.Cond.methodLink own index y).before a0 Z = true) (wst : (Jvm.Cond.static y).before a0 Z = true) (wi : (Jvm.Cond.initialized y.cls).before a0 Z = true) (wc : (Jvm.Cond.code y by2 mx2 rt2).before a0 Z = true)
    (con : Con Z n0 y by2 mx2 rt2 [] rm argsL.toArray h Q) (hS : S = argsL.reverse ++ rest) (hpd : parseMethodDescriptor y.desc = some ⟨ps, rt2⟩) (hlen : argsL.length = ps.length) (hW : (rest.map fun v => v.category).sum = W) (hLs : L.size = mx)
    (hfr : rm.frames + 1 ≤ R.frames) (hlo : W + (mx2 + 11) + rm.locals ≤ R.locals) (hce : cells + rm.cells ≤ R.cells) (hsl : slots + rm.slots ≤ R.slots) (hy : y.cls ≠ "java/lang/invoke/MethodHandle" ∧ y.cls ≠ "java/lang/invoke/VarHandle") :
    ∃ v h', Q v h' ∧ Run C R Z n0 own nm ret bytes mx h' (cells + rm.cells) (slots + rm.slots) (pc + 3) L (v.toList ++ rest) := by
  obtain ⟨hx, hby, hml, hown, hZ, hnm, hrt, hlk, T, locs, X, N, eT, st⟩ := K
  obtain ⟨v, _, ⟨T', L', k', n'⟩, -, X', ⟨Lc, hQ, l1, y1, z1⟩, st'⟩ := Jvm.LawKit.callS X hx (y := y) hown (mvT hZ wl) (mvT hZ wst) (mvT hZ wi) (mvT hZ wc) hy (backOf (Q := fun v h L => Q v h ∧ Fr n0 L) (W := W) (con C.2.1) hZ wc wi hfr hlo) (g := mkF C.2.2.2.2.1 pc L S) rfl (by rw [hml]; exact hLs) (argsL := argsL) (rest := rest) (lenOf hpd hlen) hS (by show 2 * 0 + _ ≤ _; omega) (hb hby hd) (fun _ _ => ⟨rfl, eT, hce, hsl⟩)
  dsimp only [Pt.U, Pt.locs, Pt.cells, Pt.slots] at X' l1 y1 z1 st' hQ
  subst l1 y1 z1
  exact ⟨v, T'.heap, hQ.1, hx, hby, hml, hown, hZ, hnm, hrt, hlk, T', _, X', Fr.app N hQ.2, rfl, fun t kt => st t (st' t kt)⟩
theorem Run.callI {a0 : Array Value} {index : Nat} {y : MethodName} {by2 : ByteArray} {mx2 W : Nat} {rm : Room} {a : Addr} {argsL rest : List Value} {Q : Option Value → Heap → Prop} {ps : List FieldType} (K : Run C R Z n0 own nm ret bytes mx h cells slots pc L S) (hd : decode bytes pc = .ok (.invokespecial index, 3))
    (hy1 : y.name = "<init>") (wl : (Jvm.Cond.methodLink own index y).before a0 Z = true) (wst : (Jvm.Cond.instanceMethod y).before a0 Z = true) (wi : (Jvm.Cond.initialized y.cls).before a0 Z = true) (wc : (Jvm.Cond.code y by2 mx2 none).before a0 Z = true)
    (con : Con Z n0 y by2 mx2 none [] rm (.ref a :: argsL).toArray h Q) (hS : S = argsL.reverse ++ .ref a :: rest) (hpd : parseMethodDescriptor y.desc = some ⟨ps, none⟩) (hlen : argsL.length = ps.length) (hW : (rest.map fun v => v.category).sum = W) (hLs : L.size = mx)
    (hfr : rm.frames + 1 ≤ R.frames) (hlo : W + (mx2 + 11) + rm.locals ≤ R.locals) (hce : cells + rm.cells ≤ R.cells) (hsl : slots + rm.slots ≤ R.slots) (hy : y.cls ≠ "java/lang/invoke/MethodHandle" ∧ y.cls ≠ "java/lang/invoke/VarHandle") :
    ∃ v h', Q v h' ∧ Run C R Z n0 own nm ret bytes mx h' (cells + rm.cells) (slots + rm.slots) (pc + 3) L (v.toList ++ rest) := by
  obtain ⟨hx, hby, hml, hown, hZ, hnm, hrt, hlk, T, locs, X, N, eT, st⟩ := K
  obtain ⟨v, _, ⟨T', L', k', n'⟩, -, X', ⟨Lc, hQ, l1, y1, z1⟩, st'⟩ := X.specialBack hx (y := y) hy1 hown (mvT hZ wl) (mvT hZ wst) (mvT hZ wc) hy (backOf (Q := fun v h L => Q v h ∧ Fr n0 L) (W := W) (con C.2.1) hZ wc wi hfr hlo) (g := mkF C.2.2.2.2.1 pc L S) rfl (by rw [hml]; exact hLs) (Steps.refl _) (a := a) (argsL := argsL) (rest := rest) (lenOf hpd hlen) hS (by show 2 * 0 + _ ≤ _; omega) (hb hby hd) (fun _ _ => ⟨rfl, eT, hce, hsl⟩)
  dsimp only [Pt.U, Pt.locs, Pt.cells, Pt.slots] at X' l1 y1 z1 st' hQ
  subst l1 y1 z1
  exact ⟨v, T'.heap, hQ.1, hx, hby, hml, hown, hZ, hnm, hrt, hlk, T', _, X', Fr.app N hQ.2, rfl, fun t kt => st t (st'.trans kt)⟩
theorem Run.callV {a0 : Array Value} {index : Nat} {y z : MethodName} {Cl : String} {by2 : ByteArray} {mx2 W : Nat} {rt2 : Option FieldType} {rm : Room} {a : Addr} {argsL rest : List Value} {Q : Option Value → Heap → Prop} {ps : List FieldType} (K : Run C R Z n0 own nm ret bytes mx h cells slots pc L S) (hd : decode bytes pc = .ok (.invokevirtual index, 3))
    (wl : (Jvm.Cond.methodLink own index y).before a0 Z = true) (wd : (Jvm.Cond.declares y).before a0 Z = true) (nf : ∀ s : State, Z.Warmed39 s.vm → NotFace s y) (ws : (Jvm.Cond.selects Cl y z).before a0 Z = true) (wst : (Jvm.Cond.instanceMethod z).before a0 Z = true) (wi : (Jvm.Cond.initialized z.cls).before a0 Z = true) (wc : (Jvm.Cond.code z by2 mx2 rt2).before a0 Z = true)
    (E : Exa Z h a Cl) (con : Con Z n0 z by2 mx2 rt2 [] rm (.ref a :: argsL).toArray h Q) (hS : S = argsL.reverse ++ .ref a :: rest) (hpd : parseMethodDescriptor y.desc = some ⟨ps, rt2⟩) (hlen : argsL.length = ps.length) (hW : (rest.map fun v => v.category).sum = W) (hLs : L.size = mx)
    (hfr : rm.frames + 1 ≤ R.frames) (hlo : W + (mx2 + 11) + rm.locals ≤ R.locals) (hce : cells + rm.cells ≤ R.cells) (hsl : slots + rm.slots ≤ R.slots) (hy : y.cls ≠ "java/lang/invoke/MethodHandle" ∧ y.cls ≠ "java/lang/invoke/VarHandle") :
    ∃ v h', Q v h' ∧ Run C R Z n0 own nm ret bytes mx h' (cells + rm.cells) (slots + rm.slots) (pc + 3) L (v.toList ++ rest) := by
  obtain ⟨hx, hby, hml, hown, hZ, hnm, hrt, hlk, T, locs, X, N, eT, st⟩ := K
  obtain ⟨cq, kq, qa, qb, qc⟩ := isOf hZ eT E
  obtain ⟨v, _, ⟨T', L', k', n'⟩, -, X', ⟨Lc, hQ, l1, y1, z1⟩, st'⟩ := X.virtualBack hx (y := y) (z := z) hown (mvT hZ wl) (mvT hZ wd) (nf _ hZ) (mvT hZ ws) (mvT hZ wst) hy (backOf (Q := fun v h L => Q v h ∧ Fr n0 L) (W := W) (con C.2.1) hZ wc wi hfr hlo) qa qc (g := mkF C.2.2.2.2.1 pc L S) rfl (by rw [hml]; exact hLs) (Steps.refl _) (argsL := argsL) (rest := rest) (lenOf hpd hlen) hS (by show 2 * 0 + _ ≤ _; omega) (hb hby hd) (fun _ _ => ⟨rfl, eT, hce, hsl⟩)
  dsimp only [Pt.U, Pt.locs, Pt.cells, Pt.slots] at X' l1 y1 z1 st' hQ
  subst l1 y1 z1
  exact ⟨v, T'.heap, hQ.1, hx, hby, hml, hown, hZ, hnm, hrt, hlk, T', _, X', Fr.app N hQ.2, rfl, fun t kt => st t (st'.trans kt)⟩
/-! fields, statics, objects -/
theorem Run.getF {a0 : Array Value} {index : Nat} {R0 O n d host : String} {a : Addr} {v : Value} (K : Run C R Z n0 own nm ret bytes mx h cells slots pc L (.ref a :: S)) (hd : decode bytes pc = .ok (.getfield index, 3)) (w : (Jvm.Cond.fieldLink own index R0 n d).before a0 Z = true ∨ (Jvm.Cond.fieldLinkNest own index R0 n d host).before a0 Z = true) (via : Via Z R0 O n d) (F : Fld Z h a O n d v) :
    Run C R Z n0 own nm ret bytes mx h cells slots (pc + 3) L (v :: S) := by
  obtain ⟨hx, hby, hml, hown, hZ, hnm, hrt, hlk, T, locs, X, N, eT, st⟩ := K
  obtain ⟨T', X', e', st'⟩ := RoadKit.getF X hx hZ hown w via eT F (g := mkF C.2.2.2.2.1 pc L (.ref a :: S)) rfl rfl (hb hby hd)
  exact ⟨hx, hby, hml, hown, hZ, hnm, hrt, hlk, T', locs, X', N, e', fun t kt => st t (st' t kt)⟩
theorem Run.getS {a0 : Array Value} {index : Nat} {R0 O n d host : String} {v : Value} (K : Run C R Z n0 own nm ret bytes mx h cells slots pc L S) (hd : decode bytes pc = .ok (.getstatic index, 3)) (w : (Jvm.Cond.fieldLink own index R0 n d).before a0 Z = true ∨ (Jvm.Cond.fieldLinkNest own index R0 n d host).before a0 Z = true) (via : Via Z R0 O n d) (F : Sta Z h O n d v) :
    Run C R Z n0 own nm ret bytes mx h cells slots (pc + 3) L (v :: S) := by
  obtain ⟨hx, hby, hml, hown, hZ, hnm, hrt, hlk, T, locs, X, N, eT, st⟩ := K
  obtain ⟨T', X', e', st'⟩ := RoadKit.getS2 X hx hZ hown w via eT F (g := mkF C.2.2.2.2.1 pc L S) rfl (hb hby hd)
  exact ⟨hx, hby, hml, hown, hZ, hnm, hrt, hlk, T', locs, X', N, e', fun t kt => st t (st' t kt)⟩
theorem Run.putF {a0 : Array Value} {index kk : Nat} {R0 O n d host Cl : String} {ty : FieldType} {a : Addr} {v old : Value} (K : Run C R Z n0 own nm ret bytes mx h cells slots pc L (v :: .ref a :: S)) (hd : decode bytes pc = .ok (.putfield index, 3)) (w : (Jvm.Cond.fieldLink own index R0 n d).before a0 Z = true ∨ (Jvm.Cond.fieldLinkNest own index R0 n d host).before a0 Z = true) (via : Via Z R0 O n d)
    (F : Fld Z h a O n d old) (E : Exa Z h a Cl) (Lw : (Jvm.Cond.lays Cl O n d).before a0 Z = true ∨ ((Jvm.Cond.laysFinal Cl O n d).before a0 Z = true ∧ own = O ∧ nm = "<init>")) (wi : (Jvm.Cond.instantiable Cl kk).before a0 Z = true) (hty : parseFieldDescriptor d = some ty) (hn : narrow ty v = v) (hf : fits ty v = true) (ga : n0 ≤ a) :
    ∃ h', Wr h h' a (RoadKit.slotOf Z O n d) v ∧ Run C R Z n0 own nm ret bytes mx h' cells slots (pc + 3) L S := by
  obtain ⟨hx, hby, hml, hown, hZ, hnm, hrt, hlk, T, locs, X, N, eT, st⟩ := K
  obtain ⟨T', h', X', e', W', st'⟩ := RoadKit.putF X hx hZ hown w via eT F E (Lw.imp id fun q => ⟨q.1, q.2.1, hnm.trans q.2.2⟩) wi hty hn hf (g := mkF C.2.2.2.2.1 pc L (v :: .ref a :: S)) rfl rfl (hb hby hd)
  exact ⟨h', W', hx, hby, hml, hown, hZ, hnm, hrt, hlk, T', _, X', Fr.snoc X' N ga, e', fun t kt => st t (st' t kt)⟩
theorem Run.newO {a0 : Array Value} {index n : Nat} {Cl : String} (K : Run C R Z n0 own nm ret bytes mx h cells slots pc L S) (hd : decode bytes pc = .ok (.new index, 3)) (w : (Jvm.Cond.classLink own index Cl).before a0 Z = true) (wi : (Jvm.Cond.instantiable Cl n).before a0 Z = true) (wz : (Jvm.Cond.initialized Cl).before a0 Z = true) (hc : cells + 1 ≤ R.cells) (hl : slots + n ≤ R.slots) :
    ∃ (h' : Heap) (b : Addr), b = h.size ∧ Ext h h' ∧ Exa Z h' b Cl ∧ (∀ {O f d : String} {ty : FieldType}, Laid Z a0 Cl O f d → parseFieldDescriptor d = some ty → Fld Z h' b O f d (defaultValue ty)) ∧ Run C R Z n0 own nm ret bytes mx h' (cells + 1) (slots + n) (pc + 3) L (.ref b :: S) := by
  obtain ⟨hx, hby, hml, hown, hZ, hnm, hrt, hlk, T, locs, X, N, eT, st⟩ := K
  obtain ⟨T', h', X', e', E', A', D', -, st'⟩ := RoadKit.newO X hx hZ hown w wi wz eT (g := mkF C.2.2.2.2.1 pc L S) rfl (hb hby hd) hc hl
  exact ⟨h', _, rfl, E', A', D', hx, hby, hml, hown, hZ, hnm, hrt, hlk, T', _, X', N, e', fun t kt => st t (st' t kt)⟩
theorem Run.initO {a0 : Array Value} {index W : Nat} {a : Addr} (K : Run C R Z n0 own nm ret bytes mx h cells slots pc L (.ref a :: S)) (hd : decode bytes pc = .ok (.invokespecial index, 3)) (w1 : (Jvm.Cond.methodLink own index Lib.objectInit).before a0 Z = true) (w2 : (Jvm.Cond.instanceMethod Lib.objectInit).before a0 Z = true) (w3 : (Jvm.Cond.code Lib.objectInit ⟨#[0xb1]⟩ 1 none).before a0 Z = true) (hLs : L.size = mx) (hW : (S.map fun v => v.category).sum = W) (hf : 1 ≤ R.frames) (hl : W + 12 ≤ R.locals) :
    Run C R Z n0 own nm ret bytes mx h cells slots (pc + 3) L S := by
  obtain ⟨hx, hby, hml, hown, hZ, hnm, hrt, hlk, T, locs, X, N, eT, st⟩ := K
  obtain ⟨T', X', e', st'⟩ := RoadKit.initO X hx hZ hown w1 w2 w3 eT (g := mkF C.2.2.2.2.1 pc L (.ref a :: S)) rfl (by rw [hml]; exact hLs) rfl (hb hby hd) hf (W := W) (by show 2 * 0 + _ ≤ _; omega) hl
  exact ⟨hx, hby, hml, hown, hZ, hnm, hrt, hlk, T', locs, X', N, e', fun t kt => st t (st' t kt)⟩
theorem Run.castY {a0 : Array Value} {index : Nat} {Kl : String} {a : Addr} (K : Run C R Z n0 own nm ret bytes mx h cells slots pc L (.ref a :: S)) (hd : decode bytes pc = .ok (.checkcast index, 3)) (w : (Jvm.Cond.classLink own index Kl).before a0 Z = true) (F : Ins Z h a Kl true) : Run C R Z n0 own nm ret bytes mx h cells slots (pc + 3) L (.ref a :: S) := by
  obtain ⟨hx, hby, hml, hown, hZ, hnm, hrt, hlk, T, locs, X, N, eT, st⟩ := K
  obtain ⟨T', X', e', st'⟩ := RoadKit.castY X hx hZ hown w eT F (g := mkF C.2.2.2.2.1 pc L (.ref a :: S)) rfl rfl (hb hby hd)
  exact ⟨hx, hby, hml, hown, hZ, hnm, hrt, hlk, T', locs, X', N, e', fun t kt => st t (st' t kt)⟩
/-! arrays, by a function of the place -/
theorem Run.arrlen {a : Addr} {ty : FieldType} {n : Nat} {f : Nat → Value} (K : Run C R Z n0 own nm ret bytes mx h cells slots pc L (.ref a :: S)) (hd : decode bytes pc = .ok (.arraylength, 1)) (F : Arf Z h a ty n f) (z : Int32) (hz : n.toInt32 = z) : Run C R Z n0 own nm ret bytes mx h cells slots (pc + 1) L (.int z :: S) := by
  obtain ⟨hx, hby, hml, hown, hZ, hnm, hrt, hlk, T, locs, X, N, eT, st⟩ := K
  obtain ⟨cl, Ar, Sz, H⟩ := F
  subst hz Sz
  exact ⟨hx, hby, hml, hown, hZ, hnm, hrt, hlk, T, locs, X, N, eT, fun t kt => st t (X.arraylength hx (by rw [eT]; exact Ar.1) (State.isArrayOf_alike hZ.alike Ar.2.1) (g := mkF C.2.2.2.2.1 pc L (.ref a :: S)) rfl rfl (hb hby hd) t kt)⟩
theorem Run.iaload {a : Addr} {n : Nat} {f : Nat → Value} {j : Int32} (K : Run C R Z n0 own nm ret bytes mx h cells slots pc L (.int j :: .ref a :: S)) (hd : decode bytes pc = .ok (.iaload, 1)) (F : Arf Z h a .int n f) (i : Nat) (hj : j.toNatClampNeg = i) (h0 : ¬ j < 0) (hi : i < n) (v : Value) (hv : f i = v) : Run C R Z n0 own nm ret bytes mx h cells slots (pc + 1) L (v :: S) := by
  obtain ⟨hx, hby, hml, hown, hZ, hnm, hrt, hlk, T, locs, X, N, eT, st⟩ := K
  obtain ⟨cl, Ar, Sz, H⟩ := F
  subst hj hv Sz
  exact ⟨hx, hby, hml, hown, hZ, hnm, hrt, hlk, T, locs, X, N, eT, fun t kt => st t (X.iaload hx (j := j) (v := f j.toNatClampNeg) (by rw [eT]; exact Ar.1) (State.isArrayOf_alike hZ.alike Ar.2.1) Ar.2.2 (fun q => q.elim h0 (Nat.not_le.mpr hi)) (H _ hi) (g := mkF C.2.2.2.2.1 pc L (.int j :: .ref a :: S)) rfl rfl (hb hby hd) t kt)⟩
theorem Run.baload {a : Addr} {n : Nat} {f : Nat → Value} {j : Int32} (K : Run C R Z n0 own nm ret bytes mx h cells slots pc L (.int j :: .ref a :: S)) (hd : decode bytes pc = .ok (.baload, 1)) (F : Arf Z h a .byte n f) (i : Nat) (hj : j.toNatClampNeg = i) (h0 : ¬ j < 0) (hi : i < n) (v : Value) (hv : f i = v) : Run C R Z n0 own nm ret bytes mx h cells slots (pc + 1) L (v :: S) := by
  obtain ⟨hx, hby, hml, hown, hZ, hnm, hrt, hlk, T, locs, X, N, eT, st⟩ := K
  obtain ⟨cl, Ar, Sz, H⟩ := F
  subst hj hv Sz
  exact ⟨hx, hby, hml, hown, hZ, hnm, hrt, hlk, T, locs, X, N, eT, fun t kt => st t (X.baloadBytes hx (j := j) (v := f j.toNatClampNeg) (by rw [eT]; exact Ar.1) (State.isArrayOf_alike hZ.alike Ar.2.1) Ar.2.2 (fun q => q.elim h0 (Nat.not_le.mpr hi)) (H _ hi) (g := mkF C.2.2.2.2.1 pc L (.int j :: .ref a :: S)) rfl rfl (hb hby hd) t kt)⟩
theorem Run.aaload {a : Addr} {ty : FieldType} {n : Nat} {f : Nat → Value} {j : Int32} (K : Run C R Z n0 own nm ret bytes mx h cells slots pc L (.int j :: .ref a :: S)) (hd : decode bytes pc = .ok (.aaload, 1)) (F : Arf Z h a ty n f) (hty : ty.isReference = true) (i : Nat) (hj : j.toNatClampNeg = i) (h0 : ¬ j < 0) (hi : i < n) (v : Value) (hv : f i = v) : Run C R Z n0 own nm ret bytes mx h cells slots (pc + 1) L (v :: S) := by
  obtain ⟨hx, hby, hml, hown, hZ, hnm, hrt, hlk, T, locs, X, N, eT, st⟩ := K
  obtain ⟨cl, Ar, Sz, H⟩ := F
  subst hj hv Sz
  exact ⟨hx, hby, hml, hown, hZ, hnm, hrt, hlk, T, locs, X, N, eT, fun t kt => st t (X.aaload hx (j := j) (v := f j.toNatClampNeg) (by rw [eT]; exact Ar.1) (State.isArrayOf_alike hZ.alike Ar.2.1) hty Ar.2.2 (fun q => q.elim h0 (Nat.not_le.mpr hi)) (H _ hi) (g := mkF C.2.2.2.2.1 pc L (.int j :: .ref a :: S)) rfl rfl (hb hby hd) t kt)⟩
theorem Run.iastore {a : Addr} {n : Nat} {f : Nat → Value} {j x : Int32} (K : Run C R Z n0 own nm ret bytes mx h cells slots pc L (.int x :: .int j :: .ref a :: S)) (hd : decode bytes pc = .ok (.iastore, 1)) (F : Arf Z h a .int n f) (i : Nat) (hj : j.toNatClampNeg = i) (h0 : ¬ j < 0) (hi : i < n) (ga : n0 ≤ a) :
    ∃ h', Wr h h' a i (.int x) ∧ Arf Z h' a .int n (updV f i (.int x)) ∧ Run C R Z n0 own nm ret bytes mx h' cells slots (pc + 1) L S := by
  obtain ⟨hx, hby, hml, hown, hZ, hnm, hrt, hlk, T, locs, X, N, eT, st⟩ := K
  obtain ⟨cl, Ar, Sz, H⟩ := F
  subst hj Sz
  obtain ⟨T', h', X', e', W', st'⟩ := RoadKit.stI X hx hZ eT Ar (j := j) (x := x) (fun q => q.elim h0 (Nat.not_le.mpr hi)) (g := mkF C.2.2.2.2.1 pc L (.int x :: .int j :: .ref a :: S)) rfl rfl (hb hby hd)
  exact ⟨h', W', Arf.set ⟨cl, Ar, rfl, H⟩ W' hi, hx, hby, hml, hown, hZ, hnm, hrt, hlk, T', _, X', Fr.snoc X' N ga, e', fun t kt => st t (st' t kt)⟩
theorem Run.bastore {a : Addr} {n : Nat} {f : Nat → Value} {j x : Int32} (K : Run C R Z n0 own nm ret bytes mx h cells slots pc L (.int x :: .int j :: .ref a :: S)) (hd : decode bytes pc = .ok (.bastore, 1)) (F : Arf Z h a .byte n f) (i : Nat) (hj : j.toNatClampNeg = i) (h0 : ¬ j < 0) (hi : i < n) (ga : n0 ≤ a) (x' : Int32) (hx' : x.toInt8.toInt32 = x') :
    ∃ h', Wr h h' a i (.int x') ∧ Arf Z h' a .byte n (updV f i (.int x')) ∧ Run C R Z n0 own nm ret bytes mx h' cells slots (pc + 1) L S := by
  obtain ⟨hx, hby, hml, hown, hZ, hnm, hrt, hlk, T, locs, X, N, eT, st⟩ := K
  obtain ⟨cl, Ar, Sz, H⟩ := F
  subst hj Sz hx'
  obtain ⟨T', h', X', e', W', st'⟩ := RoadKit.stB X hx hZ eT Ar (j := j) (x := x) (fun q => q.elim h0 (Nat.not_le.mpr hi)) (g := mkF C.2.2.2.2.1 pc L (.int x :: .int j :: .ref a :: S)) rfl rfl (hb hby hd)
  exact ⟨h', W', Arf.set ⟨cl, Ar, rfl, H⟩ W' hi, hx, hby, hml, hown, hZ, hnm, hrt, hlk, T', _, X', Fr.snoc X' N ga, e', fun t kt => st t (st' t kt)⟩
theorem Run.caload {a : Addr} {n : Nat} {f : Nat → Value} {j : Int32} (K : Run C R Z n0 own nm ret bytes mx h cells slots pc L (.int j :: .ref a :: S)) (hd : decode bytes pc = .ok (.caload, 1)) (F : Arf Z h a .char n f) (i : Nat) (hj : j.toNatClampNeg = i) (h0 : ¬ j < 0) (hi : i < n) (v : Value) (hv : f i = v) : Run C R Z n0 own nm ret bytes mx h cells slots (pc + 1) L (v :: S) := by
  obtain ⟨hx, hby, hml, hown, hZ, hnm, hrt, hlk, T, locs, X, N, eT, st⟩ := K
  obtain ⟨cl, Ar, Sz, H⟩ := F
  subst hj hv Sz
  exact ⟨hx, hby, hml, hown, hZ, hnm, hrt, hlk, T, locs, X, N, eT, fun t kt => st t (X.caload hx (j := j) (v := f j.toNatClampNeg) (by rw [eT]; exact Ar.1) (State.isArrayOf_alike hZ.alike Ar.2.1) Ar.2.2 (fun q => q.elim h0 (Nat.not_le.mpr hi)) (H _ hi) (g := mkF C.2.2.2.2.1 pc L (.int j :: .ref a :: S)) rfl rfl (hb hby hd) t kt)⟩
theorem Run.daload {a : Addr} {n : Nat} {f : Nat → Value} {j : Int32} (K : Run C R Z n0 own nm ret bytes mx h cells slots pc L (.int j :: .ref a :: S)) (hd : decode bytes pc = .ok (.daload, 1)) (F : Arf Z h a .double n f) (i : Nat) (hj : j.toNatClampNeg = i) (h0 : ¬ j < 0) (hi : i < n) (v : Value) (hv : f i = v) : Run C R Z n0 own nm ret bytes mx h cells slots (pc + 1) L (v :: S) := by
  obtain ⟨hx, hby, hml, hown, hZ, hnm, hrt, hlk, T, locs, X, N, eT, st⟩ := K
  obtain ⟨cl, Ar, Sz, H⟩ := F
  subst hj hv Sz
  exact ⟨hx, hby, hml, hown, hZ, hnm, hrt, hlk, T, locs, X, N, eT, fun t kt => st t (X.daload hx (j := j) (v := f j.toNatClampNeg) (by rw [eT]; exact Ar.1) (State.isArrayOf_alike hZ.alike Ar.2.1) Ar.2.2 (fun q => q.elim h0 (Nat.not_le.mpr hi)) (H _ hi) (g := mkF C.2.2.2.2.1 pc L (.int j :: .ref a :: S)) rfl rfl (hb hby hd) t kt)⟩
theorem Run.castore {a : Addr} {n : Nat} {f : Nat → Value} {j x : Int32} (K : Run C R Z n0 own nm ret bytes mx h cells slots pc L (.int x :: .int j :: .ref a :: S)) (hd : decode bytes pc = .ok (.castore, 1)) (F : Arf Z h a .char n f) (i : Nat) (hj : j.toNatClampNeg = i) (h0 : ¬ j < 0) (hi : i < n) (ga : n0 ≤ a) (x' : Int32) (hx' : x.toUInt32.toUInt16.toUInt32.toInt32 = x') :
    ∃ h', Wr h h' a i (.int x') ∧ Arf Z h' a .char n (updV f i (.int x')) ∧ Run C R Z n0 own nm ret bytes mx h' cells slots (pc + 1) L S := by
  obtain ⟨hx, hby, hml, hown, hZ, hnm, hrt, hlk, T, locs, X, N, eT, st⟩ := K
  obtain ⟨cl, Ar, Sz, H⟩ := F
  subst hj Sz hx'
  obtain ⟨T', h', X', e', W', st'⟩ := RoadKit.stC X hx hZ eT Ar (j := j) (x := x) (fun q => q.elim h0 (Nat.not_le.mpr hi)) (g := mkF C.2.2.2.2.1 pc L (.int x :: .int j :: .ref a :: S)) rfl rfl (hb hby hd)
  exact ⟨h', W', Arf.set ⟨cl, Ar, rfl, H⟩ W' hi, hx, hby, hml, hown, hZ, hnm, hrt, hlk, T', _, X', Fr.snoc X' N ga, e', fun t kt => st t (st' t kt)⟩
theorem Run.dastore {a : Addr} {n : Nat} {f : Nat → Value} {j : Int32} {x : UInt64} (K : Run C R Z n0 own nm ret bytes mx h cells slots pc L (.double x :: .int j :: .ref a :: S)) (hd : decode bytes pc = .ok (.dastore, 1)) (F : Arf Z h a .double n f) (i : Nat) (hj : j.toNatClampNeg = i) (h0 : ¬ j < 0) (hi : i < n) (ga : n0 ≤ a) :
    ∃ h', Wr h h' a i (.double x) ∧ Arf Z h' a .double n (updV f i (.double x)) ∧ Run C R Z n0 own nm ret bytes mx h' cells slots (pc + 1) L S := by
  obtain ⟨hx, hby, hml, hown, hZ, hnm, hrt, hlk, T, locs, X, N, eT, st⟩ := K
  obtain ⟨cl, Ar, Sz, H⟩ := F
  subst hj Sz
  obtain ⟨T', h', X', e', W', st'⟩ := RoadKit.stD X hx hZ eT Ar (j := j) (x := x) (fun q => q.elim h0 (Nat.not_le.mpr hi)) (g := mkF C.2.2.2.2.1 pc L (.double x :: .int j :: .ref a :: S)) rfl rfl (hb hby hd)
  exact ⟨h', W', Arf.set ⟨cl, Ar, rfl, H⟩ W' hi, hx, hby, hml, hown, hZ, hnm, hrt, hlk, T', _, X', Fr.snoc X' N ga, e', fun t kt => st t (st' t kt)⟩
theorem Run.newarr {a0 : Array Value} {aty : ArrayType} {n : Int32} {ad : String} (K : Run C R Z n0 own nm ret bytes mx h cells slots pc L (.int n :: S)) (hd : decode bytes pc = .ok (.newarray aty, 2)) (w : (Jvm.Cond.arrayClass (newarray.typeOf aty)).before a0 Z = true) (hn : ¬ n < 0) (z : Nat) (hz : n.toNatClampNeg = z) (cap : Nat) (hcap : z ≤ cap) (hb8 : cap * 8 ≤ 536870912) (hc : cells + 1 ≤ R.cells) (hl : slots + cap ≤ R.slots) (had : "[" ++ (newarray.typeOf aty).toString = ad) :
    ∃ (h' : Heap) (b : Addr), b = h.size ∧ Ext h h' ∧ Arf Z h' b (newarray.typeOf aty) z (fun _ => defaultValue (newarray.typeOf aty)) ∧ Exa Z h' b ad ∧ Run C R Z n0 own nm ret bytes mx h' (cells + 1) (slots + cap) (pc + 2) L (.ref b :: S) := by
  obtain ⟨hx, hby, hml, hown, hZ, hnm, hrt, hlk, T, locs, X, N, eT, st⟩ := K
  subst hz
  obtain ⟨T', h', cA, X', e', E', A', Ex', st'⟩ := RoadKit.newPE X hx hZ w eT (g := mkF C.2.2.2.2.1 pc L (.int n :: S)) rfl (hb hby hd) rfl hn hcap hb8 hc hl had
  exact ⟨h', _, rfl, E', ⟨_, A', sz_new _ _ _, fun i hi => by simp [newA, hi]⟩, Ex', hx, hby, hml, hown, hZ, hnm, hrt, hlk, T', _, X', N, e', fun t kt => st t (st' t kt)⟩
theorem Run.clone {a0 : Array Value} {index W : Nat} {ad : String} {a : Addr} {ty : FieldType} {n : Nat} {f : Nat → Value} (K : Run C R Z n0 own nm ret bytes mx h cells slots pc L (.ref a :: S)) (hd : decode bytes pc = .ok (.invokevirtual index, 3))
    (w1 : (Jvm.Cond.methodLink own index ⟨ad, "clone", "()Ljava/lang/Object;"⟩).before a0 Z = true) (w2 : (Jvm.Cond.sameMethod ad "java/lang/Object" "clone" "()Ljava/lang/Object;").before a0 Z = true) (w3 : (Jvm.Cond.native ⟨"java/lang/Object", "clone", "()Ljava/lang/Object;"⟩).before a0 Z = true)
    (w4 : (Jvm.Cond.instanceMethod ⟨"java/lang/Object", "clone", "()Ljava/lang/Object;"⟩).before a0 Z = true) (w5 : (Jvm.Cond.selects ad ⟨ad, "clone", "()Ljava/lang/Object;"⟩ ⟨"java/lang/Object", "clone", "()Ljava/lang/Object;"⟩).before a0 Z = true) (w6 : (Jvm.Cond.castable ad "java/lang/Cloneable").before a0 Z = true)
    (F : Arf Z h a ty n f) (hfit : ∀ i, i < n → fits ty (f i) = true) (E : Exa Z h a ad) (cap : Nat) (hcap : n ≤ cap) (hW : (S.map fun v => v.category).sum = W) (hLs : L.size = mx) (hf : 1 ≤ R.frames) (hl : W + 14 ≤ R.locals) (hc : cells + 1 ≤ R.cells) (hsl : slots + cap ≤ R.slots) :
    ∃ (h' : Heap) (b : Addr), b = h.size ∧ Ext h h' ∧ Arf Z h' b ty n f ∧ Exa Z h' b ad ∧ Run C R Z n0 own nm ret bytes mx h' (cells + 1) (slots + cap) (pc + 3) L (.ref b :: S) := by
  obtain ⟨hx, hby, hml, hown, hZ, hnm, hrt, hlk, T, locs, X, N, eT, st⟩ := K
  obtain ⟨cl, Ar, Sz, H⟩ := F
  subst Sz
  have FC : FitC Z cl := fitC_of Ar fun i hi v hv => by rw [H i hi] at hv; cases hv; exact hfit i hi
  obtain ⟨T', h', X', e', ex, A', E', st'⟩ := cloneA X hx hZ hown w1 w2 w3 w4 w5 w6 eT Ar E FC (g := mkF C.2.2.2.2.1 pc L (.ref a :: S)) rfl (by rw [hml]; exact hLs) rfl (hb hby hd) hf (W := W) (cap := cap) (by show 2 * 0 + _ ≤ _; omega) hl hcap hc hsl
  exact ⟨h', _, rfl, ex, ⟨cloneOf cl, A', rfl, H⟩, E', hx, hby, hml, hown, hZ, hnm, hrt, hlk, T', _, X', N, e', fun t kt => st t (st' t kt)⟩
theorem Run.instY {a0 : Array Value} {index : Nat} {Kl : String} {a : Addr} (K : Run C R Z n0 own nm ret bytes mx h cells slots pc L (.ref a :: S)) (hd : decode bytes pc = .ok (.instanceof index, 3)) (w : (Jvm.Cond.classLink own index Kl).before a0 Z = true) (F : Ins Z h a Kl true) : Run C R Z n0 own nm ret bytes mx h cells slots (pc + 3) L (.int (1 : Int32) :: S) := by
  obtain ⟨hx, hby, hml, hown, hZ, hnm, hrt, hlk, T, locs, X, N, eT, st⟩ := K
  obtain ⟨T', X', e', st'⟩ := RoadKit.instY X hx hZ hown w eT F (g := mkF C.2.2.2.2.1 pc L (.ref a :: S)) rfl rfl (hb hby hd)
  exact ⟨hx, hby, hml, hown, hZ, hnm, hrt, hlk, T', locs, X', N, e', fun t kt => st t (st' t kt)⟩
theorem Run.castNull {index : Nat} (K : Run C R Z n0 own nm ret bytes mx h cells slots pc L (.null :: S)) (hd : decode bytes pc = .ok (.checkcast index, 3)) : Run C R Z n0 own nm ret bytes mx h cells slots (pc + 3) L (.null :: S) := by
  obtain ⟨hx, hby, hml, hown, hZ, hnm, hrt, hlk, T, locs, X, N, eT, st⟩ := K
  exact ⟨hx, hby, hml, hown, hZ, hnm, hrt, hlk, T, locs, X, N, eT, fun t kt => st t (X.checkcastNull hx (g := mkF C.2.2.2.2.1 pc L (.null :: S)) rfl rfl (hb hby hd) t kt)⟩
theorem Run.lswHit {x : Int32} {dflt : Int} {pairs : Array (Int × Int)} {len : Nat} {b off : Int} {pc' : Nat} (K : Run C R Z n0 own nm ret bytes mx h cells slots pc L (.int x :: S)) (hd : decode bytes pc = .ok (.lookupswitch dflt pairs, len)) (hsorted : (pairs.toList.zip (pairs.toList.drop 1)).all (fun (a, next) => a.1 < next.1) = true) (hfind : pairs.find? (·.1 == x.toInt) = some (b, off)) (ho : 0 ≤ (pc : Int) + off) (hp : ((pc : Int) + off).toNat = pc') : Run C R Z n0 own nm ret bytes mx h cells slots pc' L S := by
  obtain ⟨hx, hby, hml, hown, hZ, hnm, hrt, hlk, T, locs, X, N, eT, st⟩ := K
  subst hp
  exact ⟨hx, hby, hml, hown, hZ, hnm, hrt, hlk, T, locs, X, N, eT, fun t kt => st t (X.lookupswitchHit hx (g := mkF C.2.2.2.2.1 pc L (.int x :: S)) rfl rfl (hb hby hd) hsorted hfind ho t kt)⟩
theorem Run.lswMiss {x : Int32} {dflt : Int} {pairs : Array (Int × Int)} {len : Nat} {pc' : Nat} (K : Run C R Z n0 own nm ret bytes mx h cells slots pc L (.int x :: S)) (hd : decode bytes pc = .ok (.lookupswitch dflt pairs, len)) (hsorted : (pairs.toList.zip (pairs.toList.drop 1)).all (fun (a, next) => a.1 < next.1) = true) (hfind : ∀ p ∈ pairs.toList, p.1 ≠ x.toInt) (ho : 0 ≤ (pc : Int) + dflt) (hp : ((pc : Int) + dflt).toNat = pc') : Run C R Z n0 own nm ret bytes mx h cells slots pc' L S := by
  obtain ⟨hx, hby, hml, hown, hZ, hnm, hrt, hlk, T, locs, X, N, eT, st⟩ := K
  subst hp
  exact ⟨hx, hby, hml, hown, hZ, hnm, hrt, hlk, T, locs, X, N, eT, fun t kt => st t (X.lookupswitchMiss hx (g := mkF C.2.2.2.2.1 pc L (.int x :: S)) rfl rfl (hb hby hd) hsorted (find_miss hfind) ho t kt)⟩
end Steps
end Jvm.Own

namespace Jvm.Pilot.@@N@@
open Jvm Jvm.ClassFile Sem Op Lib Jvm.Free Jvm.Stand Jvm.LawKit Jvm.RoadKit Jvm.Own Bundle Jvm.Pilot.@@N@@.Jvm.D
theorem pd_0 : parseMethodDescriptor "()B" = some ⟨[], some .byte⟩ := by decide +kernel
theorem pd_1 : parseMethodDescriptor "(I)Z" = some ⟨[.int], some .boolean⟩ := by decide +kernel
theorem pd_2 : parseMethodDescriptor "(II)I" = some ⟨[.int, .int], some .int⟩ := by decide +kernel
theorem pd_3 : parseMethodDescriptor "()Z" = some ⟨[], some .boolean⟩ := by decide +kernel
theorem pd_4 : parseMethodDescriptor "()I" = some ⟨[], some .int⟩ := by decide +kernel
theorem pd_5 : parseMethodDescriptor "([BIII)I" = some ⟨[(.array .byte), .int, .int, .int], some .int⟩ := by decide +kernel
theorem pd_6 : parseMethodDescriptor "(I)I" = some ⟨[.int], some .int⟩ := by decide +kernel
theorem pd_7 : parseMethodDescriptor "(C)Lcom/example/lieudit/lieudit/RecordFormat;" = some ⟨[.char], some (.object "com/example/lieudit/lieudit/RecordFormat")⟩ := by decide +kernel

section Narrow
variable {args : Array Value} {first s : State} {o : Option Outcome} {idx : List Nat} {t u : Term}
theorem own_eqv {n : Int32} (h : (Jvm.Cond.eq t (.int n)).value args first o s idx = some true) : t.eval args first o idx s = some (.int n) := by
  cases ht : t.eval args first o idx s with
  | none => simp [Cond.value, ht] at h
  | some x => cases x <;> simp [Cond.value, Term.int_eval, ht] at h ⊢; exact h
theorem own_ne0 {z n : Int32} (ev : t.eval args first o idx s = some (.int z)) (h : (Jvm.Cond.eq t (.int n)).value args first o s idx = some false) : ¬ (z = n) := by
  intro q; subst q
  simp [Cond.value, Term.int_eval, ev] at h
theorem own_eqr {b : Addr} (hu : u.eval args first o idx s = some (.ref b)) (h : (Jvm.Cond.eq t u).value args first o s idx = some true) : t.eval args first o idx s = some (.ref b) := by
  cases ht : t.eval args first o idx s with
  | none => simp [Cond.value, ht] at h
  | some x => cases x <;> simp [Cond.value, hu, ht] at h ⊢; exact h
theorem own_len {a : Addr} {cl : Cell} {ty : FieldType} {n : Int32} {k : Nat} (ev : t.eval args s none [] s = some (.ref a)) (A : Arr s s.heap a cl ty) (h : (Term.length t).eval args s none [] s = some (.int n)) (hk : n.toInt = (k : Int)) : cl.slots.size = k := by
  have q : s.arrayAt? a = some cl := A.fin (Vm.Alike.refl _)
  simp [Term.eval, ev, q] at h
  have r := len_toInt h.1
  rw [h.2, hk] at r
  omega
end Narrow
def own_arr (l : List Int32) (i : Nat) : Value := .int (l.getD i 0)
def own_max (p1 p2 : Int32) : Int32 := (if p1 < p2 then p2 else p1)
def own_min (p1 p2 : Int32) : Int32 := (if p2 < p1 then p2 else p1)
def own_ce (p1 : Int32) : Int32 := (if p1 < (0 : Int32) then (0 : Int32) else (if (255 : Int32) < p1 then (0 : Int32) else (1 : Int32)))
def own_li0 (p2 : Int32) : Int32 := (if (own_ce p2) = (0 : Int32) then (-1 : Int32) else (-1 : Int32))
def own_ioc1 (p2 : Int32) (c0 : Int32) : Int32 := (if c0 = (p2.toInt8.toInt32) then (0 : Int32) else (-1 : Int32))
def own_li1 (p2 : Int32) (c0 : Int32) : Int32 := (if (own_ce p2) = (0 : Int32) then (-1 : Int32) else (own_ioc1 p2 c0))
def own_ioc4 (p2 : Int32) (c0 c1 c2 c3 : Int32) : Int32 := (if c0 = (p2.toInt8.toInt32) then (0 : Int32) else (if c1 = (p2.toInt8.toInt32) then (1 : Int32) else (if c2 = (p2.toInt8.toInt32) then (2 : Int32) else (if c3 = (p2.toInt8.toInt32) then (3 : Int32) else (-1 : Int32)))))
def own_li4 (p2 : Int32) (c0 c1 c2 c3 : Int32) : Int32 := (if (own_ce p2) = (0 : Int32) then (-1 : Int32) else (own_ioc4 p2 c0 c1 c2 c3))
def own_of (p1 : Int32) (a_BIBLIOGRAPHIC a_AUTHORITY a_CLASSIFICATION a_HOLDINGS a_COMMUNITY_INFORMATION : Addr) : Value := (if (own_li0 p1 ) < (0 : Int32) then (if (own_li1 p1 (122 : Int32)) < (0 : Int32) then (if (own_li1 p1 (119 : Int32)) < (0 : Int32) then (if (own_li4 p1 (117 : Int32) (118 : Int32) (120 : Int32) (121 : Int32)) < (0 : Int32) then (if (own_li1 p1 (113 : Int32)) < (0 : Int32) then (.ref a_BIBLIOGRAPHIC) else (.ref a_COMMUNITY_INFORMATION)) else (.ref a_HOLDINGS)) else (.ref a_CLASSIFICATION)) else (.ref a_AUTHORITY)) else (.ref a_BIBLIOGRAPHIC))
def own_exp (p1 : Int32) (a_BIBLIOGRAPHIC a_AUTHORITY a_CLASSIFICATION a_HOLDINGS a_COMMUNITY_INFORMATION : Addr) : Value := (if p1 = (122 : Int32) then (.ref a_AUTHORITY) else (if p1 = (119 : Int32) then (.ref a_CLASSIFICATION) else (if p1 = (117 : Int32) then (.ref a_HOLDINGS) else (if p1 = (118 : Int32) then (.ref a_HOLDINGS) else (if p1 = (120 : Int32) then (.ref a_HOLDINGS) else (if p1 = (121 : Int32) then (.ref a_HOLDINGS) else (if p1 = (113 : Int32) then (.ref a_COMMUNITY_INFORMATION) else (.ref a_BIBLIOGRAPHIC))))))))
def own_fmt (a_BIBLIOGRAPHIC a_AUTHORITY a_CLASSIFICATION a_HOLDINGS a_COMMUNITY_INFORMATION : Addr) (i : Nat) : Value := if i = 0 then .ref a_BIBLIOGRAPHIC else if i = 1 then .ref a_AUTHORITY else if i = 2 then .ref a_CLASSIFICATION else if i = 3 then .ref a_HOLDINGS else .ref a_COMMUNITY_INFORMATION
theorem own_Af {Z : State} {h : Heap} {a : Addr} {cl : Cell} {ty : FieldType} {a_BIBLIOGRAPHIC a_AUTHORITY a_CLASSIFICATION a_HOLDINGS a_COMMUNITY_INFORMATION : Addr} (A : Arr Z h a cl ty) (S : cl.slots.size = 5) (q0 : cl.slots[0]? = some (.ref a_BIBLIOGRAPHIC)) (q1 : cl.slots[1]? = some (.ref a_AUTHORITY)) (q2 : cl.slots[2]? = some (.ref a_CLASSIFICATION)) (q3 : cl.slots[3]? = some (.ref a_HOLDINGS)) (q4 : cl.slots[4]? = some (.ref a_COMMUNITY_INFORMATION)) : Arf Z h a ty 5 (own_fmt a_BIBLIOGRAPHIC a_AUTHORITY a_CLASSIFICATION a_HOLDINGS a_COMMUNITY_INFORMATION) := by
  refine ⟨cl, A, S, fun i hi => ?_⟩
  match i, hi with
  | 0, _ => exact q0
  | 1, _ => exact q1
  | 2, _ => exact q2
  | 3, _ => exact q3
  | 4, _ => exact q4
theorem own_ofE (p1 : Int32) (a_BIBLIOGRAPHIC a_AUTHORITY a_CLASSIFICATION a_HOLDINGS a_COMMUNITY_INFORMATION : Addr) : ∃ a, own_of p1 a_BIBLIOGRAPHIC a_AUTHORITY a_CLASSIFICATION a_HOLDINGS a_COMMUNITY_INFORMATION = .ref a := by
  unfold own_of
  repeat' split
  all_goals exact ⟨_, rfl⟩
theorem own_expE (p1 : Int32) (a_BIBLIOGRAPHIC a_AUTHORITY a_CLASSIFICATION a_HOLDINGS a_COMMUNITY_INFORMATION : Addr) : ∃ a, own_exp p1 a_BIBLIOGRAPHIC a_AUTHORITY a_CLASSIFICATION a_HOLDINGS a_COMMUNITY_INFORMATION = .ref a := by
  unfold own_exp
  repeat' split
  all_goals exact ⟨_, rfl⟩
theorem own_ce1 (x : Int32) : own_ce x = 0 ↔ (x.toInt < 0 ∨ 255 < x.toInt) := by
  have e0 : (0 : Int32).toInt = 0 := by decide
  have e1 : (255 : Int32).toInt = 255 := by decide
  unfold own_ce
  simp only [Int32.lt_iff_toInt_lt, e0, e1]
  repeat' split
  all_goals first | (simp; omega) | (constructor <;> intro q <;> first | omega | (exact absurd q (by decide)))
theorem own_li0_neg (x : Int32) : own_li0 x < (0 : Int32) := by
  unfold own_li0
  repeat' split
  all_goals decide
theorem own_b (x c : Int32) (h1 : 0 ≤ x.toInt) (h2 : x.toInt ≤ 255) (h3 : 0 ≤ c.toInt) (h4 : c.toInt < 128) : (c = x.toInt8.toInt32) ↔ x.toInt = c.toInt := by
  rw [← Int32.toInt_inj]
  have h := c_i2b x
  omega
theorem own_li1_neg (x c : Int32) (h1 : 0 ≤ x.toInt) (h3 : 0 ≤ c.toInt) (h4 : c.toInt < 128) : own_li1 x c < (0 : Int32) ↔ ¬ x.toInt = c.toInt := by
  have g := own_ce1 x
  unfold own_li1 own_ioc1
  by_cases q : own_ce x = 0
  · rw [if_pos q]
    rw [g] at q
    exact ⟨fun _ => by omega, fun _ => by decide⟩
  · rw [if_neg q]
    rw [g] at q
    have hb := own_b x c h1 (by omega) h3 h4
    by_cases q1 : c = x.toInt8.toInt32
    · rw [if_pos q1]
      exact ⟨fun z => absurd z (by decide), fun z => absurd (hb.mp q1) z⟩
    · rw [if_neg q1]
      exact ⟨fun _ z => q1 (hb.mpr z), fun _ => by decide⟩
theorem own_li4_neg (x c d e f : Int32) (h1 : 0 ≤ x.toInt) (h3 : 0 ≤ c.toInt) (h4 : c.toInt < 128) (h5 : 0 ≤ d.toInt) (h6 : d.toInt < 128) (h7 : 0 ≤ e.toInt) (h8 : e.toInt < 128) (h9 : 0 ≤ f.toInt) (h10 : f.toInt < 128) : own_li4 x c d e f < (0 : Int32) ↔ ¬ (x.toInt = c.toInt ∨ x.toInt = d.toInt ∨ x.toInt = e.toInt ∨ x.toInt = f.toInt) := by
  have g := own_ce1 x
  unfold own_li4 own_ioc4
  by_cases q : own_ce x = 0
  · rw [if_pos q]
    rw [g] at q
    exact ⟨fun _ => by omega, fun _ => by decide⟩
  · rw [if_neg q]
    rw [g] at q
    have b1 := own_b x c h1 (by omega) h3 h4
    have b2 := own_b x d h1 (by omega) h5 h6
    have b3 := own_b x e h1 (by omega) h7 h8
    have b4 := own_b x f h1 (by omega) h9 h10
    simp only [b1, b2, b3, b4]
    repeat' split
    all_goals first | exact ⟨fun z => absurd z (by decide), fun z => by omega⟩ | exact ⟨fun _ => by omega, fun _ => by decide⟩
theorem own_law (x : Int32) (a_BIBLIOGRAPHIC a_AUTHORITY a_CLASSIFICATION a_HOLDINGS a_COMMUNITY_INFORMATION : Addr) (h1 : 0 ≤ x.toInt) : own_of x a_BIBLIOGRAPHIC a_AUTHORITY a_CLASSIFICATION a_HOLDINGS a_COMMUNITY_INFORMATION = own_exp x a_BIBLIOGRAPHIC a_AUTHORITY a_CLASSIFICATION a_HOLDINGS a_COMMUNITY_INFORMATION := by
  have c0 := own_li0_neg x
  have c1 := own_li1_neg x 122 h1 (by decide) (by decide)
  have c2 := own_li1_neg x 119 h1 (by decide) (by decide)
  have c3 := own_li4_neg x 117 118 120 121 h1 (by decide) (by decide) (by decide) (by decide) (by decide) (by decide) (by decide) (by decide)
  have c4 := own_li1_neg x 113 h1 (by decide) (by decide)
  have e1 : (122 : Int32).toInt = 122 := by decide
  have e2 : (119 : Int32).toInt = 119 := by decide
  have e3 : (117 : Int32).toInt = 117 := by decide
  have e4 : (118 : Int32).toInt = 118 := by decide
  have e5 : (120 : Int32).toInt = 120 := by decide
  have e6 : (121 : Int32).toInt = 121 := by decide
  have e7 : (113 : Int32).toInt = 113 := by decide
  unfold own_of own_exp
  rw [if_pos c0]
  simp only [c1, c2, c3, c4, ← Int32.toInt_inj, e1, e2, e3, e4, e5, e6, e7]
  repeat' split
  all_goals first | rfl | (exfalso; omega)
theorem own_char (x : Int32) : 0 ≤ x.toUInt32.toUInt16.toUInt32.toInt32.toInt := (c_i2c x).2.1
theorem d9_0 : decode jdk_29_method_65_code 0 = .ok (.iload_n 0, 1) := by decide +kernel
theorem d9_1 : decode jdk_29_method_65_code 1 = .ok (.iload_n 1, 1) := by decide +kernel
theorem d9_2 : decode jdk_29_method_65_code 2 = .ok (.if_icmp .lt 7, 3) := by decide +kernel
theorem d9_5 : decode jdk_29_method_65_code 5 = .ok (.iload_n 0, 1) := by decide +kernel
theorem d9_6 : decode jdk_29_method_65_code 6 = .ok (.goto 4, 3) := by decide +kernel
theorem d9_9 : decode jdk_29_method_65_code 9 = .ok (.iload_n 1, 1) := by decide +kernel
theorem d9_10 : decode jdk_29_method_65_code 10 = .ok (.ireturn, 1) := by decide +kernel
set_option maxRecDepth 65536 in
set_option maxHeartbeats 40000000 in
theorem rm9 (Z : State) (a0 : Array Value) (hw : ∀ d ∈ tables_1, d.before a0 Z = true) (p1 p2 : Int32) (h0 : Heap) (n0 : Nat)  :
    Con Z n0 (⟨"java/lang/Math", "max", "(II)I"⟩ : MethodName) jdk_29_method_65_code 2 (some .int) [] ({ frames := 0, cells := 0, slots := 0, locals := 0 } : Room) #[(.int p1), (.int p2)] h0 (fun v h => v = some (.int (own_max p1 p2)) ∧ h0 = h) := by
  refine Con.intro (L0 := #[.val (.int p1), .val (.int p2)]) (Jvm.Free.JP.mathPlain rfl (by decide +kernel)) (fun m => by first | (simp [entryFrame, mkF, argsToLocals, Value.category]; done) | rfl) ?_
  intro C k
  replace k := k.iloadN d9_0 rfl
  replace k := k.iloadN d9_1 rfl
  by_cases hc101 : p1 < p2
  · skip
    replace k := k.icmpYes (pc' := 9) d9_2 (tlt hc101).1 (by decide) (by decide)
    replace k := k.iloadN d9_9 rfl
    exact k.iret d9_10 rfl (by simp) rfl ⟨by rw [own_max, if_pos hc101], rfl⟩ (by decide) (by decide)
  · skip
    replace k := k.icmpNo d9_2 (flt hc101).1
    replace k := k.iloadN d9_5 rfl
    replace k := k.goto (pc' := 10) d9_6 (by decide) (by decide)
    exact k.iret d9_10 rfl (by simp) rfl ⟨by rw [own_max, if_neg hc101], rfl⟩ (by decide) (by decide)

theorem d10_0 : decode jdk_29_method_69_code 0 = .ok (.iload_n 0, 1) := by decide +kernel
theorem d10_1 : decode jdk_29_method_69_code 1 = .ok (.iload_n 1, 1) := by decide +kernel
theorem d10_2 : decode jdk_29_method_69_code 2 = .ok (.if_icmp .gt 7, 3) := by decide +kernel
theorem d10_5 : decode jdk_29_method_69_code 5 = .ok (.iload_n 0, 1) := by decide +kernel
theorem d10_6 : decode jdk_29_method_69_code 6 = .ok (.goto 4, 3) := by decide +kernel
theorem d10_9 : decode jdk_29_method_69_code 9 = .ok (.iload_n 1, 1) := by decide +kernel
theorem d10_10 : decode jdk_29_method_69_code 10 = .ok (.ireturn, 1) := by decide +kernel
set_option maxRecDepth 65536 in
set_option maxHeartbeats 40000000 in
theorem rm10 (Z : State) (a0 : Array Value) (hw : ∀ d ∈ tables_1, d.before a0 Z = true) (p1 p2 : Int32) (h0 : Heap) (n0 : Nat)  :
    Con Z n0 (⟨"java/lang/Math", "min", "(II)I"⟩ : MethodName) jdk_29_method_69_code 2 (some .int) [] ({ frames := 0, cells := 0, slots := 0, locals := 0 } : Room) #[(.int p1), (.int p2)] h0 (fun v h => v = some (.int (own_min p1 p2)) ∧ h0 = h) := by
  refine Con.intro (L0 := #[.val (.int p1), .val (.int p2)]) (Jvm.Free.JP.mathPlain rfl (by decide +kernel)) (fun m => by first | (simp [entryFrame, mkF, argsToLocals, Value.category]; done) | rfl) ?_
  intro C k
  replace k := k.iloadN d10_0 rfl
  replace k := k.iloadN d10_1 rfl
  by_cases hc101 : p2 < p1
  · skip
    replace k := k.icmpYes (pc' := 9) d10_2 (tlt hc101).2.2.1 (by decide) (by decide)
    replace k := k.iloadN d10_9 rfl
    exact k.iret d10_10 rfl (by simp) rfl ⟨by rw [own_min, if_pos hc101], rfl⟩ (by decide) (by decide)
  · skip
    replace k := k.icmpNo d10_2 (flt hc101).2.2.1
    replace k := k.iloadN d10_5 rfl
    replace k := k.goto (pc' := 10) d10_6 (by decide) (by decide)
    exact k.iret d10_10 rfl (by simp) rfl ⟨by rw [own_min, if_neg hc101], rfl⟩ (by decide) (by decide)

theorem d8_0 : decode jdk_43_method_4_code 0 = .ok (.iload_n 0, 1) := by decide +kernel
theorem d8_1 : decode jdk_43_method_4_code 1 = .ok (.ifCond .lt 14, 3) := by decide +kernel
theorem d8_4 : decode jdk_43_method_4_code 4 = .ok (.iload_n 0, 1) := by decide +kernel
theorem d8_5 : decode jdk_43_method_4_code 5 = .ok (.sipush 255, 3) := by decide +kernel
theorem d8_8 : decode jdk_43_method_4_code 8 = .ok (.if_icmp .gt 7, 3) := by decide +kernel
theorem d8_11 : decode jdk_43_method_4_code 11 = .ok (.iconst 1, 1) := by decide +kernel
theorem d8_12 : decode jdk_43_method_4_code 12 = .ok (.goto 4, 3) := by decide +kernel
theorem d8_15 : decode jdk_43_method_4_code 15 = .ok (.iconst 0, 1) := by decide +kernel
theorem d8_16 : decode jdk_43_method_4_code 16 = .ok (.ireturn, 1) := by decide +kernel
set_option maxRecDepth 65536 in
set_option maxHeartbeats 40000000 in
theorem rm8 (Z : State) (a0 : Array Value) (hw : ∀ d ∈ tables_1, d.before a0 Z = true) (p1 : Int32) (h0 : Heap) (n0 : Nat)  :
    Con Z n0 (⟨"java/lang/StringLatin1", "canEncode", "(I)Z"⟩ : MethodName) jdk_43_method_4_code 1 (some .boolean) [] ({ frames := 0, cells := 0, slots := 0, locals := 0 } : Room) #[(.int p1)] h0 (fun v h => v = some (.int (own_ce p1)) ∧ h0 = h) := by
  refine Con.intro (L0 := #[.val (.int p1)]) (plainFor_of_name (by first | (simp [plainName, overriddenIn]; done) | decide +kernel)) (fun m => by first | (simp [entryFrame, mkF, argsToLocals, Value.category]; done) | rfl) ?_
  intro C k
  replace k := k.iloadN d8_0 rfl
  by_cases hc101 : p1 < (0 : Int32)
  · skip
    replace k := k.ifYes (pc' := 15) d8_1 (tlt hc101).1 (by decide) (by decide)
    replace k := k.iconst (0 : Int32) d8_15 rfl
    exact k.iret d8_16 rfl (by simp) rfl ⟨by rw [own_ce, if_pos hc101], rfl⟩ (by decide) (by decide)
  · skip
    replace k := k.ifNo d8_1 (flt hc101).1
    replace k := k.iloadN d8_4 rfl
    replace k := k.sipush (255 : Int32) d8_5 rfl
    by_cases hc102 : (255 : Int32) < p1
    · skip
      replace k := k.icmpYes (pc' := 15) d8_8 (tlt hc102).2.2.1 (by decide) (by decide)
      replace k := k.iconst (0 : Int32) d8_15 rfl
      exact k.iret d8_16 rfl (by simp) rfl ⟨by rw [own_ce, if_neg hc101, if_pos hc102], rfl⟩ (by decide) (by decide)
    · skip
      replace k := k.icmpNo d8_8 (flt hc102).2.2.1
      replace k := k.iconst (1 : Int32) d8_11 rfl
      replace k := k.goto (pc' := 16) d8_12 (by decide) (by decide)
      exact k.iret d8_16 rfl (by simp) rfl ⟨by rw [own_ce, if_neg hc101, if_neg hc102], rfl⟩ (by decide) (by decide)

theorem d4_0 : decode jdk_42_method_154_code 0 = .ok (.getstatic 38, 3) := by decide +kernel
theorem d4_3 : decode jdk_42_method_154_code 3 = .ok (.ifCond .eq 14, 3) := by decide +kernel
theorem d4_6 : decode jdk_42_method_154_code 6 = .ok (.aload_n 0, 1) := by decide +kernel
theorem d4_7 : decode jdk_42_method_154_code 7 = .ok (.getfield 15, 3) := by decide +kernel
theorem d4_10 : decode jdk_42_method_154_code 10 = .ok (.ifCond .ne 7, 3) := by decide +kernel
theorem d4_13 : decode jdk_42_method_154_code 13 = .ok (.iconst 1, 1) := by decide +kernel
theorem d4_14 : decode jdk_42_method_154_code 14 = .ok (.goto 4, 3) := by decide +kernel
theorem d4_18 : decode jdk_42_method_154_code 18 = .ok (.ireturn, 1) := by decide +kernel
set_option maxRecDepth 65536 in
set_option maxHeartbeats 40000000 in
theorem rm4 (Z : State) (a0 : Array Value) (hw : ∀ d ∈ tables_1, d.before a0 Z = true) (a1 : Addr) (zC : Int32) (h0 : Heap) (n0 : Nat) (S_COMPACT : Sta Z h0 "java/lang/String" "COMPACT_STRINGS" "Z" (.int zC)) (hC : ¬ (zC = (0 : Int32))) (Fc : Fld Z h0 a1 "java/lang/String" "coder" "B" (.int (0 : Int32))) :
    Con Z n0 (⟨"java/lang/String", "isLatin1", "()Z"⟩ : MethodName) jdk_42_method_154_code 1 (some .boolean) [] ({ frames := 0, cells := 0, slots := 0, locals := 0 } : Room) #[(.ref a1)] h0 (fun v h => v = some (.int (1 : Int32)) ∧ h0 = h) := by
  refine Con.intro (L0 := #[.val (.ref a1)]) (plainFor_of_name (by first | (simp [plainName, overriddenIn]; done) | decide +kernel)) (fun m => by first | (simp [entryFrame, mkF, argsToLocals, Value.category]; done) | rfl) ?_
  intro C k
  replace k := k.getS d4_0 (host := "") (Or.inl (hw _ (List.mem_of_getElem? (i := 26) rfl))) Via.refl S_COMPACT
  replace k := k.ifNo d4_3 (feq hC).1
  replace k := k.aloadN d4_6 rfl rfl
  replace k := k.getF d4_7 (host := "") (Or.inl (hw _ (List.mem_of_getElem? (i := 27) rfl))) Via.refl Fc
  replace k := k.ifNo d4_10 (by decide)
  replace k := k.iconst (1 : Int32) d4_13 rfl
  replace k := k.goto (pc' := 18) d4_14 (by decide) (by decide)
  exact k.iret d4_18 rfl (by simp) rfl ⟨rfl, rfl⟩ (by decide) (by decide)

theorem d6_0 : decode jdk_42_method_152_code 0 = .ok (.getstatic 38, 3) := by decide +kernel
theorem d6_3 : decode jdk_42_method_152_code 3 = .ok (.ifCond .eq 10, 3) := by decide +kernel
theorem d6_6 : decode jdk_42_method_152_code 6 = .ok (.aload_n 0, 1) := by decide +kernel
theorem d6_7 : decode jdk_42_method_152_code 7 = .ok (.getfield 15, 3) := by decide +kernel
theorem d6_10 : decode jdk_42_method_152_code 10 = .ok (.goto 4, 3) := by decide +kernel
theorem d6_14 : decode jdk_42_method_152_code 14 = .ok (.ireturn, 1) := by decide +kernel
set_option maxRecDepth 65536 in
set_option maxHeartbeats 40000000 in
theorem rm6 (Z : State) (a0 : Array Value) (hw : ∀ d ∈ tables_1, d.before a0 Z = true) (a1 : Addr) (zC : Int32) (h0 : Heap) (n0 : Nat) (S_COMPACT : Sta Z h0 "java/lang/String" "COMPACT_STRINGS" "Z" (.int zC)) (hC : ¬ (zC = (0 : Int32))) (Fc : Fld Z h0 a1 "java/lang/String" "coder" "B" (.int (0 : Int32))) :
    Con Z n0 (⟨"java/lang/String", "coder", "()B"⟩ : MethodName) jdk_42_method_152_code 1 (some .byte) [] ({ frames := 0, cells := 0, slots := 0, locals := 0 } : Room) #[(.ref a1)] h0 (fun v h => v = some (.int (0 : Int32)) ∧ h0 = h) := by
  refine Con.intro (L0 := #[.val (.ref a1)]) (plainFor_of_name (by first | (simp [plainName, overriddenIn]; done) | decide +kernel)) (fun m => by first | (simp [entryFrame, mkF, argsToLocals, Value.category]; done) | rfl) ?_
  intro C k
  replace k := k.getS d6_0 (host := "") (Or.inl (hw _ (List.mem_of_getElem? (i := 26) rfl))) Via.refl S_COMPACT
  replace k := k.ifNo d6_3 (feq hC).1
  replace k := k.aloadN d6_6 rfl rfl
  replace k := k.getF d6_7 (host := "") (Or.inl (hw _ (List.mem_of_getElem? (i := 27) rfl))) Via.refl Fc
  replace k := k.goto (pc' := 14) d6_10 (by decide) (by decide)
  exact k.iret d6_14 rfl (by simp) rfl ⟨rfl, rfl⟩ (by decide) (by decide)

theorem d5_0 : decode jdk_42_method_54_code 0 = .ok (.aload_n 0, 1) := by decide +kernel
theorem d5_1 : decode jdk_42_method_54_code 1 = .ok (.getfield 9, 3) := by decide +kernel
theorem d5_4 : decode jdk_42_method_54_code 4 = .ok (.arraylength, 1) := by decide +kernel
theorem d5_5 : decode jdk_42_method_54_code 5 = .ok (.aload_n 0, 1) := by decide +kernel
theorem d5_6 : decode jdk_42_method_54_code 6 = .ok (.invokevirtual 335, 3) := by decide +kernel
theorem d5_9 : decode jdk_42_method_54_code 9 = .ok (.ishr, 1) := by decide +kernel
theorem d5_10 : decode jdk_42_method_54_code 10 = .ok (.ireturn, 1) := by decide +kernel
set_option maxRecDepth 65536 in
set_option maxHeartbeats 40000000 in
theorem rm5_0 (Z : State) (a0 : Array Value) (hw : ∀ d ∈ tables_1, d.before a0 Z = true) (a1 av : Addr) (zC : Int32) (h0 : Heap) (n0 : Nat) (S_COMPACT : Sta Z h0 "java/lang/String" "COMPACT_STRINGS" "Z" (.int zC)) (hC : ¬ (zC = (0 : Int32))) (Fc : Fld Z h0 a1 "java/lang/String" "coder" "B" (.int (0 : Int32))) (Fv : Fld Z h0 a1 "java/lang/String" "value" "[B" (.ref av)) (Es : Exa Z h0 a1 "java/lang/String") (Av : Arf Z h0 av .byte 0 (own_arr [])) :
    Con Z n0 (⟨"java/lang/String", "length", "()I"⟩ : MethodName) jdk_42_method_54_code 1 (some .int) [] ({ frames := 1, cells := 0, slots := 0, locals := 13 } : Room) #[(.ref a1)] h0 (fun v h => v = some (.int (0 : Int32)) ∧ h0 = h) := by
  refine Con.intro (L0 := #[.val (.ref a1)]) (plainFor_of_name (by first | (simp [plainName, overriddenIn]; done) | decide +kernel)) (fun m => by first | (simp [entryFrame, mkF, argsToLocals, Value.category]; done) | rfl) ?_
  intro C k
  replace k := k.aloadN d5_0 rfl rfl
  replace k := k.getF d5_1 (host := "") (Or.inl (hw _ (List.mem_of_getElem? (i := 29) rfl))) Via.refl Fv
  replace k := k.arrlen d5_4 Av (0 : Int32) (by decide)
  replace k := k.aloadN d5_5 rfl rfl
  obtain ⟨_, _, ⟨rfl, rfl⟩, k⟩ := k.callV (y := (⟨"java/lang/String", "coder", "()B"⟩ : MethodName)) (z := (⟨"java/lang/String", "coder", "()B"⟩ : MethodName)) (a := a1) d5_6 (hw _ (List.mem_of_getElem? (i := 36) rfl)) (hw _ (List.mem_of_getElem? (i := 37) rfl)) (fun s hs => notFace_of_selects (args := #[]) (mvT hs (hw _ (List.mem_of_getElem? (i := 39) rfl)))) (hw _ (List.mem_of_getElem? (i := 39) rfl)) (hw _ (List.mem_of_getElem? (i := 38) rfl)) (hw _ (List.mem_of_getElem? (i := 14) rfl)) (hw _ (List.mem_of_getElem? (i := 40) rfl)) Es (W := 1) (argsL := []) (rest := [(.int (0 : Int32))]) (rm6 Z a0 hw a1 zC h0 n0 S_COMPACT hC Fc) rfl (pd_0) rfl rfl rfl (by decide) (by decide) (by decide) (by decide) (by decide)
  replace k := k.stk [(.int (0 : Int32)), (.int (0 : Int32))] rfl
  replace k := k.ishr d5_9
  replace k := k.foldI (0 : Int32) (by decide)
  exact k.iret d5_10 rfl (by simp) rfl ⟨rfl, rfl⟩ (by decide) (by decide)

theorem d7_0 : decode jdk_43_method_22_code 0 = .ok (.iload_n 1, 1) := by decide +kernel
theorem d7_1 : decode jdk_43_method_22_code 1 = .ok (.invokestatic 88, 3) := by decide +kernel
theorem d7_4 : decode jdk_43_method_22_code 4 = .ok (.ifCond .ne 5, 3) := by decide +kernel
theorem d7_7 : decode jdk_43_method_22_code 7 = .ok (.iconst (-1), 1) := by decide +kernel
theorem d7_8 : decode jdk_43_method_22_code 8 = .ok (.ireturn, 1) := by decide +kernel
theorem d7_9 : decode jdk_43_method_22_code 9 = .ok (.iload_n 2, 1) := by decide +kernel
theorem d7_10 : decode jdk_43_method_22_code 10 = .ok (.iconst 0, 1) := by decide +kernel
theorem d7_11 : decode jdk_43_method_22_code 11 = .ok (.invokestatic 92, 3) := by decide +kernel
theorem d7_14 : decode jdk_43_method_22_code 14 = .ok (.istore_n 2, 1) := by decide +kernel
theorem d7_15 : decode jdk_43_method_22_code 15 = .ok (.iload_n 3, 1) := by decide +kernel
theorem d7_16 : decode jdk_43_method_22_code 16 = .ok (.aload_n 0, 1) := by decide +kernel
theorem d7_17 : decode jdk_43_method_22_code 17 = .ok (.arraylength, 1) := by decide +kernel
theorem d7_18 : decode jdk_43_method_22_code 18 = .ok (.invokestatic 38, 3) := by decide +kernel
theorem d7_21 : decode jdk_43_method_22_code 21 = .ok (.istore_n 3, 1) := by decide +kernel
theorem d7_22 : decode jdk_43_method_22_code 22 = .ok (.iload_n 2, 1) := by decide +kernel
theorem d7_23 : decode jdk_43_method_22_code 23 = .ok (.iload_n 3, 1) := by decide +kernel
theorem d7_24 : decode jdk_43_method_22_code 24 = .ok (.if_icmp .lt 5, 3) := by decide +kernel
theorem d7_27 : decode jdk_43_method_22_code 27 = .ok (.iconst (-1), 1) := by decide +kernel
theorem d7_28 : decode jdk_43_method_22_code 28 = .ok (.ireturn, 1) := by decide +kernel
set_option maxRecDepth 65536 in
set_option maxHeartbeats 40000000 in
theorem rm7_0 (Z : State) (a0 : Array Value) (hw : ∀ d ∈ tables_1, d.before a0 Z = true) (av : Addr) (p2 : Int32) (h0 : Heap) (n0 : Nat) (Av : Arf Z h0 av .byte 0 (own_arr [])) :
    Con Z n0 (⟨"java/lang/StringLatin1", "indexOf", "([BIII)I"⟩ : MethodName) jdk_43_method_22_code 4 (some .int) [] ({ frames := 1, cells := 0, slots := 0, locals := 13 } : Room) #[(.ref av), (.int p2), (.int (0 : Int32)), (.int (0 : Int32))] h0 (fun v h => v = some (.int (own_li0 p2 )) ∧ h0 = h) := by
  refine Con.intro (L0 := #[.val (.ref av), .val (.int p2), .val (.int (0 : Int32)), .val (.int (0 : Int32))]) (plainFor_of_name (by first | (simp [plainName, overriddenIn]; done) | decide +kernel)) (fun m => by first | (simp [entryFrame, mkF, argsToLocals, Value.category]; done) | rfl) ?_
  intro C k
  replace k := k.iloadN d7_0 rfl
  obtain ⟨_, _, ⟨rfl, rfl⟩, k⟩ := k.callS (y := (⟨"java/lang/StringLatin1", "canEncode", "(I)Z"⟩ : MethodName)) d7_1 (hw _ (List.mem_of_getElem? (i := 45) rfl)) (hw _ (List.mem_of_getElem? (i := 46) rfl)) (hw _ (List.mem_of_getElem? (i := 43) rfl)) (hw _ (List.mem_of_getElem? (i := 47) rfl)) (W := 0) (argsL := [(.int p2)]) (rest := []) (rm8 Z a0 hw p2 h0 n0) rfl (pd_1) rfl rfl rfl (by decide) (by decide) (by decide) (by decide) (by decide)
  replace k := k.stk [(.int (own_ce p2))] rfl
  by_cases hc101 : (own_ce p2) = (0 : Int32)
  · skip
    replace k := k.ifNo d7_4 (teq hc101).2
    replace k := k.iconst (-1 : Int32) d7_7 rfl
    exact k.iret d7_8 rfl (by simp) rfl ⟨by rw [own_li0, if_pos hc101], rfl⟩ (by decide) (by decide)
  · skip
    replace k := k.ifYes (pc' := 9) d7_4 (feq hc101).2 (by decide) (by decide)
    replace k := k.iloadN d7_9 rfl
    replace k := k.iconst (0 : Int32) d7_10 rfl
    obtain ⟨_, _, ⟨rfl, rfl⟩, k⟩ := k.callS (y := (⟨"java/lang/Math", "max", "(II)I"⟩ : MethodName)) d7_11 (hw _ (List.mem_of_getElem? (i := 48) rfl)) (hw _ (List.mem_of_getElem? (i := 49) rfl)) (hw _ (List.mem_of_getElem? (i := 50) rfl)) (hw _ (List.mem_of_getElem? (i := 51) rfl)) (W := 0) (argsL := [(.int (0 : Int32)), (.int (0 : Int32))]) (rest := []) (rm9 Z a0 hw (0 : Int32) (0 : Int32) h0 n0) rfl (pd_2) rfl rfl rfl (by decide) (by decide) (by decide) (by decide) (by decide)
    replace k := k.stk [(.int (own_max (0 : Int32) (0 : Int32)))] rfl
    replace k := k.foldI (0 : Int32) (by decide)
    replace k := k.istoreN #[.val (.ref av), .val (.int p2), .val (.int (0 : Int32)), .val (.int (0 : Int32))] d7_14 rfl
    replace k := k.iloadN d7_15 rfl
    replace k := k.aloadN d7_16 rfl rfl
    replace k := k.arrlen d7_17 Av (0 : Int32) (by decide)
    obtain ⟨_, _, ⟨rfl, rfl⟩, k⟩ := k.callS (y := (⟨"java/lang/Math", "min", "(II)I"⟩ : MethodName)) d7_18 (hw _ (List.mem_of_getElem? (i := 52) rfl)) (hw _ (List.mem_of_getElem? (i := 53) rfl)) (hw _ (List.mem_of_getElem? (i := 50) rfl)) (hw _ (List.mem_of_getElem? (i := 54) rfl)) (W := 0) (argsL := [(.int (0 : Int32)), (.int (0 : Int32))]) (rest := []) (rm10 Z a0 hw (0 : Int32) (0 : Int32) h0 n0) rfl (pd_2) rfl rfl rfl (by decide) (by decide) (by decide) (by decide) (by decide)
    replace k := k.stk [(.int (own_min (0 : Int32) (0 : Int32)))] rfl
    replace k := k.foldI (0 : Int32) (by decide)
    replace k := k.istoreN #[.val (.ref av), .val (.int p2), .val (.int (0 : Int32)), .val (.int (0 : Int32))] d7_21 rfl
    replace k := k.iloadN d7_22 rfl
    replace k := k.iloadN d7_23 rfl
    replace k := k.icmpNo d7_24 (by decide)
    replace k := k.iconst (-1 : Int32) d7_27 rfl
    exact k.iret d7_28 rfl (by simp) rfl ⟨by rw [own_li0, if_neg hc101], rfl⟩ (by decide) (by decide)

theorem d3_0 : decode jdk_42_method_80_code 0 = .ok (.aload_n 0, 1) := by decide +kernel
theorem d3_1 : decode jdk_42_method_80_code 1 = .ok (.invokevirtual 492, 3) := by decide +kernel
theorem d3_4 : decode jdk_42_method_80_code 4 = .ok (.ifCond .eq 19, 3) := by decide +kernel
theorem d3_7 : decode jdk_42_method_80_code 7 = .ok (.aload_n 0, 1) := by decide +kernel
theorem d3_8 : decode jdk_42_method_80_code 8 = .ok (.getfield 9, 3) := by decide +kernel
theorem d3_11 : decode jdk_42_method_80_code 11 = .ok (.iload_n 1, 1) := by decide +kernel
theorem d3_12 : decode jdk_42_method_80_code 12 = .ok (.iload_n 2, 1) := by decide +kernel
theorem d3_13 : decode jdk_42_method_80_code 13 = .ok (.aload_n 0, 1) := by decide +kernel
theorem d3_14 : decode jdk_42_method_80_code 14 = .ok (.invokevirtual 505, 3) := by decide +kernel
theorem d3_17 : decode jdk_42_method_80_code 17 = .ok (.invokestatic 637, 3) := by decide +kernel
theorem d3_20 : decode jdk_42_method_80_code 20 = .ok (.goto 16, 3) := by decide +kernel
theorem d3_36 : decode jdk_42_method_80_code 36 = .ok (.ireturn, 1) := by decide +kernel
set_option maxRecDepth 65536 in
set_option maxHeartbeats 40000000 in
theorem rm3_0 (Z : State) (a0 : Array Value) (hw : ∀ d ∈ tables_1, d.before a0 Z = true) (a1 av : Addr) (zC p2 : Int32) (h0 : Heap) (n0 : Nat) (S_COMPACT : Sta Z h0 "java/lang/String" "COMPACT_STRINGS" "Z" (.int zC)) (hC : ¬ (zC = (0 : Int32))) (Fc : Fld Z h0 a1 "java/lang/String" "coder" "B" (.int (0 : Int32))) (Fv : Fld Z h0 a1 "java/lang/String" "value" "[B" (.ref av)) (Es : Exa Z h0 a1 "java/lang/String") (Av : Arf Z h0 av .byte 0 (own_arr [])) :
    Con Z n0 (⟨"java/lang/String", "indexOf", "(II)I"⟩ : MethodName) jdk_42_method_80_code 3 (some .int) [] ({ frames := 2, cells := 0, slots := 0, locals := 28 } : Room) #[(.ref a1), (.int p2), (.int (0 : Int32))] h0 (fun v h => v = some (.int (own_li0 p2 )) ∧ h0 = h) := by
  refine Con.intro (L0 := #[.val (.ref a1), .val (.int p2), .val (.int (0 : Int32))]) (plainFor_of_name (by first | (simp [plainName, overriddenIn]; done) | decide +kernel)) (fun m => by first | (simp [entryFrame, mkF, argsToLocals, Value.category]; done) | rfl) ?_
  intro C k
  replace k := k.aloadN d3_0 rfl rfl
  obtain ⟨_, _, ⟨rfl, rfl⟩, k⟩ := k.callV (y := (⟨"java/lang/String", "isLatin1", "()Z"⟩ : MethodName)) (z := (⟨"java/lang/String", "isLatin1", "()Z"⟩ : MethodName)) (a := a1) d3_1 (hw _ (List.mem_of_getElem? (i := 21) rfl)) (hw _ (List.mem_of_getElem? (i := 22) rfl)) (fun s hs => notFace_of_selects (args := #[]) (mvT hs (hw _ (List.mem_of_getElem? (i := 24) rfl)))) (hw _ (List.mem_of_getElem? (i := 24) rfl)) (hw _ (List.mem_of_getElem? (i := 23) rfl)) (hw _ (List.mem_of_getElem? (i := 14) rfl)) (hw _ (List.mem_of_getElem? (i := 25) rfl)) Es (W := 0) (argsL := []) (rest := []) (rm4 Z a0 hw a1 zC h0 n0 S_COMPACT hC Fc) rfl (pd_3) rfl rfl rfl (by decide) (by decide) (by decide) (by decide) (by decide)
  replace k := k.stk [(.int (1 : Int32))] rfl
  replace k := k.ifNo d3_4 (by decide)
  replace k := k.aloadN d3_7 rfl rfl
  replace k := k.getF d3_8 (host := "") (Or.inl (hw _ (List.mem_of_getElem? (i := 29) rfl))) Via.refl Fv
  replace k := k.iloadN d3_11 rfl
  replace k := k.iloadN d3_12 rfl
  replace k := k.aloadN d3_13 rfl rfl
  obtain ⟨_, _, ⟨rfl, rfl⟩, k⟩ := k.callV (y := (⟨"java/lang/String", "length", "()I"⟩ : MethodName)) (z := (⟨"java/lang/String", "length", "()I"⟩ : MethodName)) (a := a1) d3_14 (hw _ (List.mem_of_getElem? (i := 31) rfl)) (hw _ (List.mem_of_getElem? (i := 32) rfl)) (fun s hs => notFace_of_selects (args := #[]) (mvT hs (hw _ (List.mem_of_getElem? (i := 34) rfl)))) (hw _ (List.mem_of_getElem? (i := 34) rfl)) (hw _ (List.mem_of_getElem? (i := 33) rfl)) (hw _ (List.mem_of_getElem? (i := 14) rfl)) (hw _ (List.mem_of_getElem? (i := 35) rfl)) Es (W := 3) (argsL := []) (rest := [(.int (0 : Int32)), (.int p2), (.ref av)]) (rm5_0 Z a0 hw a1 av zC  h0 n0 S_COMPACT hC Fc Fv Es Av) rfl (pd_4) rfl rfl rfl (by decide) (by decide) (by decide) (by decide) (by decide)
  replace k := k.stk [(.int (0 : Int32)), (.int (0 : Int32)), (.int p2), (.ref av)] rfl
  obtain ⟨_, _, ⟨rfl, rfl⟩, k⟩ := k.callS (y := (⟨"java/lang/StringLatin1", "indexOf", "([BIII)I"⟩ : MethodName)) d3_17 (hw _ (List.mem_of_getElem? (i := 41) rfl)) (hw _ (List.mem_of_getElem? (i := 42) rfl)) (hw _ (List.mem_of_getElem? (i := 43) rfl)) (hw _ (List.mem_of_getElem? (i := 44) rfl)) (W := 0) (argsL := [(.ref av), (.int p2), (.int (0 : Int32)), (.int (0 : Int32))]) (rest := []) (rm7_0 Z a0 hw av p2  h0 n0 Av) rfl (pd_5) rfl rfl rfl (by decide) (by decide) (by decide) (by decide) (by decide)
  replace k := k.stk [(.int (own_li0 p2 ))] rfl
  replace k := k.goto (pc' := 36) d3_20 (by decide) (by decide)
  exact k.iret d3_36 rfl (by simp) rfl ⟨rfl, rfl⟩ (by decide) (by decide)

theorem d2_0 : decode jdk_42_method_79_code 0 = .ok (.aload_n 0, 1) := by decide +kernel
theorem d2_1 : decode jdk_42_method_79_code 1 = .ok (.iload_n 1, 1) := by decide +kernel
theorem d2_2 : decode jdk_42_method_79_code 2 = .ok (.iconst 0, 1) := by decide +kernel
theorem d2_3 : decode jdk_42_method_79_code 3 = .ok (.invokevirtual 633, 3) := by decide +kernel
theorem d2_6 : decode jdk_42_method_79_code 6 = .ok (.ireturn, 1) := by decide +kernel
set_option maxRecDepth 65536 in
set_option maxHeartbeats 40000000 in
theorem rm2_0 (Z : State) (a0 : Array Value) (hw : ∀ d ∈ tables_1, d.before a0 Z = true) (a1 av : Addr) (zC p2 : Int32) (h0 : Heap) (n0 : Nat) (S_COMPACT : Sta Z h0 "java/lang/String" "COMPACT_STRINGS" "Z" (.int zC)) (hC : ¬ (zC = (0 : Int32))) (Fc : Fld Z h0 a1 "java/lang/String" "coder" "B" (.int (0 : Int32))) (Fv : Fld Z h0 a1 "java/lang/String" "value" "[B" (.ref av)) (Es : Exa Z h0 a1 "java/lang/String") (Av : Arf Z h0 av .byte 0 (own_arr [])) :
    Con Z n0 (⟨"java/lang/String", "indexOf", "(I)I"⟩ : MethodName) jdk_42_method_79_code 2 (some .int) [] ({ frames := 3, cells := 0, slots := 0, locals := 42 } : Room) #[(.ref a1), (.int p2)] h0 (fun v h => v = some (.int (own_li0 p2 )) ∧ h0 = h) := by
  refine Con.intro (L0 := #[.val (.ref a1), .val (.int p2)]) (plainFor_of_name (by first | (simp [plainName, overriddenIn]; done) | decide +kernel)) (fun m => by first | (simp [entryFrame, mkF, argsToLocals, Value.category]; done) | rfl) ?_
  intro C k
  replace k := k.aloadN d2_0 rfl rfl
  replace k := k.iloadN d2_1 rfl
  replace k := k.iconst (0 : Int32) d2_2 rfl
  obtain ⟨_, _, ⟨rfl, rfl⟩, k⟩ := k.callV (y := (⟨"java/lang/String", "indexOf", "(II)I"⟩ : MethodName)) (z := (⟨"java/lang/String", "indexOf", "(II)I"⟩ : MethodName)) (a := a1) d2_3 (hw _ (List.mem_of_getElem? (i := 16) rfl)) (hw _ (List.mem_of_getElem? (i := 17) rfl)) (fun s hs => notFace_of_selects (args := #[]) (mvT hs (hw _ (List.mem_of_getElem? (i := 19) rfl)))) (hw _ (List.mem_of_getElem? (i := 19) rfl)) (hw _ (List.mem_of_getElem? (i := 18) rfl)) (hw _ (List.mem_of_getElem? (i := 14) rfl)) (hw _ (List.mem_of_getElem? (i := 20) rfl)) Es (W := 0) (argsL := [(.int p2), (.int (0 : Int32))]) (rest := []) (rm3_0 Z a0 hw a1 av zC p2  h0 n0 S_COMPACT hC Fc Fv Es Av) rfl (pd_2) rfl rfl rfl (by decide) (by decide) (by decide) (by decide) (by decide)
  replace k := k.stk [(.int (own_li0 p2 ))] rfl
  exact k.iret d2_6 rfl (by simp) rfl ⟨rfl, rfl⟩ (by decide) (by decide)

set_option maxRecDepth 65536 in
set_option maxHeartbeats 40000000 in
theorem rm5_1 (Z : State) (a0 : Array Value) (hw : ∀ d ∈ tables_1, d.before a0 Z = true) (a1 av : Addr) (zC : Int32) (c0 : Int32) (h0 : Heap) (n0 : Nat) (S_COMPACT : Sta Z h0 "java/lang/String" "COMPACT_STRINGS" "Z" (.int zC)) (hC : ¬ (zC = (0 : Int32))) (Fc : Fld Z h0 a1 "java/lang/String" "coder" "B" (.int (0 : Int32))) (Fv : Fld Z h0 a1 "java/lang/String" "value" "[B" (.ref av)) (Es : Exa Z h0 a1 "java/lang/String") (Av : Arf Z h0 av .byte 1 (own_arr [c0])) :
    Con Z n0 (⟨"java/lang/String", "length", "()I"⟩ : MethodName) jdk_42_method_54_code 1 (some .int) [] ({ frames := 1, cells := 0, slots := 0, locals := 13 } : Room) #[(.ref a1)] h0 (fun v h => v = some (.int (1 : Int32)) ∧ h0 = h) := by
  refine Con.intro (L0 := #[.val (.ref a1)]) (plainFor_of_name (by first | (simp [plainName, overriddenIn]; done) | decide +kernel)) (fun m => by first | (simp [entryFrame, mkF, argsToLocals, Value.category]; done) | rfl) ?_
  intro C k
  replace k := k.aloadN d5_0 rfl rfl
  replace k := k.getF d5_1 (host := "") (Or.inl (hw _ (List.mem_of_getElem? (i := 29) rfl))) Via.refl Fv
  replace k := k.arrlen d5_4 Av (1 : Int32) (by decide)
  replace k := k.aloadN d5_5 rfl rfl
  obtain ⟨_, _, ⟨rfl, rfl⟩, k⟩ := k.callV (y := (⟨"java/lang/String", "coder", "()B"⟩ : MethodName)) (z := (⟨"java/lang/String", "coder", "()B"⟩ : MethodName)) (a := a1) d5_6 (hw _ (List.mem_of_getElem? (i := 36) rfl)) (hw _ (List.mem_of_getElem? (i := 37) rfl)) (fun s hs => notFace_of_selects (args := #[]) (mvT hs (hw _ (List.mem_of_getElem? (i := 39) rfl)))) (hw _ (List.mem_of_getElem? (i := 39) rfl)) (hw _ (List.mem_of_getElem? (i := 38) rfl)) (hw _ (List.mem_of_getElem? (i := 14) rfl)) (hw _ (List.mem_of_getElem? (i := 40) rfl)) Es (W := 1) (argsL := []) (rest := [(.int (1 : Int32))]) (rm6 Z a0 hw a1 zC h0 n0 S_COMPACT hC Fc) rfl (pd_0) rfl rfl rfl (by decide) (by decide) (by decide) (by decide) (by decide)
  replace k := k.stk [(.int (0 : Int32)), (.int (1 : Int32))] rfl
  replace k := k.ishr d5_9
  replace k := k.foldI (1 : Int32) (by decide)
  exact k.iret d5_10 rfl (by simp) rfl ⟨rfl, rfl⟩ (by decide) (by decide)

theorem d11_0 : decode jdk_43_method_23_code 0 = .ok (.iload_n 1, 1) := by decide +kernel
theorem d11_1 : decode jdk_43_method_23_code 1 = .ok (.i2b, 1) := by decide +kernel
theorem d11_2 : decode jdk_43_method_23_code 2 = .ok (.istore 4, 2) := by decide +kernel
theorem d11_4 : decode jdk_43_method_23_code 4 = .ok (.iload_n 2, 1) := by decide +kernel
theorem d11_5 : decode jdk_43_method_23_code 5 = .ok (.istore 5, 2) := by decide +kernel
theorem d11_7 : decode jdk_43_method_23_code 7 = .ok (.iload 5, 2) := by decide +kernel
theorem d11_9 : decode jdk_43_method_23_code 9 = .ok (.iload_n 3, 1) := by decide +kernel
theorem d11_10 : decode jdk_43_method_23_code 10 = .ok (.if_icmp .ge 21, 3) := by decide +kernel
theorem d11_13 : decode jdk_43_method_23_code 13 = .ok (.aload_n 0, 1) := by decide +kernel
theorem d11_14 : decode jdk_43_method_23_code 14 = .ok (.iload 5, 2) := by decide +kernel
theorem d11_16 : decode jdk_43_method_23_code 16 = .ok (.baload, 1) := by decide +kernel
theorem d11_17 : decode jdk_43_method_23_code 17 = .ok (.iload 4, 2) := by decide +kernel
theorem d11_19 : decode jdk_43_method_23_code 19 = .ok (.if_icmp .ne 6, 3) := by decide +kernel
theorem d11_22 : decode jdk_43_method_23_code 22 = .ok (.iload 5, 2) := by decide +kernel
theorem d11_24 : decode jdk_43_method_23_code 24 = .ok (.ireturn, 1) := by decide +kernel
theorem d11_25 : decode jdk_43_method_23_code 25 = .ok (.iinc 5 1, 3) := by decide +kernel
theorem d11_28 : decode jdk_43_method_23_code 28 = .ok (.goto (-21), 3) := by decide +kernel
theorem d11_31 : decode jdk_43_method_23_code 31 = .ok (.iconst (-1), 1) := by decide +kernel
theorem d11_32 : decode jdk_43_method_23_code 32 = .ok (.ireturn, 1) := by decide +kernel
set_option maxRecDepth 65536 in
set_option maxHeartbeats 40000000 in
theorem rm11_1 (Z : State) (a0 : Array Value) (hw : ∀ d ∈ tables_1, d.before a0 Z = true) (av : Addr) (p2 : Int32) (c0 : Int32) (h0 : Heap) (n0 : Nat) (Av : Arf Z h0 av .byte 1 (own_arr [c0])) :
    Con Z n0 (⟨"java/lang/StringLatin1", "indexOfChar", "([BIII)I"⟩ : MethodName) jdk_43_method_23_code 6 (some .int) [] ({ frames := 0, cells := 0, slots := 0, locals := 0 } : Room) #[(.ref av), (.int p2), (.int (0 : Int32)), (.int (1 : Int32))] h0 (fun v h => v = some (.int (own_ioc1 p2 c0)) ∧ h0 = h) := by
  refine Con.intro (L0 := #[.val (.ref av), .val (.int p2), .val (.int (0 : Int32)), .val (.int (1 : Int32)), .unset, .unset]) (plainFor_of_name (by first | (simp [plainName, overriddenIn]; done) | decide +kernel)) (fun m => by first | (simp [entryFrame, mkF, argsToLocals, Value.category]; done) | rfl) ?_
  intro C k
  replace k := k.iloadN d11_0 rfl
  replace k := k.i2b d11_1
  replace k := k.istore #[.val (.ref av), .val (.int p2), .val (.int (0 : Int32)), .val (.int (1 : Int32)), .val (.int (p2.toInt8.toInt32)), .unset] d11_2 rfl
  replace k := k.iloadN d11_4 rfl
  replace k := k.istore #[.val (.ref av), .val (.int p2), .val (.int (0 : Int32)), .val (.int (1 : Int32)), .val (.int (p2.toInt8.toInt32)), .val (.int (0 : Int32))] d11_5 rfl
  replace k := k.iload d11_7 rfl
  replace k := k.iloadN d11_9 rfl
  replace k := k.icmpNo d11_10 (by decide)
  replace k := k.aloadN d11_13 rfl rfl
  replace k := k.iload d11_14 rfl
  replace k := k.baload d11_16 Av  0 (by decide) (by decide) (by decide) (.int c0) rfl
  replace k := k.iload d11_17 rfl
  by_cases hc101 : c0 = (p2.toInt8.toInt32)
  · skip
    replace k := k.icmpNo d11_19 (teq hc101).2
    replace k := k.iload d11_22 rfl
    exact k.iret d11_24 rfl (by simp) rfl ⟨by rw [own_ioc1, if_pos hc101], rfl⟩ (by decide) (by decide)
  · skip
    replace k := k.icmpYes (pc' := 25) d11_19 (feq hc101).2 (by decide) (by decide)
    replace k := k.iinc (1 : Int32) #[.val (.ref av), .val (.int p2), .val (.int (0 : Int32)), .val (.int (1 : Int32)), .val (.int (p2.toInt8.toInt32)), .val (.int ((0 : Int32) + (1 : Int32)))] d11_25 rfl rfl rfl
    replace k := k.loc #[.val (.ref av), .val (.int p2), .val (.int (0 : Int32)), .val (.int (1 : Int32)), .val (.int (p2.toInt8.toInt32)), .val (.int (1 : Int32))] (by rfl)
    replace k := k.goto (pc' := 7) d11_28 (by decide) (by decide)
    replace k := k.iload d11_7 rfl
    replace k := k.iloadN d11_9 rfl
    replace k := k.icmpYes (pc' := 31) d11_10 (by decide) (by decide) (by decide)
    replace k := k.iconst (-1 : Int32) d11_31 rfl
    exact k.iret d11_32 rfl (by simp) rfl ⟨by rw [own_ioc1, if_neg hc101], rfl⟩ (by decide) (by decide)

theorem d7_29 : decode jdk_43_method_22_code 29 = .ok (.aload_n 0, 1) := by decide +kernel
theorem d7_30 : decode jdk_43_method_22_code 30 = .ok (.iload_n 1, 1) := by decide +kernel
theorem d7_31 : decode jdk_43_method_22_code 31 = .ok (.iload_n 2, 1) := by decide +kernel
theorem d7_32 : decode jdk_43_method_22_code 32 = .ok (.iload_n 3, 1) := by decide +kernel
theorem d7_33 : decode jdk_43_method_22_code 33 = .ok (.invokestatic 95, 3) := by decide +kernel
theorem d7_36 : decode jdk_43_method_22_code 36 = .ok (.ireturn, 1) := by decide +kernel
set_option maxRecDepth 65536 in
set_option maxHeartbeats 40000000 in
theorem rm7_1 (Z : State) (a0 : Array Value) (hw : ∀ d ∈ tables_1, d.before a0 Z = true) (av : Addr) (p2 : Int32) (c0 : Int32) (h0 : Heap) (n0 : Nat) (Av : Arf Z h0 av .byte 1 (own_arr [c0])) :
    Con Z n0 (⟨"java/lang/StringLatin1", "indexOf", "([BIII)I"⟩ : MethodName) jdk_43_method_22_code 4 (some .int) [] ({ frames := 1, cells := 0, slots := 0, locals := 17 } : Room) #[(.ref av), (.int p2), (.int (0 : Int32)), (.int (1 : Int32))] h0 (fun v h => v = some (.int (own_li1 p2 c0)) ∧ h0 = h) := by
  refine Con.intro (L0 := #[.val (.ref av), .val (.int p2), .val (.int (0 : Int32)), .val (.int (1 : Int32))]) (plainFor_of_name (by first | (simp [plainName, overriddenIn]; done) | decide +kernel)) (fun m => by first | (simp [entryFrame, mkF, argsToLocals, Value.category]; done) | rfl) ?_
  intro C k
  replace k := k.iloadN d7_0 rfl
  obtain ⟨_, _, ⟨rfl, rfl⟩, k⟩ := k.callS (y := (⟨"java/lang/StringLatin1", "canEncode", "(I)Z"⟩ : MethodName)) d7_1 (hw _ (List.mem_of_getElem? (i := 45) rfl)) (hw _ (List.mem_of_getElem? (i := 46) rfl)) (hw _ (List.mem_of_getElem? (i := 43) rfl)) (hw _ (List.mem_of_getElem? (i := 47) rfl)) (W := 0) (argsL := [(.int p2)]) (rest := []) (rm8 Z a0 hw p2 h0 n0) rfl (pd_1) rfl rfl rfl (by decide) (by decide) (by decide) (by decide) (by decide)
  replace k := k.stk [(.int (own_ce p2))] rfl
  by_cases hc101 : (own_ce p2) = (0 : Int32)
  · skip
    replace k := k.ifNo d7_4 (teq hc101).2
    replace k := k.iconst (-1 : Int32) d7_7 rfl
    exact k.iret d7_8 rfl (by simp) rfl ⟨by rw [own_li1, if_pos hc101], rfl⟩ (by decide) (by decide)
  · skip
    replace k := k.ifYes (pc' := 9) d7_4 (feq hc101).2 (by decide) (by decide)
    replace k := k.iloadN d7_9 rfl
    replace k := k.iconst (0 : Int32) d7_10 rfl
    obtain ⟨_, _, ⟨rfl, rfl⟩, k⟩ := k.callS (y := (⟨"java/lang/Math", "max", "(II)I"⟩ : MethodName)) d7_11 (hw _ (List.mem_of_getElem? (i := 48) rfl)) (hw _ (List.mem_of_getElem? (i := 49) rfl)) (hw _ (List.mem_of_getElem? (i := 50) rfl)) (hw _ (List.mem_of_getElem? (i := 51) rfl)) (W := 0) (argsL := [(.int (0 : Int32)), (.int (0 : Int32))]) (rest := []) (rm9 Z a0 hw (0 : Int32) (0 : Int32) h0 n0) rfl (pd_2) rfl rfl rfl (by decide) (by decide) (by decide) (by decide) (by decide)
    replace k := k.stk [(.int (own_max (0 : Int32) (0 : Int32)))] rfl
    replace k := k.foldI (0 : Int32) (by decide)
    replace k := k.istoreN #[.val (.ref av), .val (.int p2), .val (.int (0 : Int32)), .val (.int (1 : Int32))] d7_14 rfl
    replace k := k.iloadN d7_15 rfl
    replace k := k.aloadN d7_16 rfl rfl
    replace k := k.arrlen d7_17 Av (1 : Int32) (by decide)
    obtain ⟨_, _, ⟨rfl, rfl⟩, k⟩ := k.callS (y := (⟨"java/lang/Math", "min", "(II)I"⟩ : MethodName)) d7_18 (hw _ (List.mem_of_getElem? (i := 52) rfl)) (hw _ (List.mem_of_getElem? (i := 53) rfl)) (hw _ (List.mem_of_getElem? (i := 50) rfl)) (hw _ (List.mem_of_getElem? (i := 54) rfl)) (W := 0) (argsL := [(.int (1 : Int32)), (.int (1 : Int32))]) (rest := []) (rm10 Z a0 hw (1 : Int32) (1 : Int32) h0 n0) rfl (pd_2) rfl rfl rfl (by decide) (by decide) (by decide) (by decide) (by decide)
    replace k := k.stk [(.int (own_min (1 : Int32) (1 : Int32)))] rfl
    replace k := k.foldI (1 : Int32) (by decide)
    replace k := k.istoreN #[.val (.ref av), .val (.int p2), .val (.int (0 : Int32)), .val (.int (1 : Int32))] d7_21 rfl
    replace k := k.iloadN d7_22 rfl
    replace k := k.iloadN d7_23 rfl
    replace k := k.icmpYes (pc' := 29) d7_24 (by decide) (by decide) (by decide)
    replace k := k.aloadN d7_29 rfl rfl
    replace k := k.iloadN d7_30 rfl
    replace k := k.iloadN d7_31 rfl
    replace k := k.iloadN d7_32 rfl
    obtain ⟨_, _, ⟨rfl, rfl⟩, k⟩ := k.callS (y := (⟨"java/lang/StringLatin1", "indexOfChar", "([BIII)I"⟩ : MethodName)) d7_33 (hw _ (List.mem_of_getElem? (i := 56) rfl)) (hw _ (List.mem_of_getElem? (i := 57) rfl)) (hw _ (List.mem_of_getElem? (i := 43) rfl)) (hw _ (List.mem_of_getElem? (i := 58) rfl)) (W := 0) (argsL := [(.ref av), (.int p2), (.int (0 : Int32)), (.int (1 : Int32))]) (rest := []) (rm11_1 Z a0 hw av p2 c0 h0 n0 Av) rfl (pd_5) rfl rfl rfl (by decide) (by decide) (by decide) (by decide) (by decide)
    replace k := k.stk [(.int (own_ioc1 p2 c0))] rfl
    exact k.iret d7_36 rfl (by simp) rfl ⟨by rw [own_li1, if_neg hc101], rfl⟩ (by decide) (by decide)

set_option maxRecDepth 65536 in
set_option maxHeartbeats 40000000 in
theorem rm3_1 (Z : State) (a0 : Array Value) (hw : ∀ d ∈ tables_1, d.before a0 Z = true) (a1 av : Addr) (zC p2 : Int32) (c0 : Int32) (h0 : Heap) (n0 : Nat) (S_COMPACT : Sta Z h0 "java/lang/String" "COMPACT_STRINGS" "Z" (.int zC)) (hC : ¬ (zC = (0 : Int32))) (Fc : Fld Z h0 a1 "java/lang/String" "coder" "B" (.int (0 : Int32))) (Fv : Fld Z h0 a1 "java/lang/String" "value" "[B" (.ref av)) (Es : Exa Z h0 a1 "java/lang/String") (Av : Arf Z h0 av .byte 1 (own_arr [c0])) :
    Con Z n0 (⟨"java/lang/String", "indexOf", "(II)I"⟩ : MethodName) jdk_42_method_80_code 3 (some .int) [] ({ frames := 2, cells := 0, slots := 0, locals := 32 } : Room) #[(.ref a1), (.int p2), (.int (0 : Int32))] h0 (fun v h => v = some (.int (own_li1 p2 c0)) ∧ h0 = h) := by
  refine Con.intro (L0 := #[.val (.ref a1), .val (.int p2), .val (.int (0 : Int32))]) (plainFor_of_name (by first | (simp [plainName, overriddenIn]; done) | decide +kernel)) (fun m => by first | (simp [entryFrame, mkF, argsToLocals, Value.category]; done) | rfl) ?_
  intro C k
  replace k := k.aloadN d3_0 rfl rfl
  obtain ⟨_, _, ⟨rfl, rfl⟩, k⟩ := k.callV (y := (⟨"java/lang/String", "isLatin1", "()Z"⟩ : MethodName)) (z := (⟨"java/lang/String", "isLatin1", "()Z"⟩ : MethodName)) (a := a1) d3_1 (hw _ (List.mem_of_getElem? (i := 21) rfl)) (hw _ (List.mem_of_getElem? (i := 22) rfl)) (fun s hs => notFace_of_selects (args := #[]) (mvT hs (hw _ (List.mem_of_getElem? (i := 24) rfl)))) (hw _ (List.mem_of_getElem? (i := 24) rfl)) (hw _ (List.mem_of_getElem? (i := 23) rfl)) (hw _ (List.mem_of_getElem? (i := 14) rfl)) (hw _ (List.mem_of_getElem? (i := 25) rfl)) Es (W := 0) (argsL := []) (rest := []) (rm4 Z a0 hw a1 zC h0 n0 S_COMPACT hC Fc) rfl (pd_3) rfl rfl rfl (by decide) (by decide) (by decide) (by decide) (by decide)
  replace k := k.stk [(.int (1 : Int32))] rfl
  replace k := k.ifNo d3_4 (by decide)
  replace k := k.aloadN d3_7 rfl rfl
  replace k := k.getF d3_8 (host := "") (Or.inl (hw _ (List.mem_of_getElem? (i := 29) rfl))) Via.refl Fv
  replace k := k.iloadN d3_11 rfl
  replace k := k.iloadN d3_12 rfl
  replace k := k.aloadN d3_13 rfl rfl
  obtain ⟨_, _, ⟨rfl, rfl⟩, k⟩ := k.callV (y := (⟨"java/lang/String", "length", "()I"⟩ : MethodName)) (z := (⟨"java/lang/String", "length", "()I"⟩ : MethodName)) (a := a1) d3_14 (hw _ (List.mem_of_getElem? (i := 31) rfl)) (hw _ (List.mem_of_getElem? (i := 32) rfl)) (fun s hs => notFace_of_selects (args := #[]) (mvT hs (hw _ (List.mem_of_getElem? (i := 34) rfl)))) (hw _ (List.mem_of_getElem? (i := 34) rfl)) (hw _ (List.mem_of_getElem? (i := 33) rfl)) (hw _ (List.mem_of_getElem? (i := 14) rfl)) (hw _ (List.mem_of_getElem? (i := 35) rfl)) Es (W := 3) (argsL := []) (rest := [(.int (0 : Int32)), (.int p2), (.ref av)]) (rm5_1 Z a0 hw a1 av zC c0 h0 n0 S_COMPACT hC Fc Fv Es Av) rfl (pd_4) rfl rfl rfl (by decide) (by decide) (by decide) (by decide) (by decide)
  replace k := k.stk [(.int (1 : Int32)), (.int (0 : Int32)), (.int p2), (.ref av)] rfl
  obtain ⟨_, _, ⟨rfl, rfl⟩, k⟩ := k.callS (y := (⟨"java/lang/StringLatin1", "indexOf", "([BIII)I"⟩ : MethodName)) d3_17 (hw _ (List.mem_of_getElem? (i := 41) rfl)) (hw _ (List.mem_of_getElem? (i := 42) rfl)) (hw _ (List.mem_of_getElem? (i := 43) rfl)) (hw _ (List.mem_of_getElem? (i := 44) rfl)) (W := 0) (argsL := [(.ref av), (.int p2), (.int (0 : Int32)), (.int (1 : Int32))]) (rest := []) (rm7_1 Z a0 hw av p2 c0 h0 n0 Av) rfl (pd_5) rfl rfl rfl (by decide) (by decide) (by decide) (by decide) (by decide)
  replace k := k.stk [(.int (own_li1 p2 c0))] rfl
  replace k := k.goto (pc' := 36) d3_20 (by decide) (by decide)
  exact k.iret d3_36 rfl (by simp) rfl ⟨rfl, rfl⟩ (by decide) (by decide)

set_option maxRecDepth 65536 in
set_option maxHeartbeats 40000000 in
theorem rm2_1 (Z : State) (a0 : Array Value) (hw : ∀ d ∈ tables_1, d.before a0 Z = true) (a1 av : Addr) (zC p2 : Int32) (c0 : Int32) (h0 : Heap) (n0 : Nat) (S_COMPACT : Sta Z h0 "java/lang/String" "COMPACT_STRINGS" "Z" (.int zC)) (hC : ¬ (zC = (0 : Int32))) (Fc : Fld Z h0 a1 "java/lang/String" "coder" "B" (.int (0 : Int32))) (Fv : Fld Z h0 a1 "java/lang/String" "value" "[B" (.ref av)) (Es : Exa Z h0 a1 "java/lang/String") (Av : Arf Z h0 av .byte 1 (own_arr [c0])) :
    Con Z n0 (⟨"java/lang/String", "indexOf", "(I)I"⟩ : MethodName) jdk_42_method_79_code 2 (some .int) [] ({ frames := 3, cells := 0, slots := 0, locals := 46 } : Room) #[(.ref a1), (.int p2)] h0 (fun v h => v = some (.int (own_li1 p2 c0)) ∧ h0 = h) := by
  refine Con.intro (L0 := #[.val (.ref a1), .val (.int p2)]) (plainFor_of_name (by first | (simp [plainName, overriddenIn]; done) | decide +kernel)) (fun m => by first | (simp [entryFrame, mkF, argsToLocals, Value.category]; done) | rfl) ?_
  intro C k
  replace k := k.aloadN d2_0 rfl rfl
  replace k := k.iloadN d2_1 rfl
  replace k := k.iconst (0 : Int32) d2_2 rfl
  obtain ⟨_, _, ⟨rfl, rfl⟩, k⟩ := k.callV (y := (⟨"java/lang/String", "indexOf", "(II)I"⟩ : MethodName)) (z := (⟨"java/lang/String", "indexOf", "(II)I"⟩ : MethodName)) (a := a1) d2_3 (hw _ (List.mem_of_getElem? (i := 16) rfl)) (hw _ (List.mem_of_getElem? (i := 17) rfl)) (fun s hs => notFace_of_selects (args := #[]) (mvT hs (hw _ (List.mem_of_getElem? (i := 19) rfl)))) (hw _ (List.mem_of_getElem? (i := 19) rfl)) (hw _ (List.mem_of_getElem? (i := 18) rfl)) (hw _ (List.mem_of_getElem? (i := 14) rfl)) (hw _ (List.mem_of_getElem? (i := 20) rfl)) Es (W := 0) (argsL := [(.int p2), (.int (0 : Int32))]) (rest := []) (rm3_1 Z a0 hw a1 av zC p2 c0 h0 n0 S_COMPACT hC Fc Fv Es Av) rfl (pd_2) rfl rfl rfl (by decide) (by decide) (by decide) (by decide) (by decide)
  replace k := k.stk [(.int (own_li1 p2 c0))] rfl
  exact k.iret d2_6 rfl (by simp) rfl ⟨rfl, rfl⟩ (by decide) (by decide)

set_option maxRecDepth 65536 in
set_option maxHeartbeats 40000000 in
theorem rm5_4 (Z : State) (a0 : Array Value) (hw : ∀ d ∈ tables_1, d.before a0 Z = true) (a1 av : Addr) (zC : Int32) (c0 c1 c2 c3 : Int32) (h0 : Heap) (n0 : Nat) (S_COMPACT : Sta Z h0 "java/lang/String" "COMPACT_STRINGS" "Z" (.int zC)) (hC : ¬ (zC = (0 : Int32))) (Fc : Fld Z h0 a1 "java/lang/String" "coder" "B" (.int (0 : Int32))) (Fv : Fld Z h0 a1 "java/lang/String" "value" "[B" (.ref av)) (Es : Exa Z h0 a1 "java/lang/String") (Av : Arf Z h0 av .byte 4 (own_arr [c0, c1, c2, c3])) :
    Con Z n0 (⟨"java/lang/String", "length", "()I"⟩ : MethodName) jdk_42_method_54_code 1 (some .int) [] ({ frames := 1, cells := 0, slots := 0, locals := 13 } : Room) #[(.ref a1)] h0 (fun v h => v = some (.int (4 : Int32)) ∧ h0 = h) := by
  refine Con.intro (L0 := #[.val (.ref a1)]) (plainFor_of_name (by first | (simp [plainName, overriddenIn]; done) | decide +kernel)) (fun m => by first | (simp [entryFrame, mkF, argsToLocals, Value.category]; done) | rfl) ?_
  intro C k
  replace k := k.aloadN d5_0 rfl rfl
  replace k := k.getF d5_1 (host := "") (Or.inl (hw _ (List.mem_of_getElem? (i := 29) rfl))) Via.refl Fv
  replace k := k.arrlen d5_4 Av (4 : Int32) (by decide)
  replace k := k.aloadN d5_5 rfl rfl
  obtain ⟨_, _, ⟨rfl, rfl⟩, k⟩ := k.callV (y := (⟨"java/lang/String", "coder", "()B"⟩ : MethodName)) (z := (⟨"java/lang/String", "coder", "()B"⟩ : MethodName)) (a := a1) d5_6 (hw _ (List.mem_of_getElem? (i := 36) rfl)) (hw _ (List.mem_of_getElem? (i := 37) rfl)) (fun s hs => notFace_of_selects (args := #[]) (mvT hs (hw _ (List.mem_of_getElem? (i := 39) rfl)))) (hw _ (List.mem_of_getElem? (i := 39) rfl)) (hw _ (List.mem_of_getElem? (i := 38) rfl)) (hw _ (List.mem_of_getElem? (i := 14) rfl)) (hw _ (List.mem_of_getElem? (i := 40) rfl)) Es (W := 1) (argsL := []) (rest := [(.int (4 : Int32))]) (rm6 Z a0 hw a1 zC h0 n0 S_COMPACT hC Fc) rfl (pd_0) rfl rfl rfl (by decide) (by decide) (by decide) (by decide) (by decide)
  replace k := k.stk [(.int (0 : Int32)), (.int (4 : Int32))] rfl
  replace k := k.ishr d5_9
  replace k := k.foldI (4 : Int32) (by decide)
  exact k.iret d5_10 rfl (by simp) rfl ⟨rfl, rfl⟩ (by decide) (by decide)

set_option maxRecDepth 65536 in
set_option maxHeartbeats 40000000 in
theorem rm11_4 (Z : State) (a0 : Array Value) (hw : ∀ d ∈ tables_1, d.before a0 Z = true) (av : Addr) (p2 : Int32) (c0 c1 c2 c3 : Int32) (h0 : Heap) (n0 : Nat) (Av : Arf Z h0 av .byte 4 (own_arr [c0, c1, c2, c3])) :
    Con Z n0 (⟨"java/lang/StringLatin1", "indexOfChar", "([BIII)I"⟩ : MethodName) jdk_43_method_23_code 6 (some .int) [] ({ frames := 0, cells := 0, slots := 0, locals := 0 } : Room) #[(.ref av), (.int p2), (.int (0 : Int32)), (.int (4 : Int32))] h0 (fun v h => v = some (.int (own_ioc4 p2 c0 c1 c2 c3)) ∧ h0 = h) := by
  refine Con.intro (L0 := #[.val (.ref av), .val (.int p2), .val (.int (0 : Int32)), .val (.int (4 : Int32)), .unset, .unset]) (plainFor_of_name (by first | (simp [plainName, overriddenIn]; done) | decide +kernel)) (fun m => by first | (simp [entryFrame, mkF, argsToLocals, Value.category]; done) | rfl) ?_
  intro C k
  replace k := k.iloadN d11_0 rfl
  replace k := k.i2b d11_1
  replace k := k.istore #[.val (.ref av), .val (.int p2), .val (.int (0 : Int32)), .val (.int (4 : Int32)), .val (.int (p2.toInt8.toInt32)), .unset] d11_2 rfl
  replace k := k.iloadN d11_4 rfl
  replace k := k.istore #[.val (.ref av), .val (.int p2), .val (.int (0 : Int32)), .val (.int (4 : Int32)), .val (.int (p2.toInt8.toInt32)), .val (.int (0 : Int32))] d11_5 rfl
  replace k := k.iload d11_7 rfl
  replace k := k.iloadN d11_9 rfl
  replace k := k.icmpNo d11_10 (by decide)
  replace k := k.aloadN d11_13 rfl rfl
  replace k := k.iload d11_14 rfl
  replace k := k.baload d11_16 Av  0 (by decide) (by decide) (by decide) (.int c0) rfl
  replace k := k.iload d11_17 rfl
  by_cases hc101 : c0 = (p2.toInt8.toInt32)
  · skip
    replace k := k.icmpNo d11_19 (teq hc101).2
    replace k := k.iload d11_22 rfl
    exact k.iret d11_24 rfl (by simp) rfl ⟨by rw [own_ioc4, if_pos hc101], rfl⟩ (by decide) (by decide)
  · skip
    replace k := k.icmpYes (pc' := 25) d11_19 (feq hc101).2 (by decide) (by decide)
    replace k := k.iinc (1 : Int32) #[.val (.ref av), .val (.int p2), .val (.int (0 : Int32)), .val (.int (4 : Int32)), .val (.int (p2.toInt8.toInt32)), .val (.int ((0 : Int32) + (1 : Int32)))] d11_25 rfl rfl rfl
    replace k := k.loc #[.val (.ref av), .val (.int p2), .val (.int (0 : Int32)), .val (.int (4 : Int32)), .val (.int (p2.toInt8.toInt32)), .val (.int (1 : Int32))] (by rfl)
    replace k := k.goto (pc' := 7) d11_28 (by decide) (by decide)
    replace k := k.iload d11_7 rfl
    replace k := k.iloadN d11_9 rfl
    replace k := k.icmpNo d11_10 (by decide)
    replace k := k.aloadN d11_13 rfl rfl
    replace k := k.iload d11_14 rfl
    replace k := k.baload d11_16 Av  1 (by decide) (by decide) (by decide) (.int c1) rfl
    replace k := k.iload d11_17 rfl
    by_cases hc102 : c1 = (p2.toInt8.toInt32)
    · skip
      replace k := k.icmpNo d11_19 (teq hc102).2
      replace k := k.iload d11_22 rfl
      exact k.iret d11_24 rfl (by simp) rfl ⟨by rw [own_ioc4, if_neg hc101, if_pos hc102], rfl⟩ (by decide) (by decide)
    · skip
      replace k := k.icmpYes (pc' := 25) d11_19 (feq hc102).2 (by decide) (by decide)
      replace k := k.iinc (1 : Int32) #[.val (.ref av), .val (.int p2), .val (.int (0 : Int32)), .val (.int (4 : Int32)), .val (.int (p2.toInt8.toInt32)), .val (.int ((1 : Int32) + (1 : Int32)))] d11_25 rfl rfl rfl
      replace k := k.loc #[.val (.ref av), .val (.int p2), .val (.int (0 : Int32)), .val (.int (4 : Int32)), .val (.int (p2.toInt8.toInt32)), .val (.int (2 : Int32))] (by rfl)
      replace k := k.goto (pc' := 7) d11_28 (by decide) (by decide)
      replace k := k.iload d11_7 rfl
      replace k := k.iloadN d11_9 rfl
      replace k := k.icmpNo d11_10 (by decide)
      replace k := k.aloadN d11_13 rfl rfl
      replace k := k.iload d11_14 rfl
      replace k := k.baload d11_16 Av  2 (by decide) (by decide) (by decide) (.int c2) rfl
      replace k := k.iload d11_17 rfl
      by_cases hc103 : c2 = (p2.toInt8.toInt32)
      · skip
        replace k := k.icmpNo d11_19 (teq hc103).2
        replace k := k.iload d11_22 rfl
        exact k.iret d11_24 rfl (by simp) rfl ⟨by rw [own_ioc4, if_neg hc101, if_neg hc102, if_pos hc103], rfl⟩ (by decide) (by decide)
      · skip
        replace k := k.icmpYes (pc' := 25) d11_19 (feq hc103).2 (by decide) (by decide)
        replace k := k.iinc (1 : Int32) #[.val (.ref av), .val (.int p2), .val (.int (0 : Int32)), .val (.int (4 : Int32)), .val (.int (p2.toInt8.toInt32)), .val (.int ((2 : Int32) + (1 : Int32)))] d11_25 rfl rfl rfl
        replace k := k.loc #[.val (.ref av), .val (.int p2), .val (.int (0 : Int32)), .val (.int (4 : Int32)), .val (.int (p2.toInt8.toInt32)), .val (.int (3 : Int32))] (by rfl)
        replace k := k.goto (pc' := 7) d11_28 (by decide) (by decide)
        replace k := k.iload d11_7 rfl
        replace k := k.iloadN d11_9 rfl
        replace k := k.icmpNo d11_10 (by decide)
        replace k := k.aloadN d11_13 rfl rfl
        replace k := k.iload d11_14 rfl
        replace k := k.baload d11_16 Av  3 (by decide) (by decide) (by decide) (.int c3) rfl
        replace k := k.iload d11_17 rfl
        by_cases hc104 : c3 = (p2.toInt8.toInt32)
        · skip
          replace k := k.icmpNo d11_19 (teq hc104).2
          replace k := k.iload d11_22 rfl
          exact k.iret d11_24 rfl (by simp) rfl ⟨by rw [own_ioc4, if_neg hc101, if_neg hc102, if_neg hc103, if_pos hc104], rfl⟩ (by decide) (by decide)
        · skip
          replace k := k.icmpYes (pc' := 25) d11_19 (feq hc104).2 (by decide) (by decide)
          replace k := k.iinc (1 : Int32) #[.val (.ref av), .val (.int p2), .val (.int (0 : Int32)), .val (.int (4 : Int32)), .val (.int (p2.toInt8.toInt32)), .val (.int ((3 : Int32) + (1 : Int32)))] d11_25 rfl rfl rfl
          replace k := k.loc #[.val (.ref av), .val (.int p2), .val (.int (0 : Int32)), .val (.int (4 : Int32)), .val (.int (p2.toInt8.toInt32)), .val (.int (4 : Int32))] (by rfl)
          replace k := k.goto (pc' := 7) d11_28 (by decide) (by decide)
          replace k := k.iload d11_7 rfl
          replace k := k.iloadN d11_9 rfl
          replace k := k.icmpYes (pc' := 31) d11_10 (by decide) (by decide) (by decide)
          replace k := k.iconst (-1 : Int32) d11_31 rfl
          exact k.iret d11_32 rfl (by simp) rfl ⟨by rw [own_ioc4, if_neg hc101, if_neg hc102, if_neg hc103, if_neg hc104], rfl⟩ (by decide) (by decide)

set_option maxRecDepth 65536 in
set_option maxHeartbeats 40000000 in
theorem rm7_4 (Z : State) (a0 : Array Value) (hw : ∀ d ∈ tables_1, d.before a0 Z = true) (av : Addr) (p2 : Int32) (c0 c1 c2 c3 : Int32) (h0 : Heap) (n0 : Nat) (Av : Arf Z h0 av .byte 4 (own_arr [c0, c1, c2, c3])) :
    Con Z n0 (⟨"java/lang/StringLatin1", "indexOf", "([BIII)I"⟩ : MethodName) jdk_43_method_22_code 4 (some .int) [] ({ frames := 1, cells := 0, slots := 0, locals := 17 } : Room) #[(.ref av), (.int p2), (.int (0 : Int32)), (.int (4 : Int32))] h0 (fun v h => v = some (.int (own_li4 p2 c0 c1 c2 c3)) ∧ h0 = h) := by
  refine Con.intro (L0 := #[.val (.ref av), .val (.int p2), .val (.int (0 : Int32)), .val (.int (4 : Int32))]) (plainFor_of_name (by first | (simp [plainName, overriddenIn]; done) | decide +kernel)) (fun m => by first | (simp [entryFrame, mkF, argsToLocals, Value.category]; done) | rfl) ?_
  intro C k
  replace k := k.iloadN d7_0 rfl
  obtain ⟨_, _, ⟨rfl, rfl⟩, k⟩ := k.callS (y := (⟨"java/lang/StringLatin1", "canEncode", "(I)Z"⟩ : MethodName)) d7_1 (hw _ (List.mem_of_getElem? (i := 45) rfl)) (hw _ (List.mem_of_getElem? (i := 46) rfl)) (hw _ (List.mem_of_getElem? (i := 43) rfl)) (hw _ (List.mem_of_getElem? (i := 47) rfl)) (W := 0) (argsL := [(.int p2)]) (rest := []) (rm8 Z a0 hw p2 h0 n0) rfl (pd_1) rfl rfl rfl (by decide) (by decide) (by decide) (by decide) (by decide)
  replace k := k.stk [(.int (own_ce p2))] rfl
  by_cases hc101 : (own_ce p2) = (0 : Int32)
  · skip
    replace k := k.ifNo d7_4 (teq hc101).2
    replace k := k.iconst (-1 : Int32) d7_7 rfl
    exact k.iret d7_8 rfl (by simp) rfl ⟨by rw [own_li4, if_pos hc101], rfl⟩ (by decide) (by decide)
  · skip
    replace k := k.ifYes (pc' := 9) d7_4 (feq hc101).2 (by decide) (by decide)
    replace k := k.iloadN d7_9 rfl
    replace k := k.iconst (0 : Int32) d7_10 rfl
    obtain ⟨_, _, ⟨rfl, rfl⟩, k⟩ := k.callS (y := (⟨"java/lang/Math", "max", "(II)I"⟩ : MethodName)) d7_11 (hw _ (List.mem_of_getElem? (i := 48) rfl)) (hw _ (List.mem_of_getElem? (i := 49) rfl)) (hw _ (List.mem_of_getElem? (i := 50) rfl)) (hw _ (List.mem_of_getElem? (i := 51) rfl)) (W := 0) (argsL := [(.int (0 : Int32)), (.int (0 : Int32))]) (rest := []) (rm9 Z a0 hw (0 : Int32) (0 : Int32) h0 n0) rfl (pd_2) rfl rfl rfl (by decide) (by decide) (by decide) (by decide) (by decide)
    replace k := k.stk [(.int (own_max (0 : Int32) (0 : Int32)))] rfl
    replace k := k.foldI (0 : Int32) (by decide)
    replace k := k.istoreN #[.val (.ref av), .val (.int p2), .val (.int (0 : Int32)), .val (.int (4 : Int32))] d7_14 rfl
    replace k := k.iloadN d7_15 rfl
    replace k := k.aloadN d7_16 rfl rfl
    replace k := k.arrlen d7_17 Av (4 : Int32) (by decide)
    obtain ⟨_, _, ⟨rfl, rfl⟩, k⟩ := k.callS (y := (⟨"java/lang/Math", "min", "(II)I"⟩ : MethodName)) d7_18 (hw _ (List.mem_of_getElem? (i := 52) rfl)) (hw _ (List.mem_of_getElem? (i := 53) rfl)) (hw _ (List.mem_of_getElem? (i := 50) rfl)) (hw _ (List.mem_of_getElem? (i := 54) rfl)) (W := 0) (argsL := [(.int (4 : Int32)), (.int (4 : Int32))]) (rest := []) (rm10 Z a0 hw (4 : Int32) (4 : Int32) h0 n0) rfl (pd_2) rfl rfl rfl (by decide) (by decide) (by decide) (by decide) (by decide)
    replace k := k.stk [(.int (own_min (4 : Int32) (4 : Int32)))] rfl
    replace k := k.foldI (4 : Int32) (by decide)
    replace k := k.istoreN #[.val (.ref av), .val (.int p2), .val (.int (0 : Int32)), .val (.int (4 : Int32))] d7_21 rfl
    replace k := k.iloadN d7_22 rfl
    replace k := k.iloadN d7_23 rfl
    replace k := k.icmpYes (pc' := 29) d7_24 (by decide) (by decide) (by decide)
    replace k := k.aloadN d7_29 rfl rfl
    replace k := k.iloadN d7_30 rfl
    replace k := k.iloadN d7_31 rfl
    replace k := k.iloadN d7_32 rfl
    obtain ⟨_, _, ⟨rfl, rfl⟩, k⟩ := k.callS (y := (⟨"java/lang/StringLatin1", "indexOfChar", "([BIII)I"⟩ : MethodName)) d7_33 (hw _ (List.mem_of_getElem? (i := 56) rfl)) (hw _ (List.mem_of_getElem? (i := 57) rfl)) (hw _ (List.mem_of_getElem? (i := 43) rfl)) (hw _ (List.mem_of_getElem? (i := 58) rfl)) (W := 0) (argsL := [(.ref av), (.int p2), (.int (0 : Int32)), (.int (4 : Int32))]) (rest := []) (rm11_4 Z a0 hw av p2 c0 c1 c2 c3 h0 n0 Av) rfl (pd_5) rfl rfl rfl (by decide) (by decide) (by decide) (by decide) (by decide)
    replace k := k.stk [(.int (own_ioc4 p2 c0 c1 c2 c3))] rfl
    exact k.iret d7_36 rfl (by simp) rfl ⟨by rw [own_li4, if_neg hc101], rfl⟩ (by decide) (by decide)

set_option maxRecDepth 65536 in
set_option maxHeartbeats 40000000 in
theorem rm3_4 (Z : State) (a0 : Array Value) (hw : ∀ d ∈ tables_1, d.before a0 Z = true) (a1 av : Addr) (zC p2 : Int32) (c0 c1 c2 c3 : Int32) (h0 : Heap) (n0 : Nat) (S_COMPACT : Sta Z h0 "java/lang/String" "COMPACT_STRINGS" "Z" (.int zC)) (hC : ¬ (zC = (0 : Int32))) (Fc : Fld Z h0 a1 "java/lang/String" "coder" "B" (.int (0 : Int32))) (Fv : Fld Z h0 a1 "java/lang/String" "value" "[B" (.ref av)) (Es : Exa Z h0 a1 "java/lang/String") (Av : Arf Z h0 av .byte 4 (own_arr [c0, c1, c2, c3])) :
    Con Z n0 (⟨"java/lang/String", "indexOf", "(II)I"⟩ : MethodName) jdk_42_method_80_code 3 (some .int) [] ({ frames := 2, cells := 0, slots := 0, locals := 32 } : Room) #[(.ref a1), (.int p2), (.int (0 : Int32))] h0 (fun v h => v = some (.int (own_li4 p2 c0 c1 c2 c3)) ∧ h0 = h) := by
  refine Con.intro (L0 := #[.val (.ref a1), .val (.int p2), .val (.int (0 : Int32))]) (plainFor_of_name (by first | (simp [plainName, overriddenIn]; done) | decide +kernel)) (fun m => by first | (simp [entryFrame, mkF, argsToLocals, Value.category]; done) | rfl) ?_
  intro C k
  replace k := k.aloadN d3_0 rfl rfl
  obtain ⟨_, _, ⟨rfl, rfl⟩, k⟩ := k.callV (y := (⟨"java/lang/String", "isLatin1", "()Z"⟩ : MethodName)) (z := (⟨"java/lang/String", "isLatin1", "()Z"⟩ : MethodName)) (a := a1) d3_1 (hw _ (List.mem_of_getElem? (i := 21) rfl)) (hw _ (List.mem_of_getElem? (i := 22) rfl)) (fun s hs => notFace_of_selects (args := #[]) (mvT hs (hw _ (List.mem_of_getElem? (i := 24) rfl)))) (hw _ (List.mem_of_getElem? (i := 24) rfl)) (hw _ (List.mem_of_getElem? (i := 23) rfl)) (hw _ (List.mem_of_getElem? (i := 14) rfl)) (hw _ (List.mem_of_getElem? (i := 25) rfl)) Es (W := 0) (argsL := []) (rest := []) (rm4 Z a0 hw a1 zC h0 n0 S_COMPACT hC Fc) rfl (pd_3) rfl rfl rfl (by decide) (by decide) (by decide) (by decide) (by decide)
  replace k := k.stk [(.int (1 : Int32))] rfl
  replace k := k.ifNo d3_4 (by decide)
  replace k := k.aloadN d3_7 rfl rfl
  replace k := k.getF d3_8 (host := "") (Or.inl (hw _ (List.mem_of_getElem? (i := 29) rfl))) Via.refl Fv
  replace k := k.iloadN d3_11 rfl
  replace k := k.iloadN d3_12 rfl
  replace k := k.aloadN d3_13 rfl rfl
  obtain ⟨_, _, ⟨rfl, rfl⟩, k⟩ := k.callV (y := (⟨"java/lang/String", "length", "()I"⟩ : MethodName)) (z := (⟨"java/lang/String", "length", "()I"⟩ : MethodName)) (a := a1) d3_14 (hw _ (List.mem_of_getElem? (i := 31) rfl)) (hw _ (List.mem_of_getElem? (i := 32) rfl)) (fun s hs => notFace_of_selects (args := #[]) (mvT hs (hw _ (List.mem_of_getElem? (i := 34) rfl)))) (hw _ (List.mem_of_getElem? (i := 34) rfl)) (hw _ (List.mem_of_getElem? (i := 33) rfl)) (hw _ (List.mem_of_getElem? (i := 14) rfl)) (hw _ (List.mem_of_getElem? (i := 35) rfl)) Es (W := 3) (argsL := []) (rest := [(.int (0 : Int32)), (.int p2), (.ref av)]) (rm5_4 Z a0 hw a1 av zC c0 c1 c2 c3 h0 n0 S_COMPACT hC Fc Fv Es Av) rfl (pd_4) rfl rfl rfl (by decide) (by decide) (by decide) (by decide) (by decide)
  replace k := k.stk [(.int (4 : Int32)), (.int (0 : Int32)), (.int p2), (.ref av)] rfl
  obtain ⟨_, _, ⟨rfl, rfl⟩, k⟩ := k.callS (y := (⟨"java/lang/StringLatin1", "indexOf", "([BIII)I"⟩ : MethodName)) d3_17 (hw _ (List.mem_of_getElem? (i := 41) rfl)) (hw _ (List.mem_of_getElem? (i := 42) rfl)) (hw _ (List.mem_of_getElem? (i := 43) rfl)) (hw _ (List.mem_of_getElem? (i := 44) rfl)) (W := 0) (argsL := [(.ref av), (.int p2), (.int (0 : Int32)), (.int (4 : Int32))]) (rest := []) (rm7_4 Z a0 hw av p2 c0 c1 c2 c3 h0 n0 Av) rfl (pd_5) rfl rfl rfl (by decide) (by decide) (by decide) (by decide) (by decide)
  replace k := k.stk [(.int (own_li4 p2 c0 c1 c2 c3))] rfl
  replace k := k.goto (pc' := 36) d3_20 (by decide) (by decide)
  exact k.iret d3_36 rfl (by simp) rfl ⟨rfl, rfl⟩ (by decide) (by decide)

set_option maxRecDepth 65536 in
set_option maxHeartbeats 40000000 in
theorem rm2_4 (Z : State) (a0 : Array Value) (hw : ∀ d ∈ tables_1, d.before a0 Z = true) (a1 av : Addr) (zC p2 : Int32) (c0 c1 c2 c3 : Int32) (h0 : Heap) (n0 : Nat) (S_COMPACT : Sta Z h0 "java/lang/String" "COMPACT_STRINGS" "Z" (.int zC)) (hC : ¬ (zC = (0 : Int32))) (Fc : Fld Z h0 a1 "java/lang/String" "coder" "B" (.int (0 : Int32))) (Fv : Fld Z h0 a1 "java/lang/String" "value" "[B" (.ref av)) (Es : Exa Z h0 a1 "java/lang/String") (Av : Arf Z h0 av .byte 4 (own_arr [c0, c1, c2, c3])) :
    Con Z n0 (⟨"java/lang/String", "indexOf", "(I)I"⟩ : MethodName) jdk_42_method_79_code 2 (some .int) [] ({ frames := 3, cells := 0, slots := 0, locals := 46 } : Room) #[(.ref a1), (.int p2)] h0 (fun v h => v = some (.int (own_li4 p2 c0 c1 c2 c3)) ∧ h0 = h) := by
  refine Con.intro (L0 := #[.val (.ref a1), .val (.int p2)]) (plainFor_of_name (by first | (simp [plainName, overriddenIn]; done) | decide +kernel)) (fun m => by first | (simp [entryFrame, mkF, argsToLocals, Value.category]; done) | rfl) ?_
  intro C k
  replace k := k.aloadN d2_0 rfl rfl
  replace k := k.iloadN d2_1 rfl
  replace k := k.iconst (0 : Int32) d2_2 rfl
  obtain ⟨_, _, ⟨rfl, rfl⟩, k⟩ := k.callV (y := (⟨"java/lang/String", "indexOf", "(II)I"⟩ : MethodName)) (z := (⟨"java/lang/String", "indexOf", "(II)I"⟩ : MethodName)) (a := a1) d2_3 (hw _ (List.mem_of_getElem? (i := 16) rfl)) (hw _ (List.mem_of_getElem? (i := 17) rfl)) (fun s hs => notFace_of_selects (args := #[]) (mvT hs (hw _ (List.mem_of_getElem? (i := 19) rfl)))) (hw _ (List.mem_of_getElem? (i := 19) rfl)) (hw _ (List.mem_of_getElem? (i := 18) rfl)) (hw _ (List.mem_of_getElem? (i := 14) rfl)) (hw _ (List.mem_of_getElem? (i := 20) rfl)) Es (W := 0) (argsL := [(.int p2), (.int (0 : Int32))]) (rest := []) (rm3_4 Z a0 hw a1 av zC p2 c0 c1 c2 c3 h0 n0 S_COMPACT hC Fc Fv Es Av) rfl (pd_2) rfl rfl rfl (by decide) (by decide) (by decide) (by decide) (by decide)
  replace k := k.stk [(.int (own_li4 p2 c0 c1 c2 c3))] rfl
  exact k.iret d2_6 rfl (by simp) rfl ⟨rfl, rfl⟩ (by decide) (by decide)

theorem d1_0 : decode prog_22_method_5_code 0 = .ok (.getstatic 45, 3) := by decide +kernel
theorem d1_3 : decode prog_22_method_5_code 3 = .ok (.astore_n 1, 1) := by decide +kernel
theorem d1_4 : decode prog_22_method_5_code 4 = .ok (.aload_n 1, 1) := by decide +kernel
theorem d1_5 : decode prog_22_method_5_code 5 = .ok (.arraylength, 1) := by decide +kernel
theorem d1_6 : decode prog_22_method_5_code 6 = .ok (.istore_n 2, 1) := by decide +kernel
theorem d1_7 : decode prog_22_method_5_code 7 = .ok (.iconst 0, 1) := by decide +kernel
theorem d1_8 : decode prog_22_method_5_code 8 = .ok (.istore_n 3, 1) := by decide +kernel
theorem d1_9 : decode prog_22_method_5_code 9 = .ok (.iload_n 3, 1) := by decide +kernel
theorem d1_10 : decode prog_22_method_5_code 10 = .ok (.iload_n 2, 1) := by decide +kernel
theorem d1_11 : decode prog_22_method_5_code 11 = .ok (.if_icmp .ge 29, 3) := by decide +kernel
theorem d1_14 : decode prog_22_method_5_code 14 = .ok (.aload_n 1, 1) := by decide +kernel
theorem d1_15 : decode prog_22_method_5_code 15 = .ok (.iload_n 3, 1) := by decide +kernel
theorem d1_16 : decode prog_22_method_5_code 16 = .ok (.aaload, 1) := by decide +kernel
theorem d1_17 : decode prog_22_method_5_code 17 = .ok (.astore 4, 2) := by decide +kernel
theorem d1_19 : decode prog_22_method_5_code 19 = .ok (.aload 4, 2) := by decide +kernel
theorem d1_21 : decode prog_22_method_5_code 21 = .ok (.getfield 42, 3) := by decide +kernel
theorem d1_24 : decode prog_22_method_5_code 24 = .ok (.iload_n 0, 1) := by decide +kernel
theorem d1_25 : decode prog_22_method_5_code 25 = .ok (.invokevirtual 48, 3) := by decide +kernel
theorem d1_28 : decode prog_22_method_5_code 28 = .ok (.ifCond .lt 6, 3) := by decide +kernel
theorem d1_31 : decode prog_22_method_5_code 31 = .ok (.aload 4, 2) := by decide +kernel
theorem d1_33 : decode prog_22_method_5_code 33 = .ok (.areturn, 1) := by decide +kernel
theorem d1_34 : decode prog_22_method_5_code 34 = .ok (.iinc 3 1, 3) := by decide +kernel
theorem d1_37 : decode prog_22_method_5_code 37 = .ok (.goto (-28), 3) := by decide +kernel
theorem d1_40 : decode prog_22_method_5_code 40 = .ok (.getstatic 3, 3) := by decide +kernel
theorem d1_43 : decode prog_22_method_5_code 43 = .ok (.areturn, 1) := by decide +kernel
set_option maxRecDepth 65536 in
set_option maxHeartbeats 40000000 in
theorem rm1 (Z : State) (a0 : Array Value) (hw : ∀ d ∈ tables_1, d.before a0 Z = true) (p1 zC : Int32) (a_FORMATS : Addr) (cl_FORMATS : Cell) (a_BIBLIOGRAPHIC : Addr) (a_BIBLIOGRAPHIC_typesOfRecord : Addr) (a_BIBLIOGRAPHIC_typesOfRecord_value : Addr) (cl_BIBLIOGRAPHIC_typesOfRecord_value : Cell) (a_AUTHORITY : Addr) (a_AUTHORITY_typesOfRecord : Addr) (a_AUTHORITY_typesOfRecord_value : Addr) (cl_AUTHORITY_typesOfRecord_value : Cell) (a_CLASSIFICATION : Addr) (a_CLASSIFICATION_typesOfRecord : Addr) (a_CLASSIFICATION_typesOfRecord_value : Addr) (cl_CLASSIFICATION_typesOfRecord_value : Cell) (a_HOLDINGS : Addr) (a_HOLDINGS_typesOfRecord : Addr) (a_HOLDINGS_typesOfRecord_value : Addr) (cl_HOLDINGS_typesOfRecord_value : Cell) (a_COMMUNITY_INFORMATION : Addr) (a_COMMUNITY_INFORMATION_typesOfRecord : Addr) (a_COMMUNITY_INFORMATION_typesOfRecord_value : Addr) (cl_COMMUNITY_INFORMATION_typesOfRecord_value : Cell) (h0 : Heap) (n0 : Nat) (S_COMPACT : Sta Z h0 "java/lang/String" "COMPACT_STRINGS" "Z" (.int zC)) (hC : ¬ (zC = (0 : Int32))) (S_FORMATS : Sta Z h0 "com/example/lieudit/lieudit/RecordFormat" "FORMATS" "[Lcom/example/lieudit/lieudit/RecordFormat;" (.ref a_FORMATS)) (Ar_FORMATS : Arr Z h0 a_FORMATS cl_FORMATS (.object "com/example/lieudit/lieudit/RecordFormat")) (Sz_FORMATS : cl_FORMATS.slots.size = 5) (S_BIBLIOGRAPHIC : Sta Z h0 "com/example/lieudit/lieudit/RecordFormat" "BIBLIOGRAPHIC" "Lcom/example/lieudit/lieudit/RecordFormat;" (.ref a_BIBLIOGRAPHIC)) (E_BIBLIOGRAPHIC : Exa Z h0 a_BIBLIOGRAPHIC "com/example/lieudit/lieudit/RecordFormat") (at_FORMATS_0 : cl_FORMATS.slots[0]? = some (.ref a_BIBLIOGRAPHIC)) (F_BIBLIOGRAPHIC_typesOfRecord : Fld Z h0 a_BIBLIOGRAPHIC "com/example/lieudit/lieudit/RecordFormat" "typesOfRecord" "Ljava/lang/String;" (.ref a_BIBLIOGRAPHIC_typesOfRecord)) (E_BIBLIOGRAPHIC_typesOfRecord : Exa Z h0 a_BIBLIOGRAPHIC_typesOfRecord "java/lang/String") (F_BIBLIOGRAPHIC_typesOfRecord_coder : Fld Z h0 a_BIBLIOGRAPHIC_typesOfRecord "java/lang/String" "coder" "B" (.int (0 : Int32))) (F_BIBLIOGRAPHIC_typesOfRecord_value : Fld Z h0 a_BIBLIOGRAPHIC_typesOfRecord "java/lang/String" "value" "[B" (.ref a_BIBLIOGRAPHIC_typesOfRecord_value)) (Ar_BIBLIOGRAPHIC_typesOfRecord_value : Arr Z h0 a_BIBLIOGRAPHIC_typesOfRecord_value cl_BIBLIOGRAPHIC_typesOfRecord_value .byte) (Sz_BIBLIOGRAPHIC_typesOfRecord_value : cl_BIBLIOGRAPHIC_typesOfRecord_value.slots.size = 0) (S_AUTHORITY : Sta Z h0 "com/example/lieudit/lieudit/RecordFormat" "AUTHORITY" "Lcom/example/lieudit/lieudit/RecordFormat;" (.ref a_AUTHORITY)) (E_AUTHORITY : Exa Z h0 a_AUTHORITY "com/example/lieudit/lieudit/RecordFormat") (at_FORMATS_1 : cl_FORMATS.slots[1]? = some (.ref a_AUTHORITY)) (F_AUTHORITY_typesOfRecord : Fld Z h0 a_AUTHORITY "com/example/lieudit/lieudit/RecordFormat" "typesOfRecord" "Ljava/lang/String;" (.ref a_AUTHORITY_typesOfRecord)) (E_AUTHORITY_typesOfRecord : Exa Z h0 a_AUTHORITY_typesOfRecord "java/lang/String") (F_AUTHORITY_typesOfRecord_coder : Fld Z h0 a_AUTHORITY_typesOfRecord "java/lang/String" "coder" "B" (.int (0 : Int32))) (F_AUTHORITY_typesOfRecord_value : Fld Z h0 a_AUTHORITY_typesOfRecord "java/lang/String" "value" "[B" (.ref a_AUTHORITY_typesOfRecord_value)) (Ar_AUTHORITY_typesOfRecord_value : Arr Z h0 a_AUTHORITY_typesOfRecord_value cl_AUTHORITY_typesOfRecord_value .byte) (Sz_AUTHORITY_typesOfRecord_value : cl_AUTHORITY_typesOfRecord_value.slots.size = 1) (at_AUTHORITY_typesOfRecord_value_0 : cl_AUTHORITY_typesOfRecord_value.slots[0]? = some (.int (122 : Int32))) (S_CLASSIFICATION : Sta Z h0 "com/example/lieudit/lieudit/RecordFormat" "CLASSIFICATION" "Lcom/example/lieudit/lieudit/RecordFormat;" (.ref a_CLASSIFICATION)) (E_CLASSIFICATION : Exa Z h0 a_CLASSIFICATION "com/example/lieudit/lieudit/RecordFormat") (at_FORMATS_2 : cl_FORMATS.slots[2]? = some (.ref a_CLASSIFICATION)) (F_CLASSIFICATION_typesOfRecord : Fld Z h0 a_CLASSIFICATION "com/example/lieudit/lieudit/RecordFormat" "typesOfRecord" "Ljava/lang/String;" (.ref a_CLASSIFICATION_typesOfRecord)) (E_CLASSIFICATION_typesOfRecord : Exa Z h0 a_CLASSIFICATION_typesOfRecord "java/lang/String") (F_CLASSIFICATION_typesOfRecord_coder : Fld Z h0 a_CLASSIFICATION_typesOfRecord "java/lang/String" "coder" "B" (.int (0 : Int32))) (F_CLASSIFICATION_typesOfRecord_value : Fld Z h0 a_CLASSIFICATION_typesOfRecord "java/lang/String" "value" "[B" (.ref a_CLASSIFICATION_typesOfRecord_value)) (Ar_CLASSIFICATION_typesOfRecord_value : Arr Z h0 a_CLASSIFICATION_typesOfRecord_value cl_CLASSIFICATION_typesOfRecord_value .byte) (Sz_CLASSIFICATION_typesOfRecord_value : cl_CLASSIFICATION_typesOfRecord_value.slots.size = 1) (at_CLASSIFICATION_typesOfRecord_value_0 : cl_CLASSIFICATION_typesOfRecord_value.slots[0]? = some (.int (119 : Int32))) (S_HOLDINGS : Sta Z h0 "com/example/lieudit/lieudit/RecordFormat" "HOLDINGS" "Lcom/example/lieudit/lieudit/RecordFormat;" (.ref a_HOLDINGS)) (E_HOLDINGS : Exa Z h0 a_HOLDINGS "com/example/lieudit/lieudit/RecordFormat") (at_FORMATS_3 : cl_FORMATS.slots[3]? = some (.ref a_HOLDINGS)) (F_HOLDINGS_typesOfRecord : Fld Z h0 a_HOLDINGS "com/example/lieudit/lieudit/RecordFormat" "typesOfRecord" "Ljava/lang/String;" (.ref a_HOLDINGS_typesOfRecord)) (E_HOLDINGS_typesOfRecord : Exa Z h0 a_HOLDINGS_typesOfRecord "java/lang/String") (F_HOLDINGS_typesOfRecord_coder : Fld Z h0 a_HOLDINGS_typesOfRecord "java/lang/String" "coder" "B" (.int (0 : Int32))) (F_HOLDINGS_typesOfRecord_value : Fld Z h0 a_HOLDINGS_typesOfRecord "java/lang/String" "value" "[B" (.ref a_HOLDINGS_typesOfRecord_value)) (Ar_HOLDINGS_typesOfRecord_value : Arr Z h0 a_HOLDINGS_typesOfRecord_value cl_HOLDINGS_typesOfRecord_value .byte) (Sz_HOLDINGS_typesOfRecord_value : cl_HOLDINGS_typesOfRecord_value.slots.size = 4) (at_HOLDINGS_typesOfRecord_value_0 : cl_HOLDINGS_typesOfRecord_value.slots[0]? = some (.int (117 : Int32))) (at_HOLDINGS_typesOfRecord_value_1 : cl_HOLDINGS_typesOfRecord_value.slots[1]? = some (.int (118 : Int32))) (at_HOLDINGS_typesOfRecord_value_2 : cl_HOLDINGS_typesOfRecord_value.slots[2]? = some (.int (120 : Int32))) (at_HOLDINGS_typesOfRecord_value_3 : cl_HOLDINGS_typesOfRecord_value.slots[3]? = some (.int (121 : Int32))) (S_COMMUNITY_INFORMATION : Sta Z h0 "com/example/lieudit/lieudit/RecordFormat" "COMMUNITY_INFORMATION" "Lcom/example/lieudit/lieudit/RecordFormat;" (.ref a_COMMUNITY_INFORMATION)) (E_COMMUNITY_INFORMATION : Exa Z h0 a_COMMUNITY_INFORMATION "com/example/lieudit/lieudit/RecordFormat") (at_FORMATS_4 : cl_FORMATS.slots[4]? = some (.ref a_COMMUNITY_INFORMATION)) (F_COMMUNITY_INFORMATION_typesOfRecord : Fld Z h0 a_COMMUNITY_INFORMATION "com/example/lieudit/lieudit/RecordFormat" "typesOfRecord" "Ljava/lang/String;" (.ref a_COMMUNITY_INFORMATION_typesOfRecord)) (E_COMMUNITY_INFORMATION_typesOfRecord : Exa Z h0 a_COMMUNITY_INFORMATION_typesOfRecord "java/lang/String") (F_COMMUNITY_INFORMATION_typesOfRecord_coder : Fld Z h0 a_COMMUNITY_INFORMATION_typesOfRecord "java/lang/String" "coder" "B" (.int (0 : Int32))) (F_COMMUNITY_INFORMATION_typesOfRecord_value : Fld Z h0 a_COMMUNITY_INFORMATION_typesOfRecord "java/lang/String" "value" "[B" (.ref a_COMMUNITY_INFORMATION_typesOfRecord_value)) (Ar_COMMUNITY_INFORMATION_typesOfRecord_value : Arr Z h0 a_COMMUNITY_INFORMATION_typesOfRecord_value cl_COMMUNITY_INFORMATION_typesOfRecord_value .byte) (Sz_COMMUNITY_INFORMATION_typesOfRecord_value : cl_COMMUNITY_INFORMATION_typesOfRecord_value.slots.size = 1) (at_COMMUNITY_INFORMATION_typesOfRecord_value_0 : cl_COMMUNITY_INFORMATION_typesOfRecord_value.slots[0]? = some (.int (113 : Int32))) :
    Con Z n0 (⟨"com/example/lieudit/lieudit/RecordFormat", "of", "(C)Lcom/example/lieudit/lieudit/RecordFormat;"⟩ : MethodName) prog_22_method_5_code 5 (some (.object "com/example/lieudit/lieudit/RecordFormat")) [] ({ frames := 4, cells := 0, slots := 0, locals := 59 } : Room) #[(.int p1)] h0 (fun v h => v = some (own_of p1 a_BIBLIOGRAPHIC a_AUTHORITY a_CLASSIFICATION a_HOLDINGS a_COMMUNITY_INFORMATION) ∧ h0 = h) := by
  refine Con.intro (L0 := #[.val (.int p1), .unset, .unset, .unset, .unset]) (plainFor_of_name (by first | (simp [plainName, overriddenIn]; done) | decide +kernel)) (fun m => by first | (simp [entryFrame, mkF, argsToLocals, Value.category]; done) | rfl) ?_
  have Af := own_Af Ar_FORMATS Sz_FORMATS at_FORMATS_0 at_FORMATS_1 at_FORMATS_2 at_FORMATS_3 at_FORMATS_4
  have Av_BIBLIOGRAPHIC : Arf Z h0 a_BIBLIOGRAPHIC_typesOfRecord_value .byte 0 (own_arr []) := ⟨cl_BIBLIOGRAPHIC_typesOfRecord_value, Ar_BIBLIOGRAPHIC_typesOfRecord_value, Sz_BIBLIOGRAPHIC_typesOfRecord_value, fun i hi => absurd hi (by omega)⟩
  have Av_AUTHORITY : Arf Z h0 a_AUTHORITY_typesOfRecord_value .byte 1 (own_arr [(122 : Int32)]) := ⟨cl_AUTHORITY_typesOfRecord_value, Ar_AUTHORITY_typesOfRecord_value, Sz_AUTHORITY_typesOfRecord_value, fun i hi => by
    match i, hi with
    | 0, _ => exact at_AUTHORITY_typesOfRecord_value_0⟩
  have Av_CLASSIFICATION : Arf Z h0 a_CLASSIFICATION_typesOfRecord_value .byte 1 (own_arr [(119 : Int32)]) := ⟨cl_CLASSIFICATION_typesOfRecord_value, Ar_CLASSIFICATION_typesOfRecord_value, Sz_CLASSIFICATION_typesOfRecord_value, fun i hi => by
    match i, hi with
    | 0, _ => exact at_CLASSIFICATION_typesOfRecord_value_0⟩
  have Av_HOLDINGS : Arf Z h0 a_HOLDINGS_typesOfRecord_value .byte 4 (own_arr [(117 : Int32), (118 : Int32), (120 : Int32), (121 : Int32)]) := ⟨cl_HOLDINGS_typesOfRecord_value, Ar_HOLDINGS_typesOfRecord_value, Sz_HOLDINGS_typesOfRecord_value, fun i hi => by
    match i, hi with
    | 0, _ => exact at_HOLDINGS_typesOfRecord_value_0
    | 1, _ => exact at_HOLDINGS_typesOfRecord_value_1
    | 2, _ => exact at_HOLDINGS_typesOfRecord_value_2
    | 3, _ => exact at_HOLDINGS_typesOfRecord_value_3⟩
  have Av_COMMUNITY_INFORMATION : Arf Z h0 a_COMMUNITY_INFORMATION_typesOfRecord_value .byte 1 (own_arr [(113 : Int32)]) := ⟨cl_COMMUNITY_INFORMATION_typesOfRecord_value, Ar_COMMUNITY_INFORMATION_typesOfRecord_value, Sz_COMMUNITY_INFORMATION_typesOfRecord_value, fun i hi => by
    match i, hi with
    | 0, _ => exact at_COMMUNITY_INFORMATION_typesOfRecord_value_0⟩
  intro C k
  replace k := k.getS d1_0 (host := "") (Or.inl (hw _ (List.mem_of_getElem? (i := 5) rfl))) Via.refl S_FORMATS
  replace k := k.astoreN #[.val (.int p1), .val (.ref a_FORMATS), .unset, .unset, .unset] d1_3 rfl rfl
  replace k := k.aloadN d1_4 rfl rfl
  replace k := k.arrlen d1_5 Af (5 : Int32) (by decide)
  replace k := k.istoreN #[.val (.int p1), .val (.ref a_FORMATS), .val (.int (5 : Int32)), .unset, .unset] d1_6 rfl
  replace k := k.iconst (0 : Int32) d1_7 rfl
  replace k := k.istoreN #[.val (.int p1), .val (.ref a_FORMATS), .val (.int (5 : Int32)), .val (.int (0 : Int32)), .unset] d1_8 rfl
  replace k := k.iloadN d1_9 rfl
  replace k := k.iloadN d1_10 rfl
  replace k := k.icmpNo d1_11 (by decide)
  replace k := k.aloadN d1_14 rfl rfl
  replace k := k.iloadN d1_15 rfl
  replace k := k.aaload d1_16 Af rfl 0 (by decide) (by decide) (by decide) (.ref a_BIBLIOGRAPHIC) rfl
  replace k := k.astore #[.val (.int p1), .val (.ref a_FORMATS), .val (.int (5 : Int32)), .val (.int (0 : Int32)), .val (.ref a_BIBLIOGRAPHIC)] d1_17 rfl rfl
  replace k := k.aload d1_19 rfl rfl
  replace k := k.getF d1_21 (host := "") (Or.inl (hw _ (List.mem_of_getElem? (i := 8) rfl))) Via.refl F_BIBLIOGRAPHIC_typesOfRecord
  replace k := k.iloadN d1_24 rfl
  obtain ⟨_, _, ⟨rfl, rfl⟩, k⟩ := k.callV (y := (⟨"java/lang/String", "indexOf", "(I)I"⟩ : MethodName)) (z := (⟨"java/lang/String", "indexOf", "(I)I"⟩ : MethodName)) (a := a_BIBLIOGRAPHIC_typesOfRecord) d1_25 (hw _ (List.mem_of_getElem? (i := 10) rfl)) (hw _ (List.mem_of_getElem? (i := 11) rfl)) (fun s hs => notFace_of_selects (args := #[]) (mvT hs (hw _ (List.mem_of_getElem? (i := 13) rfl)))) (hw _ (List.mem_of_getElem? (i := 13) rfl)) (hw _ (List.mem_of_getElem? (i := 12) rfl)) (hw _ (List.mem_of_getElem? (i := 14) rfl)) (hw _ (List.mem_of_getElem? (i := 15) rfl)) E_BIBLIOGRAPHIC_typesOfRecord (W := 0) (argsL := [(.int p1)]) (rest := []) (rm2_0 Z a0 hw a_BIBLIOGRAPHIC_typesOfRecord a_BIBLIOGRAPHIC_typesOfRecord_value zC p1  h0 n0 S_COMPACT hC F_BIBLIOGRAPHIC_typesOfRecord_coder F_BIBLIOGRAPHIC_typesOfRecord_value E_BIBLIOGRAPHIC_typesOfRecord Av_BIBLIOGRAPHIC) rfl (pd_6) rfl rfl rfl (by decide) (by decide) (by decide) (by decide) (by decide)
  replace k := k.stk [(.int (own_li0 p1 ))] rfl
  by_cases hc101 : (own_li0 p1 ) < (0 : Int32)
  · skip
    replace k := k.ifYes (pc' := 34) d1_28 (tlt hc101).1 (by decide) (by decide)
    replace k := k.iinc (1 : Int32) #[.val (.int p1), .val (.ref a_FORMATS), .val (.int (5 : Int32)), .val (.int ((0 : Int32) + (1 : Int32))), .val (.ref a_BIBLIOGRAPHIC)] d1_34 rfl rfl rfl
    replace k := k.loc #[.val (.int p1), .val (.ref a_FORMATS), .val (.int (5 : Int32)), .val (.int (1 : Int32)), .val (.ref a_BIBLIOGRAPHIC)] (by rfl)
    replace k := k.goto (pc' := 9) d1_37 (by decide) (by decide)
    replace k := k.iloadN d1_9 rfl
    replace k := k.iloadN d1_10 rfl
    replace k := k.icmpNo d1_11 (by decide)
    replace k := k.aloadN d1_14 rfl rfl
    replace k := k.iloadN d1_15 rfl
    replace k := k.aaload d1_16 Af rfl 1 (by decide) (by decide) (by decide) (.ref a_AUTHORITY) rfl
    replace k := k.astore #[.val (.int p1), .val (.ref a_FORMATS), .val (.int (5 : Int32)), .val (.int (1 : Int32)), .val (.ref a_AUTHORITY)] d1_17 rfl rfl
    replace k := k.aload d1_19 rfl rfl
    replace k := k.getF d1_21 (host := "") (Or.inl (hw _ (List.mem_of_getElem? (i := 8) rfl))) Via.refl F_AUTHORITY_typesOfRecord
    replace k := k.iloadN d1_24 rfl
    obtain ⟨_, _, ⟨rfl, rfl⟩, k⟩ := k.callV (y := (⟨"java/lang/String", "indexOf", "(I)I"⟩ : MethodName)) (z := (⟨"java/lang/String", "indexOf", "(I)I"⟩ : MethodName)) (a := a_AUTHORITY_typesOfRecord) d1_25 (hw _ (List.mem_of_getElem? (i := 10) rfl)) (hw _ (List.mem_of_getElem? (i := 11) rfl)) (fun s hs => notFace_of_selects (args := #[]) (mvT hs (hw _ (List.mem_of_getElem? (i := 13) rfl)))) (hw _ (List.mem_of_getElem? (i := 13) rfl)) (hw _ (List.mem_of_getElem? (i := 12) rfl)) (hw _ (List.mem_of_getElem? (i := 14) rfl)) (hw _ (List.mem_of_getElem? (i := 15) rfl)) E_AUTHORITY_typesOfRecord (W := 0) (argsL := [(.int p1)]) (rest := []) (rm2_1 Z a0 hw a_AUTHORITY_typesOfRecord a_AUTHORITY_typesOfRecord_value zC p1 (122 : Int32) h0 n0 S_COMPACT hC F_AUTHORITY_typesOfRecord_coder F_AUTHORITY_typesOfRecord_value E_AUTHORITY_typesOfRecord Av_AUTHORITY) rfl (pd_6) rfl rfl rfl (by decide) (by decide) (by decide) (by decide) (by decide)
    replace k := k.stk [(.int (own_li1 p1 (122 : Int32)))] rfl
    by_cases hc102 : (own_li1 p1 (122 : Int32)) < (0 : Int32)
    · skip
      replace k := k.ifYes (pc' := 34) d1_28 (tlt hc102).1 (by decide) (by decide)
      replace k := k.iinc (1 : Int32) #[.val (.int p1), .val (.ref a_FORMATS), .val (.int (5 : Int32)), .val (.int ((1 : Int32) + (1 : Int32))), .val (.ref a_AUTHORITY)] d1_34 rfl rfl rfl
      replace k := k.loc #[.val (.int p1), .val (.ref a_FORMATS), .val (.int (5 : Int32)), .val (.int (2 : Int32)), .val (.ref a_AUTHORITY)] (by rfl)
      replace k := k.goto (pc' := 9) d1_37 (by decide) (by decide)
      replace k := k.iloadN d1_9 rfl
      replace k := k.iloadN d1_10 rfl
      replace k := k.icmpNo d1_11 (by decide)
      replace k := k.aloadN d1_14 rfl rfl
      replace k := k.iloadN d1_15 rfl
      replace k := k.aaload d1_16 Af rfl 2 (by decide) (by decide) (by decide) (.ref a_CLASSIFICATION) rfl
      replace k := k.astore #[.val (.int p1), .val (.ref a_FORMATS), .val (.int (5 : Int32)), .val (.int (2 : Int32)), .val (.ref a_CLASSIFICATION)] d1_17 rfl rfl
      replace k := k.aload d1_19 rfl rfl
      replace k := k.getF d1_21 (host := "") (Or.inl (hw _ (List.mem_of_getElem? (i := 8) rfl))) Via.refl F_CLASSIFICATION_typesOfRecord
      replace k := k.iloadN d1_24 rfl
      obtain ⟨_, _, ⟨rfl, rfl⟩, k⟩ := k.callV (y := (⟨"java/lang/String", "indexOf", "(I)I"⟩ : MethodName)) (z := (⟨"java/lang/String", "indexOf", "(I)I"⟩ : MethodName)) (a := a_CLASSIFICATION_typesOfRecord) d1_25 (hw _ (List.mem_of_getElem? (i := 10) rfl)) (hw _ (List.mem_of_getElem? (i := 11) rfl)) (fun s hs => notFace_of_selects (args := #[]) (mvT hs (hw _ (List.mem_of_getElem? (i := 13) rfl)))) (hw _ (List.mem_of_getElem? (i := 13) rfl)) (hw _ (List.mem_of_getElem? (i := 12) rfl)) (hw _ (List.mem_of_getElem? (i := 14) rfl)) (hw _ (List.mem_of_getElem? (i := 15) rfl)) E_CLASSIFICATION_typesOfRecord (W := 0) (argsL := [(.int p1)]) (rest := []) (rm2_1 Z a0 hw a_CLASSIFICATION_typesOfRecord a_CLASSIFICATION_typesOfRecord_value zC p1 (119 : Int32) h0 n0 S_COMPACT hC F_CLASSIFICATION_typesOfRecord_coder F_CLASSIFICATION_typesOfRecord_value E_CLASSIFICATION_typesOfRecord Av_CLASSIFICATION) rfl (pd_6) rfl rfl rfl (by decide) (by decide) (by decide) (by decide) (by decide)
      replace k := k.stk [(.int (own_li1 p1 (119 : Int32)))] rfl
      by_cases hc103 : (own_li1 p1 (119 : Int32)) < (0 : Int32)
      · skip
        replace k := k.ifYes (pc' := 34) d1_28 (tlt hc103).1 (by decide) (by decide)
        replace k := k.iinc (1 : Int32) #[.val (.int p1), .val (.ref a_FORMATS), .val (.int (5 : Int32)), .val (.int ((2 : Int32) + (1 : Int32))), .val (.ref a_CLASSIFICATION)] d1_34 rfl rfl rfl
        replace k := k.loc #[.val (.int p1), .val (.ref a_FORMATS), .val (.int (5 : Int32)), .val (.int (3 : Int32)), .val (.ref a_CLASSIFICATION)] (by rfl)
        replace k := k.goto (pc' := 9) d1_37 (by decide) (by decide)
        replace k := k.iloadN d1_9 rfl
        replace k := k.iloadN d1_10 rfl
        replace k := k.icmpNo d1_11 (by decide)
        replace k := k.aloadN d1_14 rfl rfl
        replace k := k.iloadN d1_15 rfl
        replace k := k.aaload d1_16 Af rfl 3 (by decide) (by decide) (by decide) (.ref a_HOLDINGS) rfl
        replace k := k.astore #[.val (.int p1), .val (.ref a_FORMATS), .val (.int (5 : Int32)), .val (.int (3 : Int32)), .val (.ref a_HOLDINGS)] d1_17 rfl rfl
        replace k := k.aload d1_19 rfl rfl
        replace k := k.getF d1_21 (host := "") (Or.inl (hw _ (List.mem_of_getElem? (i := 8) rfl))) Via.refl F_HOLDINGS_typesOfRecord
        replace k := k.iloadN d1_24 rfl
        obtain ⟨_, _, ⟨rfl, rfl⟩, k⟩ := k.callV (y := (⟨"java/lang/String", "indexOf", "(I)I"⟩ : MethodName)) (z := (⟨"java/lang/String", "indexOf", "(I)I"⟩ : MethodName)) (a := a_HOLDINGS_typesOfRecord) d1_25 (hw _ (List.mem_of_getElem? (i := 10) rfl)) (hw _ (List.mem_of_getElem? (i := 11) rfl)) (fun s hs => notFace_of_selects (args := #[]) (mvT hs (hw _ (List.mem_of_getElem? (i := 13) rfl)))) (hw _ (List.mem_of_getElem? (i := 13) rfl)) (hw _ (List.mem_of_getElem? (i := 12) rfl)) (hw _ (List.mem_of_getElem? (i := 14) rfl)) (hw _ (List.mem_of_getElem? (i := 15) rfl)) E_HOLDINGS_typesOfRecord (W := 0) (argsL := [(.int p1)]) (rest := []) (rm2_4 Z a0 hw a_HOLDINGS_typesOfRecord a_HOLDINGS_typesOfRecord_value zC p1 (117 : Int32) (118 : Int32) (120 : Int32) (121 : Int32) h0 n0 S_COMPACT hC F_HOLDINGS_typesOfRecord_coder F_HOLDINGS_typesOfRecord_value E_HOLDINGS_typesOfRecord Av_HOLDINGS) rfl (pd_6) rfl rfl rfl (by decide) (by decide) (by decide) (by decide) (by decide)
        replace k := k.stk [(.int (own_li4 p1 (117 : Int32) (118 : Int32) (120 : Int32) (121 : Int32)))] rfl
        by_cases hc104 : (own_li4 p1 (117 : Int32) (118 : Int32) (120 : Int32) (121 : Int32)) < (0 : Int32)
        · skip
          replace k := k.ifYes (pc' := 34) d1_28 (tlt hc104).1 (by decide) (by decide)
          replace k := k.iinc (1 : Int32) #[.val (.int p1), .val (.ref a_FORMATS), .val (.int (5 : Int32)), .val (.int ((3 : Int32) + (1 : Int32))), .val (.ref a_HOLDINGS)] d1_34 rfl rfl rfl
          replace k := k.loc #[.val (.int p1), .val (.ref a_FORMATS), .val (.int (5 : Int32)), .val (.int (4 : Int32)), .val (.ref a_HOLDINGS)] (by rfl)
          replace k := k.goto (pc' := 9) d1_37 (by decide) (by decide)
          replace k := k.iloadN d1_9 rfl
          replace k := k.iloadN d1_10 rfl
          replace k := k.icmpNo d1_11 (by decide)
          replace k := k.aloadN d1_14 rfl rfl
          replace k := k.iloadN d1_15 rfl
          replace k := k.aaload d1_16 Af rfl 4 (by decide) (by decide) (by decide) (.ref a_COMMUNITY_INFORMATION) rfl
          replace k := k.astore #[.val (.int p1), .val (.ref a_FORMATS), .val (.int (5 : Int32)), .val (.int (4 : Int32)), .val (.ref a_COMMUNITY_INFORMATION)] d1_17 rfl rfl
          replace k := k.aload d1_19 rfl rfl
          replace k := k.getF d1_21 (host := "") (Or.inl (hw _ (List.mem_of_getElem? (i := 8) rfl))) Via.refl F_COMMUNITY_INFORMATION_typesOfRecord
          replace k := k.iloadN d1_24 rfl
          obtain ⟨_, _, ⟨rfl, rfl⟩, k⟩ := k.callV (y := (⟨"java/lang/String", "indexOf", "(I)I"⟩ : MethodName)) (z := (⟨"java/lang/String", "indexOf", "(I)I"⟩ : MethodName)) (a := a_COMMUNITY_INFORMATION_typesOfRecord) d1_25 (hw _ (List.mem_of_getElem? (i := 10) rfl)) (hw _ (List.mem_of_getElem? (i := 11) rfl)) (fun s hs => notFace_of_selects (args := #[]) (mvT hs (hw _ (List.mem_of_getElem? (i := 13) rfl)))) (hw _ (List.mem_of_getElem? (i := 13) rfl)) (hw _ (List.mem_of_getElem? (i := 12) rfl)) (hw _ (List.mem_of_getElem? (i := 14) rfl)) (hw _ (List.mem_of_getElem? (i := 15) rfl)) E_COMMUNITY_INFORMATION_typesOfRecord (W := 0) (argsL := [(.int p1)]) (rest := []) (rm2_1 Z a0 hw a_COMMUNITY_INFORMATION_typesOfRecord a_COMMUNITY_INFORMATION_typesOfRecord_value zC p1 (113 : Int32) h0 n0 S_COMPACT hC F_COMMUNITY_INFORMATION_typesOfRecord_coder F_COMMUNITY_INFORMATION_typesOfRecord_value E_COMMUNITY_INFORMATION_typesOfRecord Av_COMMUNITY_INFORMATION) rfl (pd_6) rfl rfl rfl (by decide) (by decide) (by decide) (by decide) (by decide)
          replace k := k.stk [(.int (own_li1 p1 (113 : Int32)))] rfl
          by_cases hc105 : (own_li1 p1 (113 : Int32)) < (0 : Int32)
          · skip
            replace k := k.ifYes (pc' := 34) d1_28 (tlt hc105).1 (by decide) (by decide)
            replace k := k.iinc (1 : Int32) #[.val (.int p1), .val (.ref a_FORMATS), .val (.int (5 : Int32)), .val (.int ((4 : Int32) + (1 : Int32))), .val (.ref a_COMMUNITY_INFORMATION)] d1_34 rfl rfl rfl
            replace k := k.loc #[.val (.int p1), .val (.ref a_FORMATS), .val (.int (5 : Int32)), .val (.int (5 : Int32)), .val (.ref a_COMMUNITY_INFORMATION)] (by rfl)
            replace k := k.goto (pc' := 9) d1_37 (by decide) (by decide)
            replace k := k.iloadN d1_9 rfl
            replace k := k.iloadN d1_10 rfl
            replace k := k.icmpYes (pc' := 40) d1_11 (by decide) (by decide) (by decide)
            replace k := k.getS d1_40 (host := "") (Or.inl (hw _ (List.mem_of_getElem? (i := 62) rfl))) Via.refl S_BIBLIOGRAPHIC
            exact k.aret d1_43 rfl rfl rfl rfl ⟨by rw [own_of, if_pos hc101, if_pos hc102, if_pos hc103, if_pos hc104, if_pos hc105], rfl⟩ (by decide) (by decide)
          · skip
            replace k := k.ifNo d1_28 (flt hc105).1
            replace k := k.aload d1_31 rfl rfl
            exact k.aret d1_33 rfl rfl rfl rfl ⟨by rw [own_of, if_pos hc101, if_pos hc102, if_pos hc103, if_pos hc104, if_neg hc105], rfl⟩ (by decide) (by decide)
        · skip
          replace k := k.ifNo d1_28 (flt hc104).1
          replace k := k.aload d1_31 rfl rfl
          exact k.aret d1_33 rfl rfl rfl rfl ⟨by rw [own_of, if_pos hc101, if_pos hc102, if_pos hc103, if_neg hc104], rfl⟩ (by decide) (by decide)
      · skip
        replace k := k.ifNo d1_28 (flt hc103).1
        replace k := k.aload d1_31 rfl rfl
        exact k.aret d1_33 rfl rfl rfl rfl ⟨by rw [own_of, if_pos hc101, if_pos hc102, if_neg hc103], rfl⟩ (by decide) (by decide)
    · skip
      replace k := k.ifNo d1_28 (flt hc102).1
      replace k := k.aload d1_31 rfl rfl
      exact k.aret d1_33 rfl rfl rfl rfl ⟨by rw [own_of, if_pos hc101, if_neg hc102], rfl⟩ (by decide) (by decide)
  · skip
    replace k := k.ifNo d1_28 (flt hc101).1
    replace k := k.aload d1_31 rfl rfl
    exact k.aret d1_33 rfl rfl rfl rfl ⟨by rw [own_of, if_neg hc101], rfl⟩ (by decide) (by decide)

theorem d12_0 : decode method_2_code 0 = .ok (.iload_n 0, 1) := by decide +kernel
theorem d12_1 : decode method_2_code 1 = .ok (.bipush 122, 2) := by decide +kernel
theorem d12_3 : decode method_2_code 3 = .ok (.if_icmp .ne 7, 3) := by decide +kernel
theorem d12_6 : decode method_2_code 6 = .ok (.getstatic 7, 3) := by decide +kernel
theorem d12_9 : decode method_2_code 9 = .ok (.areturn, 1) := by decide +kernel
theorem d12_10 : decode method_2_code 10 = .ok (.iload_n 0, 1) := by decide +kernel
theorem d12_11 : decode method_2_code 11 = .ok (.bipush 119, 2) := by decide +kernel
theorem d12_13 : decode method_2_code 13 = .ok (.if_icmp .ne 7, 3) := by decide +kernel
theorem d12_16 : decode method_2_code 16 = .ok (.getstatic 13, 3) := by decide +kernel
theorem d12_19 : decode method_2_code 19 = .ok (.areturn, 1) := by decide +kernel
theorem d12_20 : decode method_2_code 20 = .ok (.iload_n 0, 1) := by decide +kernel
theorem d12_21 : decode method_2_code 21 = .ok (.bipush 117, 2) := by decide +kernel
theorem d12_23 : decode method_2_code 23 = .ok (.if_icmp .eq 21, 3) := by decide +kernel
theorem d12_26 : decode method_2_code 26 = .ok (.iload_n 0, 1) := by decide +kernel
theorem d12_27 : decode method_2_code 27 = .ok (.bipush 118, 2) := by decide +kernel
theorem d12_29 : decode method_2_code 29 = .ok (.if_icmp .eq 15, 3) := by decide +kernel
theorem d12_32 : decode method_2_code 32 = .ok (.iload_n 0, 1) := by decide +kernel
theorem d12_33 : decode method_2_code 33 = .ok (.bipush 120, 2) := by decide +kernel
theorem d12_35 : decode method_2_code 35 = .ok (.if_icmp .eq 9, 3) := by decide +kernel
theorem d12_38 : decode method_2_code 38 = .ok (.iload_n 0, 1) := by decide +kernel
theorem d12_39 : decode method_2_code 39 = .ok (.bipush 121, 2) := by decide +kernel
theorem d12_41 : decode method_2_code 41 = .ok (.if_icmp .ne 7, 3) := by decide +kernel
theorem d12_44 : decode method_2_code 44 = .ok (.getstatic 16, 3) := by decide +kernel
theorem d12_47 : decode method_2_code 47 = .ok (.areturn, 1) := by decide +kernel
theorem d12_48 : decode method_2_code 48 = .ok (.iload_n 0, 1) := by decide +kernel
theorem d12_49 : decode method_2_code 49 = .ok (.bipush 113, 2) := by decide +kernel
theorem d12_51 : decode method_2_code 51 = .ok (.if_icmp .ne 7, 3) := by decide +kernel
theorem d12_54 : decode method_2_code 54 = .ok (.getstatic 19, 3) := by decide +kernel
theorem d12_57 : decode method_2_code 57 = .ok (.areturn, 1) := by decide +kernel
theorem d12_58 : decode method_2_code 58 = .ok (.getstatic 22, 3) := by decide +kernel
theorem d12_61 : decode method_2_code 61 = .ok (.areturn, 1) := by decide +kernel
set_option maxRecDepth 65536 in
set_option maxHeartbeats 40000000 in
theorem rm12 (Z : State) (a0 : Array Value) (hw : ∀ d ∈ tables_1, d.before a0 Z = true) (p1 : Int32) (a_BIBLIOGRAPHIC a_AUTHORITY a_CLASSIFICATION a_HOLDINGS a_COMMUNITY_INFORMATION : Addr) (h0 : Heap) (n0 : Nat) (S_BIBLIOGRAPHIC : Sta Z h0 "com/example/lieudit/lieudit/RecordFormat" "BIBLIOGRAPHIC" "Lcom/example/lieudit/lieudit/RecordFormat;" (.ref a_BIBLIOGRAPHIC)) (S_AUTHORITY : Sta Z h0 "com/example/lieudit/lieudit/RecordFormat" "AUTHORITY" "Lcom/example/lieudit/lieudit/RecordFormat;" (.ref a_AUTHORITY)) (S_CLASSIFICATION : Sta Z h0 "com/example/lieudit/lieudit/RecordFormat" "CLASSIFICATION" "Lcom/example/lieudit/lieudit/RecordFormat;" (.ref a_CLASSIFICATION)) (S_HOLDINGS : Sta Z h0 "com/example/lieudit/lieudit/RecordFormat" "HOLDINGS" "Lcom/example/lieudit/lieudit/RecordFormat;" (.ref a_HOLDINGS)) (S_COMMUNITY_INFORMATION : Sta Z h0 "com/example/lieudit/lieudit/RecordFormat" "COMMUNITY_INFORMATION" "Lcom/example/lieudit/lieudit/RecordFormat;" (.ref a_COMMUNITY_INFORMATION)) :
    Con Z n0 (⟨"com/example/lieudit/lieudit/RecordFormatOfPinLaw", "expected", "(C)Lcom/example/lieudit/lieudit/RecordFormat;"⟩ : MethodName) method_2_code 1 (some (.object "com/example/lieudit/lieudit/RecordFormat")) [] ({ frames := 0, cells := 0, slots := 0, locals := 0 } : Room) #[(.int p1)] h0 (fun v h => v = some (own_exp p1 a_BIBLIOGRAPHIC a_AUTHORITY a_CLASSIFICATION a_HOLDINGS a_COMMUNITY_INFORMATION) ∧ h0 = h) := by
  refine Con.intro (L0 := #[.val (.int p1)]) (plainFor_of_name (by first | (simp [plainName, overriddenIn]; done) | decide +kernel)) (fun m => by first | (simp [entryFrame, mkF, argsToLocals, Value.category]; done) | rfl) ?_
  intro C k
  replace k := k.iloadN d12_0 rfl
  replace k := k.bipush (122 : Int32) d12_1 rfl
  by_cases hc101 : p1 = (122 : Int32)
  · skip
    replace k := k.icmpNo d12_3 (teq hc101).2
    replace k := k.getS d12_6 (host := "") (Or.inl (hw _ (List.mem_of_getElem? (i := 72) rfl))) Via.refl S_AUTHORITY
    exact k.aret d12_9 rfl rfl rfl rfl ⟨by rw [own_exp, if_pos hc101], rfl⟩ (by decide) (by decide)
  · skip
    replace k := k.icmpYes (pc' := 10) d12_3 (feq hc101).2 (by decide) (by decide)
    replace k := k.iloadN d12_10 rfl
    replace k := k.bipush (119 : Int32) d12_11 rfl
    by_cases hc102 : p1 = (119 : Int32)
    · skip
      replace k := k.icmpNo d12_13 (teq hc102).2
      replace k := k.getS d12_16 (host := "") (Or.inl (hw _ (List.mem_of_getElem? (i := 69) rfl))) Via.refl S_CLASSIFICATION
      exact k.aret d12_19 rfl rfl rfl rfl ⟨by rw [own_exp, if_neg hc101, if_pos hc102], rfl⟩ (by decide) (by decide)
    · skip
      replace k := k.icmpYes (pc' := 20) d12_13 (feq hc102).2 (by decide) (by decide)
      replace k := k.iloadN d12_20 rfl
      replace k := k.bipush (117 : Int32) d12_21 rfl
      by_cases hc103 : p1 = (117 : Int32)
      · skip
        replace k := k.icmpYes (pc' := 44) d12_23 (teq hc103).1 (by decide) (by decide)
        replace k := k.getS d12_44 (host := "") (Or.inl (hw _ (List.mem_of_getElem? (i := 71) rfl))) Via.refl S_HOLDINGS
        exact k.aret d12_47 rfl rfl rfl rfl ⟨by rw [own_exp, if_neg hc101, if_neg hc102, if_pos hc103], rfl⟩ (by decide) (by decide)
      · skip
        replace k := k.icmpNo d12_23 (feq hc103).1
        replace k := k.iloadN d12_26 rfl
        replace k := k.bipush (118 : Int32) d12_27 rfl
        by_cases hc104 : p1 = (118 : Int32)
        · skip
          replace k := k.icmpYes (pc' := 44) d12_29 (teq hc104).1 (by decide) (by decide)
          replace k := k.getS d12_44 (host := "") (Or.inl (hw _ (List.mem_of_getElem? (i := 71) rfl))) Via.refl S_HOLDINGS
          exact k.aret d12_47 rfl rfl rfl rfl ⟨by rw [own_exp, if_neg hc101, if_neg hc102, if_neg hc103, if_pos hc104], rfl⟩ (by decide) (by decide)
        · skip
          replace k := k.icmpNo d12_29 (feq hc104).1
          replace k := k.iloadN d12_32 rfl
          replace k := k.bipush (120 : Int32) d12_33 rfl
          by_cases hc105 : p1 = (120 : Int32)
          · skip
            replace k := k.icmpYes (pc' := 44) d12_35 (teq hc105).1 (by decide) (by decide)
            replace k := k.getS d12_44 (host := "") (Or.inl (hw _ (List.mem_of_getElem? (i := 71) rfl))) Via.refl S_HOLDINGS
            exact k.aret d12_47 rfl rfl rfl rfl ⟨by rw [own_exp, if_neg hc101, if_neg hc102, if_neg hc103, if_neg hc104, if_pos hc105], rfl⟩ (by decide) (by decide)
          · skip
            replace k := k.icmpNo d12_35 (feq hc105).1
            replace k := k.iloadN d12_38 rfl
            replace k := k.bipush (121 : Int32) d12_39 rfl
            by_cases hc106 : p1 = (121 : Int32)
            · skip
              replace k := k.icmpNo d12_41 (teq hc106).2
              replace k := k.getS d12_44 (host := "") (Or.inl (hw _ (List.mem_of_getElem? (i := 71) rfl))) Via.refl S_HOLDINGS
              exact k.aret d12_47 rfl rfl rfl rfl ⟨by rw [own_exp, if_neg hc101, if_neg hc102, if_neg hc103, if_neg hc104, if_neg hc105, if_pos hc106], rfl⟩ (by decide) (by decide)
            · skip
              replace k := k.icmpYes (pc' := 48) d12_41 (feq hc106).2 (by decide) (by decide)
              replace k := k.iloadN d12_48 rfl
              replace k := k.bipush (113 : Int32) d12_49 rfl
              by_cases hc107 : p1 = (113 : Int32)
              · skip
                replace k := k.icmpNo d12_51 (teq hc107).2
                replace k := k.getS d12_54 (host := "") (Or.inl (hw _ (List.mem_of_getElem? (i := 70) rfl))) Via.refl S_COMMUNITY_INFORMATION
                exact k.aret d12_57 rfl rfl rfl rfl ⟨by rw [own_exp, if_neg hc101, if_neg hc102, if_neg hc103, if_neg hc104, if_neg hc105, if_neg hc106, if_pos hc107], rfl⟩ (by decide) (by decide)
              · skip
                replace k := k.icmpYes (pc' := 58) d12_51 (feq hc107).2 (by decide) (by decide)
                replace k := k.getS d12_58 (host := "") (Or.inl (hw _ (List.mem_of_getElem? (i := 67) rfl))) Via.refl S_BIBLIOGRAPHIC
                exact k.aret d12_61 rfl rfl rfl rfl ⟨by rw [own_exp, if_neg hc101, if_neg hc102, if_neg hc103, if_neg hc104, if_neg hc105, if_neg hc106, if_neg hc107], rfl⟩ (by decide) (by decide)

set_option maxRecDepth 65536 in
set_option maxHeartbeats 40000000 in
theorem rm0 (Z : State) (a0 : Array Value) (hw : ∀ d ∈ tables_1, d.before a0 Z = true) (p1 p2 zC : Int32) (a_FORMATS : Addr) (cl_FORMATS : Cell) (a_BIBLIOGRAPHIC : Addr) (a_BIBLIOGRAPHIC_typesOfRecord : Addr) (a_BIBLIOGRAPHIC_typesOfRecord_value : Addr) (cl_BIBLIOGRAPHIC_typesOfRecord_value : Cell) (a_AUTHORITY : Addr) (a_AUTHORITY_typesOfRecord : Addr) (a_AUTHORITY_typesOfRecord_value : Addr) (cl_AUTHORITY_typesOfRecord_value : Cell) (a_CLASSIFICATION : Addr) (a_CLASSIFICATION_typesOfRecord : Addr) (a_CLASSIFICATION_typesOfRecord_value : Addr) (cl_CLASSIFICATION_typesOfRecord_value : Cell) (a_HOLDINGS : Addr) (a_HOLDINGS_typesOfRecord : Addr) (a_HOLDINGS_typesOfRecord_value : Addr) (cl_HOLDINGS_typesOfRecord_value : Cell) (a_COMMUNITY_INFORMATION : Addr) (a_COMMUNITY_INFORMATION_typesOfRecord : Addr) (a_COMMUNITY_INFORMATION_typesOfRecord_value : Addr) (cl_COMMUNITY_INFORMATION_typesOfRecord_value : Cell) (h0 : Heap) (n0 : Nat) (S_COMPACT : Sta Z h0 "java/lang/String" "COMPACT_STRINGS" "Z" (.int zC)) (hC : ¬ (zC = (0 : Int32))) (S_FORMATS : Sta Z h0 "com/example/lieudit/lieudit/RecordFormat" "FORMATS" "[Lcom/example/lieudit/lieudit/RecordFormat;" (.ref a_FORMATS)) (Ar_FORMATS : Arr Z h0 a_FORMATS cl_FORMATS (.object "com/example/lieudit/lieudit/RecordFormat")) (Sz_FORMATS : cl_FORMATS.slots.size = 5) (S_BIBLIOGRAPHIC : Sta Z h0 "com/example/lieudit/lieudit/RecordFormat" "BIBLIOGRAPHIC" "Lcom/example/lieudit/lieudit/RecordFormat;" (.ref a_BIBLIOGRAPHIC)) (E_BIBLIOGRAPHIC : Exa Z h0 a_BIBLIOGRAPHIC "com/example/lieudit/lieudit/RecordFormat") (at_FORMATS_0 : cl_FORMATS.slots[0]? = some (.ref a_BIBLIOGRAPHIC)) (F_BIBLIOGRAPHIC_typesOfRecord : Fld Z h0 a_BIBLIOGRAPHIC "com/example/lieudit/lieudit/RecordFormat" "typesOfRecord" "Ljava/lang/String;" (.ref a_BIBLIOGRAPHIC_typesOfRecord)) (E_BIBLIOGRAPHIC_typesOfRecord : Exa Z h0 a_BIBLIOGRAPHIC_typesOfRecord "java/lang/String") (F_BIBLIOGRAPHIC_typesOfRecord_coder : Fld Z h0 a_BIBLIOGRAPHIC_typesOfRecord "java/lang/String" "coder" "B" (.int (0 : Int32))) (F_BIBLIOGRAPHIC_typesOfRecord_value : Fld Z h0 a_BIBLIOGRAPHIC_typesOfRecord "java/lang/String" "value" "[B" (.ref a_BIBLIOGRAPHIC_typesOfRecord_value)) (Ar_BIBLIOGRAPHIC_typesOfRecord_value : Arr Z h0 a_BIBLIOGRAPHIC_typesOfRecord_value cl_BIBLIOGRAPHIC_typesOfRecord_value .byte) (Sz_BIBLIOGRAPHIC_typesOfRecord_value : cl_BIBLIOGRAPHIC_typesOfRecord_value.slots.size = 0) (S_AUTHORITY : Sta Z h0 "com/example/lieudit/lieudit/RecordFormat" "AUTHORITY" "Lcom/example/lieudit/lieudit/RecordFormat;" (.ref a_AUTHORITY)) (E_AUTHORITY : Exa Z h0 a_AUTHORITY "com/example/lieudit/lieudit/RecordFormat") (at_FORMATS_1 : cl_FORMATS.slots[1]? = some (.ref a_AUTHORITY)) (F_AUTHORITY_typesOfRecord : Fld Z h0 a_AUTHORITY "com/example/lieudit/lieudit/RecordFormat" "typesOfRecord" "Ljava/lang/String;" (.ref a_AUTHORITY_typesOfRecord)) (E_AUTHORITY_typesOfRecord : Exa Z h0 a_AUTHORITY_typesOfRecord "java/lang/String") (F_AUTHORITY_typesOfRecord_coder : Fld Z h0 a_AUTHORITY_typesOfRecord "java/lang/String" "coder" "B" (.int (0 : Int32))) (F_AUTHORITY_typesOfRecord_value : Fld Z h0 a_AUTHORITY_typesOfRecord "java/lang/String" "value" "[B" (.ref a_AUTHORITY_typesOfRecord_value)) (Ar_AUTHORITY_typesOfRecord_value : Arr Z h0 a_AUTHORITY_typesOfRecord_value cl_AUTHORITY_typesOfRecord_value .byte) (Sz_AUTHORITY_typesOfRecord_value : cl_AUTHORITY_typesOfRecord_value.slots.size = 1) (at_AUTHORITY_typesOfRecord_value_0 : cl_AUTHORITY_typesOfRecord_value.slots[0]? = some (.int (122 : Int32))) (S_CLASSIFICATION : Sta Z h0 "com/example/lieudit/lieudit/RecordFormat" "CLASSIFICATION" "Lcom/example/lieudit/lieudit/RecordFormat;" (.ref a_CLASSIFICATION)) (E_CLASSIFICATION : Exa Z h0 a_CLASSIFICATION "com/example/lieudit/lieudit/RecordFormat") (at_FORMATS_2 : cl_FORMATS.slots[2]? = some (.ref a_CLASSIFICATION)) (F_CLASSIFICATION_typesOfRecord : Fld Z h0 a_CLASSIFICATION "com/example/lieudit/lieudit/RecordFormat" "typesOfRecord" "Ljava/lang/String;" (.ref a_CLASSIFICATION_typesOfRecord)) (E_CLASSIFICATION_typesOfRecord : Exa Z h0 a_CLASSIFICATION_typesOfRecord "java/lang/String") (F_CLASSIFICATION_typesOfRecord_coder : Fld Z h0 a_CLASSIFICATION_typesOfRecord "java/lang/String" "coder" "B" (.int (0 : Int32))) (F_CLASSIFICATION_typesOfRecord_value : Fld Z h0 a_CLASSIFICATION_typesOfRecord "java/lang/String" "value" "[B" (.ref a_CLASSIFICATION_typesOfRecord_value)) (Ar_CLASSIFICATION_typesOfRecord_value : Arr Z h0 a_CLASSIFICATION_typesOfRecord_value cl_CLASSIFICATION_typesOfRecord_value .byte) (Sz_CLASSIFICATION_typesOfRecord_value : cl_CLASSIFICATION_typesOfRecord_value.slots.size = 1) (at_CLASSIFICATION_typesOfRecord_value_0 : cl_CLASSIFICATION_typesOfRecord_value.slots[0]? = some (.int (119 : Int32))) (S_HOLDINGS : Sta Z h0 "com/example/lieudit/lieudit/RecordFormat" "HOLDINGS" "Lcom/example/lieudit/lieudit/RecordFormat;" (.ref a_HOLDINGS)) (E_HOLDINGS : Exa Z h0 a_HOLDINGS "com/example/lieudit/lieudit/RecordFormat") (at_FORMATS_3 : cl_FORMATS.slots[3]? = some (.ref a_HOLDINGS)) (F_HOLDINGS_typesOfRecord : Fld Z h0 a_HOLDINGS "com/example/lieudit/lieudit/RecordFormat" "typesOfRecord" "Ljava/lang/String;" (.ref a_HOLDINGS_typesOfRecord)) (E_HOLDINGS_typesOfRecord : Exa Z h0 a_HOLDINGS_typesOfRecord "java/lang/String") (F_HOLDINGS_typesOfRecord_coder : Fld Z h0 a_HOLDINGS_typesOfRecord "java/lang/String" "coder" "B" (.int (0 : Int32))) (F_HOLDINGS_typesOfRecord_value : Fld Z h0 a_HOLDINGS_typesOfRecord "java/lang/String" "value" "[B" (.ref a_HOLDINGS_typesOfRecord_value)) (Ar_HOLDINGS_typesOfRecord_value : Arr Z h0 a_HOLDINGS_typesOfRecord_value cl_HOLDINGS_typesOfRecord_value .byte) (Sz_HOLDINGS_typesOfRecord_value : cl_HOLDINGS_typesOfRecord_value.slots.size = 4) (at_HOLDINGS_typesOfRecord_value_0 : cl_HOLDINGS_typesOfRecord_value.slots[0]? = some (.int (117 : Int32))) (at_HOLDINGS_typesOfRecord_value_1 : cl_HOLDINGS_typesOfRecord_value.slots[1]? = some (.int (118 : Int32))) (at_HOLDINGS_typesOfRecord_value_2 : cl_HOLDINGS_typesOfRecord_value.slots[2]? = some (.int (120 : Int32))) (at_HOLDINGS_typesOfRecord_value_3 : cl_HOLDINGS_typesOfRecord_value.slots[3]? = some (.int (121 : Int32))) (S_COMMUNITY_INFORMATION : Sta Z h0 "com/example/lieudit/lieudit/RecordFormat" "COMMUNITY_INFORMATION" "Lcom/example/lieudit/lieudit/RecordFormat;" (.ref a_COMMUNITY_INFORMATION)) (E_COMMUNITY_INFORMATION : Exa Z h0 a_COMMUNITY_INFORMATION "com/example/lieudit/lieudit/RecordFormat") (at_FORMATS_4 : cl_FORMATS.slots[4]? = some (.ref a_COMMUNITY_INFORMATION)) (F_COMMUNITY_INFORMATION_typesOfRecord : Fld Z h0 a_COMMUNITY_INFORMATION "com/example/lieudit/lieudit/RecordFormat" "typesOfRecord" "Ljava/lang/String;" (.ref a_COMMUNITY_INFORMATION_typesOfRecord)) (E_COMMUNITY_INFORMATION_typesOfRecord : Exa Z h0 a_COMMUNITY_INFORMATION_typesOfRecord "java/lang/String") (F_COMMUNITY_INFORMATION_typesOfRecord_coder : Fld Z h0 a_COMMUNITY_INFORMATION_typesOfRecord "java/lang/String" "coder" "B" (.int (0 : Int32))) (F_COMMUNITY_INFORMATION_typesOfRecord_value : Fld Z h0 a_COMMUNITY_INFORMATION_typesOfRecord "java/lang/String" "value" "[B" (.ref a_COMMUNITY_INFORMATION_typesOfRecord_value)) (Ar_COMMUNITY_INFORMATION_typesOfRecord_value : Arr Z h0 a_COMMUNITY_INFORMATION_typesOfRecord_value cl_COMMUNITY_INFORMATION_typesOfRecord_value .byte) (Sz_COMMUNITY_INFORMATION_typesOfRecord_value : cl_COMMUNITY_INFORMATION_typesOfRecord_value.slots.size = 1) (at_COMMUNITY_INFORMATION_typesOfRecord_value_0 : cl_COMMUNITY_INFORMATION_typesOfRecord_value.slots[0]? = some (.int (113 : Int32))) :
    Con Z n0 x code maxLocals ret tables_1 room_1 #[(.int p1), (.int p2)] h0 (fun v h => v = some (.int (1 : Int32))) := by
  refine Con.intro (L0 := #[.val (.int p1), .val (.int p2), .unset]) (plainFor_of_name (by first | (simp [plainName, overriddenIn]; done) | decide +kernel)) (fun m => by first | (simp [entryFrame, mkF, argsToLocals, Value.category, maxLocals]; done) | rfl) ?_
  intro C k
  replace k := k.iloadN at_0 rfl
  replace k := k.iconst (1 : Int32) at_1 rfl
  replace k := k.iand at_2
  by_cases hc101 : (p1 &&& (1 : Int32)) = (0 : Int32)
  · skip
    replace k := k.ifYes (pc' := 21) at_3 (teq hc101).1 (by decide) (by decide)
    replace k := k.iloadN at_21 rfl
    replace k := k.ldcInt at_22 (hw _ (List.mem_of_getElem? (i := 0) rfl))
    replace k := k.iand at_24
    replace k := k.i2c at_25
    replace k := k.istoreN #[.val (.int p1), .val (.int p2), .val (.int ((p2 &&& (65535 : Int32)).toUInt32.toUInt16.toUInt32.toInt32))] at_26 rfl
    replace k := k.iloadN at_27 rfl
    obtain ⟨_, _, ⟨rfl, rfl⟩, k⟩ := k.callS (y := (⟨"com/example/lieudit/lieudit/RecordFormat", "of", "(C)Lcom/example/lieudit/lieudit/RecordFormat;"⟩ : MethodName)) at_28 (hw _ (List.mem_of_getElem? (i := 1) rfl)) (hw _ (List.mem_of_getElem? (i := 2) rfl)) (hw _ (List.mem_of_getElem? (i := 3) rfl)) (hw _ (List.mem_of_getElem? (i := 4) rfl)) (W := 0) (argsL := [(.int ((p2 &&& (65535 : Int32)).toUInt32.toUInt16.toUInt32.toInt32))]) (rest := []) (rm1 Z a0 hw ((p2 &&& (65535 : Int32)).toUInt32.toUInt16.toUInt32.toInt32) zC a_FORMATS cl_FORMATS a_BIBLIOGRAPHIC a_BIBLIOGRAPHIC_typesOfRecord a_BIBLIOGRAPHIC_typesOfRecord_value cl_BIBLIOGRAPHIC_typesOfRecord_value a_AUTHORITY a_AUTHORITY_typesOfRecord a_AUTHORITY_typesOfRecord_value cl_AUTHORITY_typesOfRecord_value a_CLASSIFICATION a_CLASSIFICATION_typesOfRecord a_CLASSIFICATION_typesOfRecord_value cl_CLASSIFICATION_typesOfRecord_value a_HOLDINGS a_HOLDINGS_typesOfRecord a_HOLDINGS_typesOfRecord_value cl_HOLDINGS_typesOfRecord_value a_COMMUNITY_INFORMATION a_COMMUNITY_INFORMATION_typesOfRecord a_COMMUNITY_INFORMATION_typesOfRecord_value cl_COMMUNITY_INFORMATION_typesOfRecord_value h0 n0 S_COMPACT hC S_FORMATS Ar_FORMATS Sz_FORMATS S_BIBLIOGRAPHIC E_BIBLIOGRAPHIC at_FORMATS_0 F_BIBLIOGRAPHIC_typesOfRecord E_BIBLIOGRAPHIC_typesOfRecord F_BIBLIOGRAPHIC_typesOfRecord_coder F_BIBLIOGRAPHIC_typesOfRecord_value Ar_BIBLIOGRAPHIC_typesOfRecord_value Sz_BIBLIOGRAPHIC_typesOfRecord_value S_AUTHORITY E_AUTHORITY at_FORMATS_1 F_AUTHORITY_typesOfRecord E_AUTHORITY_typesOfRecord F_AUTHORITY_typesOfRecord_coder F_AUTHORITY_typesOfRecord_value Ar_AUTHORITY_typesOfRecord_value Sz_AUTHORITY_typesOfRecord_value at_AUTHORITY_typesOfRecord_value_0 S_CLASSIFICATION E_CLASSIFICATION at_FORMATS_2 F_CLASSIFICATION_typesOfRecord E_CLASSIFICATION_typesOfRecord F_CLASSIFICATION_typesOfRecord_coder F_CLASSIFICATION_typesOfRecord_value Ar_CLASSIFICATION_typesOfRecord_value Sz_CLASSIFICATION_typesOfRecord_value at_CLASSIFICATION_typesOfRecord_value_0 S_HOLDINGS E_HOLDINGS at_FORMATS_3 F_HOLDINGS_typesOfRecord E_HOLDINGS_typesOfRecord F_HOLDINGS_typesOfRecord_coder F_HOLDINGS_typesOfRecord_value Ar_HOLDINGS_typesOfRecord_value Sz_HOLDINGS_typesOfRecord_value at_HOLDINGS_typesOfRecord_value_0 at_HOLDINGS_typesOfRecord_value_1 at_HOLDINGS_typesOfRecord_value_2 at_HOLDINGS_typesOfRecord_value_3 S_COMMUNITY_INFORMATION E_COMMUNITY_INFORMATION at_FORMATS_4 F_COMMUNITY_INFORMATION_typesOfRecord E_COMMUNITY_INFORMATION_typesOfRecord F_COMMUNITY_INFORMATION_typesOfRecord_coder F_COMMUNITY_INFORMATION_typesOfRecord_value Ar_COMMUNITY_INFORMATION_typesOfRecord_value Sz_COMMUNITY_INFORMATION_typesOfRecord_value at_COMMUNITY_INFORMATION_typesOfRecord_value_0) rfl (pd_7) rfl rfl rfl (by decide) (by decide) (by decide) (by decide) (by decide)
    replace k := k.stk [(own_of ((p2 &&& (65535 : Int32)).toUInt32.toUInt16.toUInt32.toInt32) a_BIBLIOGRAPHIC a_AUTHORITY a_CLASSIFICATION a_HOLDINGS a_COMMUNITY_INFORMATION)] rfl
    obtain ⟨ro102, hro102⟩ := own_ofE ((p2 &&& (65535 : Int32)).toUInt32.toUInt16.toUInt32.toInt32) a_BIBLIOGRAPHIC a_AUTHORITY a_CLASSIFICATION a_HOLDINGS a_COMMUNITY_INFORMATION
    replace k := k.stk [(.ref ro102)] (by rw [hro102])
    replace k := k.iloadN at_31 rfl
    obtain ⟨_, _, ⟨rfl, rfl⟩, k⟩ := k.callS (y := (⟨"com/example/lieudit/lieudit/RecordFormatOfPinLaw", "expected", "(C)Lcom/example/lieudit/lieudit/RecordFormat;"⟩ : MethodName)) at_32 (hw _ (List.mem_of_getElem? (i := 63) rfl)) (hw _ (List.mem_of_getElem? (i := 64) rfl)) (hw _ (List.mem_of_getElem? (i := 65) rfl)) (hw _ (List.mem_of_getElem? (i := 66) rfl)) (W := 1) (argsL := [(.int ((p2 &&& (65535 : Int32)).toUInt32.toUInt16.toUInt32.toInt32))]) (rest := [(.ref ro102)]) (rm12 Z a0 hw ((p2 &&& (65535 : Int32)).toUInt32.toUInt16.toUInt32.toInt32) a_BIBLIOGRAPHIC a_AUTHORITY a_CLASSIFICATION a_HOLDINGS a_COMMUNITY_INFORMATION h0 n0 S_BIBLIOGRAPHIC S_AUTHORITY S_CLASSIFICATION S_HOLDINGS S_COMMUNITY_INFORMATION) rfl (pd_7) rfl rfl rfl (by decide) (by decide) (by decide) (by decide) (by decide)
    replace k := k.stk [(own_exp ((p2 &&& (65535 : Int32)).toUInt32.toUInt16.toUInt32.toInt32) a_BIBLIOGRAPHIC a_AUTHORITY a_CLASSIFICATION a_HOLDINGS a_COMMUNITY_INFORMATION), (.ref ro102)] rfl
    obtain ⟨re103, hre103⟩ := own_expE ((p2 &&& (65535 : Int32)).toUInt32.toUInt16.toUInt32.toInt32) a_BIBLIOGRAPHIC a_AUTHORITY a_CLASSIFICATION a_HOLDINGS a_COMMUNITY_INFORMATION
    replace k := k.stk [(.ref re103), (.ref ro102)] (by rw [hre103])
    replace k := k.acmpNo at_35 rfl rfl (ac_eq (hro102.symm.trans ((own_law _ _ _ _ _ _ (own_char _)).trans hre103))).2
    replace k := k.iconst (1 : Int32) at_38 rfl
    replace k := k.goto (pc' := 43) at_39 (by decide) (by decide)
    exact k.iret at_43 rfl (by simp) rfl rfl (by decide) (by decide)
  · skip
    replace k := k.ifNo at_3 (feq hc101).1
    replace k := k.bipush (111 : Int32) at_6 rfl
    replace k := k.iloadN at_8 rfl
    replace k := k.ldcInt at_9 (hw _ (List.mem_of_getElem? (i := 68) rfl))
    replace k := k.iand at_11
    replace k := k.bipush (14 : Int32) at_12 rfl
    replace k := k.irem at_14 (by decide)
    replace k := k.iadd at_15
    replace k := k.i2c at_16
    replace k := k.istoreN #[.val (.int p1), .val (.int p2), .val (.int (((111 : Int32) + ((p2 &&& (2147483647 : Int32)) % (14 : Int32))).toUInt32.toUInt16.toUInt32.toInt32))] at_17 rfl
    replace k := k.goto (pc' := 27) at_18 (by decide) (by decide)
    replace k := k.iloadN at_27 rfl
    obtain ⟨_, _, ⟨rfl, rfl⟩, k⟩ := k.callS (y := (⟨"com/example/lieudit/lieudit/RecordFormat", "of", "(C)Lcom/example/lieudit/lieudit/RecordFormat;"⟩ : MethodName)) at_28 (hw _ (List.mem_of_getElem? (i := 1) rfl)) (hw _ (List.mem_of_getElem? (i := 2) rfl)) (hw _ (List.mem_of_getElem? (i := 3) rfl)) (hw _ (List.mem_of_getElem? (i := 4) rfl)) (W := 0) (argsL := [(.int (((111 : Int32) + ((p2 &&& (2147483647 : Int32)) % (14 : Int32))).toUInt32.toUInt16.toUInt32.toInt32))]) (rest := []) (rm1 Z a0 hw (((111 : Int32) + ((p2 &&& (2147483647 : Int32)) % (14 : Int32))).toUInt32.toUInt16.toUInt32.toInt32) zC a_FORMATS cl_FORMATS a_BIBLIOGRAPHIC a_BIBLIOGRAPHIC_typesOfRecord a_BIBLIOGRAPHIC_typesOfRecord_value cl_BIBLIOGRAPHIC_typesOfRecord_value a_AUTHORITY a_AUTHORITY_typesOfRecord a_AUTHORITY_typesOfRecord_value cl_AUTHORITY_typesOfRecord_value a_CLASSIFICATION a_CLASSIFICATION_typesOfRecord a_CLASSIFICATION_typesOfRecord_value cl_CLASSIFICATION_typesOfRecord_value a_HOLDINGS a_HOLDINGS_typesOfRecord a_HOLDINGS_typesOfRecord_value cl_HOLDINGS_typesOfRecord_value a_COMMUNITY_INFORMATION a_COMMUNITY_INFORMATION_typesOfRecord a_COMMUNITY_INFORMATION_typesOfRecord_value cl_COMMUNITY_INFORMATION_typesOfRecord_value h0 n0 S_COMPACT hC S_FORMATS Ar_FORMATS Sz_FORMATS S_BIBLIOGRAPHIC E_BIBLIOGRAPHIC at_FORMATS_0 F_BIBLIOGRAPHIC_typesOfRecord E_BIBLIOGRAPHIC_typesOfRecord F_BIBLIOGRAPHIC_typesOfRecord_coder F_BIBLIOGRAPHIC_typesOfRecord_value Ar_BIBLIOGRAPHIC_typesOfRecord_value Sz_BIBLIOGRAPHIC_typesOfRecord_value S_AUTHORITY E_AUTHORITY at_FORMATS_1 F_AUTHORITY_typesOfRecord E_AUTHORITY_typesOfRecord F_AUTHORITY_typesOfRecord_coder F_AUTHORITY_typesOfRecord_value Ar_AUTHORITY_typesOfRecord_value Sz_AUTHORITY_typesOfRecord_value at_AUTHORITY_typesOfRecord_value_0 S_CLASSIFICATION E_CLASSIFICATION at_FORMATS_2 F_CLASSIFICATION_typesOfRecord E_CLASSIFICATION_typesOfRecord F_CLASSIFICATION_typesOfRecord_coder F_CLASSIFICATION_typesOfRecord_value Ar_CLASSIFICATION_typesOfRecord_value Sz_CLASSIFICATION_typesOfRecord_value at_CLASSIFICATION_typesOfRecord_value_0 S_HOLDINGS E_HOLDINGS at_FORMATS_3 F_HOLDINGS_typesOfRecord E_HOLDINGS_typesOfRecord F_HOLDINGS_typesOfRecord_coder F_HOLDINGS_typesOfRecord_value Ar_HOLDINGS_typesOfRecord_value Sz_HOLDINGS_typesOfRecord_value at_HOLDINGS_typesOfRecord_value_0 at_HOLDINGS_typesOfRecord_value_1 at_HOLDINGS_typesOfRecord_value_2 at_HOLDINGS_typesOfRecord_value_3 S_COMMUNITY_INFORMATION E_COMMUNITY_INFORMATION at_FORMATS_4 F_COMMUNITY_INFORMATION_typesOfRecord E_COMMUNITY_INFORMATION_typesOfRecord F_COMMUNITY_INFORMATION_typesOfRecord_coder F_COMMUNITY_INFORMATION_typesOfRecord_value Ar_COMMUNITY_INFORMATION_typesOfRecord_value Sz_COMMUNITY_INFORMATION_typesOfRecord_value at_COMMUNITY_INFORMATION_typesOfRecord_value_0) rfl (pd_7) rfl rfl rfl (by decide) (by decide) (by decide) (by decide) (by decide)
    replace k := k.stk [(own_of (((111 : Int32) + ((p2 &&& (2147483647 : Int32)) % (14 : Int32))).toUInt32.toUInt16.toUInt32.toInt32) a_BIBLIOGRAPHIC a_AUTHORITY a_CLASSIFICATION a_HOLDINGS a_COMMUNITY_INFORMATION)] rfl
    obtain ⟨ro104, hro104⟩ := own_ofE (((111 : Int32) + ((p2 &&& (2147483647 : Int32)) % (14 : Int32))).toUInt32.toUInt16.toUInt32.toInt32) a_BIBLIOGRAPHIC a_AUTHORITY a_CLASSIFICATION a_HOLDINGS a_COMMUNITY_INFORMATION
    replace k := k.stk [(.ref ro104)] (by rw [hro104])
    replace k := k.iloadN at_31 rfl
    obtain ⟨_, _, ⟨rfl, rfl⟩, k⟩ := k.callS (y := (⟨"com/example/lieudit/lieudit/RecordFormatOfPinLaw", "expected", "(C)Lcom/example/lieudit/lieudit/RecordFormat;"⟩ : MethodName)) at_32 (hw _ (List.mem_of_getElem? (i := 63) rfl)) (hw _ (List.mem_of_getElem? (i := 64) rfl)) (hw _ (List.mem_of_getElem? (i := 65) rfl)) (hw _ (List.mem_of_getElem? (i := 66) rfl)) (W := 1) (argsL := [(.int (((111 : Int32) + ((p2 &&& (2147483647 : Int32)) % (14 : Int32))).toUInt32.toUInt16.toUInt32.toInt32))]) (rest := [(.ref ro104)]) (rm12 Z a0 hw (((111 : Int32) + ((p2 &&& (2147483647 : Int32)) % (14 : Int32))).toUInt32.toUInt16.toUInt32.toInt32) a_BIBLIOGRAPHIC a_AUTHORITY a_CLASSIFICATION a_HOLDINGS a_COMMUNITY_INFORMATION h0 n0 S_BIBLIOGRAPHIC S_AUTHORITY S_CLASSIFICATION S_HOLDINGS S_COMMUNITY_INFORMATION) rfl (pd_7) rfl rfl rfl (by decide) (by decide) (by decide) (by decide) (by decide)
    replace k := k.stk [(own_exp (((111 : Int32) + ((p2 &&& (2147483647 : Int32)) % (14 : Int32))).toUInt32.toUInt16.toUInt32.toInt32) a_BIBLIOGRAPHIC a_AUTHORITY a_CLASSIFICATION a_HOLDINGS a_COMMUNITY_INFORMATION), (.ref ro104)] rfl
    obtain ⟨re105, hre105⟩ := own_expE (((111 : Int32) + ((p2 &&& (2147483647 : Int32)) % (14 : Int32))).toUInt32.toUInt16.toUInt32.toInt32) a_BIBLIOGRAPHIC a_AUTHORITY a_CLASSIFICATION a_HOLDINGS a_COMMUNITY_INFORMATION
    replace k := k.stk [(.ref re105), (.ref ro104)] (by rw [hre105])
    replace k := k.acmpNo at_35 rfl rfl (ac_eq (hro104.symm.trans ((own_law _ _ _ _ _ _ (own_char _)).trans hre105))).2
    replace k := k.iconst (1 : Int32) at_38 rfl
    replace k := k.goto (pc' := 43) at_39 (by decide) (by decide)
    exact k.iret at_43 rfl (by simp) rfl rfl (by decide) (by decide)
set_option maxRecDepth 65536 in
set_option maxHeartbeats 40000000 in
theorem comes_1 {Post : Tables → Env → Array Value → State → Outcome → State → Prop} (hpost : ∀ tb e args s v u, (limb_1_1.after args s (.returned v) u = true ∧ limb_1_2.after args s (.returned v) u = true ∧ True) → FrameEnd s (.returned v) u (Jvm.fieldLocs frame_1_writes args s ++ Jvm.arrayLocs frame_1_arrays args s ++ Jvm.staticLocs frame_1_statics s) 0 0 → Post tb e args s (.returned v) u) :
    ArmFor flags0 classFile x code maxLocals ret World_1 tables_1 room_1 Calls_1 rest_1 Pre_1 Post := by
  intro l hfl _ _ p e ha hc hk s m args below hf hA hF happ hP
  obtain ⟨hcalls, hrest, hpre⟩ := hP
  obtain ⟨-, -, -, hnamed, -, -, -, hat⟩ := (Spec.applies_iff hf).mp happ
  obtain ⟨hg, hn⟩ := and_e (Cond.before_iff.mp (show (Jvm.Cond.and given_1 narrow_1).before args s = true from hpre))
  obtain ⟨gg0, gr0⟩ := and_e hg
  obtain ⟨gg1, gr1⟩ := and_e gr0
  obtain ⟨w0, w1, rfl⟩ : ∃ w0 w1 : Value, args = #[w0, w1] := by
    have hs : args.size = 2 := by simpa [Cond.value, given_1] using gg0
    obtain ⟨L⟩ := args
    match L, hs with
    | [w0, w1], _ => exact ⟨w0, w1, rfl⟩
  have hw := fun d (hd : d ∈ tables_1) => atoms_spec (ws := Jvm.Cond.code x code maxLocals ret :: tables_1) hat d (List.mem_cons_of_mem _ hd)
  have hfit : Fit s := fun {y c} hc i hi => by
    obtain ⟨ha, rfl⟩ := Array.getElem?_eq_some_iff.mp hc
    have q := List.all_eq_true.mp ((Array.all_eq_true_iff_forall_mem.mp hF) _ (Array.getElem_mem ha)) i (List.mem_range.mpr hi)
    simpa [Array.getElem?_eq_getElem hi] using q
  obtain ⟨hsets, hown0⟩ := atoms_of _ (rest_1_c_eq ▸ (show rest_1_c.before _ s = true from hrest))
  have hr0 := Cond.before_iff.mp hown0
  obtain ⟨i0, ei0⟩ := is_v gg1
  obtain rfl : w0 = (.int i0) := Option.some.inj ei0
  obtain ⟨i1, ei1⟩ := is_v gr1
  obtain rfl : w1 = (.int i1) := Option.some.inj ei1
  have cs1 := Cond.before_iff.mp (hsets _ (List.mem_of_getElem? (i := 1) rfl))
  obtain ⟨zC, evC⟩ := is_v cs1
  have S_COMPACT : Sta s s.heap "java/lang/String" "COMPACT_STRINGS" "Z" (.int zC) := Sta.start evC (Or.inl (hsets _ (List.mem_of_getElem? (i := 0) rfl)))
  have hC : ¬ (zC = (0 : Int32)) := own_ne0 evC (not_v (Cond.before_iff.mp (hsets _ (List.mem_of_getElem? (i := 2) rfl))))
  obtain ⟨nc0, nr0⟩ := and_e hn
  obtain ⟨nc1, nr1⟩ := and_e nr0
  obtain ⟨nc2, nr2⟩ := and_e nr1
  obtain ⟨nc3, nr3⟩ := and_e nr2
  obtain ⟨nc4, nr4⟩ := and_e nr3
  obtain ⟨nc5, nr5⟩ := and_e nr4
  obtain ⟨nc6, nr6⟩ := and_e nr5
  obtain ⟨nc7, nr7⟩ := and_e nr6
  obtain ⟨nc8, nr8⟩ := and_e nr7
  obtain ⟨nc9, nr9⟩ := and_e nr8
  obtain ⟨nc10, nr10⟩ := and_e nr9
  obtain ⟨nc11, nr11⟩ := and_e nr10
  obtain ⟨nc12, nr12⟩ := and_e nr11
  obtain ⟨nc13, nr13⟩ := and_e nr12
  obtain ⟨nc14, nr14⟩ := and_e nr13
  obtain ⟨nc15, nr15⟩ := and_e nr14
  obtain ⟨nc16, nr16⟩ := and_e nr15
  obtain ⟨nc17, nr17⟩ := and_e nr16
  obtain ⟨nc18, nr18⟩ := and_e nr17
  obtain ⟨nc19, nr19⟩ := and_e nr18
  obtain ⟨nc20, nr20⟩ := and_e nr19
  obtain ⟨nc21, nr21⟩ := and_e nr20
  obtain ⟨nc22, nr22⟩ := and_e nr21
  obtain ⟨nc23, nr23⟩ := and_e nr22
  obtain ⟨nc24, nr24⟩ := and_e nr23
  obtain ⟨nc25, nr25⟩ := and_e nr24
  obtain ⟨nc26, nr26⟩ := and_e nr25
  obtain ⟨nc27, nr27⟩ := and_e nr26
  obtain ⟨nc28, nr28⟩ := and_e nr27
  obtain ⟨nc29, nr29⟩ := and_e nr28
  obtain ⟨nc30, nr30⟩ := and_e nr29
  obtain ⟨nc31, nr31⟩ := and_e nr30
  obtain ⟨nc32, nr32⟩ := and_e nr31
  obtain ⟨nc33, nr33⟩ := and_e nr32
  obtain ⟨nc34, nr34⟩ := and_e nr33
  obtain ⟨nc35, nr35⟩ := and_e nr34
  obtain ⟨nc36, nr36⟩ := and_e nr35
  obtain ⟨nc37, nr37⟩ := and_e nr36
  obtain ⟨a_FORMATS, ev_FORMATS⟩ := arr_v nc0
  have S_FORMATS : Sta s s.heap "com/example/lieudit/lieudit/RecordFormat" "FORMATS" "[Lcom/example/lieudit/lieudit/RecordFormat;" (.ref a_FORMATS) := Sta.start ev_FORMATS (Or.inr ⟨(hw _ (List.mem_of_getElem? (i := 3) rfl)), (hw _ (List.mem_of_getElem? (i := 6) rfl))⟩)
  obtain ⟨cl_FORMATS, Ar_FORMATS⟩ := Arr.start ev_FORMATS nc0
  have Sz_FORMATS : cl_FORMATS.slots.size = 5 := own_len ev_FORMATS Ar_FORMATS (own_eqv nc1) (by decide)
  obtain ⟨a_BIBLIOGRAPHIC, ev_BIBLIOGRAPHIC⟩ := exa_v nc2
  have S_BIBLIOGRAPHIC : Sta s s.heap "com/example/lieudit/lieudit/RecordFormat" "BIBLIOGRAPHIC" "Lcom/example/lieudit/lieudit/RecordFormat;" (.ref a_BIBLIOGRAPHIC) := Sta.start ev_BIBLIOGRAPHIC (Or.inr ⟨(hw _ (List.mem_of_getElem? (i := 3) rfl)), (hw _ (List.mem_of_getElem? (i := 7) rfl))⟩)
  have E_BIBLIOGRAPHIC : Exa s s.heap a_BIBLIOGRAPHIC "com/example/lieudit/lieudit/RecordFormat" := Exa.start ev_BIBLIOGRAPHIC nc2
  have at_FORMATS_0 : cl_FORMATS.slots[0]? = some (.ref a_BIBLIOGRAPHIC) := (elem_in (own_eqr ev_BIBLIOGRAPHIC nc3) ev_FORMATS (Term.int_eval _) Ar_FORMATS.1).2
  obtain ⟨a_BIBLIOGRAPHIC_typesOfRecord, ev_BIBLIOGRAPHIC_typesOfRecord⟩ := exa_v nc4
  have F_BIBLIOGRAPHIC_typesOfRecord : Fld s s.heap a_BIBLIOGRAPHIC "com/example/lieudit/lieudit/RecordFormat" "typesOfRecord" "Ljava/lang/String;" (.ref a_BIBLIOGRAPHIC_typesOfRecord) := Fld.start ((fld_at ev_BIBLIOGRAPHIC).symm.trans ev_BIBLIOGRAPHIC_typesOfRecord)
  have E_BIBLIOGRAPHIC_typesOfRecord : Exa s s.heap a_BIBLIOGRAPHIC_typesOfRecord "java/lang/String" := Exa.start ev_BIBLIOGRAPHIC_typesOfRecord nc4
  have F_BIBLIOGRAPHIC_typesOfRecord_coder : Fld s s.heap a_BIBLIOGRAPHIC_typesOfRecord "java/lang/String" "coder" "B" (.int (0 : Int32)) := Fld.start ((fld_at ev_BIBLIOGRAPHIC_typesOfRecord).symm.trans (own_eqv nc5))
  obtain ⟨a_BIBLIOGRAPHIC_typesOfRecord_value, ev_BIBLIOGRAPHIC_typesOfRecord_value⟩ := arr_v nc6
  have F_BIBLIOGRAPHIC_typesOfRecord_value : Fld s s.heap a_BIBLIOGRAPHIC_typesOfRecord "java/lang/String" "value" "[B" (.ref a_BIBLIOGRAPHIC_typesOfRecord_value) := Fld.start ((fld_at ev_BIBLIOGRAPHIC_typesOfRecord).symm.trans ev_BIBLIOGRAPHIC_typesOfRecord_value)
  obtain ⟨cl_BIBLIOGRAPHIC_typesOfRecord_value, Ar_BIBLIOGRAPHIC_typesOfRecord_value⟩ := Arr.start ev_BIBLIOGRAPHIC_typesOfRecord_value nc6
  have Sz_BIBLIOGRAPHIC_typesOfRecord_value : cl_BIBLIOGRAPHIC_typesOfRecord_value.slots.size = 0 := own_len ev_BIBLIOGRAPHIC_typesOfRecord_value Ar_BIBLIOGRAPHIC_typesOfRecord_value (own_eqv nc7) (by decide)
  obtain ⟨a_AUTHORITY, ev_AUTHORITY⟩ := exa_v nc8
  have S_AUTHORITY : Sta s s.heap "com/example/lieudit/lieudit/RecordFormat" "AUTHORITY" "Lcom/example/lieudit/lieudit/RecordFormat;" (.ref a_AUTHORITY) := Sta.start ev_AUTHORITY (Or.inr ⟨(hw _ (List.mem_of_getElem? (i := 3) rfl)), (hw _ (List.mem_of_getElem? (i := 55) rfl))⟩)
  have E_AUTHORITY : Exa s s.heap a_AUTHORITY "com/example/lieudit/lieudit/RecordFormat" := Exa.start ev_AUTHORITY nc8
  have at_FORMATS_1 : cl_FORMATS.slots[1]? = some (.ref a_AUTHORITY) := (elem_in (own_eqr ev_AUTHORITY nc9) ev_FORMATS (Term.int_eval _) Ar_FORMATS.1).2
  obtain ⟨a_AUTHORITY_typesOfRecord, ev_AUTHORITY_typesOfRecord⟩ := exa_v nc10
  have F_AUTHORITY_typesOfRecord : Fld s s.heap a_AUTHORITY "com/example/lieudit/lieudit/RecordFormat" "typesOfRecord" "Ljava/lang/String;" (.ref a_AUTHORITY_typesOfRecord) := Fld.start ((fld_at ev_AUTHORITY).symm.trans ev_AUTHORITY_typesOfRecord)
  have E_AUTHORITY_typesOfRecord : Exa s s.heap a_AUTHORITY_typesOfRecord "java/lang/String" := Exa.start ev_AUTHORITY_typesOfRecord nc10
  have F_AUTHORITY_typesOfRecord_coder : Fld s s.heap a_AUTHORITY_typesOfRecord "java/lang/String" "coder" "B" (.int (0 : Int32)) := Fld.start ((fld_at ev_AUTHORITY_typesOfRecord).symm.trans (own_eqv nc11))
  obtain ⟨a_AUTHORITY_typesOfRecord_value, ev_AUTHORITY_typesOfRecord_value⟩ := arr_v nc12
  have F_AUTHORITY_typesOfRecord_value : Fld s s.heap a_AUTHORITY_typesOfRecord "java/lang/String" "value" "[B" (.ref a_AUTHORITY_typesOfRecord_value) := Fld.start ((fld_at ev_AUTHORITY_typesOfRecord).symm.trans ev_AUTHORITY_typesOfRecord_value)
  obtain ⟨cl_AUTHORITY_typesOfRecord_value, Ar_AUTHORITY_typesOfRecord_value⟩ := Arr.start ev_AUTHORITY_typesOfRecord_value nc12
  have Sz_AUTHORITY_typesOfRecord_value : cl_AUTHORITY_typesOfRecord_value.slots.size = 1 := own_len ev_AUTHORITY_typesOfRecord_value Ar_AUTHORITY_typesOfRecord_value (own_eqv nc13) (by decide)
  have at_AUTHORITY_typesOfRecord_value_0 : cl_AUTHORITY_typesOfRecord_value.slots[0]? = some (.int (122 : Int32)) := (elem_in (own_eqv nc14) ev_AUTHORITY_typesOfRecord_value (Term.int_eval _) Ar_AUTHORITY_typesOfRecord_value.1).2
  obtain ⟨a_CLASSIFICATION, ev_CLASSIFICATION⟩ := exa_v nc15
  have S_CLASSIFICATION : Sta s s.heap "com/example/lieudit/lieudit/RecordFormat" "CLASSIFICATION" "Lcom/example/lieudit/lieudit/RecordFormat;" (.ref a_CLASSIFICATION) := Sta.start ev_CLASSIFICATION (Or.inr ⟨(hw _ (List.mem_of_getElem? (i := 3) rfl)), (hw _ (List.mem_of_getElem? (i := 59) rfl))⟩)
  have E_CLASSIFICATION : Exa s s.heap a_CLASSIFICATION "com/example/lieudit/lieudit/RecordFormat" := Exa.start ev_CLASSIFICATION nc15
  have at_FORMATS_2 : cl_FORMATS.slots[2]? = some (.ref a_CLASSIFICATION) := (elem_in (own_eqr ev_CLASSIFICATION nc16) ev_FORMATS (Term.int_eval _) Ar_FORMATS.1).2
  obtain ⟨a_CLASSIFICATION_typesOfRecord, ev_CLASSIFICATION_typesOfRecord⟩ := exa_v nc17
  have F_CLASSIFICATION_typesOfRecord : Fld s s.heap a_CLASSIFICATION "com/example/lieudit/lieudit/RecordFormat" "typesOfRecord" "Ljava/lang/String;" (.ref a_CLASSIFICATION_typesOfRecord) := Fld.start ((fld_at ev_CLASSIFICATION).symm.trans ev_CLASSIFICATION_typesOfRecord)
  have E_CLASSIFICATION_typesOfRecord : Exa s s.heap a_CLASSIFICATION_typesOfRecord "java/lang/String" := Exa.start ev_CLASSIFICATION_typesOfRecord nc17
  have F_CLASSIFICATION_typesOfRecord_coder : Fld s s.heap a_CLASSIFICATION_typesOfRecord "java/lang/String" "coder" "B" (.int (0 : Int32)) := Fld.start ((fld_at ev_CLASSIFICATION_typesOfRecord).symm.trans (own_eqv nc18))
  obtain ⟨a_CLASSIFICATION_typesOfRecord_value, ev_CLASSIFICATION_typesOfRecord_value⟩ := arr_v nc19
  have F_CLASSIFICATION_typesOfRecord_value : Fld s s.heap a_CLASSIFICATION_typesOfRecord "java/lang/String" "value" "[B" (.ref a_CLASSIFICATION_typesOfRecord_value) := Fld.start ((fld_at ev_CLASSIFICATION_typesOfRecord).symm.trans ev_CLASSIFICATION_typesOfRecord_value)
  obtain ⟨cl_CLASSIFICATION_typesOfRecord_value, Ar_CLASSIFICATION_typesOfRecord_value⟩ := Arr.start ev_CLASSIFICATION_typesOfRecord_value nc19
  have Sz_CLASSIFICATION_typesOfRecord_value : cl_CLASSIFICATION_typesOfRecord_value.slots.size = 1 := own_len ev_CLASSIFICATION_typesOfRecord_value Ar_CLASSIFICATION_typesOfRecord_value (own_eqv nc20) (by decide)
  have at_CLASSIFICATION_typesOfRecord_value_0 : cl_CLASSIFICATION_typesOfRecord_value.slots[0]? = some (.int (119 : Int32)) := (elem_in (own_eqv nc21) ev_CLASSIFICATION_typesOfRecord_value (Term.int_eval _) Ar_CLASSIFICATION_typesOfRecord_value.1).2
  obtain ⟨a_HOLDINGS, ev_HOLDINGS⟩ := exa_v nc22
  have S_HOLDINGS : Sta s s.heap "com/example/lieudit/lieudit/RecordFormat" "HOLDINGS" "Lcom/example/lieudit/lieudit/RecordFormat;" (.ref a_HOLDINGS) := Sta.start ev_HOLDINGS (Or.inr ⟨(hw _ (List.mem_of_getElem? (i := 3) rfl)), (hw _ (List.mem_of_getElem? (i := 60) rfl))⟩)
  have E_HOLDINGS : Exa s s.heap a_HOLDINGS "com/example/lieudit/lieudit/RecordFormat" := Exa.start ev_HOLDINGS nc22
  have at_FORMATS_3 : cl_FORMATS.slots[3]? = some (.ref a_HOLDINGS) := (elem_in (own_eqr ev_HOLDINGS nc23) ev_FORMATS (Term.int_eval _) Ar_FORMATS.1).2
  obtain ⟨a_HOLDINGS_typesOfRecord, ev_HOLDINGS_typesOfRecord⟩ := exa_v nc24
  have F_HOLDINGS_typesOfRecord : Fld s s.heap a_HOLDINGS "com/example/lieudit/lieudit/RecordFormat" "typesOfRecord" "Ljava/lang/String;" (.ref a_HOLDINGS_typesOfRecord) := Fld.start ((fld_at ev_HOLDINGS).symm.trans ev_HOLDINGS_typesOfRecord)
  have E_HOLDINGS_typesOfRecord : Exa s s.heap a_HOLDINGS_typesOfRecord "java/lang/String" := Exa.start ev_HOLDINGS_typesOfRecord nc24
  have F_HOLDINGS_typesOfRecord_coder : Fld s s.heap a_HOLDINGS_typesOfRecord "java/lang/String" "coder" "B" (.int (0 : Int32)) := Fld.start ((fld_at ev_HOLDINGS_typesOfRecord).symm.trans (own_eqv nc25))
  obtain ⟨a_HOLDINGS_typesOfRecord_value, ev_HOLDINGS_typesOfRecord_value⟩ := arr_v nc26
  have F_HOLDINGS_typesOfRecord_value : Fld s s.heap a_HOLDINGS_typesOfRecord "java/lang/String" "value" "[B" (.ref a_HOLDINGS_typesOfRecord_value) := Fld.start ((fld_at ev_HOLDINGS_typesOfRecord).symm.trans ev_HOLDINGS_typesOfRecord_value)
  obtain ⟨cl_HOLDINGS_typesOfRecord_value, Ar_HOLDINGS_typesOfRecord_value⟩ := Arr.start ev_HOLDINGS_typesOfRecord_value nc26
  have Sz_HOLDINGS_typesOfRecord_value : cl_HOLDINGS_typesOfRecord_value.slots.size = 4 := own_len ev_HOLDINGS_typesOfRecord_value Ar_HOLDINGS_typesOfRecord_value (own_eqv nc27) (by decide)
  have at_HOLDINGS_typesOfRecord_value_0 : cl_HOLDINGS_typesOfRecord_value.slots[0]? = some (.int (117 : Int32)) := (elem_in (own_eqv nc28) ev_HOLDINGS_typesOfRecord_value (Term.int_eval _) Ar_HOLDINGS_typesOfRecord_value.1).2
  have at_HOLDINGS_typesOfRecord_value_1 : cl_HOLDINGS_typesOfRecord_value.slots[1]? = some (.int (118 : Int32)) := (elem_in (own_eqv nc29) ev_HOLDINGS_typesOfRecord_value (Term.int_eval _) Ar_HOLDINGS_typesOfRecord_value.1).2
  have at_HOLDINGS_typesOfRecord_value_2 : cl_HOLDINGS_typesOfRecord_value.slots[2]? = some (.int (120 : Int32)) := (elem_in (own_eqv nc30) ev_HOLDINGS_typesOfRecord_value (Term.int_eval _) Ar_HOLDINGS_typesOfRecord_value.1).2
  have at_HOLDINGS_typesOfRecord_value_3 : cl_HOLDINGS_typesOfRecord_value.slots[3]? = some (.int (121 : Int32)) := (elem_in (own_eqv nc31) ev_HOLDINGS_typesOfRecord_value (Term.int_eval _) Ar_HOLDINGS_typesOfRecord_value.1).2
  obtain ⟨a_COMMUNITY_INFORMATION, ev_COMMUNITY_INFORMATION⟩ := exa_v nc32
  have S_COMMUNITY_INFORMATION : Sta s s.heap "com/example/lieudit/lieudit/RecordFormat" "COMMUNITY_INFORMATION" "Lcom/example/lieudit/lieudit/RecordFormat;" (.ref a_COMMUNITY_INFORMATION) := Sta.start ev_COMMUNITY_INFORMATION (Or.inr ⟨(hw _ (List.mem_of_getElem? (i := 3) rfl)), (hw _ (List.mem_of_getElem? (i := 61) rfl))⟩)
  have E_COMMUNITY_INFORMATION : Exa s s.heap a_COMMUNITY_INFORMATION "com/example/lieudit/lieudit/RecordFormat" := Exa.start ev_COMMUNITY_INFORMATION nc32
  have at_FORMATS_4 : cl_FORMATS.slots[4]? = some (.ref a_COMMUNITY_INFORMATION) := (elem_in (own_eqr ev_COMMUNITY_INFORMATION nc33) ev_FORMATS (Term.int_eval _) Ar_FORMATS.1).2
  obtain ⟨a_COMMUNITY_INFORMATION_typesOfRecord, ev_COMMUNITY_INFORMATION_typesOfRecord⟩ := exa_v nc34
  have F_COMMUNITY_INFORMATION_typesOfRecord : Fld s s.heap a_COMMUNITY_INFORMATION "com/example/lieudit/lieudit/RecordFormat" "typesOfRecord" "Ljava/lang/String;" (.ref a_COMMUNITY_INFORMATION_typesOfRecord) := Fld.start ((fld_at ev_COMMUNITY_INFORMATION).symm.trans ev_COMMUNITY_INFORMATION_typesOfRecord)
  have E_COMMUNITY_INFORMATION_typesOfRecord : Exa s s.heap a_COMMUNITY_INFORMATION_typesOfRecord "java/lang/String" := Exa.start ev_COMMUNITY_INFORMATION_typesOfRecord nc34
  have F_COMMUNITY_INFORMATION_typesOfRecord_coder : Fld s s.heap a_COMMUNITY_INFORMATION_typesOfRecord "java/lang/String" "coder" "B" (.int (0 : Int32)) := Fld.start ((fld_at ev_COMMUNITY_INFORMATION_typesOfRecord).symm.trans (own_eqv nc35))
  obtain ⟨a_COMMUNITY_INFORMATION_typesOfRecord_value, ev_COMMUNITY_INFORMATION_typesOfRecord_value⟩ := arr_v nc36
  have F_COMMUNITY_INFORMATION_typesOfRecord_value : Fld s s.heap a_COMMUNITY_INFORMATION_typesOfRecord "java/lang/String" "value" "[B" (.ref a_COMMUNITY_INFORMATION_typesOfRecord_value) := Fld.start ((fld_at ev_COMMUNITY_INFORMATION_typesOfRecord).symm.trans ev_COMMUNITY_INFORMATION_typesOfRecord_value)
  obtain ⟨cl_COMMUNITY_INFORMATION_typesOfRecord_value, Ar_COMMUNITY_INFORMATION_typesOfRecord_value⟩ := Arr.start ev_COMMUNITY_INFORMATION_typesOfRecord_value nc36
  have Sz_COMMUNITY_INFORMATION_typesOfRecord_value : cl_COMMUNITY_INFORMATION_typesOfRecord_value.slots.size = 1 := own_len ev_COMMUNITY_INFORMATION_typesOfRecord_value Ar_COMMUNITY_INFORMATION_typesOfRecord_value (own_eqv nc37) (by decide)
  have at_COMMUNITY_INFORMATION_typesOfRecord_value_0 : cl_COMMUNITY_INFORMATION_typesOfRecord_value.slots[0]? = some (.int (113 : Int32)) := (elem_in (own_eqv nr37) ev_COMMUNITY_INFORMATION_typesOfRecord_value (Term.int_eval _) Ar_COMMUNITY_INFORMATION_typesOfRecord_value.1).2
  obtain ⟨n, o, h1, h2, h3, _, L, rfl, ⟨rfl, N⟩, hq⟩ := rm0 s _ hw i0 i1 zC a_FORMATS cl_FORMATS a_BIBLIOGRAPHIC a_BIBLIOGRAPHIC_typesOfRecord a_BIBLIOGRAPHIC_typesOfRecord_value cl_BIBLIOGRAPHIC_typesOfRecord_value a_AUTHORITY a_AUTHORITY_typesOfRecord a_AUTHORITY_typesOfRecord_value cl_AUTHORITY_typesOfRecord_value a_CLASSIFICATION a_CLASSIFICATION_typesOfRecord a_CLASSIFICATION_typesOfRecord_value cl_CLASSIFICATION_typesOfRecord_value a_HOLDINGS a_HOLDINGS_typesOfRecord a_HOLDINGS_typesOfRecord_value cl_HOLDINGS_typesOfRecord_value a_COMMUNITY_INFORMATION a_COMMUNITY_INFORMATION_typesOfRecord a_COMMUNITY_INFORMATION_typesOfRecord_value cl_COMMUNITY_INFORMATION_typesOfRecord_value s.heap s.heap.size S_COMPACT hC S_FORMATS Ar_FORMATS Sz_FORMATS S_BIBLIOGRAPHIC E_BIBLIOGRAPHIC at_FORMATS_0 F_BIBLIOGRAPHIC_typesOfRecord E_BIBLIOGRAPHIC_typesOfRecord F_BIBLIOGRAPHIC_typesOfRecord_coder F_BIBLIOGRAPHIC_typesOfRecord_value Ar_BIBLIOGRAPHIC_typesOfRecord_value Sz_BIBLIOGRAPHIC_typesOfRecord_value S_AUTHORITY E_AUTHORITY at_FORMATS_1 F_AUTHORITY_typesOfRecord E_AUTHORITY_typesOfRecord F_AUTHORITY_typesOfRecord_coder F_AUTHORITY_typesOfRecord_value Ar_AUTHORITY_typesOfRecord_value Sz_AUTHORITY_typesOfRecord_value at_AUTHORITY_typesOfRecord_value_0 S_CLASSIFICATION E_CLASSIFICATION at_FORMATS_2 F_CLASSIFICATION_typesOfRecord E_CLASSIFICATION_typesOfRecord F_CLASSIFICATION_typesOfRecord_coder F_CLASSIFICATION_typesOfRecord_value Ar_CLASSIFICATION_typesOfRecord_value Sz_CLASSIFICATION_typesOfRecord_value at_CLASSIFICATION_typesOfRecord_value_0 S_HOLDINGS E_HOLDINGS at_FORMATS_3 F_HOLDINGS_typesOfRecord E_HOLDINGS_typesOfRecord F_HOLDINGS_typesOfRecord_coder F_HOLDINGS_typesOfRecord_value Ar_HOLDINGS_typesOfRecord_value Sz_HOLDINGS_typesOfRecord_value at_HOLDINGS_typesOfRecord_value_0 at_HOLDINGS_typesOfRecord_value_1 at_HOLDINGS_typesOfRecord_value_2 at_HOLDINGS_typesOfRecord_value_3 S_COMMUNITY_INFORMATION E_COMMUNITY_INFORMATION at_FORMATS_4 F_COMMUNITY_INFORMATION_typesOfRecord E_COMMUNITY_INFORMATION_typesOfRecord F_COMMUNITY_INFORMATION_typesOfRecord_coder F_COMMUNITY_INFORMATION_typesOfRecord_value Ar_COMMUNITY_INFORMATION_typesOfRecord_value Sz_COMMUNITY_INFORMATION_typesOfRecord_value at_COMMUNITY_INFORMATION_typesOfRecord_value_0 l p e ha hc hk s m _ below hf ((Spec.applies_iff_loose hf).mp happ).1 ⟨rfl, State.Warmed39.refl s, rfl⟩ trivial
  refine ⟨n, _, h1, h2, h3, hpost _ _ _ _ _ _ ⟨Cond.after_iff.mpr rfl, Cond.after_iff.mpr (eq_i res_at (Term.int_eval (1)) rfl), trivial⟩ ⟨hq.1, hq.2.1, (hq.2.2.sift fun y hy => Or.inr (N y hy)).mono (by decide) (by decide)⟩⟩
theorem main_1_1 : Claimed_1_1 := comes_1 fun _ _ _ _ _ _ h hF => ⟨h.1, hF⟩
theorem main_1_2 : Claimed_1_2 := comes_1 fun _ _ _ _ _ _ h hF => ⟨h.2.1, hF⟩
end Jvm.Pilot.@@N@@
namespace Jvm.Pilot.@@N@@
open Jvm Jvm.ClassFile Sem Op Lib Jvm.Free Jvm.Stand Jvm.Pilot.@@N@@.Jvm.D
/-! MADE BY PROGRAM (witnessworld.py) out of the Statement's table words and the real class files: 20 classes; the members and pool entries that the words name. The judged class is class 1, her method 2. -/
namespace start1
open Jvm.ClassFile
def u (s : String) : CpInfo := .utf8 (stringToUtf16 s)
/-- a pool by its gaps: so many unusable entries, then the entry; so many at the end -/
def gap : Nat → List CpInfo → List CpInfo
  | 0, r => r
  | n + 1, r => .unusable :: gap n r
def poolList (es : List (Nat × CpInfo)) (last : Nat) : List CpInfo := es.foldr (fun e r => gap e.1 (e.2 :: r)) (gap last [])
def pool (es : List (Nat × CpInfo)) (last : Nat) : Array CpInfo := ⟨poolList es last⟩
def fileOf (pool : Array CpInfo) (this : Nat) (attrs : Array Attribute := #[]) (ms : Array MethodInfo := #[]) (fl : Nat := 33) (sup : Nat := 0) (ifs : Array Nat := #[]) (fds : Array FieldInfo := #[]) : ClassFile where
  minorVersion := 0
  majorVersion := 65
  constantPool := pool
  accessFlags := fl
  thisClass := this
  superClass := sup
  interfaces := ifs
  fields := fds
  methods := ms
  attributes := attrs
def plain (name : String) (sup : Option ClassId) : Class where
  name := name
  kind := .ordinary
  loader := none
  accessFlags := 33
  super := sup
  interfaces := #[]
  cf := none
  fields := #[]
  methods := #[]
  instanceTypes := #[]
  staticTypes := #[]
  resolved := #[]
  callSites := []
  init := .initialized
  statics := none
  mirror := none

def pool0 : Array CpInfo := pool [(5, u "<init>"), (0, u "()V"), (1, .class_ 10), (1, u "java/lang/Object")] 113

def k0m0 : Method := { name := "<init>", desc := "()V", sig := { parameters := [], returnType := none }, accessFlags := 1, code := none }
/-- java/lang/Object -/
def k0 : Class := { plain "java/lang/Object" none with
  accessFlags := 33
  interfaces := #[]
  cf := some (fileOf pool0 8 #[] #[{ accessFlags := 1, nameIndex := 5, descriptorIndex := 6, attributes := #[] }] 33 0 #[] #[])
  fields := #[]
  methods := #[k0m0]
  instanceTypes := #[]
  staticTypes := #[]
  resolved := Array.replicate 124 none
  statics := none }

def pool1 : Array CpInfo := pool [(2, .class_ 4), (1, u "java/lang/Object"), (0, u "<init>"), (0, u "()V"), (0, .fieldref 8 9), (0, .class_ 10), (0, .nameAndType 11 12), (0, u "com/example/lieudit/lieudit/RecordFormat"), (0, u "AUTHORITY"), (0, u "Lcom/example/lieudit/lieudit/RecordFormat;"), (0, .fieldref 8 14), (0, .nameAndType 15 12), (0, u "CLASSIFICATION"), (0, .fieldref 8 17), (0, .nameAndType 18 12), (0, u "HOLDINGS"), (0, .fieldref 8 20), (0, .nameAndType 21 12), (0, u "COMMUNITY_INFORMATION"), (0, .fieldref 8 23), (0, .nameAndType 24 12), (0, u "BIBLIOGRAPHIC"), (0, .integer 2147483647), (0, .integer 65535), (0, .methodref 8 28), (0, .nameAndType 29 30), (0, u "of"), (0, u "(C)Lcom/example/lieudit/lieudit/RecordFormat;"), (0, .methodref 32 33), (0, .class_ 34), (0, .nameAndType 35 30), (0, u "com/example/lieudit/lieudit/RecordFormatOfPinLaw"), (0, u "expected"), (3, u "law"), (0, u "(II)Z")] 2

def k1m0 : Method := { name := "<init>", desc := "()V", sig := { parameters := [], returnType := none }, accessFlags := 1, code := none }
def k1c1 : Code := { maxStack := 2, maxLocals := 1, code := method_2_code, exceptionTable := #[], attributes := #[] }
def k1m1 : Method := { name := "expected", desc := "(C)Lcom/example/lieudit/lieudit/RecordFormat;", sig := { parameters := [.char], returnType := some (.object "com/example/lieudit/lieudit/RecordFormat") }, accessFlags := 10, code := some k1c1 }
def k1c2 : Code := { maxStack := 3, maxLocals := 3, code := code, exceptionTable := #[], attributes := #[] }
def k1m2 : Method := { name := "law", desc := "(II)Z", sig := { parameters := [.int, .int], returnType := some .boolean }, accessFlags := 9, code := some k1c2 }
/-- com/example/lieudit/lieudit/RecordFormatOfPinLaw -/
def k1 : Class := { plain "com/example/lieudit/lieudit/RecordFormatOfPinLaw" (some 0) with
  accessFlags := 49
  interfaces := #[]
  cf := some (fileOf pool1 32 #[] #[{ accessFlags := 1, nameIndex := 5, descriptorIndex := 6, attributes := #[] }, { accessFlags := 10, nameIndex := 35, descriptorIndex := 30, attributes := #[] }, { accessFlags := 9, nameIndex := 39, descriptorIndex := 40, attributes := #[] }] 49 2 #[] #[])
  fields := #[]
  methods := #[k1m0, k1m1, k1m2]
  instanceTypes := #[]
  staticTypes := #[]
  resolved := Array.replicate 43 none
  statics := none }

def pool2 : Array CpInfo := pool [(1, .class_ 2), (0, u "java/lang/constant/Constable"), (0, .class_ 4), (0, u "java/lang/Object")] 6

/-- java/lang/constant/Constable -/
def k2 : Class := { plain "java/lang/constant/Constable" (some 0) with
  accessFlags := 1537
  interfaces := #[]
  cf := some (fileOf pool2 1 #[] #[] 1537 3 #[] #[])
  fields := #[]
  methods := #[]
  instanceTypes := #[]
  staticTypes := #[]
  resolved := Array.replicate 11 none
  statics := none }

def pool3 : Array CpInfo := pool [(1, .class_ 2), (0, u "java/lang/Comparable"), (0, .class_ 4), (0, u "java/lang/Object")] 7

/-- java/lang/Comparable -/
def k3 : Class := { plain "java/lang/Comparable" (some 0) with
  accessFlags := 1537
  interfaces := #[]
  cf := some (fileOf pool3 1 #[] #[] 1537 3 #[] #[])
  fields := #[]
  methods := #[]
  instanceTypes := #[]
  staticTypes := #[]
  resolved := Array.replicate 12 none
  statics := none }

def pool4 : Array CpInfo := pool [(1, .class_ 2), (0, u "java/io/Serializable"), (0, .class_ 4), (0, u "java/lang/Object")] 2

/-- java/io/Serializable -/
def k4 : Class := { plain "java/io/Serializable" (some 0) with
  accessFlags := 1537
  interfaces := #[]
  cf := some (fileOf pool4 1 #[] #[] 1537 3 #[] #[])
  fields := #[]
  methods := #[]
  instanceTypes := #[]
  staticTypes := #[]
  resolved := Array.replicate 7 none
  statics := none }

def pool5 : Array CpInfo := pool [(2, .class_ 4), (1, u "java/lang/Enum"), (0, u "name"), (0, u "Ljava/lang/String;"), (2, u "ordinal"), (0, u "I"), (1, .class_ 14), (1, u "java/lang/Object"), (4, u "hash"), (86, .class_ 108), (1, u "java/lang/Enum$EnumDesc"), (2, .class_ 112), (0, u "java/lang/constant/Constable"), (0, .class_ 114), (0, u "java/lang/Comparable"), (0, .class_ 116), (0, u "java/io/Serializable")] 87

/-- java/lang/Enum -/
def k5 : Class := { plain "java/lang/Enum" (some 0) with
  accessFlags := 1057
  interfaces := #[2, 3, 4]
  cf := some (fileOf pool5 2 #[.nestMembers #[106]] #[] 1057 12 #[111, 113, 115] #[{ accessFlags := 18, nameIndex := 5, descriptorIndex := 6, attributes := #[] }, { accessFlags := 18, nameIndex := 9, descriptorIndex := 10, attributes := #[] }, { accessFlags := 2, nameIndex := 19, descriptorIndex := 10, attributes := #[] }])
  fields := #[{ name := "name", type := (.object "java/lang/String"), accessFlags := 18, slot := 0, constantValue := 0 }, { name := "ordinal", type := .int, accessFlags := 18, slot := 1, constantValue := 0 }, { name := "hash", type := .int, accessFlags := 2, slot := 2, constantValue := 0 }]
  methods := #[]
  instanceTypes := #[(.object "java/lang/String"), .int, .int]
  staticTypes := #[]
  resolved := Array.replicate 204 none
  statics := none }

def pool6 : Array CpInfo := pool [(1, .class_ 2), (0, u "com/example/lieudit/lieudit/RecordFormat"), (0, .fieldref 1 4), (0, .nameAndType 5 6), (0, u "BIBLIOGRAPHIC"), (0, u "Lcom/example/lieudit/lieudit/RecordFormat;"), (2, u "AUTHORITY"), (2, u "CLASSIFICATION"), (2, u "HOLDINGS"), (2, u "COMMUNITY_INFORMATION"), (2, u "$VALUES"), (0, u "[Lcom/example/lieudit/lieudit/RecordFormat;"), (6, .class_ 31), (1, u "java/lang/Enum"), (8, u "key"), (0, u "Ljava/lang/String;"), (0, .fieldref 1 43), (0, .nameAndType 44 41), (0, u "typesOfRecord"), (0, .fieldref 1 46), (0, .nameAndType 47 22), (0, u "FORMATS"), (0, .methodref 49 50), (0, .class_ 51), (0, .nameAndType 52 53), (0, u "java/lang/String"), (0, u "indexOf"), (0, u "(I)I"), (39, u "LEADER_POSITION"), (0, u "I"), (9, u "of"), (0, u "(C)Lcom/example/lieudit/lieudit/RecordFormat;")] 7

def k6c0 : Code := { maxStack := 2, maxLocals := 5, code := prog_22_method_5_code, exceptionTable := #[], attributes := #[] }
def k6m0 : Method := { name := "of", desc := "(C)Lcom/example/lieudit/lieudit/RecordFormat;", sig := { parameters := [.char], returnType := some (.object "com/example/lieudit/lieudit/RecordFormat") }, accessFlags := 8, code := some k6c0 }
/-- com/example/lieudit/lieudit/RecordFormat -/
def k6 : Class := { plain "com/example/lieudit/lieudit/RecordFormat" (some 5) with
  accessFlags := 16432
  interfaces := #[]
  cf := some (fileOf pool6 1 #[] #[{ accessFlags := 8, nameIndex := 104, descriptorIndex := 105, attributes := #[] }] 16432 29 #[] #[{ accessFlags := 16409, nameIndex := 5, descriptorIndex := 6, attributes := #[] }, { accessFlags := 16409, nameIndex := 9, descriptorIndex := 6, attributes := #[] }, { accessFlags := 16409, nameIndex := 12, descriptorIndex := 6, attributes := #[] }, { accessFlags := 16409, nameIndex := 15, descriptorIndex := 6, attributes := #[] }, { accessFlags := 16409, nameIndex := 18, descriptorIndex := 6, attributes := #[] }, { accessFlags := 24, nameIndex := 93, descriptorIndex := 94, attributes := #[] }, { accessFlags := 26, nameIndex := 47, descriptorIndex := 22, attributes := #[] }, { accessFlags := 18, nameIndex := 40, descriptorIndex := 41, attributes := #[] }, { accessFlags := 18, nameIndex := 44, descriptorIndex := 41, attributes := #[] }, { accessFlags := 4122, nameIndex := 21, descriptorIndex := 22, attributes := #[] }])
  fields := #[{ name := "BIBLIOGRAPHIC", type := (.object "com/example/lieudit/lieudit/RecordFormat"), accessFlags := 16409, slot := 0, constantValue := 0 }, { name := "AUTHORITY", type := (.object "com/example/lieudit/lieudit/RecordFormat"), accessFlags := 16409, slot := 1, constantValue := 0 }, { name := "CLASSIFICATION", type := (.object "com/example/lieudit/lieudit/RecordFormat"), accessFlags := 16409, slot := 2, constantValue := 0 }, { name := "HOLDINGS", type := (.object "com/example/lieudit/lieudit/RecordFormat"), accessFlags := 16409, slot := 3, constantValue := 0 }, { name := "COMMUNITY_INFORMATION", type := (.object "com/example/lieudit/lieudit/RecordFormat"), accessFlags := 16409, slot := 4, constantValue := 0 }, { name := "LEADER_POSITION", type := .int, accessFlags := 24, slot := 5, constantValue := 0 }, { name := "FORMATS", type := (.array (.object "com/example/lieudit/lieudit/RecordFormat")), accessFlags := 26, slot := 6, constantValue := 0 }, { name := "key", type := (.object "java/lang/String"), accessFlags := 18, slot := 3, constantValue := 0 }, { name := "typesOfRecord", type := (.object "java/lang/String"), accessFlags := 18, slot := 4, constantValue := 0 }, { name := "$VALUES", type := (.array (.object "com/example/lieudit/lieudit/RecordFormat")), accessFlags := 4122, slot := 7, constantValue := 0 }]
  methods := #[k6m0]
  instanceTypes := #[(.object "java/lang/String"), .int, .int, (.object "java/lang/String"), (.object "java/lang/String")]
  staticTypes := #[(.object "com/example/lieudit/lieudit/RecordFormat"), (.object "com/example/lieudit/lieudit/RecordFormat"), (.object "com/example/lieudit/lieudit/RecordFormat"), (.object "com/example/lieudit/lieudit/RecordFormat"), (.object "com/example/lieudit/lieudit/RecordFormat"), .int, (.array (.object "com/example/lieudit/lieudit/RecordFormat")), (.array (.object "com/example/lieudit/lieudit/RecordFormat"))]
  resolved := Array.replicate 113 none
  statics := some 0 }

def pool7 : Array CpInfo := pool [(2, .class_ 4), (1, u "java/lang/CharSequence"), (42, .class_ 48), (0, u "java/lang/CharSequence$1CodePointIterator"), (10, .class_ 60), (0, u "java/lang/CharSequence$1CharIterator"), (5, .class_ 67), (0, u "java/lang/Object")] 63

/-- java/lang/CharSequence -/
def k7 : Class := { plain "java/lang/CharSequence" (some 0) with
  accessFlags := 1537
  interfaces := #[]
  cf := some (fileOf pool7 2 #[.nestMembers #[47, 59]] #[] 1537 66 #[] #[])
  fields := #[]
  methods := #[]
  instanceTypes := #[]
  staticTypes := #[]
  resolved := Array.replicate 131 none
  statics := none }

def pool8 : Array CpInfo := pool [(1, .class_ 2), (0, u "java/lang/constant/ConstantDesc"), (0, .class_ 4), (0, u "java/lang/Object")] 32

/-- java/lang/constant/ConstantDesc -/
def k8 : Class := { plain "java/lang/constant/ConstantDesc" (some 0) with
  accessFlags := 1537
  interfaces := #[]
  cf := some (fileOf pool8 1 #[] #[] 1537 3 #[] #[])
  fields := #[]
  methods := #[]
  instanceTypes := #[]
  staticTypes := #[]
  resolved := Array.replicate 37 none
  statics := none }

def pool9 : Array CpInfo := pool [(2, .class_ 4), (1, u "java/lang/Object"), (0, u "<init>"), (0, u "()V"), (2, .fieldref 10 11), (0, .class_ 12), (0, .nameAndType 13 14), (0, u "java/lang/String"), (0, u "value"), (0, u "[B"), (0, .fieldref 10 16), (0, .nameAndType 17 18), (0, u "coder"), (0, u "B"), (2, u "hash"), (0, u "I"), (2, u "hashIsZero"), (0, u "Z"), (11, .fieldref 10 39), (0, .nameAndType 40 26), (0, u "COMPACT_STRINGS"), (66, .class_ 109), (1, u "java/lang/StringLatin1"), (32, u "()Z"), (191, u "()I"), (0, .methodref 10 336), (0, .nameAndType 17 337), (0, u "()B"), (154, .methodref 10 493), (0, .nameAndType 494 142), (0, u "isLatin1"), (10, .methodref 10 506), (0, .nameAndType 507 334), (0, u "length"), (67, .class_ 576), (0, u "java/lang/CharSequence"), (22, u "CASE_INSENSITIVE_ORDER"), (0, u "Ljava/util/Comparator;"), (32, .methodref 10 634), (0, .nameAndType 635 636), (0, u "indexOf"), (0, u "(II)I"), (0, .methodref 107 638), (0, .nameAndType 635 639), (0, u "([BIII)I"), (125, u "(I)I"), (335, u "serialPersistentFields"), (0, u "[Ljava/io/ObjectStreamField;"), (0, .class_ 1104), (0, u "java/lang/String$CaseInsensitiveComparator"), (1, .class_ 1107), (0, u "java/io/Serializable"), (0, .class_ 1109), (0, u "java/lang/Comparable"), (0, .class_ 1111), (0, u "java/lang/constant/Constable"), (0, .class_ 1113), (0, u "java/lang/constant/ConstantDesc"), (2, u "serialVersionUID"), (0, u "J"), (3, u "REPL"), (0, u "C"), (2, u "LATIN1"), (1, u "UTF16")] 323

def k9m0 : Method := { name := "<init>", desc := "()V", sig := { parameters := [], returnType := none }, accessFlags := 1, code := none }
def k9c1 : Code := { maxStack := 2, maxLocals := 1, code := jdk_42_method_54_code, exceptionTable := #[], attributes := #[] }
def k9m1 : Method := { name := "length", desc := "()I", sig := { parameters := [], returnType := some .int }, accessFlags := 1, code := some k9c1 }
def k9c2 : Code := { maxStack := 3, maxLocals := 2, code := jdk_42_method_79_code, exceptionTable := #[], attributes := #[] }
def k9m2 : Method := { name := "indexOf", desc := "(I)I", sig := { parameters := [.int], returnType := some .int }, accessFlags := 1, code := some k9c2 }
def k9c3 : Code := { maxStack := 4, maxLocals := 3, code := jdk_42_method_80_code, exceptionTable := #[], attributes := #[] }
def k9m3 : Method := { name := "indexOf", desc := "(II)I", sig := { parameters := [.int, .int], returnType := some .int }, accessFlags := 1, code := some k9c3 }
def k9c4 : Code := { maxStack := 1, maxLocals := 1, code := jdk_42_method_152_code, exceptionTable := #[], attributes := #[] }
def k9m4 : Method := { name := "coder", desc := "()B", sig := { parameters := [], returnType := some .byte }, accessFlags := 0, code := some k9c4 }
def k9c5 : Code := { maxStack := 1, maxLocals := 1, code := jdk_42_method_154_code, exceptionTable := #[], attributes := #[] }
def k9m5 : Method := { name := "isLatin1", desc := "()Z", sig := { parameters := [], returnType := some .boolean }, accessFlags := 0, code := some k9c5 }
/-- java/lang/String -/
def k9 : Class := { plain "java/lang/String" (some 0) with
  accessFlags := 49
  interfaces := #[4, 3, 7, 2, 8]
  cf := some (fileOf pool9 10 #[.nestMembers #[1103]] #[{ accessFlags := 1, nameIndex := 5, descriptorIndex := 6, attributes := #[] }, { accessFlags := 1, nameIndex := 507, descriptorIndex := 334, attributes := #[] }, { accessFlags := 1, nameIndex := 635, descriptorIndex := 765, attributes := #[] }, { accessFlags := 1, nameIndex := 635, descriptorIndex := 636, attributes := #[] }, { accessFlags := 0, nameIndex := 17, descriptorIndex := 337, attributes := #[] }, { accessFlags := 0, nameIndex := 494, descriptorIndex := 142, attributes := #[] }] 49 2 #[1106, 1108, 575, 1110, 1112] #[{ accessFlags := 18, nameIndex := 13, descriptorIndex := 14, attributes := #[] }, { accessFlags := 18, nameIndex := 17, descriptorIndex := 18, attributes := #[] }, { accessFlags := 2, nameIndex := 21, descriptorIndex := 22, attributes := #[] }, { accessFlags := 2, nameIndex := 25, descriptorIndex := 26, attributes := #[] }, { accessFlags := 26, nameIndex := 1116, descriptorIndex := 1117, attributes := #[] }, { accessFlags := 24, nameIndex := 40, descriptorIndex := 26, attributes := #[] }, { accessFlags := 26, nameIndex := 1101, descriptorIndex := 1102, attributes := #[] }, { accessFlags := 26, nameIndex := 1121, descriptorIndex := 1122, attributes := #[] }, { accessFlags := 25, nameIndex := 599, descriptorIndex := 600, attributes := #[] }, { accessFlags := 24, nameIndex := 1125, descriptorIndex := 18, attributes := #[] }, { accessFlags := 24, nameIndex := 1127, descriptorIndex := 18, attributes := #[] }])
  fields := #[{ name := "value", type := (.array .byte), accessFlags := 18, slot := 0, constantValue := 0 }, { name := "coder", type := .byte, accessFlags := 18, slot := 1, constantValue := 0 }, { name := "hash", type := .int, accessFlags := 2, slot := 2, constantValue := 0 }, { name := "hashIsZero", type := .boolean, accessFlags := 2, slot := 3, constantValue := 0 }, { name := "serialVersionUID", type := .long, accessFlags := 26, slot := 0, constantValue := 0 }, { name := "COMPACT_STRINGS", type := .boolean, accessFlags := 24, slot := 1, constantValue := 0 }, { name := "serialPersistentFields", type := (.array (.object "java/io/ObjectStreamField")), accessFlags := 26, slot := 2, constantValue := 0 }, { name := "REPL", type := .char, accessFlags := 26, slot := 3, constantValue := 0 }, { name := "CASE_INSENSITIVE_ORDER", type := (.object "java/util/Comparator"), accessFlags := 25, slot := 4, constantValue := 0 }, { name := "LATIN1", type := .byte, accessFlags := 24, slot := 5, constantValue := 0 }, { name := "UTF16", type := .byte, accessFlags := 24, slot := 6, constantValue := 0 }]
  methods := #[k9m0, k9m1, k9m2, k9m3, k9m4, k9m5]
  instanceTypes := #[(.array .byte), .byte, .int, .boolean]
  staticTypes := #[.long, .boolean, (.array (.object "java/io/ObjectStreamField")), .char, (.object "java/util/Comparator"), .byte, .byte]
  resolved := Array.replicate 1451 none
  statics := some 1 }

def pool10 : Array CpInfo := pool [(4, .class_ 6), (1, u "java/lang/Object"), (0, u "<init>"), (0, u "()V"), (5, .class_ 16), (1, u "java/lang/StringLatin1"), (21, .methodref 39 40), (0, .class_ 41), (0, .nameAndType 42 43), (0, u "java/lang/Math"), (0, u "min"), (0, u "(II)I"), (44, .methodref 14 89), (0, .nameAndType 90 91), (0, u "canEncode"), (0, u "(I)Z"), (0, .methodref 39 93), (0, .nameAndType 94 43), (0, u "max"), (0, .methodref 14 96), (0, .nameAndType 97 98), (0, u "indexOfChar"), (0, u "([BIII)I"), (2, u "indexOf"), (19, u "$assertionsDisabled"), (0, u "Z"), (98, .class_ 223), (1, u "java/lang/StringLatin1$LinesSpliterator"), (166, .class_ 391), (0, u "java/lang/StringLatin1$CharsSpliterator")] 3

def k10m0 : Method := { name := "<init>", desc := "()V", sig := { parameters := [], returnType := none }, accessFlags := 0, code := none }
def k10c1 : Code := { maxStack := 2, maxLocals := 1, code := jdk_43_method_4_code, exceptionTable := #[], attributes := #[] }
def k10m1 : Method := { name := "canEncode", desc := "(I)Z", sig := { parameters := [.int], returnType := some .boolean }, accessFlags := 9, code := some k10c1 }
def k10c2 : Code := { maxStack := 4, maxLocals := 4, code := jdk_43_method_22_code, exceptionTable := #[], attributes := #[] }
def k10m2 : Method := { name := "indexOf", desc := "([BIII)I", sig := { parameters := [(.array .byte), .int, .int, .int], returnType := some .int }, accessFlags := 9, code := some k10c2 }
def k10c3 : Code := { maxStack := 2, maxLocals := 6, code := jdk_43_method_23_code, exceptionTable := #[], attributes := #[] }
def k10m3 : Method := { name := "indexOfChar", desc := "([BIII)I", sig := { parameters := [(.array .byte), .int, .int, .int], returnType := some .int }, accessFlags := 10, code := some k10c3 }
/-- java/lang/StringLatin1 -/
def k10 : Class := { plain "java/lang/StringLatin1" (some 0) with
  accessFlags := 48
  interfaces := #[]
  cf := some (fileOf pool10 14 #[.nestMembers #[390, 221]] #[{ accessFlags := 0, nameIndex := 7, descriptorIndex := 8, attributes := #[] }, { accessFlags := 9, nameIndex := 90, descriptorIndex := 91, attributes := #[] }, { accessFlags := 9, nameIndex := 101, descriptorIndex := 98, attributes := #[] }, { accessFlags := 10, nameIndex := 97, descriptorIndex := 98, attributes := #[] }] 48 4 #[] #[{ accessFlags := 4120, nameIndex := 121, descriptorIndex := 122, attributes := #[] }])
  fields := #[{ name := "$assertionsDisabled", type := .boolean, accessFlags := 4120, slot := 0, constantValue := 0 }]
  methods := #[k10m0, k10m1, k10m2, k10m3]
  instanceTypes := #[]
  staticTypes := #[.boolean]
  resolved := Array.replicate 395 none
  statics := none }

def pool11 : Array CpInfo := pool [(1, .class_ 2), (0, u "java/lang/Math"), (1, .class_ 6), (1, u "java/lang/Object"), (0, u "<init>"), (0, u "()V"), (89, .class_ 100), (1, u "java/lang/Math$RandomNumberGeneratorHolder"), (71, u "negativeZeroFloatBits"), (0, u "J"), (2, u "negativeZeroDoubleBits"), (21, u "max"), (2, u "min"), (43, u "$assertionsDisabled"), (0, u "Z"), (88, u "(II)I"), (2, u "twoToTheDoubleScaleDown"), (0, u "D"), (4, u "twoToTheDoubleScaleUp"), (9, u "E"), (3, u "PI"), (2, u "TAU"), (2, u "DEGREES_TO_RADIANS"), (0, u "RADIANS_TO_DEGREES")] 94

def k11m0 : Method := { name := "<init>", desc := "()V", sig := { parameters := [], returnType := none }, accessFlags := 2, code := none }
def k11c1 : Code := { maxStack := 2, maxLocals := 2, code := jdk_29_method_65_code, exceptionTable := #[], attributes := #[] }
def k11m1 : Method := { name := "max", desc := "(II)I", sig := { parameters := [.int, .int], returnType := some .int }, accessFlags := 9, code := some k11c1 }
def k11c2 : Code := { maxStack := 2, maxLocals := 2, code := jdk_29_method_69_code, exceptionTable := #[], attributes := #[] }
def k11m2 : Method := { name := "min", desc := "(II)I", sig := { parameters := [.int, .int], returnType := some .int }, accessFlags := 9, code := some k11c2 }
/-- java/lang/Math -/
def k11 : Class := { plain "java/lang/Math" (some 0) with
  accessFlags := 49
  interfaces := #[]
  cf := some (fileOf pool11 1 #[.nestMembers #[98]] #[{ accessFlags := 2, nameIndex := 7, descriptorIndex := 8, attributes := #[] }, { accessFlags := 9, nameIndex := 198, descriptorIndex := 335, attributes := #[] }, { accessFlags := 9, nameIndex := 201, descriptorIndex := 335, attributes := #[] }] 49 4 #[] #[{ accessFlags := 25, nameIndex := 354, descriptorIndex := 339, attributes := #[] }, { accessFlags := 25, nameIndex := 358, descriptorIndex := 339, attributes := #[] }, { accessFlags := 25, nameIndex := 361, descriptorIndex := 339, attributes := #[] }, { accessFlags := 26, nameIndex := 364, descriptorIndex := 339, attributes := #[] }, { accessFlags := 26, nameIndex := 365, descriptorIndex := 339, attributes := #[] }, { accessFlags := 26, nameIndex := 172, descriptorIndex := 173, attributes := #[] }, { accessFlags := 26, nameIndex := 176, descriptorIndex := 173, attributes := #[] }, { accessFlags := 8, nameIndex := 344, descriptorIndex := 339, attributes := #[] }, { accessFlags := 8, nameIndex := 338, descriptorIndex := 339, attributes := #[] }, { accessFlags := 4120, nameIndex := 245, descriptorIndex := 246, attributes := #[] }])
  fields := #[{ name := "E", type := .double, accessFlags := 25, slot := 0, constantValue := 0 }, { name := "PI", type := .double, accessFlags := 25, slot := 1, constantValue := 0 }, { name := "TAU", type := .double, accessFlags := 25, slot := 2, constantValue := 0 }, { name := "DEGREES_TO_RADIANS", type := .double, accessFlags := 26, slot := 3, constantValue := 0 }, { name := "RADIANS_TO_DEGREES", type := .double, accessFlags := 26, slot := 4, constantValue := 0 }, { name := "negativeZeroFloatBits", type := .long, accessFlags := 26, slot := 5, constantValue := 0 }, { name := "negativeZeroDoubleBits", type := .long, accessFlags := 26, slot := 6, constantValue := 0 }, { name := "twoToTheDoubleScaleUp", type := .double, accessFlags := 8, slot := 7, constantValue := 0 }, { name := "twoToTheDoubleScaleDown", type := .double, accessFlags := 8, slot := 8, constantValue := 0 }, { name := "$assertionsDisabled", type := .boolean, accessFlags := 4120, slot := 9, constantValue := 0 }]
  methods := #[k11m0, k11m1, k11m2]
  instanceTypes := #[]
  staticTypes := #[.double, .double, .double, .double, .double, .long, .long, .double, .double, .boolean]
  resolved := Array.replicate 460 none
  statics := none }

def pool12 : Array CpInfo := pool [(2, .class_ 4), (1, u "java/lang/Object"), (0, u "<init>"), (0, u "()V"), (17, .class_ 26), (1, u "jdk/internal/util/Preconditions"), (28, .class_ 56), (0, u "jdk/internal/util/Preconditions$4"), (57, .class_ 115), (0, u "jdk/internal/util/Preconditions$1"), (7, u "SIOOBE_FORMATTER"), (0, u "Ljava/util/function/BiFunction;"), (0, .class_ 126), (0, u "jdk/internal/util/Preconditions$2"), (3, u "AIOOBE_FORMATTER"), (0, .class_ 132), (0, u "jdk/internal/util/Preconditions$3"), (3, u "IOOBE_FORMATTER")] 57

def k12m0 : Method := { name := "<init>", desc := "()V", sig := { parameters := [], returnType := none }, accessFlags := 1, code := none }
/-- jdk/internal/util/Preconditions -/
def k12 : Class := { plain "jdk/internal/util/Preconditions" (some 0) with
  accessFlags := 33
  interfaces := #[]
  cf := some (fileOf pool12 24 #[.nestMembers #[55, 131, 125, 114]] #[{ accessFlags := 1, nameIndex := 5, descriptorIndex := 6, attributes := #[] }] 33 2 #[] #[{ accessFlags := 25, nameIndex := 123, descriptorIndex := 124, attributes := #[] }, { accessFlags := 25, nameIndex := 130, descriptorIndex := 124, attributes := #[] }, { accessFlags := 25, nameIndex := 136, descriptorIndex := 124, attributes := #[] }])
  fields := #[{ name := "SIOOBE_FORMATTER", type := (.object "java/util/function/BiFunction"), accessFlags := 25, slot := 0, constantValue := 0 }, { name := "AIOOBE_FORMATTER", type := (.object "java/util/function/BiFunction"), accessFlags := 25, slot := 1, constantValue := 0 }, { name := "IOOBE_FORMATTER", type := (.object "java/util/function/BiFunction"), accessFlags := 25, slot := 2, constantValue := 0 }]
  methods := #[k12m0]
  instanceTypes := #[]
  staticTypes := #[(.object "java/util/function/BiFunction"), (.object "java/util/function/BiFunction"), (.object "java/util/function/BiFunction")]
  resolved := Array.replicate 194 none
  statics := some 2 }

def pool13 : Array CpInfo := pool [(9, u "<init>"), (6, .class_ 18), (1, u "java/lang/Object"), (0, u "()V"), (1, .class_ 23), (1, u "jdk/internal/util/ArraysSupport"), (0, u "LOG2_ARRAY_LONG_INDEX_SCALE"), (0, u "I"), (2, u "U"), (0, u "Ljdk/internal/misc/Unsafe;"), (8, u "BIG_ENDIAN"), (0, u "Z"), (8, u "LOG2_BYTE_BIT_SIZE"), (4, u "LOG2_ARRAY_INT_INDEX_SCALE"), (54, u "JLA"), (0, u "Ljdk/internal/access/JavaLangAccess;"), (11, u "LOG2_ARRAY_BOOLEAN_INDEX_SCALE"), (9, u "LOG2_ARRAY_BYTE_INDEX_SCALE"), (5, u "LOG2_ARRAY_CHAR_INDEX_SCALE"), (5, u "LOG2_ARRAY_SHORT_INDEX_SCALE"), (18, u "LOG2_ARRAY_FLOAT_INDEX_SCALE"), (24, u "LOG2_ARRAY_DOUBLE_INDEX_SCALE"), (89, u "T_BOOLEAN"), (2, u "T_CHAR"), (1, u "T_FLOAT"), (1, u "T_DOUBLE"), (1, u "T_BYTE"), (1, u "T_SHORT"), (1, u "T_INT"), (1, u "T_LONG"), (1, u "SOFT_MAX_ARRAY_LENGTH")] 83

def k13m0 : Method := { name := "<init>", desc := "()V", sig := { parameters := [], returnType := none }, accessFlags := 2, code := none }
/-- jdk/internal/util/ArraysSupport -/
def k13 : Class := { plain "jdk/internal/util/ArraysSupport" (some 0) with
  accessFlags := 33
  interfaces := #[]
  cf := some (fileOf pool13 21 #[] #[{ accessFlags := 2, nameIndex := 9, descriptorIndex := 19, attributes := #[] }] 33 16 #[] #[{ accessFlags := 24, nameIndex := 28, descriptorIndex := 29, attributes := #[] }, { accessFlags := 26, nameIndex := 38, descriptorIndex := 39, attributes := #[] }, { accessFlags := 25, nameIndex := 121, descriptorIndex := 25, attributes := #[] }, { accessFlags := 25, nameIndex := 131, descriptorIndex := 25, attributes := #[] }, { accessFlags := 25, nameIndex := 137, descriptorIndex := 25, attributes := #[] }, { accessFlags := 25, nameIndex := 143, descriptorIndex := 25, attributes := #[] }, { accessFlags := 25, nameIndex := 53, descriptorIndex := 25, attributes := #[] }, { accessFlags := 25, nameIndex := 24, descriptorIndex := 25, attributes := #[] }, { accessFlags := 25, nameIndex := 162, descriptorIndex := 25, attributes := #[] }, { accessFlags := 25, nameIndex := 187, descriptorIndex := 25, attributes := #[] }, { accessFlags := 26, nameIndex := 48, descriptorIndex := 25, attributes := #[] }, { accessFlags := 25, nameIndex := 277, descriptorIndex := 25, attributes := #[] }, { accessFlags := 25, nameIndex := 280, descriptorIndex := 25, attributes := #[] }, { accessFlags := 25, nameIndex := 282, descriptorIndex := 25, attributes := #[] }, { accessFlags := 25, nameIndex := 284, descriptorIndex := 25, attributes := #[] }, { accessFlags := 25, nameIndex := 286, descriptorIndex := 25, attributes := #[] }, { accessFlags := 25, nameIndex := 288, descriptorIndex := 25, attributes := #[] }, { accessFlags := 25, nameIndex := 290, descriptorIndex := 25, attributes := #[] }, { accessFlags := 25, nameIndex := 292, descriptorIndex := 25, attributes := #[] }, { accessFlags := 26, nameIndex := 108, descriptorIndex := 109, attributes := #[] }, { accessFlags := 25, nameIndex := 294, descriptorIndex := 25, attributes := #[] }])
  fields := #[{ name := "U", type := (.object "jdk/internal/misc/Unsafe"), accessFlags := 24, slot := 0, constantValue := 0 }, { name := "BIG_ENDIAN", type := .boolean, accessFlags := 26, slot := 1, constantValue := 0 }, { name := "LOG2_ARRAY_BOOLEAN_INDEX_SCALE", type := .int, accessFlags := 25, slot := 2, constantValue := 0 }, { name := "LOG2_ARRAY_BYTE_INDEX_SCALE", type := .int, accessFlags := 25, slot := 3, constantValue := 0 }, { name := "LOG2_ARRAY_CHAR_INDEX_SCALE", type := .int, accessFlags := 25, slot := 4, constantValue := 0 }, { name := "LOG2_ARRAY_SHORT_INDEX_SCALE", type := .int, accessFlags := 25, slot := 5, constantValue := 0 }, { name := "LOG2_ARRAY_INT_INDEX_SCALE", type := .int, accessFlags := 25, slot := 6, constantValue := 0 }, { name := "LOG2_ARRAY_LONG_INDEX_SCALE", type := .int, accessFlags := 25, slot := 7, constantValue := 0 }, { name := "LOG2_ARRAY_FLOAT_INDEX_SCALE", type := .int, accessFlags := 25, slot := 8, constantValue := 0 }, { name := "LOG2_ARRAY_DOUBLE_INDEX_SCALE", type := .int, accessFlags := 25, slot := 9, constantValue := 0 }, { name := "LOG2_BYTE_BIT_SIZE", type := .int, accessFlags := 26, slot := 10, constantValue := 0 }, { name := "T_BOOLEAN", type := .int, accessFlags := 25, slot := 11, constantValue := 0 }, { name := "T_CHAR", type := .int, accessFlags := 25, slot := 12, constantValue := 0 }, { name := "T_FLOAT", type := .int, accessFlags := 25, slot := 13, constantValue := 0 }, { name := "T_DOUBLE", type := .int, accessFlags := 25, slot := 14, constantValue := 0 }, { name := "T_BYTE", type := .int, accessFlags := 25, slot := 15, constantValue := 0 }, { name := "T_SHORT", type := .int, accessFlags := 25, slot := 16, constantValue := 0 }, { name := "T_INT", type := .int, accessFlags := 25, slot := 17, constantValue := 0 }, { name := "T_LONG", type := .int, accessFlags := 25, slot := 18, constantValue := 0 }, { name := "JLA", type := (.object "jdk/internal/access/JavaLangAccess"), accessFlags := 26, slot := 19, constantValue := 0 }, { name := "SOFT_MAX_ARRAY_LENGTH", type := .int, accessFlags := 25, slot := 20, constantValue := 0 }]
  methods := #[k13m0]
  instanceTypes := #[]
  staticTypes := #[(.object "jdk/internal/misc/Unsafe"), .boolean, .int, .int, .int, .int, .int, .int, .int, .int, .int, .int, .int, .int, .int, .int, .int, .int, .int, (.object "jdk/internal/access/JavaLangAccess"), .int]
  resolved := Array.replicate 378 none
  statics := none }

def pool14 : Array CpInfo := pool [(1, u "java/lang/Cloneable"), (0, .class_ 1), (0, u "java/lang/Object"), (0, .class_ 3)] 3

/-- java/lang/Cloneable -/
def k14 : Class := { plain "java/lang/Cloneable" (some 0) with
  accessFlags := 1537
  interfaces := #[]
  cf := some (fileOf pool14 2 #[] #[] 1537 4 #[] #[])
  fields := #[]
  methods := #[]
  instanceTypes := #[]
  staticTypes := #[]
  resolved := Array.replicate 8 none
  statics := none }

/-- the primitive byte -/
def k15 : Class := { plain "byte" none with kind := .primitive 'B', accessFlags := 0x411 }
/-- [B -/
def k16 : Class := { plain "[B" (some 0) with kind := .array 15 .byte, interfaces := #[14, 4], accessFlags := 1041 }

/-- the primitive int -/
def k17 : Class := { plain "int" none with kind := .primitive 'I', accessFlags := 0x411 }
/-- [I -/
def k18 : Class := { plain "[I" (some 0) with kind := .array 17 .int, interfaces := #[14, 4], accessFlags := 1041 }

/-- [Lcom/example/lieudit/lieudit/RecordFormat; -/
def k19 : Class := { plain "[Lcom/example/lieudit/lieudit/RecordFormat;" (some 0) with kind := .array 6 (.object "com/example/lieudit/lieudit/RecordFormat"), interfaces := #[14, 4], accessFlags := 1041 }

def heap : Heap := #[{ cls := 6, slots := #[.ref 4, .ref 7, .ref 10, .ref 13, .ref 16, .int 0, .ref 3, .null], vm := .statics 6 },
  { cls := 9, slots := #[.long 0, .int 1, .null, .int 0, .null, .int 0, .int 0], vm := .statics 9 },
  { cls := 12, slots := #[.null, .null, .null], vm := .statics 12 },
  { cls := 19, slots := #[.ref 4, .ref 7, .ref 10, .ref 13, .ref 16], vm := .none },
  { cls := 6, slots := #[.null, .int 0, .int 0, .ref 5, .ref 5], vm := .none },
  { cls := 9, slots := #[.ref 6, .int 0, .int 0, .int 0], vm := .none },
  { cls := 16, slots := #[], vm := .none },
  { cls := 6, slots := #[.null, .int 1, .int 0, .ref 8, .ref 8], vm := .none },
  { cls := 9, slots := #[.ref 9, .int 0, .int 0, .int 0], vm := .none },
  { cls := 16, slots := #[.int 122], vm := .none },
  { cls := 6, slots := #[.null, .int 2, .int 0, .ref 11, .ref 11], vm := .none },
  { cls := 9, slots := #[.ref 12, .int 0, .int 0, .int 0], vm := .none },
  { cls := 16, slots := #[.int 119], vm := .none },
  { cls := 6, slots := #[.null, .int 3, .int 0, .ref 14, .ref 14], vm := .none },
  { cls := 9, slots := #[.ref 15, .int 0, .int 0, .int 0], vm := .none },
  { cls := 16, slots := #[.int 117, .int 118, .int 120, .int 121], vm := .none },
  { cls := 6, slots := #[.null, .int 4, .int 0, .ref 17, .ref 17], vm := .none },
  { cls := 9, slots := #[.ref 18, .int 0, .int 0, .int 0], vm := .none },
  { cls := 16, slots := #[.int 113], vm := .none }]
def classes : Array Class := #[k0, k1, k2, k3, k4, k5, k6, k7, k8, k9, k10, k11, k12, k13, k14, k15, k16, k17, k18, k19]
def interned : List (Array UInt16 × Addr) := []
def slotsUsed : Nat := 75
def theMethod : MethodId := ⟨1, 2⟩
def args0 : Array Value := #[.int 5, .int 7]
def aboutOver (below : List Frame) : State where
  vm := { classes := classes, interned := interned.toArray }
  heap := heap
  slotsUsed := slotsUsed
  threads := #[{ frames := .invoking theMethod args0 :: below }]
def below0 : List Frame := [.native { method := ⟨0, 0⟩, args := #[] }]
def about1 : State := aboutOver below0
def p0 : Program := .bare "" "" ""
def e0 : Env := launch0.env 0 0 0
theorem w_frames : about1.frames = Frame.invoking theMethod args0 :: below0 := rfl
set_option maxRecDepth 65536 in
theorem w_args : argsFit about1.vm theMethod args0 = true := by decide +kernel
set_option maxRecDepth 65536 in
theorem w_heap : heapFits about1 = true := by decide +kernel
set_option maxRecDepth 65536 in
theorem w_runnable : about1.curStatus? = some .runnable := by decide +kernel
set_option maxRecDepth 65536 in
theorem w_alone : about1.alone = true := by decide +kernel
set_option maxRecDepth 65536 in
theorem w_named : about1.methodNamed? x = some theMethod := by decide +kernel
set_option maxRecDepth 65536 in
theorem w_hears : about1.hears theMethod below0 = true := by decide +kernel
set_option maxRecDepth 65536 in
theorem w_ripe : about1.ripe theMethod args0 below0 = true := by decide +kernel
theorem w_running : about1.status = .running := rfl
set_option maxRecDepth 65536 in
theorem w_room : about1.hasRoom e0.platform room_1 = true :=
  launch0.hasRoom_least _ room_1 (by decide +kernel) (by decide +kernel) (by decide +kernel) (by decide +kernel) (by decide +kernel) (by decide +kernel)
theorem allAtoms_all (ts : List Jvm.Cond) (a : Array Jvm.Value) (st : Jvm.State) : (allAtoms ts).before a st = ts.all (fun c => c.before a st) := by
  induction ts with
  | nil => rfl
  | cons c t ih =>
    show (Jvm.Cond.and c (allAtoms t)).before a st = _
    rw [Jvm.Cond.before_and, ih, List.all_cons]
def words1 : List Jvm.Cond := Jvm.Cond.code x code maxLocals ret :: tables_1
/-- a 'code' word, met by the world's own term for the bytes: nothing is compared byte by byte -/
theorem code_word {y : MethodName} {bytes : ByteArray} {mx : Nat} {rt : Option FieldType} {a : Array Value} {s : State} {m : MethodId} {meth : Method} {c : Code} (h1 : s.methodNamed? y = some m) (h2 : s.vm.method? m = some meth) (h3 : meth.code = some c) (h4 : c.code = bytes)
    (h5 : (c.maxLocals == mx && c.exceptionTable.isEmpty && decide (c.maxStack ≤ mostOperands) && decide (meth.sig.returnType = rt) && !meth.locks && decide (parseMethodDescriptor y.desc = some meth.sig)) = true) : (Jvm.Cond.code y bytes mx rt).before a s = true := by
  simp only [Bool.and_eq_true, beq_iff_eq, Bool.not_eq_true', decide_eq_true_eq] at h5
  obtain ⟨⟨⟨⟨⟨g1, g2⟩, g3⟩, g4⟩, g5⟩, g6⟩ := h5
  simp [Cond.before, Cond.holds, Cond.value, h1, h2, h3, h4, g1, g2, g3, g4, g5, g6]
def isCode : Jvm.Cond → Bool
  | .code _ _ _ _ => true
  | _ => false
theorem all_split {L : List Jvm.Cond} {P : Jvm.Cond → Bool} (h1 : L.all (fun c => isCode c || P c) = true) (h2 : ∀ c ∈ L.filter isCode, P c = true) : L.all P = true := by
  refine List.all_eq_true.mpr fun c hc => ?_
  have h := List.all_eq_true.mp h1 c hc
  rcases Bool.eq_false_or_eq_true (isCode c) with hi | hi
  · exact h2 c (List.mem_filter.mpr ⟨hc, hi⟩)
  · simpa [hi] using h
set_option maxRecDepth 65536 in
theorem w_c0 : (Jvm.Cond.code x code maxLocals ret).before args0 about1 = true := code_word (m := ⟨1, 2⟩) (meth := k1m2) (c := k1c2) (by decide +kernel) rfl rfl rfl (by decide +kernel)
set_option maxRecDepth 65536 in
theorem w_c1 : (Jvm.Cond.code ({ cls := "com/example/lieudit/lieudit/RecordFormat", name := "of", desc := "(C)Lcom/example/lieudit/lieudit/RecordFormat;" } : Jvm.MethodName) prog_22_method_5_code (5 : Nat) (Option.some (Jvm.ClassFile.FieldType.object "com/example/lieudit/lieudit/RecordFormat"))).before args0 about1 = true := code_word (m := ⟨6, 0⟩) (meth := k6m0) (c := k6c0) (by decide +kernel) rfl rfl rfl (by decide +kernel)
set_option maxRecDepth 65536 in
theorem w_c2 : (Jvm.Cond.code ({ cls := "java/lang/String", name := "indexOf", desc := "(I)I" } : Jvm.MethodName) jdk_42_method_79_code (2 : Nat) (Option.some Jvm.ClassFile.FieldType.int)).before args0 about1 = true := code_word (m := ⟨9, 2⟩) (meth := k9m2) (c := k9c2) (by decide +kernel) rfl rfl rfl (by decide +kernel)
set_option maxRecDepth 65536 in
theorem w_c3 : (Jvm.Cond.code ({ cls := "java/lang/String", name := "indexOf", desc := "(II)I" } : Jvm.MethodName) jdk_42_method_80_code (3 : Nat) (Option.some Jvm.ClassFile.FieldType.int)).before args0 about1 = true := code_word (m := ⟨9, 3⟩) (meth := k9m3) (c := k9c3) (by decide +kernel) rfl rfl rfl (by decide +kernel)
set_option maxRecDepth 65536 in
theorem w_c4 : (Jvm.Cond.code ({ cls := "java/lang/String", name := "isLatin1", desc := "()Z" } : Jvm.MethodName) jdk_42_method_154_code (1 : Nat) (Option.some Jvm.ClassFile.FieldType.boolean)).before args0 about1 = true := code_word (m := ⟨9, 5⟩) (meth := k9m5) (c := k9c5) (by decide +kernel) rfl rfl rfl (by decide +kernel)
set_option maxRecDepth 65536 in
theorem w_c5 : (Jvm.Cond.code ({ cls := "java/lang/String", name := "length", desc := "()I" } : Jvm.MethodName) jdk_42_method_54_code (1 : Nat) (Option.some Jvm.ClassFile.FieldType.int)).before args0 about1 = true := code_word (m := ⟨9, 1⟩) (meth := k9m1) (c := k9c1) (by decide +kernel) rfl rfl rfl (by decide +kernel)
set_option maxRecDepth 65536 in
theorem w_c6 : (Jvm.Cond.code ({ cls := "java/lang/String", name := "coder", desc := "()B" } : Jvm.MethodName) jdk_42_method_152_code (1 : Nat) (Option.some Jvm.ClassFile.FieldType.byte)).before args0 about1 = true := code_word (m := ⟨9, 4⟩) (meth := k9m4) (c := k9c4) (by decide +kernel) rfl rfl rfl (by decide +kernel)
set_option maxRecDepth 65536 in
theorem w_c7 : (Jvm.Cond.code ({ cls := "java/lang/StringLatin1", name := "indexOf", desc := "([BIII)I" } : Jvm.MethodName) jdk_43_method_22_code (4 : Nat) (Option.some Jvm.ClassFile.FieldType.int)).before args0 about1 = true := code_word (m := ⟨10, 2⟩) (meth := k10m2) (c := k10c2) (by decide +kernel) rfl rfl rfl (by decide +kernel)
set_option maxRecDepth 65536 in
theorem w_c8 : (Jvm.Cond.code ({ cls := "java/lang/StringLatin1", name := "canEncode", desc := "(I)Z" } : Jvm.MethodName) jdk_43_method_4_code (1 : Nat) (Option.some Jvm.ClassFile.FieldType.boolean)).before args0 about1 = true := code_word (m := ⟨10, 1⟩) (meth := k10m1) (c := k10c1) (by decide +kernel) rfl rfl rfl (by decide +kernel)
set_option maxRecDepth 65536 in
theorem w_c9 : (Jvm.Cond.code ({ cls := "java/lang/Math", name := "max", desc := "(II)I" } : Jvm.MethodName) jdk_29_method_65_code (2 : Nat) (Option.some Jvm.ClassFile.FieldType.int)).before args0 about1 = true := code_word (m := ⟨11, 1⟩) (meth := k11m1) (c := k11c1) (by decide +kernel) rfl rfl rfl (by decide +kernel)
set_option maxRecDepth 65536 in
theorem w_c10 : (Jvm.Cond.code ({ cls := "java/lang/Math", name := "min", desc := "(II)I" } : Jvm.MethodName) jdk_29_method_69_code (2 : Nat) (Option.some Jvm.ClassFile.FieldType.int)).before args0 about1 = true := code_word (m := ⟨11, 2⟩) (meth := k11m2) (c := k11c2) (by decide +kernel) rfl rfl rfl (by decide +kernel)
set_option maxRecDepth 65536 in
theorem w_c11 : (Jvm.Cond.code ({ cls := "java/lang/StringLatin1", name := "indexOfChar", desc := "([BIII)I" } : Jvm.MethodName) jdk_43_method_23_code (6 : Nat) (Option.some Jvm.ClassFile.FieldType.int)).before args0 about1 = true := code_word (m := ⟨10, 3⟩) (meth := k10m3) (c := k10c3) (by decide +kernel) rfl rfl rfl (by decide +kernel)
set_option maxRecDepth 65536 in
theorem w_c12 : (Jvm.Cond.code ({ cls := "com/example/lieudit/lieudit/RecordFormatOfPinLaw", name := "expected", desc := "(C)Lcom/example/lieudit/lieudit/RecordFormat;" } : Jvm.MethodName) method_2_code (1 : Nat) (Option.some (Jvm.ClassFile.FieldType.object "com/example/lieudit/lieudit/RecordFormat"))).before args0 about1 = true := code_word (m := ⟨1, 1⟩) (meth := k1m1) (c := k1c1) (by decide +kernel) rfl rfl rfl (by decide +kernel)
def codes1 : List Jvm.Cond := [Jvm.Cond.code x code maxLocals ret, Jvm.Cond.code ({ cls := "com/example/lieudit/lieudit/RecordFormat", name := "of", desc := "(C)Lcom/example/lieudit/lieudit/RecordFormat;" } : Jvm.MethodName) prog_22_method_5_code (5 : Nat) (Option.some (Jvm.ClassFile.FieldType.object "com/example/lieudit/lieudit/RecordFormat")), Jvm.Cond.code ({ cls := "java/lang/String", name := "indexOf", desc := "(I)I" } : Jvm.MethodName) jdk_42_method_79_code (2 : Nat) (Option.some Jvm.ClassFile.FieldType.int), Jvm.Cond.code ({ cls := "java/lang/String", name := "indexOf", desc := "(II)I" } : Jvm.MethodName) jdk_42_method_80_code (3 : Nat) (Option.some Jvm.ClassFile.FieldType.int), Jvm.Cond.code ({ cls := "java/lang/String", name := "isLatin1", desc := "()Z" } : Jvm.MethodName) jdk_42_method_154_code (1 : Nat) (Option.some Jvm.ClassFile.FieldType.boolean), Jvm.Cond.code ({ cls := "java/lang/String", name := "length", desc := "()I" } : Jvm.MethodName) jdk_42_method_54_code (1 : Nat) (Option.some Jvm.ClassFile.FieldType.int), Jvm.Cond.code ({ cls := "java/lang/String", name := "coder", desc := "()B" } : Jvm.MethodName) jdk_42_method_152_code (1 : Nat) (Option.some Jvm.ClassFile.FieldType.byte), Jvm.Cond.code ({ cls := "java/lang/StringLatin1", name := "indexOf", desc := "([BIII)I" } : Jvm.MethodName) jdk_43_method_22_code (4 : Nat) (Option.some Jvm.ClassFile.FieldType.int), Jvm.Cond.code ({ cls := "java/lang/StringLatin1", name := "canEncode", desc := "(I)Z" } : Jvm.MethodName) jdk_43_method_4_code (1 : Nat) (Option.some Jvm.ClassFile.FieldType.boolean), Jvm.Cond.code ({ cls := "java/lang/Math", name := "max", desc := "(II)I" } : Jvm.MethodName) jdk_29_method_65_code (2 : Nat) (Option.some Jvm.ClassFile.FieldType.int), Jvm.Cond.code ({ cls := "java/lang/Math", name := "min", desc := "(II)I" } : Jvm.MethodName) jdk_29_method_69_code (2 : Nat) (Option.some Jvm.ClassFile.FieldType.int), Jvm.Cond.code ({ cls := "java/lang/StringLatin1", name := "indexOfChar", desc := "([BIII)I" } : Jvm.MethodName) jdk_43_method_23_code (6 : Nat) (Option.some Jvm.ClassFile.FieldType.int), Jvm.Cond.code ({ cls := "com/example/lieudit/lieudit/RecordFormatOfPinLaw", name := "expected", desc := "(C)Lcom/example/lieudit/lieudit/RecordFormat;" } : Jvm.MethodName) method_2_code (1 : Nat) (Option.some (Jvm.ClassFile.FieldType.object "com/example/lieudit/lieudit/RecordFormat"))]
set_option maxRecDepth 65536 in
theorem codes_eq : words1.filter isCode = codes1 := rfl
theorem w_codes : ∀ c ∈ words1.filter isCode, c.before args0 about1 = true := by
  rw [codes_eq]
  intro c hc
  simp only [codes1, List.mem_cons, List.not_mem_nil, or_false] at hc
  rcases hc with rfl | rfl | rfl | rfl | rfl | rfl | rfl | rfl | rfl | rfl | rfl | rfl | rfl
  · exact w_c0
  · exact w_c1
  · exact w_c2
  · exact w_c3
  · exact w_c4
  · exact w_c5
  · exact w_c6
  · exact w_c7
  · exact w_c8
  · exact w_c9
  · exact w_c10
  · exact w_c11
  · exact w_c12
set_option maxRecDepth 65536 in
theorem w_t1 : (words1.take 24).all (fun c => isCode c || c.before args0 about1) = true := by decide +kernel
set_option maxRecDepth 65536 in
theorem w_t2 : ((words1.drop 24).take 24).all (fun c => isCode c || c.before args0 about1) = true := by decide +kernel
set_option maxRecDepth 65536 in
theorem w_t3 : (((words1.drop 24).drop 24).take 24).all (fun c => isCode c || c.before args0 about1) = true := by decide +kernel
set_option maxRecDepth 65536 in
theorem w_t4 : (((words1.drop 24).drop 24).drop 24).all (fun c => isCode c || c.before args0 about1) = true := by decide +kernel
theorem w_tables : (allAtoms (Jvm.Cond.code x code maxLocals ret :: tables_1)).before args0 about1 = true := by
  rw [allAtoms_all]
  show words1.all (fun c => c.before args0 about1) = true
  refine all_split ?_ w_codes
  rw [← List.take_append_drop 24 words1, List.all_append, w_t1, ← List.take_append_drop 24 (words1.drop 24), List.all_append, w_t2, ← List.take_append_drop 24 ((words1.drop 24).drop 24), List.all_append, w_t3, w_t4]
  rfl
set_option maxRecDepth 65536 in
theorem w_rest : rest_1_c.before args0 about1 = true := by decide +kernel
set_option maxRecDepth 65536 in
theorem w_case : (Jvm.Cond.and given_1 narrow_1).before args0 about1 = true := by decide +kernel
theorem w_applies : (headSpec (Jvm.Cond.code x code maxLocals ret :: tables_1) room_1).applies x e0.platform about1 = true :=
  (Spec.applies_iff w_frames).mpr ⟨w_running, w_runnable, w_alone, w_named, w_hears, w_ripe, w_room, w_tables⟩
theorem atStart : AtStart classFile x code maxLocals ret World_1 tables_1 room_1 Calls_1 rest_1 Pre_1 launch0 p0 e0 about1 theMethod args0 below0 :=
  ⟨lists_1, trivial, launch0.admits_env _ _ _, launch0.least_env, fairChoices_fair.cas, fairChoices_fair.clock, w_frames, w_args, w_heap, w_applies, trivial, w_rest, w_case⟩
end start1
theorem witness_1 : WitnessClaimed_1 := ⟨start1.p0, start1.e0, start1.about1, start1.theMethod, start1.args0, start1.below0, start1.atStart⟩
end Jvm.Pilot.@@N@@
