import JvmDerived
import JvmDerived.Pilot.@@N@@Statement
import JvmDerived.Pilot.@@N@@Code
set_option linter.unusedVariables false
set_option linter.unusedSimpArgs false
namespace Jvm.Own
open Sem ClassFile Op Lib Jvm.Stand Jvm.Free Jvm.LawKit Jvm.RoadKit
/-! A walk, forward: 'Run' says that the invocation's first state reaches this frame. -/
abbrev Cx := Program × Launch × Env × State × MethodId × Array Value × List Frame × Method × Code × State
def EL : List (String × Nat) := [("java/lang/String", 7)]
/-- addresses that may be written: none of them is a held constant's -/
def SF (Z : State) (vm : Vm) (h : Heap) (sf : List Addr) : Prop := ∀ x ∈ sf, Safe Z EL vm h x ∧ x < h.size
section Held
variable {Z : State} {vm vm1 : Vm} {h h' : Heap} {a : Addr} {sl : Nat} {v : Value} {sf : List Addr}
theorem SF.wr (W : Wr h h' a sl v) (S : Safe Z EL vm h a) (H : CHv Z EL vm h) (F : SF Z vm h sf) : SF Z vm h' sf := fun x hx => ⟨Safe.wr W S H (F x hx).1, by rw [Wr.size W]; exact (F x hx).2⟩
theorem SF.new (E : Ext h h') (hb : h.size < h'.size) (H : CHv Z EL vm h) (F : SF Z vm h sf) : SF Z vm h' (h.size :: sf) := fun x hx => by
  rcases List.mem_cons.mp hx with q | q
  · subst q; exact ⟨Safe.ext E H (Safe.new (Nat.le_refl _)), hb⟩
  · exact ⟨Safe.ext E H (F x q).1, Nat.lt_of_lt_of_le (F x q).2 E.1⟩
theorem SF.call (R : CHr Z EL vm h vm1 h') (F : SF Z vm h sf) : SF Z vm1 h' sf := fun x hx => ⟨R.safe (F x hx).2 (F x hx).1, Nat.lt_of_lt_of_le (F x hx).2 R.2.1⟩
theorem SF.sub {l : List Addr} (F : SF Z vm h sf) (q : ∀ x ∈ l, x ∈ sf) : SF Z vm h l := fun x hx => F x (q x hx)
theorem SF.app {l : List Addr} (F : SF Z vm h sf) (G : SF Z vm h l) : SF Z vm h (l ++ sf) := fun x hx => (List.mem_append.mp hx).elim (G x) (F x)
end Held
def RunI (p : Program) (l : Launch) (e : Env) (s : State) (m : MethodId) (args : Array Value) (below : List Frame) (meth : Method) (c : Code) (A : State) (R : Room) (Z : State) (n0 : Nat) (own nm : String) (ret : Option FieldType) (bytes : ByteArray) (mx : Nat) (sf : List Addr) (h : Heap) (cells slots pc : Nat) (L : Array Slot) (S : List Value) : Prop :=
  p.tables.exec = Jvm.exec ∧ c.code = bytes ∧ c.maxLocals = mx ∧ meth.name = nm ∧ meth.sig.returnType = ret ∧ meth.locks = false ∧
    ∃ (vm0 : Vm) (k0 : Nat), s.Since vm0 k0 ∧ k0 ≤ h.size ∧ (s.setVm vm0).vm.findClass own = some m.cls ∧ Z.Warmed39 (s.setVm vm0).vm ∧ (∃ b0, EW Z b0 EL) ∧ CHr Z EL s.vm s.heap vm0 h ∧ SF Z vm0 h sf ∧
    ∃ (T : State) (locs : List Loc), Stand p l e R (s.setVm vm0) m args below meth c T locs cells slots ∧ Fr n0 locs ∧ T.heap = h ∧ ∀ t, Steps p.tables e below (T.setTop (mkF m pc L S)) t → Steps p.tables e below A t
def Run (C : Cx) (R : Room) (Z : State) (n0 : Nat) (own nm : String) (ret : Option FieldType) (bytes : ByteArray) (mx : Nat) (sf : List Addr) (h : Heap) (cells slots pc : Nat) (L : Array Slot) (S : List Value) : Prop :=
  RunI C.1 C.2.1 C.2.2.1 C.2.2.2.1 C.2.2.2.2.1 C.2.2.2.2.2.1 C.2.2.2.2.2.2.1 C.2.2.2.2.2.2.2.1 C.2.2.2.2.2.2.2.2.1 C.2.2.2.2.2.2.2.2.2 R Z n0 own nm ret bytes mx sf h cells slots pc L S
def FinI (Z : State) (p : Program) (e : Env) (s : State) (below : List Frame) (A : State) (R : Room) (n0 : Nat) (Q : Option Value → Heap → (Addr → Prop) → Prop) : Prop :=
  ∃ s₂ o, Steps p.tables e below A s₂ ∧ s₂.status = .running ∧ Ended s₂ below o ∧ ∃ v L, o = .returned v ∧ (Q v s₂.heap (Safe Z EL s₂.vm s₂.heap) ∧ Fr n0 L) ∧ CHr Z EL s.vm s.heap s₂.vm s₂.heap ∧ ReturnedEndW s o s₂ L R.cells R.slots
def Fini (C : Cx) (Z : State) (R : Room) (n0 : Nat) (Q : Option Value → Heap → (Addr → Prop) → Prop) : Prop := FinI Z C.1 C.2.2.1 C.2.2.2.1 C.2.2.2.2.2.2.1 C.2.2.2.2.2.2.2.2.2 R n0 Q
/-- a method's contract: called with 'as' at the heap h0 it returns, and Q says what; nothing that stood below n0 is written -/
def Con (Z : State) (n0 : Nat) (y : MethodName) (bytes : ByteArray) (mx : Nat) (ret : Option FieldType) (ws : List Jvm.Cond) (rm : Room) (as : Array Value) (h0 : Heap) (sc : List Addr) (Q : Option Value → Heap → (Addr → Prop) → Prop) : Prop :=
  ∀ l : Launch, MetFree l y (head1 (Jvm.Cond.code y bytes mx ret :: ws) rm) (fun a U => a = as ∧ Z.Warmed39 U.vm ∧ U.heap = h0 ∧ CHv Z EL U.vm h0 ∧ SF Z U.vm h0 sc) (fun _ _ _ _ _ => True) (fun _ U o U' => ∃ v L, o = .returned v ∧ (Q v U'.heap (Safe Z EL U'.vm U'.heap) ∧ Fr n0 L) ∧ CHr Z EL U.vm U.heap U'.vm U'.heap ∧ ReturnedEndW U o U' L rm.cells rm.slots)
theorem own_since0 (s : State) : s.Since s.vm 0 := (State.WarmedH.refl s).since 0
theorem Con.intro {Z : State} {n0 : Nat} {y : MethodName} {bytes : ByteArray} {mx : Nat} {ret : Option FieldType} {ws : List Jvm.Cond} {rm : Room} {as : Array Value} {h0 : Heap} {sc : List Addr} {Q : Option Value → Heap → (Addr → Prop) → Prop} {L0 : Array Slot}
    (hEW : ∃ b0, EW Z b0 EL) (hp : plainFor y = true) (hef : ∀ m, entryFrame m as mx = mkF m 0 L0 []) (body : ∀ C : Cx, Run C rm Z n0 y.cls y.name ret bytes mx sc h0 0 0 0 L0 [] → Fini C Z rm n0 Q) : Con Z n0 y bytes mx ret ws rm as h0 sc Q := by
  intro l
  refine MetFree.of_bodySF hp hisR ?_
  intro p e s m args below meth c s₁ Bd hml0 hP hK
  obtain ⟨rfl, hZ, hh, hCH, hSF⟩ := hP
  have hown : s.vm.findClass y.cls = some m.cls := findClass_of_methodNamed Bd.named
  have X0 : Stand p l e rm s m args below meth c s₁ [] 0 0 := Stand.of_body Bd
  have e0 : s₁.heap = h0 := by rw [← hh, Bd.state]; rfl
  have k : Run (p, l, e, s, m, args, below, meth, c, s₁.setTop (entryFrame m args mx)) rm Z n0 y.cls y.name ret bytes mx sc h0 0 0 0 L0 [] :=
    ⟨Bd.exec, Bd.bytes, hml0, (name_of_methodNamed Bd.named Bd.method).1, Bd.returns, Bd.notSynchronized, s.vm, 0, own_since0 s, Nat.zero_le _, hown, hZ, hEW, (by rw [hh]; exact CHr.refl hCH), hSF, s₁, [], X0, Fr.nil n0, e0, fun t kt => castTop (hef m) kt⟩
  exact body _ k
theorem ac_eq {x y : Value} (q : x = y) : XT.acmp .eq x y = true ∧ XT.acmp .ne x y = false := ⟨decide_eq_true q, decide_eq_false (fun z => z q)⟩
theorem ac_ne {x y : Value} (q : x ≠ y) : XT.acmp .eq x y = false ∧ XT.acmp .ne x y = true := ⟨decide_eq_false q, decide_eq_true q⟩
/-! an array by a function of the place -/
def updV (f : Nat → Value) (i : Nat) (v : Value) : Nat → Value := fun j => if j = i then v else f j
theorem updV_same (f : Nat → Value) (i : Nat) (v : Value) : updV f i v i = v := if_pos rfl
theorem updV_ne {f : Nat → Value} {i j : Nat} {v : Value} (q : j ≠ i) : updV f i v j = f j := if_neg q
def Arf (Z : State) (h : Heap) (a : Addr) (ty : FieldType) (n : Nat) (f : Nat → Value) : Prop := ∃ c : Cell, Arr Z h a c ty ∧ c.slots.size = n ∧ ∀ i, i < n → c.slots[i]? = some (f i)
section Arrays
variable {Z : State} {h h' : Heap} {a b : Addr} {ty : FieldType} {n sl : Nat} {f g : Nat → Value} {v : Value} {ws : List Addr}
theorem Arf.lt (F : Arf Z h a ty n f) : a < h.size := by obtain ⟨c, A, -⟩ := F; exact A.lt
theorem Arf.ext (F : Arf Z h a ty n f) (E : Ext h h') : Arf Z h' a ty n f := by obtain ⟨c, A, r⟩ := F; exact ⟨c, Arr.ext E A, r⟩
theorem Arf.other (F : Arf Z h b ty n f) (W : Wr h h' a sl v) (q : b ≠ a) : Arf Z h' b ty n f := by obtain ⟨c, A, r⟩ := F; exact ⟨c, Arr.other W A q, r⟩
theorem Arf.keep (F : Arf Z h a ty n f) (K : Keep h h' ws) (q : a ∉ ws) : Arf Z h' a ty n f := by obtain ⟨c, A, r⟩ := F; exact ⟨c, ⟨K.2.1 a c A.1 q, A.2⟩, r⟩
theorem Arf.set (F : Arf Z h a ty n f) {i : Nat} (W : Wr h h' a i v) (hi : i < n) : Arf Z h' a ty n (updV f i v) := by
  obtain ⟨c, A, S, H⟩ := F
  refine ⟨_, Arr.same W A, (sz_set _ _ _).trans S, fun j hj => ?_⟩
  by_cases q : j = i
  · subst q
    rw [updV_same]
    have hs : j < c.slots.size := by omega
    simp [Cell.setSlot, hs]
  · rw [updV_ne q]
    simp only [Cell.setSlot]
    rw [Array.getElem?_setIfInBounds_ne (Ne.symm q)]
    exact H j hj
theorem Arf.congr (F : Arf Z h a ty n f) (q : ∀ i, i < n → f i = g i) : Arf Z h a ty n g := by obtain ⟨c, A, S, H⟩ := F; exact ⟨c, A, S, fun i hi => q i hi ▸ H i hi⟩
theorem Sta.keepN {Cn m d : String} (F : Sta Z h Cn m d v) (K : Keep h h' ws) (q : ∀ x ∈ ws, ∀ c : Cell, h[x]? = some c → c.vm.isStatics = false) : Sta Z h' Cn m d v := by
  obtain ⟨cf, i, k, f, st, cell, h1, h2, h3, h4, h5, h6, h7⟩ := F
  refine ⟨cf, i, k, f, st, cell, h1, h2, h3, h4, K.2.1 st cell h5 (fun z => ?_), h6, h7⟩
  rw [q st z cell h5] at h6; cases h6
theorem Exa.nost {Cn : String} (F : Exa Z h a Cn) : ∀ c : Cell, h[a]? = some c → c.vm.isStatics = false := fun c hc => by
  obtain ⟨cell, k, h1, -, -, h4, -⟩ := F
  cases hc.symm.trans h1; exact h4
theorem Arf.nost (F : Arf Z h a ty n f) : ∀ c : Cell, h[a]? = some c → c.vm.isStatics = false := fun c hc => by
  obtain ⟨cell, A, -⟩ := F
  cases hc.symm.trans A.1; exact A.plain
end Arrays
theorem backH {p : Program} {l : Launch} {e : Env} {R : Room} {s : State} {args : Array Value} {below : List Frame} {Z : State} {a0 : Array Value} {h : Heap} {vm0 : Vm} {sc : List Addr} {y : MethodName} {bytes : ByteArray} {maxL : Nat} {ret : Option FieldType} {rm : Room} {len W : Nat} {as' : Array Value} {Q : Option Value → Heap → (Addr → Prop) → List Loc → Prop} {b0 : Array Value}
    (hM : MetFree l y (head1 [Jvm.Cond.code y bytes maxL ret] rm) (fun a U => a = as' ∧ Z.Warmed39 U.vm ∧ U.heap = h ∧ CHv Z EL U.vm h ∧ SF Z U.vm h sc) (fun _ _ _ _ _ => True) (fun _ U o U' => ∃ v L, o = .returned v ∧ Q v U'.heap (Safe Z EL U'.vm U'.heap) L ∧ CHr Z EL U.vm U.heap U'.vm U'.heap ∧ ReturnedEndW U o U' L rm.cells rm.slots))
    (hZ : Z.Warmed39 vm0) (wc : (Jvm.Cond.code y bytes maxL ret).before a0 Z = true) (wz : (Jvm.Cond.initialized y.cls).before a0 Z = true) (hf : rm.frames + 1 ≤ R.frames) (hl : W + (maxL + 11) + rm.locals ≤ R.locals) (hEL : EW Z b0 EL) (H : CHv Z EL vm0 h) (hs : SF Z vm0 h sc) :
    BackS l R p e below (s.setVm vm0) args y len W (fun A a => a = as' ∧ A.U.heap = h ∧ A.cells + rm.cells ≤ R.cells ∧ A.slots + rm.slots ≤ R.slots)
      (fun A _ v B => ∃ L, Q v B.U.heap (Safe Z EL B.U.vm B.U.heap) L ∧ B.locs = A.locs ++ L ∧ B.cells = A.cells + rm.cells ∧ B.slots = A.slots + rm.slots ∧ CHr Z EL vm0 h B.U.vm B.U.heap) :=
  BackS.of_freeW (bytes := bytes) (maxL := maxL) (ret := ret) (E := fun _ first o t L k n => k = rm.cells ∧ n = rm.slots ∧ (∃ v, o = .returned v ∧ Q v t.heap (Safe Z EL t.vm t.heap) L) ∧ CHr Z EL first.vm first.heap t.vm t.heap) hM hf hl
    (fun m meth c A a Y hp => have hU : Z.Warmed39 A.U.vm := wtrans (s := s.setVm vm0) hZ Y.warmed
      ⟨by show (Jvm.Cond.and _ .tt).before a A.U = true; rw [Cond.before_and, mv hU wc]; rfl, mv hU wc, mv hU wz, hp.2.2.1, hp.2.2.2⟩)
    (fun m meth c A a g mk Y hp => ⟨hp.1, wtrans (s := s.setVm vm0) hZ Y.warmed, hp.2.1, (CHv.at Y hZ hEL H).1, (show SF Z A.U.vm h sc from hs.call (CHv.at Y hZ hEL H))⟩) (fun _ _ _ _ _ _ _ _ _ => trivial)
    (fun _ _ _ _ ⟨v, L, h1, h2, h3, h4⟩ => ⟨L, _, _, h4, rfl, rfl, ⟨v, h1, h2⟩, h3⟩)
    (fun m meth c A a g mk v t L k n Y hp _ _ ⟨e1, e2, ⟨v', e3, e4⟩, e5⟩ => by
      cases e3; subst e1 e2
      refine ⟨L, e4, rfl, rfl, rfl, (CHv.at Y hZ hEL H).trans ?_⟩
      rw [← hp.2.1]; exact e5)
theorem List.getD_map_int (vs : List Int32) (i : Nat) : (vs.map Value.int).getD i (.int 0) = .int (vs.getD i 0) := by
  simp only [List.getD, List.getElem?_map]
  cases vs[i]? <;> rfl
section Steps
variable {C : Cx} {R : Room} {Z : State} {n0 : Nat} {own nm : String} {ret : Option FieldType} {bytes : ByteArray} {mx : Nat} {sf : List Addr} {h : Heap} {cells slots pc : Nat} {L : Array Slot} {S : List Value}

theorem Run.iloadN {k : Fin 4} {v : Int32} (K : Run C R Z n0 own nm ret bytes mx sf h cells slots pc L S) (hd : decode bytes pc = .ok (.iload_n k, 1)) (hl : L[k.val]? = some (.val (.int v))) : Run C R Z n0 own nm ret bytes mx sf h cells slots (pc + 1) L (.int v :: S) := by
  obtain ⟨hx, hby, hml, hnm, hrt, hlk, vm0, k0, hS, hk, hown, hZ, hEW, hC, hF, T, locs, X, N, eT, st⟩ := K
  exact ⟨hx, hby, hml, hnm, hrt, hlk, vm0, k0, hS, hk, hown, hZ, hEW, hC, hF, T, locs, X, N, eT, fun t kt => st t (XS.iloadN X.here hx rfl (hb hby hd) hl kt)⟩
theorem Run.iload {k : Nat} {v : Int32} (K : Run C R Z n0 own nm ret bytes mx sf h cells slots pc L S) (hd : decode bytes pc = .ok (.iload k, 2)) (hl : L[k]? = some (.val (.int v))) : Run C R Z n0 own nm ret bytes mx sf h cells slots (pc + 2) L (.int v :: S) := by
  obtain ⟨hx, hby, hml, hnm, hrt, hlk, vm0, k0, hS, hk, hown, hZ, hEW, hC, hF, T, locs, X, N, eT, st⟩ := K
  exact ⟨hx, hby, hml, hnm, hrt, hlk, vm0, k0, hS, hk, hown, hZ, hEW, hC, hF, T, locs, X, N, eT, fun t kt => st t (XS.iload X.here hx rfl (hb hby hd) hl kt)⟩
theorem Run.lloadN {k : Fin 4} {v : Int64} (K : Run C R Z n0 own nm ret bytes mx sf h cells slots pc L S) (hd : decode bytes pc = .ok (.lload_n k, 1)) (hl : L[k.val]? = some (.val (.long v))) : Run C R Z n0 own nm ret bytes mx sf h cells slots (pc + 1) L (.long v :: S) := by
  obtain ⟨hx, hby, hml, hnm, hrt, hlk, vm0, k0, hS, hk, hown, hZ, hEW, hC, hF, T, locs, X, N, eT, st⟩ := K
  exact ⟨hx, hby, hml, hnm, hrt, hlk, vm0, k0, hS, hk, hown, hZ, hEW, hC, hF, T, locs, X, N, eT, fun t kt => st t (XS.lloadN X.here hx rfl (hb hby hd) hl kt)⟩
theorem Run.lload {k : Nat} {v : Int64} (K : Run C R Z n0 own nm ret bytes mx sf h cells slots pc L S) (hd : decode bytes pc = .ok (.lload k, 2)) (hl : L[k]? = some (.val (.long v))) : Run C R Z n0 own nm ret bytes mx sf h cells slots (pc + 2) L (.long v :: S) := by
  obtain ⟨hx, hby, hml, hnm, hrt, hlk, vm0, k0, hS, hk, hown, hZ, hEW, hC, hF, T, locs, X, N, eT, st⟩ := K
  exact ⟨hx, hby, hml, hnm, hrt, hlk, vm0, k0, hS, hk, hown, hZ, hEW, hC, hF, T, locs, X, N, eT, fun t kt => st t (XS.lload X.here hx rfl (hb hby hd) hl kt)⟩
theorem Run.aloadN {k : Fin 4} {v : Value} (K : Run C R Z n0 own nm ret bytes mx sf h cells slots pc L S) (hd : decode bytes pc = .ok (.aload_n k, 1)) (hl : L[k.val]? = some (.val v)) (hv : v.isRef = true) : Run C R Z n0 own nm ret bytes mx sf h cells slots (pc + 1) L (v :: S) := by
  obtain ⟨hx, hby, hml, hnm, hrt, hlk, vm0, k0, hS, hk, hown, hZ, hEW, hC, hF, T, locs, X, N, eT, st⟩ := K
  exact ⟨hx, hby, hml, hnm, hrt, hlk, vm0, k0, hS, hk, hown, hZ, hEW, hC, hF, T, locs, X, N, eT, fun t kt => st t (XS.aloadN X.here hx rfl (hb hby hd) hl hv kt)⟩
theorem Run.aload {k : Nat} {v : Value} (K : Run C R Z n0 own nm ret bytes mx sf h cells slots pc L S) (hd : decode bytes pc = .ok (.aload k, 2)) (hl : L[k]? = some (.val v)) (hv : v.isRef = true) : Run C R Z n0 own nm ret bytes mx sf h cells slots (pc + 2) L (v :: S) := by
  obtain ⟨hx, hby, hml, hnm, hrt, hlk, vm0, k0, hS, hk, hown, hZ, hEW, hC, hF, T, locs, X, N, eT, st⟩ := K
  exact ⟨hx, hby, hml, hnm, hrt, hlk, vm0, k0, hS, hk, hown, hZ, hEW, hC, hF, T, locs, X, N, eT, fun t kt => st t (XS.aload X.here hx rfl (hb hby hd) hl hv kt)⟩
theorem Run.istoreN {k : Fin 4} {v : Int32} (l' : Array Slot) (K : Run C R Z n0 own nm ret bytes mx sf h cells slots pc L (.int v :: S)) (hd : decode bytes pc = .ok (.istore_n k, 1)) (hl : storeLocals L k.val (.int v) = some l') : Run C R Z n0 own nm ret bytes mx sf h cells slots (pc + 1) l' S := by
  obtain ⟨hx, hby, hml, hnm, hrt, hlk, vm0, k0, hS, hk, hown, hZ, hEW, hC, hF, T, locs, X, N, eT, st⟩ := K
  exact ⟨hx, hby, hml, hnm, hrt, hlk, vm0, k0, hS, hk, hown, hZ, hEW, hC, hF, T, locs, X, N, eT, fun t kt => st t (XS.istoreN X.here hx rfl (hb hby hd) rfl hl kt)⟩
theorem Run.istore {k : Nat} {v : Int32} (l' : Array Slot) (K : Run C R Z n0 own nm ret bytes mx sf h cells slots pc L (.int v :: S)) (hd : decode bytes pc = .ok (.istore k, 2)) (hl : storeLocals L k (.int v) = some l') : Run C R Z n0 own nm ret bytes mx sf h cells slots (pc + 2) l' S := by
  obtain ⟨hx, hby, hml, hnm, hrt, hlk, vm0, k0, hS, hk, hown, hZ, hEW, hC, hF, T, locs, X, N, eT, st⟩ := K
  exact ⟨hx, hby, hml, hnm, hrt, hlk, vm0, k0, hS, hk, hown, hZ, hEW, hC, hF, T, locs, X, N, eT, fun t kt => st t (XS.istore X.here hx rfl (hb hby hd) rfl hl kt)⟩
theorem Run.lstoreN {k : Fin 4} {v : Int64} (l' : Array Slot) (K : Run C R Z n0 own nm ret bytes mx sf h cells slots pc L (.long v :: S)) (hd : decode bytes pc = .ok (.lstore_n k, 1)) (hl : storeLocals L k.val (.long v) = some l') : Run C R Z n0 own nm ret bytes mx sf h cells slots (pc + 1) l' S := by
  obtain ⟨hx, hby, hml, hnm, hrt, hlk, vm0, k0, hS, hk, hown, hZ, hEW, hC, hF, T, locs, X, N, eT, st⟩ := K
  exact ⟨hx, hby, hml, hnm, hrt, hlk, vm0, k0, hS, hk, hown, hZ, hEW, hC, hF, T, locs, X, N, eT, fun t kt => st t (XS.lstoreN X.here hx rfl (hb hby hd) rfl hl kt)⟩
theorem Run.lstore {k : Nat} {v : Int64} (l' : Array Slot) (K : Run C R Z n0 own nm ret bytes mx sf h cells slots pc L (.long v :: S)) (hd : decode bytes pc = .ok (.lstore k, 2)) (hl : storeLocals L k (.long v) = some l') : Run C R Z n0 own nm ret bytes mx sf h cells slots (pc + 2) l' S := by
  obtain ⟨hx, hby, hml, hnm, hrt, hlk, vm0, k0, hS, hk, hown, hZ, hEW, hC, hF, T, locs, X, N, eT, st⟩ := K
  exact ⟨hx, hby, hml, hnm, hrt, hlk, vm0, k0, hS, hk, hown, hZ, hEW, hC, hF, T, locs, X, N, eT, fun t kt => st t (XS.lstore X.here hx rfl (hb hby hd) rfl hl kt)⟩
theorem Run.astoreN {k : Fin 4} {v : Value} (l' : Array Slot) (K : Run C R Z n0 own nm ret bytes mx sf h cells slots pc L (v :: S)) (hd : decode bytes pc = .ok (.astore_n k, 1)) (hv : v.isRef = true) (hl : storeLocals L k.val v = some l') : Run C R Z n0 own nm ret bytes mx sf h cells slots (pc + 1) l' S := by
  obtain ⟨hx, hby, hml, hnm, hrt, hlk, vm0, k0, hS, hk, hown, hZ, hEW, hC, hF, T, locs, X, N, eT, st⟩ := K
  exact ⟨hx, hby, hml, hnm, hrt, hlk, vm0, k0, hS, hk, hown, hZ, hEW, hC, hF, T, locs, X, N, eT, fun t kt => st t (XS.astoreN X.here hx rfl (hb hby hd) rfl hv hl kt)⟩
theorem Run.astore {k : Nat} {v : Value} (l' : Array Slot) (K : Run C R Z n0 own nm ret bytes mx sf h cells slots pc L (v :: S)) (hd : decode bytes pc = .ok (.astore k, 2)) (hv : v.isRef = true) (hl : storeLocals L k v = some l') : Run C R Z n0 own nm ret bytes mx sf h cells slots (pc + 2) l' S := by
  obtain ⟨hx, hby, hml, hnm, hrt, hlk, vm0, k0, hS, hk, hown, hZ, hEW, hC, hF, T, locs, X, N, eT, st⟩ := K
  exact ⟨hx, hby, hml, hnm, hrt, hlk, vm0, k0, hS, hk, hown, hZ, hEW, hC, hF, T, locs, X, N, eT, fun t kt => st t (XS.astore X.here hx rfl (hb hby hd) rfl hv hl kt)⟩
theorem Run.iconst {i : Int} (z : Int32) (K : Run C R Z n0 own nm ret bytes mx sf h cells slots pc L S) (hd : decode bytes pc = .ok (.iconst i, 1)) (hz : Int32.ofInt i = z) : Run C R Z n0 own nm ret bytes mx sf h cells slots (pc + 1) L (.int z :: S) := by
  obtain ⟨hx, hby, hml, hnm, hrt, hlk, vm0, k0, hS, hk, hown, hZ, hEW, hC, hF, T, locs, X, N, eT, st⟩ := K
  exact ⟨hx, hby, hml, hnm, hrt, hlk, vm0, k0, hS, hk, hown, hZ, hEW, hC, hF, T, locs, X, N, eT, fun t kt => st t (XS.iconst X.here hx rfl (hb hby hd) (by rw [hz]; exact kt))⟩
theorem Run.bipush {i : Int} (z : Int32) (K : Run C R Z n0 own nm ret bytes mx sf h cells slots pc L S) (hd : decode bytes pc = .ok (.bipush i, 2)) (hz : (Int8.ofInt i).toInt32 = z) : Run C R Z n0 own nm ret bytes mx sf h cells slots (pc + 2) L (.int z :: S) := by
  obtain ⟨hx, hby, hml, hnm, hrt, hlk, vm0, k0, hS, hk, hown, hZ, hEW, hC, hF, T, locs, X, N, eT, st⟩ := K
  exact ⟨hx, hby, hml, hnm, hrt, hlk, vm0, k0, hS, hk, hown, hZ, hEW, hC, hF, T, locs, X, N, eT, fun t kt => st t (XS.bipush X.here hx rfl (hb hby hd) (by rw [hz]; exact kt))⟩
theorem Run.sipush {i : Int} (z : Int32) (K : Run C R Z n0 own nm ret bytes mx sf h cells slots pc L S) (hd : decode bytes pc = .ok (.sipush i, 3)) (hz : (Int16.ofInt i).toInt32 = z) : Run C R Z n0 own nm ret bytes mx sf h cells slots (pc + 3) L (.int z :: S) := by
  obtain ⟨hx, hby, hml, hnm, hrt, hlk, vm0, k0, hS, hk, hown, hZ, hEW, hC, hF, T, locs, X, N, eT, st⟩ := K
  exact ⟨hx, hby, hml, hnm, hrt, hlk, vm0, k0, hS, hk, hown, hZ, hEW, hC, hF, T, locs, X, N, eT, fun t kt => st t (XS.sipush X.here hx rfl (hb hby hd) (by rw [hz]; exact kt))⟩
theorem Run.lconst {i : Fin 2} (z : Int64) (K : Run C R Z n0 own nm ret bytes mx sf h cells slots pc L S) (hd : decode bytes pc = .ok (.lconst i, 1)) (hz : Int64.ofNat i = z) : Run C R Z n0 own nm ret bytes mx sf h cells slots (pc + 1) L (.long z :: S) := by
  obtain ⟨hx, hby, hml, hnm, hrt, hlk, vm0, k0, hS, hk, hown, hZ, hEW, hC, hF, T, locs, X, N, eT, st⟩ := K
  exact ⟨hx, hby, hml, hnm, hrt, hlk, vm0, k0, hS, hk, hown, hZ, hEW, hC, hF, T, locs, X, N, eT, fun t kt => st t (XS.lconst X.here hx rfl (hb hby hd) (by rw [hz]; exact kt))⟩
theorem Run.aconstNull  (K : Run C R Z n0 own nm ret bytes mx sf h cells slots pc L S) (hd : decode bytes pc = .ok (.aconst_null, 1))  : Run C R Z n0 own nm ret bytes mx sf h cells slots (pc + 1) L (.null :: S) := by
  obtain ⟨hx, hby, hml, hnm, hrt, hlk, vm0, k0, hS, hk, hown, hZ, hEW, hC, hF, T, locs, X, N, eT, st⟩ := K
  exact ⟨hx, hby, hml, hnm, hrt, hlk, vm0, k0, hS, hk, hown, hZ, hEW, hC, hF, T, locs, X, N, eT, fun t kt => st t (XS.aconstNull X.here hx rfl (hb hby hd) kt)⟩
theorem Run.iadd {x y : Int32} (K : Run C R Z n0 own nm ret bytes mx sf h cells slots pc L (.int y :: .int x :: S)) (hd : decode bytes pc = .ok (.iadd, 1))  : Run C R Z n0 own nm ret bytes mx sf h cells slots (pc + 1) L (.int (x + y) :: S) := by
  obtain ⟨hx, hby, hml, hnm, hrt, hlk, vm0, k0, hS, hk, hown, hZ, hEW, hC, hF, T, locs, X, N, eT, st⟩ := K
  exact ⟨hx, hby, hml, hnm, hrt, hlk, vm0, k0, hS, hk, hown, hZ, hEW, hC, hF, T, locs, X, N, eT, fun t kt => st t (XS.iadd X.here hx rfl (hb hby hd) rfl kt)⟩
theorem Run.isub {x y : Int32} (K : Run C R Z n0 own nm ret bytes mx sf h cells slots pc L (.int y :: .int x :: S)) (hd : decode bytes pc = .ok (.isub, 1))  : Run C R Z n0 own nm ret bytes mx sf h cells slots (pc + 1) L (.int (x - y) :: S) := by
  obtain ⟨hx, hby, hml, hnm, hrt, hlk, vm0, k0, hS, hk, hown, hZ, hEW, hC, hF, T, locs, X, N, eT, st⟩ := K
  exact ⟨hx, hby, hml, hnm, hrt, hlk, vm0, k0, hS, hk, hown, hZ, hEW, hC, hF, T, locs, X, N, eT, fun t kt => st t (XS.isub X.here hx rfl (hb hby hd) rfl kt)⟩
theorem Run.imul {x y : Int32} (K : Run C R Z n0 own nm ret bytes mx sf h cells slots pc L (.int y :: .int x :: S)) (hd : decode bytes pc = .ok (.imul, 1))  : Run C R Z n0 own nm ret bytes mx sf h cells slots (pc + 1) L (.int (x * y) :: S) := by
  obtain ⟨hx, hby, hml, hnm, hrt, hlk, vm0, k0, hS, hk, hown, hZ, hEW, hC, hF, T, locs, X, N, eT, st⟩ := K
  exact ⟨hx, hby, hml, hnm, hrt, hlk, vm0, k0, hS, hk, hown, hZ, hEW, hC, hF, T, locs, X, N, eT, fun t kt => st t (XS.imul X.here hx rfl (hb hby hd) rfl kt)⟩
theorem Run.iand {x y : Int32} (K : Run C R Z n0 own nm ret bytes mx sf h cells slots pc L (.int y :: .int x :: S)) (hd : decode bytes pc = .ok (.iand, 1))  : Run C R Z n0 own nm ret bytes mx sf h cells slots (pc + 1) L (.int (x &&& y) :: S) := by
  obtain ⟨hx, hby, hml, hnm, hrt, hlk, vm0, k0, hS, hk, hown, hZ, hEW, hC, hF, T, locs, X, N, eT, st⟩ := K
  exact ⟨hx, hby, hml, hnm, hrt, hlk, vm0, k0, hS, hk, hown, hZ, hEW, hC, hF, T, locs, X, N, eT, fun t kt => st t (XS.iand X.here hx rfl (hb hby hd) rfl kt)⟩
theorem Run.ior {x y : Int32} (K : Run C R Z n0 own nm ret bytes mx sf h cells slots pc L (.int y :: .int x :: S)) (hd : decode bytes pc = .ok (.ior, 1))  : Run C R Z n0 own nm ret bytes mx sf h cells slots (pc + 1) L (.int (x ||| y) :: S) := by
  obtain ⟨hx, hby, hml, hnm, hrt, hlk, vm0, k0, hS, hk, hown, hZ, hEW, hC, hF, T, locs, X, N, eT, st⟩ := K
  exact ⟨hx, hby, hml, hnm, hrt, hlk, vm0, k0, hS, hk, hown, hZ, hEW, hC, hF, T, locs, X, N, eT, fun t kt => st t (XS.ior X.here hx rfl (hb hby hd) rfl kt)⟩
theorem Run.ixor {x y : Int32} (K : Run C R Z n0 own nm ret bytes mx sf h cells slots pc L (.int y :: .int x :: S)) (hd : decode bytes pc = .ok (.ixor, 1))  : Run C R Z n0 own nm ret bytes mx sf h cells slots (pc + 1) L (.int (x ^^^ y) :: S) := by
  obtain ⟨hx, hby, hml, hnm, hrt, hlk, vm0, k0, hS, hk, hown, hZ, hEW, hC, hF, T, locs, X, N, eT, st⟩ := K
  exact ⟨hx, hby, hml, hnm, hrt, hlk, vm0, k0, hS, hk, hown, hZ, hEW, hC, hF, T, locs, X, N, eT, fun t kt => st t (XS.ixor X.here hx rfl (hb hby hd) rfl kt)⟩
theorem Run.ishl {x y : Int32} (K : Run C R Z n0 own nm ret bytes mx sf h cells slots pc L (.int y :: .int x :: S)) (hd : decode bytes pc = .ok (.ishl, 1))  : Run C R Z n0 own nm ret bytes mx sf h cells slots (pc + 1) L (.int (x <<< (y &&& 31)) :: S) := by
  obtain ⟨hx, hby, hml, hnm, hrt, hlk, vm0, k0, hS, hk, hown, hZ, hEW, hC, hF, T, locs, X, N, eT, st⟩ := K
  exact ⟨hx, hby, hml, hnm, hrt, hlk, vm0, k0, hS, hk, hown, hZ, hEW, hC, hF, T, locs, X, N, eT, fun t kt => st t (XS.ishl X.here hx rfl (hb hby hd) rfl kt)⟩
theorem Run.ishr {x y : Int32} (K : Run C R Z n0 own nm ret bytes mx sf h cells slots pc L (.int y :: .int x :: S)) (hd : decode bytes pc = .ok (.ishr, 1))  : Run C R Z n0 own nm ret bytes mx sf h cells slots (pc + 1) L (.int (x >>> (y &&& 31)) :: S) := by
  obtain ⟨hx, hby, hml, hnm, hrt, hlk, vm0, k0, hS, hk, hown, hZ, hEW, hC, hF, T, locs, X, N, eT, st⟩ := K
  exact ⟨hx, hby, hml, hnm, hrt, hlk, vm0, k0, hS, hk, hown, hZ, hEW, hC, hF, T, locs, X, N, eT, fun t kt => st t (XS.ishr X.here hx rfl (hb hby hd) rfl kt)⟩
theorem Run.iushr {x y : Int32} (K : Run C R Z n0 own nm ret bytes mx sf h cells slots pc L (.int y :: .int x :: S)) (hd : decode bytes pc = .ok (.iushr, 1))  : Run C R Z n0 own nm ret bytes mx sf h cells slots (pc + 1) L (.int ((x.toUInt32 >>> (y &&& 31).toUInt32).toInt32) :: S) := by
  obtain ⟨hx, hby, hml, hnm, hrt, hlk, vm0, k0, hS, hk, hown, hZ, hEW, hC, hF, T, locs, X, N, eT, st⟩ := K
  exact ⟨hx, hby, hml, hnm, hrt, hlk, vm0, k0, hS, hk, hown, hZ, hEW, hC, hF, T, locs, X, N, eT, fun t kt => st t (XS.iushr X.here hx rfl (hb hby hd) rfl kt)⟩
theorem Run.irem {x y : Int32} (K : Run C R Z n0 own nm ret bytes mx sf h cells slots pc L (.int y :: .int x :: S)) (hd : decode bytes pc = .ok (.irem, 1)) (hy : y ≠ 0) : Run C R Z n0 own nm ret bytes mx sf h cells slots (pc + 1) L (.int (x % y) :: S) := by
  obtain ⟨hx, hby, hml, hnm, hrt, hlk, vm0, k0, hS, hk, hown, hZ, hEW, hC, hF, T, locs, X, N, eT, st⟩ := K
  exact ⟨hx, hby, hml, hnm, hrt, hlk, vm0, k0, hS, hk, hown, hZ, hEW, hC, hF, T, locs, X, N, eT, fun t kt => st t (iremM X hx rfl (hb hby hd) rfl hy kt)⟩
theorem Run.idiv {x y : Int32} (K : Run C R Z n0 own nm ret bytes mx sf h cells slots pc L (.int y :: .int x :: S)) (hd : decode bytes pc = .ok (.idiv, 1)) (hy : y ≠ 0) : Run C R Z n0 own nm ret bytes mx sf h cells slots (pc + 1) L (.int (x / y) :: S) := by
  obtain ⟨hx, hby, hml, hnm, hrt, hlk, vm0, k0, hS, hk, hown, hZ, hEW, hC, hF, T, locs, X, N, eT, st⟩ := K
  exact ⟨hx, hby, hml, hnm, hrt, hlk, vm0, k0, hS, hk, hown, hZ, hEW, hC, hF, T, locs, X, N, eT, fun t kt => st t (XS.idiv X.here hx rfl (hb hby hd) rfl hy kt)⟩
theorem Run.ineg {x : Int32} (K : Run C R Z n0 own nm ret bytes mx sf h cells slots pc L (.int x :: S)) (hd : decode bytes pc = .ok (.ineg, 1))  : Run C R Z n0 own nm ret bytes mx sf h cells slots (pc + 1) L (.int (-x) :: S) := by
  obtain ⟨hx, hby, hml, hnm, hrt, hlk, vm0, k0, hS, hk, hown, hZ, hEW, hC, hF, T, locs, X, N, eT, st⟩ := K
  exact ⟨hx, hby, hml, hnm, hrt, hlk, vm0, k0, hS, hk, hown, hZ, hEW, hC, hF, T, locs, X, N, eT, fun t kt => st t (XS.ineg X.here hx rfl (hb hby hd) rfl kt)⟩
theorem Run.ladd {x y : Int64} (K : Run C R Z n0 own nm ret bytes mx sf h cells slots pc L (.long y :: .long x :: S)) (hd : decode bytes pc = .ok (.ladd, 1))  : Run C R Z n0 own nm ret bytes mx sf h cells slots (pc + 1) L (.long (x + y) :: S) := by
  obtain ⟨hx, hby, hml, hnm, hrt, hlk, vm0, k0, hS, hk, hown, hZ, hEW, hC, hF, T, locs, X, N, eT, st⟩ := K
  exact ⟨hx, hby, hml, hnm, hrt, hlk, vm0, k0, hS, hk, hown, hZ, hEW, hC, hF, T, locs, X, N, eT, fun t kt => st t (XS.ladd X.here hx rfl (hb hby hd) rfl kt)⟩
theorem Run.lsub {x y : Int64} (K : Run C R Z n0 own nm ret bytes mx sf h cells slots pc L (.long y :: .long x :: S)) (hd : decode bytes pc = .ok (.lsub, 1))  : Run C R Z n0 own nm ret bytes mx sf h cells slots (pc + 1) L (.long (x - y) :: S) := by
  obtain ⟨hx, hby, hml, hnm, hrt, hlk, vm0, k0, hS, hk, hown, hZ, hEW, hC, hF, T, locs, X, N, eT, st⟩ := K
  exact ⟨hx, hby, hml, hnm, hrt, hlk, vm0, k0, hS, hk, hown, hZ, hEW, hC, hF, T, locs, X, N, eT, fun t kt => st t (XS.lsub X.here hx rfl (hb hby hd) rfl kt)⟩
theorem Run.lmul {x y : Int64} (K : Run C R Z n0 own nm ret bytes mx sf h cells slots pc L (.long y :: .long x :: S)) (hd : decode bytes pc = .ok (.lmul, 1))  : Run C R Z n0 own nm ret bytes mx sf h cells slots (pc + 1) L (.long (x * y) :: S) := by
  obtain ⟨hx, hby, hml, hnm, hrt, hlk, vm0, k0, hS, hk, hown, hZ, hEW, hC, hF, T, locs, X, N, eT, st⟩ := K
  exact ⟨hx, hby, hml, hnm, hrt, hlk, vm0, k0, hS, hk, hown, hZ, hEW, hC, hF, T, locs, X, N, eT, fun t kt => st t (XS.lmul X.here hx rfl (hb hby hd) rfl kt)⟩
theorem Run.land {x y : Int64} (K : Run C R Z n0 own nm ret bytes mx sf h cells slots pc L (.long y :: .long x :: S)) (hd : decode bytes pc = .ok (.land, 1))  : Run C R Z n0 own nm ret bytes mx sf h cells slots (pc + 1) L (.long (x &&& y) :: S) := by
  obtain ⟨hx, hby, hml, hnm, hrt, hlk, vm0, k0, hS, hk, hown, hZ, hEW, hC, hF, T, locs, X, N, eT, st⟩ := K
  exact ⟨hx, hby, hml, hnm, hrt, hlk, vm0, k0, hS, hk, hown, hZ, hEW, hC, hF, T, locs, X, N, eT, fun t kt => st t (XS.land X.here hx rfl (hb hby hd) rfl kt)⟩
theorem Run.lor {x y : Int64} (K : Run C R Z n0 own nm ret bytes mx sf h cells slots pc L (.long y :: .long x :: S)) (hd : decode bytes pc = .ok (.lor, 1))  : Run C R Z n0 own nm ret bytes mx sf h cells slots (pc + 1) L (.long (x ||| y) :: S) := by
  obtain ⟨hx, hby, hml, hnm, hrt, hlk, vm0, k0, hS, hk, hown, hZ, hEW, hC, hF, T, locs, X, N, eT, st⟩ := K
  exact ⟨hx, hby, hml, hnm, hrt, hlk, vm0, k0, hS, hk, hown, hZ, hEW, hC, hF, T, locs, X, N, eT, fun t kt => st t (XS.lor X.here hx rfl (hb hby hd) rfl kt)⟩
theorem Run.lxor {x y : Int64} (K : Run C R Z n0 own nm ret bytes mx sf h cells slots pc L (.long y :: .long x :: S)) (hd : decode bytes pc = .ok (.lxor, 1))  : Run C R Z n0 own nm ret bytes mx sf h cells slots (pc + 1) L (.long (x ^^^ y) :: S) := by
  obtain ⟨hx, hby, hml, hnm, hrt, hlk, vm0, k0, hS, hk, hown, hZ, hEW, hC, hF, T, locs, X, N, eT, st⟩ := K
  exact ⟨hx, hby, hml, hnm, hrt, hlk, vm0, k0, hS, hk, hown, hZ, hEW, hC, hF, T, locs, X, N, eT, fun t kt => st t (XS.lxor X.here hx rfl (hb hby hd) rfl kt)⟩
theorem Run.lcmp {x y : Int64} (K : Run C R Z n0 own nm ret bytes mx sf h cells slots pc L (.long y :: .long x :: S)) (hd : decode bytes pc = .ok (.lcmp, 1))  : Run C R Z n0 own nm ret bytes mx sf h cells slots (pc + 1) L (.int (lcmpW x y) :: S) := by
  obtain ⟨hx, hby, hml, hnm, hrt, hlk, vm0, k0, hS, hk, hown, hZ, hEW, hC, hF, T, locs, X, N, eT, st⟩ := K
  exact ⟨hx, hby, hml, hnm, hrt, hlk, vm0, k0, hS, hk, hown, hZ, hEW, hC, hF, T, locs, X, N, eT, fun t kt => st t (XS.lcmp X.here hx rfl (hb hby hd) rfl kt)⟩
theorem Run.lushr {x : Int64} {y : Int32} (K : Run C R Z n0 own nm ret bytes mx sf h cells slots pc L (.int y :: .long x :: S)) (hd : decode bytes pc = .ok (.lushr, 1))  : Run C R Z n0 own nm ret bytes mx sf h cells slots (pc + 1) L (.long ((x.toUInt64 >>> (y &&& 0x3f).toInt64.toUInt64).toInt64) :: S) := by
  obtain ⟨hx, hby, hml, hnm, hrt, hlk, vm0, k0, hS, hk, hown, hZ, hEW, hC, hF, T, locs, X, N, eT, st⟩ := K
  exact ⟨hx, hby, hml, hnm, hrt, hlk, vm0, k0, hS, hk, hown, hZ, hEW, hC, hF, T, locs, X, N, eT, fun t kt => st t (XS.lushr X.here hx rfl (hb hby hd) rfl kt)⟩
theorem Run.lshr {x : Int64} {y : Int32} (K : Run C R Z n0 own nm ret bytes mx sf h cells slots pc L (.int y :: .long x :: S)) (hd : decode bytes pc = .ok (.lshr, 1))  : Run C R Z n0 own nm ret bytes mx sf h cells slots (pc + 1) L (.long (x >>> (y &&& 0x3f).toInt64) :: S) := by
  obtain ⟨hx, hby, hml, hnm, hrt, hlk, vm0, k0, hS, hk, hown, hZ, hEW, hC, hF, T, locs, X, N, eT, st⟩ := K
  exact ⟨hx, hby, hml, hnm, hrt, hlk, vm0, k0, hS, hk, hown, hZ, hEW, hC, hF, T, locs, X, N, eT, fun t kt => st t (XS.lshr X.here hx rfl (hb hby hd) rfl kt)⟩
theorem Run.lshl {x : Int64} {y : Int32} (K : Run C R Z n0 own nm ret bytes mx sf h cells slots pc L (.int y :: .long x :: S)) (hd : decode bytes pc = .ok (.lshl, 1))  : Run C R Z n0 own nm ret bytes mx sf h cells slots (pc + 1) L (.long (x <<< (y &&& 0x3f).toInt64) :: S) := by
  obtain ⟨hx, hby, hml, hnm, hrt, hlk, vm0, k0, hS, hk, hown, hZ, hEW, hC, hF, T, locs, X, N, eT, st⟩ := K
  exact ⟨hx, hby, hml, hnm, hrt, hlk, vm0, k0, hS, hk, hown, hZ, hEW, hC, hF, T, locs, X, N, eT, fun t kt => st t (XS.lshl X.here hx rfl (hb hby hd) rfl kt)⟩
theorem Run.i2l {x : Int32} (K : Run C R Z n0 own nm ret bytes mx sf h cells slots pc L (.int x :: S)) (hd : decode bytes pc = .ok (.i2l, 1))  : Run C R Z n0 own nm ret bytes mx sf h cells slots (pc + 1) L (.long (x.toInt64) :: S) := by
  obtain ⟨hx, hby, hml, hnm, hrt, hlk, vm0, k0, hS, hk, hown, hZ, hEW, hC, hF, T, locs, X, N, eT, st⟩ := K
  exact ⟨hx, hby, hml, hnm, hrt, hlk, vm0, k0, hS, hk, hown, hZ, hEW, hC, hF, T, locs, X, N, eT, fun t kt => st t (XS.i2l X.here hx rfl (hb hby hd) rfl kt)⟩
theorem Run.l2i {x : Int64} (K : Run C R Z n0 own nm ret bytes mx sf h cells slots pc L (.long x :: S)) (hd : decode bytes pc = .ok (.l2i, 1))  : Run C R Z n0 own nm ret bytes mx sf h cells slots (pc + 1) L (.int (x.toInt32) :: S) := by
  obtain ⟨hx, hby, hml, hnm, hrt, hlk, vm0, k0, hS, hk, hown, hZ, hEW, hC, hF, T, locs, X, N, eT, st⟩ := K
  exact ⟨hx, hby, hml, hnm, hrt, hlk, vm0, k0, hS, hk, hown, hZ, hEW, hC, hF, T, locs, X, N, eT, fun t kt => st t (XS.l2i X.here hx rfl (hb hby hd) rfl kt)⟩
theorem Run.i2b {x : Int32} (K : Run C R Z n0 own nm ret bytes mx sf h cells slots pc L (.int x :: S)) (hd : decode bytes pc = .ok (.i2b, 1))  : Run C R Z n0 own nm ret bytes mx sf h cells slots (pc + 1) L (.int (x.toInt8.toInt32) :: S) := by
  obtain ⟨hx, hby, hml, hnm, hrt, hlk, vm0, k0, hS, hk, hown, hZ, hEW, hC, hF, T, locs, X, N, eT, st⟩ := K
  exact ⟨hx, hby, hml, hnm, hrt, hlk, vm0, k0, hS, hk, hown, hZ, hEW, hC, hF, T, locs, X, N, eT, fun t kt => st t (XS.i2b X.here hx rfl (hb hby hd) rfl kt)⟩
theorem Run.i2s {x : Int32} (K : Run C R Z n0 own nm ret bytes mx sf h cells slots pc L (.int x :: S)) (hd : decode bytes pc = .ok (.i2s, 1))  : Run C R Z n0 own nm ret bytes mx sf h cells slots (pc + 1) L (.int (x.toInt16.toInt32) :: S) := by
  obtain ⟨hx, hby, hml, hnm, hrt, hlk, vm0, k0, hS, hk, hown, hZ, hEW, hC, hF, T, locs, X, N, eT, st⟩ := K
  exact ⟨hx, hby, hml, hnm, hrt, hlk, vm0, k0, hS, hk, hown, hZ, hEW, hC, hF, T, locs, X, N, eT, fun t kt => st t (XS.i2s X.here hx rfl (hb hby hd) rfl kt)⟩
theorem Run.i2c {x : Int32} (K : Run C R Z n0 own nm ret bytes mx sf h cells slots pc L (.int x :: S)) (hd : decode bytes pc = .ok (.i2c, 1))  : Run C R Z n0 own nm ret bytes mx sf h cells slots (pc + 1) L (.int (x.toUInt32.toUInt16.toUInt32.toInt32) :: S) := by
  obtain ⟨hx, hby, hml, hnm, hrt, hlk, vm0, k0, hS, hk, hown, hZ, hEW, hC, hF, T, locs, X, N, eT, st⟩ := K
  exact ⟨hx, hby, hml, hnm, hrt, hlk, vm0, k0, hS, hk, hown, hZ, hEW, hC, hF, T, locs, X, N, eT, fun t kt => st t (XS.i2c X.here hx rfl (hb hby hd) rfl kt)⟩
theorem Run.iinc {k : Nat} {cst : Int} {x : Int32} (z : Int32) (l' : Array Slot) (K : Run C R Z n0 own nm ret bytes mx sf h cells slots pc L S) (hd : decode bytes pc = .ok (.iinc k cst, 3)) (hl : L[k]? = some (.val (.int x))) (hz : Int32.ofInt cst = z) (hl' : storeLocals L k (.int (x + z)) = some l') : Run C R Z n0 own nm ret bytes mx sf h cells slots (pc + 3) l' S := by
  obtain ⟨hx, hby, hml, hnm, hrt, hlk, vm0, k0, hS, hk, hown, hZ, hEW, hC, hF, T, locs, X, N, eT, st⟩ := K
  exact ⟨hx, hby, hml, hnm, hrt, hlk, vm0, k0, hS, hk, hown, hZ, hEW, hC, hF, T, locs, X, N, eT, fun t kt => st t (XS.iinc X.here hx rfl (hb hby hd) hl (by rw [hz]; exact hl') kt)⟩
theorem Run.dup {x : Value} (K : Run C R Z n0 own nm ret bytes mx sf h cells slots pc L (x :: S)) (hd : decode bytes pc = .ok (.dup, 1)) (hc : x.category = 1) : Run C R Z n0 own nm ret bytes mx sf h cells slots (pc + 1) L (x :: x :: S) := by
  obtain ⟨hx, hby, hml, hnm, hrt, hlk, vm0, k0, hS, hk, hown, hZ, hEW, hC, hF, T, locs, X, N, eT, st⟩ := K
  exact ⟨hx, hby, hml, hnm, hrt, hlk, vm0, k0, hS, hk, hown, hZ, hEW, hC, hF, T, locs, X, N, eT, fun t kt => st t (XS.dup X.here hx rfl (hb hby hd) rfl hc kt)⟩
theorem Run.dupX1 {x y : Value} (K : Run C R Z n0 own nm ret bytes mx sf h cells slots pc L (x :: y :: S)) (hd : decode bytes pc = .ok (.dup_x1, 1)) (hc : x.category = 1) (hc' : y.category = 1) : Run C R Z n0 own nm ret bytes mx sf h cells slots (pc + 1) L (x :: y :: x :: S) := by
  obtain ⟨hx, hby, hml, hnm, hrt, hlk, vm0, k0, hS, hk, hown, hZ, hEW, hC, hF, T, locs, X, N, eT, st⟩ := K
  exact ⟨hx, hby, hml, hnm, hrt, hlk, vm0, k0, hS, hk, hown, hZ, hEW, hC, hF, T, locs, X, N, eT, fun t kt => st t (XS.dupX1 X.here hx rfl (hb hby hd) rfl hc hc' kt)⟩
theorem Run.pop {x : Value} (K : Run C R Z n0 own nm ret bytes mx sf h cells slots pc L (x :: S)) (hd : decode bytes pc = .ok (.pop, 1)) (hc : x.category = 1) : Run C R Z n0 own nm ret bytes mx sf h cells slots (pc + 1) L S := by
  obtain ⟨hx, hby, hml, hnm, hrt, hlk, vm0, k0, hS, hk, hown, hZ, hEW, hC, hF, T, locs, X, N, eT, st⟩ := K
  exact ⟨hx, hby, hml, hnm, hrt, hlk, vm0, k0, hS, hk, hown, hZ, hEW, hC, hF, T, locs, X, N, eT, fun t kt => st t (XS.pop X.here hx rfl (hb hby hd) rfl hc kt)⟩
theorem Run.goto {o : Int} {pc' : Nat} (K : Run C R Z n0 own nm ret bytes mx sf h cells slots pc L S) (hd : decode bytes pc = .ok (.goto o, 3)) (ho : 0 ≤ (pc : Int) + o) (hp : ((pc : Int) + o).toNat = pc') : Run C R Z n0 own nm ret bytes mx sf h cells slots pc' L S := by
  obtain ⟨hx, hby, hml, hnm, hrt, hlk, vm0, k0, hS, hk, hown, hZ, hEW, hC, hF, T, locs, X, N, eT, st⟩ := K
  exact ⟨hx, hby, hml, hnm, hrt, hlk, vm0, k0, hS, hk, hown, hZ, hEW, hC, hF, T, locs, X, N, eT, fun t kt => st t (XS.goto X.here hx rfl (pc0 := pc) rfl (hb hby hd) ho hp kt)⟩
theorem Run.ifYes {cd : ClassFile.Cond} {x : Int32} {o : Int} {pc' : Nat} (K : Run C R Z n0 own nm ret bytes mx sf h cells slots pc L (.int x :: S)) (hd : decode bytes pc = .ok (.ifCond cd o, 3)) (hc : if_icmp.holds cd x 0 = true) (ho : 0 ≤ (pc : Int) + o) (hp : ((pc : Int) + o).toNat = pc') : Run C R Z n0 own nm ret bytes mx sf h cells slots pc' L S := by
  obtain ⟨hx, hby, hml, hnm, hrt, hlk, vm0, k0, hS, hk, hown, hZ, hEW, hC, hF, T, locs, X, N, eT, st⟩ := K
  exact ⟨hx, hby, hml, hnm, hrt, hlk, vm0, k0, hS, hk, hown, hZ, hEW, hC, hF, T, locs, X, N, eT, fun t kt => st t (XS.ifYes X.here hx rfl (pc0 := pc) rfl (hb hby hd) rfl ((if0 _ _).trans hc) ho hp kt)⟩
theorem Run.ifNo {cd : ClassFile.Cond} {x : Int32} {o : Int} (K : Run C R Z n0 own nm ret bytes mx sf h cells slots pc L (.int x :: S)) (hd : decode bytes pc = .ok (.ifCond cd o, 3)) (hc : if_icmp.holds cd x 0 = false) : Run C R Z n0 own nm ret bytes mx sf h cells slots (pc + 3) L S := by
  obtain ⟨hx, hby, hml, hnm, hrt, hlk, vm0, k0, hS, hk, hown, hZ, hEW, hC, hF, T, locs, X, N, eT, st⟩ := K
  exact ⟨hx, hby, hml, hnm, hrt, hlk, vm0, k0, hS, hk, hown, hZ, hEW, hC, hF, T, locs, X, N, eT, fun t kt => st t (XS.ifNo X.here hx rfl (hb hby hd) rfl ((if0 _ _).trans hc) kt)⟩
theorem Run.icmpYes {cd : ClassFile.Cond} {x y : Int32} {o : Int} {pc' : Nat} (K : Run C R Z n0 own nm ret bytes mx sf h cells slots pc L (.int y :: .int x :: S)) (hd : decode bytes pc = .ok (.if_icmp cd o, 3)) (hc : if_icmp.holds cd x y = true) (ho : 0 ≤ (pc : Int) + o) (hp : ((pc : Int) + o).toNat = pc') : Run C R Z n0 own nm ret bytes mx sf h cells slots pc' L S := by
  obtain ⟨hx, hby, hml, hnm, hrt, hlk, vm0, k0, hS, hk, hown, hZ, hEW, hC, hF, T, locs, X, N, eT, st⟩ := K
  exact ⟨hx, hby, hml, hnm, hrt, hlk, vm0, k0, hS, hk, hown, hZ, hEW, hC, hF, T, locs, X, N, eT, fun t kt => st t (XS.icmpYes X.here hx rfl (pc0 := pc) rfl (hb hby hd) rfl hc ho hp kt)⟩
theorem Run.icmpNo {cd : ClassFile.Cond} {x y : Int32} {o : Int} (K : Run C R Z n0 own nm ret bytes mx sf h cells slots pc L (.int y :: .int x :: S)) (hd : decode bytes pc = .ok (.if_icmp cd o, 3)) (hc : if_icmp.holds cd x y = false) : Run C R Z n0 own nm ret bytes mx sf h cells slots (pc + 3) L S := by
  obtain ⟨hx, hby, hml, hnm, hrt, hlk, vm0, k0, hS, hk, hown, hZ, hEW, hC, hF, T, locs, X, N, eT, st⟩ := K
  exact ⟨hx, hby, hml, hnm, hrt, hlk, vm0, k0, hS, hk, hown, hZ, hEW, hC, hF, T, locs, X, N, eT, fun t kt => st t (XS.icmpNo X.here hx rfl (hb hby hd) rfl hc kt)⟩
theorem Run.ifnullYes {o : Int} {pc' : Nat} (K : Run C R Z n0 own nm ret bytes mx sf h cells slots pc L (.null :: S)) (hd : decode bytes pc = .ok (.ifnull o, 3)) (ho : 0 ≤ (pc : Int) + o) (hp : ((pc : Int) + o).toNat = pc') : Run C R Z n0 own nm ret bytes mx sf h cells slots pc' L S := by
  obtain ⟨hx, hby, hml, hnm, hrt, hlk, vm0, k0, hS, hk, hown, hZ, hEW, hC, hF, T, locs, X, N, eT, st⟩ := K
  exact ⟨hx, hby, hml, hnm, hrt, hlk, vm0, k0, hS, hk, hown, hZ, hEW, hC, hF, T, locs, X, N, eT, fun t kt => st t (XS.ifnullYes X.here hx rfl (pc0 := pc) rfl (hb hby hd) rfl ho hp kt)⟩
theorem Run.ifnullNo {o : Int} {b : Addr} (K : Run C R Z n0 own nm ret bytes mx sf h cells slots pc L (.ref b :: S)) (hd : decode bytes pc = .ok (.ifnull o, 3))  : Run C R Z n0 own nm ret bytes mx sf h cells slots (pc + 3) L S := by
  obtain ⟨hx, hby, hml, hnm, hrt, hlk, vm0, k0, hS, hk, hown, hZ, hEW, hC, hF, T, locs, X, N, eT, st⟩ := K
  exact ⟨hx, hby, hml, hnm, hrt, hlk, vm0, k0, hS, hk, hown, hZ, hEW, hC, hF, T, locs, X, N, eT, fun t kt => st t (XS.ifnullNo X.here hx rfl (hb hby hd) rfl kt)⟩
theorem Run.ifnonnullYes {o : Int} {b : Addr} {pc' : Nat} (K : Run C R Z n0 own nm ret bytes mx sf h cells slots pc L (.ref b :: S)) (hd : decode bytes pc = .ok (.ifnonnull o, 3)) (ho : 0 ≤ (pc : Int) + o) (hp : ((pc : Int) + o).toNat = pc') : Run C R Z n0 own nm ret bytes mx sf h cells slots pc' L S := by
  obtain ⟨hx, hby, hml, hnm, hrt, hlk, vm0, k0, hS, hk, hown, hZ, hEW, hC, hF, T, locs, X, N, eT, st⟩ := K
  exact ⟨hx, hby, hml, hnm, hrt, hlk, vm0, k0, hS, hk, hown, hZ, hEW, hC, hF, T, locs, X, N, eT, fun t kt => st t (XS.ifnonnullYes X.here hx rfl (pc0 := pc) rfl (hb hby hd) rfl ho hp kt)⟩
theorem Run.ifnonnullNo {o : Int} (K : Run C R Z n0 own nm ret bytes mx sf h cells slots pc L (.null :: S)) (hd : decode bytes pc = .ok (.ifnonnull o, 3))  : Run C R Z n0 own nm ret bytes mx sf h cells slots (pc + 3) L S := by
  obtain ⟨hx, hby, hml, hnm, hrt, hlk, vm0, k0, hS, hk, hown, hZ, hEW, hC, hF, T, locs, X, N, eT, st⟩ := K
  exact ⟨hx, hby, hml, hnm, hrt, hlk, vm0, k0, hS, hk, hown, hZ, hEW, hC, hF, T, locs, X, N, eT, fun t kt => st t (XS.ifnonnullNo X.here hx rfl (hb hby hd) rfl kt)⟩
theorem Run.acmpYes {cd : ClassFile.ACond} {x y : Value} {o : Int} {pc' : Nat} (K : Run C R Z n0 own nm ret bytes mx sf h cells slots pc L (y :: x :: S)) (hd : decode bytes pc = .ok (.if_acmp cd o, 3)) (h1 : x.isRef = true) (h2 : y.isRef = true) (hc : XT.acmp cd x y = true) (ho : 0 ≤ (pc : Int) + o) (hp : ((pc : Int) + o).toNat = pc') : Run C R Z n0 own nm ret bytes mx sf h cells slots pc' L S := by
  obtain ⟨hx, hby, hml, hnm, hrt, hlk, vm0, k0, hS, hk, hown, hZ, hEW, hC, hF, T, locs, X, N, eT, st⟩ := K
  exact ⟨hx, hby, hml, hnm, hrt, hlk, vm0, k0, hS, hk, hown, hZ, hEW, hC, hF, T, locs, X, N, eT, fun t kt => st t (XT.acmpYes X.here hx rfl (pc0 := pc) rfl (hb hby hd) rfl h1 h2 hc ho hp kt)⟩
theorem Run.acmpNo {cd : ClassFile.ACond} {x y : Value} {o : Int} (K : Run C R Z n0 own nm ret bytes mx sf h cells slots pc L (y :: x :: S)) (hd : decode bytes pc = .ok (.if_acmp cd o, 3)) (h1 : x.isRef = true) (h2 : y.isRef = true) (hc : XT.acmp cd x y = false) : Run C R Z n0 own nm ret bytes mx sf h cells slots (pc + 3) L S := by
  obtain ⟨hx, hby, hml, hnm, hrt, hlk, vm0, k0, hS, hk, hown, hZ, hEW, hC, hF, T, locs, X, N, eT, st⟩ := K
  exact ⟨hx, hby, hml, hnm, hrt, hlk, vm0, k0, hS, hk, hown, hZ, hEW, hC, hF, T, locs, X, N, eT, fun t kt => st t (XT.acmpNo X.here hx rfl (hb hby hd) rfl h1 h2 hc kt)⟩
theorem Run.dloadN {k : Fin 4} {v : UInt64} (K : Run C R Z n0 own nm ret bytes mx sf h cells slots pc L S) (hd : decode bytes pc = .ok (.dload_n k, 1)) (hl : L[k.val]? = some (.val (.double v))) : Run C R Z n0 own nm ret bytes mx sf h cells slots (pc + 1) L (.double v :: S) := by
  obtain ⟨hx, hby, hml, hnm, hrt, hlk, vm0, k0, hS, hk, hown, hZ, hEW, hC, hF, T, locs, X, N, eT, st⟩ := K
  exact ⟨hx, hby, hml, hnm, hrt, hlk, vm0, k0, hS, hk, hown, hZ, hEW, hC, hF, T, locs, X, N, eT, fun t kt => st t (XS.dloadN X.here hx rfl (hb hby hd) hl kt)⟩
theorem Run.dload {k : Nat} {v : UInt64} (K : Run C R Z n0 own nm ret bytes mx sf h cells slots pc L S) (hd : decode bytes pc = .ok (.dload k, 2)) (hl : L[k]? = some (.val (.double v))) : Run C R Z n0 own nm ret bytes mx sf h cells slots (pc + 2) L (.double v :: S) := by
  obtain ⟨hx, hby, hml, hnm, hrt, hlk, vm0, k0, hS, hk, hown, hZ, hEW, hC, hF, T, locs, X, N, eT, st⟩ := K
  exact ⟨hx, hby, hml, hnm, hrt, hlk, vm0, k0, hS, hk, hown, hZ, hEW, hC, hF, T, locs, X, N, eT, fun t kt => st t (XS.dload X.here hx rfl (hb hby hd) hl kt)⟩
theorem Run.dstoreN {k : Fin 4} {v : UInt64} (l' : Array Slot) (K : Run C R Z n0 own nm ret bytes mx sf h cells slots pc L (.double v :: S)) (hd : decode bytes pc = .ok (.dstore_n k, 1)) (hl : storeLocals L k.val (.double v) = some l') : Run C R Z n0 own nm ret bytes mx sf h cells slots (pc + 1) l' S := by
  obtain ⟨hx, hby, hml, hnm, hrt, hlk, vm0, k0, hS, hk, hown, hZ, hEW, hC, hF, T, locs, X, N, eT, st⟩ := K
  exact ⟨hx, hby, hml, hnm, hrt, hlk, vm0, k0, hS, hk, hown, hZ, hEW, hC, hF, T, locs, X, N, eT, fun t kt => st t (XS.dstoreN X.here hx rfl (hb hby hd) rfl hl kt)⟩
theorem Run.dstore {k : Nat} {v : UInt64} (l' : Array Slot) (K : Run C R Z n0 own nm ret bytes mx sf h cells slots pc L (.double v :: S)) (hd : decode bytes pc = .ok (.dstore k, 2)) (hl : storeLocals L k (.double v) = some l') : Run C R Z n0 own nm ret bytes mx sf h cells slots (pc + 2) l' S := by
  obtain ⟨hx, hby, hml, hnm, hrt, hlk, vm0, k0, hS, hk, hown, hZ, hEW, hC, hF, T, locs, X, N, eT, st⟩ := K
  exact ⟨hx, hby, hml, hnm, hrt, hlk, vm0, k0, hS, hk, hown, hZ, hEW, hC, hF, T, locs, X, N, eT, fun t kt => st t (XS.dstore X.here hx rfl (hb hby hd) rfl hl kt)⟩
theorem Run.dconst0 (z : UInt64) (K : Run C R Z n0 own nm ret bytes mx sf h cells slots pc L S) (hd : decode bytes pc = .ok (.dconst 0, 1)) (hz : FP.dconst0 = z) : Run C R Z n0 own nm ret bytes mx sf h cells slots (pc + 1) L (.double z :: S) := by
  obtain ⟨hx, hby, hml, hnm, hrt, hlk, vm0, k0, hS, hk, hown, hZ, hEW, hC, hF, T, locs, X, N, eT, st⟩ := K
  exact ⟨hx, hby, hml, hnm, hrt, hlk, vm0, k0, hS, hk, hown, hZ, hEW, hC, hF, T, locs, X, N, eT, fun t kt => st t (XS.dconst0 X.here hx rfl (hb hby hd) hz kt)⟩
theorem Run.i2d {x : Int32} (z : UInt64) (K : Run C R Z n0 own nm ret bytes mx sf h cells slots pc L (.int x :: S)) (hd : decode bytes pc = .ok (.i2d, 1)) (hz : FP.i2d x = z) : Run C R Z n0 own nm ret bytes mx sf h cells slots (pc + 1) L (.double z :: S) := by
  obtain ⟨hx, hby, hml, hnm, hrt, hlk, vm0, k0, hS, hk, hown, hZ, hEW, hC, hF, T, locs, X, N, eT, st⟩ := K
  exact ⟨hx, hby, hml, hnm, hrt, hlk, vm0, k0, hS, hk, hown, hZ, hEW, hC, hF, T, locs, X, N, eT, fun t kt => st t (XS.i2dS X.here hx rfl (hb hby hd) rfl hz kt)⟩
theorem Run.l2d {x : Int64} (z : UInt64) (K : Run C R Z n0 own nm ret bytes mx sf h cells slots pc L (.long x :: S)) (hd : decode bytes pc = .ok (.l2d, 1)) (hz : FP.l2d x = z) : Run C R Z n0 own nm ret bytes mx sf h cells slots (pc + 1) L (.double z :: S) := by
  obtain ⟨hx, hby, hml, hnm, hrt, hlk, vm0, k0, hS, hk, hown, hZ, hEW, hC, hF, T, locs, X, N, eT, st⟩ := K
  exact ⟨hx, hby, hml, hnm, hrt, hlk, vm0, k0, hS, hk, hown, hZ, hEW, hC, hF, T, locs, X, N, eT, fun t kt => st t (XS.l2dS X.here hx rfl (hb hby hd) rfl hz kt)⟩
theorem Run.dadd {x y : UInt64} (z : UInt64) (K : Run C R Z n0 own nm ret bytes mx sf h cells slots pc L (.double y :: .double x :: S)) (hd : decode bytes pc = .ok (.dadd, 1)) (hn : Jvm.Free.Fl.NoNaN64 (FP.dadd x y)) (hz : FP.dadd x y = z) : Run C R Z n0 own nm ret bytes mx sf h cells slots (pc + 1) L (.double z :: S) := by
  obtain ⟨hx, hby, hml, hnm, hrt, hlk, vm0, k0, hS, hk, hown, hZ, hEW, hC, hF, T, locs, X, N, eT, st⟩ := K
  exact ⟨hx, hby, hml, hnm, hrt, hlk, vm0, k0, hS, hk, hown, hZ, hEW, hC, hF, T, locs, X, N, eT, fun t kt => st t (XS.daddS X.here hx rfl (hb hby hd) rfl hn hz kt)⟩
theorem Run.ddiv {x y : UInt64} (z : UInt64) (K : Run C R Z n0 own nm ret bytes mx sf h cells slots pc L (.double y :: .double x :: S)) (hd : decode bytes pc = .ok (.ddiv, 1)) (hn : Jvm.Free.Fl.NoNaN64 (FP.ddiv x y)) (hz : FP.ddiv x y = z) : Run C R Z n0 own nm ret bytes mx sf h cells slots (pc + 1) L (.double z :: S) := by
  obtain ⟨hx, hby, hml, hnm, hrt, hlk, vm0, k0, hS, hk, hown, hZ, hEW, hC, hF, T, locs, X, N, eT, st⟩ := K
  exact ⟨hx, hby, hml, hnm, hrt, hlk, vm0, k0, hS, hk, hown, hZ, hEW, hC, hF, T, locs, X, N, eT, fun t kt => st t (XS.ddivS X.here hx rfl (hb hby hd) rfl hn hz kt)⟩
theorem Run.dcmp {o : CmpOp} {x y : UInt64} (z : Int32) (K : Run C R Z n0 own nm ret bytes mx sf h cells slots pc L (.double y :: .double x :: S)) (hd : decode bytes pc = .ok (.dcmp o, 1)) (hz : cmpValue (FP.dcmp x y) o = z) : Run C R Z n0 own nm ret bytes mx sf h cells slots (pc + 1) L (.int z :: S) := by
  obtain ⟨hx, hby, hml, hnm, hrt, hlk, vm0, k0, hS, hk, hown, hZ, hEW, hC, hF, T, locs, X, N, eT, st⟩ := K
  exact ⟨hx, hby, hml, hnm, hrt, hlk, vm0, k0, hS, hk, hown, hZ, hEW, hC, hF, T, locs, X, N, eT, fun t kt => st t (XS.dcmpS X.here hx rfl (hb hby hd) rfl hz kt)⟩
theorem Run.foldI {w : Int32} (K : Run C R Z n0 own nm ret bytes mx sf h cells slots pc L (.int w :: S)) (z : Int32) (q : w = z) : Run C R Z n0 own nm ret bytes mx sf h cells slots pc L (.int z :: S) := q ▸ K
theorem Run.foldJ {w : Int64} (K : Run C R Z n0 own nm ret bytes mx sf h cells slots pc L (.long w :: S)) (z : Int64) (q : w = z) : Run C R Z n0 own nm ret bytes mx sf h cells slots pc L (.long z :: S) := q ▸ K
theorem Run.stk (K : Run C R Z n0 own nm ret bytes mx sf h cells slots pc L S) (S' : List Value) (q : S = S') : Run C R Z n0 own nm ret bytes mx sf h cells slots pc L S' := q ▸ K
theorem Run.loc (K : Run C R Z n0 own nm ret bytes mx sf h cells slots pc L S) (L' : Array Slot) (q : L = L') : Run C R Z n0 own nm ret bytes mx sf h cells slots pc L' S := q ▸ K
theorem Run.atpc (K : Run C R Z n0 own nm ret bytes mx sf h cells slots pc L S) (pc' : Nat) (q : pc = pc') : Run C R Z n0 own nm ret bytes mx sf h cells slots pc' L S := q ▸ K
theorem Run.ldcInt {a0 : Array Value} {index : Nat} {v : Int32} (K : Run C R Z n0 own nm ret bytes mx sf h cells slots pc L S) (hd : decode bytes pc = .ok (.ldc index, 2)) (w : (Jvm.Cond.constant own index v).before a0 Z = true) : Run C R Z n0 own nm ret bytes mx sf h cells slots (pc + 2) L (.int v :: S) := by
  obtain ⟨hx, hby, hml, hnm, hrt, hlk, vm0, k0, hS, hk, hown, hZ, hEW, hC, hF, T, locs, X, N, eT, st⟩ := K
  exact ⟨hx, hby, hml, hnm, hrt, hlk, vm0, k0, hS, hk, hown, hZ, hEW, hC, hF, T, locs, X, N, eT, fun t kt => st t (X.ldcInt hx hown (mvT hZ w) (g := mkF C.2.2.2.2.1 pc L S) rfl (hb hby hd) t kt)⟩
theorem Run.ldc2Long {a0 : Array Value} {index : Nat} {v : Int64} (K : Run C R Z n0 own nm ret bytes mx sf h cells slots pc L S) (hd : decode bytes pc = .ok (.ldc2_w index, 3)) (w : (Jvm.Cond.constantLong own index v).before a0 Z = true) : Run C R Z n0 own nm ret bytes mx sf h cells slots (pc + 3) L (.long v :: S) := by
  obtain ⟨hx, hby, hml, hnm, hrt, hlk, vm0, k0, hS, hk, hown, hZ, hEW, hC, hF, T, locs, X, N, eT, st⟩ := K
  exact ⟨hx, hby, hml, hnm, hrt, hlk, vm0, k0, hS, hk, hown, hZ, hEW, hC, hF, T, locs, X, N, eT, fun t kt => st t (X.ldc2Long hx hown (mvT hZ w) (g := mkF C.2.2.2.2.1 pc L S) rfl (hb hby hd) t kt)⟩
/-! returns -/
theorem Run.iret {z : Int32} {Q : Option Value → Heap → (Addr → Prop) → Prop} (K : Run C R Z n0 own nm ret bytes mx sf h cells slots pc L (.int z :: S)) (hd : decode bytes pc = .ok (.ireturn, 1)) {ty : FieldType} (hr : ret = some ty) (ht : ty = .int ∨ ty = .boolean ∨ ty = .byte ∨ ty = .char ∨ ty = .short) (hn : narrow ty (.int z) = .int z) (hQ : ∀ sp : Addr → Prop, (∀ x ∈ sf, sp x) → Q (some (.int z)) h sp) (hc : cells ≤ R.cells) (hs : slots ≤ R.slots) : Fini C Z R n0 Q := by
  obtain ⟨hx, hby, hml, hnm, hrt, hlk, vm0, k0, hS, hk, hown, hZ, hEW, hC, hF, T, locs, X, N, eT, st⟩ := K
  obtain ⟨fs, hr', hrun, hended, hE⟩ := X.leaveW hS (by rw [eT]; exact hk) (v := some (.int z)) (fun q => by rw [hrt, hr] at q; cases q) hlk
  exact ⟨_, _, st _ (retOut X hx (hrt.trans hr) hn (Or.inl ⟨rfl, ht, _, rfl⟩) (hb hby hd) hr'), hrun, hended, _, _, rfl, ⟨by rw [show (T.setFrames fs).heap = T.heap from rfl, show (T.setFrames fs).vm = T.vm from rfl, eT]; exact hQ _ (fun x hx => (hF.call (hEW.elim fun b hE => CHv.at X hZ hE hC.1) x hx).1), N⟩, (by rw [show (T.setFrames fs).heap = T.heap from rfl, show (T.setFrames fs).vm = T.vm from rfl, eT]; exact hC.trans (hEW.elim fun b hE => CHv.at X hZ hE hC.1)), hE.1, hE.2.1, hE.2.2.1, hE.2.2.2.mono hc hs⟩
theorem Run.lret {z : Int64} {Q : Option Value → Heap → (Addr → Prop) → Prop} (K : Run C R Z n0 own nm ret bytes mx sf h cells slots pc L (.long z :: S)) (hd : decode bytes pc = .ok (.lreturn, 1)) (hr : ret = some .long) (hQ : ∀ sp : Addr → Prop, (∀ x ∈ sf, sp x) → Q (some (.long z)) h sp) (hc : cells ≤ R.cells) (hs : slots ≤ R.slots) : Fini C Z R n0 Q := by
  obtain ⟨hx, hby, hml, hnm, hrt, hlk, vm0, k0, hS, hk, hown, hZ, hEW, hC, hF, T, locs, X, N, eT, st⟩ := K
  obtain ⟨fs, hr', hrun, hended, hE⟩ := X.leaveW hS (by rw [eT]; exact hk) (v := some (.long z)) (fun q => by rw [hrt, hr] at q; cases q) hlk
  exact ⟨_, _, st _ (retOut X hx (hrt.trans hr) rfl (Or.inr (Or.inl ⟨rfl, rfl, _, rfl⟩)) (hb hby hd) hr'), hrun, hended, _, _, rfl, ⟨by rw [show (T.setFrames fs).heap = T.heap from rfl, show (T.setFrames fs).vm = T.vm from rfl, eT]; exact hQ _ (fun x hx => (hF.call (hEW.elim fun b hE => CHv.at X hZ hE hC.1) x hx).1), N⟩, (by rw [show (T.setFrames fs).heap = T.heap from rfl, show (T.setFrames fs).vm = T.vm from rfl, eT]; exact hC.trans (hEW.elim fun b hE => CHv.at X hZ hE hC.1)), hE.1, hE.2.1, hE.2.2.1, hE.2.2.2.mono hc hs⟩
theorem Run.dret {z : UInt64} {Q : Option Value → Heap → (Addr → Prop) → Prop} (K : Run C R Z n0 own nm ret bytes mx sf h cells slots pc L (.double z :: S)) (hd : decode bytes pc = .ok (.dreturn, 1)) (hr : ret = some .double) (hQ : ∀ sp : Addr → Prop, (∀ x ∈ sf, sp x) → Q (some (.double z)) h sp) (hc : cells ≤ R.cells) (hs : slots ≤ R.slots) : Fini C Z R n0 Q := by
  obtain ⟨hx, hby, hml, hnm, hrt, hlk, vm0, k0, hS, hk, hown, hZ, hEW, hC, hF, T, locs, X, N, eT, st⟩ := K
  obtain ⟨fs, hr', hrun, hended, hE⟩ := X.leaveW hS (by rw [eT]; exact hk) (v := some (.double z)) (fun q => by rw [hrt, hr] at q; cases q) hlk
  exact ⟨_, _, st _ (retOut X hx (hrt.trans hr) rfl (Or.inr (Or.inr (Or.inl ⟨rfl, rfl, _, rfl⟩))) (hb hby hd) hr'), hrun, hended, _, _, rfl, ⟨by rw [show (T.setFrames fs).heap = T.heap from rfl, show (T.setFrames fs).vm = T.vm from rfl, eT]; exact hQ _ (fun x hx => (hF.call (hEW.elim fun b hE => CHv.at X hZ hE hC.1) x hx).1), N⟩, (by rw [show (T.setFrames fs).heap = T.heap from rfl, show (T.setFrames fs).vm = T.vm from rfl, eT]; exact hC.trans (hEW.elim fun b hE => CHv.at X hZ hE hC.1)), hE.1, hE.2.1, hE.2.2.1, hE.2.2.2.mono hc hs⟩
theorem Run.aret {w : Value} {Q : Option Value → Heap → (Addr → Prop) → Prop} (K : Run C R Z n0 own nm ret bytes mx sf h cells slots pc L (w :: S)) (hd : decode bytes pc = .ok (.areturn, 1)) {ty : FieldType} (hr : ret = some ty) (ht : ty.isReference = true) (hn : narrow ty w = w) (hw : w.isRef = true) (hQ : ∀ sp : Addr → Prop, (∀ x ∈ sf, sp x) → Q (some w) h sp) (hc : cells ≤ R.cells) (hs : slots ≤ R.slots) : Fini C Z R n0 Q := by
  obtain ⟨hx, hby, hml, hnm, hrt, hlk, vm0, k0, hS, hk, hown, hZ, hEW, hC, hF, T, locs, X, N, eT, st⟩ := K
  obtain ⟨fs, hr', hrun, hended, hE⟩ := X.leaveW hS (by rw [eT]; exact hk) (v := some w) (fun q => by rw [hrt, hr] at q; cases q) hlk
  exact ⟨_, _, st _ (retOut X hx (hrt.trans hr) hn (Or.inr (Or.inr (Or.inr (Or.inr ⟨rfl, ht, hw⟩)))) (hb hby hd) hr'), hrun, hended, _, _, rfl, ⟨by rw [show (T.setFrames fs).heap = T.heap from rfl, show (T.setFrames fs).vm = T.vm from rfl, eT]; exact hQ _ (fun x hx => (hF.call (hEW.elim fun b hE => CHv.at X hZ hE hC.1) x hx).1), N⟩, (by rw [show (T.setFrames fs).heap = T.heap from rfl, show (T.setFrames fs).vm = T.vm from rfl, eT]; exact hC.trans (hEW.elim fun b hE => CHv.at X hZ hE hC.1)), hE.1, hE.2.1, hE.2.2.1, hE.2.2.2.mono hc hs⟩
theorem Run.vret {Q : Option Value → Heap → (Addr → Prop) → Prop} (K : Run C R Z n0 own nm ret bytes mx sf h cells slots pc L []) (hd : decode bytes pc = .ok (.return_, 1)) (hr : ret = none) (hQ : ∀ sp : Addr → Prop, (∀ x ∈ sf, sp x) → Q none h sp) (hc : cells ≤ R.cells) (hs : slots ≤ R.slots) : Fini C Z R n0 Q := by
  obtain ⟨hx, hby, hml, hnm, hrt, hlk, vm0, k0, hS, hk, hown, hZ, hEW, hC, hF, T, locs, X, N, eT, st⟩ := K
  obtain ⟨fs, hr', hrun, hended, hE⟩ := X.leaveW hS (by rw [eT]; exact hk) (v := none) (fun _ => rfl) hlk
  exact ⟨_, _, st _ (X.returnOut hx (hrt.trans hr) (hb hby hd) hr'), hrun, hended, _, _, rfl, ⟨by rw [show (T.setFrames fs).heap = T.heap from rfl, show (T.setFrames fs).vm = T.vm from rfl, eT]; exact hQ _ (fun x hx => (hF.call (hEW.elim fun b hE => CHv.at X hZ hE hC.1) x hx).1), N⟩, (by rw [show (T.setFrames fs).heap = T.heap from rfl, show (T.setFrames fs).vm = T.vm from rfl, eT]; exact hC.trans (hEW.elim fun b hE => CHv.at X hZ hE hC.1)), hE.1, hE.2.1, hE.2.2.1, hE.2.2.2.mono hc hs⟩
/-! calls -/
theorem Run.callS {a0 : Array Value} {index : Nat} {y : MethodName} {by2 : ByteArray} {mx2 W : Nat} {rt2 : Option FieldType} {rm : Room} {argsL rest : List Value} {Q : Option Value → Heap → (Addr → Prop) → Prop} {ps : List FieldType} {sc : List Addr} (K : Run C R Z n0 own nm ret bytes mx sf h cells slots pc L S) (hd : decode bytes pc = .ok (.invokestatic index, 3))
    (wl : (Jvm.Cond.methodLink own index y).before a0 Z = true) (wst : (Jvm.Cond.static y).before a0 Z = true) (wi : (Jvm.Cond.initialized y.cls).before a0 Z = true) (wc : (Jvm.Cond.code y by2 mx2 rt2).before a0 Z = true)
    (con : Con Z n0 y by2 mx2 rt2 [] rm argsL.toArray h sc Q) (hsc : ∀ x ∈ sc, x ∈ sf) (hSt : S = argsL.reverse ++ rest) (hpd : parseMethodDescriptor y.desc = some ⟨ps, rt2⟩) (hlen : argsL.length = ps.length) (hW : (rest.map fun v => v.category).sum = W) (hLs : L.size = mx)
    (hfr : rm.frames + 1 ≤ R.frames) (hlo : W + (mx2 + 11) + rm.locals ≤ R.locals) (hce : cells + rm.cells ≤ R.cells) (hsl : slots + rm.slots ≤ R.slots) (hy : y.cls ≠ "java/lang/invoke/MethodHandle" ∧ y.cls ≠ "java/lang/invoke/VarHandle") :
    ∃ v h' sp, Q v h' sp ∧ ∀ l : List Addr, (∀ x ∈ l, sp x ∧ x < h'.size) → Run C R Z n0 own nm ret bytes mx (l ++ sf) h' (cells + rm.cells) (slots + rm.slots) (pc + 3) L (v.toList ++ rest) := by
  obtain ⟨hx, hby, hml, hnm, hrt, hlk, vm0, k0, hS, hk, hown, hZ, hEW, hC, hF, T, locs, X, N, eT, st⟩ := K
  obtain ⟨b0, hEL⟩ := hEW
  obtain ⟨v, _, ⟨T', L', k', n'⟩, -, X', hS', hg', ⟨Lc, hQ, l1, y1, z1, hR⟩, st'⟩ := callSS X hx (y := y) hown (mvT hZ wl) (mvT hZ wst) (mvT hZ wi) (mvT hZ wc) hy (backH (Q := fun v h sp L => Q v h sp ∧ Fr n0 L) (W := W) (con C.2.1) hZ wc wi hfr hlo hEL hC.1 (hF.sub hsc)) (g := mkF C.2.2.2.2.1 pc L S) rfl (by rw [hml]; exact hLs) (argsL := argsL) (rest := rest) (lenOf hpd hlen) hSt (by show 2 * 0 + _ ≤ _; omega) (hb hby hd) (fun _ _ => ⟨rfl, eT, hce, hsl⟩)
  dsimp only [Pt.U, Pt.locs, Pt.cells, Pt.slots] at X' hS' hg' l1 y1 z1 st' hQ hR
  subst l1 y1 z1
  obtain ⟨X'', hS'', hZ'', hown''⟩ := rebS hS (by rw [eT]; exact hk : k0 ≤ T.heap.size) X' hS' hg' hZ hown
  exact ⟨v, T'.heap, _, hQ.1, fun l hl => ⟨hx, hby, hml, hnm, hrt, hlk, _, _, hS'', Nat.le_refl _, hown'', hZ'', ⟨b0, hEL⟩, hC.trans hR, (hF.call hR).app hl, T', _, X'', Fr.app N hQ.2, rfl, fun t kt => st t (st'.trans kt)⟩⟩
theorem Run.callI {a0 : Array Value} {index : Nat} {y : MethodName} {by2 : ByteArray} {mx2 W : Nat} {rm : Room} {a : Addr} {argsL rest : List Value} {Q : Option Value → Heap → (Addr → Prop) → Prop} {ps : List FieldType} {sc : List Addr} (K : Run C R Z n0 own nm ret bytes mx sf h cells slots pc L S) (hd : decode bytes pc = .ok (.invokespecial index, 3))
    (hy1 : y.name = "<init>") (wl : (Jvm.Cond.methodLink own index y).before a0 Z = true) (wst : (Jvm.Cond.instanceMethod y).before a0 Z = true) (wi : (Jvm.Cond.initialized y.cls).before a0 Z = true) (wc : (Jvm.Cond.code y by2 mx2 none).before a0 Z = true)
    (con : Con Z n0 y by2 mx2 none [] rm (.ref a :: argsL).toArray h sc Q) (hsc : ∀ x ∈ sc, x ∈ sf) (hSt : S = argsL.reverse ++ .ref a :: rest) (hpd : parseMethodDescriptor y.desc = some ⟨ps, none⟩) (hlen : argsL.length = ps.length) (hW : (rest.map fun v => v.category).sum = W) (hLs : L.size = mx)
    (hfr : rm.frames + 1 ≤ R.frames) (hlo : W + (mx2 + 11) + rm.locals ≤ R.locals) (hce : cells + rm.cells ≤ R.cells) (hsl : slots + rm.slots ≤ R.slots) (hy : y.cls ≠ "java/lang/invoke/MethodHandle" ∧ y.cls ≠ "java/lang/invoke/VarHandle") :
    ∃ v h' sp, Q v h' sp ∧ ∀ l : List Addr, (∀ x ∈ l, sp x ∧ x < h'.size) → Run C R Z n0 own nm ret bytes mx (l ++ sf) h' (cells + rm.cells) (slots + rm.slots) (pc + 3) L (v.toList ++ rest) := by
  obtain ⟨hx, hby, hml, hnm, hrt, hlk, vm0, k0, hS, hk, hown, hZ, hEW, hC, hF, T, locs, X, N, eT, st⟩ := K
  obtain ⟨b0, hEL⟩ := hEW
  obtain ⟨v, _, ⟨T', L', k', n'⟩, -, X', hS', hg', ⟨Lc, hQ, l1, y1, z1, hR⟩, st'⟩ := X.specialBackS hx (y := y) hy1 hown (mvT hZ wl) (mvT hZ wst) (mvT hZ wc) hy (backH (Q := fun v h sp L => Q v h sp ∧ Fr n0 L) (W := W) (con C.2.1) hZ wc wi hfr hlo hEL hC.1 (hF.sub hsc)) (g := mkF C.2.2.2.2.1 pc L S) rfl (by rw [hml]; exact hLs) (Steps.refl _) (a := a) (argsL := argsL) (rest := rest) (lenOf hpd hlen) hSt (by show 2 * 0 + _ ≤ _; omega) (hb hby hd) (fun _ _ => ⟨rfl, eT, hce, hsl⟩)
  dsimp only [Pt.U, Pt.locs, Pt.cells, Pt.slots] at X' hS' hg' l1 y1 z1 st' hQ hR
  subst l1 y1 z1
  obtain ⟨X'', hS'', hZ'', hown''⟩ := rebS hS (by rw [eT]; exact hk : k0 ≤ T.heap.size) X' hS' hg' hZ hown
  exact ⟨v, T'.heap, _, hQ.1, fun l hl => ⟨hx, hby, hml, hnm, hrt, hlk, _, _, hS'', Nat.le_refl _, hown'', hZ'', ⟨b0, hEL⟩, hC.trans hR, (hF.call hR).app hl, T', _, X'', Fr.app N hQ.2, rfl, fun t kt => st t (st'.trans kt)⟩⟩
theorem Run.callV {a0 : Array Value} {index : Nat} {y z : MethodName} {Cl : String} {by2 : ByteArray} {mx2 W : Nat} {rt2 : Option FieldType} {rm : Room} {a : Addr} {argsL rest : List Value} {Q : Option Value → Heap → (Addr → Prop) → Prop} {ps : List FieldType} {sc : List Addr} (K : Run C R Z n0 own nm ret bytes mx sf h cells slots pc L S) (hd : decode bytes pc = .ok (.invokevirtual index, 3))
    (wl : (Jvm.Cond.methodLink own index y).before a0 Z = true) (wd : (Jvm.Cond.declares y).before a0 Z = true) (nf : ∀ s : State, Z.Warmed39 s.vm → NotFace s y) (ws : (Jvm.Cond.selects Cl y z).before a0 Z = true) (wst : (Jvm.Cond.instanceMethod z).before a0 Z = true) (wi : (Jvm.Cond.initialized z.cls).before a0 Z = true) (wc : (Jvm.Cond.code z by2 mx2 rt2).before a0 Z = true)
    (E : Exa Z h a Cl) (con : Con Z n0 z by2 mx2 rt2 [] rm (.ref a :: argsL).toArray h sc Q) (hsc : ∀ x ∈ sc, x ∈ sf) (hSt : S = argsL.reverse ++ .ref a :: rest) (hpd : parseMethodDescriptor y.desc = some ⟨ps, rt2⟩) (hlen : argsL.length = ps.length) (hW : (rest.map fun v => v.category).sum = W) (hLs : L.size = mx)
    (hfr : rm.frames + 1 ≤ R.frames) (hlo : W + (mx2 + 11) + rm.locals ≤ R.locals) (hce : cells + rm.cells ≤ R.cells) (hsl : slots + rm.slots ≤ R.slots) (hy : y.cls ≠ "java/lang/invoke/MethodHandle" ∧ y.cls ≠ "java/lang/invoke/VarHandle") :
    ∃ v h' sp, Q v h' sp ∧ ∀ l : List Addr, (∀ x ∈ l, sp x ∧ x < h'.size) → Run C R Z n0 own nm ret bytes mx (l ++ sf) h' (cells + rm.cells) (slots + rm.slots) (pc + 3) L (v.toList ++ rest) := by
  obtain ⟨hx, hby, hml, hnm, hrt, hlk, vm0, k0, hS, hk, hown, hZ, hEW, hC, hF, T, locs, X, N, eT, st⟩ := K
  obtain ⟨b0, hEL⟩ := hEW
  obtain ⟨cq, kq, qa, qb, qc⟩ := isOf hZ eT E
  obtain ⟨v, _, ⟨T', L', k', n'⟩, -, X', hS', hg', ⟨Lc, hQ, l1, y1, z1, hR⟩, st'⟩ := X.virtualBackS hx (y := y) (z := z) hown (mvT hZ wl) (mvT hZ wd) (nf _ hZ) (mvT hZ ws) (mvT hZ wst) hy (backH (Q := fun v h sp L => Q v h sp ∧ Fr n0 L) (W := W) (con C.2.1) hZ wc wi hfr hlo hEL hC.1 (hF.sub hsc)) qa qc (g := mkF C.2.2.2.2.1 pc L S) rfl (by rw [hml]; exact hLs) (Steps.refl _) (argsL := argsL) (rest := rest) (lenOf hpd hlen) hSt (by show 2 * 0 + _ ≤ _; omega) (hb hby hd) (fun _ _ => ⟨rfl, eT, hce, hsl⟩)
  dsimp only [Pt.U, Pt.locs, Pt.cells, Pt.slots] at X' hS' hg' l1 y1 z1 st' hQ hR
  subst l1 y1 z1
  obtain ⟨X'', hS'', hZ'', hown''⟩ := rebS hS (by rw [eT]; exact hk : k0 ≤ T.heap.size) X' hS' hg' hZ hown
  exact ⟨v, T'.heap, _, hQ.1, fun l hl => ⟨hx, hby, hml, hnm, hrt, hlk, _, _, hS'', Nat.le_refl _, hown'', hZ'', ⟨b0, hEL⟩, hC.trans hR, (hF.call hR).app hl, T', _, X'', Fr.app N hQ.2, rfl, fun t kt => st t (st'.trans kt)⟩⟩
/-! fields, statics, objects -/
theorem Run.getF {a0 : Array Value} {index : Nat} {R0 O n d host : String} {a : Addr} {v : Value} (K : Run C R Z n0 own nm ret bytes mx sf h cells slots pc L (.ref a :: S)) (hd : decode bytes pc = .ok (.getfield index, 3)) (w : (Jvm.Cond.fieldLink own index R0 n d).before a0 Z = true ∨ (Jvm.Cond.fieldLinkNest own index R0 n d host).before a0 Z = true) (via : Via Z R0 O n d) (F : Fld Z h a O n d v) :
    Run C R Z n0 own nm ret bytes mx sf h cells slots (pc + 3) L (v :: S) := by
  obtain ⟨hx, hby, hml, hnm, hrt, hlk, vm0, k0, hS, hk, hown, hZ, hEW, hC, hF, T, locs, X, N, eT, st⟩ := K
  obtain ⟨T', X', e', st'⟩ := RoadKit.getF X hx hZ hown w via eT F (g := mkF C.2.2.2.2.1 pc L (.ref a :: S)) rfl rfl (hb hby hd)
  exact ⟨hx, hby, hml, hnm, hrt, hlk, vm0, k0, hS, hk, hown, hZ, hEW, hC, hF, T', locs, X', N, e', fun t kt => st t (st' t kt)⟩
theorem Run.getS {a0 : Array Value} {index : Nat} {R0 O n d host : String} {v : Value} (K : Run C R Z n0 own nm ret bytes mx sf h cells slots pc L S) (hd : decode bytes pc = .ok (.getstatic index, 3)) (w : (Jvm.Cond.fieldLink own index R0 n d).before a0 Z = true ∨ (Jvm.Cond.fieldLinkNest own index R0 n d host).before a0 Z = true) (via : Via Z R0 O n d) (F : Sta Z h O n d v) :
    Run C R Z n0 own nm ret bytes mx sf h cells slots (pc + 3) L (v :: S) := by
  obtain ⟨hx, hby, hml, hnm, hrt, hlk, vm0, k0, hS, hk, hown, hZ, hEW, hC, hF, T, locs, X, N, eT, st⟩ := K
  obtain ⟨T', X', e', st'⟩ := RoadKit.getS2 X hx hZ hown w via eT F (g := mkF C.2.2.2.2.1 pc L S) rfl (hb hby hd)
  exact ⟨hx, hby, hml, hnm, hrt, hlk, vm0, k0, hS, hk, hown, hZ, hEW, hC, hF, T', locs, X', N, e', fun t kt => st t (st' t kt)⟩
theorem Run.putF {a0 : Array Value} {index kk : Nat} {R0 O n d host Cl : String} {ty : FieldType} {a : Addr} {v old : Value} (K : Run C R Z n0 own nm ret bytes mx sf h cells slots pc L (v :: .ref a :: S)) (hd : decode bytes pc = .ok (.putfield index, 3)) (w : (Jvm.Cond.fieldLink own index R0 n d).before a0 Z = true ∨ (Jvm.Cond.fieldLinkNest own index R0 n d host).before a0 Z = true) (via : Via Z R0 O n d)
    (F : Fld Z h a O n d old) (E : Exa Z h a Cl) (Lw : (Jvm.Cond.lays Cl O n d).before a0 Z = true ∨ ((Jvm.Cond.laysFinal Cl O n d).before a0 Z = true ∧ own = O ∧ nm = "<init>")) (wi : (Jvm.Cond.instantiable Cl kk).before a0 Z = true) (hty : parseFieldDescriptor d = some ty) (hn : narrow ty v = v) (hf : fits ty v = true) (ga : n0 ≤ a) (hsf : a ∈ sf) :
    ∃ h', Wr h h' a (RoadKit.slotOf Z O n d) v ∧ Run C R Z n0 own nm ret bytes mx sf h' cells slots (pc + 3) L S := by
  obtain ⟨hx, hby, hml, hnm, hrt, hlk, vm0, k0, hS, hk, hown, hZ, hEW, hC, hF, T, locs, X, N, eT, st⟩ := K
  obtain ⟨T', h', X', e', W', st'⟩ := RoadKit.putF X hx hZ hown w via eT F E (Lw.imp id fun q => ⟨q.1, q.2.1, hnm.trans q.2.2⟩) wi hty hn hf (g := mkF C.2.2.2.2.1 pc L (v :: .ref a :: S)) rfl rfl (hb hby hd)
  exact ⟨h', W', hx, hby, hml, hnm, hrt, hlk, vm0, k0, hS, (by rw [Wr.size W']; exact hk), hown, hZ, hEW, hC.trans (CHr.wr W' (hF a hsf).1 hC.1), hF.wr W' (hF a hsf).1 hC.1, T', _, X', Fr.snoc X' N ga, e', fun t kt => st t (st' t kt)⟩
theorem Run.newO {a0 : Array Value} {index n : Nat} {Cl : String} (K : Run C R Z n0 own nm ret bytes mx sf h cells slots pc L S) (hd : decode bytes pc = .ok (.new index, 3)) (w : (Jvm.Cond.classLink own index Cl).before a0 Z = true) (wi : (Jvm.Cond.instantiable Cl n).before a0 Z = true) (wz : (Jvm.Cond.initialized Cl).before a0 Z = true) (hc : cells + 1 ≤ R.cells) (hl : slots + n ≤ R.slots) :
    ∃ (h' : Heap) (b : Addr), b = h.size ∧ Ext h h' ∧ Exa Z h' b Cl ∧ (∀ {O f d : String} {ty : FieldType}, Laid Z a0 Cl O f d → parseFieldDescriptor d = some ty → Fld Z h' b O f d (defaultValue ty)) ∧ Run C R Z n0 own nm ret bytes mx (b :: sf) h' (cells + 1) (slots + n) (pc + 3) L (.ref b :: S) := by
  obtain ⟨hx, hby, hml, hnm, hrt, hlk, vm0, k0, hS, hk, hown, hZ, hEW, hC, hF, T, locs, X, N, eT, st⟩ := K
  obtain ⟨T', h', X', e', E', A', D', -, st'⟩ := RoadKit.newO X hx hZ hown w wi wz eT (g := mkF C.2.2.2.2.1 pc L S) rfl (hb hby hd) hc hl
  exact ⟨h', _, rfl, E', A', D', hx, hby, hml, hnm, hrt, hlk, vm0, k0, hS, Nat.le_trans hk E'.1, hown, hZ, hEW, hC.trans (CHr.ext E' hC.1), hF.new E' A'.lt hC.1, T', _, X', N, e', fun t kt => st t (st' t kt)⟩
theorem Run.initO {a0 : Array Value} {index W : Nat} {a : Addr} (K : Run C R Z n0 own nm ret bytes mx sf h cells slots pc L (.ref a :: S)) (hd : decode bytes pc = .ok (.invokespecial index, 3)) (w1 : (Jvm.Cond.methodLink own index Lib.objectInit).before a0 Z = true) (w2 : (Jvm.Cond.instanceMethod Lib.objectInit).before a0 Z = true) (w3 : (Jvm.Cond.code Lib.objectInit ⟨#[0xb1]⟩ 1 none).before a0 Z = true) (hLs : L.size = mx) (hW : (S.map fun v => v.category).sum = W) (hf : 1 ≤ R.frames) (hl : W + 12 ≤ R.locals) :
    Run C R Z n0 own nm ret bytes mx sf h cells slots (pc + 3) L S := by
  obtain ⟨hx, hby, hml, hnm, hrt, hlk, vm0, k0, hS, hk, hown, hZ, hEW, hC, hF, T, locs, X, N, eT, st⟩ := K
  obtain ⟨T', X', e', st'⟩ := RoadKit.initO X hx hZ hown w1 w2 w3 eT (g := mkF C.2.2.2.2.1 pc L (.ref a :: S)) rfl (by rw [hml]; exact hLs) rfl (hb hby hd) hf (W := W) (by show 2 * 0 + _ ≤ _; omega) hl
  exact ⟨hx, hby, hml, hnm, hrt, hlk, vm0, k0, hS, hk, hown, hZ, hEW, hC, hF, T', locs, X', N, e', fun t kt => st t (st' t kt)⟩
theorem Run.castY {a0 : Array Value} {index : Nat} {Kl : String} {a : Addr} (K : Run C R Z n0 own nm ret bytes mx sf h cells slots pc L (.ref a :: S)) (hd : decode bytes pc = .ok (.checkcast index, 3)) (w : (Jvm.Cond.classLink own index Kl).before a0 Z = true) (F : Ins Z h a Kl true) : Run C R Z n0 own nm ret bytes mx sf h cells slots (pc + 3) L (.ref a :: S) := by
  obtain ⟨hx, hby, hml, hnm, hrt, hlk, vm0, k0, hS, hk, hown, hZ, hEW, hC, hF, T, locs, X, N, eT, st⟩ := K
  obtain ⟨T', X', e', st'⟩ := RoadKit.castY X hx hZ hown w eT F (g := mkF C.2.2.2.2.1 pc L (.ref a :: S)) rfl rfl (hb hby hd)
  exact ⟨hx, hby, hml, hnm, hrt, hlk, vm0, k0, hS, hk, hown, hZ, hEW, hC, hF, T', locs, X', N, e', fun t kt => st t (st' t kt)⟩
/-! arrays, by a function of the place -/
theorem Run.arrlen {a : Addr} {ty : FieldType} {n : Nat} {f : Nat → Value} (K : Run C R Z n0 own nm ret bytes mx sf h cells slots pc L (.ref a :: S)) (hd : decode bytes pc = .ok (.arraylength, 1)) (F : Arf Z h a ty n f) (z : Int32) (hz : n.toInt32 = z) : Run C R Z n0 own nm ret bytes mx sf h cells slots (pc + 1) L (.int z :: S) := by
  obtain ⟨hx, hby, hml, hnm, hrt, hlk, vm0, k0, hS, hk, hown, hZ, hEW, hC, hF, T, locs, X, N, eT, st⟩ := K
  obtain ⟨cl, Ar, Sz, H⟩ := F
  subst hz Sz
  exact ⟨hx, hby, hml, hnm, hrt, hlk, vm0, k0, hS, hk, hown, hZ, hEW, hC, hF, T, locs, X, N, eT, fun t kt => st t (X.arraylength hx (by rw [eT]; exact Ar.1) (State.isArrayOf_alike hZ.alike Ar.2.1) (g := mkF C.2.2.2.2.1 pc L (.ref a :: S)) rfl rfl (hb hby hd) t kt)⟩
theorem Run.iaload {a : Addr} {n : Nat} {f : Nat → Value} {j : Int32} (K : Run C R Z n0 own nm ret bytes mx sf h cells slots pc L (.int j :: .ref a :: S)) (hd : decode bytes pc = .ok (.iaload, 1)) (F : Arf Z h a .int n f) (i : Nat) (hj : j.toNatClampNeg = i) (h0 : ¬ j < 0) (hi : i < n) (v : Value) (hv : f i = v) : Run C R Z n0 own nm ret bytes mx sf h cells slots (pc + 1) L (v :: S) := by
  obtain ⟨hx, hby, hml, hnm, hrt, hlk, vm0, k0, hS, hk, hown, hZ, hEW, hC, hF, T, locs, X, N, eT, st⟩ := K
  obtain ⟨cl, Ar, Sz, H⟩ := F
  subst hj hv Sz
  exact ⟨hx, hby, hml, hnm, hrt, hlk, vm0, k0, hS, hk, hown, hZ, hEW, hC, hF, T, locs, X, N, eT, fun t kt => st t (X.iaload hx (j := j) (v := f j.toNatClampNeg) (by rw [eT]; exact Ar.1) (State.isArrayOf_alike hZ.alike Ar.2.1) Ar.2.2 (fun q => q.elim h0 (Nat.not_le.mpr hi)) (H _ hi) (g := mkF C.2.2.2.2.1 pc L (.int j :: .ref a :: S)) rfl rfl (hb hby hd) t kt)⟩
theorem Run.baload {a : Addr} {n : Nat} {f : Nat → Value} {j : Int32} (K : Run C R Z n0 own nm ret bytes mx sf h cells slots pc L (.int j :: .ref a :: S)) (hd : decode bytes pc = .ok (.baload, 1)) (F : Arf Z h a .byte n f) (i : Nat) (hj : j.toNatClampNeg = i) (h0 : ¬ j < 0) (hi : i < n) (v : Value) (hv : f i = v) : Run C R Z n0 own nm ret bytes mx sf h cells slots (pc + 1) L (v :: S) := by
  obtain ⟨hx, hby, hml, hnm, hrt, hlk, vm0, k0, hS, hk, hown, hZ, hEW, hC, hF, T, locs, X, N, eT, st⟩ := K
  obtain ⟨cl, Ar, Sz, H⟩ := F
  subst hj hv Sz
  exact ⟨hx, hby, hml, hnm, hrt, hlk, vm0, k0, hS, hk, hown, hZ, hEW, hC, hF, T, locs, X, N, eT, fun t kt => st t (X.baloadBytes hx (j := j) (v := f j.toNatClampNeg) (by rw [eT]; exact Ar.1) (State.isArrayOf_alike hZ.alike Ar.2.1) Ar.2.2 (fun q => q.elim h0 (Nat.not_le.mpr hi)) (H _ hi) (g := mkF C.2.2.2.2.1 pc L (.int j :: .ref a :: S)) rfl rfl (hb hby hd) t kt)⟩
theorem Run.aaload {a : Addr} {ty : FieldType} {n : Nat} {f : Nat → Value} {j : Int32} (K : Run C R Z n0 own nm ret bytes mx sf h cells slots pc L (.int j :: .ref a :: S)) (hd : decode bytes pc = .ok (.aaload, 1)) (F : Arf Z h a ty n f) (hty : ty.isReference = true) (i : Nat) (hj : j.toNatClampNeg = i) (h0 : ¬ j < 0) (hi : i < n) (v : Value) (hv : f i = v) : Run C R Z n0 own nm ret bytes mx sf h cells slots (pc + 1) L (v :: S) := by
  obtain ⟨hx, hby, hml, hnm, hrt, hlk, vm0, k0, hS, hk, hown, hZ, hEW, hC, hF, T, locs, X, N, eT, st⟩ := K
  obtain ⟨cl, Ar, Sz, H⟩ := F
  subst hj hv Sz
  exact ⟨hx, hby, hml, hnm, hrt, hlk, vm0, k0, hS, hk, hown, hZ, hEW, hC, hF, T, locs, X, N, eT, fun t kt => st t (X.aaload hx (j := j) (v := f j.toNatClampNeg) (by rw [eT]; exact Ar.1) (State.isArrayOf_alike hZ.alike Ar.2.1) hty Ar.2.2 (fun q => q.elim h0 (Nat.not_le.mpr hi)) (H _ hi) (g := mkF C.2.2.2.2.1 pc L (.int j :: .ref a :: S)) rfl rfl (hb hby hd) t kt)⟩
theorem Run.iastore {a : Addr} {n : Nat} {f : Nat → Value} {j x : Int32} (K : Run C R Z n0 own nm ret bytes mx sf h cells slots pc L (.int x :: .int j :: .ref a :: S)) (hd : decode bytes pc = .ok (.iastore, 1)) (F : Arf Z h a .int n f) (i : Nat) (hj : j.toNatClampNeg = i) (h0 : ¬ j < 0) (hi : i < n) (ga : n0 ≤ a) (hsf : a ∈ sf) :
    ∃ h', Wr h h' a i (.int x) ∧ Arf Z h' a .int n (updV f i (.int x)) ∧ Run C R Z n0 own nm ret bytes mx sf h' cells slots (pc + 1) L S := by
  obtain ⟨hx, hby, hml, hnm, hrt, hlk, vm0, k0, hS, hk, hown, hZ, hEW, hC, hF, T, locs, X, N, eT, st⟩ := K
  obtain ⟨cl, Ar, Sz, H⟩ := F
  subst hj Sz
  obtain ⟨T', h', X', e', W', st'⟩ := RoadKit.stI X hx hZ eT Ar (j := j) (x := x) (fun q => q.elim h0 (Nat.not_le.mpr hi)) (g := mkF C.2.2.2.2.1 pc L (.int x :: .int j :: .ref a :: S)) rfl rfl (hb hby hd)
  exact ⟨h', W', Arf.set ⟨cl, Ar, rfl, H⟩ W' hi, hx, hby, hml, hnm, hrt, hlk, vm0, k0, hS, (by rw [Wr.size W']; exact hk), hown, hZ, hEW, hC.trans (CHr.wr W' (hF a hsf).1 hC.1), hF.wr W' (hF a hsf).1 hC.1, T', _, X', Fr.snoc X' N ga, e', fun t kt => st t (st' t kt)⟩
theorem Run.bastore {a : Addr} {n : Nat} {f : Nat → Value} {j x : Int32} (K : Run C R Z n0 own nm ret bytes mx sf h cells slots pc L (.int x :: .int j :: .ref a :: S)) (hd : decode bytes pc = .ok (.bastore, 1)) (F : Arf Z h a .byte n f) (i : Nat) (hj : j.toNatClampNeg = i) (h0 : ¬ j < 0) (hi : i < n) (ga : n0 ≤ a) (hsf : a ∈ sf) (x' : Int32) (hx' : x.toInt8.toInt32 = x') :
    ∃ h', Wr h h' a i (.int x') ∧ Arf Z h' a .byte n (updV f i (.int x')) ∧ Run C R Z n0 own nm ret bytes mx sf h' cells slots (pc + 1) L S := by
  obtain ⟨hx, hby, hml, hnm, hrt, hlk, vm0, k0, hS, hk, hown, hZ, hEW, hC, hF, T, locs, X, N, eT, st⟩ := K
  obtain ⟨cl, Ar, Sz, H⟩ := F
  subst hj Sz hx'
  obtain ⟨T', h', X', e', W', st'⟩ := RoadKit.stB X hx hZ eT Ar (j := j) (x := x) (fun q => q.elim h0 (Nat.not_le.mpr hi)) (g := mkF C.2.2.2.2.1 pc L (.int x :: .int j :: .ref a :: S)) rfl rfl (hb hby hd)
  exact ⟨h', W', Arf.set ⟨cl, Ar, rfl, H⟩ W' hi, hx, hby, hml, hnm, hrt, hlk, vm0, k0, hS, (by rw [Wr.size W']; exact hk), hown, hZ, hEW, hC.trans (CHr.wr W' (hF a hsf).1 hC.1), hF.wr W' (hF a hsf).1 hC.1, T', _, X', Fr.snoc X' N ga, e', fun t kt => st t (st' t kt)⟩
theorem Run.caload {a : Addr} {n : Nat} {f : Nat → Value} {j : Int32} (K : Run C R Z n0 own nm ret bytes mx sf h cells slots pc L (.int j :: .ref a :: S)) (hd : decode bytes pc = .ok (.caload, 1)) (F : Arf Z h a .char n f) (i : Nat) (hj : j.toNatClampNeg = i) (h0 : ¬ j < 0) (hi : i < n) (v : Value) (hv : f i = v) : Run C R Z n0 own nm ret bytes mx sf h cells slots (pc + 1) L (v :: S) := by
  obtain ⟨hx, hby, hml, hnm, hrt, hlk, vm0, k0, hS, hk, hown, hZ, hEW, hC, hF, T, locs, X, N, eT, st⟩ := K
  obtain ⟨cl, Ar, Sz, H⟩ := F
  subst hj hv Sz
  exact ⟨hx, hby, hml, hnm, hrt, hlk, vm0, k0, hS, hk, hown, hZ, hEW, hC, hF, T, locs, X, N, eT, fun t kt => st t (X.caload hx (j := j) (v := f j.toNatClampNeg) (by rw [eT]; exact Ar.1) (State.isArrayOf_alike hZ.alike Ar.2.1) Ar.2.2 (fun q => q.elim h0 (Nat.not_le.mpr hi)) (H _ hi) (g := mkF C.2.2.2.2.1 pc L (.int j :: .ref a :: S)) rfl rfl (hb hby hd) t kt)⟩
theorem Run.daload {a : Addr} {n : Nat} {f : Nat → Value} {j : Int32} (K : Run C R Z n0 own nm ret bytes mx sf h cells slots pc L (.int j :: .ref a :: S)) (hd : decode bytes pc = .ok (.daload, 1)) (F : Arf Z h a .double n f) (i : Nat) (hj : j.toNatClampNeg = i) (h0 : ¬ j < 0) (hi : i < n) (v : Value) (hv : f i = v) : Run C R Z n0 own nm ret bytes mx sf h cells slots (pc + 1) L (v :: S) := by
  obtain ⟨hx, hby, hml, hnm, hrt, hlk, vm0, k0, hS, hk, hown, hZ, hEW, hC, hF, T, locs, X, N, eT, st⟩ := K
  obtain ⟨cl, Ar, Sz, H⟩ := F
  subst hj hv Sz
  exact ⟨hx, hby, hml, hnm, hrt, hlk, vm0, k0, hS, hk, hown, hZ, hEW, hC, hF, T, locs, X, N, eT, fun t kt => st t (X.daload hx (j := j) (v := f j.toNatClampNeg) (by rw [eT]; exact Ar.1) (State.isArrayOf_alike hZ.alike Ar.2.1) Ar.2.2 (fun q => q.elim h0 (Nat.not_le.mpr hi)) (H _ hi) (g := mkF C.2.2.2.2.1 pc L (.int j :: .ref a :: S)) rfl rfl (hb hby hd) t kt)⟩
theorem Run.castore {a : Addr} {n : Nat} {f : Nat → Value} {j x : Int32} (K : Run C R Z n0 own nm ret bytes mx sf h cells slots pc L (.int x :: .int j :: .ref a :: S)) (hd : decode bytes pc = .ok (.castore, 1)) (F : Arf Z h a .char n f) (i : Nat) (hj : j.toNatClampNeg = i) (h0 : ¬ j < 0) (hi : i < n) (ga : n0 ≤ a) (hsf : a ∈ sf) (x' : Int32) (hx' : x.toUInt32.toUInt16.toUInt32.toInt32 = x') :
    ∃ h', Wr h h' a i (.int x') ∧ Arf Z h' a .char n (updV f i (.int x')) ∧ Run C R Z n0 own nm ret bytes mx sf h' cells slots (pc + 1) L S := by
  obtain ⟨hx, hby, hml, hnm, hrt, hlk, vm0, k0, hS, hk, hown, hZ, hEW, hC, hF, T, locs, X, N, eT, st⟩ := K
  obtain ⟨cl, Ar, Sz, H⟩ := F
  subst hj Sz hx'
  obtain ⟨T', h', X', e', W', st'⟩ := RoadKit.stC X hx hZ eT Ar (j := j) (x := x) (fun q => q.elim h0 (Nat.not_le.mpr hi)) (g := mkF C.2.2.2.2.1 pc L (.int x :: .int j :: .ref a :: S)) rfl rfl (hb hby hd)
  exact ⟨h', W', Arf.set ⟨cl, Ar, rfl, H⟩ W' hi, hx, hby, hml, hnm, hrt, hlk, vm0, k0, hS, (by rw [Wr.size W']; exact hk), hown, hZ, hEW, hC.trans (CHr.wr W' (hF a hsf).1 hC.1), hF.wr W' (hF a hsf).1 hC.1, T', _, X', Fr.snoc X' N ga, e', fun t kt => st t (st' t kt)⟩
theorem Run.dastore {a : Addr} {n : Nat} {f : Nat → Value} {j : Int32} {x : UInt64} (K : Run C R Z n0 own nm ret bytes mx sf h cells slots pc L (.double x :: .int j :: .ref a :: S)) (hd : decode bytes pc = .ok (.dastore, 1)) (F : Arf Z h a .double n f) (i : Nat) (hj : j.toNatClampNeg = i) (h0 : ¬ j < 0) (hi : i < n) (ga : n0 ≤ a) (hsf : a ∈ sf) :
    ∃ h', Wr h h' a i (.double x) ∧ Arf Z h' a .double n (updV f i (.double x)) ∧ Run C R Z n0 own nm ret bytes mx sf h' cells slots (pc + 1) L S := by
  obtain ⟨hx, hby, hml, hnm, hrt, hlk, vm0, k0, hS, hk, hown, hZ, hEW, hC, hF, T, locs, X, N, eT, st⟩ := K
  obtain ⟨cl, Ar, Sz, H⟩ := F
  subst hj Sz
  obtain ⟨T', h', X', e', W', st'⟩ := RoadKit.stD X hx hZ eT Ar (j := j) (x := x) (fun q => q.elim h0 (Nat.not_le.mpr hi)) (g := mkF C.2.2.2.2.1 pc L (.double x :: .int j :: .ref a :: S)) rfl rfl (hb hby hd)
  exact ⟨h', W', Arf.set ⟨cl, Ar, rfl, H⟩ W' hi, hx, hby, hml, hnm, hrt, hlk, vm0, k0, hS, (by rw [Wr.size W']; exact hk), hown, hZ, hEW, hC.trans (CHr.wr W' (hF a hsf).1 hC.1), hF.wr W' (hF a hsf).1 hC.1, T', _, X', Fr.snoc X' N ga, e', fun t kt => st t (st' t kt)⟩
theorem Run.newarr {a0 : Array Value} {aty : ArrayType} {n : Int32} {ad : String} (K : Run C R Z n0 own nm ret bytes mx sf h cells slots pc L (.int n :: S)) (hd : decode bytes pc = .ok (.newarray aty, 2)) (w : (Jvm.Cond.arrayClass (newarray.typeOf aty)).before a0 Z = true) (hn : ¬ n < 0) (z : Nat) (hz : n.toNatClampNeg = z) (cap : Nat) (hcap : z ≤ cap) (hb8 : cap * 8 ≤ 536870912) (hc : cells + 1 ≤ R.cells) (hl : slots + cap ≤ R.slots) (had : "[" ++ (newarray.typeOf aty).toString = ad) :
    ∃ (h' : Heap) (b : Addr), b = h.size ∧ Ext h h' ∧ Arf Z h' b (newarray.typeOf aty) z (fun _ => defaultValue (newarray.typeOf aty)) ∧ Exa Z h' b ad ∧ Run C R Z n0 own nm ret bytes mx (b :: sf) h' (cells + 1) (slots + cap) (pc + 2) L (.ref b :: S) := by
  obtain ⟨hx, hby, hml, hnm, hrt, hlk, vm0, k0, hS, hk, hown, hZ, hEW, hC, hF, T, locs, X, N, eT, st⟩ := K
  subst hz
  obtain ⟨T', h', cA, X', e', E', A', Ex', st'⟩ := RoadKit.newPE X hx hZ w eT (g := mkF C.2.2.2.2.1 pc L (.int n :: S)) rfl (hb hby hd) rfl hn hcap hb8 hc hl had
  exact ⟨h', _, rfl, E', ⟨_, A', sz_new _ _ _, fun i hi => by simp [newA, hi]⟩, Ex', hx, hby, hml, hnm, hrt, hlk, vm0, k0, hS, Nat.le_trans hk E'.1, hown, hZ, hEW, hC.trans (CHr.ext E' hC.1), hF.new E' A'.lt hC.1, T', _, X', N, e', fun t kt => st t (st' t kt)⟩
theorem Run.clone {a0 : Array Value} {index W : Nat} {ad : String} {a : Addr} {ty : FieldType} {n : Nat} {f : Nat → Value} (K : Run C R Z n0 own nm ret bytes mx sf h cells slots pc L (.ref a :: S)) (hd : decode bytes pc = .ok (.invokevirtual index, 3))
    (w1 : (Jvm.Cond.methodLink own index ⟨ad, "clone", "()Ljava/lang/Object;"⟩).before a0 Z = true) (w2 : (Jvm.Cond.sameMethod ad "java/lang/Object" "clone" "()Ljava/lang/Object;").before a0 Z = true) (w3 : (Jvm.Cond.native ⟨"java/lang/Object", "clone", "()Ljava/lang/Object;"⟩).before a0 Z = true)
    (w4 : (Jvm.Cond.instanceMethod ⟨"java/lang/Object", "clone", "()Ljava/lang/Object;"⟩).before a0 Z = true) (w5 : (Jvm.Cond.selects ad ⟨ad, "clone", "()Ljava/lang/Object;"⟩ ⟨"java/lang/Object", "clone", "()Ljava/lang/Object;"⟩).before a0 Z = true) (w6 : (Jvm.Cond.castable ad "java/lang/Cloneable").before a0 Z = true)
    (F : Arf Z h a ty n f) (hfit : ∀ i, i < n → fits ty (f i) = true) (E : Exa Z h a ad) (cap : Nat) (hcap : n ≤ cap) (hW : (S.map fun v => v.category).sum = W) (hLs : L.size = mx) (hf : 1 ≤ R.frames) (hl : W + 14 ≤ R.locals) (hc : cells + 1 ≤ R.cells) (hsl : slots + cap ≤ R.slots) :
    ∃ (h' : Heap) (b : Addr), b = h.size ∧ Ext h h' ∧ Arf Z h' b ty n f ∧ Exa Z h' b ad ∧ Run C R Z n0 own nm ret bytes mx (b :: sf) h' (cells + 1) (slots + cap) (pc + 3) L (.ref b :: S) := by
  obtain ⟨hx, hby, hml, hnm, hrt, hlk, vm0, k0, hS, hk, hown, hZ, hEW, hC, hF, T, locs, X, N, eT, st⟩ := K
  obtain ⟨cl, Ar, Sz, H⟩ := F
  subst Sz
  have FC : FitC Z cl := fitC_of Ar fun i hi v hv => by rw [H i hi] at hv; cases hv; exact hfit i hi
  obtain ⟨T', h', X', e', ex, A', E', st'⟩ := cloneA X hx hZ hown w1 w2 w3 w4 w5 w6 eT Ar E FC (g := mkF C.2.2.2.2.1 pc L (.ref a :: S)) rfl (by rw [hml]; exact hLs) rfl (hb hby hd) hf (W := W) (cap := cap) (by show 2 * 0 + _ ≤ _; omega) hl hcap hc hsl
  exact ⟨h', _, rfl, ex, ⟨cloneOf cl, A', rfl, H⟩, E', hx, hby, hml, hnm, hrt, hlk, vm0, k0, hS, Nat.le_trans hk ex.1, hown, hZ, hEW, hC.trans (CHr.ext ex hC.1), hF.new ex A'.lt hC.1, T', _, X', N, e', fun t kt => st t (st' t kt)⟩
theorem Run.instY {a0 : Array Value} {index : Nat} {Kl : String} {a : Addr} (K : Run C R Z n0 own nm ret bytes mx sf h cells slots pc L (.ref a :: S)) (hd : decode bytes pc = .ok (.instanceof index, 3)) (w : (Jvm.Cond.classLink own index Kl).before a0 Z = true) (F : Ins Z h a Kl true) : Run C R Z n0 own nm ret bytes mx sf h cells slots (pc + 3) L (.int (1 : Int32) :: S) := by
  obtain ⟨hx, hby, hml, hnm, hrt, hlk, vm0, k0, hS, hk, hown, hZ, hEW, hC, hF, T, locs, X, N, eT, st⟩ := K
  obtain ⟨T', X', e', st'⟩ := RoadKit.instY X hx hZ hown w eT F (g := mkF C.2.2.2.2.1 pc L (.ref a :: S)) rfl rfl (hb hby hd)
  exact ⟨hx, hby, hml, hnm, hrt, hlk, vm0, k0, hS, hk, hown, hZ, hEW, hC, hF, T', locs, X', N, e', fun t kt => st t (st' t kt)⟩
theorem Run.instNull {index : Nat} (K : Run C R Z n0 own nm ret bytes mx sf h cells slots pc L (.null :: S)) (hd : decode bytes pc = .ok (.instanceof index, 3)) : Run C R Z n0 own nm ret bytes mx sf h cells slots (pc + 3) L (.int (0 : Int32) :: S) := by
  obtain ⟨hx, hby, hml, hnm, hrt, hlk, vm0, k0, hS, hk, hown, hZ, hEW, hC, hF, T, locs, X, N, eT, st⟩ := K
  exact ⟨hx, hby, hml, hnm, hrt, hlk, vm0, k0, hS, hk, hown, hZ, hEW, hC, hF, T, locs, X, N, eT, fun t kt => st t (X.instanceofNull hx (g := mkF C.2.2.2.2.1 pc L (.null :: S)) rfl rfl (hb hby hd) t kt)⟩
theorem Run.instNo {a0 : Array Value} {index : Nat} {Cl Kl : String} {a : Addr} (K : Run C R Z n0 own nm ret bytes mx sf h cells slots pc L (.ref a :: S)) (hd : decode bytes pc = .ok (.instanceof index, 3)) (w : (Jvm.Cond.classLink own index Kl).before a0 Z = true) (E : Exa Z h a Cl) (F : ∃ c t, Z.vm.findClass Cl = some c ∧ Z.vm.findClass Kl = some t ∧ Z.vm.assignable c t = false) : Run C R Z n0 own nm ret bytes mx sf h cells slots (pc + 3) L (.int (0 : Int32) :: S) := by
  obtain ⟨hx, hby, hml, hnm, hrt, hlk, vm0, k0, hS, hk, hown, hZ, hEW, hC, hF, T, locs, X, N, eT, st⟩ := K
  obtain ⟨T', X', e', st'⟩ := RoadKit.instNo X hx hZ hown w eT E F (g := mkF C.2.2.2.2.1 pc L (.ref a :: S)) rfl rfl (hb hby hd)
  exact ⟨hx, hby, hml, hnm, hrt, hlk, vm0, k0, hS, hk, hown, hZ, hEW, hC, hF, T', locs, X', N, e', fun t kt => st t (st' t kt)⟩
theorem Run.castNull {index : Nat} (K : Run C R Z n0 own nm ret bytes mx sf h cells slots pc L (.null :: S)) (hd : decode bytes pc = .ok (.checkcast index, 3)) : Run C R Z n0 own nm ret bytes mx sf h cells slots (pc + 3) L (.null :: S) := by
  obtain ⟨hx, hby, hml, hnm, hrt, hlk, vm0, k0, hS, hk, hown, hZ, hEW, hC, hF, T, locs, X, N, eT, st⟩ := K
  exact ⟨hx, hby, hml, hnm, hrt, hlk, vm0, k0, hS, hk, hown, hZ, hEW, hC, hF, T, locs, X, N, eT, fun t kt => st t (X.checkcastNull hx (g := mkF C.2.2.2.2.1 pc L (.null :: S)) rfl rfl (hb hby hd) t kt)⟩
theorem Run.lswHit {x : Int32} {dflt : Int} {pairs : Array (Int × Int)} {len : Nat} {b off : Int} {pc' : Nat} (K : Run C R Z n0 own nm ret bytes mx sf h cells slots pc L (.int x :: S)) (hd : decode bytes pc = .ok (.lookupswitch dflt pairs, len)) (hsorted : (pairs.toList.zip (pairs.toList.drop 1)).all (fun (a, next) => a.1 < next.1) = true) (hfind : pairs.find? (·.1 == x.toInt) = some (b, off)) (ho : 0 ≤ (pc : Int) + off) (hp : ((pc : Int) + off).toNat = pc') : Run C R Z n0 own nm ret bytes mx sf h cells slots pc' L S := by
  obtain ⟨hx, hby, hml, hnm, hrt, hlk, vm0, k0, hS, hk, hown, hZ, hEW, hC, hF, T, locs, X, N, eT, st⟩ := K
  subst hp
  exact ⟨hx, hby, hml, hnm, hrt, hlk, vm0, k0, hS, hk, hown, hZ, hEW, hC, hF, T, locs, X, N, eT, fun t kt => st t (X.lookupswitchHit hx (g := mkF C.2.2.2.2.1 pc L (.int x :: S)) rfl rfl (hb hby hd) hsorted hfind ho t kt)⟩
theorem Run.lswMiss {x : Int32} {dflt : Int} {pairs : Array (Int × Int)} {len : Nat} {pc' : Nat} (K : Run C R Z n0 own nm ret bytes mx sf h cells slots pc L (.int x :: S)) (hd : decode bytes pc = .ok (.lookupswitch dflt pairs, len)) (hsorted : (pairs.toList.zip (pairs.toList.drop 1)).all (fun (a, next) => a.1 < next.1) = true) (hfind : ∀ p ∈ pairs.toList, p.1 ≠ x.toInt) (ho : 0 ≤ (pc : Int) + dflt) (hp : ((pc : Int) + dflt).toNat = pc') : Run C R Z n0 own nm ret bytes mx sf h cells slots pc' L S := by
  obtain ⟨hx, hby, hml, hnm, hrt, hlk, vm0, k0, hS, hk, hown, hZ, hEW, hC, hF, T, locs, X, N, eT, st⟩ := K
  subst hp
  exact ⟨hx, hby, hml, hnm, hrt, hlk, vm0, k0, hS, hk, hown, hZ, hEW, hC, hF, T, locs, X, N, eT, fun t kt => st t (X.lookupswitchMiss hx (g := mkF C.2.2.2.2.1 pc L (.int x :: S)) rfl rfl (hb hby hd) hsorted (find_miss hfind) ho t kt)⟩
theorem Run.ldcLit {a0 : Array Value} {index : Nat} {text : String} (K : Run C R Z n0 own nm ret bytes mx sf h cells slots pc L S) (hd : decode bytes pc = .ok (.ldc index, 2)) (w : (Jvm.Cond.stringLink own index text).before a0 Z = true) (wS : ∀ a ∈ Bundle.stringAtoms, a.before a0 Z = true) (hEL : EW Z a0 EL) (hmem : (own, index) ∈ EL) (vs : List Int32) (ht : (∀ c ∈ text.toList, c.toNat < 256) ∧ text.toList.map (fun c => Value.int (Jvm.Lit.byteI c.toNat.toUInt16)) = vs.map Value.int) (z : Int32) (hz : ¬ z < 0) (hl : z.toNatClampNeg = (vs.map Value.int).length) (n : Nat) (hn : 4 * text.toList.length ≤ n) (hbig : n ≤ 536870912) (hc : cells + 2 ≤ R.cells) (hl' : slots + (n + 4) ≤ R.slots) :
    ∃ (h' : Heap) (a b : Addr), Ext h h' ∧ Exa Z h' a "java/lang/String" ∧ Fld Z h' a "java/lang/String" "coder" "B" (.int (0 : Int32)) ∧ Fld Z h' a "java/lang/String" "value" "[B" (.ref b) ∧ Arf Z h' b .byte vs.length (fun i => .int (vs.getD i 0)) ∧ (∀ x ∈ sf, x ≠ a ∧ x ≠ b) ∧ Run C R Z n0 own nm ret bytes mx sf h' (cells + 2) (slots + (n + 4)) (pc + 2) L (.ref a :: S) := by
  obtain ⟨hx, hby, hml, hnm, hrt, hlk, vm0, k0, hS, hk, hown, hZ, hEW, hC, hF, T, locs, X, N, eT, st⟩ := K
  obtain ⟨a, T', h', k1, b, kc, X', e', E', hS', hk', hZ', hown', x1, x2, x3, x4, -, -, hR, -, hne, st'⟩ := RoadKit.ldcCH X hx hZ hown w wS eT hS hk hEL hmem hC.1 ht hz hl (g := mkF C.2.2.2.2.1 pc L S) rfl (hb hby hd) hn hbig hc hl'
  have hF' := hF.call hR
  refine ⟨h', a, b, E', x1, x2, x3, ?_, fun x hx => hne x (hF' x hx).1, hx, hby, hml, hnm, hrt, hlk, _, k1, hS', hk', hown', hZ', hEW, hC.trans hR, hF', T', _, X', N, e', fun t kt => st t (st' t kt)⟩
  obtain ⟨cl, Ar, -, Sz, -, H, -⟩ := x4
  have e1 : cl.slots.size = vs.length := by rw [Sz, hl, List.length_map]
  refine ⟨cl, Ar, e1, fun i hi => ?_⟩
  rw [H i (by rw [e1]; exact hi), List.getD_map_int]
theorem Run.sfx (K : Run C R Z n0 own nm ret bytes mx sf h cells slots pc L S) (sf' : List Addr) (q : sf = sf') : Run C R Z n0 own nm ret bytes mx sf' h cells slots pc L S := q ▸ K
theorem Run.weak {n1 : Nat} (K : Run C R Z n1 own nm ret bytes mx sf h cells slots pc L S) (q : n0 ≤ n1) : Run C R Z n0 own nm ret bytes mx sf h cells slots pc L S := by
  obtain ⟨hx, hby, hml, hnm, hrt, hlk, vm0, k0, hS, hk, hown, hZ, hEW, hC, hF, T, locs, X, N, eT, st⟩ := K
  exact ⟨hx, hby, hml, hnm, hrt, hlk, vm0, k0, hS, hk, hown, hZ, hEW, hC, hF, T, locs, X, fun y hy => Nat.le_trans q (N y hy), eT, st⟩
end Steps
end Jvm.Own



namespace Jvm.Pilot.@@N@@
open Jvm Jvm.ClassFile Sem Op Lib Jvm.Free Jvm.Stand Jvm.LawKit Jvm.RoadKit Jvm.Own Bundle Jvm.Pilot.@@N@@.Jvm.D
theorem pd_0 : parseMethodDescriptor "(C)Z" = some ⟨[.char], some .boolean⟩ := by decide +kernel
theorem pd_1 : parseMethodDescriptor "(C)[B" = some ⟨[.char], some (.array .byte)⟩ := by decide +kernel
theorem pd_2 : parseMethodDescriptor "([BB)V" = some ⟨[(.array .byte), .byte], none⟩ := by decide +kernel
theorem pd_3 : parseMethodDescriptor "([CI[BII)I" = some ⟨[(.array .char), .int, (.array .byte), .int, .int], some .int⟩ := by decide +kernel
theorem pd_4 : parseMethodDescriptor "([CII)[B" = some ⟨[(.array .char), .int, .int], some (.array .byte)⟩ := by decide +kernel
theorem pd_5 : parseMethodDescriptor "([BI)B" = some ⟨[(.array .byte), .int], some .byte⟩ := by decide +kernel
theorem pd_6 : parseMethodDescriptor "([CIILjava/lang/Void;)V" = some ⟨[(.array .char), .int, .int, (.object "java/lang/Void")], none⟩ := by decide +kernel
theorem pd_7 : parseMethodDescriptor "([C)V" = some ⟨[(.array .char)], none⟩ := by decide +kernel
theorem pd_8 : parseMethodDescriptor "(C)Ljava/lang/String;" = some ⟨[.char], some (.object "java/lang/String")⟩ := by decide +kernel
theorem pd_9 : parseMethodDescriptor "([B[B)Z" = some ⟨[(.array .byte), (.array .byte)], some .boolean⟩ := by decide +kernel
theorem pd_10 : parseMethodDescriptor "(Ljava/lang/Object;)Z" = some ⟨[(.object "java/lang/Object")], some .boolean⟩ := by decide +kernel
theorem pd_11 : parseMethodDescriptor "(I)Lcom/example/lieudit/lieudit/Rule;" = some ⟨[.int], some (.object "com/example/lieudit/lieudit/Rule")⟩ := by decide +kernel
theorem pd_12 : parseMethodDescriptor "(ICCC)Ljava/lang/String;" = some ⟨[.int, .char, .char, .char], some (.object "java/lang/String")⟩ := by decide +kernel
theorem pd_13 : parseMethodDescriptor "(Lcom/example/lieudit/lieudit/Rule;Ljava/lang/String;)V" = some ⟨[(.object "com/example/lieudit/lieudit/Rule"), (.object "java/lang/String")], none⟩ := by decide +kernel

section Narrow
variable {args : Array Value} {first s : State} {o : Option Outcome} {idx : List Nat} {t u : Term}
theorem own_eqv {n : Int32} (h : (Jvm.Cond.eq t (.int n)).value args first o s idx = some true) : t.eval args first o idx s = some (.int n) := by
  cases ht : t.eval args first o idx s with
  | none => simp [Cond.value, ht] at h
  | some x => cases x <;> simp [Cond.value, Term.int_eval, ht] at h ⊢; exact h
theorem own_ne0 {z n : Int32} (ev : t.eval args first o idx s = some (.int z)) (h : (Jvm.Cond.eq t (.int n)).value args first o s idx = some false) : ¬ (z = n) := by
  intro q; subst q
  simp [Cond.value, Term.int_eval, ev] at h
theorem own_eqr {b : Addr} (hu : u.eval args first o idx s = some (.ref b)) (h : (Jvm.Cond.eq t u).value args first o s idx = some true) : t.eval args first o idx s = some (.ref b) := by
  cases ht : t.eval args first o idx s with
  | none => simp [Cond.value, ht] at h
  | some x => cases x <;> simp [Cond.value, hu, ht] at h ⊢; exact h
theorem own_len {a : Addr} {cl : Cell} {ty : FieldType} {n : Int32} {k : Nat} (ev : t.eval args s none [] s = some (.ref a)) (A : Arr s s.heap a cl ty) (h : (Term.length t).eval args s none [] s = some (.int n)) (hk : n.toInt = (k : Int)) : cl.slots.size = k := by
  have q : s.arrayAt? a = some cl := A.fin (Vm.Alike.refl _)
  simp [Term.eval, ev, q] at h
  have r := len_toInt h.1
  rw [h.2, hk] at r
  omega
end Narrow
def own_arr (l : List Int32) (i : Nat) : Value := .int (l.getD i 0)
theorem own_i2b (x : Int32) : x.toInt8.toInt32.toInt8.toInt32 = x.toInt8.toInt32 := by simp
theorem own_i2c (x : Int32) : x.toUInt32.toUInt16.toUInt32.toInt32.toUInt32.toUInt16.toUInt32.toInt32 = x.toUInt32.toUInt16.toUInt32.toInt32 := by
  have h1 := c_i2c x
  have h2 := c_i2c x.toUInt32.toUInt16.toUInt32.toInt32
  rw [← Int32.toInt_inj]
  omega
theorem own_cg1 {f : Nat → Value} {v0 : Int32} (i : Nat) (hi : i < 1) : (updV f 0 (.int v0)) i = own_arr [v0] i := by
  match i, hi with
  | 0, _ => rfl
theorem own_cg2 {f : Nat → Value} {v0 v1 : Int32} (i : Nat) (hi : i < 2) : (updV (updV f 0 (.int v0)) 1 (.int v1)) i = own_arr [v0, v1] i := by
  match i, hi with
  | 0, _ => rfl
  | 1, _ => rfl
theorem own_cg3 {f : Nat → Value} {v0 v1 v2 : Int32} (i : Nat) (hi : i < 3) : (updV (updV (updV f 0 (.int v0)) 1 (.int v1)) 2 (.int v2)) i = own_arr [v0, v1, v2] i := by
  match i, hi with
  | 0, _ => rfl
  | 1, _ => rfl
  | 2, _ => rfl
def own_rule (p1 : Int32) (a_INDICATOR_INVALID a_SUBFIELD_UNDEFINED a_SUBFIELD_REPEATED a_SOURCE_MISSING a_ORDER a_FINAL_STOP a_RECORD_DAMAGED : Addr) : Addr := (if p1 = (0 : Int32) then (a_INDICATOR_INVALID) else (if p1 = (1 : Int32) then (a_SUBFIELD_UNDEFINED) else (if p1 = (2 : Int32) then (a_SUBFIELD_REPEATED) else (if p1 = (3 : Int32) then (a_SOURCE_MISSING) else (if p1 = (4 : Int32) then (a_ORDER) else (if p1 = (5 : Int32) then (a_FINAL_STOP) else (a_RECORD_DAMAGED)))))))
theorem own_sa : ∀ a ∈ Bundle.stringAtoms, a ∈ tables_1 := by decide +kernel
theorem own_EW {Z : State} {a0 : Array Value} (hw : ∀ d ∈ tables_1, d.before a0 Z = true) : EW Z a0 EL := EW.cons (hw _ (List.mem_of_getElem? (i := 47) rfl)) (by decide) EW.nil
def own_small (z : Int32) (n : Nat) : Prop := (z = 0 ∧ n = 0) ∨ (z = 1 ∧ n = 1) ∨ (z = 2 ∧ n = 2) ∨ (z = 3 ∧ n = 3)
theorem own_s3 {z : Int32} (h : z = 0 ∨ z = 1 ∨ z = 2 ∨ z = 3) (h0 : ¬ z = 0) (h1 : ¬ z = 1) (h2 : ¬ z = 2) : own_small z 3 := by
  rcases h with h | h | h | h
  · exact absurd h h0
  · exact absurd h h1
  · exact absurd h h2
  · exact Or.inr (Or.inr (Or.inr ⟨h, rfl⟩))
def own_ch (c : Int32) : Prop := 0 ≤ c.toInt ∧ c.toInt ≤ 255
theorem own_cp {c : Int32} (h : own_ch c) : ¬ ((255 : Int32) < c) := by
  have e : (255 : Int32).toInt = 255 := by decide
  rw [Int32.lt_iff_toInt_lt, e]
  have := h.2
  omega
theorem own_ci {c : Int32} (h : own_ch c) : c.toUInt32.toUInt16.toUInt32.toInt32 = c := by
  have g := c_i2c c
  obtain ⟨h1, h2⟩ := h
  rw [← Int32.toInt_inj]
  omega
theorem own_and3 (x y : Int32) (h : y = x &&& (3 : Int32)) : y = 0 ∨ y = 1 ∨ y = 2 ∨ y = 3 := by
  have h1 := c_mask x 3 2 (by decide) (by decide)
  rw [← h] at h1
  simp only [← Int32.toInt_inj]
  have e0 : (0 : Int32).toInt = 0 := by decide
  have e1 : (1 : Int32).toInt = 1 := by decide
  have e2 : (2 : Int32).toInt = 2 := by decide
  have e3 : (3 : Int32).toInt = 3 := by decide
  have p : (2 ^ 2 : Nat) = 4 := by decide
  rw [e0, e1, e2, e3]
  rw [p] at h1
  omega
theorem own_ln (x : Int64) (y : Int32) (h : y = (x &&& (3 : Int64)).toInt32) : y = 0 ∨ y = 1 ∨ y = 2 ∨ y = 3 := by
  refine own_and3 x.toInt32 y (h.trans ?_)
  rw [Int64.toInt32_and]; rfl
theorem own_chm (x : Int64) : own_ch (x &&& (255 : Int64)).toInt32.toUInt32.toUInt16.toUInt32.toInt32 := by
  have e : (x &&& (255 : Int64)).toInt32 = x.toInt32 &&& 255 := by rw [Int64.toInt32_and]; rfl
  rw [e]
  have h1 := c_mask x.toInt32 255 8 (by decide) (by decide)
  have h2 := c_i2c (x.toInt32 &&& 255)
  have p : (2 ^ 8 : Nat) = 256 := by decide
  rw [p] at h1
  unfold own_ch
  omega
theorem own_ite {P : Int32 → Prop} {c : Prop} [Decidable c] {a b : Int32} (h1 : P a) (h2 : P b) : P (if c then a else b) := by split <;> assumption
def own_r7 (x : Int32) : Prop := x = 0 ∨ x = 1 ∨ x = 2 ∨ x = 3 ∨ x = 4 ∨ x = 5 ∨ x = 6
theorem own_mod7 (x : Int32) : own_r7 ((x &&& (2147483647 : Int32)) % (7 : Int32)) := by
  have h1 := c_mask x 2147483647 31 (by decide) (by decide)
  have h2 := (c_irem (x &&& 2147483647) 7 7 (by decide)).1 (by rw [h1]; omega)
  unfold own_r7
  simp only [← Int32.toInt_inj]
  have e0 : (0 : Int32).toInt = 0 := by decide
  have e1 : (1 : Int32).toInt = 1 := by decide
  have e2 : (2 : Int32).toInt = 2 := by decide
  have e3 : (3 : Int32).toInt = 3 := by decide
  have e4 : (4 : Int32).toInt = 4 := by decide
  have e5 : (5 : Int32).toInt = 5 := by decide
  have e6 : (6 : Int32).toInt = 6 := by decide
  rw [e0, e1, e2, e3, e4, e5, e6]
  omega
theorem own_cx0 {f : Nat → Value} {a b c : Int32} (i : Nat) (hi : i < 0) : f i = own_arr [a, b, c] i := absurd hi (Nat.not_lt_zero _)
theorem own_cx1 {a b c : Int32} (i : Nat) (hi : i < 1) : own_arr [a] i = own_arr [a, b, c] i := by
  match i, hi with
  | 0, _ => rfl
theorem own_cx2 {a b c : Int32} (i : Nat) (hi : i < 2) : own_arr [a, b] i = own_arr [a, b, c] i := by
  match i, hi with
  | 0, _ => rfl
  | 1, _ => rfl
def own_eqs (z1 x0 x1 x2 z2 y0 y1 y2 : Int32) : Int32 := if z1 = z2 then (if z1 = 0 then 1 else if x0 = y0 then (if z1 = 1 then 1 else if x1 = y1 then (if z1 = 2 then 1 else if x2 = y2 then 1 else 0) else 0) else 0) else 0
theorem own_e01 (z1 x0 x1 x2 z2 y0 y1 y2 : Int32) : own_eqs z1 x0 x1 x2 z2 y0 y1 y2 = 0 ∨ own_eqs z1 x0 x1 x2 z2 y0 y1 y2 = 1 := by
  unfold own_eqs
  repeat' split
  all_goals simp
def own_fe (r1 r2 : Addr) (z1 x0 x1 x2 z2 y0 y1 y2 : Int32) : Int32 := if r1 = r2 then own_eqs z1 x0 x1 x2 z2 y0 y1 y2 else 0
theorem own_fe_symm (r1 r2 : Addr) (z1 x0 x1 x2 z2 y0 y1 y2 : Int32) : own_fe r2 r1 z2 y0 y1 y2 z1 x0 x1 x2 = own_fe r1 r2 z1 x0 x1 x2 z2 y0 y1 y2 := by
  unfold own_fe own_eqs
  by_cases h : z1 = z2
  · subst h
    simp only [@eq_comm _ r2 r1, @eq_comm _ y0 x0, @eq_comm _ y1 x1, @eq_comm _ y2 x2]
  · rw [if_neg h, if_neg (Ne.symm h)]
    simp
theorem own_ruleP {P : Addr → Prop} (x : Int32) {a_INDICATOR_INVALID a_SUBFIELD_UNDEFINED a_SUBFIELD_REPEATED a_SOURCE_MISSING a_ORDER a_FINAL_STOP a_RECORD_DAMAGED : Addr} (h0 : P a_INDICATOR_INVALID) (h1 : P a_SUBFIELD_UNDEFINED) (h2 : P a_SUBFIELD_REPEATED) (h3 : P a_SOURCE_MISSING) (h4 : P a_ORDER) (h5 : P a_FINAL_STOP) (h6 : P a_RECORD_DAMAGED) : P (own_rule x a_INDICATOR_INVALID a_SUBFIELD_UNDEFINED a_SUBFIELD_REPEATED a_SOURCE_MISSING a_ORDER a_FINAL_STOP a_RECORD_DAMAGED) := by
  unfold own_rule
  repeat' split
  all_goals assumption
theorem own_ruleO {Z : State} {h : Heap} {x : Int32} (hr : own_r7 x) {a_INDICATOR_INVALID a_SUBFIELD_UNDEFINED a_SUBFIELD_REPEATED a_SOURCE_MISSING a_ORDER a_FINAL_STOP a_RECORD_DAMAGED : Addr} (h0 : Fld Z h a_INDICATOR_INVALID "java/lang/Enum" "ordinal" "I" (.int (0 : Int32))) (h1 : Fld Z h a_SUBFIELD_UNDEFINED "java/lang/Enum" "ordinal" "I" (.int (1 : Int32))) (h2 : Fld Z h a_SUBFIELD_REPEATED "java/lang/Enum" "ordinal" "I" (.int (2 : Int32))) (h3 : Fld Z h a_SOURCE_MISSING "java/lang/Enum" "ordinal" "I" (.int (3 : Int32))) (h4 : Fld Z h a_ORDER "java/lang/Enum" "ordinal" "I" (.int (4 : Int32))) (h5 : Fld Z h a_FINAL_STOP "java/lang/Enum" "ordinal" "I" (.int (5 : Int32))) (h6 : Fld Z h a_RECORD_DAMAGED "java/lang/Enum" "ordinal" "I" (.int (6 : Int32))) : Fld Z h (own_rule x a_INDICATOR_INVALID a_SUBFIELD_UNDEFINED a_SUBFIELD_REPEATED a_SOURCE_MISSING a_ORDER a_FINAL_STOP a_RECORD_DAMAGED) "java/lang/Enum" "ordinal" "I" (.int x) := by
  rcases hr with rfl | rfl | rfl | rfl | rfl | rfl | rfl
  · exact h0
  · exact h1
  · exact h2
  · exact h3
  · exact h4
  · exact h5
  · exact h6
theorem own_rinj {Z : State} {h : Heap} {a b : Addr} {x y : Int32} (h1 : Fld Z h a "java/lang/Enum" "ordinal" "I" (.int x)) (h2 : Fld Z h b "java/lang/Enum" "ordinal" "I" (.int y)) : a = b → x = y := fun q => by
  by_cases e : x = y
  · exact e
  · exact absurd q (Fld.ne h1 h2 (fun z => e (Value.int.inj z)))
theorem own_binj {c d : Int32} (h : own_ch c) (h' : own_ch d) : (c.toInt8.toInt32 = d.toInt8.toInt32) = (c = d) := by
  have g := c_i2b c
  have g' := c_i2b d
  obtain ⟨h1, h2⟩ := h
  obtain ⟨h3, h4⟩ := h'
  simp only [← Int32.toInt_inj]
  refine propext ⟨fun _ => by omega, fun q => ?_⟩
  rw [Int32.toInt_inj] at q
  rw [q]
def own_same (x9 x10 x11 x12 x13 x14 x15 x16 : Int32) : Int32 := (if x9 = x13 then (if x9 < (1 : Int32) then (if x9 < (2 : Int32) then (if x9 < (3 : Int32) then (1 : Int32) else (if x12 = x16 then (1 : Int32) else (0 : Int32))) else (if x11 = x15 then (if x9 < (3 : Int32) then (1 : Int32) else (if x12 = x16 then (1 : Int32) else (0 : Int32))) else (0 : Int32))) else (if x10 = x14 then (if x9 < (2 : Int32) then (if x9 < (3 : Int32) then (1 : Int32) else (if x12 = x16 then (1 : Int32) else (0 : Int32))) else (if x11 = x15 then (if x9 < (3 : Int32) then (1 : Int32) else (if x12 = x16 then (1 : Int32) else (0 : Int32))) else (0 : Int32))) else (0 : Int32))) else (0 : Int32))
def own_ex (x7 x8 s25 : Int32) : Int32 := (if x7 = x8 then (if s25 = (0 : Int32) then (0 : Int32) else (1 : Int32)) else (0 : Int32))
theorem own_law1 {x9 x10 x11 x12 x13 x14 x15 x16 : Int32} (hl9 : x9 = 0 ∨ x9 = 1 ∨ x9 = 2 ∨ x9 = 3) (hl13 : x13 = 0 ∨ x13 = 1 ∨ x13 = 2 ∨ x13 = 3) (hk10 : own_ch x10) (hk11 : own_ch x11) (hk12 : own_ch x12) (hk14 : own_ch x14) (hk15 : own_ch x15) (hk16 : own_ch x16) :
    own_eqs x9 x10.toInt8.toInt32 x11.toInt8.toInt32 x12.toInt8.toInt32 x13 x14.toInt8.toInt32 x15.toInt8.toInt32 x16.toInt8.toInt32 = own_same x9 x10 x11 x12 x13 x14 x15 x16 := by
  unfold own_eqs own_same
  simp only [own_binj hk10 hk14, own_binj hk11 hk15, own_binj hk12 hk16]
  rcases hl9 with rfl | rfl | rfl | rfl <;> rcases hl13 with rfl | rfl | rfl | rfl <;> simp <;> (repeat' split) <;> simp_all
theorem own_s01 (x9 x10 x11 x12 x13 x14 x15 x16 : Int32) : own_same x9 x10 x11 x12 x13 x14 x15 x16 = 0 ∨ own_same x9 x10 x11 x12 x13 x14 x15 x16 = 1 := by
  unfold own_same
  repeat' split
  all_goals simp
theorem own_law0 {r18 r19 : Addr} {x7 x8 s25 x26 x9 x10 x11 x12 x13 x14 x15 x16 : Int32} (hr : r18 = r19 → x7 = x8) (hr' : x7 = x8 → r18 = r19) (hl9 : x9 = 0 ∨ x9 = 1 ∨ x9 = 2 ∨ x9 = 3) (hl13 : x13 = 0 ∨ x13 = 1 ∨ x13 = 2 ∨ x13 = 3) (hk10 : own_ch x10) (hk11 : own_ch x11) (hk12 : own_ch x12) (hk14 : own_ch x14) (hk15 : own_ch x15) (hk16 : own_ch x16) (hs : s25 = own_same x9 x10 x11 x12 x13 x14 x15 x16) (hx : x26 = own_ex x7 x8 s25) :
    own_fe r18 r19 x9 x10.toInt8.toInt32 x11.toInt8.toInt32 x12.toInt8.toInt32 x13 x14.toInt8.toInt32 x15.toInt8.toInt32 x16.toInt8.toInt32 = x26 := by
  have h01 := own_s01 x9 x10 x11 x12 x13 x14 x15 x16
  rw [hx, own_fe, own_law1 hl9 hl13 hk10 hk11 hk12 hk14 hk15 hk16, ← hs]
  rw [← hs] at h01
  unfold own_ex
  by_cases h : x7 = x8
  · rw [if_pos h, if_pos (hr' h)]
    rcases h01 with q | q <;> rw [q] <;> rfl
  · rw [if_neg h, if_neg (fun q => h (hr q))]
theorem own_sub0 {vm : Vm} {c t : ClassId} {k : Class} (ne : c ≠ t) (hk : vm.classes[c]? = some k) (hs : ∀ p, k.super = some p → ∀ f, vm.isSubclassAux f p t = false) (f : Nat) : vm.isSubclassAux f c t = false := by
  match f with
  | 0 => rfl
  | f + 1 =>
    cases q : k.super with
    | none => simp [Vm.isSubclassAux, ne, hk, q]
    | some p => simp [Vm.isSubclassAux, ne, hk, q, hs p q f]
theorem own_asg0 {vm : Vm} {c t : ClassId} {k k' : Class} (ne : c ≠ t) (hk : vm.classes[c]? = some k) (hk' : vm.classes[t]? = some k') (o : k.kind = .ordinary) (o' : k'.kind = .ordinary) (i' : k'.isInterface = false) (hs : ∀ f, vm.isSubclassAux f c t = false) : vm.assignable c t = false := by
  have e : vm.isSubclass c t = false := by simp [Vm.isSubclass, hs]
  have d : vm.assignable c t = vm.assignableAux (255 + 1) c t := rfl
  rw [d]
  simp [Vm.assignableAux, ne, hk, hk', o, o', i', e]
theorem own_inst {Z : State} {a0 : Array Value} {K : String} {n : Nat} (wk : (Jvm.Cond.instantiable K n).before a0 Z = true) : ∃ t k, Z.vm.findClass K = some t ∧ Z.vm.classes[t]? = some k ∧ k.kind = .ordinary ∧ k.isInterface = false := by
  obtain ⟨t, k, h1, h2, h3, h4, -⟩ := Cond.instantiable_spec wk
  exact ⟨t, k, h1, h2, h3, (Bool.or_eq_false_iff.mp h4).1⟩
theorem own_nsroot {Z : State} {a0 : Array Value} {O K : String} {n : Nat} (w : (Jvm.Cond.noSuperclass O).before a0 Z = true) (wk : (Jvm.Cond.instantiable K n).before a0 Z = true) (hn : O ≠ K) : NS Z O K := by
  obtain ⟨t, -, ht, -⟩ := own_inst wk
  obtain ⟨c, k, hc, hk, hs, -⟩ := Cond.noSuperclass_spec w
  exact ⟨c, t, hc, ht, own_sub0 (ids_ne hc ht hn) hk (fun p q => by rw [hs] at q; cases q)⟩
theorem own_nsstep {Z : State} {a0 : Array Value} {C S K : String} (w : (Jvm.Cond.superclass C S).before a0 Z = true) (n : NS Z S K) (hn : C ≠ K) : NS Z C K := NS.step w n hn
theorem own_nsno {Z : State} {a0 : Array Value} {C S K : String} {n : Nat} (w : (Jvm.Cond.superclass C S).before a0 Z = true) (wk : (Jvm.Cond.instantiable K n).before a0 Z = true) (m : NS Z C K) (hn : C ≠ K) : ∃ c t, Z.vm.findClass C = some c ∧ Z.vm.findClass K = some t ∧ Z.vm.assignable c t = false := by
  obtain ⟨t, kt, ht, hkt, ot, it⟩ := own_inst wk
  obtain ⟨c, t', hc, ht', hs⟩ := m
  cases ht.symm.trans ht'
  obtain ⟨-, k, -, -, hk, -, -, ok, -⟩ := Cond.superclass_spec hc w
  exact ⟨c, t, hc, ht, own_asg0 (ids_ne hc ht hn) hk hkt ok ot it hs⟩
theorem d1_0 : decode method_2_code 0 = .ok (.iload_n 0, 1) := by decide +kernel
theorem d1_1 : decode method_2_code 1 = .ok (.ifCond .ne 7, 3) := by decide +kernel
theorem d1_4 : decode method_2_code 4 = .ok (.getstatic 7, 3) := by decide +kernel
theorem d1_7 : decode method_2_code 7 = .ok (.areturn, 1) := by decide +kernel
theorem d1_8 : decode method_2_code 8 = .ok (.iload_n 0, 1) := by decide +kernel
theorem d1_9 : decode method_2_code 9 = .ok (.iconst 1, 1) := by decide +kernel
theorem d1_10 : decode method_2_code 10 = .ok (.if_icmp .ne 7, 3) := by decide +kernel
theorem d1_13 : decode method_2_code 13 = .ok (.getstatic 13, 3) := by decide +kernel
theorem d1_16 : decode method_2_code 16 = .ok (.areturn, 1) := by decide +kernel
theorem d1_17 : decode method_2_code 17 = .ok (.iload_n 0, 1) := by decide +kernel
theorem d1_18 : decode method_2_code 18 = .ok (.iconst 2, 1) := by decide +kernel
theorem d1_19 : decode method_2_code 19 = .ok (.if_icmp .ne 7, 3) := by decide +kernel
theorem d1_22 : decode method_2_code 22 = .ok (.getstatic 16, 3) := by decide +kernel
theorem d1_25 : decode method_2_code 25 = .ok (.areturn, 1) := by decide +kernel
theorem d1_26 : decode method_2_code 26 = .ok (.iload_n 0, 1) := by decide +kernel
theorem d1_27 : decode method_2_code 27 = .ok (.iconst 3, 1) := by decide +kernel
theorem d1_28 : decode method_2_code 28 = .ok (.if_icmp .ne 7, 3) := by decide +kernel
theorem d1_31 : decode method_2_code 31 = .ok (.getstatic 19, 3) := by decide +kernel
theorem d1_34 : decode method_2_code 34 = .ok (.areturn, 1) := by decide +kernel
theorem d1_35 : decode method_2_code 35 = .ok (.iload_n 0, 1) := by decide +kernel
theorem d1_36 : decode method_2_code 36 = .ok (.iconst 4, 1) := by decide +kernel
theorem d1_37 : decode method_2_code 37 = .ok (.if_icmp .ne 7, 3) := by decide +kernel
theorem d1_40 : decode method_2_code 40 = .ok (.getstatic 22, 3) := by decide +kernel
theorem d1_43 : decode method_2_code 43 = .ok (.areturn, 1) := by decide +kernel
theorem d1_44 : decode method_2_code 44 = .ok (.iload_n 0, 1) := by decide +kernel
theorem d1_45 : decode method_2_code 45 = .ok (.iconst 5, 1) := by decide +kernel
theorem d1_46 : decode method_2_code 46 = .ok (.if_icmp .ne 7, 3) := by decide +kernel
theorem d1_49 : decode method_2_code 49 = .ok (.getstatic 25, 3) := by decide +kernel
theorem d1_52 : decode method_2_code 52 = .ok (.areturn, 1) := by decide +kernel
theorem d1_53 : decode method_2_code 53 = .ok (.getstatic 28, 3) := by decide +kernel
theorem d1_56 : decode method_2_code 56 = .ok (.areturn, 1) := by decide +kernel
set_option maxRecDepth 65536 in
set_option maxHeartbeats 40000000 in
theorem rm1 (Z : State) (a0 : Array Value) (hw : ∀ d ∈ tables_1, d.before a0 Z = true) (p1 : Int32) (a_INDICATOR_INVALID a_SUBFIELD_UNDEFINED a_SUBFIELD_REPEATED a_SOURCE_MISSING a_ORDER a_FINAL_STOP a_RECORD_DAMAGED : Addr) (h0 : Heap) (n0 : Nat) (S_INDICATOR_INVALID : Sta Z h0 "com/example/lieudit/lieudit/Rule" "INDICATOR_INVALID" "Lcom/example/lieudit/lieudit/Rule;" (.ref a_INDICATOR_INVALID)) (S_SUBFIELD_UNDEFINED : Sta Z h0 "com/example/lieudit/lieudit/Rule" "SUBFIELD_UNDEFINED" "Lcom/example/lieudit/lieudit/Rule;" (.ref a_SUBFIELD_UNDEFINED)) (S_SUBFIELD_REPEATED : Sta Z h0 "com/example/lieudit/lieudit/Rule" "SUBFIELD_REPEATED" "Lcom/example/lieudit/lieudit/Rule;" (.ref a_SUBFIELD_REPEATED)) (S_SOURCE_MISSING : Sta Z h0 "com/example/lieudit/lieudit/Rule" "SOURCE_MISSING" "Lcom/example/lieudit/lieudit/Rule;" (.ref a_SOURCE_MISSING)) (S_ORDER : Sta Z h0 "com/example/lieudit/lieudit/Rule" "ORDER" "Lcom/example/lieudit/lieudit/Rule;" (.ref a_ORDER)) (S_FINAL_STOP : Sta Z h0 "com/example/lieudit/lieudit/Rule" "FINAL_STOP" "Lcom/example/lieudit/lieudit/Rule;" (.ref a_FINAL_STOP)) (S_RECORD_DAMAGED : Sta Z h0 "com/example/lieudit/lieudit/Rule" "RECORD_DAMAGED" "Lcom/example/lieudit/lieudit/Rule;" (.ref a_RECORD_DAMAGED)) :
    Con Z n0 (⟨"com/example/lieudit/lieudit/FindingEqualsPinLaw", "rule", "(I)Lcom/example/lieudit/lieudit/Rule;"⟩ : MethodName) method_2_code 1 (some (.object "com/example/lieudit/lieudit/Rule")) [] ({ frames := 0, cells := 0, slots := 0, locals := 0 } : Room) #[(.int p1)] h0 [] (fun v h sp => v = some (.ref (own_rule p1 a_INDICATOR_INVALID a_SUBFIELD_UNDEFINED a_SUBFIELD_REPEATED a_SOURCE_MISSING a_ORDER a_FINAL_STOP a_RECORD_DAMAGED)) ∧ h0 = h) := by
  refine Con.intro (L0 := #[.val (.int p1)]) ⟨_, own_EW hw⟩ (plainFor_of_name (by first | (simp [plainName, overriddenIn]; done) | decide +kernel)) (fun m => by first | (simp [entryFrame, mkF, argsToLocals, Value.category]; done) | rfl) ?_
  intro C k
  replace k := k.iloadN d1_0 rfl
  by_cases hc101 : p1 = (0 : Int32)
  · skip
    replace k := k.ifNo d1_1 (teq hc101).2
    replace k := k.getS d1_4 (host := "") (Or.inl (hw _ (List.mem_of_getElem? (i := 7) rfl))) Via.refl S_INDICATOR_INVALID
    exact k.aret d1_7 rfl rfl rfl rfl (fun sp hsp => ⟨by rw [own_rule, if_pos hc101], rfl⟩) (by decide) (by decide)
  · skip
    replace k := k.ifYes (pc' := 8) d1_1 (feq hc101).2 (by decide) (by decide)
    replace k := k.iloadN d1_8 rfl
    replace k := k.iconst (1 : Int32) d1_9 rfl
    by_cases hc102 : p1 = (1 : Int32)
    · skip
      replace k := k.icmpNo d1_10 (teq hc102).2
      replace k := k.getS d1_13 (host := "") (Or.inl (hw _ (List.mem_of_getElem? (i := 69) rfl))) Via.refl S_SUBFIELD_UNDEFINED
      exact k.aret d1_16 rfl rfl rfl rfl (fun sp hsp => ⟨by rw [own_rule, if_neg hc101, if_pos hc102], rfl⟩) (by decide) (by decide)
    · skip
      replace k := k.icmpYes (pc' := 17) d1_10 (feq hc102).2 (by decide) (by decide)
      replace k := k.iloadN d1_17 rfl
      replace k := k.iconst (2 : Int32) d1_18 rfl
      by_cases hc103 : p1 = (2 : Int32)
      · skip
        replace k := k.icmpNo d1_19 (teq hc103).2
        replace k := k.getS d1_22 (host := "") (Or.inl (hw _ (List.mem_of_getElem? (i := 90) rfl))) Via.refl S_SUBFIELD_REPEATED
        exact k.aret d1_25 rfl rfl rfl rfl (fun sp hsp => ⟨by rw [own_rule, if_neg hc101, if_neg hc102, if_pos hc103], rfl⟩) (by decide) (by decide)
      · skip
        replace k := k.icmpYes (pc' := 26) d1_19 (feq hc103).2 (by decide) (by decide)
        replace k := k.iloadN d1_26 rfl
        replace k := k.iconst (3 : Int32) d1_27 rfl
        by_cases hc104 : p1 = (3 : Int32)
        · skip
          replace k := k.icmpNo d1_28 (teq hc104).2
          replace k := k.getS d1_31 (host := "") (Or.inl (hw _ (List.mem_of_getElem? (i := 88) rfl))) Via.refl S_SOURCE_MISSING
          exact k.aret d1_34 rfl rfl rfl rfl (fun sp hsp => ⟨by rw [own_rule, if_neg hc101, if_neg hc102, if_neg hc103, if_pos hc104], rfl⟩) (by decide) (by decide)
        · skip
          replace k := k.icmpYes (pc' := 35) d1_28 (feq hc104).2 (by decide) (by decide)
          replace k := k.iloadN d1_35 rfl
          replace k := k.iconst (4 : Int32) d1_36 rfl
          by_cases hc105 : p1 = (4 : Int32)
          · skip
            replace k := k.icmpNo d1_37 (teq hc105).2
            replace k := k.getS d1_40 (host := "") (Or.inl (hw _ (List.mem_of_getElem? (i := 82) rfl))) Via.refl S_ORDER
            exact k.aret d1_43 rfl rfl rfl rfl (fun sp hsp => ⟨by rw [own_rule, if_neg hc101, if_neg hc102, if_neg hc103, if_neg hc104, if_pos hc105], rfl⟩) (by decide) (by decide)
          · skip
            replace k := k.icmpYes (pc' := 44) d1_37 (feq hc105).2 (by decide) (by decide)
            replace k := k.iloadN d1_44 rfl
            replace k := k.iconst (5 : Int32) d1_45 rfl
            by_cases hc106 : p1 = (5 : Int32)
            · skip
              replace k := k.icmpNo d1_46 (teq hc106).2
              replace k := k.getS d1_49 (host := "") (Or.inl (hw _ (List.mem_of_getElem? (i := 86) rfl))) Via.refl S_FINAL_STOP
              exact k.aret d1_52 rfl rfl rfl rfl (fun sp hsp => ⟨by rw [own_rule, if_neg hc101, if_neg hc102, if_neg hc103, if_neg hc104, if_neg hc105, if_pos hc106], rfl⟩) (by decide) (by decide)
            · skip
              replace k := k.icmpYes (pc' := 53) d1_46 (feq hc106).2 (by decide) (by decide)
              replace k := k.getS d1_53 (host := "") (Or.inl (hw _ (List.mem_of_getElem? (i := 100) rfl))) Via.refl S_RECORD_DAMAGED
              exact k.aret d1_56 rfl rfl rfl rfl (fun sp hsp => ⟨by rw [own_rule, if_neg hc101, if_neg hc102, if_neg hc103, if_neg hc104, if_neg hc105, if_neg hc106], rfl⟩) (by decide) (by decide)

theorem d4_0 : decode jdk_43_method_3_code 0 = .ok (.iload_n 0, 1) := by decide +kernel
theorem d4_1 : decode jdk_43_method_3_code 1 = .ok (.sipush 255, 3) := by decide +kernel
theorem d4_4 : decode jdk_43_method_3_code 4 = .ok (.if_icmp .gt 7, 3) := by decide +kernel
theorem d4_7 : decode jdk_43_method_3_code 7 = .ok (.iconst 1, 1) := by decide +kernel
theorem d4_8 : decode jdk_43_method_3_code 8 = .ok (.goto 4, 3) := by decide +kernel
theorem d4_12 : decode jdk_43_method_3_code 12 = .ok (.ireturn, 1) := by decide +kernel
set_option maxRecDepth 65536 in
set_option maxHeartbeats 40000000 in
theorem rm4 (Z : State) (a0 : Array Value) (hw : ∀ d ∈ tables_1, d.before a0 Z = true) (p1 : Int32) (h0 : Heap) (n0 : Nat) (c1 : ¬ ((255 : Int32) < p1)) :
    Con Z n0 (⟨"java/lang/StringLatin1", "canEncode", "(C)Z"⟩ : MethodName) jdk_43_method_3_code 1 (some .boolean) [] ({ frames := 0, cells := 0, slots := 0, locals := 0 } : Room) #[(.int p1)] h0 [] (fun v h sp => v = some (.int (1 : Int32)) ∧ h0 = h) := by
  refine Con.intro (L0 := #[.val (.int p1)]) ⟨_, own_EW hw⟩ (plainFor_of_name (by first | (simp [plainName, overriddenIn]; done) | decide +kernel)) (fun m => by first | (simp [entryFrame, mkF, argsToLocals, Value.category]; done) | rfl) ?_
  intro C k
  replace k := k.iloadN d4_0 rfl
  replace k := k.sipush (255 : Int32) d4_1 rfl
  replace k := k.icmpNo d4_4 (flt c1).2.2.1
  replace k := k.iconst (1 : Int32) d4_7 rfl
  replace k := k.goto (pc' := 12) d4_8 (by decide) (by decide)
  exact k.iret d4_12 rfl (by simp) rfl (fun sp hsp => ⟨rfl, rfl⟩) (by decide) (by decide)

theorem d5_0 : decode jdk_43_method_46_code 0 = .ok (.iconst 1, 1) := by decide +kernel
theorem d5_1 : decode jdk_43_method_46_code 1 = .ok (.newarray .byte, 2) := by decide +kernel
theorem d5_3 : decode jdk_43_method_46_code 3 = .ok (.dup, 1) := by decide +kernel
theorem d5_4 : decode jdk_43_method_46_code 4 = .ok (.iconst 0, 1) := by decide +kernel
theorem d5_5 : decode jdk_43_method_46_code 5 = .ok (.iload_n 0, 1) := by decide +kernel
theorem d5_6 : decode jdk_43_method_46_code 6 = .ok (.i2b, 1) := by decide +kernel
theorem d5_7 : decode jdk_43_method_46_code 7 = .ok (.bastore, 1) := by decide +kernel
theorem d5_8 : decode jdk_43_method_46_code 8 = .ok (.areturn, 1) := by decide +kernel
set_option maxRecDepth 65536 in
set_option maxHeartbeats 40000000 in
theorem rm5 (Z : State) (a0 : Array Value) (hw : ∀ d ∈ tables_1, d.before a0 Z = true) (p1 : Int32) (h0 : Heap) (n0 : Nat) (Z0 : n0 ≤ h0.size) :
    Con Z n0 (⟨"java/lang/StringLatin1", "toBytes", "(C)[B"⟩ : MethodName) jdk_43_method_46_code 1 (some (.array .byte)) [] ({ frames := 0, cells := 1, slots := 1, locals := 0 } : Room) #[(.int p1)] h0 [] (fun v h sp => ∃ b, v = some (.ref b) ∧ Keep h0 h [] ∧ h0.size ≤ b ∧ Arf Z h b .byte 1 (own_arr [p1.toInt8.toInt32])) := by
  refine Con.intro (L0 := #[.val (.int p1)]) ⟨_, own_EW hw⟩ (plainFor_of_name (by first | (simp [plainName, overriddenIn]; done) | decide +kernel)) (fun m => by first | (simp [entryFrame, mkF, argsToLocals, Value.category]; done) | rfl) ?_
  intro C k
  replace k := k.iconst (1 : Int32) d5_0 rfl
  obtain ⟨h101, b101, g101, E101, A101, X101, k⟩ := k.newarr (ad := "[B") d5_1 (hw _ (List.mem_of_getElem? (i := 27) rfl)) (by decide) 1 (by decide) 1 (by decide) (by decide) (by decide) (by decide) (by decide)
  have ge_b101 : n0 ≤ b101 := Nat.le_trans Z0 (Nat.le_of_eq g101.symm)
  have sz_b101 : h0.size ≤ b101 := Nat.le_trans (Keep.refl h0 ([] : List Addr)).1 (Nat.le_of_eq g101.symm)
  have K101 : Keep h0 h101 [] := (Keep.refl h0 ([] : List Addr)).ext E101
  replace k := k.dup d5_3 rfl
  replace k := k.iconst (0 : Int32) d5_4 rfl
  replace k := k.iloadN d5_5 rfl
  replace k := k.i2b d5_6
  obtain ⟨h102, W102, A102, k⟩ := k.bastore d5_7 A101 0 (by decide) (by decide) (by decide) ge_b101 (List.mem_of_getElem? (i := 0) rfl) (p1.toInt8.toInt32) (own_i2b _)
  have K102 : Keep h0 h102 [] := K101.wr W102 (Or.inr sz_b101)
  exact k.aret d5_8 rfl rfl rfl rfl (fun sp hsp => ⟨_, rfl, K102, sz_b101, A102.congr (fun i hi => own_cg1 i hi)⟩) (by decide) (by decide)

theorem d6_0 : decode jdk_42_method_151_code 0 = .ok (.aload_n 0, 1) := by decide +kernel
theorem d6_1 : decode jdk_42_method_151_code 1 = .ok (.invokespecial 1, 3) := by decide +kernel
theorem d6_4 : decode jdk_42_method_151_code 4 = .ok (.aload_n 0, 1) := by decide +kernel
theorem d6_5 : decode jdk_42_method_151_code 5 = .ok (.aload_n 1, 1) := by decide +kernel
theorem d6_6 : decode jdk_42_method_151_code 6 = .ok (.putfield 9, 3) := by decide +kernel
theorem d6_9 : decode jdk_42_method_151_code 9 = .ok (.aload_n 0, 1) := by decide +kernel
theorem d6_10 : decode jdk_42_method_151_code 10 = .ok (.iload_n 2, 1) := by decide +kernel
theorem d6_11 : decode jdk_42_method_151_code 11 = .ok (.putfield 15, 3) := by decide +kernel
theorem d6_14 : decode jdk_42_method_151_code 14 = .ok (.return_, 1) := by decide +kernel
set_option maxRecDepth 65536 in
set_option maxHeartbeats 40000000 in
theorem rm6 (Z : State) (a0 : Array Value) (hw : ∀ d ∈ tables_1, d.before a0 Z = true) (a1 a2 : Addr) (h0 : Heap) (n0 : Nat) (Z0 : n0 ≤ h0.size) (g1 : n0 ≤ a1) (E1 : Exa Z h0 a1 "java/lang/String") (F1 : Fld Z h0 a1 "java/lang/String" "value" "[B" .null) (F2 : Fld Z h0 a1 "java/lang/String" "coder" "B" (.int (0 : Int32))) :
    Con Z n0 (⟨"java/lang/String", "<init>", "([BB)V"⟩ : MethodName) jdk_42_method_151_code 3 none [] ({ frames := 1, cells := 0, slots := 0, locals := 12 } : Room) #[(.ref a1), (.ref a2), (.int (0 : Int32))] h0 [a1] (fun v h sp => v = none ∧ Keep h0 h [a1] ∧ Fld Z h a1 "java/lang/String" "coder" "B" (.int (0 : Int32)) ∧ Fld Z h a1 "java/lang/String" "value" "[B" (.ref a2)) := by
  refine Con.intro (L0 := #[.val (.ref a1), .val (.ref a2), .val (.int (0 : Int32))]) ⟨_, own_EW hw⟩ (plainFor_of_name (by first | (simp [plainName, overriddenIn]; done) | decide +kernel)) (fun m => by first | (simp [entryFrame, mkF, argsToLocals, Value.category]; done) | rfl) ?_
  intro C k
  replace k := k.aloadN d6_0 rfl rfl
  replace k := k.initO (W := 0) d6_1 (hw _ (List.mem_of_getElem? (i := 32) rfl)) (hw _ (List.mem_of_getElem? (i := 33) rfl)) (hw _ (List.mem_of_getElem? (i := 34) rfl)) rfl rfl (by decide) (by decide)
  replace k := k.aloadN d6_4 rfl rfl
  replace k := k.aloadN d6_5 rfl rfl
  obtain ⟨h101, W101, k⟩ := k.putF d6_6 (host := "") (Or.inl (hw _ (List.mem_of_getElem? (i := 35) rfl))) Via.refl F1 E1 (Or.inr ⟨(hw _ (List.mem_of_getElem? (i := 36) rfl)), rfl, rfl⟩) (hw _ (List.mem_of_getElem? (i := 23) rfl)) (ty := (.array .byte)) (by decide) rfl rfl g1 (List.mem_of_getElem? (i := 0) rfl)
  have Fw101 := Fld.same W101 F1
  have K101 : Keep h0 h101 [a1] := (Keep.refl h0 ([a1] : List Addr)).wr W101 (Or.inl (List.mem_of_getElem? (i := 0) rfl))
  replace k := k.aloadN d6_9 rfl rfl
  replace k := k.iloadN d6_10 rfl
  obtain ⟨h102, W102, k⟩ := k.putF d6_11 (host := "") (Or.inl (hw _ (List.mem_of_getElem? (i := 37) rfl))) Via.refl (Fld.other W101 F2 (Or.inr (slot_ne (Or.inr (hw _ (List.mem_of_getElem? (i := 38) rfl))) (Or.inr (hw _ (List.mem_of_getElem? (i := 36) rfl))) (by decide) (t := .byte) (t' := (.array .byte)) (by decide) (by decide)))) (Exa.wr W101 E1) (Or.inr ⟨(hw _ (List.mem_of_getElem? (i := 38) rfl)), rfl, rfl⟩) (hw _ (List.mem_of_getElem? (i := 23) rfl)) (ty := .byte) (by decide) rfl rfl g1 (List.mem_of_getElem? (i := 0) rfl)
  have Fw102 := Fld.same W102 (Fld.other W101 F2 (Or.inr (slot_ne (Or.inr (hw _ (List.mem_of_getElem? (i := 38) rfl))) (Or.inr (hw _ (List.mem_of_getElem? (i := 36) rfl))) (by decide) (t := .byte) (t' := (.array .byte)) (by decide) (by decide))))
  have K102 : Keep h0 h102 [a1] := K101.wr W102 (Or.inl (List.mem_of_getElem? (i := 0) rfl))
  exact k.vret d6_14 rfl (fun sp hsp => ⟨rfl, K102, Fw102, (Fld.other W102 Fw101 (Or.inr (slot_ne (Or.inr (hw _ (List.mem_of_getElem? (i := 36) rfl))) (Or.inr (hw _ (List.mem_of_getElem? (i := 38) rfl))) (by decide) (t := (.array .byte)) (t' := .byte) (by decide) (by decide))))⟩) (by decide) (by decide)

theorem d3_0 : decode jdk_42_method_139_code 0 = .ok (.getstatic 38, 3) := by decide +kernel
theorem d3_3 : decode jdk_42_method_139_code 3 = .ok (.ifCond .eq 23, 3) := by decide +kernel
theorem d3_6 : decode jdk_42_method_139_code 6 = .ok (.iload_n 0, 1) := by decide +kernel
theorem d3_7 : decode jdk_42_method_139_code 7 = .ok (.invokestatic 1015, 3) := by decide +kernel
theorem d3_10 : decode jdk_42_method_139_code 10 = .ok (.ifCond .eq 16, 3) := by decide +kernel
theorem d3_13 : decode jdk_42_method_139_code 13 = .ok (.new 10, 3) := by decide +kernel
theorem d3_16 : decode jdk_42_method_139_code 16 = .ok (.dup, 1) := by decide +kernel
theorem d3_17 : decode jdk_42_method_139_code 17 = .ok (.iload_n 0, 1) := by decide +kernel
theorem d3_18 : decode jdk_42_method_139_code 18 = .ok (.invokestatic 1018, 3) := by decide +kernel
theorem d3_21 : decode jdk_42_method_139_code 21 = .ok (.iconst 0, 1) := by decide +kernel
theorem d3_22 : decode jdk_42_method_139_code 22 = .ok (.invokespecial 209, 3) := by decide +kernel
theorem d3_25 : decode jdk_42_method_139_code 25 = .ok (.areturn, 1) := by decide +kernel
set_option maxRecDepth 65536 in
set_option maxHeartbeats 40000000 in
theorem rm3 (Z : State) (a0 : Array Value) (hw : ∀ d ∈ tables_1, d.before a0 Z = true) (p1 zC : Int32) (h0 : Heap) (n0 : Nat) (Z0 : n0 ≤ h0.size) (S_COMPACT : Sta Z h0 "java/lang/String" "COMPACT_STRINGS" "Z" (.int zC)) (hC : ¬ (zC = (0 : Int32))) (c1 : ¬ ((255 : Int32) < p1)) :
    Con Z n0 (⟨"java/lang/String", "valueOf", "(C)Ljava/lang/String;"⟩ : MethodName) jdk_42_method_139_code 1 (some (.object "java/lang/String")) [] ({ frames := 2, cells := 2, slots := 5, locals := 27 } : Room) #[(.int p1)] h0 [] (fun v h sp => ∃ b t, v = some (.ref b) ∧ Keep h0 h [] ∧ h0.size ≤ b ∧ Exa Z h b "java/lang/String" ∧ Fld Z h b "java/lang/String" "coder" "B" (.int (0 : Int32)) ∧ Fld Z h b "java/lang/String" "value" "[B" (.ref t) ∧ Arf Z h t .byte 1 (own_arr [p1.toInt8.toInt32])) := by
  refine Con.intro (L0 := #[.val (.int p1)]) ⟨_, own_EW hw⟩ (plainFor_of_name (by first | (simp [plainName, overriddenIn]; done) | decide +kernel)) (fun m => by first | (simp [entryFrame, mkF, argsToLocals, Value.category]; done) | rfl) ?_
  intro C k
  replace k := k.getS d3_0 (host := "") (Or.inl (hw _ (List.mem_of_getElem? (i := 17) rfl))) Via.refl S_COMPACT
  replace k := k.ifNo d3_3 (feq hC).1
  replace k := k.iloadN d3_6 rfl
  obtain ⟨_, _, sp7, ⟨rfl, rfl⟩, k⟩ := k.callS (y := (⟨"java/lang/StringLatin1", "canEncode", "(C)Z"⟩ : MethodName)) d3_7 (hw _ (List.mem_of_getElem? (i := 18) rfl)) (hw _ (List.mem_of_getElem? (i := 19) rfl)) (hw _ (List.mem_of_getElem? (i := 20) rfl)) (hw _ (List.mem_of_getElem? (i := 21) rfl)) (W := 0) (argsL := [(.int p1)]) (rest := []) (rm4 Z a0 hw p1 h0 n0 c1) all0 rfl (pd_0) rfl rfl rfl (by decide) (by decide) (by decide) (by decide) (by decide)
  replace k := (k [] all0).sfx [] rfl
  replace k := k.stk [(.int (1 : Int32))] rfl
  replace k := k.ifNo d3_10 (by decide)
  obtain ⟨h101, b101, g101, E101, A101, D101, k⟩ := k.newO d3_13 (hw _ (List.mem_of_getElem? (i := 22) rfl)) (hw _ (List.mem_of_getElem? (i := 23) rfl)) (hw _ (List.mem_of_getElem? (i := 15) rfl)) (by decide) (by decide)
  have ge_b101 : n0 ≤ b101 := Nat.le_trans Z0 (Nat.le_of_eq g101.symm)
  have sz_b101 : h0.size ≤ b101 := Nat.le_trans (Keep.refl h0 ([] : List Addr)).1 (Nat.le_of_eq g101.symm)
  have K101 : Keep h0 h101 [] := (Keep.refl h0 ([] : List Addr)).ext E101
  have F_value_b101 : Fld Z h101 b101 "java/lang/String" "value" "[B" .null := D101 (Or.inr (hw _ (List.mem_of_getElem? (i := 36) rfl))) (ty := (.array .byte)) (by decide)
  have F_coder_b101 : Fld Z h101 b101 "java/lang/String" "coder" "B" (.int (0 : Int32)) := D101 (Or.inr (hw _ (List.mem_of_getElem? (i := 38) rfl))) (ty := .byte) (by decide)
  replace k := k.dup d3_16 rfl
  replace k := k.iloadN d3_17 rfl
  obtain ⟨_, ht102, sp18, ⟨bt102, rfl, Kt102, zt102, At102⟩, k⟩ := k.callS (y := (⟨"java/lang/StringLatin1", "toBytes", "(C)[B"⟩ : MethodName)) d3_18 (hw _ (List.mem_of_getElem? (i := 24) rfl)) (hw _ (List.mem_of_getElem? (i := 25) rfl)) (hw _ (List.mem_of_getElem? (i := 20) rfl)) (hw _ (List.mem_of_getElem? (i := 26) rfl)) (W := 2) (argsL := [(.int p1)]) (rest := [(.ref b101), (.ref b101)]) (rm5 Z a0 hw p1 h101 n0 (Nat.le_trans Z0 E101.1)) all0 rfl (pd_1) rfl rfl rfl (by decide) (by decide) (by decide) (by decide) (by decide)
  have Kc103 : Keep h0 ht102 [] := K101.trans Kt102 all0
  replace k := (k [] all0).sfx [b101] rfl
  replace k := k.stk [(.ref bt102), (.ref b101), (.ref b101)] rfl
  replace k := k.iconst (0 : Int32) d3_21 rfl
  obtain ⟨_, hc104, sp22, ⟨rfl, Kc104, Fcc104, Fvc104⟩, k⟩ := k.callI (y := (⟨"java/lang/String", "<init>", "([BB)V"⟩ : MethodName)) (a := b101) d3_22 rfl (hw _ (List.mem_of_getElem? (i := 28) rfl)) (hw _ (List.mem_of_getElem? (i := 29) rfl)) (hw _ (List.mem_of_getElem? (i := 15) rfl)) (hw _ (List.mem_of_getElem? (i := 31) rfl)) (W := 1) (argsL := [(.ref bt102), (.int (0 : Int32))]) (rest := [(.ref b101)]) (rm6 Z a0 hw b101 bt102 ht102 n0 (Nat.le_trans (Nat.le_trans Z0 E101.1) Kt102.1) ge_b101 (A101.keep Kt102) (F_value_b101.keep Kt102 nin0) (F_coder_b101.keep Kt102 nin0)) (allS (List.mem_of_getElem? (i := 0) rfl) all0) rfl (pd_2) rfl rfl rfl (by decide) (by decide) (by decide) (by decide) (by decide)
  have Kc105 : Keep h0 hc104 [] := Kc103.trans Kc104 (allS (Or.inr sz_b101) all0)
  replace k := (k [] all0).sfx [b101] rfl
  replace k := k.stk [(.ref b101)] rfl
  exact k.aret d3_25 rfl rfl rfl rfl (fun sp hsp => ⟨_, _, rfl, Kc105, sz_b101, ((A101.keep Kt102).keep Kc104), Fcc104, Fvc104, (At102.keep Kc104 (ninS (Ne.symm (Nat.ne_of_lt (Nat.lt_of_lt_of_le A101.lt zt102))) nin0))⟩) (by decide) (by decide)

theorem d14_0 : decode jdk_52_method_15_code 0 = .ok (.iload_n 1, 1) := by decide +kernel
theorem d14_1 : decode jdk_52_method_15_code 1 = .ok (.aload_n 0, 1) := by decide +kernel
theorem d14_2 : decode jdk_52_method_15_code 2 = .ok (.arraylength, 1) := by decide +kernel
theorem d14_3 : decode jdk_52_method_15_code 3 = .ok (.isub, 1) := by decide +kernel
theorem d14_4 : decode jdk_52_method_15_code 4 = .ok (.bipush 31, 2) := by decide +kernel
theorem d14_6 : decode jdk_52_method_15_code 6 = .ok (.iushr, 1) := by decide +kernel
theorem d14_7 : decode jdk_52_method_15_code 7 = .ok (.i2b, 1) := by decide +kernel
theorem d14_8 : decode jdk_52_method_15_code 8 = .ok (.ireturn, 1) := by decide +kernel
set_option maxRecDepth 65536 in
set_option maxHeartbeats 40000000 in
theorem rm14_2 (Z : State) (a0 : Array Value) (hw : ∀ d ∈ tables_1, d.before a0 Z = true) (a1 : Addr) (f1 : Nat → Value) (h0 : Heap) (n0 : Nat) (A1 : Arf Z h0 a1 .byte 2 f1) :
    Con Z n0 (⟨"java/lang/StringUTF16", "coderFromArrayLen", "([BI)B"⟩ : MethodName) jdk_52_method_15_code 2 (some .byte) [] ({ frames := 0, cells := 0, slots := 0, locals := 0 } : Room) #[(.ref a1), (.int (2 : Int32))] h0 [] (fun v h sp => v = some (.int (0 : Int32)) ∧ h0 = h) := by
  refine Con.intro (L0 := #[.val (.ref a1), .val (.int (2 : Int32))]) ⟨_, own_EW hw⟩ (plainFor_of_name (by first | (simp [plainName, overriddenIn]; done) | decide +kernel)) (fun m => by first | (simp [entryFrame, mkF, argsToLocals, Value.category]; done) | rfl) ?_
  intro C k
  replace k := k.iloadN d14_0 rfl
  replace k := k.aloadN d14_1 rfl rfl
  replace k := k.arrlen d14_2 A1 (2 : Int32) (by decide)
  replace k := k.isub d14_3
  replace k := k.foldI (0 : Int32) (by decide)
  replace k := k.bipush (31 : Int32) d14_4 rfl
  replace k := k.iushr d14_6
  replace k := k.foldI (0 : Int32) (by decide)
  replace k := k.i2b d14_7
  replace k := k.foldI (0 : Int32) (by decide)
  exact k.iret d14_8 rfl (by simp) rfl (fun sp hsp => ⟨rfl, rfl⟩) (by decide) (by decide)

theorem d13_0 : decode jdk_52_method_21_code 0 = .ok (.iconst 0, 1) := by decide +kernel
theorem d13_1 : decode jdk_52_method_21_code 1 = .ok (.istore 5, 2) := by decide +kernel
theorem d13_3 : decode jdk_52_method_21_code 3 = .ok (.iload 5, 2) := by decide +kernel
theorem d13_5 : decode jdk_52_method_21_code 5 = .ok (.iload 4, 2) := by decide +kernel
theorem d13_7 : decode jdk_52_method_21_code 7 = .ok (.if_icmp .ge 37, 3) := by decide +kernel
theorem d13_10 : decode jdk_52_method_21_code 10 = .ok (.aload_n 0, 1) := by decide +kernel
theorem d13_11 : decode jdk_52_method_21_code 11 = .ok (.iload_n 1, 1) := by decide +kernel
theorem d13_12 : decode jdk_52_method_21_code 12 = .ok (.caload, 1) := by decide +kernel
theorem d13_13 : decode jdk_52_method_21_code 13 = .ok (.istore 6, 2) := by decide +kernel
theorem d13_15 : decode jdk_52_method_21_code 15 = .ok (.iload 6, 2) := by decide +kernel
theorem d13_17 : decode jdk_52_method_21_code 17 = .ok (.sipush 255, 3) := by decide +kernel
theorem d13_20 : decode jdk_52_method_21_code 20 = .ok (.if_icmp .le 6, 3) := by decide +kernel
theorem d13_26 : decode jdk_52_method_21_code 26 = .ok (.aload_n 2, 1) := by decide +kernel
theorem d13_27 : decode jdk_52_method_21_code 27 = .ok (.iload_n 3, 1) := by decide +kernel
theorem d13_28 : decode jdk_52_method_21_code 28 = .ok (.iload 6, 2) := by decide +kernel
theorem d13_30 : decode jdk_52_method_21_code 30 = .ok (.i2b, 1) := by decide +kernel
theorem d13_31 : decode jdk_52_method_21_code 31 = .ok (.bastore, 1) := by decide +kernel
theorem d13_32 : decode jdk_52_method_21_code 32 = .ok (.iinc 1 1, 3) := by decide +kernel
theorem d13_35 : decode jdk_52_method_21_code 35 = .ok (.iinc 3 1, 3) := by decide +kernel
theorem d13_38 : decode jdk_52_method_21_code 38 = .ok (.iinc 5 1, 3) := by decide +kernel
theorem d13_41 : decode jdk_52_method_21_code 41 = .ok (.goto (-38), 3) := by decide +kernel
theorem d13_44 : decode jdk_52_method_21_code 44 = .ok (.iload 4, 2) := by decide +kernel
theorem d13_46 : decode jdk_52_method_21_code 46 = .ok (.ireturn, 1) := by decide +kernel
set_option maxRecDepth 65536 in
set_option maxHeartbeats 40000000 in
theorem rm13_2 (Z : State) (a0 : Array Value) (hw : ∀ d ∈ tables_1, d.before a0 Z = true) (a1 a2 : Addr) (f2 : Nat → Value) (c0 c1 : Int32) (h0 : Heap) (n0 : Nat) (ne : a1 ≠ a2) (g2 : n0 ≤ a2) (A1 : Arf Z h0 a1 .char 2 (own_arr [c0, c1])) (A2 : Arf Z h0 a2 .byte 2 f2) (hp0 : ¬ ((255 : Int32) < c0)) (hp1 : ¬ ((255 : Int32) < c1)) :
    Con Z n0 (⟨"java/lang/StringUTF16", "compress", "([CI[BII)I"⟩ : MethodName) jdk_52_method_21_code 7 (some .int) [] ({ frames := 0, cells := 0, slots := 0, locals := 0 } : Room) #[(.ref a1), (.int (0 : Int32)), (.ref a2), (.int (0 : Int32)), (.int (2 : Int32))] h0 [a2] (fun v h sp => v = some (.int (2 : Int32)) ∧ Keep h0 h [a2] ∧ Arf Z h a2 .byte 2 (own_arr [(c0.toInt8.toInt32), (c1.toInt8.toInt32)])) := by
  refine Con.intro (L0 := #[.val (.ref a1), .val (.int (0 : Int32)), .val (.ref a2), .val (.int (0 : Int32)), .val (.int (2 : Int32)), .unset, .unset]) ⟨_, own_EW hw⟩ (plainFor_of_name (by first | (simp [plainName, overriddenIn]; done) | decide +kernel)) (fun m => by first | (simp [entryFrame, mkF, argsToLocals, Value.category]; done) | rfl) ?_
  intro C k
  replace k := k.iconst (0 : Int32) d13_0 rfl
  replace k := k.istore #[.val (.ref a1), .val (.int (0 : Int32)), .val (.ref a2), .val (.int (0 : Int32)), .val (.int (2 : Int32)), .val (.int (0 : Int32)), .unset] d13_1 rfl
  replace k := k.iload d13_3 rfl
  replace k := k.iload d13_5 rfl
  replace k := k.icmpNo d13_7 (by decide)
  replace k := k.aloadN d13_10 rfl rfl
  replace k := k.iloadN d13_11 rfl
  replace k := k.caload d13_12 A1  0 (by decide) (by decide) (by decide) (.int c0) rfl
  replace k := k.istore #[.val (.ref a1), .val (.int (0 : Int32)), .val (.ref a2), .val (.int (0 : Int32)), .val (.int (2 : Int32)), .val (.int (0 : Int32)), .val (.int c0)] d13_13 rfl
  replace k := k.iload d13_15 rfl
  replace k := k.sipush (255 : Int32) d13_17 rfl
  replace k := k.icmpYes (pc' := 26) d13_20 (flt hp0).2.2.2 (by decide) (by decide)
  replace k := k.aloadN d13_26 rfl rfl
  replace k := k.iloadN d13_27 rfl
  replace k := k.iload d13_28 rfl
  replace k := k.i2b d13_30
  obtain ⟨h101, W101, A101, k⟩ := k.bastore d13_31 A2 0 (by decide) (by decide) (by decide) g2 (List.mem_of_getElem? (i := 0) rfl) (c0.toInt8.toInt32) (own_i2b _)
  have K101 : Keep h0 h101 [a2] := (Keep.refl h0 ([a2] : List Addr)).wr W101 (Or.inl (List.mem_of_getElem? (i := 0) rfl))
  replace k := k.iinc (1 : Int32) #[.val (.ref a1), .val (.int ((0 : Int32) + (1 : Int32))), .val (.ref a2), .val (.int (0 : Int32)), .val (.int (2 : Int32)), .val (.int (0 : Int32)), .val (.int c0)] d13_32 rfl rfl rfl
  replace k := k.loc #[.val (.ref a1), .val (.int (1 : Int32)), .val (.ref a2), .val (.int (0 : Int32)), .val (.int (2 : Int32)), .val (.int (0 : Int32)), .val (.int c0)] (by rfl)
  replace k := k.iinc (1 : Int32) #[.val (.ref a1), .val (.int (1 : Int32)), .val (.ref a2), .val (.int ((0 : Int32) + (1 : Int32))), .val (.int (2 : Int32)), .val (.int (0 : Int32)), .val (.int c0)] d13_35 rfl rfl rfl
  replace k := k.loc #[.val (.ref a1), .val (.int (1 : Int32)), .val (.ref a2), .val (.int (1 : Int32)), .val (.int (2 : Int32)), .val (.int (0 : Int32)), .val (.int c0)] (by rfl)
  replace k := k.iinc (1 : Int32) #[.val (.ref a1), .val (.int (1 : Int32)), .val (.ref a2), .val (.int (1 : Int32)), .val (.int (2 : Int32)), .val (.int ((0 : Int32) + (1 : Int32))), .val (.int c0)] d13_38 rfl rfl rfl
  replace k := k.loc #[.val (.ref a1), .val (.int (1 : Int32)), .val (.ref a2), .val (.int (1 : Int32)), .val (.int (2 : Int32)), .val (.int (1 : Int32)), .val (.int c0)] (by rfl)
  replace k := k.goto (pc' := 3) d13_41 (by decide) (by decide)
  replace k := k.iload d13_3 rfl
  replace k := k.iload d13_5 rfl
  replace k := k.icmpNo d13_7 (by decide)
  replace k := k.aloadN d13_10 rfl rfl
  replace k := k.iloadN d13_11 rfl
  replace k := k.caload d13_12 (A1.other W101 ne)  1 (by decide) (by decide) (by decide) (.int c1) rfl
  replace k := k.istore #[.val (.ref a1), .val (.int (1 : Int32)), .val (.ref a2), .val (.int (1 : Int32)), .val (.int (2 : Int32)), .val (.int (1 : Int32)), .val (.int c1)] d13_13 rfl
  replace k := k.iload d13_15 rfl
  replace k := k.sipush (255 : Int32) d13_17 rfl
  replace k := k.icmpYes (pc' := 26) d13_20 (flt hp1).2.2.2 (by decide) (by decide)
  replace k := k.aloadN d13_26 rfl rfl
  replace k := k.iloadN d13_27 rfl
  replace k := k.iload d13_28 rfl
  replace k := k.i2b d13_30
  obtain ⟨h102, W102, A102, k⟩ := k.bastore d13_31 A101 1 (by decide) (by decide) (by decide) g2 (List.mem_of_getElem? (i := 0) rfl) (c1.toInt8.toInt32) (own_i2b _)
  have K102 : Keep h0 h102 [a2] := K101.wr W102 (Or.inl (List.mem_of_getElem? (i := 0) rfl))
  replace k := k.iinc (1 : Int32) #[.val (.ref a1), .val (.int ((1 : Int32) + (1 : Int32))), .val (.ref a2), .val (.int (1 : Int32)), .val (.int (2 : Int32)), .val (.int (1 : Int32)), .val (.int c1)] d13_32 rfl rfl rfl
  replace k := k.loc #[.val (.ref a1), .val (.int (2 : Int32)), .val (.ref a2), .val (.int (1 : Int32)), .val (.int (2 : Int32)), .val (.int (1 : Int32)), .val (.int c1)] (by rfl)
  replace k := k.iinc (1 : Int32) #[.val (.ref a1), .val (.int (2 : Int32)), .val (.ref a2), .val (.int ((1 : Int32) + (1 : Int32))), .val (.int (2 : Int32)), .val (.int (1 : Int32)), .val (.int c1)] d13_35 rfl rfl rfl
  replace k := k.loc #[.val (.ref a1), .val (.int (2 : Int32)), .val (.ref a2), .val (.int (2 : Int32)), .val (.int (2 : Int32)), .val (.int (1 : Int32)), .val (.int c1)] (by rfl)
  replace k := k.iinc (1 : Int32) #[.val (.ref a1), .val (.int (2 : Int32)), .val (.ref a2), .val (.int (2 : Int32)), .val (.int (2 : Int32)), .val (.int ((1 : Int32) + (1 : Int32))), .val (.int c1)] d13_38 rfl rfl rfl
  replace k := k.loc #[.val (.ref a1), .val (.int (2 : Int32)), .val (.ref a2), .val (.int (2 : Int32)), .val (.int (2 : Int32)), .val (.int (2 : Int32)), .val (.int c1)] (by rfl)
  replace k := k.goto (pc' := 3) d13_41 (by decide) (by decide)
  replace k := k.iload d13_3 rfl
  replace k := k.iload d13_5 rfl
  replace k := k.icmpYes (pc' := 44) d13_7 (by decide) (by decide) (by decide)
  replace k := k.iload d13_44 rfl
  exact k.iret d13_46 rfl (by simp) rfl (fun sp hsp => ⟨rfl, K102, (A102.congr (fun i hi => own_cg2 i hi))⟩) (by decide) (by decide)

theorem d12_0 : decode jdk_52_method_16_code 0 = .ok (.iload_n 2, 1) := by decide +kernel
theorem d12_1 : decode jdk_52_method_16_code 1 = .ok (.newarray .byte, 2) := by decide +kernel
theorem d12_3 : decode jdk_52_method_16_code 3 = .ok (.astore_n 3, 1) := by decide +kernel
theorem d12_4 : decode jdk_52_method_16_code 4 = .ok (.aload_n 0, 1) := by decide +kernel
theorem d12_5 : decode jdk_52_method_16_code 5 = .ok (.iload_n 1, 1) := by decide +kernel
theorem d12_6 : decode jdk_52_method_16_code 6 = .ok (.aload_n 3, 1) := by decide +kernel
theorem d12_7 : decode jdk_52_method_16_code 7 = .ok (.iconst 0, 1) := by decide +kernel
theorem d12_8 : decode jdk_52_method_16_code 8 = .ok (.iload_n 2, 1) := by decide +kernel
theorem d12_9 : decode jdk_52_method_16_code 9 = .ok (.invokestatic 115, 3) := by decide +kernel
theorem d12_12 : decode jdk_52_method_16_code 12 = .ok (.istore 4, 2) := by decide +kernel
theorem d12_14 : decode jdk_52_method_16_code 14 = .ok (.iload 4, 2) := by decide +kernel
theorem d12_16 : decode jdk_52_method_16_code 16 = .ok (.iload_n 2, 1) := by decide +kernel
theorem d12_17 : decode jdk_52_method_16_code 17 = .ok (.if_icmp .eq 40, 3) := by decide +kernel
theorem d12_57 : decode jdk_52_method_16_code 57 = .ok (.aload_n 3, 1) := by decide +kernel
theorem d12_58 : decode jdk_52_method_16_code 58 = .ok (.areturn, 1) := by decide +kernel
set_option maxRecDepth 65536 in
set_option maxHeartbeats 40000000 in
theorem rm12_2 (Z : State) (a0 : Array Value) (hw : ∀ d ∈ tables_1, d.before a0 Z = true) (a1 : Addr) (c0 c1 : Int32) (h0 : Heap) (n0 : Nat) (Z0 : n0 ≤ h0.size) (A1 : Arf Z h0 a1 .char 2 (own_arr [c0, c1])) (hp0 : ¬ ((255 : Int32) < c0)) (hp1 : ¬ ((255 : Int32) < c1)) :
    Con Z n0 (⟨"java/lang/StringUTF16", "compress", "([CII)[B"⟩ : MethodName) jdk_52_method_16_code 6 (some (.array .byte)) [] ({ frames := 1, cells := 1, slots := 2, locals := 18 } : Room) #[(.ref a1), (.int (0 : Int32)), (.int (2 : Int32))] h0 [] (fun v h sp => ∃ b, v = some (.ref b) ∧ Keep h0 h [] ∧ n0 ≤ b ∧ h0.size ≤ b ∧ Arf Z h b .byte 2 (own_arr [(c0.toInt8.toInt32), (c1.toInt8.toInt32)]) ∧ Exa Z h b "[B") := by
  refine Con.intro (L0 := #[.val (.ref a1), .val (.int (0 : Int32)), .val (.int (2 : Int32)), .unset, .unset, .unset]) ⟨_, own_EW hw⟩ (plainFor_of_name (by first | (simp [plainName, overriddenIn]; done) | decide +kernel)) (fun m => by first | (simp [entryFrame, mkF, argsToLocals, Value.category]; done) | rfl) ?_
  intro C k
  replace k := k.iloadN d12_0 rfl
  obtain ⟨h101, b101, g101, E101, A101, X101, k⟩ := k.newarr (ad := "[B") d12_1 (hw _ (List.mem_of_getElem? (i := 27) rfl)) (by decide) 2 (by decide) 2 (by decide) (by decide) (by decide) (by decide) (by decide)
  have ge_b101 : n0 ≤ b101 := Nat.le_trans Z0 (Nat.le_of_eq g101.symm)
  have sz_b101 : h0.size ≤ b101 := Nat.le_trans (Keep.refl h0 ([] : List Addr)).1 (Nat.le_of_eq g101.symm)
  have K101 : Keep h0 h101 [] := (Keep.refl h0 ([] : List Addr)).ext E101
  replace k := k.astoreN #[.val (.ref a1), .val (.int (0 : Int32)), .val (.int (2 : Int32)), .val (.ref b101), .unset, .unset] d12_3 rfl rfl
  replace k := k.aloadN d12_4 rfl rfl
  replace k := k.iloadN d12_5 rfl
  replace k := k.aloadN d12_6 rfl rfl
  replace k := k.iconst (0 : Int32) d12_7 rfl
  replace k := k.iloadN d12_8 rfl
  obtain ⟨_, hz102, sp9, ⟨rfl, Kz102, Az102⟩, k⟩ := k.callS (y := (⟨"java/lang/StringUTF16", "compress", "([CI[BII)I"⟩ : MethodName)) d12_9 (hw _ (List.mem_of_getElem? (i := 75) rfl)) (hw _ (List.mem_of_getElem? (i := 76) rfl)) (hw _ (List.mem_of_getElem? (i := 73) rfl)) (hw _ (List.mem_of_getElem? (i := 77) rfl)) (W := 0) (argsL := [(.ref a1), (.int (0 : Int32)), (.ref b101), (.int (0 : Int32)), (.int (2 : Int32))]) (rest := []) (rm13_2 Z a0 hw a1 b101 _ c0 c1 h101 n0 (Nat.ne_of_lt (Nat.lt_of_lt_of_le A1.lt (Nat.le_of_eq g101.symm))) ge_b101 (A1.ext E101) A101 hp0 hp1) (allS (List.mem_of_getElem? (i := 0) rfl) all0) rfl (pd_3) rfl rfl rfl (by decide) (by decide) (by decide) (by decide) (by decide)
  have Kc103 : Keep h0 hz102 [] := K101.trans Kz102 (allS (Or.inr sz_b101) all0)
  replace k := (k [] all0).sfx [b101] rfl
  replace k := k.stk [(.int (2 : Int32))] rfl
  replace k := k.istore #[.val (.ref a1), .val (.int (0 : Int32)), .val (.int (2 : Int32)), .val (.ref b101), .val (.int (2 : Int32)), .unset] d12_12 rfl
  replace k := k.iload d12_14 rfl
  replace k := k.iloadN d12_16 rfl
  replace k := k.icmpYes (pc' := 57) d12_17 (by decide) (by decide) (by decide)
  replace k := k.aloadN d12_57 rfl rfl
  exact k.aret d12_58 rfl rfl rfl rfl (fun sp hsp => ⟨_, rfl, Kc103, ge_b101, sz_b101, Az102, (X101.keep Kz102)⟩) (by decide) (by decide)

theorem d9_0 : decode jdk_42_method_149_code 0 = .ok (.aload_n 0, 1) := by decide +kernel
theorem d9_1 : decode jdk_42_method_149_code 1 = .ok (.invokespecial 1, 3) := by decide +kernel
theorem d9_4 : decode jdk_42_method_149_code 4 = .ok (.iload_n 3, 1) := by decide +kernel
theorem d9_5 : decode jdk_42_method_149_code 5 = .ok (.ifCond .ne 22, 3) := by decide +kernel
theorem d9_27 : decode jdk_42_method_149_code 27 = .ok (.getstatic 38, 3) := by decide +kernel
theorem d9_30 : decode jdk_42_method_149_code 30 = .ok (.ifCond .eq 28, 3) := by decide +kernel
theorem d9_33 : decode jdk_42_method_149_code 33 = .ok (.aload_n 1, 1) := by decide +kernel
theorem d9_34 : decode jdk_42_method_149_code 34 = .ok (.iload_n 2, 1) := by decide +kernel
theorem d9_35 : decode jdk_42_method_149_code 35 = .ok (.iload_n 3, 1) := by decide +kernel
theorem d9_36 : decode jdk_42_method_149_code 36 = .ok (.invokestatic 177, 3) := by decide +kernel
theorem d9_39 : decode jdk_42_method_149_code 39 = .ok (.astore 5, 2) := by decide +kernel
theorem d9_41 : decode jdk_42_method_149_code 41 = .ok (.aload_n 0, 1) := by decide +kernel
theorem d9_42 : decode jdk_42_method_149_code 42 = .ok (.aload 5, 2) := by decide +kernel
theorem d9_44 : decode jdk_42_method_149_code 44 = .ok (.iload_n 3, 1) := by decide +kernel
theorem d9_45 : decode jdk_42_method_149_code 45 = .ok (.invokestatic 47, 3) := by decide +kernel
theorem d9_48 : decode jdk_42_method_149_code 48 = .ok (.putfield 15, 3) := by decide +kernel
theorem d9_51 : decode jdk_42_method_149_code 51 = .ok (.aload_n 0, 1) := by decide +kernel
theorem d9_52 : decode jdk_42_method_149_code 52 = .ok (.aload 5, 2) := by decide +kernel
theorem d9_54 : decode jdk_42_method_149_code 54 = .ok (.putfield 9, 3) := by decide +kernel
theorem d9_57 : decode jdk_42_method_149_code 57 = .ok (.return_, 1) := by decide +kernel
set_option maxRecDepth 65536 in
set_option maxHeartbeats 40000000 in
theorem rm9_2 (Z : State) (a0 : Array Value) (hw : ∀ d ∈ tables_1, d.before a0 Z = true) (a1 a2 : Addr) (zC : Int32) (c0 c1 : Int32) (h0 : Heap) (n0 : Nat) (Z0 : n0 ≤ h0.size) (g1 : n0 ≤ a1) (S_COMPACT : Sta Z h0 "java/lang/String" "COMPACT_STRINGS" "Z" (.int zC)) (hC : ¬ (zC = (0 : Int32))) (E1 : Exa Z h0 a1 "java/lang/String") (F1 : Fld Z h0 a1 "java/lang/String" "value" "[B" .null) (F2 : Fld Z h0 a1 "java/lang/String" "coder" "B" (.int (0 : Int32))) (A2 : Arf Z h0 a2 .char 2 (own_arr [c0, c1])) (hp0 : ¬ ((255 : Int32) < c0)) (hp1 : ¬ ((255 : Int32) < c1)) :
    Con Z n0 (⟨"java/lang/String", "<init>", "([CIILjava/lang/Void;)V"⟩ : MethodName) jdk_42_method_149_code 6 none [] ({ frames := 2, cells := 1, slots := 2, locals := 35 } : Room) #[(.ref a1), (.ref a2), (.int (0 : Int32)), (.int (2 : Int32)), .null] h0 [a1] (fun v h sp => v = none ∧ Keep h0 h [a1] ∧ Fld Z h a1 "java/lang/String" "coder" "B" (.int (0 : Int32)) ∧ ∃ t, n0 ≤ t ∧ h0.size ≤ t ∧ Fld Z h a1 "java/lang/String" "value" "[B" (.ref t) ∧ Arf Z h t .byte 2 (own_arr [(c0.toInt8.toInt32), (c1.toInt8.toInt32)]) ∧ Exa Z h t "[B") := by
  refine Con.intro (L0 := #[.val (.ref a1), .val (.ref a2), .val (.int (0 : Int32)), .val (.int (2 : Int32)), .val .null, .unset]) ⟨_, own_EW hw⟩ (plainFor_of_name (by first | (simp [plainName, overriddenIn]; done) | decide +kernel)) (fun m => by first | (simp [entryFrame, mkF, argsToLocals, Value.category]; done) | rfl) ?_
  intro C k
  replace k := k.aloadN d9_0 rfl rfl
  replace k := k.initO (W := 0) d9_1 (hw _ (List.mem_of_getElem? (i := 32) rfl)) (hw _ (List.mem_of_getElem? (i := 33) rfl)) (hw _ (List.mem_of_getElem? (i := 34) rfl)) rfl rfl (by decide) (by decide)
  replace k := k.iloadN d9_4 rfl
  replace k := k.ifYes (pc' := 27) d9_5 (by decide) (by decide) (by decide)
  replace k := k.getS d9_27 (host := "") (Or.inl (hw _ (List.mem_of_getElem? (i := 17) rfl))) Via.refl S_COMPACT
  replace k := k.ifNo d9_30 (feq hC).1
  replace k := k.aloadN d9_33 rfl rfl
  replace k := k.iloadN d9_34 rfl
  replace k := k.iloadN d9_35 rfl
  obtain ⟨_, hy101, sp36, ⟨by101, rfl, Ky101, gby101, zby101, Ay101, Ey101⟩, k⟩ := k.callS (y := (⟨"java/lang/StringUTF16", "compress", "([CII)[B"⟩ : MethodName)) d9_36 (hw _ (List.mem_of_getElem? (i := 71) rfl)) (hw _ (List.mem_of_getElem? (i := 72) rfl)) (hw _ (List.mem_of_getElem? (i := 73) rfl)) (hw _ (List.mem_of_getElem? (i := 74) rfl)) (W := 0) (argsL := [(.ref a2), (.int (0 : Int32)), (.int (2 : Int32))]) (rest := []) (rm12_2 Z a0 hw a2 c0 c1 h0 n0 Z0 A2 hp0 hp1) all0 rfl (pd_4) rfl rfl rfl (by decide) (by decide) (by decide) (by decide) (by decide)
  have Kc102 : Keep h0 hy101 [a1] := (Keep.refl h0 ([a1] : List Addr)).trans Ky101 all0
  replace k := (k [] all0).sfx [a1] rfl
  replace k := k.stk [(.ref by101)] rfl
  replace k := k.astore #[.val (.ref a1), .val (.ref a2), .val (.int (0 : Int32)), .val (.int (2 : Int32)), .val .null, .val (.ref by101)] d9_39 rfl rfl
  replace k := k.aloadN d9_41 rfl rfl
  replace k := k.aload d9_42 rfl rfl
  replace k := k.iloadN d9_44 rfl
  obtain ⟨_, _, sp45, ⟨rfl, rfl⟩, k⟩ := k.callS (y := (⟨"java/lang/StringUTF16", "coderFromArrayLen", "([BI)B"⟩ : MethodName)) d9_45 (hw _ (List.mem_of_getElem? (i := 78) rfl)) (hw _ (List.mem_of_getElem? (i := 79) rfl)) (hw _ (List.mem_of_getElem? (i := 73) rfl)) (hw _ (List.mem_of_getElem? (i := 80) rfl)) (W := 1) (argsL := [(.ref by101), (.int (2 : Int32))]) (rest := [(.ref a1)]) (rm14_2 Z a0 hw by101 _ hy101 n0 Ay101) all0 rfl (pd_5) rfl rfl rfl (by decide) (by decide) (by decide) (by decide) (by decide)
  replace k := (k [] all0).sfx [a1] rfl
  replace k := k.stk [(.int (0 : Int32)), (.ref a1)] rfl
  obtain ⟨h103, W103, k⟩ := k.putF d9_48 (host := "") (Or.inl (hw _ (List.mem_of_getElem? (i := 37) rfl))) Via.refl (F2.keep Ky101 nin0) (E1.keep Ky101) (Or.inr ⟨(hw _ (List.mem_of_getElem? (i := 38) rfl)), rfl, rfl⟩) (hw _ (List.mem_of_getElem? (i := 23) rfl)) (ty := .byte) (by decide) rfl rfl g1 (List.mem_of_getElem? (i := 0) rfl)
  have Fw103 := Fld.same W103 (F2.keep Ky101 nin0)
  have K103 : Keep h0 h103 [a1] := Kc102.wr W103 (Or.inl (List.mem_of_getElem? (i := 0) rfl))
  replace k := k.aloadN d9_51 rfl rfl
  replace k := k.aload d9_52 rfl rfl
  obtain ⟨h104, W104, k⟩ := k.putF d9_54 (host := "") (Or.inl (hw _ (List.mem_of_getElem? (i := 35) rfl))) Via.refl (Fld.other W103 (F1.keep Ky101 nin0) (Or.inr (slot_ne (Or.inr (hw _ (List.mem_of_getElem? (i := 36) rfl))) (Or.inr (hw _ (List.mem_of_getElem? (i := 38) rfl))) (by decide) (t := (.array .byte)) (t' := .byte) (by decide) (by decide)))) (Exa.wr W103 (E1.keep Ky101)) (Or.inr ⟨(hw _ (List.mem_of_getElem? (i := 36) rfl)), rfl, rfl⟩) (hw _ (List.mem_of_getElem? (i := 23) rfl)) (ty := (.array .byte)) (by decide) rfl rfl g1 (List.mem_of_getElem? (i := 0) rfl)
  have Fw104 := Fld.same W104 (Fld.other W103 (F1.keep Ky101 nin0) (Or.inr (slot_ne (Or.inr (hw _ (List.mem_of_getElem? (i := 36) rfl))) (Or.inr (hw _ (List.mem_of_getElem? (i := 38) rfl))) (by decide) (t := (.array .byte)) (t' := .byte) (by decide) (by decide))))
  have K104 : Keep h0 h104 [a1] := K103.wr W104 (Or.inl (List.mem_of_getElem? (i := 0) rfl))
  exact k.vret d9_57 rfl (fun sp hsp => ⟨rfl, K104, (Fld.other W104 Fw103 (Or.inr (slot_ne (Or.inr (hw _ (List.mem_of_getElem? (i := 38) rfl))) (Or.inr (hw _ (List.mem_of_getElem? (i := 36) rfl))) (by decide) (t := .byte) (t' := (.array .byte)) (by decide) (by decide)))), by101, gby101, zby101, Fw104, ((Ay101.other W103 (Ne.symm (Nat.ne_of_lt (Nat.lt_of_lt_of_le E1.lt zby101)))).other W104 (Ne.symm (Nat.ne_of_lt (Nat.lt_of_lt_of_le E1.lt zby101)))), (Exa.wr W104 (Exa.wr W103 Ey101))⟩) (by decide) (by decide)

theorem d8_0 : decode jdk_42_method_3_code 0 = .ok (.aload_n 0, 1) := by decide +kernel
theorem d8_1 : decode jdk_42_method_3_code 1 = .ok (.aload_n 1, 1) := by decide +kernel
theorem d8_2 : decode jdk_42_method_3_code 2 = .ok (.iconst 0, 1) := by decide +kernel
theorem d8_3 : decode jdk_42_method_3_code 3 = .ok (.aload_n 1, 1) := by decide +kernel
theorem d8_4 : decode jdk_42_method_3_code 4 = .ok (.arraylength, 1) := by decide +kernel
theorem d8_5 : decode jdk_42_method_3_code 5 = .ok (.aconst_null, 1) := by decide +kernel
theorem d8_6 : decode jdk_42_method_3_code 6 = .ok (.invokespecial 27, 3) := by decide +kernel
theorem d8_9 : decode jdk_42_method_3_code 9 = .ok (.return_, 1) := by decide +kernel
set_option maxRecDepth 65536 in
set_option maxHeartbeats 40000000 in
theorem rm8_2 (Z : State) (a0 : Array Value) (hw : ∀ d ∈ tables_1, d.before a0 Z = true) (a1 a2 : Addr) (zC : Int32) (c0 c1 : Int32) (h0 : Heap) (n0 : Nat) (Z0 : n0 ≤ h0.size) (g1 : n0 ≤ a1) (S_COMPACT : Sta Z h0 "java/lang/String" "COMPACT_STRINGS" "Z" (.int zC)) (hC : ¬ (zC = (0 : Int32))) (E1 : Exa Z h0 a1 "java/lang/String") (F1 : Fld Z h0 a1 "java/lang/String" "value" "[B" .null) (F2 : Fld Z h0 a1 "java/lang/String" "coder" "B" (.int (0 : Int32))) (A2 : Arf Z h0 a2 .char 2 (own_arr [c0, c1])) (hp0 : ¬ ((255 : Int32) < c0)) (hp1 : ¬ ((255 : Int32) < c1)) :
    Con Z n0 (⟨"java/lang/String", "<init>", "([C)V"⟩ : MethodName) jdk_42_method_3_code 2 none [] ({ frames := 3, cells := 1, slots := 2, locals := 52 } : Room) #[(.ref a1), (.ref a2)] h0 [a1] (fun v h sp => v = none ∧ Keep h0 h [a1] ∧ Fld Z h a1 "java/lang/String" "coder" "B" (.int (0 : Int32)) ∧ ∃ t, n0 ≤ t ∧ h0.size ≤ t ∧ Fld Z h a1 "java/lang/String" "value" "[B" (.ref t) ∧ Arf Z h t .byte 2 (own_arr [(c0.toInt8.toInt32), (c1.toInt8.toInt32)]) ∧ Exa Z h t "[B") := by
  refine Con.intro (L0 := #[.val (.ref a1), .val (.ref a2)]) ⟨_, own_EW hw⟩ (plainFor_of_name (by first | (simp [plainName, overriddenIn]; done) | decide +kernel)) (fun m => by first | (simp [entryFrame, mkF, argsToLocals, Value.category]; done) | rfl) ?_
  intro C k
  replace k := k.aloadN d8_0 rfl rfl
  replace k := k.aloadN d8_1 rfl rfl
  replace k := k.iconst (0 : Int32) d8_2 rfl
  replace k := k.aloadN d8_3 rfl rfl
  replace k := k.arrlen d8_4 A2 (2 : Int32) (by decide)
  replace k := k.aconstNull d8_5
  obtain ⟨_, hx101, sp6, ⟨rfl, Kx101, Px101⟩, k⟩ := k.callI (y := (⟨"java/lang/String", "<init>", "([CIILjava/lang/Void;)V"⟩ : MethodName)) (a := a1) d8_6 rfl (hw _ (List.mem_of_getElem? (i := 44) rfl)) (hw _ (List.mem_of_getElem? (i := 45) rfl)) (hw _ (List.mem_of_getElem? (i := 15) rfl)) (hw _ (List.mem_of_getElem? (i := 46) rfl)) (W := 0) (argsL := [(.ref a2), (.int (0 : Int32)), (.int (2 : Int32)), .null]) (rest := []) (rm9_2 Z a0 hw a1 a2 zC c0 c1 h0 n0 Z0 g1 S_COMPACT hC E1 F1 F2 A2 hp0 hp1) (allS (List.mem_of_getElem? (i := 0) rfl) all0) rfl (pd_6) rfl rfl rfl (by decide) (by decide) (by decide) (by decide) (by decide)
  have Kc102 : Keep h0 hx101 [a1] := (Keep.refl h0 ([a1] : List Addr)).trans Kx101 (allS (Or.inl (List.mem_of_getElem? (i := 0) rfl)) all0)
  replace k := (k [] all0).sfx [a1] rfl
  replace k := k.stk [] rfl
  exact k.vret d8_9 rfl (fun sp hsp => ⟨rfl, Kx101, Px101⟩) (by decide) (by decide)

set_option maxRecDepth 65536 in
set_option maxHeartbeats 40000000 in
theorem rm14_3 (Z : State) (a0 : Array Value) (hw : ∀ d ∈ tables_1, d.before a0 Z = true) (a1 : Addr) (f1 : Nat → Value) (h0 : Heap) (n0 : Nat) (A1 : Arf Z h0 a1 .byte 3 f1) :
    Con Z n0 (⟨"java/lang/StringUTF16", "coderFromArrayLen", "([BI)B"⟩ : MethodName) jdk_52_method_15_code 2 (some .byte) [] ({ frames := 0, cells := 0, slots := 0, locals := 0 } : Room) #[(.ref a1), (.int (3 : Int32))] h0 [] (fun v h sp => v = some (.int (0 : Int32)) ∧ h0 = h) := by
  refine Con.intro (L0 := #[.val (.ref a1), .val (.int (3 : Int32))]) ⟨_, own_EW hw⟩ (plainFor_of_name (by first | (simp [plainName, overriddenIn]; done) | decide +kernel)) (fun m => by first | (simp [entryFrame, mkF, argsToLocals, Value.category]; done) | rfl) ?_
  intro C k
  replace k := k.iloadN d14_0 rfl
  replace k := k.aloadN d14_1 rfl rfl
  replace k := k.arrlen d14_2 A1 (3 : Int32) (by decide)
  replace k := k.isub d14_3
  replace k := k.foldI (0 : Int32) (by decide)
  replace k := k.bipush (31 : Int32) d14_4 rfl
  replace k := k.iushr d14_6
  replace k := k.foldI (0 : Int32) (by decide)
  replace k := k.i2b d14_7
  replace k := k.foldI (0 : Int32) (by decide)
  exact k.iret d14_8 rfl (by simp) rfl (fun sp hsp => ⟨rfl, rfl⟩) (by decide) (by decide)

set_option maxRecDepth 65536 in
set_option maxHeartbeats 40000000 in
theorem rm13_3 (Z : State) (a0 : Array Value) (hw : ∀ d ∈ tables_1, d.before a0 Z = true) (a1 a2 : Addr) (f2 : Nat → Value) (c0 c1 c2 : Int32) (h0 : Heap) (n0 : Nat) (ne : a1 ≠ a2) (g2 : n0 ≤ a2) (A1 : Arf Z h0 a1 .char 3 (own_arr [c0, c1, c2])) (A2 : Arf Z h0 a2 .byte 3 f2) (hp0 : ¬ ((255 : Int32) < c0)) (hp1 : ¬ ((255 : Int32) < c1)) (hp2 : ¬ ((255 : Int32) < c2)) :
    Con Z n0 (⟨"java/lang/StringUTF16", "compress", "([CI[BII)I"⟩ : MethodName) jdk_52_method_21_code 7 (some .int) [] ({ frames := 0, cells := 0, slots := 0, locals := 0 } : Room) #[(.ref a1), (.int (0 : Int32)), (.ref a2), (.int (0 : Int32)), (.int (3 : Int32))] h0 [a2] (fun v h sp => v = some (.int (3 : Int32)) ∧ Keep h0 h [a2] ∧ Arf Z h a2 .byte 3 (own_arr [(c0.toInt8.toInt32), (c1.toInt8.toInt32), (c2.toInt8.toInt32)])) := by
  refine Con.intro (L0 := #[.val (.ref a1), .val (.int (0 : Int32)), .val (.ref a2), .val (.int (0 : Int32)), .val (.int (3 : Int32)), .unset, .unset]) ⟨_, own_EW hw⟩ (plainFor_of_name (by first | (simp [plainName, overriddenIn]; done) | decide +kernel)) (fun m => by first | (simp [entryFrame, mkF, argsToLocals, Value.category]; done) | rfl) ?_
  intro C k
  replace k := k.iconst (0 : Int32) d13_0 rfl
  replace k := k.istore #[.val (.ref a1), .val (.int (0 : Int32)), .val (.ref a2), .val (.int (0 : Int32)), .val (.int (3 : Int32)), .val (.int (0 : Int32)), .unset] d13_1 rfl
  replace k := k.iload d13_3 rfl
  replace k := k.iload d13_5 rfl
  replace k := k.icmpNo d13_7 (by decide)
  replace k := k.aloadN d13_10 rfl rfl
  replace k := k.iloadN d13_11 rfl
  replace k := k.caload d13_12 A1  0 (by decide) (by decide) (by decide) (.int c0) rfl
  replace k := k.istore #[.val (.ref a1), .val (.int (0 : Int32)), .val (.ref a2), .val (.int (0 : Int32)), .val (.int (3 : Int32)), .val (.int (0 : Int32)), .val (.int c0)] d13_13 rfl
  replace k := k.iload d13_15 rfl
  replace k := k.sipush (255 : Int32) d13_17 rfl
  replace k := k.icmpYes (pc' := 26) d13_20 (flt hp0).2.2.2 (by decide) (by decide)
  replace k := k.aloadN d13_26 rfl rfl
  replace k := k.iloadN d13_27 rfl
  replace k := k.iload d13_28 rfl
  replace k := k.i2b d13_30
  obtain ⟨h101, W101, A101, k⟩ := k.bastore d13_31 A2 0 (by decide) (by decide) (by decide) g2 (List.mem_of_getElem? (i := 0) rfl) (c0.toInt8.toInt32) (own_i2b _)
  have K101 : Keep h0 h101 [a2] := (Keep.refl h0 ([a2] : List Addr)).wr W101 (Or.inl (List.mem_of_getElem? (i := 0) rfl))
  replace k := k.iinc (1 : Int32) #[.val (.ref a1), .val (.int ((0 : Int32) + (1 : Int32))), .val (.ref a2), .val (.int (0 : Int32)), .val (.int (3 : Int32)), .val (.int (0 : Int32)), .val (.int c0)] d13_32 rfl rfl rfl
  replace k := k.loc #[.val (.ref a1), .val (.int (1 : Int32)), .val (.ref a2), .val (.int (0 : Int32)), .val (.int (3 : Int32)), .val (.int (0 : Int32)), .val (.int c0)] (by rfl)
  replace k := k.iinc (1 : Int32) #[.val (.ref a1), .val (.int (1 : Int32)), .val (.ref a2), .val (.int ((0 : Int32) + (1 : Int32))), .val (.int (3 : Int32)), .val (.int (0 : Int32)), .val (.int c0)] d13_35 rfl rfl rfl
  replace k := k.loc #[.val (.ref a1), .val (.int (1 : Int32)), .val (.ref a2), .val (.int (1 : Int32)), .val (.int (3 : Int32)), .val (.int (0 : Int32)), .val (.int c0)] (by rfl)
  replace k := k.iinc (1 : Int32) #[.val (.ref a1), .val (.int (1 : Int32)), .val (.ref a2), .val (.int (1 : Int32)), .val (.int (3 : Int32)), .val (.int ((0 : Int32) + (1 : Int32))), .val (.int c0)] d13_38 rfl rfl rfl
  replace k := k.loc #[.val (.ref a1), .val (.int (1 : Int32)), .val (.ref a2), .val (.int (1 : Int32)), .val (.int (3 : Int32)), .val (.int (1 : Int32)), .val (.int c0)] (by rfl)
  replace k := k.goto (pc' := 3) d13_41 (by decide) (by decide)
  replace k := k.iload d13_3 rfl
  replace k := k.iload d13_5 rfl
  replace k := k.icmpNo d13_7 (by decide)
  replace k := k.aloadN d13_10 rfl rfl
  replace k := k.iloadN d13_11 rfl
  replace k := k.caload d13_12 (A1.other W101 ne)  1 (by decide) (by decide) (by decide) (.int c1) rfl
  replace k := k.istore #[.val (.ref a1), .val (.int (1 : Int32)), .val (.ref a2), .val (.int (1 : Int32)), .val (.int (3 : Int32)), .val (.int (1 : Int32)), .val (.int c1)] d13_13 rfl
  replace k := k.iload d13_15 rfl
  replace k := k.sipush (255 : Int32) d13_17 rfl
  replace k := k.icmpYes (pc' := 26) d13_20 (flt hp1).2.2.2 (by decide) (by decide)
  replace k := k.aloadN d13_26 rfl rfl
  replace k := k.iloadN d13_27 rfl
  replace k := k.iload d13_28 rfl
  replace k := k.i2b d13_30
  obtain ⟨h102, W102, A102, k⟩ := k.bastore d13_31 A101 1 (by decide) (by decide) (by decide) g2 (List.mem_of_getElem? (i := 0) rfl) (c1.toInt8.toInt32) (own_i2b _)
  have K102 : Keep h0 h102 [a2] := K101.wr W102 (Or.inl (List.mem_of_getElem? (i := 0) rfl))
  replace k := k.iinc (1 : Int32) #[.val (.ref a1), .val (.int ((1 : Int32) + (1 : Int32))), .val (.ref a2), .val (.int (1 : Int32)), .val (.int (3 : Int32)), .val (.int (1 : Int32)), .val (.int c1)] d13_32 rfl rfl rfl
  replace k := k.loc #[.val (.ref a1), .val (.int (2 : Int32)), .val (.ref a2), .val (.int (1 : Int32)), .val (.int (3 : Int32)), .val (.int (1 : Int32)), .val (.int c1)] (by rfl)
  replace k := k.iinc (1 : Int32) #[.val (.ref a1), .val (.int (2 : Int32)), .val (.ref a2), .val (.int ((1 : Int32) + (1 : Int32))), .val (.int (3 : Int32)), .val (.int (1 : Int32)), .val (.int c1)] d13_35 rfl rfl rfl
  replace k := k.loc #[.val (.ref a1), .val (.int (2 : Int32)), .val (.ref a2), .val (.int (2 : Int32)), .val (.int (3 : Int32)), .val (.int (1 : Int32)), .val (.int c1)] (by rfl)
  replace k := k.iinc (1 : Int32) #[.val (.ref a1), .val (.int (2 : Int32)), .val (.ref a2), .val (.int (2 : Int32)), .val (.int (3 : Int32)), .val (.int ((1 : Int32) + (1 : Int32))), .val (.int c1)] d13_38 rfl rfl rfl
  replace k := k.loc #[.val (.ref a1), .val (.int (2 : Int32)), .val (.ref a2), .val (.int (2 : Int32)), .val (.int (3 : Int32)), .val (.int (2 : Int32)), .val (.int c1)] (by rfl)
  replace k := k.goto (pc' := 3) d13_41 (by decide) (by decide)
  replace k := k.iload d13_3 rfl
  replace k := k.iload d13_5 rfl
  replace k := k.icmpNo d13_7 (by decide)
  replace k := k.aloadN d13_10 rfl rfl
  replace k := k.iloadN d13_11 rfl
  replace k := k.caload d13_12 ((A1.other W101 ne).other W102 ne)  2 (by decide) (by decide) (by decide) (.int c2) rfl
  replace k := k.istore #[.val (.ref a1), .val (.int (2 : Int32)), .val (.ref a2), .val (.int (2 : Int32)), .val (.int (3 : Int32)), .val (.int (2 : Int32)), .val (.int c2)] d13_13 rfl
  replace k := k.iload d13_15 rfl
  replace k := k.sipush (255 : Int32) d13_17 rfl
  replace k := k.icmpYes (pc' := 26) d13_20 (flt hp2).2.2.2 (by decide) (by decide)
  replace k := k.aloadN d13_26 rfl rfl
  replace k := k.iloadN d13_27 rfl
  replace k := k.iload d13_28 rfl
  replace k := k.i2b d13_30
  obtain ⟨h103, W103, A103, k⟩ := k.bastore d13_31 A102 2 (by decide) (by decide) (by decide) g2 (List.mem_of_getElem? (i := 0) rfl) (c2.toInt8.toInt32) (own_i2b _)
  have K103 : Keep h0 h103 [a2] := K102.wr W103 (Or.inl (List.mem_of_getElem? (i := 0) rfl))
  replace k := k.iinc (1 : Int32) #[.val (.ref a1), .val (.int ((2 : Int32) + (1 : Int32))), .val (.ref a2), .val (.int (2 : Int32)), .val (.int (3 : Int32)), .val (.int (2 : Int32)), .val (.int c2)] d13_32 rfl rfl rfl
  replace k := k.loc #[.val (.ref a1), .val (.int (3 : Int32)), .val (.ref a2), .val (.int (2 : Int32)), .val (.int (3 : Int32)), .val (.int (2 : Int32)), .val (.int c2)] (by rfl)
  replace k := k.iinc (1 : Int32) #[.val (.ref a1), .val (.int (3 : Int32)), .val (.ref a2), .val (.int ((2 : Int32) + (1 : Int32))), .val (.int (3 : Int32)), .val (.int (2 : Int32)), .val (.int c2)] d13_35 rfl rfl rfl
  replace k := k.loc #[.val (.ref a1), .val (.int (3 : Int32)), .val (.ref a2), .val (.int (3 : Int32)), .val (.int (3 : Int32)), .val (.int (2 : Int32)), .val (.int c2)] (by rfl)
  replace k := k.iinc (1 : Int32) #[.val (.ref a1), .val (.int (3 : Int32)), .val (.ref a2), .val (.int (3 : Int32)), .val (.int (3 : Int32)), .val (.int ((2 : Int32) + (1 : Int32))), .val (.int c2)] d13_38 rfl rfl rfl
  replace k := k.loc #[.val (.ref a1), .val (.int (3 : Int32)), .val (.ref a2), .val (.int (3 : Int32)), .val (.int (3 : Int32)), .val (.int (3 : Int32)), .val (.int c2)] (by rfl)
  replace k := k.goto (pc' := 3) d13_41 (by decide) (by decide)
  replace k := k.iload d13_3 rfl
  replace k := k.iload d13_5 rfl
  replace k := k.icmpYes (pc' := 44) d13_7 (by decide) (by decide) (by decide)
  replace k := k.iload d13_44 rfl
  exact k.iret d13_46 rfl (by simp) rfl (fun sp hsp => ⟨rfl, K103, (A103.congr (fun i hi => own_cg3 i hi))⟩) (by decide) (by decide)

set_option maxRecDepth 65536 in
set_option maxHeartbeats 40000000 in
theorem rm12_3 (Z : State) (a0 : Array Value) (hw : ∀ d ∈ tables_1, d.before a0 Z = true) (a1 : Addr) (c0 c1 c2 : Int32) (h0 : Heap) (n0 : Nat) (Z0 : n0 ≤ h0.size) (A1 : Arf Z h0 a1 .char 3 (own_arr [c0, c1, c2])) (hp0 : ¬ ((255 : Int32) < c0)) (hp1 : ¬ ((255 : Int32) < c1)) (hp2 : ¬ ((255 : Int32) < c2)) :
    Con Z n0 (⟨"java/lang/StringUTF16", "compress", "([CII)[B"⟩ : MethodName) jdk_52_method_16_code 6 (some (.array .byte)) [] ({ frames := 1, cells := 1, slots := 3, locals := 18 } : Room) #[(.ref a1), (.int (0 : Int32)), (.int (3 : Int32))] h0 [] (fun v h sp => ∃ b, v = some (.ref b) ∧ Keep h0 h [] ∧ n0 ≤ b ∧ h0.size ≤ b ∧ Arf Z h b .byte 3 (own_arr [(c0.toInt8.toInt32), (c1.toInt8.toInt32), (c2.toInt8.toInt32)]) ∧ Exa Z h b "[B") := by
  refine Con.intro (L0 := #[.val (.ref a1), .val (.int (0 : Int32)), .val (.int (3 : Int32)), .unset, .unset, .unset]) ⟨_, own_EW hw⟩ (plainFor_of_name (by first | (simp [plainName, overriddenIn]; done) | decide +kernel)) (fun m => by first | (simp [entryFrame, mkF, argsToLocals, Value.category]; done) | rfl) ?_
  intro C k
  replace k := k.iloadN d12_0 rfl
  obtain ⟨h101, b101, g101, E101, A101, X101, k⟩ := k.newarr (ad := "[B") d12_1 (hw _ (List.mem_of_getElem? (i := 27) rfl)) (by decide) 3 (by decide) 3 (by decide) (by decide) (by decide) (by decide) (by decide)
  have ge_b101 : n0 ≤ b101 := Nat.le_trans Z0 (Nat.le_of_eq g101.symm)
  have sz_b101 : h0.size ≤ b101 := Nat.le_trans (Keep.refl h0 ([] : List Addr)).1 (Nat.le_of_eq g101.symm)
  have K101 : Keep h0 h101 [] := (Keep.refl h0 ([] : List Addr)).ext E101
  replace k := k.astoreN #[.val (.ref a1), .val (.int (0 : Int32)), .val (.int (3 : Int32)), .val (.ref b101), .unset, .unset] d12_3 rfl rfl
  replace k := k.aloadN d12_4 rfl rfl
  replace k := k.iloadN d12_5 rfl
  replace k := k.aloadN d12_6 rfl rfl
  replace k := k.iconst (0 : Int32) d12_7 rfl
  replace k := k.iloadN d12_8 rfl
  obtain ⟨_, hz102, sp9, ⟨rfl, Kz102, Az102⟩, k⟩ := k.callS (y := (⟨"java/lang/StringUTF16", "compress", "([CI[BII)I"⟩ : MethodName)) d12_9 (hw _ (List.mem_of_getElem? (i := 75) rfl)) (hw _ (List.mem_of_getElem? (i := 76) rfl)) (hw _ (List.mem_of_getElem? (i := 73) rfl)) (hw _ (List.mem_of_getElem? (i := 77) rfl)) (W := 0) (argsL := [(.ref a1), (.int (0 : Int32)), (.ref b101), (.int (0 : Int32)), (.int (3 : Int32))]) (rest := []) (rm13_3 Z a0 hw a1 b101 _ c0 c1 c2 h101 n0 (Nat.ne_of_lt (Nat.lt_of_lt_of_le A1.lt (Nat.le_of_eq g101.symm))) ge_b101 (A1.ext E101) A101 hp0 hp1 hp2) (allS (List.mem_of_getElem? (i := 0) rfl) all0) rfl (pd_3) rfl rfl rfl (by decide) (by decide) (by decide) (by decide) (by decide)
  have Kc103 : Keep h0 hz102 [] := K101.trans Kz102 (allS (Or.inr sz_b101) all0)
  replace k := (k [] all0).sfx [b101] rfl
  replace k := k.stk [(.int (3 : Int32))] rfl
  replace k := k.istore #[.val (.ref a1), .val (.int (0 : Int32)), .val (.int (3 : Int32)), .val (.ref b101), .val (.int (3 : Int32)), .unset] d12_12 rfl
  replace k := k.iload d12_14 rfl
  replace k := k.iloadN d12_16 rfl
  replace k := k.icmpYes (pc' := 57) d12_17 (by decide) (by decide) (by decide)
  replace k := k.aloadN d12_57 rfl rfl
  exact k.aret d12_58 rfl rfl rfl rfl (fun sp hsp => ⟨_, rfl, Kc103, ge_b101, sz_b101, Az102, (X101.keep Kz102)⟩) (by decide) (by decide)

set_option maxRecDepth 65536 in
set_option maxHeartbeats 40000000 in
theorem rm9_3 (Z : State) (a0 : Array Value) (hw : ∀ d ∈ tables_1, d.before a0 Z = true) (a1 a2 : Addr) (zC : Int32) (c0 c1 c2 : Int32) (h0 : Heap) (n0 : Nat) (Z0 : n0 ≤ h0.size) (g1 : n0 ≤ a1) (S_COMPACT : Sta Z h0 "java/lang/String" "COMPACT_STRINGS" "Z" (.int zC)) (hC : ¬ (zC = (0 : Int32))) (E1 : Exa Z h0 a1 "java/lang/String") (F1 : Fld Z h0 a1 "java/lang/String" "value" "[B" .null) (F2 : Fld Z h0 a1 "java/lang/String" "coder" "B" (.int (0 : Int32))) (A2 : Arf Z h0 a2 .char 3 (own_arr [c0, c1, c2])) (hp0 : ¬ ((255 : Int32) < c0)) (hp1 : ¬ ((255 : Int32) < c1)) (hp2 : ¬ ((255 : Int32) < c2)) :
    Con Z n0 (⟨"java/lang/String", "<init>", "([CIILjava/lang/Void;)V"⟩ : MethodName) jdk_42_method_149_code 6 none [] ({ frames := 2, cells := 1, slots := 3, locals := 35 } : Room) #[(.ref a1), (.ref a2), (.int (0 : Int32)), (.int (3 : Int32)), .null] h0 [a1] (fun v h sp => v = none ∧ Keep h0 h [a1] ∧ Fld Z h a1 "java/lang/String" "coder" "B" (.int (0 : Int32)) ∧ ∃ t, n0 ≤ t ∧ h0.size ≤ t ∧ Fld Z h a1 "java/lang/String" "value" "[B" (.ref t) ∧ Arf Z h t .byte 3 (own_arr [(c0.toInt8.toInt32), (c1.toInt8.toInt32), (c2.toInt8.toInt32)]) ∧ Exa Z h t "[B") := by
  refine Con.intro (L0 := #[.val (.ref a1), .val (.ref a2), .val (.int (0 : Int32)), .val (.int (3 : Int32)), .val .null, .unset]) ⟨_, own_EW hw⟩ (plainFor_of_name (by first | (simp [plainName, overriddenIn]; done) | decide +kernel)) (fun m => by first | (simp [entryFrame, mkF, argsToLocals, Value.category]; done) | rfl) ?_
  intro C k
  replace k := k.aloadN d9_0 rfl rfl
  replace k := k.initO (W := 0) d9_1 (hw _ (List.mem_of_getElem? (i := 32) rfl)) (hw _ (List.mem_of_getElem? (i := 33) rfl)) (hw _ (List.mem_of_getElem? (i := 34) rfl)) rfl rfl (by decide) (by decide)
  replace k := k.iloadN d9_4 rfl
  replace k := k.ifYes (pc' := 27) d9_5 (by decide) (by decide) (by decide)
  replace k := k.getS d9_27 (host := "") (Or.inl (hw _ (List.mem_of_getElem? (i := 17) rfl))) Via.refl S_COMPACT
  replace k := k.ifNo d9_30 (feq hC).1
  replace k := k.aloadN d9_33 rfl rfl
  replace k := k.iloadN d9_34 rfl
  replace k := k.iloadN d9_35 rfl
  obtain ⟨_, hy101, sp36, ⟨by101, rfl, Ky101, gby101, zby101, Ay101, Ey101⟩, k⟩ := k.callS (y := (⟨"java/lang/StringUTF16", "compress", "([CII)[B"⟩ : MethodName)) d9_36 (hw _ (List.mem_of_getElem? (i := 71) rfl)) (hw _ (List.mem_of_getElem? (i := 72) rfl)) (hw _ (List.mem_of_getElem? (i := 73) rfl)) (hw _ (List.mem_of_getElem? (i := 74) rfl)) (W := 0) (argsL := [(.ref a2), (.int (0 : Int32)), (.int (3 : Int32))]) (rest := []) (rm12_3 Z a0 hw a2 c0 c1 c2 h0 n0 Z0 A2 hp0 hp1 hp2) all0 rfl (pd_4) rfl rfl rfl (by decide) (by decide) (by decide) (by decide) (by decide)
  have Kc102 : Keep h0 hy101 [a1] := (Keep.refl h0 ([a1] : List Addr)).trans Ky101 all0
  replace k := (k [] all0).sfx [a1] rfl
  replace k := k.stk [(.ref by101)] rfl
  replace k := k.astore #[.val (.ref a1), .val (.ref a2), .val (.int (0 : Int32)), .val (.int (3 : Int32)), .val .null, .val (.ref by101)] d9_39 rfl rfl
  replace k := k.aloadN d9_41 rfl rfl
  replace k := k.aload d9_42 rfl rfl
  replace k := k.iloadN d9_44 rfl
  obtain ⟨_, _, sp45, ⟨rfl, rfl⟩, k⟩ := k.callS (y := (⟨"java/lang/StringUTF16", "coderFromArrayLen", "([BI)B"⟩ : MethodName)) d9_45 (hw _ (List.mem_of_getElem? (i := 78) rfl)) (hw _ (List.mem_of_getElem? (i := 79) rfl)) (hw _ (List.mem_of_getElem? (i := 73) rfl)) (hw _ (List.mem_of_getElem? (i := 80) rfl)) (W := 1) (argsL := [(.ref by101), (.int (3 : Int32))]) (rest := [(.ref a1)]) (rm14_3 Z a0 hw by101 _ hy101 n0 Ay101) all0 rfl (pd_5) rfl rfl rfl (by decide) (by decide) (by decide) (by decide) (by decide)
  replace k := (k [] all0).sfx [a1] rfl
  replace k := k.stk [(.int (0 : Int32)), (.ref a1)] rfl
  obtain ⟨h103, W103, k⟩ := k.putF d9_48 (host := "") (Or.inl (hw _ (List.mem_of_getElem? (i := 37) rfl))) Via.refl (F2.keep Ky101 nin0) (E1.keep Ky101) (Or.inr ⟨(hw _ (List.mem_of_getElem? (i := 38) rfl)), rfl, rfl⟩) (hw _ (List.mem_of_getElem? (i := 23) rfl)) (ty := .byte) (by decide) rfl rfl g1 (List.mem_of_getElem? (i := 0) rfl)
  have Fw103 := Fld.same W103 (F2.keep Ky101 nin0)
  have K103 : Keep h0 h103 [a1] := Kc102.wr W103 (Or.inl (List.mem_of_getElem? (i := 0) rfl))
  replace k := k.aloadN d9_51 rfl rfl
  replace k := k.aload d9_52 rfl rfl
  obtain ⟨h104, W104, k⟩ := k.putF d9_54 (host := "") (Or.inl (hw _ (List.mem_of_getElem? (i := 35) rfl))) Via.refl (Fld.other W103 (F1.keep Ky101 nin0) (Or.inr (slot_ne (Or.inr (hw _ (List.mem_of_getElem? (i := 36) rfl))) (Or.inr (hw _ (List.mem_of_getElem? (i := 38) rfl))) (by decide) (t := (.array .byte)) (t' := .byte) (by decide) (by decide)))) (Exa.wr W103 (E1.keep Ky101)) (Or.inr ⟨(hw _ (List.mem_of_getElem? (i := 36) rfl)), rfl, rfl⟩) (hw _ (List.mem_of_getElem? (i := 23) rfl)) (ty := (.array .byte)) (by decide) rfl rfl g1 (List.mem_of_getElem? (i := 0) rfl)
  have Fw104 := Fld.same W104 (Fld.other W103 (F1.keep Ky101 nin0) (Or.inr (slot_ne (Or.inr (hw _ (List.mem_of_getElem? (i := 36) rfl))) (Or.inr (hw _ (List.mem_of_getElem? (i := 38) rfl))) (by decide) (t := (.array .byte)) (t' := .byte) (by decide) (by decide))))
  have K104 : Keep h0 h104 [a1] := K103.wr W104 (Or.inl (List.mem_of_getElem? (i := 0) rfl))
  exact k.vret d9_57 rfl (fun sp hsp => ⟨rfl, K104, (Fld.other W104 Fw103 (Or.inr (slot_ne (Or.inr (hw _ (List.mem_of_getElem? (i := 38) rfl))) (Or.inr (hw _ (List.mem_of_getElem? (i := 36) rfl))) (by decide) (t := .byte) (t' := (.array .byte)) (by decide) (by decide)))), by101, gby101, zby101, Fw104, ((Ay101.other W103 (Ne.symm (Nat.ne_of_lt (Nat.lt_of_lt_of_le E1.lt zby101)))).other W104 (Ne.symm (Nat.ne_of_lt (Nat.lt_of_lt_of_le E1.lt zby101)))), (Exa.wr W104 (Exa.wr W103 Ey101))⟩) (by decide) (by decide)

set_option maxRecDepth 65536 in
set_option maxHeartbeats 40000000 in
theorem rm8_3 (Z : State) (a0 : Array Value) (hw : ∀ d ∈ tables_1, d.before a0 Z = true) (a1 a2 : Addr) (zC : Int32) (c0 c1 c2 : Int32) (h0 : Heap) (n0 : Nat) (Z0 : n0 ≤ h0.size) (g1 : n0 ≤ a1) (S_COMPACT : Sta Z h0 "java/lang/String" "COMPACT_STRINGS" "Z" (.int zC)) (hC : ¬ (zC = (0 : Int32))) (E1 : Exa Z h0 a1 "java/lang/String") (F1 : Fld Z h0 a1 "java/lang/String" "value" "[B" .null) (F2 : Fld Z h0 a1 "java/lang/String" "coder" "B" (.int (0 : Int32))) (A2 : Arf Z h0 a2 .char 3 (own_arr [c0, c1, c2])) (hp0 : ¬ ((255 : Int32) < c0)) (hp1 : ¬ ((255 : Int32) < c1)) (hp2 : ¬ ((255 : Int32) < c2)) :
    Con Z n0 (⟨"java/lang/String", "<init>", "([C)V"⟩ : MethodName) jdk_42_method_3_code 2 none [] ({ frames := 3, cells := 1, slots := 3, locals := 52 } : Room) #[(.ref a1), (.ref a2)] h0 [a1] (fun v h sp => v = none ∧ Keep h0 h [a1] ∧ Fld Z h a1 "java/lang/String" "coder" "B" (.int (0 : Int32)) ∧ ∃ t, n0 ≤ t ∧ h0.size ≤ t ∧ Fld Z h a1 "java/lang/String" "value" "[B" (.ref t) ∧ Arf Z h t .byte 3 (own_arr [(c0.toInt8.toInt32), (c1.toInt8.toInt32), (c2.toInt8.toInt32)]) ∧ Exa Z h t "[B") := by
  refine Con.intro (L0 := #[.val (.ref a1), .val (.ref a2)]) ⟨_, own_EW hw⟩ (plainFor_of_name (by first | (simp [plainName, overriddenIn]; done) | decide +kernel)) (fun m => by first | (simp [entryFrame, mkF, argsToLocals, Value.category]; done) | rfl) ?_
  intro C k
  replace k := k.aloadN d8_0 rfl rfl
  replace k := k.aloadN d8_1 rfl rfl
  replace k := k.iconst (0 : Int32) d8_2 rfl
  replace k := k.aloadN d8_3 rfl rfl
  replace k := k.arrlen d8_4 A2 (3 : Int32) (by decide)
  replace k := k.aconstNull d8_5
  obtain ⟨_, hx101, sp6, ⟨rfl, Kx101, Px101⟩, k⟩ := k.callI (y := (⟨"java/lang/String", "<init>", "([CIILjava/lang/Void;)V"⟩ : MethodName)) (a := a1) d8_6 rfl (hw _ (List.mem_of_getElem? (i := 44) rfl)) (hw _ (List.mem_of_getElem? (i := 45) rfl)) (hw _ (List.mem_of_getElem? (i := 15) rfl)) (hw _ (List.mem_of_getElem? (i := 46) rfl)) (W := 0) (argsL := [(.ref a2), (.int (0 : Int32)), (.int (3 : Int32)), .null]) (rest := []) (rm9_3 Z a0 hw a1 a2 zC c0 c1 c2 h0 n0 Z0 g1 S_COMPACT hC E1 F1 F2 A2 hp0 hp1 hp2) (allS (List.mem_of_getElem? (i := 0) rfl) all0) rfl (pd_6) rfl rfl rfl (by decide) (by decide) (by decide) (by decide) (by decide)
  have Kc102 : Keep h0 hx101 [a1] := (Keep.refl h0 ([a1] : List Addr)).trans Kx101 (allS (Or.inl (List.mem_of_getElem? (i := 0) rfl)) all0)
  replace k := (k [] all0).sfx [a1] rfl
  replace k := k.stk [] rfl
  exact k.vret d8_9 rfl (fun sp hsp => ⟨rfl, Kx101, Px101⟩) (by decide) (by decide)

theorem d9_8 : decode jdk_42_method_149_code 8 = .ok (.aload_n 0, 1) := by decide +kernel
theorem d9_9 : decode jdk_42_method_149_code 9 = .ok (.ldc 7, 2) := by decide +kernel
theorem d9_11 : decode jdk_42_method_149_code 11 = .ok (.getfield 9, 3) := by decide +kernel
theorem d9_14 : decode jdk_42_method_149_code 14 = .ok (.putfield 9, 3) := by decide +kernel
theorem d9_17 : decode jdk_42_method_149_code 17 = .ok (.aload_n 0, 1) := by decide +kernel
theorem d9_18 : decode jdk_42_method_149_code 18 = .ok (.ldc 7, 2) := by decide +kernel
theorem d9_20 : decode jdk_42_method_149_code 20 = .ok (.getfield 15, 3) := by decide +kernel
theorem d9_23 : decode jdk_42_method_149_code 23 = .ok (.putfield 15, 3) := by decide +kernel
theorem d9_26 : decode jdk_42_method_149_code 26 = .ok (.return_, 1) := by decide +kernel
set_option maxRecDepth 65536 in
set_option maxHeartbeats 40000000 in
theorem rm9_0 (Z : State) (a0 : Array Value) (hw : ∀ d ∈ tables_1, d.before a0 Z = true) (a1 a2 : Addr) (f2 : Nat → Value) (h0 : Heap) (n0 : Nat) (Z0 : n0 ≤ h0.size) (g1 : n0 ≤ a1) (E1 : Exa Z h0 a1 "java/lang/String") (F1 : Fld Z h0 a1 "java/lang/String" "value" "[B" .null) (F2 : Fld Z h0 a1 "java/lang/String" "coder" "B" (.int (0 : Int32))) (A2 : Arf Z h0 a2 .char 0 f2) :
    Con Z n0 (⟨"java/lang/String", "<init>", "([CIILjava/lang/Void;)V"⟩ : MethodName) jdk_42_method_149_code 6 none [] ({ frames := 1, cells := 4, slots := 8, locals := 12 } : Room) #[(.ref a1), (.ref a2), (.int (0 : Int32)), (.int (0 : Int32)), .null] h0 [a1] (fun v h sp => v = none ∧ Keep h0 h [a1] ∧ Fld Z h a1 "java/lang/String" "coder" "B" (.int (0 : Int32)) ∧ ∃ t, Fld Z h a1 "java/lang/String" "value" "[B" (.ref t) ∧ Arf Z h t .byte 0 (own_arr [])) := by
  refine Con.intro (L0 := #[.val (.ref a1), .val (.ref a2), .val (.int (0 : Int32)), .val (.int (0 : Int32)), .val .null, .unset]) ⟨_, own_EW hw⟩ (plainFor_of_name (by first | (simp [plainName, overriddenIn]; done) | decide +kernel)) (fun m => by first | (simp [entryFrame, mkF, argsToLocals, Value.category]; done) | rfl) ?_
  intro C k
  replace k := k.aloadN d9_0 rfl rfl
  replace k := k.initO (W := 0) d9_1 (hw _ (List.mem_of_getElem? (i := 32) rfl)) (hw _ (List.mem_of_getElem? (i := 33) rfl)) (hw _ (List.mem_of_getElem? (i := 34) rfl)) rfl rfl (by decide) (by decide)
  replace k := k.iloadN d9_4 rfl
  replace k := k.ifNo d9_5 (by decide)
  replace k := k.aloadN d9_8 rfl rfl
  obtain ⟨h101, b101, t101, E101, Ex101, Fc101, Fv101, Ab101, ne101, k⟩ := k.ldcLit d9_9 (hw _ (List.mem_of_getElem? (i := 47) rfl)) (fun a ha => hw a (own_sa a ha)) (own_EW hw) (by decide) [] ⟨by decide, by rfl⟩ (0 : Int32) (by decide) (by decide) 0 (by decide) (by decide) (by decide) (by decide)
  have K101 : Keep h0 h101 [a1] := (Keep.refl h0 ([a1] : List Addr)).ext E101
  replace k := k.getF d9_11 (host := "") (Or.inl (hw _ (List.mem_of_getElem? (i := 35) rfl))) Via.refl Fv101
  obtain ⟨h102, W102, k⟩ := k.putF d9_14 (host := "") (Or.inl (hw _ (List.mem_of_getElem? (i := 35) rfl))) Via.refl (Fld.ext E101 F1) (Exa.ext E101 E1) (Or.inr ⟨(hw _ (List.mem_of_getElem? (i := 36) rfl)), rfl, rfl⟩) (hw _ (List.mem_of_getElem? (i := 23) rfl)) (ty := (.array .byte)) (by decide) rfl rfl g1 (List.mem_of_getElem? (i := 0) rfl)
  have Fw102 := Fld.same W102 (Fld.ext E101 F1)
  have K102 : Keep h0 h102 [a1] := K101.wr W102 (Or.inl (List.mem_of_getElem? (i := 0) rfl))
  replace k := k.aloadN d9_17 rfl rfl
  obtain ⟨h103, b103, t103, E103, Ex103, Fc103, Fv103, Ab103, ne103, k⟩ := k.ldcLit d9_18 (hw _ (List.mem_of_getElem? (i := 47) rfl)) (fun a ha => hw a (own_sa a ha)) (own_EW hw) (by decide) [] ⟨by decide, by rfl⟩ (0 : Int32) (by decide) (by decide) 0 (by decide) (by decide) (by decide) (by decide)
  have K103 : Keep h0 h103 [a1] := K102.ext E103
  replace k := k.getF d9_20 (host := "") (Or.inl (hw _ (List.mem_of_getElem? (i := 37) rfl))) Via.refl Fc103
  obtain ⟨h104, W104, k⟩ := k.putF d9_23 (host := "") (Or.inl (hw _ (List.mem_of_getElem? (i := 37) rfl))) Via.refl (Fld.ext E103 (Fld.other W102 (Fld.ext E101 F2) (Or.inr (slot_ne (Or.inr (hw _ (List.mem_of_getElem? (i := 38) rfl))) (Or.inr (hw _ (List.mem_of_getElem? (i := 36) rfl))) (by decide) (t := .byte) (t' := (.array .byte)) (by decide) (by decide))))) (Exa.ext E103 (Exa.wr W102 (Exa.ext E101 E1))) (Or.inr ⟨(hw _ (List.mem_of_getElem? (i := 38) rfl)), rfl, rfl⟩) (hw _ (List.mem_of_getElem? (i := 23) rfl)) (ty := .byte) (by decide) rfl rfl g1 (List.mem_of_getElem? (i := 0) rfl)
  have Fw104 := Fld.same W104 (Fld.ext E103 (Fld.other W102 (Fld.ext E101 F2) (Or.inr (slot_ne (Or.inr (hw _ (List.mem_of_getElem? (i := 38) rfl))) (Or.inr (hw _ (List.mem_of_getElem? (i := 36) rfl))) (by decide) (t := .byte) (t' := (.array .byte)) (by decide) (by decide)))))
  have K104 : Keep h0 h104 [a1] := K103.wr W104 (Or.inl (List.mem_of_getElem? (i := 0) rfl))
  exact k.vret d9_26 rfl (fun sp hsp => ⟨rfl, K104, Fw104, t101, (Fld.other W104 (Fld.ext E103 Fw102) (Or.inr (slot_ne (Or.inr (hw _ (List.mem_of_getElem? (i := 36) rfl))) (Or.inr (hw _ (List.mem_of_getElem? (i := 38) rfl))) (by decide) (t := (.array .byte)) (t' := .byte) (by decide) (by decide)))), (((Ab101.other W102 (Ne.symm (ne101 a1 (List.mem_of_getElem? (i := 0) rfl)).2)).ext E103).other W104 (Ne.symm (ne101 a1 (List.mem_of_getElem? (i := 0) rfl)).2)).congr (fun i hi => absurd hi (Nat.not_lt_zero _))⟩) (by decide) (by decide)

set_option maxRecDepth 65536 in
set_option maxHeartbeats 40000000 in
theorem rm8_0 (Z : State) (a0 : Array Value) (hw : ∀ d ∈ tables_1, d.before a0 Z = true) (a1 a2 : Addr) (f2 : Nat → Value) (h0 : Heap) (n0 : Nat) (Z0 : n0 ≤ h0.size) (g1 : n0 ≤ a1) (E1 : Exa Z h0 a1 "java/lang/String") (F1 : Fld Z h0 a1 "java/lang/String" "value" "[B" .null) (F2 : Fld Z h0 a1 "java/lang/String" "coder" "B" (.int (0 : Int32))) (A2 : Arf Z h0 a2 .char 0 f2) :
    Con Z n0 (⟨"java/lang/String", "<init>", "([C)V"⟩ : MethodName) jdk_42_method_3_code 2 none [] ({ frames := 2, cells := 4, slots := 8, locals := 29 } : Room) #[(.ref a1), (.ref a2)] h0 [a1] (fun v h sp => v = none ∧ Keep h0 h [a1] ∧ Fld Z h a1 "java/lang/String" "coder" "B" (.int (0 : Int32)) ∧ ∃ t, Fld Z h a1 "java/lang/String" "value" "[B" (.ref t) ∧ Arf Z h t .byte 0 (own_arr [])) := by
  refine Con.intro (L0 := #[.val (.ref a1), .val (.ref a2)]) ⟨_, own_EW hw⟩ (plainFor_of_name (by first | (simp [plainName, overriddenIn]; done) | decide +kernel)) (fun m => by first | (simp [entryFrame, mkF, argsToLocals, Value.category]; done) | rfl) ?_
  intro C k
  replace k := k.aloadN d8_0 rfl rfl
  replace k := k.aloadN d8_1 rfl rfl
  replace k := k.iconst (0 : Int32) d8_2 rfl
  replace k := k.aloadN d8_3 rfl rfl
  replace k := k.arrlen d8_4 A2 (0 : Int32) (by decide)
  replace k := k.aconstNull d8_5
  obtain ⟨_, hx101, sp6, ⟨rfl, Kx101, Px101⟩, k⟩ := k.callI (y := (⟨"java/lang/String", "<init>", "([CIILjava/lang/Void;)V"⟩ : MethodName)) (a := a1) d8_6 rfl (hw _ (List.mem_of_getElem? (i := 44) rfl)) (hw _ (List.mem_of_getElem? (i := 45) rfl)) (hw _ (List.mem_of_getElem? (i := 15) rfl)) (hw _ (List.mem_of_getElem? (i := 46) rfl)) (W := 0) (argsL := [(.ref a2), (.int (0 : Int32)), (.int (0 : Int32)), .null]) (rest := []) (rm9_0 Z a0 hw a1 a2 f2 h0 n0 Z0 g1 E1 F1 F2 A2) (allS (List.mem_of_getElem? (i := 0) rfl) all0) rfl (pd_6) rfl rfl rfl (by decide) (by decide) (by decide) (by decide) (by decide)
  have Kc102 : Keep h0 hx101 [a1] := (Keep.refl h0 ([a1] : List Addr)).trans Kx101 (allS (Or.inl (List.mem_of_getElem? (i := 0) rfl)) all0)
  replace k := (k [] all0).sfx [a1] rfl
  replace k := k.stk [] rfl
  exact k.vret d8_9 rfl (fun sp hsp => ⟨rfl, Kx101, Px101⟩) (by decide) (by decide)

theorem d2_0 : decode method_3_code 0 = .ok (.iload_n 0, 1) := by decide +kernel
theorem d2_1 : decode method_3_code 1 = .ok (.ifCond .ne 14, 3) := by decide +kernel
theorem d2_4 : decode method_3_code 4 = .ok (.new 31, 3) := by decide +kernel
theorem d2_7 : decode method_3_code 7 = .ok (.dup, 1) := by decide +kernel
theorem d2_8 : decode method_3_code 8 = .ok (.iconst 0, 1) := by decide +kernel
theorem d2_9 : decode method_3_code 9 = .ok (.newarray .char, 2) := by decide +kernel
theorem d2_11 : decode method_3_code 11 = .ok (.invokespecial 33, 3) := by decide +kernel
theorem d2_14 : decode method_3_code 14 = .ok (.areturn, 1) := by decide +kernel
theorem d2_15 : decode method_3_code 15 = .ok (.iload_n 0, 1) := by decide +kernel
theorem d2_16 : decode method_3_code 16 = .ok (.iconst 1, 1) := by decide +kernel
theorem d2_17 : decode method_3_code 17 = .ok (.if_icmp .ne 8, 3) := by decide +kernel
theorem d2_20 : decode method_3_code 20 = .ok (.iload_n 1, 1) := by decide +kernel
theorem d2_21 : decode method_3_code 21 = .ok (.invokestatic 36, 3) := by decide +kernel
theorem d2_24 : decode method_3_code 24 = .ok (.areturn, 1) := by decide +kernel
theorem d2_25 : decode method_3_code 25 = .ok (.iload_n 0, 1) := by decide +kernel
theorem d2_26 : decode method_3_code 26 = .ok (.iconst 2, 1) := by decide +kernel
theorem d2_27 : decode method_3_code 27 = .ok (.if_icmp .ne 22, 3) := by decide +kernel
theorem d2_30 : decode method_3_code 30 = .ok (.new 31, 3) := by decide +kernel
theorem d2_33 : decode method_3_code 33 = .ok (.dup, 1) := by decide +kernel
theorem d2_34 : decode method_3_code 34 = .ok (.iconst 2, 1) := by decide +kernel
theorem d2_35 : decode method_3_code 35 = .ok (.newarray .char, 2) := by decide +kernel
theorem d2_37 : decode method_3_code 37 = .ok (.dup, 1) := by decide +kernel
theorem d2_38 : decode method_3_code 38 = .ok (.iconst 0, 1) := by decide +kernel
theorem d2_39 : decode method_3_code 39 = .ok (.iload_n 1, 1) := by decide +kernel
theorem d2_40 : decode method_3_code 40 = .ok (.castore, 1) := by decide +kernel
theorem d2_41 : decode method_3_code 41 = .ok (.dup, 1) := by decide +kernel
theorem d2_42 : decode method_3_code 42 = .ok (.iconst 1, 1) := by decide +kernel
theorem d2_43 : decode method_3_code 43 = .ok (.iload_n 2, 1) := by decide +kernel
theorem d2_44 : decode method_3_code 44 = .ok (.castore, 1) := by decide +kernel
theorem d2_45 : decode method_3_code 45 = .ok (.invokespecial 33, 3) := by decide +kernel
theorem d2_48 : decode method_3_code 48 = .ok (.areturn, 1) := by decide +kernel
theorem d2_49 : decode method_3_code 49 = .ok (.new 31, 3) := by decide +kernel
theorem d2_52 : decode method_3_code 52 = .ok (.dup, 1) := by decide +kernel
theorem d2_53 : decode method_3_code 53 = .ok (.iconst 3, 1) := by decide +kernel
theorem d2_54 : decode method_3_code 54 = .ok (.newarray .char, 2) := by decide +kernel
theorem d2_56 : decode method_3_code 56 = .ok (.dup, 1) := by decide +kernel
theorem d2_57 : decode method_3_code 57 = .ok (.iconst 0, 1) := by decide +kernel
theorem d2_58 : decode method_3_code 58 = .ok (.iload_n 1, 1) := by decide +kernel
theorem d2_59 : decode method_3_code 59 = .ok (.castore, 1) := by decide +kernel
theorem d2_60 : decode method_3_code 60 = .ok (.dup, 1) := by decide +kernel
theorem d2_61 : decode method_3_code 61 = .ok (.iconst 1, 1) := by decide +kernel
theorem d2_62 : decode method_3_code 62 = .ok (.iload_n 2, 1) := by decide +kernel
theorem d2_63 : decode method_3_code 63 = .ok (.castore, 1) := by decide +kernel
theorem d2_64 : decode method_3_code 64 = .ok (.dup, 1) := by decide +kernel
theorem d2_65 : decode method_3_code 65 = .ok (.iconst 2, 1) := by decide +kernel
theorem d2_66 : decode method_3_code 66 = .ok (.iload_n 3, 1) := by decide +kernel
theorem d2_67 : decode method_3_code 67 = .ok (.castore, 1) := by decide +kernel
theorem d2_68 : decode method_3_code 68 = .ok (.invokespecial 33, 3) := by decide +kernel
theorem d2_71 : decode method_3_code 71 = .ok (.areturn, 1) := by decide +kernel
set_option maxRecDepth 65536 in
set_option maxHeartbeats 40000000 in
theorem rm2 (Z : State) (a0 : Array Value) (hw : ∀ d ∈ tables_1, d.before a0 Z = true) (p0 c0 c1 c2 zC : Int32) (h0 : Heap) (n0 : Nat) (Z0 : n0 ≤ h0.size) (S_COMPACT : Sta Z h0 "java/lang/String" "COMPACT_STRINGS" "Z" (.int zC)) (hC : ¬ (zC = (0 : Int32))) (hL : p0 = 0 ∨ p0 = 1 ∨ p0 = 2 ∨ p0 = 3) (hk0 : own_ch c0) (hk1 : own_ch c1) (hk2 : own_ch c2) :
    Con Z n0 (⟨"com/example/lieudit/lieudit/FindingEqualsPinLaw", "text", "(ICCC)Ljava/lang/String;"⟩ : MethodName) method_3_code 4 (some (.object "java/lang/String")) [] ({ frames := 4, cells := 6, slots := 12, locals := 66 } : Room) #[(.int p0), (.int c0), (.int c1), (.int c2)] h0 [] (fun v h sp => ∃ b t n, v = some (.ref b) ∧ Keep h0 h [] ∧ h0.size ≤ b ∧ Exa Z h b "java/lang/String" ∧ Fld Z h b "java/lang/String" "coder" "B" (.int (0 : Int32)) ∧ Fld Z h b "java/lang/String" "value" "[B" (.ref t) ∧ Arf Z h t .byte n (own_arr [c0.toInt8.toInt32, c1.toInt8.toInt32, c2.toInt8.toInt32]) ∧ own_small p0 n) := by
  refine Con.intro (L0 := #[.val (.int p0), .val (.int c0), .val (.int c1), .val (.int c2)]) ⟨_, own_EW hw⟩ (plainFor_of_name (by first | (simp [plainName, overriddenIn]; done) | decide +kernel)) (fun m => by first | (simp [entryFrame, mkF, argsToLocals, Value.category]; done) | rfl) ?_
  intro C k
  replace k := k.iloadN d2_0 rfl
  by_cases hc101 : p0 = (0 : Int32)
  · skip
    replace k := k.ifNo d2_1 (teq hc101).2
    obtain ⟨h102, b102, g102, E102, A102, D102, k⟩ := k.newO d2_4 (hw _ (List.mem_of_getElem? (i := 39) rfl)) (hw _ (List.mem_of_getElem? (i := 23) rfl)) (hw _ (List.mem_of_getElem? (i := 15) rfl)) (by decide) (by decide)
    have ge_b102 : n0 ≤ b102 := Nat.le_trans Z0 (Nat.le_of_eq g102.symm)
    have sz_b102 : h0.size ≤ b102 := Nat.le_trans (Keep.refl h0 ([] : List Addr)).1 (Nat.le_of_eq g102.symm)
    have K102 : Keep h0 h102 [] := (Keep.refl h0 ([] : List Addr)).ext E102
    have F_value_b102 : Fld Z h102 b102 "java/lang/String" "value" "[B" .null := D102 (Or.inr (hw _ (List.mem_of_getElem? (i := 36) rfl))) (ty := (.array .byte)) (by decide)
    have F_coder_b102 : Fld Z h102 b102 "java/lang/String" "coder" "B" (.int (0 : Int32)) := D102 (Or.inr (hw _ (List.mem_of_getElem? (i := 38) rfl))) (ty := .byte) (by decide)
    replace k := k.dup d2_7 rfl
    replace k := k.iconst (0 : Int32) d2_8 rfl
    obtain ⟨h103, b103, g103, E103, A103, X103, k⟩ := k.newarr (ad := "[C") d2_9 (hw _ (List.mem_of_getElem? (i := 40) rfl)) (by decide) 0 (by decide) 0 (by decide) (by decide) (by decide) (by decide) (by decide)
    have ge_b103 : n0 ≤ b103 := Nat.le_trans (Nat.le_trans Z0 E102.1) (Nat.le_of_eq g103.symm)
    have sz_b103 : h0.size ≤ b103 := Nat.le_trans K102.1 (Nat.le_of_eq g103.symm)
    have K103 : Keep h0 h103 [] := K102.ext E103
    obtain ⟨_, hs104, sp11, ⟨rfl, Ks104, Fcs104, ts104, Fvs104, Ats104⟩, k⟩ := k.callI (y := (⟨"java/lang/String", "<init>", "([C)V"⟩ : MethodName)) (a := b102) d2_11 rfl (hw _ (List.mem_of_getElem? (i := 41) rfl)) (hw _ (List.mem_of_getElem? (i := 42) rfl)) (hw _ (List.mem_of_getElem? (i := 15) rfl)) (hw _ (List.mem_of_getElem? (i := 43) rfl)) (W := 1) (argsL := [(.ref b103)]) (rest := [(.ref b102)]) (rm8_0 Z a0 hw b102 b103 _ h103 n0 (Nat.le_trans (Nat.le_trans Z0 E102.1) E103.1) ge_b102 (Exa.ext E103 A102) (Fld.ext E103 F_value_b102) (Fld.ext E103 F_coder_b102) A103) (allS (List.mem_of_getElem? (i := 1) rfl) all0) rfl (pd_7) rfl rfl rfl (by decide) (by decide) (by decide) (by decide) (by decide)
    have Kc105 : Keep h0 hs104 [] := K103.trans Ks104 (allS (Or.inr sz_b102) all0)
    replace k := (k [] all0).sfx [b103, b102] rfl
    replace k := k.stk [(.ref b102)] rfl
    exact k.aret d2_14 rfl rfl rfl rfl (fun sp hsp => ⟨_, _, _, rfl, Kc105, sz_b102, ((Exa.ext E103 A102).keep Ks104), Fcs104, Fvs104, (Ats104.congr own_cx0), Or.inl ⟨hc101, rfl⟩⟩) (by decide) (by decide)
  · skip
    replace k := k.ifYes (pc' := 15) d2_1 (feq hc101).2 (by decide) (by decide)
    replace k := k.iloadN d2_15 rfl
    replace k := k.iconst (1 : Int32) d2_16 rfl
    by_cases hc106 : p0 = (1 : Int32)
    · skip
      replace k := k.icmpNo d2_17 (teq hc106).2
      replace k := k.iloadN d2_20 rfl
      obtain ⟨_, hs107, sp21, ⟨bs107, ts107, rfl, Ks107, zs107, Es107, Fcs107, Fvs107, As107⟩, k⟩ := k.callS (y := (⟨"java/lang/String", "valueOf", "(C)Ljava/lang/String;"⟩ : MethodName)) d2_21 (hw _ (List.mem_of_getElem? (i := 13) rfl)) (hw _ (List.mem_of_getElem? (i := 14) rfl)) (hw _ (List.mem_of_getElem? (i := 15) rfl)) (hw _ (List.mem_of_getElem? (i := 16) rfl)) (W := 0) (argsL := [(.int c0)]) (rest := []) (rm3 Z a0 hw c0 zC h0 n0 Z0 S_COMPACT hC (own_cp hk0)) all0 rfl (pd_8) rfl rfl rfl (by decide) (by decide) (by decide) (by decide) (by decide)
      have Kc108 : Keep h0 hs107 [] := (Keep.refl h0 ([] : List Addr)).trans Ks107 all0
      replace k := (k [] all0).sfx [] rfl
      replace k := k.stk [(.ref bs107)] rfl
      exact k.aret d2_24 rfl rfl rfl rfl (fun sp hsp => ⟨_, _, _, rfl, Kc108, zs107, Es107, Fcs107, Fvs107, (As107.congr own_cx1), Or.inr (Or.inl ⟨hc106, rfl⟩)⟩) (by decide) (by decide)
    · skip
      replace k := k.icmpYes (pc' := 25) d2_17 (feq hc106).2 (by decide) (by decide)
      replace k := k.iloadN d2_25 rfl
      replace k := k.iconst (2 : Int32) d2_26 rfl
      by_cases hc109 : p0 = (2 : Int32)
      · skip
        replace k := k.icmpNo d2_27 (teq hc109).2
        obtain ⟨h110, b110, g110, E110, A110, D110, k⟩ := k.newO d2_30 (hw _ (List.mem_of_getElem? (i := 39) rfl)) (hw _ (List.mem_of_getElem? (i := 23) rfl)) (hw _ (List.mem_of_getElem? (i := 15) rfl)) (by decide) (by decide)
        have ge_b110 : n0 ≤ b110 := Nat.le_trans Z0 (Nat.le_of_eq g110.symm)
        have sz_b110 : h0.size ≤ b110 := Nat.le_trans (Keep.refl h0 ([] : List Addr)).1 (Nat.le_of_eq g110.symm)
        have K110 : Keep h0 h110 [] := (Keep.refl h0 ([] : List Addr)).ext E110
        have F_value_b110 : Fld Z h110 b110 "java/lang/String" "value" "[B" .null := D110 (Or.inr (hw _ (List.mem_of_getElem? (i := 36) rfl))) (ty := (.array .byte)) (by decide)
        have F_coder_b110 : Fld Z h110 b110 "java/lang/String" "coder" "B" (.int (0 : Int32)) := D110 (Or.inr (hw _ (List.mem_of_getElem? (i := 38) rfl))) (ty := .byte) (by decide)
        replace k := k.dup d2_33 rfl
        replace k := k.iconst (2 : Int32) d2_34 rfl
        obtain ⟨h111, b111, g111, E111, A111, X111, k⟩ := k.newarr (ad := "[C") d2_35 (hw _ (List.mem_of_getElem? (i := 40) rfl)) (by decide) 2 (by decide) 2 (by decide) (by decide) (by decide) (by decide) (by decide)
        have ge_b111 : n0 ≤ b111 := Nat.le_trans (Nat.le_trans Z0 E110.1) (Nat.le_of_eq g111.symm)
        have sz_b111 : h0.size ≤ b111 := Nat.le_trans K110.1 (Nat.le_of_eq g111.symm)
        have K111 : Keep h0 h111 [] := K110.ext E111
        replace k := k.dup d2_37 rfl
        replace k := k.iconst (0 : Int32) d2_38 rfl
        replace k := k.iloadN d2_39 rfl
        obtain ⟨h112, W112, A112, k⟩ := k.castore d2_40 A111 0 (by decide) (by decide) (by decide) ge_b111 (List.mem_of_getElem? (i := 0) rfl) c0 (own_ci hk0)
        have K112 : Keep h0 h112 [] := K111.wr W112 (Or.inr sz_b111)
        replace k := k.dup d2_41 rfl
        replace k := k.iconst (1 : Int32) d2_42 rfl
        replace k := k.iloadN d2_43 rfl
        obtain ⟨h113, W113, A113, k⟩ := k.castore d2_44 A112 1 (by decide) (by decide) (by decide) ge_b111 (List.mem_of_getElem? (i := 0) rfl) c1 (own_ci hk1)
        have K113 : Keep h0 h113 [] := K112.wr W113 (Or.inr sz_b111)
        obtain ⟨_, hs114, sp45, ⟨rfl, Ks114, Fcs114, ts114, gts114, zts114, Fvs114, Ats114, Ets114⟩, k⟩ := k.callI (y := (⟨"java/lang/String", "<init>", "([C)V"⟩ : MethodName)) (a := b110) d2_45 rfl (hw _ (List.mem_of_getElem? (i := 41) rfl)) (hw _ (List.mem_of_getElem? (i := 42) rfl)) (hw _ (List.mem_of_getElem? (i := 15) rfl)) (hw _ (List.mem_of_getElem? (i := 43) rfl)) (W := 1) (argsL := [(.ref b111)]) (rest := [(.ref b110)]) (rm8_2 Z a0 hw b110 b111 zC c0 c1 h113 n0 (Nat.le_trans (Nat.le_trans (Nat.le_trans (Nat.le_trans Z0 E110.1) E111.1) (Nat.le_of_eq (Wr.size W112).symm)) (Nat.le_of_eq (Wr.size W113).symm)) ge_b110 (Sta.wr W113 (Sta.wr W112 (Sta.ext E111 (Sta.ext E110 S_COMPACT)))) hC (Exa.wr W113 (Exa.wr W112 (Exa.ext E111 A110))) (Fld.other W113 (Fld.other W112 (Fld.ext E111 F_value_b110) (Or.inl (Nat.ne_of_lt (Nat.lt_of_lt_of_le A110.lt (Nat.le_of_eq g111.symm))))) (Or.inl (Nat.ne_of_lt (Nat.lt_of_lt_of_le A110.lt (Nat.le_of_eq g111.symm))))) (Fld.other W113 (Fld.other W112 (Fld.ext E111 F_coder_b110) (Or.inl (Nat.ne_of_lt (Nat.lt_of_lt_of_le A110.lt (Nat.le_of_eq g111.symm))))) (Or.inl (Nat.ne_of_lt (Nat.lt_of_lt_of_le A110.lt (Nat.le_of_eq g111.symm))))) (A113.congr (fun i hi => own_cg2 i hi)) (own_cp hk0) (own_cp hk1)) (allS (List.mem_of_getElem? (i := 1) rfl) all0) rfl (pd_7) rfl rfl rfl (by decide) (by decide) (by decide) (by decide) (by decide)
        have Kc115 : Keep h0 hs114 [] := K113.trans Ks114 (allS (Or.inr sz_b110) all0)
        replace k := (k [] all0).sfx [b111, b110] rfl
        replace k := k.stk [(.ref b110)] rfl
        exact k.aret d2_48 rfl rfl rfl rfl (fun sp hsp => ⟨_, _, _, rfl, Kc115, sz_b110, ((Exa.wr W113 (Exa.wr W112 (Exa.ext E111 A110))).keep Ks114), Fcs114, Fvs114, (Ats114.congr own_cx2), Or.inr (Or.inr (Or.inl ⟨hc109, rfl⟩))⟩) (by decide) (by decide)
      · skip
        replace k := k.icmpYes (pc' := 49) d2_27 (feq hc109).2 (by decide) (by decide)
        obtain ⟨h116, b116, g116, E116, A116, D116, k⟩ := k.newO d2_49 (hw _ (List.mem_of_getElem? (i := 39) rfl)) (hw _ (List.mem_of_getElem? (i := 23) rfl)) (hw _ (List.mem_of_getElem? (i := 15) rfl)) (by decide) (by decide)
        have ge_b116 : n0 ≤ b116 := Nat.le_trans Z0 (Nat.le_of_eq g116.symm)
        have sz_b116 : h0.size ≤ b116 := Nat.le_trans (Keep.refl h0 ([] : List Addr)).1 (Nat.le_of_eq g116.symm)
        have K116 : Keep h0 h116 [] := (Keep.refl h0 ([] : List Addr)).ext E116
        have F_value_b116 : Fld Z h116 b116 "java/lang/String" "value" "[B" .null := D116 (Or.inr (hw _ (List.mem_of_getElem? (i := 36) rfl))) (ty := (.array .byte)) (by decide)
        have F_coder_b116 : Fld Z h116 b116 "java/lang/String" "coder" "B" (.int (0 : Int32)) := D116 (Or.inr (hw _ (List.mem_of_getElem? (i := 38) rfl))) (ty := .byte) (by decide)
        replace k := k.dup d2_52 rfl
        replace k := k.iconst (3 : Int32) d2_53 rfl
        obtain ⟨h117, b117, g117, E117, A117, X117, k⟩ := k.newarr (ad := "[C") d2_54 (hw _ (List.mem_of_getElem? (i := 40) rfl)) (by decide) 3 (by decide) 3 (by decide) (by decide) (by decide) (by decide) (by decide)
        have ge_b117 : n0 ≤ b117 := Nat.le_trans (Nat.le_trans Z0 E116.1) (Nat.le_of_eq g117.symm)
        have sz_b117 : h0.size ≤ b117 := Nat.le_trans K116.1 (Nat.le_of_eq g117.symm)
        have K117 : Keep h0 h117 [] := K116.ext E117
        replace k := k.dup d2_56 rfl
        replace k := k.iconst (0 : Int32) d2_57 rfl
        replace k := k.iloadN d2_58 rfl
        obtain ⟨h118, W118, A118, k⟩ := k.castore d2_59 A117 0 (by decide) (by decide) (by decide) ge_b117 (List.mem_of_getElem? (i := 0) rfl) c0 (own_ci hk0)
        have K118 : Keep h0 h118 [] := K117.wr W118 (Or.inr sz_b117)
        replace k := k.dup d2_60 rfl
        replace k := k.iconst (1 : Int32) d2_61 rfl
        replace k := k.iloadN d2_62 rfl
        obtain ⟨h119, W119, A119, k⟩ := k.castore d2_63 A118 1 (by decide) (by decide) (by decide) ge_b117 (List.mem_of_getElem? (i := 0) rfl) c1 (own_ci hk1)
        have K119 : Keep h0 h119 [] := K118.wr W119 (Or.inr sz_b117)
        replace k := k.dup d2_64 rfl
        replace k := k.iconst (2 : Int32) d2_65 rfl
        replace k := k.iloadN d2_66 rfl
        obtain ⟨h120, W120, A120, k⟩ := k.castore d2_67 A119 2 (by decide) (by decide) (by decide) ge_b117 (List.mem_of_getElem? (i := 0) rfl) c2 (own_ci hk2)
        have K120 : Keep h0 h120 [] := K119.wr W120 (Or.inr sz_b117)
        obtain ⟨_, hs121, sp68, ⟨rfl, Ks121, Fcs121, ts121, gts121, zts121, Fvs121, Ats121, Ets121⟩, k⟩ := k.callI (y := (⟨"java/lang/String", "<init>", "([C)V"⟩ : MethodName)) (a := b116) d2_68 rfl (hw _ (List.mem_of_getElem? (i := 41) rfl)) (hw _ (List.mem_of_getElem? (i := 42) rfl)) (hw _ (List.mem_of_getElem? (i := 15) rfl)) (hw _ (List.mem_of_getElem? (i := 43) rfl)) (W := 1) (argsL := [(.ref b117)]) (rest := [(.ref b116)]) (rm8_3 Z a0 hw b116 b117 zC c0 c1 c2 h120 n0 (Nat.le_trans (Nat.le_trans (Nat.le_trans (Nat.le_trans (Nat.le_trans Z0 E116.1) E117.1) (Nat.le_of_eq (Wr.size W118).symm)) (Nat.le_of_eq (Wr.size W119).symm)) (Nat.le_of_eq (Wr.size W120).symm)) ge_b116 (Sta.wr W120 (Sta.wr W119 (Sta.wr W118 (Sta.ext E117 (Sta.ext E116 S_COMPACT))))) hC (Exa.wr W120 (Exa.wr W119 (Exa.wr W118 (Exa.ext E117 A116)))) (Fld.other W120 (Fld.other W119 (Fld.other W118 (Fld.ext E117 F_value_b116) (Or.inl (Nat.ne_of_lt (Nat.lt_of_lt_of_le A116.lt (Nat.le_of_eq g117.symm))))) (Or.inl (Nat.ne_of_lt (Nat.lt_of_lt_of_le A116.lt (Nat.le_of_eq g117.symm))))) (Or.inl (Nat.ne_of_lt (Nat.lt_of_lt_of_le A116.lt (Nat.le_of_eq g117.symm))))) (Fld.other W120 (Fld.other W119 (Fld.other W118 (Fld.ext E117 F_coder_b116) (Or.inl (Nat.ne_of_lt (Nat.lt_of_lt_of_le A116.lt (Nat.le_of_eq g117.symm))))) (Or.inl (Nat.ne_of_lt (Nat.lt_of_lt_of_le A116.lt (Nat.le_of_eq g117.symm))))) (Or.inl (Nat.ne_of_lt (Nat.lt_of_lt_of_le A116.lt (Nat.le_of_eq g117.symm))))) (A120.congr (fun i hi => own_cg3 i hi)) (own_cp hk0) (own_cp hk1) (own_cp hk2)) (allS (List.mem_of_getElem? (i := 1) rfl) all0) rfl (pd_7) rfl rfl rfl (by decide) (by decide) (by decide) (by decide) (by decide)
        have Kc122 : Keep h0 hs121 [] := K120.trans Ks121 (allS (Or.inr sz_b116) all0)
        replace k := (k [] all0).sfx [b117, b116] rfl
        replace k := k.stk [(.ref b116)] rfl
        exact k.aret d2_71 rfl rfl rfl rfl (fun sp hsp => ⟨_, _, _, rfl, Kc122, sz_b116, ((Exa.wr W120 (Exa.wr W119 (Exa.wr W118 (Exa.ext E117 A116)))).keep Ks121), Fcs121, Fvs121, Ats121, own_s3 hL hc101 hc106 hc109⟩) (by decide) (by decide)

theorem d10_0 : decode prog_10_method_1_code 0 = .ok (.aload_n 0, 1) := by decide +kernel
theorem d10_1 : decode prog_10_method_1_code 1 = .ok (.invokespecial 1, 3) := by decide +kernel
theorem d10_4 : decode prog_10_method_1_code 4 = .ok (.aload_n 0, 1) := by decide +kernel
theorem d10_5 : decode prog_10_method_1_code 5 = .ok (.aload_n 1, 1) := by decide +kernel
theorem d10_6 : decode prog_10_method_1_code 6 = .ok (.putfield 7, 3) := by decide +kernel
theorem d10_9 : decode prog_10_method_1_code 9 = .ok (.aload_n 0, 1) := by decide +kernel
theorem d10_10 : decode prog_10_method_1_code 10 = .ok (.aload_n 2, 1) := by decide +kernel
theorem d10_11 : decode prog_10_method_1_code 11 = .ok (.putfield 13, 3) := by decide +kernel
theorem d10_14 : decode prog_10_method_1_code 14 = .ok (.return_, 1) := by decide +kernel
set_option maxRecDepth 65536 in
set_option maxHeartbeats 40000000 in
theorem rm10 (Z : State) (a0 : Array Value) (hw : ∀ d ∈ tables_1, d.before a0 Z = true) (a1 a2 a3 : Addr) (h0 : Heap) (n0 : Nat) (Z0 : n0 ≤ h0.size) (g1 : n0 ≤ a1) (E1 : Exa Z h0 a1 "com/example/lieudit/lieudit/Finding") (F1 : Fld Z h0 a1 "com/example/lieudit/lieudit/Finding" "rule" "Lcom/example/lieudit/lieudit/Rule;" .null) (F2 : Fld Z h0 a1 "com/example/lieudit/lieudit/Finding" "detail" "Ljava/lang/String;" .null) :
    Con Z n0 (⟨"com/example/lieudit/lieudit/Finding", "<init>", "(Lcom/example/lieudit/lieudit/Rule;Ljava/lang/String;)V"⟩ : MethodName) prog_10_method_1_code 3 none [] ({ frames := 1, cells := 0, slots := 0, locals := 12 } : Room) #[(.ref a1), (.ref a2), (.ref a3)] h0 [a1] (fun v h sp => v = none ∧ Keep h0 h [a1] ∧ Fld Z h a1 "com/example/lieudit/lieudit/Finding" "rule" "Lcom/example/lieudit/lieudit/Rule;" (.ref a2) ∧ Fld Z h a1 "com/example/lieudit/lieudit/Finding" "detail" "Ljava/lang/String;" (.ref a3)) := by
  refine Con.intro (L0 := #[.val (.ref a1), .val (.ref a2), .val (.ref a3)]) ⟨_, own_EW hw⟩ (plainFor_of_name (by first | (simp [plainName, overriddenIn]; done) | decide +kernel)) (fun m => by first | (simp [entryFrame, mkF, argsToLocals, Value.category]; done) | rfl) ?_
  intro C k
  replace k := k.aloadN d10_0 rfl rfl
  replace k := k.initO (W := 0) d10_1 (hw _ (List.mem_of_getElem? (i := 56) rfl)) (hw _ (List.mem_of_getElem? (i := 33) rfl)) (hw _ (List.mem_of_getElem? (i := 34) rfl)) rfl rfl (by decide) (by decide)
  replace k := k.aloadN d10_4 rfl rfl
  replace k := k.aloadN d10_5 rfl rfl
  obtain ⟨h101, W101, k⟩ := k.putF d10_6 (host := "") (Or.inl (hw _ (List.mem_of_getElem? (i := 57) rfl))) Via.refl F1 E1 (Or.inr ⟨(hw _ (List.mem_of_getElem? (i := 58) rfl)), rfl, rfl⟩) (hw _ (List.mem_of_getElem? (i := 51) rfl)) (ty := (.object "com/example/lieudit/lieudit/Rule")) (by decide) rfl rfl g1 (List.mem_of_getElem? (i := 0) rfl)
  have Fw101 := Fld.same W101 F1
  have K101 : Keep h0 h101 [a1] := (Keep.refl h0 ([a1] : List Addr)).wr W101 (Or.inl (List.mem_of_getElem? (i := 0) rfl))
  replace k := k.aloadN d10_9 rfl rfl
  replace k := k.aloadN d10_10 rfl rfl
  obtain ⟨h102, W102, k⟩ := k.putF d10_11 (host := "") (Or.inl (hw _ (List.mem_of_getElem? (i := 59) rfl))) Via.refl (Fld.other W101 F2 (Or.inr (slot_ne (Or.inr (hw _ (List.mem_of_getElem? (i := 60) rfl))) (Or.inr (hw _ (List.mem_of_getElem? (i := 58) rfl))) (by decide) (t := (.object "java/lang/String")) (t' := (.object "com/example/lieudit/lieudit/Rule")) (by decide) (by decide)))) (Exa.wr W101 E1) (Or.inr ⟨(hw _ (List.mem_of_getElem? (i := 60) rfl)), rfl, rfl⟩) (hw _ (List.mem_of_getElem? (i := 51) rfl)) (ty := (.object "java/lang/String")) (by decide) rfl rfl g1 (List.mem_of_getElem? (i := 0) rfl)
  have Fw102 := Fld.same W102 (Fld.other W101 F2 (Or.inr (slot_ne (Or.inr (hw _ (List.mem_of_getElem? (i := 60) rfl))) (Or.inr (hw _ (List.mem_of_getElem? (i := 58) rfl))) (by decide) (t := (.object "java/lang/String")) (t' := (.object "com/example/lieudit/lieudit/Rule")) (by decide) (by decide))))
  have K102 : Keep h0 h102 [a1] := K101.wr W102 (Or.inl (List.mem_of_getElem? (i := 0) rfl))
  exact k.vret d10_14 rfl (fun sp hsp => ⟨rfl, K102, (Fld.other W102 Fw101 (Or.inr (slot_ne (Or.inr (hw _ (List.mem_of_getElem? (i := 58) rfl))) (Or.inr (hw _ (List.mem_of_getElem? (i := 60) rfl))) (by decide) (t := (.object "com/example/lieudit/lieudit/Rule")) (t' := (.object "java/lang/String")) (by decide) (by decide)))), Fw102⟩) (by decide) (by decide)

theorem d16_0 : decode jdk_43_method_13_code 0 = .ok (.aload_n 0, 1) := by decide +kernel
theorem d16_1 : decode jdk_43_method_13_code 1 = .ok (.arraylength, 1) := by decide +kernel
theorem d16_2 : decode jdk_43_method_13_code 2 = .ok (.aload_n 1, 1) := by decide +kernel
theorem d16_3 : decode jdk_43_method_13_code 3 = .ok (.arraylength, 1) := by decide +kernel
theorem d16_4 : decode jdk_43_method_13_code 4 = .ok (.if_icmp .ne 30, 3) := by decide +kernel
theorem d16_7 : decode jdk_43_method_13_code 7 = .ok (.iconst 0, 1) := by decide +kernel
theorem d16_8 : decode jdk_43_method_13_code 8 = .ok (.istore_n 2, 1) := by decide +kernel
theorem d16_9 : decode jdk_43_method_13_code 9 = .ok (.iload_n 2, 1) := by decide +kernel
theorem d16_10 : decode jdk_43_method_13_code 10 = .ok (.aload_n 0, 1) := by decide +kernel
theorem d16_11 : decode jdk_43_method_13_code 11 = .ok (.arraylength, 1) := by decide +kernel
theorem d16_12 : decode jdk_43_method_13_code 12 = .ok (.if_icmp .ge 20, 3) := by decide +kernel
theorem d16_15 : decode jdk_43_method_13_code 15 = .ok (.aload_n 0, 1) := by decide +kernel
theorem d16_16 : decode jdk_43_method_13_code 16 = .ok (.iload_n 2, 1) := by decide +kernel
theorem d16_17 : decode jdk_43_method_13_code 17 = .ok (.baload, 1) := by decide +kernel
theorem d16_18 : decode jdk_43_method_13_code 18 = .ok (.aload_n 1, 1) := by decide +kernel
theorem d16_19 : decode jdk_43_method_13_code 19 = .ok (.iload_n 2, 1) := by decide +kernel
theorem d16_20 : decode jdk_43_method_13_code 20 = .ok (.baload, 1) := by decide +kernel
theorem d16_21 : decode jdk_43_method_13_code 21 = .ok (.if_icmp .eq 5, 3) := by decide +kernel
theorem d16_24 : decode jdk_43_method_13_code 24 = .ok (.iconst 0, 1) := by decide +kernel
theorem d16_25 : decode jdk_43_method_13_code 25 = .ok (.ireturn, 1) := by decide +kernel
theorem d16_26 : decode jdk_43_method_13_code 26 = .ok (.iinc 2 1, 3) := by decide +kernel
theorem d16_29 : decode jdk_43_method_13_code 29 = .ok (.goto (-20), 3) := by decide +kernel
theorem d16_32 : decode jdk_43_method_13_code 32 = .ok (.iconst 1, 1) := by decide +kernel
theorem d16_33 : decode jdk_43_method_13_code 33 = .ok (.ireturn, 1) := by decide +kernel
theorem d16_34 : decode jdk_43_method_13_code 34 = .ok (.iconst 0, 1) := by decide +kernel
theorem d16_35 : decode jdk_43_method_13_code 35 = .ok (.ireturn, 1) := by decide +kernel
set_option maxRecDepth 65536 in
set_option maxHeartbeats 40000000 in
theorem rm16 (Z : State) (a0 : Array Value) (hw : ∀ d ∈ tables_1, d.before a0 Z = true) (a1 a2 : Addr) (n1 n2 : Nat) (z1 x0 x1 x2 z2 y0 y1 y2 : Int32) (h0 : Heap) (n0 : Nat) (A1 : Arf Z h0 a1 .byte n1 (own_arr [x0, x1, x2])) (A2 : Arf Z h0 a2 .byte n2 (own_arr [y0, y1, y2])) (hz1 : own_small z1 n1) (hz2 : own_small z2 n2) :
    Con Z n0 (⟨"java/lang/StringLatin1", "equals", "([B[B)Z"⟩ : MethodName) jdk_43_method_13_code 3 (some .boolean) [] ({ frames := 0, cells := 0, slots := 0, locals := 0 } : Room) #[(.ref a1), (.ref a2)] h0 [] (fun v h sp => v = some (.int (own_eqs z1 x0 x1 x2 z2 y0 y1 y2)) ∧ h0 = h) := by
  refine Con.intro (L0 := #[.val (.ref a1), .val (.ref a2), .unset]) ⟨_, own_EW hw⟩ (plainFor_of_name (by first | (simp [plainName, overriddenIn]; done) | decide +kernel)) (fun m => by first | (simp [entryFrame, mkF, argsToLocals, Value.category]; done) | rfl) ?_
  intro C k
  rcases hz1 with ⟨rfl, rfl⟩ | ⟨rfl, rfl⟩ | ⟨rfl, rfl⟩ | ⟨rfl, rfl⟩
  · skip
    rcases hz2 with ⟨rfl, rfl⟩ | ⟨rfl, rfl⟩ | ⟨rfl, rfl⟩ | ⟨rfl, rfl⟩
    · skip
      replace k := k.aloadN d16_0 rfl rfl
      replace k := k.arrlen d16_1 A1 (0 : Int32) (by decide)
      replace k := k.aloadN d16_2 rfl rfl
      replace k := k.arrlen d16_3 A2 (0 : Int32) (by decide)
      replace k := k.icmpNo d16_4 (by decide)
      replace k := k.iconst (0 : Int32) d16_7 rfl
      replace k := k.istoreN #[.val (.ref a1), .val (.ref a2), .val (.int (0 : Int32))] d16_8 rfl
      replace k := k.iloadN d16_9 rfl
      replace k := k.aloadN d16_10 rfl rfl
      replace k := k.arrlen d16_11 A1 (0 : Int32) (by decide)
      replace k := k.icmpYes (pc' := 32) d16_12 (by decide) (by decide) (by decide)
      replace k := k.iconst (1 : Int32) d16_32 rfl
      exact k.iret d16_33 rfl (by simp) rfl (fun sp hsp => ⟨by simp [own_eqs], rfl⟩) (by decide) (by decide)
    · skip
      replace k := k.aloadN d16_0 rfl rfl
      replace k := k.arrlen d16_1 A1 (0 : Int32) (by decide)
      replace k := k.aloadN d16_2 rfl rfl
      replace k := k.arrlen d16_3 A2 (1 : Int32) (by decide)
      replace k := k.icmpYes (pc' := 34) d16_4 (by decide) (by decide) (by decide)
      replace k := k.iconst (0 : Int32) d16_34 rfl
      exact k.iret d16_35 rfl (by simp) rfl (fun sp hsp => ⟨by simp [own_eqs], rfl⟩) (by decide) (by decide)
    · skip
      replace k := k.aloadN d16_0 rfl rfl
      replace k := k.arrlen d16_1 A1 (0 : Int32) (by decide)
      replace k := k.aloadN d16_2 rfl rfl
      replace k := k.arrlen d16_3 A2 (2 : Int32) (by decide)
      replace k := k.icmpYes (pc' := 34) d16_4 (by decide) (by decide) (by decide)
      replace k := k.iconst (0 : Int32) d16_34 rfl
      exact k.iret d16_35 rfl (by simp) rfl (fun sp hsp => ⟨by simp [own_eqs], rfl⟩) (by decide) (by decide)
    · skip
      replace k := k.aloadN d16_0 rfl rfl
      replace k := k.arrlen d16_1 A1 (0 : Int32) (by decide)
      replace k := k.aloadN d16_2 rfl rfl
      replace k := k.arrlen d16_3 A2 (3 : Int32) (by decide)
      replace k := k.icmpYes (pc' := 34) d16_4 (by decide) (by decide) (by decide)
      replace k := k.iconst (0 : Int32) d16_34 rfl
      exact k.iret d16_35 rfl (by simp) rfl (fun sp hsp => ⟨by simp [own_eqs], rfl⟩) (by decide) (by decide)
  · skip
    rcases hz2 with ⟨rfl, rfl⟩ | ⟨rfl, rfl⟩ | ⟨rfl, rfl⟩ | ⟨rfl, rfl⟩
    · skip
      replace k := k.aloadN d16_0 rfl rfl
      replace k := k.arrlen d16_1 A1 (1 : Int32) (by decide)
      replace k := k.aloadN d16_2 rfl rfl
      replace k := k.arrlen d16_3 A2 (0 : Int32) (by decide)
      replace k := k.icmpYes (pc' := 34) d16_4 (by decide) (by decide) (by decide)
      replace k := k.iconst (0 : Int32) d16_34 rfl
      exact k.iret d16_35 rfl (by simp) rfl (fun sp hsp => ⟨by simp [own_eqs], rfl⟩) (by decide) (by decide)
    · skip
      replace k := k.aloadN d16_0 rfl rfl
      replace k := k.arrlen d16_1 A1 (1 : Int32) (by decide)
      replace k := k.aloadN d16_2 rfl rfl
      replace k := k.arrlen d16_3 A2 (1 : Int32) (by decide)
      replace k := k.icmpNo d16_4 (by decide)
      replace k := k.iconst (0 : Int32) d16_7 rfl
      replace k := k.istoreN #[.val (.ref a1), .val (.ref a2), .val (.int (0 : Int32))] d16_8 rfl
      replace k := k.iloadN d16_9 rfl
      replace k := k.aloadN d16_10 rfl rfl
      replace k := k.arrlen d16_11 A1 (1 : Int32) (by decide)
      replace k := k.icmpNo d16_12 (by decide)
      replace k := k.aloadN d16_15 rfl rfl
      replace k := k.iloadN d16_16 rfl
      replace k := k.baload d16_17 A1  0 (by decide) (by decide) (by decide) (.int x0) rfl
      replace k := k.aloadN d16_18 rfl rfl
      replace k := k.iloadN d16_19 rfl
      replace k := k.baload d16_20 A2  0 (by decide) (by decide) (by decide) (.int y0) rfl
      by_cases hc101 : x0 = y0
      · skip
        replace k := k.icmpYes (pc' := 26) d16_21 (teq hc101).1 (by decide) (by decide)
        replace k := k.iinc (1 : Int32) #[.val (.ref a1), .val (.ref a2), .val (.int ((0 : Int32) + (1 : Int32)))] d16_26 rfl rfl rfl
        replace k := k.loc #[.val (.ref a1), .val (.ref a2), .val (.int (1 : Int32))] (by rfl)
        replace k := k.goto (pc' := 9) d16_29 (by decide) (by decide)
        replace k := k.iloadN d16_9 rfl
        replace k := k.aloadN d16_10 rfl rfl
        replace k := k.arrlen d16_11 A1 (1 : Int32) (by decide)
        replace k := k.icmpYes (pc' := 32) d16_12 (by decide) (by decide) (by decide)
        replace k := k.iconst (1 : Int32) d16_32 rfl
        exact k.iret d16_33 rfl (by simp) rfl (fun sp hsp => ⟨by simp [own_eqs, hc101], rfl⟩) (by decide) (by decide)
      · skip
        replace k := k.icmpNo d16_21 (feq hc101).1
        replace k := k.iconst (0 : Int32) d16_24 rfl
        exact k.iret d16_25 rfl (by simp) rfl (fun sp hsp => ⟨by simp [own_eqs, hc101], rfl⟩) (by decide) (by decide)
    · skip
      replace k := k.aloadN d16_0 rfl rfl
      replace k := k.arrlen d16_1 A1 (1 : Int32) (by decide)
      replace k := k.aloadN d16_2 rfl rfl
      replace k := k.arrlen d16_3 A2 (2 : Int32) (by decide)
      replace k := k.icmpYes (pc' := 34) d16_4 (by decide) (by decide) (by decide)
      replace k := k.iconst (0 : Int32) d16_34 rfl
      exact k.iret d16_35 rfl (by simp) rfl (fun sp hsp => ⟨by simp [own_eqs], rfl⟩) (by decide) (by decide)
    · skip
      replace k := k.aloadN d16_0 rfl rfl
      replace k := k.arrlen d16_1 A1 (1 : Int32) (by decide)
      replace k := k.aloadN d16_2 rfl rfl
      replace k := k.arrlen d16_3 A2 (3 : Int32) (by decide)
      replace k := k.icmpYes (pc' := 34) d16_4 (by decide) (by decide) (by decide)
      replace k := k.iconst (0 : Int32) d16_34 rfl
      exact k.iret d16_35 rfl (by simp) rfl (fun sp hsp => ⟨by simp [own_eqs], rfl⟩) (by decide) (by decide)
  · skip
    rcases hz2 with ⟨rfl, rfl⟩ | ⟨rfl, rfl⟩ | ⟨rfl, rfl⟩ | ⟨rfl, rfl⟩
    · skip
      replace k := k.aloadN d16_0 rfl rfl
      replace k := k.arrlen d16_1 A1 (2 : Int32) (by decide)
      replace k := k.aloadN d16_2 rfl rfl
      replace k := k.arrlen d16_3 A2 (0 : Int32) (by decide)
      replace k := k.icmpYes (pc' := 34) d16_4 (by decide) (by decide) (by decide)
      replace k := k.iconst (0 : Int32) d16_34 rfl
      exact k.iret d16_35 rfl (by simp) rfl (fun sp hsp => ⟨by simp [own_eqs], rfl⟩) (by decide) (by decide)
    · skip
      replace k := k.aloadN d16_0 rfl rfl
      replace k := k.arrlen d16_1 A1 (2 : Int32) (by decide)
      replace k := k.aloadN d16_2 rfl rfl
      replace k := k.arrlen d16_3 A2 (1 : Int32) (by decide)
      replace k := k.icmpYes (pc' := 34) d16_4 (by decide) (by decide) (by decide)
      replace k := k.iconst (0 : Int32) d16_34 rfl
      exact k.iret d16_35 rfl (by simp) rfl (fun sp hsp => ⟨by simp [own_eqs], rfl⟩) (by decide) (by decide)
    · skip
      replace k := k.aloadN d16_0 rfl rfl
      replace k := k.arrlen d16_1 A1 (2 : Int32) (by decide)
      replace k := k.aloadN d16_2 rfl rfl
      replace k := k.arrlen d16_3 A2 (2 : Int32) (by decide)
      replace k := k.icmpNo d16_4 (by decide)
      replace k := k.iconst (0 : Int32) d16_7 rfl
      replace k := k.istoreN #[.val (.ref a1), .val (.ref a2), .val (.int (0 : Int32))] d16_8 rfl
      replace k := k.iloadN d16_9 rfl
      replace k := k.aloadN d16_10 rfl rfl
      replace k := k.arrlen d16_11 A1 (2 : Int32) (by decide)
      replace k := k.icmpNo d16_12 (by decide)
      replace k := k.aloadN d16_15 rfl rfl
      replace k := k.iloadN d16_16 rfl
      replace k := k.baload d16_17 A1  0 (by decide) (by decide) (by decide) (.int x0) rfl
      replace k := k.aloadN d16_18 rfl rfl
      replace k := k.iloadN d16_19 rfl
      replace k := k.baload d16_20 A2  0 (by decide) (by decide) (by decide) (.int y0) rfl
      by_cases hc102 : x0 = y0
      · skip
        replace k := k.icmpYes (pc' := 26) d16_21 (teq hc102).1 (by decide) (by decide)
        replace k := k.iinc (1 : Int32) #[.val (.ref a1), .val (.ref a2), .val (.int ((0 : Int32) + (1 : Int32)))] d16_26 rfl rfl rfl
        replace k := k.loc #[.val (.ref a1), .val (.ref a2), .val (.int (1 : Int32))] (by rfl)
        replace k := k.goto (pc' := 9) d16_29 (by decide) (by decide)
        replace k := k.iloadN d16_9 rfl
        replace k := k.aloadN d16_10 rfl rfl
        replace k := k.arrlen d16_11 A1 (2 : Int32) (by decide)
        replace k := k.icmpNo d16_12 (by decide)
        replace k := k.aloadN d16_15 rfl rfl
        replace k := k.iloadN d16_16 rfl
        replace k := k.baload d16_17 A1  1 (by decide) (by decide) (by decide) (.int x1) rfl
        replace k := k.aloadN d16_18 rfl rfl
        replace k := k.iloadN d16_19 rfl
        replace k := k.baload d16_20 A2  1 (by decide) (by decide) (by decide) (.int y1) rfl
        by_cases hc103 : x1 = y1
        · skip
          replace k := k.icmpYes (pc' := 26) d16_21 (teq hc103).1 (by decide) (by decide)
          replace k := k.iinc (1 : Int32) #[.val (.ref a1), .val (.ref a2), .val (.int ((1 : Int32) + (1 : Int32)))] d16_26 rfl rfl rfl
          replace k := k.loc #[.val (.ref a1), .val (.ref a2), .val (.int (2 : Int32))] (by rfl)
          replace k := k.goto (pc' := 9) d16_29 (by decide) (by decide)
          replace k := k.iloadN d16_9 rfl
          replace k := k.aloadN d16_10 rfl rfl
          replace k := k.arrlen d16_11 A1 (2 : Int32) (by decide)
          replace k := k.icmpYes (pc' := 32) d16_12 (by decide) (by decide) (by decide)
          replace k := k.iconst (1 : Int32) d16_32 rfl
          exact k.iret d16_33 rfl (by simp) rfl (fun sp hsp => ⟨by simp [own_eqs, hc102, hc103], rfl⟩) (by decide) (by decide)
        · skip
          replace k := k.icmpNo d16_21 (feq hc103).1
          replace k := k.iconst (0 : Int32) d16_24 rfl
          exact k.iret d16_25 rfl (by simp) rfl (fun sp hsp => ⟨by simp [own_eqs, hc102, hc103], rfl⟩) (by decide) (by decide)
      · skip
        replace k := k.icmpNo d16_21 (feq hc102).1
        replace k := k.iconst (0 : Int32) d16_24 rfl
        exact k.iret d16_25 rfl (by simp) rfl (fun sp hsp => ⟨by simp [own_eqs, hc102], rfl⟩) (by decide) (by decide)
    · skip
      replace k := k.aloadN d16_0 rfl rfl
      replace k := k.arrlen d16_1 A1 (2 : Int32) (by decide)
      replace k := k.aloadN d16_2 rfl rfl
      replace k := k.arrlen d16_3 A2 (3 : Int32) (by decide)
      replace k := k.icmpYes (pc' := 34) d16_4 (by decide) (by decide) (by decide)
      replace k := k.iconst (0 : Int32) d16_34 rfl
      exact k.iret d16_35 rfl (by simp) rfl (fun sp hsp => ⟨by simp [own_eqs], rfl⟩) (by decide) (by decide)
  · skip
    rcases hz2 with ⟨rfl, rfl⟩ | ⟨rfl, rfl⟩ | ⟨rfl, rfl⟩ | ⟨rfl, rfl⟩
    · skip
      replace k := k.aloadN d16_0 rfl rfl
      replace k := k.arrlen d16_1 A1 (3 : Int32) (by decide)
      replace k := k.aloadN d16_2 rfl rfl
      replace k := k.arrlen d16_3 A2 (0 : Int32) (by decide)
      replace k := k.icmpYes (pc' := 34) d16_4 (by decide) (by decide) (by decide)
      replace k := k.iconst (0 : Int32) d16_34 rfl
      exact k.iret d16_35 rfl (by simp) rfl (fun sp hsp => ⟨by simp [own_eqs], rfl⟩) (by decide) (by decide)
    · skip
      replace k := k.aloadN d16_0 rfl rfl
      replace k := k.arrlen d16_1 A1 (3 : Int32) (by decide)
      replace k := k.aloadN d16_2 rfl rfl
      replace k := k.arrlen d16_3 A2 (1 : Int32) (by decide)
      replace k := k.icmpYes (pc' := 34) d16_4 (by decide) (by decide) (by decide)
      replace k := k.iconst (0 : Int32) d16_34 rfl
      exact k.iret d16_35 rfl (by simp) rfl (fun sp hsp => ⟨by simp [own_eqs], rfl⟩) (by decide) (by decide)
    · skip
      replace k := k.aloadN d16_0 rfl rfl
      replace k := k.arrlen d16_1 A1 (3 : Int32) (by decide)
      replace k := k.aloadN d16_2 rfl rfl
      replace k := k.arrlen d16_3 A2 (2 : Int32) (by decide)
      replace k := k.icmpYes (pc' := 34) d16_4 (by decide) (by decide) (by decide)
      replace k := k.iconst (0 : Int32) d16_34 rfl
      exact k.iret d16_35 rfl (by simp) rfl (fun sp hsp => ⟨by simp [own_eqs], rfl⟩) (by decide) (by decide)
    · skip
      replace k := k.aloadN d16_0 rfl rfl
      replace k := k.arrlen d16_1 A1 (3 : Int32) (by decide)
      replace k := k.aloadN d16_2 rfl rfl
      replace k := k.arrlen d16_3 A2 (3 : Int32) (by decide)
      replace k := k.icmpNo d16_4 (by decide)
      replace k := k.iconst (0 : Int32) d16_7 rfl
      replace k := k.istoreN #[.val (.ref a1), .val (.ref a2), .val (.int (0 : Int32))] d16_8 rfl
      replace k := k.iloadN d16_9 rfl
      replace k := k.aloadN d16_10 rfl rfl
      replace k := k.arrlen d16_11 A1 (3 : Int32) (by decide)
      replace k := k.icmpNo d16_12 (by decide)
      replace k := k.aloadN d16_15 rfl rfl
      replace k := k.iloadN d16_16 rfl
      replace k := k.baload d16_17 A1  0 (by decide) (by decide) (by decide) (.int x0) rfl
      replace k := k.aloadN d16_18 rfl rfl
      replace k := k.iloadN d16_19 rfl
      replace k := k.baload d16_20 A2  0 (by decide) (by decide) (by decide) (.int y0) rfl
      by_cases hc104 : x0 = y0
      · skip
        replace k := k.icmpYes (pc' := 26) d16_21 (teq hc104).1 (by decide) (by decide)
        replace k := k.iinc (1 : Int32) #[.val (.ref a1), .val (.ref a2), .val (.int ((0 : Int32) + (1 : Int32)))] d16_26 rfl rfl rfl
        replace k := k.loc #[.val (.ref a1), .val (.ref a2), .val (.int (1 : Int32))] (by rfl)
        replace k := k.goto (pc' := 9) d16_29 (by decide) (by decide)
        replace k := k.iloadN d16_9 rfl
        replace k := k.aloadN d16_10 rfl rfl
        replace k := k.arrlen d16_11 A1 (3 : Int32) (by decide)
        replace k := k.icmpNo d16_12 (by decide)
        replace k := k.aloadN d16_15 rfl rfl
        replace k := k.iloadN d16_16 rfl
        replace k := k.baload d16_17 A1  1 (by decide) (by decide) (by decide) (.int x1) rfl
        replace k := k.aloadN d16_18 rfl rfl
        replace k := k.iloadN d16_19 rfl
        replace k := k.baload d16_20 A2  1 (by decide) (by decide) (by decide) (.int y1) rfl
        by_cases hc105 : x1 = y1
        · skip
          replace k := k.icmpYes (pc' := 26) d16_21 (teq hc105).1 (by decide) (by decide)
          replace k := k.iinc (1 : Int32) #[.val (.ref a1), .val (.ref a2), .val (.int ((1 : Int32) + (1 : Int32)))] d16_26 rfl rfl rfl
          replace k := k.loc #[.val (.ref a1), .val (.ref a2), .val (.int (2 : Int32))] (by rfl)
          replace k := k.goto (pc' := 9) d16_29 (by decide) (by decide)
          replace k := k.iloadN d16_9 rfl
          replace k := k.aloadN d16_10 rfl rfl
          replace k := k.arrlen d16_11 A1 (3 : Int32) (by decide)
          replace k := k.icmpNo d16_12 (by decide)
          replace k := k.aloadN d16_15 rfl rfl
          replace k := k.iloadN d16_16 rfl
          replace k := k.baload d16_17 A1  2 (by decide) (by decide) (by decide) (.int x2) rfl
          replace k := k.aloadN d16_18 rfl rfl
          replace k := k.iloadN d16_19 rfl
          replace k := k.baload d16_20 A2  2 (by decide) (by decide) (by decide) (.int y2) rfl
          by_cases hc106 : x2 = y2
          · skip
            replace k := k.icmpYes (pc' := 26) d16_21 (teq hc106).1 (by decide) (by decide)
            replace k := k.iinc (1 : Int32) #[.val (.ref a1), .val (.ref a2), .val (.int ((2 : Int32) + (1 : Int32)))] d16_26 rfl rfl rfl
            replace k := k.loc #[.val (.ref a1), .val (.ref a2), .val (.int (3 : Int32))] (by rfl)
            replace k := k.goto (pc' := 9) d16_29 (by decide) (by decide)
            replace k := k.iloadN d16_9 rfl
            replace k := k.aloadN d16_10 rfl rfl
            replace k := k.arrlen d16_11 A1 (3 : Int32) (by decide)
            replace k := k.icmpYes (pc' := 32) d16_12 (by decide) (by decide) (by decide)
            replace k := k.iconst (1 : Int32) d16_32 rfl
            exact k.iret d16_33 rfl (by simp) rfl (fun sp hsp => ⟨by simp [own_eqs, hc104, hc105, hc106], rfl⟩) (by decide) (by decide)
          · skip
            replace k := k.icmpNo d16_21 (feq hc106).1
            replace k := k.iconst (0 : Int32) d16_24 rfl
            exact k.iret d16_25 rfl (by simp) rfl (fun sp hsp => ⟨by simp [own_eqs, hc104, hc105, hc106], rfl⟩) (by decide) (by decide)
        · skip
          replace k := k.icmpNo d16_21 (feq hc105).1
          replace k := k.iconst (0 : Int32) d16_24 rfl
          exact k.iret d16_25 rfl (by simp) rfl (fun sp hsp => ⟨by simp [own_eqs, hc104, hc105], rfl⟩) (by decide) (by decide)
      · skip
        replace k := k.icmpNo d16_21 (feq hc104).1
        replace k := k.iconst (0 : Int32) d16_24 rfl
        exact k.iret d16_25 rfl (by simp) rfl (fun sp hsp => ⟨by simp [own_eqs, hc104], rfl⟩) (by decide) (by decide)

theorem d15_0 : decode jdk_42_method_66_code 0 = .ok (.aload_n 0, 1) := by decide +kernel
theorem d15_1 : decode jdk_42_method_66_code 1 = .ok (.aload_n 1, 1) := by decide +kernel
theorem d15_2 : decode jdk_42_method_66_code 2 = .ok (.if_acmp .ne 5, 3) := by decide +kernel
theorem d15_7 : decode jdk_42_method_66_code 7 = .ok (.aload_n 1, 1) := by decide +kernel
theorem d15_8 : decode jdk_42_method_66_code 8 = .ok (.instanceof 10, 3) := by decide +kernel
theorem d15_11 : decode jdk_42_method_66_code 11 = .ok (.ifCond .eq 43, 3) := by decide +kernel
theorem d15_14 : decode jdk_42_method_66_code 14 = .ok (.aload_n 1, 1) := by decide +kernel
theorem d15_15 : decode jdk_42_method_66_code 15 = .ok (.checkcast 10, 3) := by decide +kernel
theorem d15_18 : decode jdk_42_method_66_code 18 = .ok (.astore_n 2, 1) := by decide +kernel
theorem d15_19 : decode jdk_42_method_66_code 19 = .ok (.getstatic 38, 3) := by decide +kernel
theorem d15_22 : decode jdk_42_method_66_code 22 = .ok (.ifCond .eq 14, 3) := by decide +kernel
theorem d15_25 : decode jdk_42_method_66_code 25 = .ok (.aload_n 0, 1) := by decide +kernel
theorem d15_26 : decode jdk_42_method_66_code 26 = .ok (.getfield 15, 3) := by decide +kernel
theorem d15_29 : decode jdk_42_method_66_code 29 = .ok (.aload_n 2, 1) := by decide +kernel
theorem d15_30 : decode jdk_42_method_66_code 30 = .ok (.getfield 15, 3) := by decide +kernel
theorem d15_33 : decode jdk_42_method_66_code 33 = .ok (.if_icmp .ne 21, 3) := by decide +kernel
theorem d15_36 : decode jdk_42_method_66_code 36 = .ok (.aload_n 0, 1) := by decide +kernel
theorem d15_37 : decode jdk_42_method_66_code 37 = .ok (.getfield 9, 3) := by decide +kernel
theorem d15_40 : decode jdk_42_method_66_code 40 = .ok (.aload_n 2, 1) := by decide +kernel
theorem d15_41 : decode jdk_42_method_66_code 41 = .ok (.getfield 9, 3) := by decide +kernel
theorem d15_44 : decode jdk_42_method_66_code 44 = .ok (.invokestatic 541, 3) := by decide +kernel
theorem d15_47 : decode jdk_42_method_66_code 47 = .ok (.ifCond .eq 7, 3) := by decide +kernel
theorem d15_50 : decode jdk_42_method_66_code 50 = .ok (.iconst 1, 1) := by decide +kernel
theorem d15_51 : decode jdk_42_method_66_code 51 = .ok (.goto 4, 3) := by decide +kernel
theorem d15_54 : decode jdk_42_method_66_code 54 = .ok (.iconst 0, 1) := by decide +kernel
theorem d15_55 : decode jdk_42_method_66_code 55 = .ok (.ireturn, 1) := by decide +kernel
set_option maxRecDepth 65536 in
set_option maxHeartbeats 40000000 in
theorem rm15 (Z : State) (a0 : Array Value) (hw : ∀ d ∈ tables_1, d.before a0 Z = true) (s1 s2 t1 t2 : Addr) (n1 n2 : Nat) (z1 x0 x1 x2 z2 y0 y1 y2 zC : Int32) (h0 : Heap) (n0 : Nat) (S_COMPACT : Sta Z h0 "java/lang/String" "COMPACT_STRINGS" "Z" (.int zC)) (hC : ¬ (zC = (0 : Int32))) (ES1 : Exa Z h0 s1 "java/lang/String") (C1 : Fld Z h0 s1 "java/lang/String" "coder" "B" (.int (0 : Int32))) (V1 : Fld Z h0 s1 "java/lang/String" "value" "[B" (.ref t1)) (A1 : Arf Z h0 t1 .byte n1 (own_arr [x0, x1, x2])) (hz1 : own_small z1 n1) (ES2 : Exa Z h0 s2 "java/lang/String") (C2 : Fld Z h0 s2 "java/lang/String" "coder" "B" (.int (0 : Int32))) (V2 : Fld Z h0 s2 "java/lang/String" "value" "[B" (.ref t2)) (A2 : Arf Z h0 t2 .byte n2 (own_arr [y0, y1, y2])) (hz2 : own_small z2 n2) (nes : s1 ≠ s2) :
    Con Z n0 (⟨"java/lang/String", "equals", "(Ljava/lang/Object;)Z"⟩ : MethodName) jdk_42_method_66_code 3 (some .boolean) [] ({ frames := 1, cells := 0, slots := 0, locals := 14 } : Room) #[(.ref s1), (.ref s2)] h0 [] (fun v h sp => v = some (.int (own_eqs z1 x0 x1 x2 z2 y0 y1 y2)) ∧ h0 = h) := by
  refine Con.intro (L0 := #[.val (.ref s1), .val (.ref s2), .unset]) ⟨_, own_EW hw⟩ (plainFor_of_name (by first | (simp [plainName, overriddenIn]; done) | decide +kernel)) (fun m => by first | (simp [entryFrame, mkF, argsToLocals, Value.category]; done) | rfl) ?_
  intro C k
  replace k := k.aloadN d15_0 rfl rfl
  replace k := k.aloadN d15_1 rfl rfl
  replace k := k.acmpYes (pc' := 7) d15_2 rfl rfl (ac_ne (fun q => nes (Value.ref.inj q))).2 (by decide) (by decide)
  replace k := k.aloadN d15_7 rfl rfl
  replace k := k.instY d15_8 (hw _ (List.mem_of_getElem? (i := 22) rfl)) (Ins.self ES2)
  replace k := k.ifNo d15_11 (by decide)
  replace k := k.aloadN d15_14 rfl rfl
  replace k := k.castY d15_15 (hw _ (List.mem_of_getElem? (i := 22) rfl)) (Ins.self ES2)
  replace k := k.astoreN #[.val (.ref s1), .val (.ref s2), .val (.ref s2)] d15_18 rfl rfl
  replace k := k.getS d15_19 (host := "") (Or.inl (hw _ (List.mem_of_getElem? (i := 17) rfl))) Via.refl S_COMPACT
  replace k := k.ifNo d15_22 (feq hC).1
  replace k := k.aloadN d15_25 rfl rfl
  replace k := k.getF d15_26 (host := "") (Or.inl (hw _ (List.mem_of_getElem? (i := 37) rfl))) Via.refl C1
  replace k := k.aloadN d15_29 rfl rfl
  replace k := k.getF d15_30 (host := "") (Or.inl (hw _ (List.mem_of_getElem? (i := 37) rfl))) Via.refl C2
  replace k := k.icmpNo d15_33 (by decide)
  replace k := k.aloadN d15_36 rfl rfl
  replace k := k.getF d15_37 (host := "") (Or.inl (hw _ (List.mem_of_getElem? (i := 35) rfl))) Via.refl V1
  replace k := k.aloadN d15_40 rfl rfl
  replace k := k.getF d15_41 (host := "") (Or.inl (hw _ (List.mem_of_getElem? (i := 35) rfl))) Via.refl V2
  obtain ⟨_, _, sp44, ⟨rfl, rfl⟩, k⟩ := k.callS (y := (⟨"java/lang/StringLatin1", "equals", "([B[B)Z"⟩ : MethodName)) d15_44 (hw _ (List.mem_of_getElem? (i := 97) rfl)) (hw _ (List.mem_of_getElem? (i := 98) rfl)) (hw _ (List.mem_of_getElem? (i := 20) rfl)) (hw _ (List.mem_of_getElem? (i := 99) rfl)) (W := 0) (argsL := [(.ref t1), (.ref t2)]) (rest := []) (rm16 Z a0 hw t1 t2 n1 n2 z1 x0 x1 x2 z2 y0 y1 y2 h0 n0 A1 A2 hz1 hz2) all0 rfl (pd_9) rfl rfl rfl (by decide) (by decide) (by decide) (by decide) (by decide)
  replace k := (k [] all0).sfx [] rfl
  replace k := k.stk [(.int (own_eqs z1 x0 x1 x2 z2 y0 y1 y2))] rfl
  by_cases hc101 : (own_eqs z1 x0 x1 x2 z2 y0 y1 y2) = (0 : Int32)
  · skip
    replace k := k.ifYes (pc' := 54) d15_47 (teq hc101).1 (by decide) (by decide)
    replace k := k.iconst (0 : Int32) d15_54 rfl
    exact k.iret d15_55 rfl (by simp) rfl (fun sp hsp => ⟨by rw [hc101], rfl⟩) (by decide) (by decide)
  · skip
    replace k := k.ifNo d15_47 (feq hc101).1
    replace k := k.iconst (1 : Int32) d15_50 rfl
    replace k := k.goto (pc' := 55) d15_51 (by decide) (by decide)
    exact k.iret d15_55 rfl (by simp) rfl (fun sp hsp => ⟨by rw [(own_e01 z1 x0 x1 x2 z2 y0 y1 y2).resolve_left hc101], rfl⟩) (by decide) (by decide)

theorem d11_0 : decode prog_10_method_7_code 0 = .ok (.aload_n 1, 1) := by decide +kernel
theorem d11_1 : decode prog_10_method_7_code 1 = .ok (.instanceof 8, 3) := by decide +kernel
theorem d11_4 : decode prog_10_method_7_code 4 = .ok (.ifCond .ne 5, 3) := by decide +kernel
theorem d11_9 : decode prog_10_method_7_code 9 = .ok (.aload_n 1, 1) := by decide +kernel
theorem d11_10 : decode prog_10_method_7_code 10 = .ok (.checkcast 8, 3) := by decide +kernel
theorem d11_13 : decode prog_10_method_7_code 13 = .ok (.astore_n 2, 1) := by decide +kernel
theorem d11_14 : decode prog_10_method_7_code 14 = .ok (.aload_n 0, 1) := by decide +kernel
theorem d11_15 : decode prog_10_method_7_code 15 = .ok (.getfield 7, 3) := by decide +kernel
theorem d11_18 : decode prog_10_method_7_code 18 = .ok (.aload_n 2, 1) := by decide +kernel
theorem d11_19 : decode prog_10_method_7_code 19 = .ok (.getfield 7, 3) := by decide +kernel
theorem d11_22 : decode prog_10_method_7_code 22 = .ok (.if_acmp .ne 21, 3) := by decide +kernel
theorem d11_25 : decode prog_10_method_7_code 25 = .ok (.aload_n 0, 1) := by decide +kernel
theorem d11_26 : decode prog_10_method_7_code 26 = .ok (.getfield 13, 3) := by decide +kernel
theorem d11_29 : decode prog_10_method_7_code 29 = .ok (.aload_n 2, 1) := by decide +kernel
theorem d11_30 : decode prog_10_method_7_code 30 = .ok (.getfield 13, 3) := by decide +kernel
theorem d11_33 : decode prog_10_method_7_code 33 = .ok (.invokevirtual 50, 3) := by decide +kernel
theorem d11_36 : decode prog_10_method_7_code 36 = .ok (.ifCond .eq 7, 3) := by decide +kernel
theorem d11_39 : decode prog_10_method_7_code 39 = .ok (.iconst 1, 1) := by decide +kernel
theorem d11_40 : decode prog_10_method_7_code 40 = .ok (.goto 4, 3) := by decide +kernel
theorem d11_43 : decode prog_10_method_7_code 43 = .ok (.iconst 0, 1) := by decide +kernel
theorem d11_44 : decode prog_10_method_7_code 44 = .ok (.ireturn, 1) := by decide +kernel
set_option maxRecDepth 65536 in
set_option maxHeartbeats 40000000 in
theorem rm11_F (Z : State) (a0 : Array Value) (hw : ∀ d ∈ tables_1, d.before a0 Z = true) (f1 f2 r1 r2 s1 s2 t1 t2 : Addr) (n1 n2 : Nat) (z1 x0 x1 x2 z2 y0 y1 y2 zC : Int32) (h0 : Heap) (n0 : Nat) (S_COMPACT : Sta Z h0 "java/lang/String" "COMPACT_STRINGS" "Z" (.int zC)) (hC : ¬ (zC = (0 : Int32))) (ES1 : Exa Z h0 s1 "java/lang/String") (C1 : Fld Z h0 s1 "java/lang/String" "coder" "B" (.int (0 : Int32))) (V1 : Fld Z h0 s1 "java/lang/String" "value" "[B" (.ref t1)) (A1 : Arf Z h0 t1 .byte n1 (own_arr [x0, x1, x2])) (hz1 : own_small z1 n1) (ES2 : Exa Z h0 s2 "java/lang/String") (C2 : Fld Z h0 s2 "java/lang/String" "coder" "B" (.int (0 : Int32))) (V2 : Fld Z h0 s2 "java/lang/String" "value" "[B" (.ref t2)) (A2 : Arf Z h0 t2 .byte n2 (own_arr [y0, y1, y2])) (hz2 : own_small z2 n2) (nes : s1 ≠ s2) (R1 : Fld Z h0 f1 "com/example/lieudit/lieudit/Finding" "rule" "Lcom/example/lieudit/lieudit/Rule;" (.ref r1)) (D1 : Fld Z h0 f1 "com/example/lieudit/lieudit/Finding" "detail" "Ljava/lang/String;" (.ref s1)) (R2 : Fld Z h0 f2 "com/example/lieudit/lieudit/Finding" "rule" "Lcom/example/lieudit/lieudit/Rule;" (.ref r2)) (D2 : Fld Z h0 f2 "com/example/lieudit/lieudit/Finding" "detail" "Ljava/lang/String;" (.ref s2)) (EF : Exa Z h0 f2 "com/example/lieudit/lieudit/Finding") :
    Con Z n0 (⟨"com/example/lieudit/lieudit/Finding", "equals", "(Ljava/lang/Object;)Z"⟩ : MethodName) prog_10_method_7_code 3 (some .boolean) [] ({ frames := 2, cells := 0, slots := 0, locals := 28 } : Room) #[(.ref f1), (.ref f2)] h0 [] (fun v h sp => v = some (.int (own_fe r1 r2 z1 x0 x1 x2 z2 y0 y1 y2)) ∧ h0 = h) := by
  refine Con.intro (L0 := #[.val (.ref f1), .val (.ref f2), .unset]) ⟨_, own_EW hw⟩ (plainFor_of_name (by first | (simp [plainName, overriddenIn]; done) | decide +kernel)) (fun m => by first | (simp [entryFrame, mkF, argsToLocals, Value.category]; done) | rfl) ?_
  intro C k
  replace k := k.aloadN d11_0 rfl rfl
  replace k := k.instY d11_1 (hw _ (List.mem_of_getElem? (i := 66) rfl)) (Ins.self EF)
  replace k := k.ifYes (pc' := 9) d11_4 (by decide) (by decide) (by decide)
  replace k := k.aloadN d11_9 rfl rfl
  replace k := k.castY d11_10 (hw _ (List.mem_of_getElem? (i := 66) rfl)) (Ins.self EF)
  replace k := k.astoreN #[.val (.ref f1), .val (.ref f2), .val (.ref f2)] d11_13 rfl rfl
  replace k := k.aloadN d11_14 rfl rfl
  replace k := k.getF d11_15 (host := "") (Or.inl (hw _ (List.mem_of_getElem? (i := 57) rfl))) Via.refl R1
  replace k := k.aloadN d11_18 rfl rfl
  replace k := k.getF d11_19 (host := "") (Or.inl (hw _ (List.mem_of_getElem? (i := 57) rfl))) Via.refl R2
  by_cases hr : r1 = r2
  · skip
    replace k := k.acmpNo d11_22 rfl rfl (ac_eq (congrArg Value.ref hr)).2
    replace k := k.aloadN d11_25 rfl rfl
    replace k := k.getF d11_26 (host := "") (Or.inl (hw _ (List.mem_of_getElem? (i := 59) rfl))) Via.refl D1
    replace k := k.aloadN d11_29 rfl rfl
    replace k := k.getF d11_30 (host := "") (Or.inl (hw _ (List.mem_of_getElem? (i := 59) rfl))) Via.refl D2
    obtain ⟨_, _, sp33, ⟨rfl, rfl⟩, k⟩ := k.callV (y := (⟨"java/lang/String", "equals", "(Ljava/lang/Object;)Z"⟩ : MethodName)) (z := (⟨"java/lang/String", "equals", "(Ljava/lang/Object;)Z"⟩ : MethodName)) (a := s1) d11_33 (hw _ (List.mem_of_getElem? (i := 92) rfl)) (hw _ (List.mem_of_getElem? (i := 93) rfl)) (fun s hs => notFace_of_selects (args := #[]) (mvT hs (hw _ (List.mem_of_getElem? (i := 95) rfl)))) (hw _ (List.mem_of_getElem? (i := 95) rfl)) (hw _ (List.mem_of_getElem? (i := 94) rfl)) (hw _ (List.mem_of_getElem? (i := 15) rfl)) (hw _ (List.mem_of_getElem? (i := 96) rfl)) ES1 (W := 0) (argsL := [(.ref s2)]) (rest := []) (rm15 Z a0 hw s1 s2 t1 t2 n1 n2 z1 x0 x1 x2 z2 y0 y1 y2 zC h0 n0 S_COMPACT hC ES1 C1 V1 A1 hz1 ES2 C2 V2 A2 hz2 nes) all0 rfl (pd_10) rfl rfl rfl (by decide) (by decide) (by decide) (by decide) (by decide)
    replace k := (k [] all0).sfx [] rfl
    replace k := k.stk [(.int (own_eqs z1 x0 x1 x2 z2 y0 y1 y2))] rfl
    by_cases hc101 : (own_eqs z1 x0 x1 x2 z2 y0 y1 y2) = (0 : Int32)
    · skip
      replace k := k.ifYes (pc' := 43) d11_36 (teq hc101).1 (by decide) (by decide)
      replace k := k.iconst (0 : Int32) d11_43 rfl
      exact k.iret d11_44 rfl (by simp) rfl (fun sp hsp => ⟨by rw [own_fe, if_pos hr, hc101], rfl⟩) (by decide) (by decide)
    · skip
      replace k := k.ifNo d11_36 (feq hc101).1
      replace k := k.iconst (1 : Int32) d11_39 rfl
      replace k := k.goto (pc' := 44) d11_40 (by decide) (by decide)
      exact k.iret d11_44 rfl (by simp) rfl (fun sp hsp => ⟨by rw [own_fe, if_pos hr, (own_e01 z1 x0 x1 x2 z2 y0 y1 y2).resolve_left hc101], rfl⟩) (by decide) (by decide)
  · skip
    replace k := k.acmpYes (pc' := 43) d11_22 rfl rfl (ac_ne (fun q => hr (Value.ref.inj q))).2 (by decide) (by decide)
    replace k := k.iconst (0 : Int32) d11_43 rfl
    exact k.iret d11_44 rfl (by simp) rfl (fun sp hsp => ⟨by rw [own_fe, if_neg hr], rfl⟩) (by decide) (by decide)

theorem d11_7 : decode prog_10_method_7_code 7 = .ok (.iconst 0, 1) := by decide +kernel
theorem d11_8 : decode prog_10_method_7_code 8 = .ok (.ireturn, 1) := by decide +kernel
set_option maxRecDepth 65536 in
set_option maxHeartbeats 40000000 in
theorem rm11_N (Z : State) (a0 : Array Value) (hw : ∀ d ∈ tables_1, d.before a0 Z = true) (f1 : Addr) (h0 : Heap) (n0 : Nat)  :
    Con Z n0 (⟨"com/example/lieudit/lieudit/Finding", "equals", "(Ljava/lang/Object;)Z"⟩ : MethodName) prog_10_method_7_code 3 (some .boolean) [] ({ frames := 0, cells := 0, slots := 0, locals := 0 } : Room) #[(.ref f1), .null] h0 [] (fun v h sp => v = some (.int (0 : Int32)) ∧ h0 = h) := by
  refine Con.intro (L0 := #[.val (.ref f1), .val .null, .unset]) ⟨_, own_EW hw⟩ (plainFor_of_name (by first | (simp [plainName, overriddenIn]; done) | decide +kernel)) (fun m => by first | (simp [entryFrame, mkF, argsToLocals, Value.category]; done) | rfl) ?_
  intro C k
  replace k := k.aloadN d11_0 rfl rfl
  replace k := k.instNull d11_1
  replace k := k.ifNo d11_4 (by decide)
  replace k := k.iconst (0 : Int32) d11_7 rfl
  exact k.iret d11_8 rfl (by simp) rfl (fun sp hsp => ⟨rfl, rfl⟩) (by decide) (by decide)

set_option maxRecDepth 65536 in
set_option maxHeartbeats 40000000 in
theorem rm11_S (Z : State) (a0 : Array Value) (hw : ∀ d ∈ tables_1, d.before a0 Z = true) (f1 f2 : Addr) (h0 : Heap) (n0 : Nat) (EF : Exa Z h0 f2 "java/lang/String") :
    Con Z n0 (⟨"com/example/lieudit/lieudit/Finding", "equals", "(Ljava/lang/Object;)Z"⟩ : MethodName) prog_10_method_7_code 3 (some .boolean) [] ({ frames := 0, cells := 0, slots := 0, locals := 0 } : Room) #[(.ref f1), (.ref f2)] h0 [] (fun v h sp => v = some (.int (0 : Int32)) ∧ h0 = h) := by
  refine Con.intro (L0 := #[.val (.ref f1), .val (.ref f2), .unset]) ⟨_, own_EW hw⟩ (plainFor_of_name (by first | (simp [plainName, overriddenIn]; done) | decide +kernel)) (fun m => by first | (simp [entryFrame, mkF, argsToLocals, Value.category]; done) | rfl) ?_
  intro C k
  replace k := k.aloadN d11_0 rfl rfl
  replace k := k.instNo d11_1 (hw _ (List.mem_of_getElem? (i := 66) rfl)) EF (own_nsno (hw _ (List.mem_of_getElem? (i := 67) rfl)) (hw _ (List.mem_of_getElem? (i := 51) rfl)) (own_nsstep (hw _ (List.mem_of_getElem? (i := 67) rfl)) (own_nsroot (hw _ (List.mem_of_getElem? (i := 68) rfl)) (hw _ (List.mem_of_getElem? (i := 51) rfl)) (by decide)) (by decide)) (by decide))
  replace k := k.ifNo d11_4 (by decide)
  replace k := k.iconst (0 : Int32) d11_7 rfl
  exact k.iret d11_8 rfl (by simp) rfl (fun sp hsp => ⟨rfl, rfl⟩) (by decide) (by decide)

set_option maxRecDepth 65536 in
set_option maxHeartbeats 40000000 in
theorem rm11_R (Z : State) (a0 : Array Value) (hw : ∀ d ∈ tables_1, d.before a0 Z = true) (f1 f2 : Addr) (h0 : Heap) (n0 : Nat) (EF : Exa Z h0 f2 "com/example/lieudit/lieudit/Rule") :
    Con Z n0 (⟨"com/example/lieudit/lieudit/Finding", "equals", "(Ljava/lang/Object;)Z"⟩ : MethodName) prog_10_method_7_code 3 (some .boolean) [] ({ frames := 0, cells := 0, slots := 0, locals := 0 } : Room) #[(.ref f1), (.ref f2)] h0 [] (fun v h sp => v = some (.int (0 : Int32)) ∧ h0 = h) := by
  refine Con.intro (L0 := #[.val (.ref f1), .val (.ref f2), .unset]) ⟨_, own_EW hw⟩ (plainFor_of_name (by first | (simp [plainName, overriddenIn]; done) | decide +kernel)) (fun m => by first | (simp [entryFrame, mkF, argsToLocals, Value.category]; done) | rfl) ?_
  intro C k
  replace k := k.aloadN d11_0 rfl rfl
  replace k := k.instNo d11_1 (hw _ (List.mem_of_getElem? (i := 66) rfl)) EF (own_nsno (hw _ (List.mem_of_getElem? (i := 84) rfl)) (hw _ (List.mem_of_getElem? (i := 51) rfl)) (own_nsstep (hw _ (List.mem_of_getElem? (i := 84) rfl)) (own_nsstep (hw _ (List.mem_of_getElem? (i := 85) rfl)) (own_nsroot (hw _ (List.mem_of_getElem? (i := 68) rfl)) (hw _ (List.mem_of_getElem? (i := 51) rfl)) (by decide)) (by decide)) (by decide)) (by decide))
  replace k := k.ifNo d11_4 (by decide)
  replace k := k.iconst (0 : Int32) d11_7 rfl
  exact k.iret d11_8 rfl (by simp) rfl (fun sp hsp => ⟨rfl, rfl⟩) (by decide) (by decide)

set_option maxRecDepth 65536 in
set_option maxHeartbeats 40000000 in
theorem rm0 (Z : State) (a0 : Array Value) (hw : ∀ d ∈ tables_1, d.before a0 Z = true) (p1 p2 : Int32) (p3 p4 : Int64) (p5 zC : Int32) (a_INDICATOR_INVALID : Addr) (a_SUBFIELD_UNDEFINED : Addr) (a_ORDER : Addr) (a_FINAL_STOP : Addr) (a_SOURCE_MISSING : Addr) (a_SUBFIELD_REPEATED : Addr) (a_RECORD_DAMAGED : Addr) (h0 : Heap) (n0 : Nat) (Z0 : n0 ≤ h0.size) (S_COMPACT : Sta Z h0 "java/lang/String" "COMPACT_STRINGS" "Z" (.int zC)) (hC : ¬ (zC = (0 : Int32))) (S_INDICATOR_INVALID : Sta Z h0 "com/example/lieudit/lieudit/Rule" "INDICATOR_INVALID" "Lcom/example/lieudit/lieudit/Rule;" (.ref a_INDICATOR_INVALID)) (E_INDICATOR_INVALID : Exa Z h0 a_INDICATOR_INVALID "com/example/lieudit/lieudit/Rule") (S_SUBFIELD_UNDEFINED : Sta Z h0 "com/example/lieudit/lieudit/Rule" "SUBFIELD_UNDEFINED" "Lcom/example/lieudit/lieudit/Rule;" (.ref a_SUBFIELD_UNDEFINED)) (E_SUBFIELD_UNDEFINED : Exa Z h0 a_SUBFIELD_UNDEFINED "com/example/lieudit/lieudit/Rule") (F_SUBFIELD_UNDEFINED_ordinal : Fld Z h0 a_SUBFIELD_UNDEFINED "java/lang/Enum" "ordinal" "I" (.int (1 : Int32))) (F_INDICATOR_INVALID_ordinal : Fld Z h0 a_INDICATOR_INVALID "java/lang/Enum" "ordinal" "I" (.int (0 : Int32))) (S_ORDER : Sta Z h0 "com/example/lieudit/lieudit/Rule" "ORDER" "Lcom/example/lieudit/lieudit/Rule;" (.ref a_ORDER)) (E_ORDER : Exa Z h0 a_ORDER "com/example/lieudit/lieudit/Rule") (S_FINAL_STOP : Sta Z h0 "com/example/lieudit/lieudit/Rule" "FINAL_STOP" "Lcom/example/lieudit/lieudit/Rule;" (.ref a_FINAL_STOP)) (E_FINAL_STOP : Exa Z h0 a_FINAL_STOP "com/example/lieudit/lieudit/Rule") (F_ORDER_ordinal : Fld Z h0 a_ORDER "java/lang/Enum" "ordinal" "I" (.int (4 : Int32))) (S_SOURCE_MISSING : Sta Z h0 "com/example/lieudit/lieudit/Rule" "SOURCE_MISSING" "Lcom/example/lieudit/lieudit/Rule;" (.ref a_SOURCE_MISSING)) (E_SOURCE_MISSING : Exa Z h0 a_SOURCE_MISSING "com/example/lieudit/lieudit/Rule") (S_SUBFIELD_REPEATED : Sta Z h0 "com/example/lieudit/lieudit/Rule" "SUBFIELD_REPEATED" "Lcom/example/lieudit/lieudit/Rule;" (.ref a_SUBFIELD_REPEATED)) (E_SUBFIELD_REPEATED : Exa Z h0 a_SUBFIELD_REPEATED "com/example/lieudit/lieudit/Rule") (F_SUBFIELD_REPEATED_ordinal : Fld Z h0 a_SUBFIELD_REPEATED "java/lang/Enum" "ordinal" "I" (.int (2 : Int32))) (S_RECORD_DAMAGED : Sta Z h0 "com/example/lieudit/lieudit/Rule" "RECORD_DAMAGED" "Lcom/example/lieudit/lieudit/Rule;" (.ref a_RECORD_DAMAGED)) (E_RECORD_DAMAGED : Exa Z h0 a_RECORD_DAMAGED "com/example/lieudit/lieudit/Rule") (F_RECORD_DAMAGED_ordinal : Fld Z h0 a_RECORD_DAMAGED "java/lang/Enum" "ordinal" "I" (.int (6 : Int32))) (F_FINAL_STOP_ordinal : Fld Z h0 a_FINAL_STOP "java/lang/Enum" "ordinal" "I" (.int (5 : Int32))) (F_SOURCE_MISSING_ordinal : Fld Z h0 a_SOURCE_MISSING "java/lang/Enum" "ordinal" "I" (.int (3 : Int32))) :
    Con Z n0 x code maxLocals ret tables_1 room_1 #[(.int p1), (.int p2), (.long p3), (.long p4), (.int p5)] h0 [] (fun v h sp => v = some (.int (1 : Int32))) := by
  refine Con.intro (L0 := #[.val (.int p1), .val (.int p2), .val (.long p3), .second, .val (.long p4), .second, .val (.int p5), .unset, .unset, .unset, .unset, .unset, .unset, .unset, .unset, .unset, .unset, .unset, .unset, .unset, .unset, .unset, .unset, .unset, .unset, .unset, .unset, .unset]) ⟨_, own_EW hw⟩ (plainFor_of_name (by first | (simp [plainName, overriddenIn]; done) | decide +kernel)) (fun m => by first | (simp [entryFrame, mkF, argsToLocals, Value.category, maxLocals]; done) | rfl) ?_
  intro C k
  replace k := k.iloadN at_0 rfl
  replace k := k.ldcInt at_1 (hw _ (List.mem_of_getElem? (i := 0) rfl))
  replace k := k.iand at_3
  replace k := k.bipush (7 : Int32) at_4 rfl
  replace k := k.irem at_6 (by decide)
  obtain ⟨x7, hx7⟩ : ∃ z, z = ((p1 &&& (2147483647 : Int32)) % (7 : Int32)) := ⟨_, rfl⟩
  replace k := k.stk [(.int x7)] (by rw [hx7])
  have hr7 : own_r7 x7 := by rw [hx7]; exact own_mod7 _
  replace k := k.istore #[.val (.int p1), .val (.int p2), .val (.long p3), .second, .val (.long p4), .second, .val (.int p5), .val (.int x7), .unset, .unset, .unset, .unset, .unset, .unset, .unset, .unset, .unset, .unset, .unset, .unset, .unset, .unset, .unset, .unset, .unset, .unset, .unset, .unset] at_7 rfl
  replace k := k.lload at_9 rfl
  replace k := k.bipush (40 : Int32) at_11 rfl
  replace k := k.lushr at_13
  replace k := k.lconst (1 : Int64) at_14 rfl
  replace k := k.land at_15
  replace k := k.lconst (0 : Int64) at_16 rfl
  replace k := k.lcmp at_17
  replace k : Run C room_1 Z n0 x.cls x.name ret code maxLocals ([] : List Addr) h0 0 0 33 #[.val (.int p1), .val (.int p2), .val (.long p3), .second, .val (.long p4), .second, .val (.int p5), .val (.int x7), .unset, .unset, .unset, .unset, .unset, .unset, .unset, .unset, .unset, .unset, .unset, .unset, .unset, .unset, .unset, .unset, .unset, .unset, .unset, .unset] [(.int (if (lcmpW (((p4.toUInt64 >>> ((40 : Int32) &&& 0x3f).toInt64.toUInt64).toInt64) &&& (1 : Int64)) (0 : Int64)) = (0 : Int32) then ((p2 &&& (2147483647 : Int32)) % (7 : Int32)) else x7))] := by
    by_cases hc101 : (lcmpW (((p4.toUInt64 >>> ((40 : Int32) &&& 0x3f).toInt64.toUInt64).toInt64) &&& (1 : Int64)) (0 : Int64)) = (0 : Int32)
    · rw [if_pos hc101]
      replace k := k.ifYes (pc' := 26) at_18 (teq hc101).1 (by decide) (by decide)
      replace k := k.iloadN at_26 rfl
      replace k := k.ldcInt at_27 (hw _ (List.mem_of_getElem? (i := 0) rfl))
      replace k := k.iand at_29
      replace k := k.bipush (7 : Int32) at_30 rfl
      replace k := k.irem at_32 (by decide)
      exact k
    · rw [if_neg hc101]
      replace k := k.ifNo at_18 (feq hc101).1
      replace k := k.iload at_21 rfl
      replace k := k.goto (pc' := 33) at_23 (by decide) (by decide)
      exact k
  obtain ⟨x8, hx8⟩ : ∃ z, z = (if (lcmpW (((p4.toUInt64 >>> ((40 : Int32) &&& 0x3f).toInt64.toUInt64).toInt64) &&& (1 : Int64)) (0 : Int64)) = (0 : Int32) then ((p2 &&& (2147483647 : Int32)) % (7 : Int32)) else x7) := ⟨_, rfl⟩
  replace k := k.stk [(.int x8)] (by rw [hx8])
  have hr8 : own_r7 x8 := by rw [hx8]; exact own_ite (own_mod7 _) hr7
  replace k := k.istore #[.val (.int p1), .val (.int p2), .val (.long p3), .second, .val (.long p4), .second, .val (.int p5), .val (.int x7), .val (.int x8), .unset, .unset, .unset, .unset, .unset, .unset, .unset, .unset, .unset, .unset, .unset, .unset, .unset, .unset, .unset, .unset, .unset, .unset, .unset] at_33 rfl
  replace k := k.lloadN at_35 rfl
  replace k := k.ldc2Long at_36 (hw _ (List.mem_of_getElem? (i := 1) rfl))
  replace k := k.land at_39
  replace k := k.l2i at_40
  obtain ⟨x9, hx9⟩ : ∃ z, z = ((p3 &&& (3 : Int64)).toInt32) := ⟨_, rfl⟩
  replace k := k.stk [(.int x9)] (by rw [hx9])
  have hl9 := own_ln _ _ hx9
  replace k := k.istore #[.val (.int p1), .val (.int p2), .val (.long p3), .second, .val (.long p4), .second, .val (.int p5), .val (.int x7), .val (.int x8), .val (.int x9), .unset, .unset, .unset, .unset, .unset, .unset, .unset, .unset, .unset, .unset, .unset, .unset, .unset, .unset, .unset, .unset, .unset, .unset] at_41 rfl
  replace k := k.lloadN at_43 rfl
  replace k := k.bipush (8 : Int32) at_44 rfl
  replace k := k.lushr at_46
  replace k := k.ldc2Long at_47 (hw _ (List.mem_of_getElem? (i := 2) rfl))
  replace k := k.land at_50
  replace k := k.l2i at_51
  replace k := k.i2c at_52
  obtain ⟨x10, hx10⟩ : ∃ z, z = (((((p3.toUInt64 >>> ((8 : Int32) &&& 0x3f).toInt64.toUInt64).toInt64) &&& (255 : Int64)).toInt32).toUInt32.toUInt16.toUInt32.toInt32) := ⟨_, rfl⟩
  replace k := k.stk [(.int x10)] (by rw [hx10])
  have hk10 : own_ch x10 := by rw [hx10]; exact own_chm _
  replace k := k.istore #[.val (.int p1), .val (.int p2), .val (.long p3), .second, .val (.long p4), .second, .val (.int p5), .val (.int x7), .val (.int x8), .val (.int x9), .val (.int x10), .unset, .unset, .unset, .unset, .unset, .unset, .unset, .unset, .unset, .unset, .unset, .unset, .unset, .unset, .unset, .unset, .unset] at_53 rfl
  replace k := k.lloadN at_55 rfl
  replace k := k.bipush (16 : Int32) at_56 rfl
  replace k := k.lushr at_58
  replace k := k.ldc2Long at_59 (hw _ (List.mem_of_getElem? (i := 2) rfl))
  replace k := k.land at_62
  replace k := k.l2i at_63
  replace k := k.i2c at_64
  obtain ⟨x11, hx11⟩ : ∃ z, z = (((((p3.toUInt64 >>> ((16 : Int32) &&& 0x3f).toInt64.toUInt64).toInt64) &&& (255 : Int64)).toInt32).toUInt32.toUInt16.toUInt32.toInt32) := ⟨_, rfl⟩
  replace k := k.stk [(.int x11)] (by rw [hx11])
  have hk11 : own_ch x11 := by rw [hx11]; exact own_chm _
  replace k := k.istore #[.val (.int p1), .val (.int p2), .val (.long p3), .second, .val (.long p4), .second, .val (.int p5), .val (.int x7), .val (.int x8), .val (.int x9), .val (.int x10), .val (.int x11), .unset, .unset, .unset, .unset, .unset, .unset, .unset, .unset, .unset, .unset, .unset, .unset, .unset, .unset, .unset, .unset] at_65 rfl
  replace k := k.lloadN at_67 rfl
  replace k := k.bipush (24 : Int32) at_68 rfl
  replace k := k.lushr at_70
  replace k := k.ldc2Long at_71 (hw _ (List.mem_of_getElem? (i := 2) rfl))
  replace k := k.land at_74
  replace k := k.l2i at_75
  replace k := k.i2c at_76
  obtain ⟨x12, hx12⟩ : ∃ z, z = (((((p3.toUInt64 >>> ((24 : Int32) &&& 0x3f).toInt64.toUInt64).toInt64) &&& (255 : Int64)).toInt32).toUInt32.toUInt16.toUInt32.toInt32) := ⟨_, rfl⟩
  replace k := k.stk [(.int x12)] (by rw [hx12])
  have hk12 : own_ch x12 := by rw [hx12]; exact own_chm _
  replace k := k.istore #[.val (.int p1), .val (.int p2), .val (.long p3), .second, .val (.long p4), .second, .val (.int p5), .val (.int x7), .val (.int x8), .val (.int x9), .val (.int x10), .val (.int x11), .val (.int x12), .unset, .unset, .unset, .unset, .unset, .unset, .unset, .unset, .unset, .unset, .unset, .unset, .unset, .unset, .unset] at_77 rfl
  replace k := k.lload at_79 rfl
  replace k := k.bipush (7 : Int32) at_81 rfl
  replace k := k.lushr at_83
  replace k := k.lconst (1 : Int64) at_84 rfl
  replace k := k.land at_85
  replace k := k.lconst (0 : Int64) at_86 rfl
  replace k := k.lcmp at_87
  replace k : Run C room_1 Z n0 x.cls x.name ret code maxLocals ([] : List Addr) h0 0 0 103 #[.val (.int p1), .val (.int p2), .val (.long p3), .second, .val (.long p4), .second, .val (.int p5), .val (.int x7), .val (.int x8), .val (.int x9), .val (.int x10), .val (.int x11), .val (.int x12), .unset, .unset, .unset, .unset, .unset, .unset, .unset, .unset, .unset, .unset, .unset, .unset, .unset, .unset, .unset] [(.int (if (lcmpW (((p4.toUInt64 >>> ((7 : Int32) &&& 0x3f).toInt64.toUInt64).toInt64) &&& (1 : Int64)) (0 : Int64)) = (0 : Int32) then ((p4 &&& (3 : Int64)).toInt32) else x9))] := by
    by_cases hc102 : (lcmpW (((p4.toUInt64 >>> ((7 : Int32) &&& 0x3f).toInt64.toUInt64).toInt64) &&& (1 : Int64)) (0 : Int64)) = (0 : Int32)
    · rw [if_pos hc102]
      replace k := k.ifYes (pc' := 96) at_88 (teq hc102).1 (by decide) (by decide)
      replace k := k.lload at_96 rfl
      replace k := k.ldc2Long at_98 (hw _ (List.mem_of_getElem? (i := 1) rfl))
      replace k := k.land at_101
      replace k := k.l2i at_102
      exact k
    · rw [if_neg hc102]
      replace k := k.ifNo at_88 (feq hc102).1
      replace k := k.iload at_91 rfl
      replace k := k.goto (pc' := 103) at_93 (by decide) (by decide)
      exact k
  obtain ⟨x13, hx13⟩ : ∃ z, z = (if (lcmpW (((p4.toUInt64 >>> ((7 : Int32) &&& 0x3f).toInt64.toUInt64).toInt64) &&& (1 : Int64)) (0 : Int64)) = (0 : Int32) then ((p4 &&& (3 : Int64)).toInt32) else x9) := ⟨_, rfl⟩
  replace k := k.stk [(.int x13)] (by rw [hx13])
  have hl13 : x13 = 0 ∨ x13 = 1 ∨ x13 = 2 ∨ x13 = 3 := by rw [hx13]; exact own_ite (P := fun x => x = 0 ∨ x = 1 ∨ x = 2 ∨ x = 3) (own_ln _ _ rfl) hl9
  replace k := k.istore #[.val (.int p1), .val (.int p2), .val (.long p3), .second, .val (.long p4), .second, .val (.int p5), .val (.int x7), .val (.int x8), .val (.int x9), .val (.int x10), .val (.int x11), .val (.int x12), .val (.int x13), .unset, .unset, .unset, .unset, .unset, .unset, .unset, .unset, .unset, .unset, .unset, .unset, .unset, .unset] at_103 rfl
  replace k := k.lload at_105 rfl
  replace k := k.iconst (4 : Int32) at_107 rfl
  replace k := k.lushr at_108
  replace k := k.lconst (1 : Int64) at_109 rfl
  replace k := k.land at_110
  replace k := k.lconst (0 : Int64) at_111 rfl
  replace k := k.lcmp at_112
  replace k : Run C room_1 Z n0 x.cls x.name ret code maxLocals ([] : List Addr) h0 0 0 132 #[.val (.int p1), .val (.int p2), .val (.long p3), .second, .val (.long p4), .second, .val (.int p5), .val (.int x7), .val (.int x8), .val (.int x9), .val (.int x10), .val (.int x11), .val (.int x12), .val (.int x13), .unset, .unset, .unset, .unset, .unset, .unset, .unset, .unset, .unset, .unset, .unset, .unset, .unset, .unset] [(.int (if (lcmpW (((p4.toUInt64 >>> ((4 : Int32) &&& 0x3f).toInt64.toUInt64).toInt64) &&& (1 : Int64)) (0 : Int64)) = (0 : Int32) then (((((p4.toUInt64 >>> ((8 : Int32) &&& 0x3f).toInt64.toUInt64).toInt64) &&& (255 : Int64)).toInt32).toUInt32.toUInt16.toUInt32.toInt32) else x10))] := by
    by_cases hc103 : (lcmpW (((p4.toUInt64 >>> ((4 : Int32) &&& 0x3f).toInt64.toUInt64).toInt64) &&& (1 : Int64)) (0 : Int64)) = (0 : Int32)
    · rw [if_pos hc103]
      replace k := k.ifYes (pc' := 121) at_113 (teq hc103).1 (by decide) (by decide)
      replace k := k.lload at_121 rfl
      replace k := k.bipush (8 : Int32) at_123 rfl
      replace k := k.lushr at_125
      replace k := k.ldc2Long at_126 (hw _ (List.mem_of_getElem? (i := 2) rfl))
      replace k := k.land at_129
      replace k := k.l2i at_130
      replace k := k.i2c at_131
      exact k
    · rw [if_neg hc103]
      replace k := k.ifNo at_113 (feq hc103).1
      replace k := k.iload at_116 rfl
      replace k := k.goto (pc' := 132) at_118 (by decide) (by decide)
      exact k
  obtain ⟨x14, hx14⟩ : ∃ z, z = (if (lcmpW (((p4.toUInt64 >>> ((4 : Int32) &&& 0x3f).toInt64.toUInt64).toInt64) &&& (1 : Int64)) (0 : Int64)) = (0 : Int32) then (((((p4.toUInt64 >>> ((8 : Int32) &&& 0x3f).toInt64.toUInt64).toInt64) &&& (255 : Int64)).toInt32).toUInt32.toUInt16.toUInt32.toInt32) else x10) := ⟨_, rfl⟩
  replace k := k.stk [(.int x14)] (by rw [hx14])
  have hk14 : own_ch x14 := by rw [hx14]; exact own_ite (own_chm _) hk10
  replace k := k.istore #[.val (.int p1), .val (.int p2), .val (.long p3), .second, .val (.long p4), .second, .val (.int p5), .val (.int x7), .val (.int x8), .val (.int x9), .val (.int x10), .val (.int x11), .val (.int x12), .val (.int x13), .val (.int x14), .unset, .unset, .unset, .unset, .unset, .unset, .unset, .unset, .unset, .unset, .unset, .unset, .unset] at_132 rfl
  replace k := k.lload at_134 rfl
  replace k := k.iconst (5 : Int32) at_136 rfl
  replace k := k.lushr at_137
  replace k := k.lconst (1 : Int64) at_138 rfl
  replace k := k.land at_139
  replace k := k.lconst (0 : Int64) at_140 rfl
  replace k := k.lcmp at_141
  replace k : Run C room_1 Z n0 x.cls x.name ret code maxLocals ([] : List Addr) h0 0 0 161 #[.val (.int p1), .val (.int p2), .val (.long p3), .second, .val (.long p4), .second, .val (.int p5), .val (.int x7), .val (.int x8), .val (.int x9), .val (.int x10), .val (.int x11), .val (.int x12), .val (.int x13), .val (.int x14), .unset, .unset, .unset, .unset, .unset, .unset, .unset, .unset, .unset, .unset, .unset, .unset, .unset] [(.int (if (lcmpW (((p4.toUInt64 >>> ((5 : Int32) &&& 0x3f).toInt64.toUInt64).toInt64) &&& (1 : Int64)) (0 : Int64)) = (0 : Int32) then (((((p4.toUInt64 >>> ((16 : Int32) &&& 0x3f).toInt64.toUInt64).toInt64) &&& (255 : Int64)).toInt32).toUInt32.toUInt16.toUInt32.toInt32) else x11))] := by
    by_cases hc104 : (lcmpW (((p4.toUInt64 >>> ((5 : Int32) &&& 0x3f).toInt64.toUInt64).toInt64) &&& (1 : Int64)) (0 : Int64)) = (0 : Int32)
    · rw [if_pos hc104]
      replace k := k.ifYes (pc' := 150) at_142 (teq hc104).1 (by decide) (by decide)
      replace k := k.lload at_150 rfl
      replace k := k.bipush (16 : Int32) at_152 rfl
      replace k := k.lushr at_154
      replace k := k.ldc2Long at_155 (hw _ (List.mem_of_getElem? (i := 2) rfl))
      replace k := k.land at_158
      replace k := k.l2i at_159
      replace k := k.i2c at_160
      exact k
    · rw [if_neg hc104]
      replace k := k.ifNo at_142 (feq hc104).1
      replace k := k.iload at_145 rfl
      replace k := k.goto (pc' := 161) at_147 (by decide) (by decide)
      exact k
  obtain ⟨x15, hx15⟩ : ∃ z, z = (if (lcmpW (((p4.toUInt64 >>> ((5 : Int32) &&& 0x3f).toInt64.toUInt64).toInt64) &&& (1 : Int64)) (0 : Int64)) = (0 : Int32) then (((((p4.toUInt64 >>> ((16 : Int32) &&& 0x3f).toInt64.toUInt64).toInt64) &&& (255 : Int64)).toInt32).toUInt32.toUInt16.toUInt32.toInt32) else x11) := ⟨_, rfl⟩
  replace k := k.stk [(.int x15)] (by rw [hx15])
  have hk15 : own_ch x15 := by rw [hx15]; exact own_ite (own_chm _) hk11
  replace k := k.istore #[.val (.int p1), .val (.int p2), .val (.long p3), .second, .val (.long p4), .second, .val (.int p5), .val (.int x7), .val (.int x8), .val (.int x9), .val (.int x10), .val (.int x11), .val (.int x12), .val (.int x13), .val (.int x14), .val (.int x15), .unset, .unset, .unset, .unset, .unset, .unset, .unset, .unset, .unset, .unset, .unset, .unset] at_161 rfl
  replace k := k.lload at_163 rfl
  replace k := k.bipush (6 : Int32) at_165 rfl
  replace k := k.lushr at_167
  replace k := k.lconst (1 : Int64) at_168 rfl
  replace k := k.land at_169
  replace k := k.lconst (0 : Int64) at_170 rfl
  replace k := k.lcmp at_171
  replace k : Run C room_1 Z n0 x.cls x.name ret code maxLocals ([] : List Addr) h0 0 0 191 #[.val (.int p1), .val (.int p2), .val (.long p3), .second, .val (.long p4), .second, .val (.int p5), .val (.int x7), .val (.int x8), .val (.int x9), .val (.int x10), .val (.int x11), .val (.int x12), .val (.int x13), .val (.int x14), .val (.int x15), .unset, .unset, .unset, .unset, .unset, .unset, .unset, .unset, .unset, .unset, .unset, .unset] [(.int (if (lcmpW (((p4.toUInt64 >>> ((6 : Int32) &&& 0x3f).toInt64.toUInt64).toInt64) &&& (1 : Int64)) (0 : Int64)) = (0 : Int32) then (((((p4.toUInt64 >>> ((24 : Int32) &&& 0x3f).toInt64.toUInt64).toInt64) &&& (255 : Int64)).toInt32).toUInt32.toUInt16.toUInt32.toInt32) else x12))] := by
    by_cases hc105 : (lcmpW (((p4.toUInt64 >>> ((6 : Int32) &&& 0x3f).toInt64.toUInt64).toInt64) &&& (1 : Int64)) (0 : Int64)) = (0 : Int32)
    · rw [if_pos hc105]
      replace k := k.ifYes (pc' := 180) at_172 (teq hc105).1 (by decide) (by decide)
      replace k := k.lload at_180 rfl
      replace k := k.bipush (24 : Int32) at_182 rfl
      replace k := k.lushr at_184
      replace k := k.ldc2Long at_185 (hw _ (List.mem_of_getElem? (i := 2) rfl))
      replace k := k.land at_188
      replace k := k.l2i at_189
      replace k := k.i2c at_190
      exact k
    · rw [if_neg hc105]
      replace k := k.ifNo at_172 (feq hc105).1
      replace k := k.iload at_175 rfl
      replace k := k.goto (pc' := 191) at_177 (by decide) (by decide)
      exact k
  obtain ⟨x16, hx16⟩ : ∃ z, z = (if (lcmpW (((p4.toUInt64 >>> ((6 : Int32) &&& 0x3f).toInt64.toUInt64).toInt64) &&& (1 : Int64)) (0 : Int64)) = (0 : Int32) then (((((p4.toUInt64 >>> ((24 : Int32) &&& 0x3f).toInt64.toUInt64).toInt64) &&& (255 : Int64)).toInt32).toUInt32.toUInt16.toUInt32.toInt32) else x12) := ⟨_, rfl⟩
  replace k := k.stk [(.int x16)] (by rw [hx16])
  have hk16 : own_ch x16 := by rw [hx16]; exact own_ite (own_chm _) hk12
  replace k := k.istore #[.val (.int p1), .val (.int p2), .val (.long p3), .second, .val (.long p4), .second, .val (.int p5), .val (.int x7), .val (.int x8), .val (.int x9), .val (.int x10), .val (.int x11), .val (.int x12), .val (.int x13), .val (.int x14), .val (.int x15), .val (.int x16), .unset, .unset, .unset, .unset, .unset, .unset, .unset, .unset, .unset, .unset, .unset] at_191 rfl
  replace k := k.iload at_193 rfl
  replace k := k.iconst (3 : Int32) at_195 rfl
  replace k := k.iand at_196
  obtain ⟨x17, hx17⟩ : ∃ z, z = (p5 &&& (3 : Int32)) := ⟨_, rfl⟩
  replace k := k.stk [(.int x17)] (by rw [hx17])
  have hm := own_and3 _ _ hx17
  replace k := k.istore #[.val (.int p1), .val (.int p2), .val (.long p3), .second, .val (.long p4), .second, .val (.int p5), .val (.int x7), .val (.int x8), .val (.int x9), .val (.int x10), .val (.int x11), .val (.int x12), .val (.int x13), .val (.int x14), .val (.int x15), .val (.int x16), .val (.int x17), .unset, .unset, .unset, .unset, .unset, .unset, .unset, .unset, .unset, .unset] at_197 rfl
  replace k := k.iload at_199 rfl
  obtain ⟨_, _, sp201, ⟨rfl, rfl⟩, k⟩ := k.callS (y := (⟨"com/example/lieudit/lieudit/FindingEqualsPinLaw", "rule", "(I)Lcom/example/lieudit/lieudit/Rule;"⟩ : MethodName)) at_201 (hw _ (List.mem_of_getElem? (i := 3) rfl)) (hw _ (List.mem_of_getElem? (i := 4) rfl)) (hw _ (List.mem_of_getElem? (i := 5) rfl)) (hw _ (List.mem_of_getElem? (i := 6) rfl)) (W := 0) (argsL := [(.int x7)]) (rest := []) (rm1 Z a0 hw x7 a_INDICATOR_INVALID a_SUBFIELD_UNDEFINED a_SUBFIELD_REPEATED a_SOURCE_MISSING a_ORDER a_FINAL_STOP a_RECORD_DAMAGED h0 n0 S_INDICATOR_INVALID S_SUBFIELD_UNDEFINED S_SUBFIELD_REPEATED S_SOURCE_MISSING S_ORDER S_FINAL_STOP S_RECORD_DAMAGED) all0 rfl (pd_11) rfl rfl rfl (by decide) (by decide) (by decide) (by decide) (by decide)
  replace k := (k [] all0).sfx [] rfl
  replace k := k.stk [(.ref (own_rule x7 a_INDICATOR_INVALID a_SUBFIELD_UNDEFINED a_SUBFIELD_REPEATED a_SOURCE_MISSING a_ORDER a_FINAL_STOP a_RECORD_DAMAGED))] rfl
  obtain ⟨rr7, hrr7⟩ : ∃ z, z = own_rule x7 a_INDICATOR_INVALID a_SUBFIELD_UNDEFINED a_SUBFIELD_REPEATED a_SOURCE_MISSING a_ORDER a_FINAL_STOP a_RECORD_DAMAGED := ⟨_, rfl⟩
  replace k := k.stk [(.ref rr7)] (by rw [hrr7])
  have E_rr7 : Exa Z h0 rr7 "com/example/lieudit/lieudit/Rule" := by rw [hrr7]; exact own_ruleP (P := fun a => Exa Z h0 a "com/example/lieudit/lieudit/Rule") _ E_INDICATOR_INVALID E_SUBFIELD_UNDEFINED E_SUBFIELD_REPEATED E_SOURCE_MISSING E_ORDER E_FINAL_STOP E_RECORD_DAMAGED
  have O_rr7 : Fld Z h0 rr7 "java/lang/Enum" "ordinal" "I" (.int x7) := by rw [hrr7]; exact own_ruleO hr7 F_INDICATOR_INVALID_ordinal F_SUBFIELD_UNDEFINED_ordinal F_SUBFIELD_REPEATED_ordinal F_SOURCE_MISSING_ordinal F_ORDER_ordinal F_FINAL_STOP_ordinal F_RECORD_DAMAGED_ordinal
  replace k := k.astore #[.val (.int p1), .val (.int p2), .val (.long p3), .second, .val (.long p4), .second, .val (.int p5), .val (.int x7), .val (.int x8), .val (.int x9), .val (.int x10), .val (.int x11), .val (.int x12), .val (.int x13), .val (.int x14), .val (.int x15), .val (.int x16), .val (.int x17), .val (.ref rr7), .unset, .unset, .unset, .unset, .unset, .unset, .unset, .unset, .unset] at_204 rfl rfl
  replace k := k.iload at_206 rfl
  obtain ⟨_, _, sp208, ⟨rfl, rfl⟩, k⟩ := k.callS (y := (⟨"com/example/lieudit/lieudit/FindingEqualsPinLaw", "rule", "(I)Lcom/example/lieudit/lieudit/Rule;"⟩ : MethodName)) at_208 (hw _ (List.mem_of_getElem? (i := 3) rfl)) (hw _ (List.mem_of_getElem? (i := 4) rfl)) (hw _ (List.mem_of_getElem? (i := 5) rfl)) (hw _ (List.mem_of_getElem? (i := 6) rfl)) (W := 0) (argsL := [(.int x8)]) (rest := []) (rm1 Z a0 hw x8 a_INDICATOR_INVALID a_SUBFIELD_UNDEFINED a_SUBFIELD_REPEATED a_SOURCE_MISSING a_ORDER a_FINAL_STOP a_RECORD_DAMAGED h0 n0 S_INDICATOR_INVALID S_SUBFIELD_UNDEFINED S_SUBFIELD_REPEATED S_SOURCE_MISSING S_ORDER S_FINAL_STOP S_RECORD_DAMAGED) all0 rfl (pd_11) rfl rfl rfl (by decide) (by decide) (by decide) (by decide) (by decide)
  replace k := (k [] all0).sfx [] rfl
  replace k := k.stk [(.ref (own_rule x8 a_INDICATOR_INVALID a_SUBFIELD_UNDEFINED a_SUBFIELD_REPEATED a_SOURCE_MISSING a_ORDER a_FINAL_STOP a_RECORD_DAMAGED))] rfl
  obtain ⟨rr8, hrr8⟩ : ∃ z, z = own_rule x8 a_INDICATOR_INVALID a_SUBFIELD_UNDEFINED a_SUBFIELD_REPEATED a_SOURCE_MISSING a_ORDER a_FINAL_STOP a_RECORD_DAMAGED := ⟨_, rfl⟩
  replace k := k.stk [(.ref rr8)] (by rw [hrr8])
  have E_rr8 : Exa Z h0 rr8 "com/example/lieudit/lieudit/Rule" := by rw [hrr8]; exact own_ruleP (P := fun a => Exa Z h0 a "com/example/lieudit/lieudit/Rule") _ E_INDICATOR_INVALID E_SUBFIELD_UNDEFINED E_SUBFIELD_REPEATED E_SOURCE_MISSING E_ORDER E_FINAL_STOP E_RECORD_DAMAGED
  have O_rr8 : Fld Z h0 rr8 "java/lang/Enum" "ordinal" "I" (.int x8) := by rw [hrr8]; exact own_ruleO hr8 F_INDICATOR_INVALID_ordinal F_SUBFIELD_UNDEFINED_ordinal F_SUBFIELD_REPEATED_ordinal F_SOURCE_MISSING_ordinal F_ORDER_ordinal F_FINAL_STOP_ordinal F_RECORD_DAMAGED_ordinal
  replace k := k.astore #[.val (.int p1), .val (.int p2), .val (.long p3), .second, .val (.long p4), .second, .val (.int p5), .val (.int x7), .val (.int x8), .val (.int x9), .val (.int x10), .val (.int x11), .val (.int x12), .val (.int x13), .val (.int x14), .val (.int x15), .val (.int x16), .val (.int x17), .val (.ref rr7), .val (.ref rr8), .unset, .unset, .unset, .unset, .unset, .unset, .unset, .unset] at_211 rfl rfl
  replace k := k.iload at_213 rfl
  replace k := k.iload at_215 rfl
  replace k := k.iload at_217 rfl
  replace k := k.iload at_219 rfl
  obtain ⟨_, h20, sp221, ⟨s20, t20, n20, rfl, K20, z20, Es20, Fc20, Fv20, As20, sm20⟩, k⟩ := k.callS (y := (⟨"com/example/lieudit/lieudit/FindingEqualsPinLaw", "text", "(ICCC)Ljava/lang/String;"⟩ : MethodName)) at_221 (hw _ (List.mem_of_getElem? (i := 10) rfl)) (hw _ (List.mem_of_getElem? (i := 11) rfl)) (hw _ (List.mem_of_getElem? (i := 5) rfl)) (hw _ (List.mem_of_getElem? (i := 12) rfl)) (W := 0) (argsL := [(.int x9), (.int x10), (.int x11), (.int x12)]) (rest := []) (rm2 Z a0 hw x9 x10 x11 x12 zC h0 n0 Z0 S_COMPACT hC hl9 hk10 hk11 hk12) all0 rfl (pd_12) rfl rfl rfl (by decide) (by decide) (by decide) (by decide) (by decide)
  replace k := (k [] all0).sfx [] rfl
  replace k := k.stk [(.ref s20)] rfl
  replace k := k.astore #[.val (.int p1), .val (.int p2), .val (.long p3), .second, .val (.long p4), .second, .val (.int p5), .val (.int x7), .val (.int x8), .val (.int x9), .val (.int x10), .val (.int x11), .val (.int x12), .val (.int x13), .val (.int x14), .val (.int x15), .val (.int x16), .val (.int x17), .val (.ref rr7), .val (.ref rr8), .val (.ref s20), .unset, .unset, .unset, .unset, .unset, .unset, .unset] at_224 rfl rfl
  replace k := k.iload at_226 rfl
  replace k := k.iload at_228 rfl
  replace k := k.iload at_230 rfl
  replace k := k.iload at_232 rfl
  obtain ⟨_, h21, sp234, ⟨s21, t21, n21, rfl, K21, z21, Es21, Fc21, Fv21, As21, sm21⟩, k⟩ := k.callS (y := (⟨"com/example/lieudit/lieudit/FindingEqualsPinLaw", "text", "(ICCC)Ljava/lang/String;"⟩ : MethodName)) at_234 (hw _ (List.mem_of_getElem? (i := 10) rfl)) (hw _ (List.mem_of_getElem? (i := 11) rfl)) (hw _ (List.mem_of_getElem? (i := 5) rfl)) (hw _ (List.mem_of_getElem? (i := 12) rfl)) (W := 0) (argsL := [(.int x13), (.int x14), (.int x15), (.int x16)]) (rest := []) (rm2 Z a0 hw x13 x14 x15 x16 zC h20 n0 (Nat.le_trans Z0 K20.1) (Sta.keepN S_COMPACT K20 all0) hC hl13 hk14 hk15 hk16) all0 rfl (pd_12) rfl rfl rfl (by decide) (by decide) (by decide) (by decide) (by decide)
  replace k := (k [] all0).sfx [] rfl
  replace k := k.stk [(.ref s21)] rfl
  replace k := k.astore #[.val (.int p1), .val (.int p2), .val (.long p3), .second, .val (.long p4), .second, .val (.int p5), .val (.int x7), .val (.int x8), .val (.int x9), .val (.int x10), .val (.int x11), .val (.int x12), .val (.int x13), .val (.int x14), .val (.int x15), .val (.int x16), .val (.int x17), .val (.ref rr7), .val (.ref rr8), .val (.ref s20), .val (.ref s21), .unset, .unset, .unset, .unset, .unset, .unset] at_237 rfl rfl
  obtain ⟨h106, b106, g106, E106, A106, D106, k⟩ := k.newO at_239 (hw _ (List.mem_of_getElem? (i := 50) rfl)) (hw _ (List.mem_of_getElem? (i := 51) rfl)) (hw _ (List.mem_of_getElem? (i := 52) rfl)) (by decide) (by decide)
  have ge_b106 : n0 ≤ b106 := Nat.le_trans (Nat.le_trans (Nat.le_trans Z0 K20.1) K21.1) (Nat.le_of_eq g106.symm)
  have F_rule_b106 : Fld Z h106 b106 "com/example/lieudit/lieudit/Finding" "rule" "Lcom/example/lieudit/lieudit/Rule;" .null := D106 (Or.inr (hw _ (List.mem_of_getElem? (i := 58) rfl))) (ty := (.object "com/example/lieudit/lieudit/Rule")) (by decide)
  have F_detail_b106 : Fld Z h106 b106 "com/example/lieudit/lieudit/Finding" "detail" "Ljava/lang/String;" .null := D106 (Or.inr (hw _ (List.mem_of_getElem? (i := 60) rfl))) (ty := (.object "java/lang/String")) (by decide)
  replace k := k.dup at_242 rfl
  replace k := k.aload at_243 rfl rfl
  replace k := k.aload at_245 rfl rfl
  obtain ⟨_, hf107, sp247, ⟨rfl, Kf107, Frf107, Fdf107⟩, k⟩ := k.callI (y := (⟨"com/example/lieudit/lieudit/Finding", "<init>", "(Lcom/example/lieudit/lieudit/Rule;Ljava/lang/String;)V"⟩ : MethodName)) (a := b106) at_247 rfl (hw _ (List.mem_of_getElem? (i := 53) rfl)) (hw _ (List.mem_of_getElem? (i := 54) rfl)) (hw _ (List.mem_of_getElem? (i := 52) rfl)) (hw _ (List.mem_of_getElem? (i := 55) rfl)) (W := 1) (argsL := [(.ref rr7), (.ref s20)]) (rest := [(.ref b106)]) (rm10 Z a0 hw b106 rr7 s20 h106 n0 (Nat.le_trans (Nat.le_trans (Nat.le_trans Z0 K20.1) K21.1) E106.1) ge_b106 A106 F_rule_b106 F_detail_b106) (allS (List.mem_of_getElem? (i := 0) rfl) all0) rfl (pd_13) rfl rfl rfl (by decide) (by decide) (by decide) (by decide) (by decide)
  replace k := (k [] all0).sfx [b106] rfl
  replace k := k.stk [(.ref b106)] rfl
  replace k := k.astore #[.val (.int p1), .val (.int p2), .val (.long p3), .second, .val (.long p4), .second, .val (.int p5), .val (.int x7), .val (.int x8), .val (.int x9), .val (.int x10), .val (.int x11), .val (.int x12), .val (.int x13), .val (.int x14), .val (.int x15), .val (.int x16), .val (.int x17), .val (.ref rr7), .val (.ref rr8), .val (.ref s20), .val (.ref s21), .val (.ref b106), .unset, .unset, .unset, .unset, .unset] at_250 rfl rfl
  obtain ⟨h108, b108, g108, E108, A108, D108, k⟩ := k.newO at_252 (hw _ (List.mem_of_getElem? (i := 50) rfl)) (hw _ (List.mem_of_getElem? (i := 51) rfl)) (hw _ (List.mem_of_getElem? (i := 52) rfl)) (by decide) (by decide)
  have ge_b108 : n0 ≤ b108 := Nat.le_trans (Nat.le_trans (Nat.le_trans (Nat.le_trans (Nat.le_trans Z0 K20.1) K21.1) E106.1) Kf107.1) (Nat.le_of_eq g108.symm)
  have F_rule_b108 : Fld Z h108 b108 "com/example/lieudit/lieudit/Finding" "rule" "Lcom/example/lieudit/lieudit/Rule;" .null := D108 (Or.inr (hw _ (List.mem_of_getElem? (i := 58) rfl))) (ty := (.object "com/example/lieudit/lieudit/Rule")) (by decide)
  have F_detail_b108 : Fld Z h108 b108 "com/example/lieudit/lieudit/Finding" "detail" "Ljava/lang/String;" .null := D108 (Or.inr (hw _ (List.mem_of_getElem? (i := 60) rfl))) (ty := (.object "java/lang/String")) (by decide)
  replace k := k.dup at_255 rfl
  replace k := k.aload at_256 rfl rfl
  replace k := k.aload at_258 rfl rfl
  obtain ⟨_, hf109, sp260, ⟨rfl, Kf109, Frf109, Fdf109⟩, k⟩ := k.callI (y := (⟨"com/example/lieudit/lieudit/Finding", "<init>", "(Lcom/example/lieudit/lieudit/Rule;Ljava/lang/String;)V"⟩ : MethodName)) (a := b108) at_260 rfl (hw _ (List.mem_of_getElem? (i := 53) rfl)) (hw _ (List.mem_of_getElem? (i := 54) rfl)) (hw _ (List.mem_of_getElem? (i := 52) rfl)) (hw _ (List.mem_of_getElem? (i := 55) rfl)) (W := 1) (argsL := [(.ref rr8), (.ref s21)]) (rest := [(.ref b108)]) (rm10 Z a0 hw b108 rr8 s21 h108 n0 (Nat.le_trans (Nat.le_trans (Nat.le_trans (Nat.le_trans (Nat.le_trans Z0 K20.1) K21.1) E106.1) Kf107.1) E108.1) ge_b108 A108 F_rule_b108 F_detail_b108) (allS (List.mem_of_getElem? (i := 0) rfl) all0) rfl (pd_13) rfl rfl rfl (by decide) (by decide) (by decide) (by decide) (by decide)
  replace k := (k [] all0).sfx [b108, b106] rfl
  replace k := k.stk [(.ref b108)] rfl
  replace k := k.astore #[.val (.int p1), .val (.int p2), .val (.long p3), .second, .val (.long p4), .second, .val (.int p5), .val (.int x7), .val (.int x8), .val (.int x9), .val (.int x10), .val (.int x11), .val (.int x12), .val (.int x13), .val (.int x14), .val (.int x15), .val (.int x16), .val (.int x17), .val (.ref rr7), .val (.ref rr8), .val (.ref s20), .val (.ref s21), .val (.ref b106), .val (.ref b108), .unset, .unset, .unset, .unset] at_263 rfl rfl
  replace k := k.aload at_265 rfl rfl
  replace k := k.astore #[.val (.int p1), .val (.int p2), .val (.long p3), .second, .val (.long p4), .second, .val (.int p5), .val (.int x7), .val (.int x8), .val (.int x9), .val (.int x10), .val (.int x11), .val (.int x12), .val (.int x13), .val (.int x14), .val (.int x15), .val (.int x16), .val (.int x17), .val (.ref rr7), .val (.ref rr8), .val (.ref s20), .val (.ref s21), .val (.ref b106), .val (.ref b108), .val (.ref b108), .unset, .unset, .unset] at_267 rfl rfl
  rcases hm with hm | hm | hm | hm
  · skip
    replace k := k.loc #[.val (.int p1), .val (.int p2), .val (.long p3), .second, .val (.long p4), .second, .val (.int p5), .val (.int x7), .val (.int x8), .val (.int x9), .val (.int x10), .val (.int x11), .val (.int x12), .val (.int x13), .val (.int x14), .val (.int x15), .val (.int x16), .val (.int (0 : Int32)), .val (.ref rr7), .val (.ref rr8), .val (.ref s20), .val (.ref s21), .val (.ref b106), .val (.ref b108), .val (.ref b108), .unset, .unset, .unset] (by rw [hm])
    replace k := k.iload at_269 rfl
    replace k := k.iconst (1 : Int32) at_271 rfl
    replace k := k.icmpYes (pc' := 281) at_272 (by decide) (by decide) (by decide)
    replace k := k.iload at_281 rfl
    replace k := k.iconst (2 : Int32) at_283 rfl
    replace k := k.icmpYes (pc' := 294) at_284 (by decide) (by decide) (by decide)
    replace k := k.iload at_294 rfl
    replace k := k.iconst (3 : Int32) at_296 rfl
    replace k := k.icmpYes (pc' := 304) at_297 (by decide) (by decide) (by decide)
    obtain ⟨s25, hs25, k⟩ : ∃ z_ : Int32, z_ = own_same x9 x10 x11 x12 x13 x14 x15 x16 ∧ Run C room_1 Z n0 x.cls x.name ret code maxLocals ([b108, b106] : List Addr) hf109 14 28 355 #[.val (.int p1), .val (.int p2), .val (.long p3), .second, .val (.long p4), .second, .val (.int p5), .val (.int x7), .val (.int x8), .val (.int x9), .val (.int x10), .val (.int x11), .val (.int x12), .val (.int x13), .val (.int x14), .val (.int x15), .val (.int x16), .val (.int (0 : Int32)), .val (.ref rr7), .val (.ref rr8), .val (.ref s20), .val (.ref s21), .val (.ref b106), .val (.ref b108), .val (.ref b108), .unset, .unset, .unset] [(.int z_)] := by
      replace k := k.iload at_304 rfl
      replace k := k.iload at_306 rfl
      by_cases hc110 : x9 = x13
      · skip
        replace k := k.icmpNo at_308 (teq hc110).2
        replace k := k.iload at_311 rfl
        replace k := k.iconst (1 : Int32) at_313 rfl
        by_cases hc111 : x9 < (1 : Int32)
        · skip
          replace k := k.icmpYes (pc' := 324) at_314 (tlt hc111).1 (by decide) (by decide)
          replace k := k.iload at_324 rfl
          replace k := k.iconst (2 : Int32) at_326 rfl
          by_cases hc112 : x9 < (2 : Int32)
          · skip
            replace k := k.icmpYes (pc' := 337) at_327 (tlt hc112).1 (by decide) (by decide)
            replace k := k.iload at_337 rfl
            replace k := k.iconst (3 : Int32) at_339 rfl
            by_cases hc113 : x9 < (3 : Int32)
            · skip
              replace k := k.icmpYes (pc' := 350) at_340 (tlt hc113).1 (by decide) (by decide)
              replace k := k.iconst (1 : Int32) at_350 rfl
              replace k := k.goto (pc' := 355) at_351 (by decide) (by decide)
              exact ⟨_, by rw [own_same, if_pos hc110, if_pos hc111, if_pos hc112, if_pos hc113], k⟩
            · skip
              replace k := k.icmpNo at_340 (flt hc113).1
              replace k := k.iload at_343 rfl
              replace k := k.iload at_345 rfl
              by_cases hc114 : x12 = x16
              · skip
                replace k := k.icmpNo at_347 (teq hc114).2
                replace k := k.iconst (1 : Int32) at_350 rfl
                replace k := k.goto (pc' := 355) at_351 (by decide) (by decide)
                exact ⟨_, by rw [own_same, if_pos hc110, if_pos hc111, if_pos hc112, if_neg hc113, if_pos hc114], k⟩
              · skip
                replace k := k.icmpYes (pc' := 354) at_347 (feq hc114).2 (by decide) (by decide)
                replace k := k.iconst (0 : Int32) at_354 rfl
                exact ⟨_, by rw [own_same, if_pos hc110, if_pos hc111, if_pos hc112, if_neg hc113, if_neg hc114], k⟩
          · skip
            replace k := k.icmpNo at_327 (flt hc112).1
            replace k := k.iload at_330 rfl
            replace k := k.iload at_332 rfl
            by_cases hc115 : x11 = x15
            · skip
              replace k := k.icmpNo at_334 (teq hc115).2
              replace k := k.iload at_337 rfl
              replace k := k.iconst (3 : Int32) at_339 rfl
              by_cases hc116 : x9 < (3 : Int32)
              · skip
                replace k := k.icmpYes (pc' := 350) at_340 (tlt hc116).1 (by decide) (by decide)
                replace k := k.iconst (1 : Int32) at_350 rfl
                replace k := k.goto (pc' := 355) at_351 (by decide) (by decide)
                exact ⟨_, by rw [own_same, if_pos hc110, if_pos hc111, if_neg hc112, if_pos hc115, if_pos hc116], k⟩
              · skip
                replace k := k.icmpNo at_340 (flt hc116).1
                replace k := k.iload at_343 rfl
                replace k := k.iload at_345 rfl
                by_cases hc117 : x12 = x16
                · skip
                  replace k := k.icmpNo at_347 (teq hc117).2
                  replace k := k.iconst (1 : Int32) at_350 rfl
                  replace k := k.goto (pc' := 355) at_351 (by decide) (by decide)
                  exact ⟨_, by rw [own_same, if_pos hc110, if_pos hc111, if_neg hc112, if_pos hc115, if_neg hc116, if_pos hc117], k⟩
                · skip
                  replace k := k.icmpYes (pc' := 354) at_347 (feq hc117).2 (by decide) (by decide)
                  replace k := k.iconst (0 : Int32) at_354 rfl
                  exact ⟨_, by rw [own_same, if_pos hc110, if_pos hc111, if_neg hc112, if_pos hc115, if_neg hc116, if_neg hc117], k⟩
            · skip
              replace k := k.icmpYes (pc' := 354) at_334 (feq hc115).2 (by decide) (by decide)
              replace k := k.iconst (0 : Int32) at_354 rfl
              exact ⟨_, by rw [own_same, if_pos hc110, if_pos hc111, if_neg hc112, if_neg hc115], k⟩
        · skip
          replace k := k.icmpNo at_314 (flt hc111).1
          replace k := k.iload at_317 rfl
          replace k := k.iload at_319 rfl
          by_cases hc118 : x10 = x14
          · skip
            replace k := k.icmpNo at_321 (teq hc118).2
            replace k := k.iload at_324 rfl
            replace k := k.iconst (2 : Int32) at_326 rfl
            by_cases hc119 : x9 < (2 : Int32)
            · skip
              replace k := k.icmpYes (pc' := 337) at_327 (tlt hc119).1 (by decide) (by decide)
              replace k := k.iload at_337 rfl
              replace k := k.iconst (3 : Int32) at_339 rfl
              by_cases hc120 : x9 < (3 : Int32)
              · skip
                replace k := k.icmpYes (pc' := 350) at_340 (tlt hc120).1 (by decide) (by decide)
                replace k := k.iconst (1 : Int32) at_350 rfl
                replace k := k.goto (pc' := 355) at_351 (by decide) (by decide)
                exact ⟨_, by rw [own_same, if_pos hc110, if_neg hc111, if_pos hc118, if_pos hc119, if_pos hc120], k⟩
              · skip
                replace k := k.icmpNo at_340 (flt hc120).1
                replace k := k.iload at_343 rfl
                replace k := k.iload at_345 rfl
                by_cases hc121 : x12 = x16
                · skip
                  replace k := k.icmpNo at_347 (teq hc121).2
                  replace k := k.iconst (1 : Int32) at_350 rfl
                  replace k := k.goto (pc' := 355) at_351 (by decide) (by decide)
                  exact ⟨_, by rw [own_same, if_pos hc110, if_neg hc111, if_pos hc118, if_pos hc119, if_neg hc120, if_pos hc121], k⟩
                · skip
                  replace k := k.icmpYes (pc' := 354) at_347 (feq hc121).2 (by decide) (by decide)
                  replace k := k.iconst (0 : Int32) at_354 rfl
                  exact ⟨_, by rw [own_same, if_pos hc110, if_neg hc111, if_pos hc118, if_pos hc119, if_neg hc120, if_neg hc121], k⟩
            · skip
              replace k := k.icmpNo at_327 (flt hc119).1
              replace k := k.iload at_330 rfl
              replace k := k.iload at_332 rfl
              by_cases hc122 : x11 = x15
              · skip
                replace k := k.icmpNo at_334 (teq hc122).2
                replace k := k.iload at_337 rfl
                replace k := k.iconst (3 : Int32) at_339 rfl
                by_cases hc123 : x9 < (3 : Int32)
                · skip
                  replace k := k.icmpYes (pc' := 350) at_340 (tlt hc123).1 (by decide) (by decide)
                  replace k := k.iconst (1 : Int32) at_350 rfl
                  replace k := k.goto (pc' := 355) at_351 (by decide) (by decide)
                  exact ⟨_, by rw [own_same, if_pos hc110, if_neg hc111, if_pos hc118, if_neg hc119, if_pos hc122, if_pos hc123], k⟩
                · skip
                  replace k := k.icmpNo at_340 (flt hc123).1
                  replace k := k.iload at_343 rfl
                  replace k := k.iload at_345 rfl
                  by_cases hc124 : x12 = x16
                  · skip
                    replace k := k.icmpNo at_347 (teq hc124).2
                    replace k := k.iconst (1 : Int32) at_350 rfl
                    replace k := k.goto (pc' := 355) at_351 (by decide) (by decide)
                    exact ⟨_, by rw [own_same, if_pos hc110, if_neg hc111, if_pos hc118, if_neg hc119, if_pos hc122, if_neg hc123, if_pos hc124], k⟩
                  · skip
                    replace k := k.icmpYes (pc' := 354) at_347 (feq hc124).2 (by decide) (by decide)
                    replace k := k.iconst (0 : Int32) at_354 rfl
                    exact ⟨_, by rw [own_same, if_pos hc110, if_neg hc111, if_pos hc118, if_neg hc119, if_pos hc122, if_neg hc123, if_neg hc124], k⟩
              · skip
                replace k := k.icmpYes (pc' := 354) at_334 (feq hc122).2 (by decide) (by decide)
                replace k := k.iconst (0 : Int32) at_354 rfl
                exact ⟨_, by rw [own_same, if_pos hc110, if_neg hc111, if_pos hc118, if_neg hc119, if_neg hc122], k⟩
          · skip
            replace k := k.icmpYes (pc' := 354) at_321 (feq hc118).2 (by decide) (by decide)
            replace k := k.iconst (0 : Int32) at_354 rfl
            exact ⟨_, by rw [own_same, if_pos hc110, if_neg hc111, if_neg hc118], k⟩
      · skip
        replace k := k.icmpYes (pc' := 354) at_308 (feq hc110).2 (by decide) (by decide)
        replace k := k.iconst (0 : Int32) at_354 rfl
        exact ⟨_, by rw [own_same, if_neg hc110], k⟩
    replace k := k.istore #[.val (.int p1), .val (.int p2), .val (.long p3), .second, .val (.long p4), .second, .val (.int p5), .val (.int x7), .val (.int x8), .val (.int x9), .val (.int x10), .val (.int x11), .val (.int x12), .val (.int x13), .val (.int x14), .val (.int x15), .val (.int x16), .val (.int (0 : Int32)), .val (.ref rr7), .val (.ref rr8), .val (.ref s20), .val (.ref s21), .val (.ref b106), .val (.ref b108), .val (.ref b108), .val (.int s25), .unset, .unset] at_355 rfl
    replace k := k.iload at_357 rfl
    replace k := k.ifNo at_359 (by decide)
    obtain ⟨x26, hx26, k⟩ : ∃ z_ : Int32, z_ = own_ex x7 x8 s25 ∧ Run C room_1 Z n0 x.cls x.name ret code maxLocals ([b108, b106] : List Addr) hf109 14 28 379 #[.val (.int p1), .val (.int p2), .val (.long p3), .second, .val (.long p4), .second, .val (.int p5), .val (.int x7), .val (.int x8), .val (.int x9), .val (.int x10), .val (.int x11), .val (.int x12), .val (.int x13), .val (.int x14), .val (.int x15), .val (.int x16), .val (.int (0 : Int32)), .val (.ref rr7), .val (.ref rr8), .val (.ref s20), .val (.ref s21), .val (.ref b106), .val (.ref b108), .val (.ref b108), .val (.int s25), .unset, .unset] [(.int z_)] := by
      replace k := k.iload at_362 rfl
      replace k := k.iload at_364 rfl
      by_cases hc125 : x7 = x8
      · skip
        replace k := k.icmpNo at_366 (teq hc125).2
        replace k := k.iload at_369 rfl
        by_cases hc126 : s25 = (0 : Int32)
        · skip
          replace k := k.ifYes (pc' := 378) at_371 (teq hc126).1 (by decide) (by decide)
          replace k := k.iconst (0 : Int32) at_378 rfl
          exact ⟨_, by rw [own_ex, if_pos hc125, if_pos hc126], k⟩
        · skip
          replace k := k.ifNo at_371 (feq hc126).1
          replace k := k.iconst (1 : Int32) at_374 rfl
          replace k := k.goto (pc' := 379) at_375 (by decide) (by decide)
          exact ⟨_, by rw [own_ex, if_pos hc125, if_neg hc126], k⟩
      · skip
        replace k := k.icmpYes (pc' := 378) at_366 (feq hc125).2 (by decide) (by decide)
        replace k := k.iconst (0 : Int32) at_378 rfl
        exact ⟨_, by rw [own_ex, if_neg hc125], k⟩
    replace k := k.istore #[.val (.int p1), .val (.int p2), .val (.long p3), .second, .val (.long p4), .second, .val (.int p5), .val (.int x7), .val (.int x8), .val (.int x9), .val (.int x10), .val (.int x11), .val (.int x12), .val (.int x13), .val (.int x14), .val (.int x15), .val (.int x16), .val (.int (0 : Int32)), .val (.ref rr7), .val (.ref rr8), .val (.ref s20), .val (.ref s21), .val (.ref b106), .val (.ref b108), .val (.ref b108), .val (.int s25), .val (.int x26), .unset] at_379 rfl
    replace k := k.aload at_381 rfl rfl
    replace k := k.aload at_383 rfl rfl
    obtain ⟨_, _, sp385, ⟨rfl, rfl⟩, k⟩ := k.callV (y := (⟨"com/example/lieudit/lieudit/Finding", "equals", "(Ljava/lang/Object;)Z"⟩ : MethodName)) (z := (⟨"com/example/lieudit/lieudit/Finding", "equals", "(Ljava/lang/Object;)Z"⟩ : MethodName)) (a := b106) at_385 (hw _ (List.mem_of_getElem? (i := 61) rfl)) (hw _ (List.mem_of_getElem? (i := 62) rfl)) (fun s hs => notFace_of_selects (args := #[]) (mvT hs (hw _ (List.mem_of_getElem? (i := 64) rfl)))) (hw _ (List.mem_of_getElem? (i := 64) rfl)) (hw _ (List.mem_of_getElem? (i := 63) rfl)) (hw _ (List.mem_of_getElem? (i := 52) rfl)) (hw _ (List.mem_of_getElem? (i := 65) rfl)) ((Exa.ext E108 (A106.keep Kf107)).keep Kf109) (W := 0) (argsL := [(.ref b108)]) (rest := []) (rm11_F Z a0 hw b106 b108 rr7 rr8 s20 s21 t20 t21 n20 n21 x9 (x10.toInt8.toInt32) (x11.toInt8.toInt32) (x12.toInt8.toInt32) x13 (x14.toInt8.toInt32) (x15.toInt8.toInt32) (x16.toInt8.toInt32) zC hf109 n0 (Sta.keepN (Sta.ext E108 (Sta.keepN (Sta.ext E106 (Sta.keepN (Sta.keepN S_COMPACT K20 all0) K21 all0)) Kf107 (allS (Exa.nost A106) all0))) Kf109 (allS (Exa.nost A108) all0)) hC ((Exa.ext E108 ((Exa.ext E106 (Es20.keep K21)).keep Kf107)).keep Kf109) ((Fld.ext E108 ((Fld.ext E106 (Fc20.keep K21 nin0)).keep Kf107 (ninS (Nat.ne_of_lt (Nat.lt_of_lt_of_le (Es20.keep K21).lt (Nat.le_of_eq g106.symm))) nin0))).keep Kf109 (ninS (Nat.ne_of_lt (Nat.lt_of_lt_of_le ((Exa.ext E106 (Es20.keep K21)).keep Kf107).lt (Nat.le_of_eq g108.symm))) nin0)) ((Fld.ext E108 ((Fld.ext E106 (Fv20.keep K21 nin0)).keep Kf107 (ninS (Nat.ne_of_lt (Nat.lt_of_lt_of_le (Es20.keep K21).lt (Nat.le_of_eq g106.symm))) nin0))).keep Kf109 (ninS (Nat.ne_of_lt (Nat.lt_of_lt_of_le ((Exa.ext E106 (Es20.keep K21)).keep Kf107).lt (Nat.le_of_eq g108.symm))) nin0)) (((((As20.keep K21 nin0).ext E106).keep Kf107 (ninS (Nat.ne_of_lt (Nat.lt_of_lt_of_le (As20.keep K21 nin0).lt (Nat.le_of_eq g106.symm))) nin0)).ext E108).keep Kf109 (ninS (Nat.ne_of_lt (Nat.lt_of_lt_of_le (((As20.keep K21 nin0).ext E106).keep Kf107 (ninS (Nat.ne_of_lt (Nat.lt_of_lt_of_le (As20.keep K21 nin0).lt (Nat.le_of_eq g106.symm))) nin0)).lt (Nat.le_of_eq g108.symm))) nin0)) sm20 ((Exa.ext E108 ((Exa.ext E106 Es21).keep Kf107)).keep Kf109) ((Fld.ext E108 ((Fld.ext E106 Fc21).keep Kf107 (ninS (Nat.ne_of_lt (Nat.lt_of_lt_of_le Es21.lt (Nat.le_of_eq g106.symm))) nin0))).keep Kf109 (ninS (Nat.ne_of_lt (Nat.lt_of_lt_of_le ((Exa.ext E106 Es21).keep Kf107).lt (Nat.le_of_eq g108.symm))) nin0)) ((Fld.ext E108 ((Fld.ext E106 Fv21).keep Kf107 (ninS (Nat.ne_of_lt (Nat.lt_of_lt_of_le Es21.lt (Nat.le_of_eq g106.symm))) nin0))).keep Kf109 (ninS (Nat.ne_of_lt (Nat.lt_of_lt_of_le ((Exa.ext E106 Es21).keep Kf107).lt (Nat.le_of_eq g108.symm))) nin0)) ((((As21.ext E106).keep Kf107 (ninS (Nat.ne_of_lt (Nat.lt_of_lt_of_le As21.lt (Nat.le_of_eq g106.symm))) nin0)).ext E108).keep Kf109 (ninS (Nat.ne_of_lt (Nat.lt_of_lt_of_le ((As21.ext E106).keep Kf107 (ninS (Nat.ne_of_lt (Nat.lt_of_lt_of_le As21.lt (Nat.le_of_eq g106.symm))) nin0)).lt (Nat.le_of_eq g108.symm))) nin0)) sm21 (Nat.ne_of_lt (Nat.lt_of_lt_of_le Es20.lt z21)) ((Fld.ext E108 Frf107).keep Kf109 (ninS (Nat.ne_of_lt (Nat.lt_of_lt_of_le (A106.keep Kf107).lt (Nat.le_of_eq g108.symm))) nin0)) ((Fld.ext E108 Fdf107).keep Kf109 (ninS (Nat.ne_of_lt (Nat.lt_of_lt_of_le (A106.keep Kf107).lt (Nat.le_of_eq g108.symm))) nin0)) Frf109 Fdf109 (A108.keep Kf109)) all0 rfl (pd_10) rfl rfl rfl (by decide) (by decide) (by decide) (by decide) (by decide)
    replace k := (k [] all0).sfx [b108, b106] rfl
    replace k := k.stk [(.int (own_fe rr7 rr8 x9 (x10.toInt8.toInt32) (x11.toInt8.toInt32) (x12.toInt8.toInt32) x13 (x14.toInt8.toInt32) (x15.toInt8.toInt32) (x16.toInt8.toInt32)))] rfl
    replace k := k.iload at_388 rfl
    replace k := k.icmpNo at_390 (teq (own_law0 (own_rinj O_rr7 O_rr8) (fun q => by rw [hrr7, hrr8, q]) hl9 hl13 hk10 hk11 hk12 hk14 hk15 hk16 hs25 hx26)).2
    replace k := k.iconst (1 : Int32) at_393 rfl
    replace k := k.goto (pc' := 398) at_394 (by decide) (by decide)
    replace k := k.istore #[.val (.int p1), .val (.int p2), .val (.long p3), .second, .val (.long p4), .second, .val (.int p5), .val (.int x7), .val (.int x8), .val (.int x9), .val (.int x10), .val (.int x11), .val (.int x12), .val (.int x13), .val (.int x14), .val (.int x15), .val (.int x16), .val (.int (0 : Int32)), .val (.ref rr7), .val (.ref rr8), .val (.ref s20), .val (.ref s21), .val (.ref b106), .val (.ref b108), .val (.ref b108), .val (.int s25), .val (.int x26), .val (.int (1 : Int32))] at_398 rfl
    replace k := k.iload at_400 rfl
    replace k := k.ifNo at_402 (by decide)
    replace k := k.iload at_405 rfl
    replace k := k.ifNo at_407 (by decide)
    replace k := k.aload at_410 rfl rfl
    replace k := k.aload at_412 rfl rfl
    obtain ⟨_, _, sp414, ⟨rfl, rfl⟩, k⟩ := k.callV (y := (⟨"com/example/lieudit/lieudit/Finding", "equals", "(Ljava/lang/Object;)Z"⟩ : MethodName)) (z := (⟨"com/example/lieudit/lieudit/Finding", "equals", "(Ljava/lang/Object;)Z"⟩ : MethodName)) (a := b108) at_414 (hw _ (List.mem_of_getElem? (i := 61) rfl)) (hw _ (List.mem_of_getElem? (i := 62) rfl)) (fun s hs => notFace_of_selects (args := #[]) (mvT hs (hw _ (List.mem_of_getElem? (i := 64) rfl)))) (hw _ (List.mem_of_getElem? (i := 64) rfl)) (hw _ (List.mem_of_getElem? (i := 63) rfl)) (hw _ (List.mem_of_getElem? (i := 52) rfl)) (hw _ (List.mem_of_getElem? (i := 65) rfl)) (A108.keep Kf109) (W := 0) (argsL := [(.ref b106)]) (rest := []) (rm11_F Z a0 hw b108 b106 rr8 rr7 s21 s20 t21 t20 n21 n20 x13 (x14.toInt8.toInt32) (x15.toInt8.toInt32) (x16.toInt8.toInt32) x9 (x10.toInt8.toInt32) (x11.toInt8.toInt32) (x12.toInt8.toInt32) zC hf109 n0 (Sta.keepN (Sta.ext E108 (Sta.keepN (Sta.ext E106 (Sta.keepN (Sta.keepN S_COMPACT K20 all0) K21 all0)) Kf107 (allS (Exa.nost A106) all0))) Kf109 (allS (Exa.nost A108) all0)) hC ((Exa.ext E108 ((Exa.ext E106 Es21).keep Kf107)).keep Kf109) ((Fld.ext E108 ((Fld.ext E106 Fc21).keep Kf107 (ninS (Nat.ne_of_lt (Nat.lt_of_lt_of_le Es21.lt (Nat.le_of_eq g106.symm))) nin0))).keep Kf109 (ninS (Nat.ne_of_lt (Nat.lt_of_lt_of_le ((Exa.ext E106 Es21).keep Kf107).lt (Nat.le_of_eq g108.symm))) nin0)) ((Fld.ext E108 ((Fld.ext E106 Fv21).keep Kf107 (ninS (Nat.ne_of_lt (Nat.lt_of_lt_of_le Es21.lt (Nat.le_of_eq g106.symm))) nin0))).keep Kf109 (ninS (Nat.ne_of_lt (Nat.lt_of_lt_of_le ((Exa.ext E106 Es21).keep Kf107).lt (Nat.le_of_eq g108.symm))) nin0)) ((((As21.ext E106).keep Kf107 (ninS (Nat.ne_of_lt (Nat.lt_of_lt_of_le As21.lt (Nat.le_of_eq g106.symm))) nin0)).ext E108).keep Kf109 (ninS (Nat.ne_of_lt (Nat.lt_of_lt_of_le ((As21.ext E106).keep Kf107 (ninS (Nat.ne_of_lt (Nat.lt_of_lt_of_le As21.lt (Nat.le_of_eq g106.symm))) nin0)).lt (Nat.le_of_eq g108.symm))) nin0)) sm21 ((Exa.ext E108 ((Exa.ext E106 (Es20.keep K21)).keep Kf107)).keep Kf109) ((Fld.ext E108 ((Fld.ext E106 (Fc20.keep K21 nin0)).keep Kf107 (ninS (Nat.ne_of_lt (Nat.lt_of_lt_of_le (Es20.keep K21).lt (Nat.le_of_eq g106.symm))) nin0))).keep Kf109 (ninS (Nat.ne_of_lt (Nat.lt_of_lt_of_le ((Exa.ext E106 (Es20.keep K21)).keep Kf107).lt (Nat.le_of_eq g108.symm))) nin0)) ((Fld.ext E108 ((Fld.ext E106 (Fv20.keep K21 nin0)).keep Kf107 (ninS (Nat.ne_of_lt (Nat.lt_of_lt_of_le (Es20.keep K21).lt (Nat.le_of_eq g106.symm))) nin0))).keep Kf109 (ninS (Nat.ne_of_lt (Nat.lt_of_lt_of_le ((Exa.ext E106 (Es20.keep K21)).keep Kf107).lt (Nat.le_of_eq g108.symm))) nin0)) (((((As20.keep K21 nin0).ext E106).keep Kf107 (ninS (Nat.ne_of_lt (Nat.lt_of_lt_of_le (As20.keep K21 nin0).lt (Nat.le_of_eq g106.symm))) nin0)).ext E108).keep Kf109 (ninS (Nat.ne_of_lt (Nat.lt_of_lt_of_le (((As20.keep K21 nin0).ext E106).keep Kf107 (ninS (Nat.ne_of_lt (Nat.lt_of_lt_of_le (As20.keep K21 nin0).lt (Nat.le_of_eq g106.symm))) nin0)).lt (Nat.le_of_eq g108.symm))) nin0)) sm20 (Ne.symm (Nat.ne_of_lt (Nat.lt_of_lt_of_le Es20.lt z21))) Frf109 Fdf109 ((Fld.ext E108 Frf107).keep Kf109 (ninS (Nat.ne_of_lt (Nat.lt_of_lt_of_le (A106.keep Kf107).lt (Nat.le_of_eq g108.symm))) nin0)) ((Fld.ext E108 Fdf107).keep Kf109 (ninS (Nat.ne_of_lt (Nat.lt_of_lt_of_le (A106.keep Kf107).lt (Nat.le_of_eq g108.symm))) nin0)) ((Exa.ext E108 (A106.keep Kf107)).keep Kf109)) all0 rfl (pd_10) rfl rfl rfl (by decide) (by decide) (by decide) (by decide) (by decide)
    replace k := (k [] all0).sfx [b108, b106] rfl
    replace k := k.stk [(.int (own_fe rr8 rr7 x13 (x14.toInt8.toInt32) (x15.toInt8.toInt32) (x16.toInt8.toInt32) x9 (x10.toInt8.toInt32) (x11.toInt8.toInt32) (x12.toInt8.toInt32)))] rfl
    replace k := k.iload at_417 rfl
    replace k := k.icmpNo at_419 (teq ((own_fe_symm _ _ _ _ _ _ _ _ _ _).trans (own_law0 (own_rinj O_rr7 O_rr8) (fun q => by rw [hrr7, hrr8, q]) hl9 hl13 hk10 hk11 hk12 hk14 hk15 hk16 hs25 hx26))).2
    replace k := k.iconst (1 : Int32) at_422 rfl
    replace k := k.goto (pc' := 427) at_423 (by decide) (by decide)
    replace k := k.istore #[.val (.int p1), .val (.int p2), .val (.long p3), .second, .val (.long p4), .second, .val (.int p5), .val (.int x7), .val (.int x8), .val (.int x9), .val (.int x10), .val (.int x11), .val (.int x12), .val (.int x13), .val (.int x14), .val (.int x15), .val (.int x16), .val (.int (0 : Int32)), .val (.ref rr7), .val (.ref rr8), .val (.ref s20), .val (.ref s21), .val (.ref b106), .val (.ref b108), .val (.ref b108), .val (.int s25), .val (.int x26), .val (.int (1 : Int32))] at_427 rfl
    replace k := k.iload at_429 rfl
    exact k.iret at_431 rfl (by simp) rfl (fun sp hsp => rfl) (by decide) (by decide)
  · skip
    replace k := k.loc #[.val (.int p1), .val (.int p2), .val (.long p3), .second, .val (.long p4), .second, .val (.int p5), .val (.int x7), .val (.int x8), .val (.int x9), .val (.int x10), .val (.int x11), .val (.int x12), .val (.int x13), .val (.int x14), .val (.int x15), .val (.int x16), .val (.int (1 : Int32)), .val (.ref rr7), .val (.ref rr8), .val (.ref s20), .val (.ref s21), .val (.ref b106), .val (.ref b108), .val (.ref b108), .unset, .unset, .unset] (by rw [hm])
    replace k := k.iload at_269 rfl
    replace k := k.iconst (1 : Int32) at_271 rfl
    replace k := k.icmpNo at_272 (by decide)
    replace k := k.aconstNull at_275
    replace k := k.astore #[.val (.int p1), .val (.int p2), .val (.long p3), .second, .val (.long p4), .second, .val (.int p5), .val (.int x7), .val (.int x8), .val (.int x9), .val (.int x10), .val (.int x11), .val (.int x12), .val (.int x13), .val (.int x14), .val (.int x15), .val (.int x16), .val (.int (1 : Int32)), .val (.ref rr7), .val (.ref rr8), .val (.ref s20), .val (.ref s21), .val (.ref b106), .val (.ref b108), .val .null, .unset, .unset, .unset] at_276 rfl rfl
    replace k := k.goto (pc' := 304) at_278 (by decide) (by decide)
    obtain ⟨s25, hs25, k⟩ : ∃ z_ : Int32, z_ = own_same x9 x10 x11 x12 x13 x14 x15 x16 ∧ Run C room_1 Z n0 x.cls x.name ret code maxLocals ([b108, b106] : List Addr) hf109 14 28 355 #[.val (.int p1), .val (.int p2), .val (.long p3), .second, .val (.long p4), .second, .val (.int p5), .val (.int x7), .val (.int x8), .val (.int x9), .val (.int x10), .val (.int x11), .val (.int x12), .val (.int x13), .val (.int x14), .val (.int x15), .val (.int x16), .val (.int (1 : Int32)), .val (.ref rr7), .val (.ref rr8), .val (.ref s20), .val (.ref s21), .val (.ref b106), .val (.ref b108), .val .null, .unset, .unset, .unset] [(.int z_)] := by
      replace k := k.iload at_304 rfl
      replace k := k.iload at_306 rfl
      by_cases hc127 : x9 = x13
      · skip
        replace k := k.icmpNo at_308 (teq hc127).2
        replace k := k.iload at_311 rfl
        replace k := k.iconst (1 : Int32) at_313 rfl
        by_cases hc128 : x9 < (1 : Int32)
        · skip
          replace k := k.icmpYes (pc' := 324) at_314 (tlt hc128).1 (by decide) (by decide)
          replace k := k.iload at_324 rfl
          replace k := k.iconst (2 : Int32) at_326 rfl
          by_cases hc129 : x9 < (2 : Int32)
          · skip
            replace k := k.icmpYes (pc' := 337) at_327 (tlt hc129).1 (by decide) (by decide)
            replace k := k.iload at_337 rfl
            replace k := k.iconst (3 : Int32) at_339 rfl
            by_cases hc130 : x9 < (3 : Int32)
            · skip
              replace k := k.icmpYes (pc' := 350) at_340 (tlt hc130).1 (by decide) (by decide)
              replace k := k.iconst (1 : Int32) at_350 rfl
              replace k := k.goto (pc' := 355) at_351 (by decide) (by decide)
              exact ⟨_, by rw [own_same, if_pos hc127, if_pos hc128, if_pos hc129, if_pos hc130], k⟩
            · skip
              replace k := k.icmpNo at_340 (flt hc130).1
              replace k := k.iload at_343 rfl
              replace k := k.iload at_345 rfl
              by_cases hc131 : x12 = x16
              · skip
                replace k := k.icmpNo at_347 (teq hc131).2
                replace k := k.iconst (1 : Int32) at_350 rfl
                replace k := k.goto (pc' := 355) at_351 (by decide) (by decide)
                exact ⟨_, by rw [own_same, if_pos hc127, if_pos hc128, if_pos hc129, if_neg hc130, if_pos hc131], k⟩
              · skip
                replace k := k.icmpYes (pc' := 354) at_347 (feq hc131).2 (by decide) (by decide)
                replace k := k.iconst (0 : Int32) at_354 rfl
                exact ⟨_, by rw [own_same, if_pos hc127, if_pos hc128, if_pos hc129, if_neg hc130, if_neg hc131], k⟩
          · skip
            replace k := k.icmpNo at_327 (flt hc129).1
            replace k := k.iload at_330 rfl
            replace k := k.iload at_332 rfl
            by_cases hc132 : x11 = x15
            · skip
              replace k := k.icmpNo at_334 (teq hc132).2
              replace k := k.iload at_337 rfl
              replace k := k.iconst (3 : Int32) at_339 rfl
              by_cases hc133 : x9 < (3 : Int32)
              · skip
                replace k := k.icmpYes (pc' := 350) at_340 (tlt hc133).1 (by decide) (by decide)
                replace k := k.iconst (1 : Int32) at_350 rfl
                replace k := k.goto (pc' := 355) at_351 (by decide) (by decide)
                exact ⟨_, by rw [own_same, if_pos hc127, if_pos hc128, if_neg hc129, if_pos hc132, if_pos hc133], k⟩
              · skip
                replace k := k.icmpNo at_340 (flt hc133).1
                replace k := k.iload at_343 rfl
                replace k := k.iload at_345 rfl
                by_cases hc134 : x12 = x16
                · skip
                  replace k := k.icmpNo at_347 (teq hc134).2
                  replace k := k.iconst (1 : Int32) at_350 rfl
                  replace k := k.goto (pc' := 355) at_351 (by decide) (by decide)
                  exact ⟨_, by rw [own_same, if_pos hc127, if_pos hc128, if_neg hc129, if_pos hc132, if_neg hc133, if_pos hc134], k⟩
                · skip
                  replace k := k.icmpYes (pc' := 354) at_347 (feq hc134).2 (by decide) (by decide)
                  replace k := k.iconst (0 : Int32) at_354 rfl
                  exact ⟨_, by rw [own_same, if_pos hc127, if_pos hc128, if_neg hc129, if_pos hc132, if_neg hc133, if_neg hc134], k⟩
            · skip
              replace k := k.icmpYes (pc' := 354) at_334 (feq hc132).2 (by decide) (by decide)
              replace k := k.iconst (0 : Int32) at_354 rfl
              exact ⟨_, by rw [own_same, if_pos hc127, if_pos hc128, if_neg hc129, if_neg hc132], k⟩
        · skip
          replace k := k.icmpNo at_314 (flt hc128).1
          replace k := k.iload at_317 rfl
          replace k := k.iload at_319 rfl
          by_cases hc135 : x10 = x14
          · skip
            replace k := k.icmpNo at_321 (teq hc135).2
            replace k := k.iload at_324 rfl
            replace k := k.iconst (2 : Int32) at_326 rfl
            by_cases hc136 : x9 < (2 : Int32)
            · skip
              replace k := k.icmpYes (pc' := 337) at_327 (tlt hc136).1 (by decide) (by decide)
              replace k := k.iload at_337 rfl
              replace k := k.iconst (3 : Int32) at_339 rfl
              by_cases hc137 : x9 < (3 : Int32)
              · skip
                replace k := k.icmpYes (pc' := 350) at_340 (tlt hc137).1 (by decide) (by decide)
                replace k := k.iconst (1 : Int32) at_350 rfl
                replace k := k.goto (pc' := 355) at_351 (by decide) (by decide)
                exact ⟨_, by rw [own_same, if_pos hc127, if_neg hc128, if_pos hc135, if_pos hc136, if_pos hc137], k⟩
              · skip
                replace k := k.icmpNo at_340 (flt hc137).1
                replace k := k.iload at_343 rfl
                replace k := k.iload at_345 rfl
                by_cases hc138 : x12 = x16
                · skip
                  replace k := k.icmpNo at_347 (teq hc138).2
                  replace k := k.iconst (1 : Int32) at_350 rfl
                  replace k := k.goto (pc' := 355) at_351 (by decide) (by decide)
                  exact ⟨_, by rw [own_same, if_pos hc127, if_neg hc128, if_pos hc135, if_pos hc136, if_neg hc137, if_pos hc138], k⟩
                · skip
                  replace k := k.icmpYes (pc' := 354) at_347 (feq hc138).2 (by decide) (by decide)
                  replace k := k.iconst (0 : Int32) at_354 rfl
                  exact ⟨_, by rw [own_same, if_pos hc127, if_neg hc128, if_pos hc135, if_pos hc136, if_neg hc137, if_neg hc138], k⟩
            · skip
              replace k := k.icmpNo at_327 (flt hc136).1
              replace k := k.iload at_330 rfl
              replace k := k.iload at_332 rfl
              by_cases hc139 : x11 = x15
              · skip
                replace k := k.icmpNo at_334 (teq hc139).2
                replace k := k.iload at_337 rfl
                replace k := k.iconst (3 : Int32) at_339 rfl
                by_cases hc140 : x9 < (3 : Int32)
                · skip
                  replace k := k.icmpYes (pc' := 350) at_340 (tlt hc140).1 (by decide) (by decide)
                  replace k := k.iconst (1 : Int32) at_350 rfl
                  replace k := k.goto (pc' := 355) at_351 (by decide) (by decide)
                  exact ⟨_, by rw [own_same, if_pos hc127, if_neg hc128, if_pos hc135, if_neg hc136, if_pos hc139, if_pos hc140], k⟩
                · skip
                  replace k := k.icmpNo at_340 (flt hc140).1
                  replace k := k.iload at_343 rfl
                  replace k := k.iload at_345 rfl
                  by_cases hc141 : x12 = x16
                  · skip
                    replace k := k.icmpNo at_347 (teq hc141).2
                    replace k := k.iconst (1 : Int32) at_350 rfl
                    replace k := k.goto (pc' := 355) at_351 (by decide) (by decide)
                    exact ⟨_, by rw [own_same, if_pos hc127, if_neg hc128, if_pos hc135, if_neg hc136, if_pos hc139, if_neg hc140, if_pos hc141], k⟩
                  · skip
                    replace k := k.icmpYes (pc' := 354) at_347 (feq hc141).2 (by decide) (by decide)
                    replace k := k.iconst (0 : Int32) at_354 rfl
                    exact ⟨_, by rw [own_same, if_pos hc127, if_neg hc128, if_pos hc135, if_neg hc136, if_pos hc139, if_neg hc140, if_neg hc141], k⟩
              · skip
                replace k := k.icmpYes (pc' := 354) at_334 (feq hc139).2 (by decide) (by decide)
                replace k := k.iconst (0 : Int32) at_354 rfl
                exact ⟨_, by rw [own_same, if_pos hc127, if_neg hc128, if_pos hc135, if_neg hc136, if_neg hc139], k⟩
          · skip
            replace k := k.icmpYes (pc' := 354) at_321 (feq hc135).2 (by decide) (by decide)
            replace k := k.iconst (0 : Int32) at_354 rfl
            exact ⟨_, by rw [own_same, if_pos hc127, if_neg hc128, if_neg hc135], k⟩
      · skip
        replace k := k.icmpYes (pc' := 354) at_308 (feq hc127).2 (by decide) (by decide)
        replace k := k.iconst (0 : Int32) at_354 rfl
        exact ⟨_, by rw [own_same, if_neg hc127], k⟩
    replace k := k.istore #[.val (.int p1), .val (.int p2), .val (.long p3), .second, .val (.long p4), .second, .val (.int p5), .val (.int x7), .val (.int x8), .val (.int x9), .val (.int x10), .val (.int x11), .val (.int x12), .val (.int x13), .val (.int x14), .val (.int x15), .val (.int x16), .val (.int (1 : Int32)), .val (.ref rr7), .val (.ref rr8), .val (.ref s20), .val (.ref s21), .val (.ref b106), .val (.ref b108), .val .null, .val (.int s25), .unset, .unset] at_355 rfl
    replace k := k.iload at_357 rfl
    replace k := k.ifYes (pc' := 378) at_359 (by decide) (by decide) (by decide)
    replace k := k.iconst (0 : Int32) at_378 rfl
    replace k := k.istore #[.val (.int p1), .val (.int p2), .val (.long p3), .second, .val (.long p4), .second, .val (.int p5), .val (.int x7), .val (.int x8), .val (.int x9), .val (.int x10), .val (.int x11), .val (.int x12), .val (.int x13), .val (.int x14), .val (.int x15), .val (.int x16), .val (.int (1 : Int32)), .val (.ref rr7), .val (.ref rr8), .val (.ref s20), .val (.ref s21), .val (.ref b106), .val (.ref b108), .val .null, .val (.int s25), .val (.int (0 : Int32)), .unset] at_379 rfl
    replace k := k.aload at_381 rfl rfl
    replace k := k.aload at_383 rfl rfl
    obtain ⟨_, _, sp385, ⟨rfl, rfl⟩, k⟩ := k.callV (y := (⟨"com/example/lieudit/lieudit/Finding", "equals", "(Ljava/lang/Object;)Z"⟩ : MethodName)) (z := (⟨"com/example/lieudit/lieudit/Finding", "equals", "(Ljava/lang/Object;)Z"⟩ : MethodName)) (a := b106) at_385 (hw _ (List.mem_of_getElem? (i := 61) rfl)) (hw _ (List.mem_of_getElem? (i := 62) rfl)) (fun s hs => notFace_of_selects (args := #[]) (mvT hs (hw _ (List.mem_of_getElem? (i := 64) rfl)))) (hw _ (List.mem_of_getElem? (i := 64) rfl)) (hw _ (List.mem_of_getElem? (i := 63) rfl)) (hw _ (List.mem_of_getElem? (i := 52) rfl)) (hw _ (List.mem_of_getElem? (i := 65) rfl)) ((Exa.ext E108 (A106.keep Kf107)).keep Kf109) (W := 0) (argsL := [.null]) (rest := []) (rm11_N Z a0 hw b106 hf109 n0) all0 rfl (pd_10) rfl rfl rfl (by decide) (by decide) (by decide) (by decide) (by decide)
    replace k := (k [] all0).sfx [b108, b106] rfl
    replace k := k.stk [(.int (0 : Int32))] rfl
    replace k := k.iload at_388 rfl
    replace k := k.icmpNo at_390 (by decide)
    replace k := k.iconst (1 : Int32) at_393 rfl
    replace k := k.goto (pc' := 398) at_394 (by decide) (by decide)
    replace k := k.istore #[.val (.int p1), .val (.int p2), .val (.long p3), .second, .val (.long p4), .second, .val (.int p5), .val (.int x7), .val (.int x8), .val (.int x9), .val (.int x10), .val (.int x11), .val (.int x12), .val (.int x13), .val (.int x14), .val (.int x15), .val (.int x16), .val (.int (1 : Int32)), .val (.ref rr7), .val (.ref rr8), .val (.ref s20), .val (.ref s21), .val (.ref b106), .val (.ref b108), .val .null, .val (.int s25), .val (.int (0 : Int32)), .val (.int (1 : Int32))] at_398 rfl
    replace k := k.iload at_400 rfl
    replace k := k.ifYes (pc' := 429) at_402 (by decide) (by decide) (by decide)
    replace k := k.iload at_429 rfl
    exact k.iret at_431 rfl (by simp) rfl (fun sp hsp => rfl) (by decide) (by decide)
  · skip
    replace k := k.loc #[.val (.int p1), .val (.int p2), .val (.long p3), .second, .val (.long p4), .second, .val (.int p5), .val (.int x7), .val (.int x8), .val (.int x9), .val (.int x10), .val (.int x11), .val (.int x12), .val (.int x13), .val (.int x14), .val (.int x15), .val (.int x16), .val (.int (2 : Int32)), .val (.ref rr7), .val (.ref rr8), .val (.ref s20), .val (.ref s21), .val (.ref b106), .val (.ref b108), .val (.ref b108), .unset, .unset, .unset] (by rw [hm])
    replace k := k.iload at_269 rfl
    replace k := k.iconst (1 : Int32) at_271 rfl
    replace k := k.icmpYes (pc' := 281) at_272 (by decide) (by decide) (by decide)
    replace k := k.iload at_281 rfl
    replace k := k.iconst (2 : Int32) at_283 rfl
    replace k := k.icmpNo at_284 (by decide)
    replace k := k.aload at_287 rfl rfl
    replace k := k.astore #[.val (.int p1), .val (.int p2), .val (.long p3), .second, .val (.long p4), .second, .val (.int p5), .val (.int x7), .val (.int x8), .val (.int x9), .val (.int x10), .val (.int x11), .val (.int x12), .val (.int x13), .val (.int x14), .val (.int x15), .val (.int x16), .val (.int (2 : Int32)), .val (.ref rr7), .val (.ref rr8), .val (.ref s20), .val (.ref s21), .val (.ref b106), .val (.ref b108), .val (.ref s21), .unset, .unset, .unset] at_289 rfl rfl
    replace k := k.goto (pc' := 304) at_291 (by decide) (by decide)
    obtain ⟨s25, hs25, k⟩ : ∃ z_ : Int32, z_ = own_same x9 x10 x11 x12 x13 x14 x15 x16 ∧ Run C room_1 Z n0 x.cls x.name ret code maxLocals ([b108, b106] : List Addr) hf109 14 28 355 #[.val (.int p1), .val (.int p2), .val (.long p3), .second, .val (.long p4), .second, .val (.int p5), .val (.int x7), .val (.int x8), .val (.int x9), .val (.int x10), .val (.int x11), .val (.int x12), .val (.int x13), .val (.int x14), .val (.int x15), .val (.int x16), .val (.int (2 : Int32)), .val (.ref rr7), .val (.ref rr8), .val (.ref s20), .val (.ref s21), .val (.ref b106), .val (.ref b108), .val (.ref s21), .unset, .unset, .unset] [(.int z_)] := by
      replace k := k.iload at_304 rfl
      replace k := k.iload at_306 rfl
      by_cases hc142 : x9 = x13
      · skip
        replace k := k.icmpNo at_308 (teq hc142).2
        replace k := k.iload at_311 rfl
        replace k := k.iconst (1 : Int32) at_313 rfl
        by_cases hc143 : x9 < (1 : Int32)
        · skip
          replace k := k.icmpYes (pc' := 324) at_314 (tlt hc143).1 (by decide) (by decide)
          replace k := k.iload at_324 rfl
          replace k := k.iconst (2 : Int32) at_326 rfl
          by_cases hc144 : x9 < (2 : Int32)
          · skip
            replace k := k.icmpYes (pc' := 337) at_327 (tlt hc144).1 (by decide) (by decide)
            replace k := k.iload at_337 rfl
            replace k := k.iconst (3 : Int32) at_339 rfl
            by_cases hc145 : x9 < (3 : Int32)
            · skip
              replace k := k.icmpYes (pc' := 350) at_340 (tlt hc145).1 (by decide) (by decide)
              replace k := k.iconst (1 : Int32) at_350 rfl
              replace k := k.goto (pc' := 355) at_351 (by decide) (by decide)
              exact ⟨_, by rw [own_same, if_pos hc142, if_pos hc143, if_pos hc144, if_pos hc145], k⟩
            · skip
              replace k := k.icmpNo at_340 (flt hc145).1
              replace k := k.iload at_343 rfl
              replace k := k.iload at_345 rfl
              by_cases hc146 : x12 = x16
              · skip
                replace k := k.icmpNo at_347 (teq hc146).2
                replace k := k.iconst (1 : Int32) at_350 rfl
                replace k := k.goto (pc' := 355) at_351 (by decide) (by decide)
                exact ⟨_, by rw [own_same, if_pos hc142, if_pos hc143, if_pos hc144, if_neg hc145, if_pos hc146], k⟩
              · skip
                replace k := k.icmpYes (pc' := 354) at_347 (feq hc146).2 (by decide) (by decide)
                replace k := k.iconst (0 : Int32) at_354 rfl
                exact ⟨_, by rw [own_same, if_pos hc142, if_pos hc143, if_pos hc144, if_neg hc145, if_neg hc146], k⟩
          · skip
            replace k := k.icmpNo at_327 (flt hc144).1
            replace k := k.iload at_330 rfl
            replace k := k.iload at_332 rfl
            by_cases hc147 : x11 = x15
            · skip
              replace k := k.icmpNo at_334 (teq hc147).2
              replace k := k.iload at_337 rfl
              replace k := k.iconst (3 : Int32) at_339 rfl
              by_cases hc148 : x9 < (3 : Int32)
              · skip
                replace k := k.icmpYes (pc' := 350) at_340 (tlt hc148).1 (by decide) (by decide)
                replace k := k.iconst (1 : Int32) at_350 rfl
                replace k := k.goto (pc' := 355) at_351 (by decide) (by decide)
                exact ⟨_, by rw [own_same, if_pos hc142, if_pos hc143, if_neg hc144, if_pos hc147, if_pos hc148], k⟩
              · skip
                replace k := k.icmpNo at_340 (flt hc148).1
                replace k := k.iload at_343 rfl
                replace k := k.iload at_345 rfl
                by_cases hc149 : x12 = x16
                · skip
                  replace k := k.icmpNo at_347 (teq hc149).2
                  replace k := k.iconst (1 : Int32) at_350 rfl
                  replace k := k.goto (pc' := 355) at_351 (by decide) (by decide)
                  exact ⟨_, by rw [own_same, if_pos hc142, if_pos hc143, if_neg hc144, if_pos hc147, if_neg hc148, if_pos hc149], k⟩
                · skip
                  replace k := k.icmpYes (pc' := 354) at_347 (feq hc149).2 (by decide) (by decide)
                  replace k := k.iconst (0 : Int32) at_354 rfl
                  exact ⟨_, by rw [own_same, if_pos hc142, if_pos hc143, if_neg hc144, if_pos hc147, if_neg hc148, if_neg hc149], k⟩
            · skip
              replace k := k.icmpYes (pc' := 354) at_334 (feq hc147).2 (by decide) (by decide)
              replace k := k.iconst (0 : Int32) at_354 rfl
              exact ⟨_, by rw [own_same, if_pos hc142, if_pos hc143, if_neg hc144, if_neg hc147], k⟩
        · skip
          replace k := k.icmpNo at_314 (flt hc143).1
          replace k := k.iload at_317 rfl
          replace k := k.iload at_319 rfl
          by_cases hc150 : x10 = x14
          · skip
            replace k := k.icmpNo at_321 (teq hc150).2
            replace k := k.iload at_324 rfl
            replace k := k.iconst (2 : Int32) at_326 rfl
            by_cases hc151 : x9 < (2 : Int32)
            · skip
              replace k := k.icmpYes (pc' := 337) at_327 (tlt hc151).1 (by decide) (by decide)
              replace k := k.iload at_337 rfl
              replace k := k.iconst (3 : Int32) at_339 rfl
              by_cases hc152 : x9 < (3 : Int32)
              · skip
                replace k := k.icmpYes (pc' := 350) at_340 (tlt hc152).1 (by decide) (by decide)
                replace k := k.iconst (1 : Int32) at_350 rfl
                replace k := k.goto (pc' := 355) at_351 (by decide) (by decide)
                exact ⟨_, by rw [own_same, if_pos hc142, if_neg hc143, if_pos hc150, if_pos hc151, if_pos hc152], k⟩
              · skip
                replace k := k.icmpNo at_340 (flt hc152).1
                replace k := k.iload at_343 rfl
                replace k := k.iload at_345 rfl
                by_cases hc153 : x12 = x16
                · skip
                  replace k := k.icmpNo at_347 (teq hc153).2
                  replace k := k.iconst (1 : Int32) at_350 rfl
                  replace k := k.goto (pc' := 355) at_351 (by decide) (by decide)
                  exact ⟨_, by rw [own_same, if_pos hc142, if_neg hc143, if_pos hc150, if_pos hc151, if_neg hc152, if_pos hc153], k⟩
                · skip
                  replace k := k.icmpYes (pc' := 354) at_347 (feq hc153).2 (by decide) (by decide)
                  replace k := k.iconst (0 : Int32) at_354 rfl
                  exact ⟨_, by rw [own_same, if_pos hc142, if_neg hc143, if_pos hc150, if_pos hc151, if_neg hc152, if_neg hc153], k⟩
            · skip
              replace k := k.icmpNo at_327 (flt hc151).1
              replace k := k.iload at_330 rfl
              replace k := k.iload at_332 rfl
              by_cases hc154 : x11 = x15
              · skip
                replace k := k.icmpNo at_334 (teq hc154).2
                replace k := k.iload at_337 rfl
                replace k := k.iconst (3 : Int32) at_339 rfl
                by_cases hc155 : x9 < (3 : Int32)
                · skip
                  replace k := k.icmpYes (pc' := 350) at_340 (tlt hc155).1 (by decide) (by decide)
                  replace k := k.iconst (1 : Int32) at_350 rfl
                  replace k := k.goto (pc' := 355) at_351 (by decide) (by decide)
                  exact ⟨_, by rw [own_same, if_pos hc142, if_neg hc143, if_pos hc150, if_neg hc151, if_pos hc154, if_pos hc155], k⟩
                · skip
                  replace k := k.icmpNo at_340 (flt hc155).1
                  replace k := k.iload at_343 rfl
                  replace k := k.iload at_345 rfl
                  by_cases hc156 : x12 = x16
                  · skip
                    replace k := k.icmpNo at_347 (teq hc156).2
                    replace k := k.iconst (1 : Int32) at_350 rfl
                    replace k := k.goto (pc' := 355) at_351 (by decide) (by decide)
                    exact ⟨_, by rw [own_same, if_pos hc142, if_neg hc143, if_pos hc150, if_neg hc151, if_pos hc154, if_neg hc155, if_pos hc156], k⟩
                  · skip
                    replace k := k.icmpYes (pc' := 354) at_347 (feq hc156).2 (by decide) (by decide)
                    replace k := k.iconst (0 : Int32) at_354 rfl
                    exact ⟨_, by rw [own_same, if_pos hc142, if_neg hc143, if_pos hc150, if_neg hc151, if_pos hc154, if_neg hc155, if_neg hc156], k⟩
              · skip
                replace k := k.icmpYes (pc' := 354) at_334 (feq hc154).2 (by decide) (by decide)
                replace k := k.iconst (0 : Int32) at_354 rfl
                exact ⟨_, by rw [own_same, if_pos hc142, if_neg hc143, if_pos hc150, if_neg hc151, if_neg hc154], k⟩
          · skip
            replace k := k.icmpYes (pc' := 354) at_321 (feq hc150).2 (by decide) (by decide)
            replace k := k.iconst (0 : Int32) at_354 rfl
            exact ⟨_, by rw [own_same, if_pos hc142, if_neg hc143, if_neg hc150], k⟩
      · skip
        replace k := k.icmpYes (pc' := 354) at_308 (feq hc142).2 (by decide) (by decide)
        replace k := k.iconst (0 : Int32) at_354 rfl
        exact ⟨_, by rw [own_same, if_neg hc142], k⟩
    replace k := k.istore #[.val (.int p1), .val (.int p2), .val (.long p3), .second, .val (.long p4), .second, .val (.int p5), .val (.int x7), .val (.int x8), .val (.int x9), .val (.int x10), .val (.int x11), .val (.int x12), .val (.int x13), .val (.int x14), .val (.int x15), .val (.int x16), .val (.int (2 : Int32)), .val (.ref rr7), .val (.ref rr8), .val (.ref s20), .val (.ref s21), .val (.ref b106), .val (.ref b108), .val (.ref s21), .val (.int s25), .unset, .unset] at_355 rfl
    replace k := k.iload at_357 rfl
    replace k := k.ifYes (pc' := 378) at_359 (by decide) (by decide) (by decide)
    replace k := k.iconst (0 : Int32) at_378 rfl
    replace k := k.istore #[.val (.int p1), .val (.int p2), .val (.long p3), .second, .val (.long p4), .second, .val (.int p5), .val (.int x7), .val (.int x8), .val (.int x9), .val (.int x10), .val (.int x11), .val (.int x12), .val (.int x13), .val (.int x14), .val (.int x15), .val (.int x16), .val (.int (2 : Int32)), .val (.ref rr7), .val (.ref rr8), .val (.ref s20), .val (.ref s21), .val (.ref b106), .val (.ref b108), .val (.ref s21), .val (.int s25), .val (.int (0 : Int32)), .unset] at_379 rfl
    replace k := k.aload at_381 rfl rfl
    replace k := k.aload at_383 rfl rfl
    obtain ⟨_, _, sp385, ⟨rfl, rfl⟩, k⟩ := k.callV (y := (⟨"com/example/lieudit/lieudit/Finding", "equals", "(Ljava/lang/Object;)Z"⟩ : MethodName)) (z := (⟨"com/example/lieudit/lieudit/Finding", "equals", "(Ljava/lang/Object;)Z"⟩ : MethodName)) (a := b106) at_385 (hw _ (List.mem_of_getElem? (i := 61) rfl)) (hw _ (List.mem_of_getElem? (i := 62) rfl)) (fun s hs => notFace_of_selects (args := #[]) (mvT hs (hw _ (List.mem_of_getElem? (i := 64) rfl)))) (hw _ (List.mem_of_getElem? (i := 64) rfl)) (hw _ (List.mem_of_getElem? (i := 63) rfl)) (hw _ (List.mem_of_getElem? (i := 52) rfl)) (hw _ (List.mem_of_getElem? (i := 65) rfl)) ((Exa.ext E108 (A106.keep Kf107)).keep Kf109) (W := 0) (argsL := [(.ref s21)]) (rest := []) (rm11_S Z a0 hw b106 s21 hf109 n0 ((Exa.ext E108 ((Exa.ext E106 Es21).keep Kf107)).keep Kf109)) all0 rfl (pd_10) rfl rfl rfl (by decide) (by decide) (by decide) (by decide) (by decide)
    replace k := (k [] all0).sfx [b108, b106] rfl
    replace k := k.stk [(.int (0 : Int32))] rfl
    replace k := k.iload at_388 rfl
    replace k := k.icmpNo at_390 (by decide)
    replace k := k.iconst (1 : Int32) at_393 rfl
    replace k := k.goto (pc' := 398) at_394 (by decide) (by decide)
    replace k := k.istore #[.val (.int p1), .val (.int p2), .val (.long p3), .second, .val (.long p4), .second, .val (.int p5), .val (.int x7), .val (.int x8), .val (.int x9), .val (.int x10), .val (.int x11), .val (.int x12), .val (.int x13), .val (.int x14), .val (.int x15), .val (.int x16), .val (.int (2 : Int32)), .val (.ref rr7), .val (.ref rr8), .val (.ref s20), .val (.ref s21), .val (.ref b106), .val (.ref b108), .val (.ref s21), .val (.int s25), .val (.int (0 : Int32)), .val (.int (1 : Int32))] at_398 rfl
    replace k := k.iload at_400 rfl
    replace k := k.ifYes (pc' := 429) at_402 (by decide) (by decide) (by decide)
    replace k := k.iload at_429 rfl
    exact k.iret at_431 rfl (by simp) rfl (fun sp hsp => rfl) (by decide) (by decide)
  · skip
    replace k := k.loc #[.val (.int p1), .val (.int p2), .val (.long p3), .second, .val (.long p4), .second, .val (.int p5), .val (.int x7), .val (.int x8), .val (.int x9), .val (.int x10), .val (.int x11), .val (.int x12), .val (.int x13), .val (.int x14), .val (.int x15), .val (.int x16), .val (.int (3 : Int32)), .val (.ref rr7), .val (.ref rr8), .val (.ref s20), .val (.ref s21), .val (.ref b106), .val (.ref b108), .val (.ref b108), .unset, .unset, .unset] (by rw [hm])
    replace k := k.iload at_269 rfl
    replace k := k.iconst (1 : Int32) at_271 rfl
    replace k := k.icmpYes (pc' := 281) at_272 (by decide) (by decide) (by decide)
    replace k := k.iload at_281 rfl
    replace k := k.iconst (2 : Int32) at_283 rfl
    replace k := k.icmpYes (pc' := 294) at_284 (by decide) (by decide) (by decide)
    replace k := k.iload at_294 rfl
    replace k := k.iconst (3 : Int32) at_296 rfl
    replace k := k.icmpNo at_297 (by decide)
    replace k := k.aload at_300 rfl rfl
    replace k := k.astore #[.val (.int p1), .val (.int p2), .val (.long p3), .second, .val (.long p4), .second, .val (.int p5), .val (.int x7), .val (.int x8), .val (.int x9), .val (.int x10), .val (.int x11), .val (.int x12), .val (.int x13), .val (.int x14), .val (.int x15), .val (.int x16), .val (.int (3 : Int32)), .val (.ref rr7), .val (.ref rr8), .val (.ref s20), .val (.ref s21), .val (.ref b106), .val (.ref b108), .val (.ref rr8), .unset, .unset, .unset] at_302 rfl rfl
    obtain ⟨s25, hs25, k⟩ : ∃ z_ : Int32, z_ = own_same x9 x10 x11 x12 x13 x14 x15 x16 ∧ Run C room_1 Z n0 x.cls x.name ret code maxLocals ([b108, b106] : List Addr) hf109 14 28 355 #[.val (.int p1), .val (.int p2), .val (.long p3), .second, .val (.long p4), .second, .val (.int p5), .val (.int x7), .val (.int x8), .val (.int x9), .val (.int x10), .val (.int x11), .val (.int x12), .val (.int x13), .val (.int x14), .val (.int x15), .val (.int x16), .val (.int (3 : Int32)), .val (.ref rr7), .val (.ref rr8), .val (.ref s20), .val (.ref s21), .val (.ref b106), .val (.ref b108), .val (.ref rr8), .unset, .unset, .unset] [(.int z_)] := by
      replace k := k.iload at_304 rfl
      replace k := k.iload at_306 rfl
      by_cases hc157 : x9 = x13
      · skip
        replace k := k.icmpNo at_308 (teq hc157).2
        replace k := k.iload at_311 rfl
        replace k := k.iconst (1 : Int32) at_313 rfl
        by_cases hc158 : x9 < (1 : Int32)
        · skip
          replace k := k.icmpYes (pc' := 324) at_314 (tlt hc158).1 (by decide) (by decide)
          replace k := k.iload at_324 rfl
          replace k := k.iconst (2 : Int32) at_326 rfl
          by_cases hc159 : x9 < (2 : Int32)
          · skip
            replace k := k.icmpYes (pc' := 337) at_327 (tlt hc159).1 (by decide) (by decide)
            replace k := k.iload at_337 rfl
            replace k := k.iconst (3 : Int32) at_339 rfl
            by_cases hc160 : x9 < (3 : Int32)
            · skip
              replace k := k.icmpYes (pc' := 350) at_340 (tlt hc160).1 (by decide) (by decide)
              replace k := k.iconst (1 : Int32) at_350 rfl
              replace k := k.goto (pc' := 355) at_351 (by decide) (by decide)
              exact ⟨_, by rw [own_same, if_pos hc157, if_pos hc158, if_pos hc159, if_pos hc160], k⟩
            · skip
              replace k := k.icmpNo at_340 (flt hc160).1
              replace k := k.iload at_343 rfl
              replace k := k.iload at_345 rfl
              by_cases hc161 : x12 = x16
              · skip
                replace k := k.icmpNo at_347 (teq hc161).2
                replace k := k.iconst (1 : Int32) at_350 rfl
                replace k := k.goto (pc' := 355) at_351 (by decide) (by decide)
                exact ⟨_, by rw [own_same, if_pos hc157, if_pos hc158, if_pos hc159, if_neg hc160, if_pos hc161], k⟩
              · skip
                replace k := k.icmpYes (pc' := 354) at_347 (feq hc161).2 (by decide) (by decide)
                replace k := k.iconst (0 : Int32) at_354 rfl
                exact ⟨_, by rw [own_same, if_pos hc157, if_pos hc158, if_pos hc159, if_neg hc160, if_neg hc161], k⟩
          · skip
            replace k := k.icmpNo at_327 (flt hc159).1
            replace k := k.iload at_330 rfl
            replace k := k.iload at_332 rfl
            by_cases hc162 : x11 = x15
            · skip
              replace k := k.icmpNo at_334 (teq hc162).2
              replace k := k.iload at_337 rfl
              replace k := k.iconst (3 : Int32) at_339 rfl
              by_cases hc163 : x9 < (3 : Int32)
              · skip
                replace k := k.icmpYes (pc' := 350) at_340 (tlt hc163).1 (by decide) (by decide)
                replace k := k.iconst (1 : Int32) at_350 rfl
                replace k := k.goto (pc' := 355) at_351 (by decide) (by decide)
                exact ⟨_, by rw [own_same, if_pos hc157, if_pos hc158, if_neg hc159, if_pos hc162, if_pos hc163], k⟩
              · skip
                replace k := k.icmpNo at_340 (flt hc163).1
                replace k := k.iload at_343 rfl
                replace k := k.iload at_345 rfl
                by_cases hc164 : x12 = x16
                · skip
                  replace k := k.icmpNo at_347 (teq hc164).2
                  replace k := k.iconst (1 : Int32) at_350 rfl
                  replace k := k.goto (pc' := 355) at_351 (by decide) (by decide)
                  exact ⟨_, by rw [own_same, if_pos hc157, if_pos hc158, if_neg hc159, if_pos hc162, if_neg hc163, if_pos hc164], k⟩
                · skip
                  replace k := k.icmpYes (pc' := 354) at_347 (feq hc164).2 (by decide) (by decide)
                  replace k := k.iconst (0 : Int32) at_354 rfl
                  exact ⟨_, by rw [own_same, if_pos hc157, if_pos hc158, if_neg hc159, if_pos hc162, if_neg hc163, if_neg hc164], k⟩
            · skip
              replace k := k.icmpYes (pc' := 354) at_334 (feq hc162).2 (by decide) (by decide)
              replace k := k.iconst (0 : Int32) at_354 rfl
              exact ⟨_, by rw [own_same, if_pos hc157, if_pos hc158, if_neg hc159, if_neg hc162], k⟩
        · skip
          replace k := k.icmpNo at_314 (flt hc158).1
          replace k := k.iload at_317 rfl
          replace k := k.iload at_319 rfl
          by_cases hc165 : x10 = x14
          · skip
            replace k := k.icmpNo at_321 (teq hc165).2
            replace k := k.iload at_324 rfl
            replace k := k.iconst (2 : Int32) at_326 rfl
            by_cases hc166 : x9 < (2 : Int32)
            · skip
              replace k := k.icmpYes (pc' := 337) at_327 (tlt hc166).1 (by decide) (by decide)
              replace k := k.iload at_337 rfl
              replace k := k.iconst (3 : Int32) at_339 rfl
              by_cases hc167 : x9 < (3 : Int32)
              · skip
                replace k := k.icmpYes (pc' := 350) at_340 (tlt hc167).1 (by decide) (by decide)
                replace k := k.iconst (1 : Int32) at_350 rfl
                replace k := k.goto (pc' := 355) at_351 (by decide) (by decide)
                exact ⟨_, by rw [own_same, if_pos hc157, if_neg hc158, if_pos hc165, if_pos hc166, if_pos hc167], k⟩
              · skip
                replace k := k.icmpNo at_340 (flt hc167).1
                replace k := k.iload at_343 rfl
                replace k := k.iload at_345 rfl
                by_cases hc168 : x12 = x16
                · skip
                  replace k := k.icmpNo at_347 (teq hc168).2
                  replace k := k.iconst (1 : Int32) at_350 rfl
                  replace k := k.goto (pc' := 355) at_351 (by decide) (by decide)
                  exact ⟨_, by rw [own_same, if_pos hc157, if_neg hc158, if_pos hc165, if_pos hc166, if_neg hc167, if_pos hc168], k⟩
                · skip
                  replace k := k.icmpYes (pc' := 354) at_347 (feq hc168).2 (by decide) (by decide)
                  replace k := k.iconst (0 : Int32) at_354 rfl
                  exact ⟨_, by rw [own_same, if_pos hc157, if_neg hc158, if_pos hc165, if_pos hc166, if_neg hc167, if_neg hc168], k⟩
            · skip
              replace k := k.icmpNo at_327 (flt hc166).1
              replace k := k.iload at_330 rfl
              replace k := k.iload at_332 rfl
              by_cases hc169 : x11 = x15
              · skip
                replace k := k.icmpNo at_334 (teq hc169).2
                replace k := k.iload at_337 rfl
                replace k := k.iconst (3 : Int32) at_339 rfl
                by_cases hc170 : x9 < (3 : Int32)
                · skip
                  replace k := k.icmpYes (pc' := 350) at_340 (tlt hc170).1 (by decide) (by decide)
                  replace k := k.iconst (1 : Int32) at_350 rfl
                  replace k := k.goto (pc' := 355) at_351 (by decide) (by decide)
                  exact ⟨_, by rw [own_same, if_pos hc157, if_neg hc158, if_pos hc165, if_neg hc166, if_pos hc169, if_pos hc170], k⟩
                · skip
                  replace k := k.icmpNo at_340 (flt hc170).1
                  replace k := k.iload at_343 rfl
                  replace k := k.iload at_345 rfl
                  by_cases hc171 : x12 = x16
                  · skip
                    replace k := k.icmpNo at_347 (teq hc171).2
                    replace k := k.iconst (1 : Int32) at_350 rfl
                    replace k := k.goto (pc' := 355) at_351 (by decide) (by decide)
                    exact ⟨_, by rw [own_same, if_pos hc157, if_neg hc158, if_pos hc165, if_neg hc166, if_pos hc169, if_neg hc170, if_pos hc171], k⟩
                  · skip
                    replace k := k.icmpYes (pc' := 354) at_347 (feq hc171).2 (by decide) (by decide)
                    replace k := k.iconst (0 : Int32) at_354 rfl
                    exact ⟨_, by rw [own_same, if_pos hc157, if_neg hc158, if_pos hc165, if_neg hc166, if_pos hc169, if_neg hc170, if_neg hc171], k⟩
              · skip
                replace k := k.icmpYes (pc' := 354) at_334 (feq hc169).2 (by decide) (by decide)
                replace k := k.iconst (0 : Int32) at_354 rfl
                exact ⟨_, by rw [own_same, if_pos hc157, if_neg hc158, if_pos hc165, if_neg hc166, if_neg hc169], k⟩
          · skip
            replace k := k.icmpYes (pc' := 354) at_321 (feq hc165).2 (by decide) (by decide)
            replace k := k.iconst (0 : Int32) at_354 rfl
            exact ⟨_, by rw [own_same, if_pos hc157, if_neg hc158, if_neg hc165], k⟩
      · skip
        replace k := k.icmpYes (pc' := 354) at_308 (feq hc157).2 (by decide) (by decide)
        replace k := k.iconst (0 : Int32) at_354 rfl
        exact ⟨_, by rw [own_same, if_neg hc157], k⟩
    replace k := k.istore #[.val (.int p1), .val (.int p2), .val (.long p3), .second, .val (.long p4), .second, .val (.int p5), .val (.int x7), .val (.int x8), .val (.int x9), .val (.int x10), .val (.int x11), .val (.int x12), .val (.int x13), .val (.int x14), .val (.int x15), .val (.int x16), .val (.int (3 : Int32)), .val (.ref rr7), .val (.ref rr8), .val (.ref s20), .val (.ref s21), .val (.ref b106), .val (.ref b108), .val (.ref rr8), .val (.int s25), .unset, .unset] at_355 rfl
    replace k := k.iload at_357 rfl
    replace k := k.ifYes (pc' := 378) at_359 (by decide) (by decide) (by decide)
    replace k := k.iconst (0 : Int32) at_378 rfl
    replace k := k.istore #[.val (.int p1), .val (.int p2), .val (.long p3), .second, .val (.long p4), .second, .val (.int p5), .val (.int x7), .val (.int x8), .val (.int x9), .val (.int x10), .val (.int x11), .val (.int x12), .val (.int x13), .val (.int x14), .val (.int x15), .val (.int x16), .val (.int (3 : Int32)), .val (.ref rr7), .val (.ref rr8), .val (.ref s20), .val (.ref s21), .val (.ref b106), .val (.ref b108), .val (.ref rr8), .val (.int s25), .val (.int (0 : Int32)), .unset] at_379 rfl
    replace k := k.aload at_381 rfl rfl
    replace k := k.aload at_383 rfl rfl
    obtain ⟨_, _, sp385, ⟨rfl, rfl⟩, k⟩ := k.callV (y := (⟨"com/example/lieudit/lieudit/Finding", "equals", "(Ljava/lang/Object;)Z"⟩ : MethodName)) (z := (⟨"com/example/lieudit/lieudit/Finding", "equals", "(Ljava/lang/Object;)Z"⟩ : MethodName)) (a := b106) at_385 (hw _ (List.mem_of_getElem? (i := 61) rfl)) (hw _ (List.mem_of_getElem? (i := 62) rfl)) (fun s hs => notFace_of_selects (args := #[]) (mvT hs (hw _ (List.mem_of_getElem? (i := 64) rfl)))) (hw _ (List.mem_of_getElem? (i := 64) rfl)) (hw _ (List.mem_of_getElem? (i := 63) rfl)) (hw _ (List.mem_of_getElem? (i := 52) rfl)) (hw _ (List.mem_of_getElem? (i := 65) rfl)) ((Exa.ext E108 (A106.keep Kf107)).keep Kf109) (W := 0) (argsL := [(.ref rr8)]) (rest := []) (rm11_R Z a0 hw b106 rr8 hf109 n0 ((Exa.ext E108 ((Exa.ext E106 ((E_rr8.keep K20).keep K21)).keep Kf107)).keep Kf109)) all0 rfl (pd_10) rfl rfl rfl (by decide) (by decide) (by decide) (by decide) (by decide)
    replace k := (k [] all0).sfx [b108, b106] rfl
    replace k := k.stk [(.int (0 : Int32))] rfl
    replace k := k.iload at_388 rfl
    replace k := k.icmpNo at_390 (by decide)
    replace k := k.iconst (1 : Int32) at_393 rfl
    replace k := k.goto (pc' := 398) at_394 (by decide) (by decide)
    replace k := k.istore #[.val (.int p1), .val (.int p2), .val (.long p3), .second, .val (.long p4), .second, .val (.int p5), .val (.int x7), .val (.int x8), .val (.int x9), .val (.int x10), .val (.int x11), .val (.int x12), .val (.int x13), .val (.int x14), .val (.int x15), .val (.int x16), .val (.int (3 : Int32)), .val (.ref rr7), .val (.ref rr8), .val (.ref s20), .val (.ref s21), .val (.ref b106), .val (.ref b108), .val (.ref rr8), .val (.int s25), .val (.int (0 : Int32)), .val (.int (1 : Int32))] at_398 rfl
    replace k := k.iload at_400 rfl
    replace k := k.ifYes (pc' := 429) at_402 (by decide) (by decide) (by decide)
    replace k := k.iload at_429 rfl
    exact k.iret at_431 rfl (by simp) rfl (fun sp hsp => rfl) (by decide) (by decide)
set_option maxRecDepth 65536 in
set_option maxHeartbeats 40000000 in
theorem comes_1 {Post : Tables → Env → Array Value → State → Outcome → State → Prop} (hpost : ∀ tb e args s v u, (limb_1_1.after args s (.returned v) u = true ∧ limb_1_2.after args s (.returned v) u = true ∧ True) → ReturnedEndW s (.returned v) u (Jvm.fieldLocs frame_1_writes args s ++ Jvm.arrayLocs frame_1_arrays args s ++ Jvm.staticLocs frame_1_statics s) 32 1152 → Post tb e args s (.returned v) u) :
    ArmFor flags0 classFile x code maxLocals ret World_1 tables_1 room_1 Calls_1 rest_1 Pre_1 Post := by
  intro l hfl _ _ p e ha hc hk s m args below hf hA hF happ hP
  obtain ⟨hcalls, hrest, hpre⟩ := hP
  obtain ⟨-, -, -, hnamed, -, -, -, hat⟩ := (Spec.applies_iff hf).mp happ
  obtain ⟨hg, hn⟩ := and_e (Cond.before_iff.mp (show (Jvm.Cond.and given_1 narrow_1).before args s = true from hpre))
  obtain ⟨gg0, gr0⟩ := and_e hg
  obtain ⟨gg1, gr1⟩ := and_e gr0
  obtain ⟨gg2, gr2⟩ := and_e gr1
  obtain ⟨gg3, gr3⟩ := and_e gr2
  obtain ⟨gg4, gr4⟩ := and_e gr3
  obtain ⟨w0, w1, w2, w3, w4, rfl⟩ : ∃ w0 w1 w2 w3 w4 : Value, args = #[w0, w1, w2, w3, w4] := by
    have hs : args.size = 5 := by simpa [Cond.value, given_1] using gg0
    obtain ⟨L⟩ := args
    match L, hs with
    | [w0, w1, w2, w3, w4], _ => exact ⟨w0, w1, w2, w3, w4, rfl⟩
  have hw := fun d (hd : d ∈ tables_1) => atoms_spec (ws := Jvm.Cond.code x code maxLocals ret :: tables_1) hat d (List.mem_cons_of_mem _ hd)
  have hfit : Fit s := fun {y c} hc i hi => by
    obtain ⟨ha, rfl⟩ := Array.getElem?_eq_some_iff.mp hc
    have q := List.all_eq_true.mp ((Array.all_eq_true_iff_forall_mem.mp hF) _ (Array.getElem_mem ha)) i (List.mem_range.mpr hi)
    simpa [Array.getElem?_eq_getElem hi] using q
  obtain ⟨hsets, hown0⟩ := atoms_of _ (rest_1_c_eq ▸ (show rest_1_c.before _ s = true from hrest))
  have hr0 := Cond.before_iff.mp hown0
  obtain ⟨i0, ei0⟩ := is_v gg1
  obtain rfl : w0 = (.int i0) := Option.some.inj ei0
  obtain ⟨i1, ei1⟩ := is_v gg2
  obtain rfl : w1 = (.int i1) := Option.some.inj ei1
  obtain ⟨i2, ei2⟩ := isL_v gg3
  obtain rfl : w2 = (.long i2) := Option.some.inj ei2
  obtain ⟨i3, ei3⟩ := isL_v gg4
  obtain rfl : w3 = (.long i3) := Option.some.inj ei3
  obtain ⟨i4, ei4⟩ := is_v gr4
  obtain rfl : w4 = (.int i4) := Option.some.inj ei4
  have cs1 := Cond.before_iff.mp (hsets _ (List.mem_of_getElem? (i := 1) rfl))
  obtain ⟨zC, evC⟩ := is_v cs1
  have S_COMPACT : Sta s s.heap "java/lang/String" "COMPACT_STRINGS" "Z" (.int zC) := Sta.start evC (Or.inl (hsets _ (List.mem_of_getElem? (i := 0) rfl)))
  have hC : ¬ (zC = (0 : Int32)) := own_ne0 evC (not_v (Cond.before_iff.mp (hsets _ (List.mem_of_getElem? (i := 2) rfl))))
  obtain ⟨nc0, nr0⟩ := and_e hn
  obtain ⟨nc1, nr1⟩ := and_e nr0
  obtain ⟨nc2, nr2⟩ := and_e nr1
  obtain ⟨nc3, nr3⟩ := and_e nr2
  obtain ⟨nc4, nr4⟩ := and_e nr3
  obtain ⟨nc5, nr5⟩ := and_e nr4
  obtain ⟨nc6, nr6⟩ := and_e nr5
  obtain ⟨nc7, nr7⟩ := and_e nr6
  obtain ⟨nc8, nr8⟩ := and_e nr7
  obtain ⟨nc9, nr9⟩ := and_e nr8
  obtain ⟨nc10, nr10⟩ := and_e nr9
  obtain ⟨nc11, nr11⟩ := and_e nr10
  obtain ⟨nc12, nr12⟩ := and_e nr11
  obtain ⟨a_INDICATOR_INVALID, ev_INDICATOR_INVALID⟩ := exa_v nc0
  have S_INDICATOR_INVALID : Sta s s.heap "com/example/lieudit/lieudit/Rule" "INDICATOR_INVALID" "Lcom/example/lieudit/lieudit/Rule;" (.ref a_INDICATOR_INVALID) := Sta.start ev_INDICATOR_INVALID (Or.inr ⟨(hw _ (List.mem_of_getElem? (i := 8) rfl)), (hw _ (List.mem_of_getElem? (i := 9) rfl))⟩)
  have E_INDICATOR_INVALID : Exa s s.heap a_INDICATOR_INVALID "com/example/lieudit/lieudit/Rule" := Exa.start ev_INDICATOR_INVALID nc0
  obtain ⟨a_SUBFIELD_UNDEFINED, ev_SUBFIELD_UNDEFINED⟩ := exa_v nc1
  have S_SUBFIELD_UNDEFINED : Sta s s.heap "com/example/lieudit/lieudit/Rule" "SUBFIELD_UNDEFINED" "Lcom/example/lieudit/lieudit/Rule;" (.ref a_SUBFIELD_UNDEFINED) := Sta.start ev_SUBFIELD_UNDEFINED (Or.inr ⟨(hw _ (List.mem_of_getElem? (i := 8) rfl)), (hw _ (List.mem_of_getElem? (i := 70) rfl))⟩)
  have E_SUBFIELD_UNDEFINED : Exa s s.heap a_SUBFIELD_UNDEFINED "com/example/lieudit/lieudit/Rule" := Exa.start ev_SUBFIELD_UNDEFINED nc1
  have F_SUBFIELD_UNDEFINED_ordinal : Fld s s.heap a_SUBFIELD_UNDEFINED "java/lang/Enum" "ordinal" "I" (.int (1 : Int32)) := Fld.start ((fld_at ev_SUBFIELD_UNDEFINED).symm.trans (own_eqv nc2))
  have F_INDICATOR_INVALID_ordinal : Fld s s.heap a_INDICATOR_INVALID "java/lang/Enum" "ordinal" "I" (.int (0 : Int32)) := Fld.start ((fld_at ev_INDICATOR_INVALID).symm.trans (own_eqv nc3))
  obtain ⟨a_ORDER, ev_ORDER⟩ := exa_v nc4
  have S_ORDER : Sta s s.heap "com/example/lieudit/lieudit/Rule" "ORDER" "Lcom/example/lieudit/lieudit/Rule;" (.ref a_ORDER) := Sta.start ev_ORDER (Or.inr ⟨(hw _ (List.mem_of_getElem? (i := 8) rfl)), (hw _ (List.mem_of_getElem? (i := 83) rfl))⟩)
  have E_ORDER : Exa s s.heap a_ORDER "com/example/lieudit/lieudit/Rule" := Exa.start ev_ORDER nc4
  obtain ⟨a_FINAL_STOP, ev_FINAL_STOP⟩ := exa_v nc5
  have S_FINAL_STOP : Sta s s.heap "com/example/lieudit/lieudit/Rule" "FINAL_STOP" "Lcom/example/lieudit/lieudit/Rule;" (.ref a_FINAL_STOP) := Sta.start ev_FINAL_STOP (Or.inr ⟨(hw _ (List.mem_of_getElem? (i := 8) rfl)), (hw _ (List.mem_of_getElem? (i := 87) rfl))⟩)
  have E_FINAL_STOP : Exa s s.heap a_FINAL_STOP "com/example/lieudit/lieudit/Rule" := Exa.start ev_FINAL_STOP nc5
  have F_ORDER_ordinal : Fld s s.heap a_ORDER "java/lang/Enum" "ordinal" "I" (.int (4 : Int32)) := Fld.start ((fld_at ev_ORDER).symm.trans (own_eqv nc6))
  obtain ⟨a_SOURCE_MISSING, ev_SOURCE_MISSING⟩ := exa_v nc7
  have S_SOURCE_MISSING : Sta s s.heap "com/example/lieudit/lieudit/Rule" "SOURCE_MISSING" "Lcom/example/lieudit/lieudit/Rule;" (.ref a_SOURCE_MISSING) := Sta.start ev_SOURCE_MISSING (Or.inr ⟨(hw _ (List.mem_of_getElem? (i := 8) rfl)), (hw _ (List.mem_of_getElem? (i := 89) rfl))⟩)
  have E_SOURCE_MISSING : Exa s s.heap a_SOURCE_MISSING "com/example/lieudit/lieudit/Rule" := Exa.start ev_SOURCE_MISSING nc7
  obtain ⟨a_SUBFIELD_REPEATED, ev_SUBFIELD_REPEATED⟩ := exa_v nc8
  have S_SUBFIELD_REPEATED : Sta s s.heap "com/example/lieudit/lieudit/Rule" "SUBFIELD_REPEATED" "Lcom/example/lieudit/lieudit/Rule;" (.ref a_SUBFIELD_REPEATED) := Sta.start ev_SUBFIELD_REPEATED (Or.inr ⟨(hw _ (List.mem_of_getElem? (i := 8) rfl)), (hw _ (List.mem_of_getElem? (i := 91) rfl))⟩)
  have E_SUBFIELD_REPEATED : Exa s s.heap a_SUBFIELD_REPEATED "com/example/lieudit/lieudit/Rule" := Exa.start ev_SUBFIELD_REPEATED nc8
  have F_SUBFIELD_REPEATED_ordinal : Fld s s.heap a_SUBFIELD_REPEATED "java/lang/Enum" "ordinal" "I" (.int (2 : Int32)) := Fld.start ((fld_at ev_SUBFIELD_REPEATED).symm.trans (own_eqv nc9))
  obtain ⟨a_RECORD_DAMAGED, ev_RECORD_DAMAGED⟩ := exa_v nc10
  have S_RECORD_DAMAGED : Sta s s.heap "com/example/lieudit/lieudit/Rule" "RECORD_DAMAGED" "Lcom/example/lieudit/lieudit/Rule;" (.ref a_RECORD_DAMAGED) := Sta.start ev_RECORD_DAMAGED (Or.inr ⟨(hw _ (List.mem_of_getElem? (i := 8) rfl)), (hw _ (List.mem_of_getElem? (i := 101) rfl))⟩)
  have E_RECORD_DAMAGED : Exa s s.heap a_RECORD_DAMAGED "com/example/lieudit/lieudit/Rule" := Exa.start ev_RECORD_DAMAGED nc10
  have F_RECORD_DAMAGED_ordinal : Fld s s.heap a_RECORD_DAMAGED "java/lang/Enum" "ordinal" "I" (.int (6 : Int32)) := Fld.start ((fld_at ev_RECORD_DAMAGED).symm.trans (own_eqv nc11))
  have F_FINAL_STOP_ordinal : Fld s s.heap a_FINAL_STOP "java/lang/Enum" "ordinal" "I" (.int (5 : Int32)) := Fld.start ((fld_at ev_FINAL_STOP).symm.trans (own_eqv nc12))
  have F_SOURCE_MISSING_ordinal : Fld s s.heap a_SOURCE_MISSING "java/lang/Enum" "ordinal" "I" (.int (3 : Int32)) := Fld.start ((fld_at ev_SOURCE_MISSING).symm.trans (own_eqv nr12))
  have hCH : CHv s EL s.vm s.heap := CHv.start (own_EW hw) hcalls.1 (hsets _ (List.mem_of_getElem? (i := 2) rfl)) (hw _ (own_sa _ (by decide))) (hw _ (own_sa _ (by decide)))
  obtain ⟨n, o, h1, h2, h3, _, L, rfl, ⟨rfl, N⟩, -, hq⟩ := rm0 s _ hw i0 i1 i2 i3 i4 zC a_INDICATOR_INVALID a_SUBFIELD_UNDEFINED a_ORDER a_FINAL_STOP a_SOURCE_MISSING a_SUBFIELD_REPEATED a_RECORD_DAMAGED s.heap s.heap.size (Nat.le_refl _) S_COMPACT hC S_INDICATOR_INVALID E_INDICATOR_INVALID S_SUBFIELD_UNDEFINED E_SUBFIELD_UNDEFINED F_SUBFIELD_UNDEFINED_ordinal F_INDICATOR_INVALID_ordinal S_ORDER E_ORDER S_FINAL_STOP E_FINAL_STOP F_ORDER_ordinal S_SOURCE_MISSING E_SOURCE_MISSING S_SUBFIELD_REPEATED E_SUBFIELD_REPEATED F_SUBFIELD_REPEATED_ordinal S_RECORD_DAMAGED E_RECORD_DAMAGED F_RECORD_DAMAGED_ordinal F_FINAL_STOP_ordinal F_SOURCE_MISSING_ordinal l p e ha hc hk s m _ below hf ((Spec.applies_iff_loose hf).mp happ).1 ⟨rfl, State.Warmed39.refl s, rfl, hCH, fun _ q => nomatch q⟩ trivial
  refine ⟨n, _, h1, h2, h3, hpost _ _ _ _ _ _ ⟨Cond.after_iff.mpr rfl, Cond.after_iff.mpr (eq_i res_at (Term.int_eval (1)) rfl), trivial⟩ ⟨hq.1, hq.2.1, hq.2.2.1, (hq.2.2.2.sift fun y hy => Or.inr (N y hy)).mono (by decide) (by decide)⟩⟩
theorem main_1_1 : Claimed_1_1 := comes_1 fun _ _ _ _ _ _ h hF => ⟨h.1, hF⟩
theorem main_1_2 : Claimed_1_2 := comes_1 fun _ _ _ _ _ _ h hF => ⟨h.2.1, hF⟩
end Jvm.Pilot.@@N@@
namespace Jvm.Pilot.@@N@@
open Jvm Jvm.ClassFile Sem Op Lib Jvm.Free Jvm.Stand Jvm.Pilot.@@N@@.Jvm.D
/-! MADE BY PROGRAM (witnessworld.py) out of the Statement's table words and the real class files: 22 classes; the members and pool entries that the words name. The judged class is class 1, her method 3. -/
namespace start1
open Jvm.ClassFile
def u (s : String) : CpInfo := .utf8 (stringToUtf16 s)
/-- a pool by its gaps: so many unusable entries, then the entry; so many at the end -/
def gap : Nat → List CpInfo → List CpInfo
  | 0, r => r
  | n + 1, r => .unusable :: gap n r
def poolList (es : List (Nat × CpInfo)) (last : Nat) : List CpInfo := es.foldr (fun e r => gap e.1 (e.2 :: r)) (gap last [])
def pool (es : List (Nat × CpInfo)) (last : Nat) : Array CpInfo := ⟨poolList es last⟩
def fileOf (pool : Array CpInfo) (this : Nat) (attrs : Array Attribute := #[]) (ms : Array MethodInfo := #[]) (fl : Nat := 33) (sup : Nat := 0) (ifs : Array Nat := #[]) (fds : Array FieldInfo := #[]) : ClassFile where
  minorVersion := 0
  majorVersion := 65
  constantPool := pool
  accessFlags := fl
  thisClass := this
  superClass := sup
  interfaces := ifs
  fields := fds
  methods := ms
  attributes := attrs
def plain (name : String) (sup : Option ClassId) : Class where
  name := name
  kind := .ordinary
  loader := none
  accessFlags := 33
  super := sup
  interfaces := #[]
  cf := none
  fields := #[]
  methods := #[]
  instanceTypes := #[]
  staticTypes := #[]
  resolved := #[]
  callSites := []
  init := .initialized
  statics := none
  mirror := none

def pool0 : Array CpInfo := pool [(5, u "<init>"), (0, u "()V"), (1, .class_ 10), (1, u "java/lang/Object")] 113

def k0c0 : Code := { maxStack := 0, maxLocals := 1, code := object_method_1_code, exceptionTable := #[], attributes := #[] }
def k0m0 : Method := { name := "<init>", desc := "()V", sig := { parameters := [], returnType := none }, accessFlags := 1, code := some k0c0 }
/-- java/lang/Object -/
def k0 : Class := { plain "java/lang/Object" none with
  accessFlags := 33
  interfaces := #[]
  cf := some (fileOf pool0 8 #[] #[{ accessFlags := 1, nameIndex := 5, descriptorIndex := 6, attributes := #[] }] 33 0 #[] #[])
  fields := #[]
  methods := #[k0m0]
  instanceTypes := #[]
  staticTypes := #[]
  resolved := Array.replicate 124 none
  statics := none }

def pool1 : Array CpInfo := pool [(2, .class_ 4), (1, u "java/lang/Object"), (0, u "<init>"), (0, u "()V"), (0, .fieldref 8 9), (0, .class_ 10), (0, .nameAndType 11 12), (0, u "com/example/lieudit/lieudit/Rule"), (0, u "INDICATOR_INVALID"), (0, u "Lcom/example/lieudit/lieudit/Rule;"), (0, .fieldref 8 14), (0, .nameAndType 15 12), (0, u "SUBFIELD_UNDEFINED"), (0, .fieldref 8 17), (0, .nameAndType 18 12), (0, u "SUBFIELD_REPEATED"), (0, .fieldref 8 20), (0, .nameAndType 21 12), (0, u "SOURCE_MISSING"), (0, .fieldref 8 23), (0, .nameAndType 24 12), (0, u "ORDER"), (0, .fieldref 8 26), (0, .nameAndType 27 12), (0, u "FINAL_STOP"), (0, .fieldref 8 29), (0, .nameAndType 30 12), (0, u "RECORD_DAMAGED"), (0, .class_ 32), (0, u "java/lang/String"), (0, .methodref 31 34), (0, .nameAndType 5 35), (0, u "([C)V"), (0, .methodref 31 37), (0, .nameAndType 38 39), (0, u "valueOf"), (0, u "(C)Ljava/lang/String;"), (0, .integer 2147483647), (0, .long 3), (1, .long 255), (1, .methodref 46 47), (0, .class_ 48), (0, .nameAndType 49 50), (0, u "com/example/lieudit/lieudit/FindingEqualsPinLaw"), (0, u "rule"), (0, u "(I)Lcom/example/lieudit/lieudit/Rule;"), (0, .methodref 46 52), (0, .nameAndType 53 54), (0, u "text"), (0, u "(ICCC)Ljava/lang/String;"), (0, .class_ 56), (0, u "com/example/lieudit/lieudit/Finding"), (0, .methodref 55 58), (0, .nameAndType 5 59), (0, u "(Lcom/example/lieudit/lieudit/Rule;Ljava/lang/String;)V"), (0, .methodref 55 61), (0, .nameAndType 62 63), (0, u "equals"), (0, u "(Ljava/lang/Object;)Z"), (3, u "law"), (0, u "(IIJJI)Z")] 2

def k1m0 : Method := { name := "<init>", desc := "()V", sig := { parameters := [], returnType := none }, accessFlags := 1, code := none }
def k1c1 : Code := { maxStack := 2, maxLocals := 1, code := method_2_code, exceptionTable := #[], attributes := #[] }
def k1m1 : Method := { name := "rule", desc := "(I)Lcom/example/lieudit/lieudit/Rule;", sig := { parameters := [.int], returnType := some (.object "com/example/lieudit/lieudit/Rule") }, accessFlags := 10, code := some k1c1 }
def k1c2 : Code := { maxStack := 6, maxLocals := 4, code := method_3_code, exceptionTable := #[], attributes := #[] }
def k1m2 : Method := { name := "text", desc := "(ICCC)Ljava/lang/String;", sig := { parameters := [.int, .char, .char, .char], returnType := some (.object "java/lang/String") }, accessFlags := 10, code := some k1c2 }
def k1c3 : Code := { maxStack := 4, maxLocals := 28, code := code, exceptionTable := #[], attributes := #[] }
def k1m3 : Method := { name := "law", desc := "(IIJJI)Z", sig := { parameters := [.int, .int, .long, .long, .int], returnType := some .boolean }, accessFlags := 9, code := some k1c3 }
/-- com/example/lieudit/lieudit/FindingEqualsPinLaw -/
def k1 : Class := { plain "com/example/lieudit/lieudit/FindingEqualsPinLaw" (some 0) with
  accessFlags := 49
  interfaces := #[]
  cf := some (fileOf pool1 46 #[] #[{ accessFlags := 1, nameIndex := 5, descriptorIndex := 6, attributes := #[] }, { accessFlags := 10, nameIndex := 49, descriptorIndex := 50, attributes := #[] }, { accessFlags := 10, nameIndex := 53, descriptorIndex := 54, attributes := #[] }, { accessFlags := 9, nameIndex := 67, descriptorIndex := 68, attributes := #[] }] 49 2 #[] #[])
  fields := #[]
  methods := #[k1m0, k1m1, k1m2, k1m3]
  instanceTypes := #[]
  staticTypes := #[]
  resolved := Array.replicate 71 none
  statics := none }

def pool2 : Array CpInfo := pool [(1, .class_ 2), (0, u "java/lang/constant/Constable"), (0, .class_ 4), (0, u "java/lang/Object")] 6

/-- java/lang/constant/Constable -/
def k2 : Class := { plain "java/lang/constant/Constable" (some 0) with
  accessFlags := 1537
  interfaces := #[]
  cf := some (fileOf pool2 1 #[] #[] 1537 3 #[] #[])
  fields := #[]
  methods := #[]
  instanceTypes := #[]
  staticTypes := #[]
  resolved := Array.replicate 11 none
  statics := none }

def pool3 : Array CpInfo := pool [(1, .class_ 2), (0, u "java/lang/Comparable"), (0, .class_ 4), (0, u "java/lang/Object")] 7

/-- java/lang/Comparable -/
def k3 : Class := { plain "java/lang/Comparable" (some 0) with
  accessFlags := 1537
  interfaces := #[]
  cf := some (fileOf pool3 1 #[] #[] 1537 3 #[] #[])
  fields := #[]
  methods := #[]
  instanceTypes := #[]
  staticTypes := #[]
  resolved := Array.replicate 12 none
  statics := none }

def pool4 : Array CpInfo := pool [(1, .class_ 2), (0, u "java/io/Serializable"), (0, .class_ 4), (0, u "java/lang/Object")] 2

/-- java/io/Serializable -/
def k4 : Class := { plain "java/io/Serializable" (some 0) with
  accessFlags := 1537
  interfaces := #[]
  cf := some (fileOf pool4 1 #[] #[] 1537 3 #[] #[])
  fields := #[]
  methods := #[]
  instanceTypes := #[]
  staticTypes := #[]
  resolved := Array.replicate 7 none
  statics := none }

def pool5 : Array CpInfo := pool [(2, .class_ 4), (1, u "java/lang/Enum"), (0, u "name"), (0, u "Ljava/lang/String;"), (2, u "ordinal"), (0, u "I"), (1, .class_ 14), (1, u "java/lang/Object"), (4, u "hash"), (86, .class_ 108), (1, u "java/lang/Enum$EnumDesc"), (2, .class_ 112), (0, u "java/lang/constant/Constable"), (0, .class_ 114), (0, u "java/lang/Comparable"), (0, .class_ 116), (0, u "java/io/Serializable")] 87

/-- java/lang/Enum -/
def k5 : Class := { plain "java/lang/Enum" (some 0) with
  accessFlags := 1057
  interfaces := #[2, 3, 4]
  cf := some (fileOf pool5 2 #[.nestMembers #[106]] #[] 1057 12 #[111, 113, 115] #[{ accessFlags := 18, nameIndex := 5, descriptorIndex := 6, attributes := #[] }, { accessFlags := 18, nameIndex := 9, descriptorIndex := 10, attributes := #[] }, { accessFlags := 2, nameIndex := 19, descriptorIndex := 10, attributes := #[] }])
  fields := #[{ name := "name", type := (.object "java/lang/String"), accessFlags := 18, slot := 0, constantValue := 0 }, { name := "ordinal", type := .int, accessFlags := 18, slot := 1, constantValue := 0 }, { name := "hash", type := .int, accessFlags := 2, slot := 2, constantValue := 0 }]
  methods := #[]
  instanceTypes := #[(.object "java/lang/String"), .int, .int]
  staticTypes := #[]
  resolved := Array.replicate 204 none
  statics := none }

def pool6 : Array CpInfo := pool [(1, .class_ 2), (0, u "com/example/lieudit/lieudit/Rule"), (2, u "INDICATOR_INVALID"), (0, u "Lcom/example/lieudit/lieudit/Rule;"), (2, u "SUBFIELD_UNDEFINED"), (2, u "SUBFIELD_REPEATED"), (2, u "SOURCE_MISSING"), (2, u "ORDER"), (2, u "FINAL_STOP"), (2, u "RECORD_DAMAGED"), (2, u "$VALUES"), (0, u "[Lcom/example/lieudit/lieudit/Rule;"), (6, .class_ 37), (1, u "java/lang/Enum"), (8, u "severity"), (0, u "Lcom/example/lieudit/lieudit/Severity;"), (22, u "word"), (0, u "Ljava/lang/String;")] 35

/-- com/example/lieudit/lieudit/Rule -/
def k6 : Class := { plain "com/example/lieudit/lieudit/Rule" (some 5) with
  accessFlags := 16432
  interfaces := #[]
  cf := some (fileOf pool6 1 #[] #[] 16432 35 #[] #[{ accessFlags := 16409, nameIndex := 5, descriptorIndex := 6, attributes := #[] }, { accessFlags := 16409, nameIndex := 9, descriptorIndex := 6, attributes := #[] }, { accessFlags := 16409, nameIndex := 12, descriptorIndex := 6, attributes := #[] }, { accessFlags := 16409, nameIndex := 15, descriptorIndex := 6, attributes := #[] }, { accessFlags := 16409, nameIndex := 18, descriptorIndex := 6, attributes := #[] }, { accessFlags := 16409, nameIndex := 21, descriptorIndex := 6, attributes := #[] }, { accessFlags := 16409, nameIndex := 24, descriptorIndex := 6, attributes := #[] }, { accessFlags := 18, nameIndex := 46, descriptorIndex := 47, attributes := #[] }, { accessFlags := 18, nameIndex := 70, descriptorIndex := 71, attributes := #[] }, { accessFlags := 4122, nameIndex := 27, descriptorIndex := 28, attributes := #[] }])
  fields := #[{ name := "INDICATOR_INVALID", type := (.object "com/example/lieudit/lieudit/Rule"), accessFlags := 16409, slot := 0, constantValue := 0 }, { name := "SUBFIELD_UNDEFINED", type := (.object "com/example/lieudit/lieudit/Rule"), accessFlags := 16409, slot := 1, constantValue := 0 }, { name := "SUBFIELD_REPEATED", type := (.object "com/example/lieudit/lieudit/Rule"), accessFlags := 16409, slot := 2, constantValue := 0 }, { name := "SOURCE_MISSING", type := (.object "com/example/lieudit/lieudit/Rule"), accessFlags := 16409, slot := 3, constantValue := 0 }, { name := "ORDER", type := (.object "com/example/lieudit/lieudit/Rule"), accessFlags := 16409, slot := 4, constantValue := 0 }, { name := "FINAL_STOP", type := (.object "com/example/lieudit/lieudit/Rule"), accessFlags := 16409, slot := 5, constantValue := 0 }, { name := "RECORD_DAMAGED", type := (.object "com/example/lieudit/lieudit/Rule"), accessFlags := 16409, slot := 6, constantValue := 0 }, { name := "severity", type := (.object "com/example/lieudit/lieudit/Severity"), accessFlags := 18, slot := 3, constantValue := 0 }, { name := "word", type := (.object "java/lang/String"), accessFlags := 18, slot := 4, constantValue := 0 }, { name := "$VALUES", type := (.array (.object "com/example/lieudit/lieudit/Rule")), accessFlags := 4122, slot := 7, constantValue := 0 }]
  methods := #[]
  instanceTypes := #[(.object "java/lang/String"), .int, .int, (.object "com/example/lieudit/lieudit/Severity"), (.object "java/lang/String")]
  staticTypes := #[(.object "com/example/lieudit/lieudit/Rule"), (.object "com/example/lieudit/lieudit/Rule"), (.object "com/example/lieudit/lieudit/Rule"), (.object "com/example/lieudit/lieudit/Rule"), (.object "com/example/lieudit/lieudit/Rule"), (.object "com/example/lieudit/lieudit/Rule"), (.object "com/example/lieudit/lieudit/Rule"), (.array (.object "com/example/lieudit/lieudit/Rule"))]
  resolved := Array.replicate 107 none
  statics := some 0 }

def pool7 : Array CpInfo := pool [(2, .class_ 4), (1, u "java/lang/CharSequence"), (42, .class_ 48), (0, u "java/lang/CharSequence$1CodePointIterator"), (10, .class_ 60), (0, u "java/lang/CharSequence$1CharIterator"), (5, .class_ 67), (0, u "java/lang/Object")] 63

/-- java/lang/CharSequence -/
def k7 : Class := { plain "java/lang/CharSequence" (some 0) with
  accessFlags := 1537
  interfaces := #[]
  cf := some (fileOf pool7 2 #[.nestMembers #[47, 59]] #[] 1537 66 #[] #[])
  fields := #[]
  methods := #[]
  instanceTypes := #[]
  staticTypes := #[]
  resolved := Array.replicate 131 none
  statics := none }

def pool8 : Array CpInfo := pool [(1, .class_ 2), (0, u "java/lang/constant/ConstantDesc"), (0, .class_ 4), (0, u "java/lang/Object")] 32

/-- java/lang/constant/ConstantDesc -/
def k8 : Class := { plain "java/lang/constant/ConstantDesc" (some 0) with
  accessFlags := 1537
  interfaces := #[]
  cf := some (fileOf pool8 1 #[] #[] 1537 3 #[] #[])
  fields := #[]
  methods := #[]
  instanceTypes := #[]
  staticTypes := #[]
  resolved := Array.replicate 37 none
  statics := none }

def pool9 : Array CpInfo := pool [(1, .methodref 2 3), (0, .class_ 4), (0, .nameAndType 5 6), (0, u "java/lang/Object"), (0, u "<init>"), (0, u "()V"), (0, .string 8), (0, u ""), (0, .fieldref 10 11), (0, .class_ 12), (0, .nameAndType 13 14), (0, u "java/lang/String"), (0, u "value"), (0, u "[B"), (0, .fieldref 10 16), (0, .nameAndType 17 18), (0, u "coder"), (0, u "B"), (2, u "hash"), (0, u "I"), (2, u "hashIsZero"), (0, u "Z"), (0, .methodref 10 28), (0, .nameAndType 5 29), (0, u "([CIILjava/lang/Void;)V"), (8, .fieldref 10 39), (0, .nameAndType 40 26), (0, u "COMPACT_STRINGS"), (1, .class_ 44), (1, u "java/lang/StringUTF16"), (0, u "compress"), (1, .methodref 42 48), (0, .nameAndType 49 50), (0, u "coderFromArrayLen"), (0, u "([BI)B"), (2, u "toBytes"), (53, .class_ 109), (1, u "java/lang/StringLatin1"), (67, .methodref 42 178), (0, .nameAndType 45 179), (0, u "([CII)[B"), (29, .methodref 10 210), (0, .nameAndType 5 211), (0, u "([BB)V"), (157, u "(C)Z"), (171, .methodref 107 542), (0, .nameAndType 543 544), (0, u "equals"), (0, u "([B[B)Z"), (28, u "(Ljava/lang/Object;)Z"), (1, .class_ 576), (0, u "java/lang/CharSequence"), (22, u "CASE_INSENSITIVE_ORDER"), (0, u "Ljava/util/Comparator;"), (181, u "valueOf"), (0, u "(C)Ljava/lang/String;"), (226, u "([C)V"), (4, .methodref 107 1016), (0, .nameAndType 1017 369), (0, u "canEncode"), (0, .methodref 107 1019), (0, .nameAndType 53 1020), (0, u "(C)[B"), (80, u "serialPersistentFields"), (0, u "[Ljava/io/ObjectStreamField;"), (0, .class_ 1104), (0, u "java/lang/String$CaseInsensitiveComparator"), (1, .class_ 1107), (0, u "java/io/Serializable"), (0, .class_ 1109), (0, u "java/lang/Comparable"), (0, .class_ 1111), (0, u "java/lang/constant/Constable"), (0, .class_ 1113), (0, u "java/lang/constant/ConstantDesc"), (2, u "serialVersionUID"), (0, u "J"), (3, u "REPL"), (0, u "C"), (2, u "LATIN1"), (1, u "UTF16")] 323

def k9m0 : Method := { name := "<init>", desc := "()V", sig := { parameters := [], returnType := none }, accessFlags := 1, code := none }
def k9c1 : Code := { maxStack := 5, maxLocals := 2, code := jdk_42_method_3_code, exceptionTable := #[], attributes := #[] }
def k9m1 : Method := { name := "<init>", desc := "([C)V", sig := { parameters := [(.array .char)], returnType := none }, accessFlags := 1, code := some k9c1 }
def k9c2 : Code := { maxStack := 2, maxLocals := 3, code := jdk_42_method_66_code, exceptionTable := #[], attributes := #[] }
def k9m2 : Method := { name := "equals", desc := "(Ljava/lang/Object;)Z", sig := { parameters := [(.object "java/lang/Object")], returnType := some .boolean }, accessFlags := 1, code := some k9c2 }
def k9c3 : Code := { maxStack := 4, maxLocals := 1, code := jdk_42_method_139_code, exceptionTable := #[], attributes := #[] }
def k9m3 : Method := { name := "valueOf", desc := "(C)Ljava/lang/String;", sig := { parameters := [.char], returnType := some (.object "java/lang/String") }, accessFlags := 9, code := some k9c3 }
def k9c4 : Code := { maxStack := 4, maxLocals := 6, code := jdk_42_method_149_code, exceptionTable := #[], attributes := #[] }
def k9m4 : Method := { name := "<init>", desc := "([CIILjava/lang/Void;)V", sig := { parameters := [(.array .char), .int, .int, (.object "java/lang/Void")], returnType := none }, accessFlags := 2, code := some k9c4 }
def k9c5 : Code := { maxStack := 2, maxLocals := 3, code := jdk_42_method_151_code, exceptionTable := #[], attributes := #[] }
def k9m5 : Method := { name := "<init>", desc := "([BB)V", sig := { parameters := [(.array .byte), .byte], returnType := none }, accessFlags := 0, code := some k9c5 }
/-- java/lang/String -/
def k9 : Class := { plain "java/lang/String" (some 0) with
  accessFlags := 49
  interfaces := #[4, 3, 7, 2, 8]
  cf := some (fileOf pool9 10 #[.nestMembers #[1103]] #[{ accessFlags := 1, nameIndex := 5, descriptorIndex := 6, attributes := #[] }, { accessFlags := 1, nameIndex := 5, descriptorIndex := 1010, attributes := #[] }, { accessFlags := 1, nameIndex := 543, descriptorIndex := 573, attributes := #[] }, { accessFlags := 9, nameIndex := 782, descriptorIndex := 783, attributes := #[] }, { accessFlags := 2, nameIndex := 5, descriptorIndex := 29, attributes := #[] }, { accessFlags := 0, nameIndex := 5, descriptorIndex := 211, attributes := #[] }] 49 2 #[1106, 1108, 575, 1110, 1112] #[{ accessFlags := 18, nameIndex := 13, descriptorIndex := 14, attributes := #[] }, { accessFlags := 18, nameIndex := 17, descriptorIndex := 18, attributes := #[] }, { accessFlags := 2, nameIndex := 21, descriptorIndex := 22, attributes := #[] }, { accessFlags := 2, nameIndex := 25, descriptorIndex := 26, attributes := #[] }, { accessFlags := 26, nameIndex := 1116, descriptorIndex := 1117, attributes := #[] }, { accessFlags := 24, nameIndex := 40, descriptorIndex := 26, attributes := #[] }, { accessFlags := 26, nameIndex := 1101, descriptorIndex := 1102, attributes := #[] }, { accessFlags := 26, nameIndex := 1121, descriptorIndex := 1122, attributes := #[] }, { accessFlags := 25, nameIndex := 599, descriptorIndex := 600, attributes := #[] }, { accessFlags := 24, nameIndex := 1125, descriptorIndex := 18, attributes := #[] }, { accessFlags := 24, nameIndex := 1127, descriptorIndex := 18, attributes := #[] }])
  fields := #[{ name := "value", type := (.array .byte), accessFlags := 18, slot := 0, constantValue := 0 }, { name := "coder", type := .byte, accessFlags := 18, slot := 1, constantValue := 0 }, { name := "hash", type := .int, accessFlags := 2, slot := 2, constantValue := 0 }, { name := "hashIsZero", type := .boolean, accessFlags := 2, slot := 3, constantValue := 0 }, { name := "serialVersionUID", type := .long, accessFlags := 26, slot := 0, constantValue := 0 }, { name := "COMPACT_STRINGS", type := .boolean, accessFlags := 24, slot := 1, constantValue := 0 }, { name := "serialPersistentFields", type := (.array (.object "java/io/ObjectStreamField")), accessFlags := 26, slot := 2, constantValue := 0 }, { name := "REPL", type := .char, accessFlags := 26, slot := 3, constantValue := 0 }, { name := "CASE_INSENSITIVE_ORDER", type := (.object "java/util/Comparator"), accessFlags := 25, slot := 4, constantValue := 0 }, { name := "LATIN1", type := .byte, accessFlags := 24, slot := 5, constantValue := 0 }, { name := "UTF16", type := .byte, accessFlags := 24, slot := 6, constantValue := 0 }]
  methods := #[k9m0, k9m1, k9m2, k9m3, k9m4, k9m5]
  instanceTypes := #[(.array .byte), .byte, .int, .boolean]
  staticTypes := #[.long, .boolean, (.array (.object "java/io/ObjectStreamField")), .char, (.object "java/util/Comparator"), .byte, .byte]
  resolved := Array.replicate 1451 none
  statics := some 1 }

def pool10 : Array CpInfo := pool [(4, .class_ 6), (1, u "java/lang/Object"), (0, u "<init>"), (0, u "()V"), (5, .class_ 16), (1, u "java/lang/StringLatin1"), (73, u "canEncode"), (14, u "(C)Z"), (15, u "$assertionsDisabled"), (0, u "Z"), (98, .class_ 223), (1, u "java/lang/StringLatin1$LinesSpliterator"), (57, u "equals"), (0, u "([B[B)Z"), (97, u "toBytes"), (1, u "(C)[B"), (7, .class_ 391), (0, u "java/lang/StringLatin1$CharsSpliterator")] 3

def k10m0 : Method := { name := "<init>", desc := "()V", sig := { parameters := [], returnType := none }, accessFlags := 0, code := none }
def k10c1 : Code := { maxStack := 2, maxLocals := 1, code := jdk_43_method_3_code, exceptionTable := #[], attributes := #[] }
def k10m1 : Method := { name := "canEncode", desc := "(C)Z", sig := { parameters := [.char], returnType := some .boolean }, accessFlags := 9, code := some k10c1 }
def k10c2 : Code := { maxStack := 3, maxLocals := 3, code := jdk_43_method_13_code, exceptionTable := #[], attributes := #[] }
def k10m2 : Method := { name := "equals", desc := "([B[B)Z", sig := { parameters := [(.array .byte), (.array .byte)], returnType := some .boolean }, accessFlags := 9, code := some k10c2 }
def k10c3 : Code := { maxStack := 4, maxLocals := 1, code := jdk_43_method_46_code, exceptionTable := #[], attributes := #[] }
def k10m3 : Method := { name := "toBytes", desc := "(C)[B", sig := { parameters := [.char], returnType := some (.array .byte) }, accessFlags := 9, code := some k10c3 }
/-- java/lang/StringLatin1 -/
def k10 : Class := { plain "java/lang/StringLatin1" (some 0) with
  accessFlags := 48
  interfaces := #[]
  cf := some (fileOf pool10 14 #[.nestMembers #[390, 221]] #[{ accessFlags := 0, nameIndex := 7, descriptorIndex := 8, attributes := #[] }, { accessFlags := 9, nameIndex := 90, descriptorIndex := 105, attributes := #[] }, { accessFlags := 9, nameIndex := 281, descriptorIndex := 282, attributes := #[] }, { accessFlags := 9, nameIndex := 380, descriptorIndex := 382, attributes := #[] }] 48 4 #[] #[{ accessFlags := 4120, nameIndex := 121, descriptorIndex := 122, attributes := #[] }])
  fields := #[{ name := "$assertionsDisabled", type := .boolean, accessFlags := 4120, slot := 0, constantValue := 0 }]
  methods := #[k10m0, k10m1, k10m2, k10m3]
  instanceTypes := #[]
  staticTypes := #[.boolean]
  resolved := Array.replicate 395 none
  statics := none }

def pool11 : Array CpInfo := pool [(1, .methodref 2 3), (0, .class_ 4), (0, .nameAndType 5 6), (0, u "java/lang/Object"), (0, u "<init>"), (0, u "()V"), (0, .fieldref 8 9), (0, .class_ 10), (0, .nameAndType 11 12), (0, u "com/example/lieudit/lieudit/Finding"), (0, u "rule"), (0, u "Lcom/example/lieudit/lieudit/Rule;"), (0, .fieldref 8 14), (0, .nameAndType 15 16), (0, u "detail"), (0, u "Ljava/lang/String;"), (2, u "BY_CODE"), (0, u "[[Lcom/example/lieudit/lieudit/Finding;"), (14, u "BY_INDICATOR"), (5, u "INDICATOR_PREFIXES"), (0, u "[Ljava/lang/String;"), (6, u "(Lcom/example/lieudit/lieudit/Rule;Ljava/lang/String;)V"), (0, .methodref 51 52), (0, .class_ 53), (0, .nameAndType 54 55), (0, u "java/lang/String"), (0, u "equals"), (0, u "(Ljava/lang/Object;)Z"), (22, u "HELD"), (0, u "I")] 32

def k11c0 : Code := { maxStack := 2, maxLocals := 3, code := prog_10_method_1_code, exceptionTable := #[], attributes := #[] }
def k11m0 : Method := { name := "<init>", desc := "(Lcom/example/lieudit/lieudit/Rule;Ljava/lang/String;)V", sig := { parameters := [(.object "com/example/lieudit/lieudit/Rule"), (.object "java/lang/String")], returnType := none }, accessFlags := 0, code := some k11c0 }
def k11c1 : Code := { maxStack := 2, maxLocals := 3, code := prog_10_method_7_code, exceptionTable := #[], attributes := #[] }
def k11m1 : Method := { name := "equals", desc := "(Ljava/lang/Object;)Z", sig := { parameters := [(.object "java/lang/Object")], returnType := some .boolean }, accessFlags := 1, code := some k11c1 }
/-- com/example/lieudit/lieudit/Finding -/
def k11 : Class := { plain "com/example/lieudit/lieudit/Finding" (some 0) with
  accessFlags := 48
  interfaces := #[]
  cf := some (fileOf pool11 8 #[] #[{ accessFlags := 0, nameIndex := 5, descriptorIndex := 49, attributes := #[] }, { accessFlags := 1, nameIndex := 54, descriptorIndex := 55, attributes := #[] }] 48 2 #[] #[{ accessFlags := 26, nameIndex := 78, descriptorIndex := 79, attributes := #[] }, { accessFlags := 26, nameIndex := 19, descriptorIndex := 20, attributes := #[] }, { accessFlags := 26, nameIndex := 41, descriptorIndex := 42, attributes := #[] }, { accessFlags := 26, nameIndex := 35, descriptorIndex := 20, attributes := #[] }, { accessFlags := 18, nameIndex := 11, descriptorIndex := 12, attributes := #[] }, { accessFlags := 18, nameIndex := 15, descriptorIndex := 16, attributes := #[] }])
  fields := #[{ name := "HELD", type := .int, accessFlags := 26, slot := 0, constantValue := 0 }, { name := "BY_CODE", type := (.array (.array (.object "com/example/lieudit/lieudit/Finding"))), accessFlags := 26, slot := 1, constantValue := 0 }, { name := "INDICATOR_PREFIXES", type := (.array (.object "java/lang/String")), accessFlags := 26, slot := 2, constantValue := 0 }, { name := "BY_INDICATOR", type := (.array (.array (.object "com/example/lieudit/lieudit/Finding"))), accessFlags := 26, slot := 3, constantValue := 0 }, { name := "rule", type := (.object "com/example/lieudit/lieudit/Rule"), accessFlags := 18, slot := 0, constantValue := 0 }, { name := "detail", type := (.object "java/lang/String"), accessFlags := 18, slot := 1, constantValue := 0 }]
  methods := #[k11m0, k11m1]
  instanceTypes := #[(.object "com/example/lieudit/lieudit/Rule"), (.object "java/lang/String")]
  staticTypes := #[.int, (.array (.array (.object "com/example/lieudit/lieudit/Finding"))), (.array (.object "java/lang/String")), (.array (.array (.object "com/example/lieudit/lieudit/Finding")))]
  resolved := Array.replicate 112 none
  statics := none }

def pool12 : Array CpInfo := pool [(6, .class_ 8), (1, u "java/lang/Object"), (0, u "<init>"), (0, u "()V"), (1, .class_ 14), (1, u "java/lang/StringUTF16"), (31, u "$assertionsDisabled"), (0, u "Z"), (13, u "HI_BYTE_SHIFT"), (0, u "I"), (2, u "LO_BYTE_SHIFT"), (49, .methodref 12 116), (0, .nameAndType 117 118), (0, u "compress"), (0, u "([CI[BII)I"), (3, u "([CII)[B"), (138, u "coderFromArrayLen"), (0, u "([BI)B"), (106, .class_ 371), (1, u "java/lang/StringUTF16$LinesSpliterator"), (58, u "MAX_LENGTH"), (196, .class_ 628), (0, u "java/lang/StringUTF16$CodePointsSpliterator"), (0, .class_ 630), (0, u "java/lang/StringUTF16$CharsSpliterator")] 4

def k12m0 : Method := { name := "<init>", desc := "()V", sig := { parameters := [], returnType := none }, accessFlags := 0, code := none }
def k12c1 : Code := { maxStack := 2, maxLocals := 2, code := jdk_52_method_15_code, exceptionTable := #[], attributes := #[] }
def k12m1 : Method := { name := "coderFromArrayLen", desc := "([BI)B", sig := { parameters := [(.array .byte), .int], returnType := some .byte }, accessFlags := 8, code := some k12c1 }
def k12c2 : Code := { maxStack := 5, maxLocals := 6, code := jdk_52_method_16_code, exceptionTable := #[], attributes := #[] }
def k12m2 : Method := { name := "compress", desc := "([CII)[B", sig := { parameters := [(.array .char), .int, .int], returnType := some (.array .byte) }, accessFlags := 9, code := some k12c2 }
def k12c3 : Code := { maxStack := 3, maxLocals := 7, code := jdk_52_method_21_code, exceptionTable := #[], attributes := #[] }
def k12m3 : Method := { name := "compress", desc := "([CI[BII)I", sig := { parameters := [(.array .char), .int, (.array .byte), .int, .int], returnType := some .int }, accessFlags := 9, code := some k12c3 }
/-- java/lang/StringUTF16 -/
def k12 : Class := { plain "java/lang/StringUTF16" (some 0) with
  accessFlags := 48
  interfaces := #[]
  cf := some (fileOf pool12 12 #[.nestMembers #[627, 629, 369]] #[{ accessFlags := 0, nameIndex := 9, descriptorIndex := 10, attributes := #[] }, { accessFlags := 8, nameIndex := 261, descriptorIndex := 262, attributes := #[] }, { accessFlags := 9, nameIndex := 117, descriptorIndex := 122, attributes := #[] }, { accessFlags := 9, nameIndex := 117, descriptorIndex := 118, attributes := #[] }] 48 6 #[] #[{ accessFlags := 26, nameIndex := 61, descriptorIndex := 62, attributes := #[] }, { accessFlags := 26, nameIndex := 65, descriptorIndex := 62, attributes := #[] }, { accessFlags := 24, nameIndex := 430, descriptorIndex := 62, attributes := #[] }, { accessFlags := 4120, nameIndex := 46, descriptorIndex := 47, attributes := #[] }])
  fields := #[{ name := "HI_BYTE_SHIFT", type := .int, accessFlags := 26, slot := 0, constantValue := 0 }, { name := "LO_BYTE_SHIFT", type := .int, accessFlags := 26, slot := 1, constantValue := 0 }, { name := "MAX_LENGTH", type := .int, accessFlags := 24, slot := 2, constantValue := 0 }, { name := "$assertionsDisabled", type := .boolean, accessFlags := 4120, slot := 3, constantValue := 0 }]
  methods := #[k12m0, k12m1, k12m2, k12m3]
  instanceTypes := #[]
  staticTypes := #[.int, .int, .int, .boolean]
  resolved := Array.replicate 635 none
  statics := none }

def pool13 : Array CpInfo := pool [(2, .class_ 4), (1, u "java/lang/Object"), (0, u "<init>"), (0, u "()V"), (17, .class_ 26), (1, u "jdk/internal/util/Preconditions"), (28, .class_ 56), (0, u "jdk/internal/util/Preconditions$4"), (57, .class_ 115), (0, u "jdk/internal/util/Preconditions$1"), (7, u "SIOOBE_FORMATTER"), (0, u "Ljava/util/function/BiFunction;"), (0, .class_ 126), (0, u "jdk/internal/util/Preconditions$2"), (3, u "AIOOBE_FORMATTER"), (0, .class_ 132), (0, u "jdk/internal/util/Preconditions$3"), (3, u "IOOBE_FORMATTER")] 57

def k13m0 : Method := { name := "<init>", desc := "()V", sig := { parameters := [], returnType := none }, accessFlags := 1, code := none }
/-- jdk/internal/util/Preconditions -/
def k13 : Class := { plain "jdk/internal/util/Preconditions" (some 0) with
  accessFlags := 33
  interfaces := #[]
  cf := some (fileOf pool13 24 #[.nestMembers #[55, 131, 125, 114]] #[{ accessFlags := 1, nameIndex := 5, descriptorIndex := 6, attributes := #[] }] 33 2 #[] #[{ accessFlags := 25, nameIndex := 123, descriptorIndex := 124, attributes := #[] }, { accessFlags := 25, nameIndex := 130, descriptorIndex := 124, attributes := #[] }, { accessFlags := 25, nameIndex := 136, descriptorIndex := 124, attributes := #[] }])
  fields := #[{ name := "SIOOBE_FORMATTER", type := (.object "java/util/function/BiFunction"), accessFlags := 25, slot := 0, constantValue := 0 }, { name := "AIOOBE_FORMATTER", type := (.object "java/util/function/BiFunction"), accessFlags := 25, slot := 1, constantValue := 0 }, { name := "IOOBE_FORMATTER", type := (.object "java/util/function/BiFunction"), accessFlags := 25, slot := 2, constantValue := 0 }]
  methods := #[k13m0]
  instanceTypes := #[]
  staticTypes := #[(.object "java/util/function/BiFunction"), (.object "java/util/function/BiFunction"), (.object "java/util/function/BiFunction")]
  resolved := Array.replicate 194 none
  statics := some 2 }

def pool14 : Array CpInfo := pool [(9, u "<init>"), (6, .class_ 18), (1, u "java/lang/Object"), (0, u "()V"), (1, .class_ 23), (1, u "jdk/internal/util/ArraysSupport"), (0, u "LOG2_ARRAY_LONG_INDEX_SCALE"), (0, u "I"), (2, u "U"), (0, u "Ljdk/internal/misc/Unsafe;"), (8, u "BIG_ENDIAN"), (0, u "Z"), (8, u "LOG2_BYTE_BIT_SIZE"), (4, u "LOG2_ARRAY_INT_INDEX_SCALE"), (54, u "JLA"), (0, u "Ljdk/internal/access/JavaLangAccess;"), (11, u "LOG2_ARRAY_BOOLEAN_INDEX_SCALE"), (9, u "LOG2_ARRAY_BYTE_INDEX_SCALE"), (5, u "LOG2_ARRAY_CHAR_INDEX_SCALE"), (5, u "LOG2_ARRAY_SHORT_INDEX_SCALE"), (18, u "LOG2_ARRAY_FLOAT_INDEX_SCALE"), (24, u "LOG2_ARRAY_DOUBLE_INDEX_SCALE"), (89, u "T_BOOLEAN"), (2, u "T_CHAR"), (1, u "T_FLOAT"), (1, u "T_DOUBLE"), (1, u "T_BYTE"), (1, u "T_SHORT"), (1, u "T_INT"), (1, u "T_LONG"), (1, u "SOFT_MAX_ARRAY_LENGTH")] 83

def k14m0 : Method := { name := "<init>", desc := "()V", sig := { parameters := [], returnType := none }, accessFlags := 2, code := none }
/-- jdk/internal/util/ArraysSupport -/
def k14 : Class := { plain "jdk/internal/util/ArraysSupport" (some 0) with
  accessFlags := 33
  interfaces := #[]
  cf := some (fileOf pool14 21 #[] #[{ accessFlags := 2, nameIndex := 9, descriptorIndex := 19, attributes := #[] }] 33 16 #[] #[{ accessFlags := 24, nameIndex := 28, descriptorIndex := 29, attributes := #[] }, { accessFlags := 26, nameIndex := 38, descriptorIndex := 39, attributes := #[] }, { accessFlags := 25, nameIndex := 121, descriptorIndex := 25, attributes := #[] }, { accessFlags := 25, nameIndex := 131, descriptorIndex := 25, attributes := #[] }, { accessFlags := 25, nameIndex := 137, descriptorIndex := 25, attributes := #[] }, { accessFlags := 25, nameIndex := 143, descriptorIndex := 25, attributes := #[] }, { accessFlags := 25, nameIndex := 53, descriptorIndex := 25, attributes := #[] }, { accessFlags := 25, nameIndex := 24, descriptorIndex := 25, attributes := #[] }, { accessFlags := 25, nameIndex := 162, descriptorIndex := 25, attributes := #[] }, { accessFlags := 25, nameIndex := 187, descriptorIndex := 25, attributes := #[] }, { accessFlags := 26, nameIndex := 48, descriptorIndex := 25, attributes := #[] }, { accessFlags := 25, nameIndex := 277, descriptorIndex := 25, attributes := #[] }, { accessFlags := 25, nameIndex := 280, descriptorIndex := 25, attributes := #[] }, { accessFlags := 25, nameIndex := 282, descriptorIndex := 25, attributes := #[] }, { accessFlags := 25, nameIndex := 284, descriptorIndex := 25, attributes := #[] }, { accessFlags := 25, nameIndex := 286, descriptorIndex := 25, attributes := #[] }, { accessFlags := 25, nameIndex := 288, descriptorIndex := 25, attributes := #[] }, { accessFlags := 25, nameIndex := 290, descriptorIndex := 25, attributes := #[] }, { accessFlags := 25, nameIndex := 292, descriptorIndex := 25, attributes := #[] }, { accessFlags := 26, nameIndex := 108, descriptorIndex := 109, attributes := #[] }, { accessFlags := 25, nameIndex := 294, descriptorIndex := 25, attributes := #[] }])
  fields := #[{ name := "U", type := (.object "jdk/internal/misc/Unsafe"), accessFlags := 24, slot := 0, constantValue := 0 }, { name := "BIG_ENDIAN", type := .boolean, accessFlags := 26, slot := 1, constantValue := 0 }, { name := "LOG2_ARRAY_BOOLEAN_INDEX_SCALE", type := .int, accessFlags := 25, slot := 2, constantValue := 0 }, { name := "LOG2_ARRAY_BYTE_INDEX_SCALE", type := .int, accessFlags := 25, slot := 3, constantValue := 0 }, { name := "LOG2_ARRAY_CHAR_INDEX_SCALE", type := .int, accessFlags := 25, slot := 4, constantValue := 0 }, { name := "LOG2_ARRAY_SHORT_INDEX_SCALE", type := .int, accessFlags := 25, slot := 5, constantValue := 0 }, { name := "LOG2_ARRAY_INT_INDEX_SCALE", type := .int, accessFlags := 25, slot := 6, constantValue := 0 }, { name := "LOG2_ARRAY_LONG_INDEX_SCALE", type := .int, accessFlags := 25, slot := 7, constantValue := 0 }, { name := "LOG2_ARRAY_FLOAT_INDEX_SCALE", type := .int, accessFlags := 25, slot := 8, constantValue := 0 }, { name := "LOG2_ARRAY_DOUBLE_INDEX_SCALE", type := .int, accessFlags := 25, slot := 9, constantValue := 0 }, { name := "LOG2_BYTE_BIT_SIZE", type := .int, accessFlags := 26, slot := 10, constantValue := 0 }, { name := "T_BOOLEAN", type := .int, accessFlags := 25, slot := 11, constantValue := 0 }, { name := "T_CHAR", type := .int, accessFlags := 25, slot := 12, constantValue := 0 }, { name := "T_FLOAT", type := .int, accessFlags := 25, slot := 13, constantValue := 0 }, { name := "T_DOUBLE", type := .int, accessFlags := 25, slot := 14, constantValue := 0 }, { name := "T_BYTE", type := .int, accessFlags := 25, slot := 15, constantValue := 0 }, { name := "T_SHORT", type := .int, accessFlags := 25, slot := 16, constantValue := 0 }, { name := "T_INT", type := .int, accessFlags := 25, slot := 17, constantValue := 0 }, { name := "T_LONG", type := .int, accessFlags := 25, slot := 18, constantValue := 0 }, { name := "JLA", type := (.object "jdk/internal/access/JavaLangAccess"), accessFlags := 26, slot := 19, constantValue := 0 }, { name := "SOFT_MAX_ARRAY_LENGTH", type := .int, accessFlags := 25, slot := 20, constantValue := 0 }]
  methods := #[k14m0]
  instanceTypes := #[]
  staticTypes := #[(.object "jdk/internal/misc/Unsafe"), .boolean, .int, .int, .int, .int, .int, .int, .int, .int, .int, .int, .int, .int, .int, .int, .int, .int, .int, (.object "jdk/internal/access/JavaLangAccess"), .int]
  resolved := Array.replicate 378 none
  statics := none }

def pool15 : Array CpInfo := pool [(1, u "java/lang/Cloneable"), (0, .class_ 1), (0, u "java/lang/Object"), (0, .class_ 3)] 3

/-- java/lang/Cloneable -/
def k15 : Class := { plain "java/lang/Cloneable" (some 0) with
  accessFlags := 1537
  interfaces := #[]
  cf := some (fileOf pool15 2 #[] #[] 1537 4 #[] #[])
  fields := #[]
  methods := #[]
  instanceTypes := #[]
  staticTypes := #[]
  resolved := Array.replicate 8 none
  statics := none }

/-- the primitive byte -/
def k16 : Class := { plain "byte" none with kind := .primitive 'B', accessFlags := 0x411 }
/-- [B -/
def k17 : Class := { plain "[B" (some 0) with kind := .array 16 .byte, interfaces := #[15, 4], accessFlags := 1041 }

/-- the primitive char -/
def k18 : Class := { plain "char" none with kind := .primitive 'C', accessFlags := 0x411 }
/-- [C -/
def k19 : Class := { plain "[C" (some 0) with kind := .array 18 .char, interfaces := #[15, 4], accessFlags := 1041 }

/-- the primitive int -/
def k20 : Class := { plain "int" none with kind := .primitive 'I', accessFlags := 0x411 }
/-- [I -/
def k21 : Class := { plain "[I" (some 0) with kind := .array 20 .int, interfaces := #[15, 4], accessFlags := 1041 }

def heap : Heap := #[{ cls := 6, slots := #[.ref 3, .ref 4, .ref 5, .ref 6, .ref 7, .ref 8, .ref 9, .null], vm := .statics 6 },
  { cls := 9, slots := #[.long 0, .int 1, .null, .int 0, .null, .int 0, .int 0], vm := .statics 9 },
  { cls := 13, slots := #[.null, .null, .null], vm := .statics 13 },
  { cls := 6, slots := #[.null, .int 0, .int 0, .null, .null], vm := .none },
  { cls := 6, slots := #[.null, .int 1, .int 0, .null, .null], vm := .none },
  { cls := 6, slots := #[.null, .int 2, .int 0, .null, .null], vm := .none },
  { cls := 6, slots := #[.null, .int 3, .int 0, .null, .null], vm := .none },
  { cls := 6, slots := #[.null, .int 4, .int 0, .null, .null], vm := .none },
  { cls := 6, slots := #[.null, .int 5, .int 0, .null, .null], vm := .none },
  { cls := 6, slots := #[.null, .int 6, .int 0, .null, .null], vm := .none }]
def classes : Array Class := #[k0, k1, k2, k3, k4, k5, k6, k7, k8, k9, k10, k11, k12, k13, k14, k15, k16, k17, k18, k19, k20, k21]
def interned : List (Array UInt16 × Addr) := []
def slotsUsed : Nat := 53
def theMethod : MethodId := ⟨1, 3⟩
def args0 : Array Value := #[.int 5, .int 7, .long 3, .long 5, .int 1]
def aboutOver (below : List Frame) : State where
  vm := { classes := classes, interned := interned.toArray }
  heap := heap
  slotsUsed := slotsUsed
  threads := #[{ frames := .invoking theMethod args0 :: below }]
def below0 : List Frame := [.native { method := ⟨0, 0⟩, args := #[] }]
def about1 : State := aboutOver below0
def p0 : Program := .bare "" "" ""
def e0 : Env := launch0.env 0 0 0
theorem w_frames : about1.frames = Frame.invoking theMethod args0 :: below0 := rfl
set_option maxRecDepth 65536 in
theorem w_args : argsFit about1.vm theMethod args0 = true := by decide +kernel
set_option maxRecDepth 65536 in
theorem w_heap : heapFits about1 = true := by decide +kernel
set_option maxRecDepth 65536 in
theorem w_runnable : about1.curStatus? = some .runnable := by decide +kernel
set_option maxRecDepth 65536 in
theorem w_alone : about1.alone = true := by decide +kernel
set_option maxRecDepth 65536 in
theorem w_named : about1.methodNamed? x = some theMethod := by decide +kernel
set_option maxRecDepth 65536 in
theorem w_hears : about1.hears theMethod below0 = true := by decide +kernel
set_option maxRecDepth 65536 in
theorem w_ripe : about1.ripe theMethod args0 below0 = true := by decide +kernel
theorem w_running : about1.status = .running := rfl
set_option maxRecDepth 65536 in
theorem w_room : about1.hasRoom e0.platform room_1 = true :=
  launch0.hasRoom_least _ room_1 (by decide +kernel) (by decide +kernel) (by decide +kernel) (by decide +kernel) (by decide +kernel) (by decide +kernel)
theorem allAtoms_all (ts : List Jvm.Cond) (a : Array Jvm.Value) (st : Jvm.State) : (allAtoms ts).before a st = ts.all (fun c => c.before a st) := by
  induction ts with
  | nil => rfl
  | cons c t ih =>
    show (Jvm.Cond.and c (allAtoms t)).before a st = _
    rw [Jvm.Cond.before_and, ih, List.all_cons]
def words1 : List Jvm.Cond := Jvm.Cond.code x code maxLocals ret :: tables_1
/-- a 'code' word, met by the world's own term for the bytes: nothing is compared byte by byte -/
theorem code_word {y : MethodName} {bytes : ByteArray} {mx : Nat} {rt : Option FieldType} {a : Array Value} {s : State} {m : MethodId} {meth : Method} {c : Code} (h1 : s.methodNamed? y = some m) (h2 : s.vm.method? m = some meth) (h3 : meth.code = some c) (h4 : c.code = bytes)
    (h5 : (c.maxLocals == mx && c.exceptionTable.isEmpty && decide (c.maxStack ≤ mostOperands) && decide (meth.sig.returnType = rt) && !meth.locks && decide (parseMethodDescriptor y.desc = some meth.sig)) = true) : (Jvm.Cond.code y bytes mx rt).before a s = true := by
  simp only [Bool.and_eq_true, beq_iff_eq, Bool.not_eq_true', decide_eq_true_eq] at h5
  obtain ⟨⟨⟨⟨⟨g1, g2⟩, g3⟩, g4⟩, g5⟩, g6⟩ := h5
  simp [Cond.before, Cond.holds, Cond.value, h1, h2, h3, h4, g1, g2, g3, g4, g5, g6]
def isCode : Jvm.Cond → Bool
  | .code _ _ _ _ => true
  | _ => false
theorem all_split {L : List Jvm.Cond} {P : Jvm.Cond → Bool} (h1 : L.all (fun c => isCode c || P c) = true) (h2 : ∀ c ∈ L.filter isCode, P c = true) : L.all P = true := by
  refine List.all_eq_true.mpr fun c hc => ?_
  have h := List.all_eq_true.mp h1 c hc
  rcases Bool.eq_false_or_eq_true (isCode c) with hi | hi
  · exact h2 c (List.mem_filter.mpr ⟨hc, hi⟩)
  · simpa [hi] using h
set_option maxRecDepth 65536 in
theorem w_c0 : (Jvm.Cond.code x code maxLocals ret).before args0 about1 = true := code_word (m := ⟨1, 3⟩) (meth := k1m3) (c := k1c3) (by decide +kernel) rfl rfl rfl (by decide +kernel)
set_option maxRecDepth 65536 in
theorem w_c1 : (Jvm.Cond.code ({ cls := "com/example/lieudit/lieudit/FindingEqualsPinLaw", name := "rule", desc := "(I)Lcom/example/lieudit/lieudit/Rule;" } : Jvm.MethodName) method_2_code (1 : Nat) (Option.some (Jvm.ClassFile.FieldType.object "com/example/lieudit/lieudit/Rule"))).before args0 about1 = true := code_word (m := ⟨1, 1⟩) (meth := k1m1) (c := k1c1) (by decide +kernel) rfl rfl rfl (by decide +kernel)
set_option maxRecDepth 65536 in
theorem w_c2 : (Jvm.Cond.code ({ cls := "com/example/lieudit/lieudit/FindingEqualsPinLaw", name := "text", desc := "(ICCC)Ljava/lang/String;" } : Jvm.MethodName) method_3_code (4 : Nat) (Option.some (Jvm.ClassFile.FieldType.object "java/lang/String"))).before args0 about1 = true := code_word (m := ⟨1, 2⟩) (meth := k1m2) (c := k1c2) (by decide +kernel) rfl rfl rfl (by decide +kernel)
set_option maxRecDepth 65536 in
theorem w_c3 : (Jvm.Cond.code ({ cls := "java/lang/String", name := "valueOf", desc := "(C)Ljava/lang/String;" } : Jvm.MethodName) jdk_42_method_139_code (1 : Nat) (Option.some (Jvm.ClassFile.FieldType.object "java/lang/String"))).before args0 about1 = true := code_word (m := ⟨9, 3⟩) (meth := k9m3) (c := k9c3) (by decide +kernel) rfl rfl rfl (by decide +kernel)
set_option maxRecDepth 65536 in
theorem w_c4 : (Jvm.Cond.code ({ cls := "java/lang/StringLatin1", name := "canEncode", desc := "(C)Z" } : Jvm.MethodName) jdk_43_method_3_code (1 : Nat) (Option.some Jvm.ClassFile.FieldType.boolean)).before args0 about1 = true := code_word (m := ⟨10, 1⟩) (meth := k10m1) (c := k10c1) (by decide +kernel) rfl rfl rfl (by decide +kernel)
set_option maxRecDepth 65536 in
theorem w_c5 : (Jvm.Cond.code ({ cls := "java/lang/StringLatin1", name := "toBytes", desc := "(C)[B" } : Jvm.MethodName) jdk_43_method_46_code (1 : Nat) (Option.some (Jvm.ClassFile.FieldType.array Jvm.ClassFile.FieldType.byte))).before args0 about1 = true := code_word (m := ⟨10, 3⟩) (meth := k10m3) (c := k10c3) (by decide +kernel) rfl rfl rfl (by decide +kernel)
set_option maxRecDepth 65536 in
theorem w_c6 : (Jvm.Cond.code ({ cls := "java/lang/String", name := "<init>", desc := "([BB)V" } : Jvm.MethodName) jdk_42_method_151_code (3 : Nat) (Option.none : Option Jvm.ClassFile.FieldType)).before args0 about1 = true := code_word (m := ⟨9, 5⟩) (meth := k9m5) (c := k9c5) (by decide +kernel) rfl rfl rfl (by decide +kernel)
set_option maxRecDepth 65536 in
theorem w_c7 : (Jvm.Cond.code ({ cls := "java/lang/Object", name := "<init>", desc := "()V" } : Jvm.MethodName) object_method_1_code (1 : Nat) (Option.none : Option Jvm.ClassFile.FieldType)).before args0 about1 = true := code_word (m := ⟨0, 0⟩) (meth := k0m0) (c := k0c0) (by decide +kernel) rfl rfl rfl (by decide +kernel)
set_option maxRecDepth 65536 in
theorem w_c8 : (Jvm.Cond.code ({ cls := "java/lang/String", name := "<init>", desc := "([C)V" } : Jvm.MethodName) jdk_42_method_3_code (2 : Nat) (Option.none : Option Jvm.ClassFile.FieldType)).before args0 about1 = true := code_word (m := ⟨9, 1⟩) (meth := k9m1) (c := k9c1) (by decide +kernel) rfl rfl rfl (by decide +kernel)
set_option maxRecDepth 65536 in
theorem w_c9 : (Jvm.Cond.code ({ cls := "java/lang/String", name := "<init>", desc := "([CIILjava/lang/Void;)V" } : Jvm.MethodName) jdk_42_method_149_code (6 : Nat) (Option.none : Option Jvm.ClassFile.FieldType)).before args0 about1 = true := code_word (m := ⟨9, 4⟩) (meth := k9m4) (c := k9c4) (by decide +kernel) rfl rfl rfl (by decide +kernel)
set_option maxRecDepth 65536 in
theorem w_c10 : (Jvm.Cond.code ({ cls := "com/example/lieudit/lieudit/Finding", name := "<init>", desc := "(Lcom/example/lieudit/lieudit/Rule;Ljava/lang/String;)V" } : Jvm.MethodName) prog_10_method_1_code (3 : Nat) (Option.none : Option Jvm.ClassFile.FieldType)).before args0 about1 = true := code_word (m := ⟨11, 0⟩) (meth := k11m0) (c := k11c0) (by decide +kernel) rfl rfl rfl (by decide +kernel)
set_option maxRecDepth 65536 in
theorem w_c11 : (Jvm.Cond.code ({ cls := "com/example/lieudit/lieudit/Finding", name := "equals", desc := "(Ljava/lang/Object;)Z" } : Jvm.MethodName) prog_10_method_7_code (3 : Nat) (Option.some Jvm.ClassFile.FieldType.boolean)).before args0 about1 = true := code_word (m := ⟨11, 1⟩) (meth := k11m1) (c := k11c1) (by decide +kernel) rfl rfl rfl (by decide +kernel)
set_option maxRecDepth 65536 in
theorem w_c12 : (Jvm.Cond.code ({ cls := "java/lang/StringUTF16", name := "compress", desc := "([CII)[B" } : Jvm.MethodName) jdk_52_method_16_code (6 : Nat) (Option.some (Jvm.ClassFile.FieldType.array Jvm.ClassFile.FieldType.byte))).before args0 about1 = true := code_word (m := ⟨12, 2⟩) (meth := k12m2) (c := k12c2) (by decide +kernel) rfl rfl rfl (by decide +kernel)
set_option maxRecDepth 65536 in
theorem w_c13 : (Jvm.Cond.code ({ cls := "java/lang/StringUTF16", name := "compress", desc := "([CI[BII)I" } : Jvm.MethodName) jdk_52_method_21_code (7 : Nat) (Option.some Jvm.ClassFile.FieldType.int)).before args0 about1 = true := code_word (m := ⟨12, 3⟩) (meth := k12m3) (c := k12c3) (by decide +kernel) rfl rfl rfl (by decide +kernel)
set_option maxRecDepth 65536 in
theorem w_c14 : (Jvm.Cond.code ({ cls := "java/lang/StringUTF16", name := "coderFromArrayLen", desc := "([BI)B" } : Jvm.MethodName) jdk_52_method_15_code (2 : Nat) (Option.some Jvm.ClassFile.FieldType.byte)).before args0 about1 = true := code_word (m := ⟨12, 1⟩) (meth := k12m1) (c := k12c1) (by decide +kernel) rfl rfl rfl (by decide +kernel)
set_option maxRecDepth 65536 in
theorem w_c15 : (Jvm.Cond.code ({ cls := "java/lang/String", name := "equals", desc := "(Ljava/lang/Object;)Z" } : Jvm.MethodName) jdk_42_method_66_code (3 : Nat) (Option.some Jvm.ClassFile.FieldType.boolean)).before args0 about1 = true := code_word (m := ⟨9, 2⟩) (meth := k9m2) (c := k9c2) (by decide +kernel) rfl rfl rfl (by decide +kernel)
set_option maxRecDepth 65536 in
theorem w_c16 : (Jvm.Cond.code ({ cls := "java/lang/StringLatin1", name := "equals", desc := "([B[B)Z" } : Jvm.MethodName) jdk_43_method_13_code (3 : Nat) (Option.some Jvm.ClassFile.FieldType.boolean)).before args0 about1 = true := code_word (m := ⟨10, 2⟩) (meth := k10m2) (c := k10c2) (by decide +kernel) rfl rfl rfl (by decide +kernel)
def codes1 : List Jvm.Cond := [Jvm.Cond.code x code maxLocals ret, Jvm.Cond.code ({ cls := "com/example/lieudit/lieudit/FindingEqualsPinLaw", name := "rule", desc := "(I)Lcom/example/lieudit/lieudit/Rule;" } : Jvm.MethodName) method_2_code (1 : Nat) (Option.some (Jvm.ClassFile.FieldType.object "com/example/lieudit/lieudit/Rule")), Jvm.Cond.code ({ cls := "com/example/lieudit/lieudit/FindingEqualsPinLaw", name := "text", desc := "(ICCC)Ljava/lang/String;" } : Jvm.MethodName) method_3_code (4 : Nat) (Option.some (Jvm.ClassFile.FieldType.object "java/lang/String")), Jvm.Cond.code ({ cls := "java/lang/String", name := "valueOf", desc := "(C)Ljava/lang/String;" } : Jvm.MethodName) jdk_42_method_139_code (1 : Nat) (Option.some (Jvm.ClassFile.FieldType.object "java/lang/String")), Jvm.Cond.code ({ cls := "java/lang/StringLatin1", name := "canEncode", desc := "(C)Z" } : Jvm.MethodName) jdk_43_method_3_code (1 : Nat) (Option.some Jvm.ClassFile.FieldType.boolean), Jvm.Cond.code ({ cls := "java/lang/StringLatin1", name := "toBytes", desc := "(C)[B" } : Jvm.MethodName) jdk_43_method_46_code (1 : Nat) (Option.some (Jvm.ClassFile.FieldType.array Jvm.ClassFile.FieldType.byte)), Jvm.Cond.code ({ cls := "java/lang/String", name := "<init>", desc := "([BB)V" } : Jvm.MethodName) jdk_42_method_151_code (3 : Nat) (Option.none : Option Jvm.ClassFile.FieldType), Jvm.Cond.code ({ cls := "java/lang/Object", name := "<init>", desc := "()V" } : Jvm.MethodName) object_method_1_code (1 : Nat) (Option.none : Option Jvm.ClassFile.FieldType), Jvm.Cond.code ({ cls := "java/lang/String", name := "<init>", desc := "([C)V" } : Jvm.MethodName) jdk_42_method_3_code (2 : Nat) (Option.none : Option Jvm.ClassFile.FieldType), Jvm.Cond.code ({ cls := "java/lang/String", name := "<init>", desc := "([CIILjava/lang/Void;)V" } : Jvm.MethodName) jdk_42_method_149_code (6 : Nat) (Option.none : Option Jvm.ClassFile.FieldType), Jvm.Cond.code ({ cls := "com/example/lieudit/lieudit/Finding", name := "<init>", desc := "(Lcom/example/lieudit/lieudit/Rule;Ljava/lang/String;)V" } : Jvm.MethodName) prog_10_method_1_code (3 : Nat) (Option.none : Option Jvm.ClassFile.FieldType), Jvm.Cond.code ({ cls := "com/example/lieudit/lieudit/Finding", name := "equals", desc := "(Ljava/lang/Object;)Z" } : Jvm.MethodName) prog_10_method_7_code (3 : Nat) (Option.some Jvm.ClassFile.FieldType.boolean), Jvm.Cond.code ({ cls := "java/lang/StringUTF16", name := "compress", desc := "([CII)[B" } : Jvm.MethodName) jdk_52_method_16_code (6 : Nat) (Option.some (Jvm.ClassFile.FieldType.array Jvm.ClassFile.FieldType.byte)), Jvm.Cond.code ({ cls := "java/lang/StringUTF16", name := "compress", desc := "([CI[BII)I" } : Jvm.MethodName) jdk_52_method_21_code (7 : Nat) (Option.some Jvm.ClassFile.FieldType.int), Jvm.Cond.code ({ cls := "java/lang/StringUTF16", name := "coderFromArrayLen", desc := "([BI)B" } : Jvm.MethodName) jdk_52_method_15_code (2 : Nat) (Option.some Jvm.ClassFile.FieldType.byte), Jvm.Cond.code ({ cls := "java/lang/String", name := "equals", desc := "(Ljava/lang/Object;)Z" } : Jvm.MethodName) jdk_42_method_66_code (3 : Nat) (Option.some Jvm.ClassFile.FieldType.boolean), Jvm.Cond.code ({ cls := "java/lang/StringLatin1", name := "equals", desc := "([B[B)Z" } : Jvm.MethodName) jdk_43_method_13_code (3 : Nat) (Option.some Jvm.ClassFile.FieldType.boolean)]
set_option maxRecDepth 65536 in
theorem codes_eq : words1.filter isCode = codes1 := rfl
theorem w_codes : ∀ c ∈ words1.filter isCode, c.before args0 about1 = true := by
  rw [codes_eq]
  intro c hc
  simp only [codes1, List.mem_cons, List.not_mem_nil, or_false] at hc
  rcases hc with rfl | rfl | rfl | rfl | rfl | rfl | rfl | rfl | rfl | rfl | rfl | rfl | rfl | rfl | rfl | rfl | rfl
  · exact w_c0
  · exact w_c1
  · exact w_c2
  · exact w_c3
  · exact w_c4
  · exact w_c5
  · exact w_c6
  · exact w_c7
  · exact w_c8
  · exact w_c9
  · exact w_c10
  · exact w_c11
  · exact w_c12
  · exact w_c13
  · exact w_c14
  · exact w_c15
  · exact w_c16
set_option maxRecDepth 65536 in
theorem w_t1 : (words1.take 24).all (fun c => isCode c || c.before args0 about1) = true := by decide +kernel
set_option maxRecDepth 65536 in
theorem w_t2 : ((words1.drop 24).take 24).all (fun c => isCode c || c.before args0 about1) = true := by decide +kernel
set_option maxRecDepth 65536 in
theorem w_t3 : (((words1.drop 24).drop 24).take 24).all (fun c => isCode c || c.before args0 about1) = true := by decide +kernel
set_option maxRecDepth 65536 in
theorem w_t4 : ((((words1.drop 24).drop 24).drop 24).take 24).all (fun c => isCode c || c.before args0 about1) = true := by decide +kernel
set_option maxRecDepth 65536 in
theorem w_t5 : ((((words1.drop 24).drop 24).drop 24).drop 24).all (fun c => isCode c || c.before args0 about1) = true := by decide +kernel
theorem w_tables : (allAtoms (Jvm.Cond.code x code maxLocals ret :: tables_1)).before args0 about1 = true := by
  rw [allAtoms_all]
  show words1.all (fun c => c.before args0 about1) = true
  refine all_split ?_ w_codes
  rw [← List.take_append_drop 24 words1, List.all_append, w_t1, ← List.take_append_drop 24 (words1.drop 24), List.all_append, w_t2, ← List.take_append_drop 24 ((words1.drop 24).drop 24), List.all_append, w_t3, ← List.take_append_drop 24 (((words1.drop 24).drop 24).drop 24), List.all_append, w_t4, w_t5]
  rfl
set_option maxRecDepth 65536 in
theorem w_rest : rest_1_c.before args0 about1 = true := by decide +kernel
set_option maxRecDepth 65536 in
theorem w_case : (Jvm.Cond.and given_1 narrow_1).before args0 about1 = true := by decide +kernel
set_option maxRecDepth 65536 in
theorem w_consts : constsHeld consts_1 about1 := Jvm.Lit.constsHeldB_iff.mp (by decide +kernel)
theorem w_applies : (headSpec (Jvm.Cond.code x code maxLocals ret :: tables_1) room_1).applies x e0.platform about1 = true :=
  (Spec.applies_iff w_frames).mpr ⟨w_running, w_runnable, w_alone, w_named, w_hears, w_ripe, w_room, w_tables⟩
theorem atStart : AtStart classFile x code maxLocals ret World_1 tables_1 room_1 Calls_1 rest_1 Pre_1 launch0 p0 e0 about1 theMethod args0 below0 :=
  ⟨lists_1, trivial, launch0.admits_env _ _ _, launch0.least_env, fairChoices_fair.cas, fairChoices_fair.clock, w_frames, w_args, w_heap, w_applies, ⟨w_consts, trivial⟩, w_rest, w_case⟩
end start1
theorem witness_1 : WitnessClaimed_1 := ⟨start1.p0, start1.e0, start1.about1, start1.theMethod, start1.args0, start1.below0, start1.atStart⟩
end Jvm.Pilot.@@N@@
