import JvmDerived
import JvmDerived.Pilot.@@N@@Statement
import JvmDerived.Pilot.@@N@@Code
set_option linter.unusedVariables false
set_option linter.unusedSimpArgs false
namespace Jvm.Pilot.@@N@@
open Jvm Jvm.ClassFile Sem Op Lib Jvm.Free Jvm.Stand Jvm.LawKit Jvm.RoadKit Bundle Jvm.Pilot.@@N@@.Jvm.D
/-! the run of one body: Cx holds what is fixed while it runs -/
abbrev Cx : Type := Program × Env × State × MethodId × Array Value × List Frame × Method × Code
abbrev kp (K : Cx) : Program := K.1
abbrev ke (K : Cx) : Env := K.2.1
abbrev ks (K : Cx) : State := K.2.2.1
abbrev km (K : Cx) : MethodId := K.2.2.2.1
abbrev ka (K : Cx) : Array Value := K.2.2.2.2.1
abbrev kb (K : Cx) : List Frame := K.2.2.2.2.2.1
abbrev kt (K : Cx) : Method := K.2.2.2.2.2.2.1
abbrev kc (K : Cx) : Code := K.2.2.2.2.2.2.2
/-- what is returned: nothing where the method is void -/
def Rv (ret : Option FieldType) (w : Value) : Option Value := match ret with
  | none => none
  | some _ => some w
/-- the places written lie in 'ws' or are new -/
def Nw (h0 : Heap) (ws : List Addr) (L : List Loc) : Prop := ∀ x ∈ L, x.base ∈ ws ∨ h0.size ≤ x.base
theorem Nw.nil {h0 : Heap} {ws : List Addr} : Nw h0 ws [] := fun _ q => nomatch q
theorem Nw.app {h0 : Heap} {ws : List Addr} {L L' : List Loc} (a : Nw h0 ws L) (b : Nw h0 ws L') : Nw h0 ws (L ++ L') := fun x q => (List.mem_append.mp q).elim (a x) (b x)
theorem Nw.one {h0 : Heap} {ws : List Addr} {L : List Loc} {a : Addr} {i : Nat} (p : Nw h0 ws L) (q : a ∈ ws ∨ h0.size ≤ a) : Nw h0 ws (L ++ [⟨a, i⟩]) := p.app fun x hx => by cases List.mem_singleton.mp hx; exact q
theorem keep_same {s t : State} {L : List Loc} {k n : Nat} {h0 : Heap} {ws : List Addr} (F : s.sameButNew t L k n) (e : s.heap = h0) (N : Nw h0 ws L) : Keep h0 t.heap ws := by
  subst e
  obtain ⟨-, h2, -, -, -, h3⟩ := F
  refine ⟨h2, fun x c hc hx => ?_, fun x c hc => ?_⟩
  · obtain ⟨c', q1, q2, q3, q4⟩ := h3 x c hc
    have lt := (Array.getElem?_eq_some_iff.mp hc).1
    have : c'.slots = c.slots := Array.ext_getElem? fun i => q4 i fun hm => (N _ hm).elim hx fun q => Nat.not_lt.mpr q lt
    rw [q1, q2, this]
  · obtain ⟨c', q1, q2, q3, -⟩ := h3 x c hc
    exact ⟨c', q1, by rw [q2], by rw [q2], q3⟩
def Ok (Z : State) (n0 : Nat) (EL : List (String × Nat)) (mn : MethodName) (bytes : ByteArray) (ml : Nat) (ret : Option FieldType) (h0 : Heap) (ws : List Addr) (K : Cx) : Prop :=
  (kp K).tables.exec = Jvm.exec ∧ (kc K).code = bytes ∧ (kc K).maxLocals = ml ∧ (ks K).vm.findClass mn.cls = some (km K).cls ∧ (kt K).name = mn.name ∧ Z.Warmed39 (ks K).vm ∧ (kt K).sig.returnType = ret ∧ (kt K).locks = false ∧ (ks K).heap = h0 ∧ Old Z n0 h0 ∧ ∀ x ∈ ws, n0 ≤ x
/-- from the frame (pc, Ls, st), with the heap h, k cells and n slots made, the body's run ends, and Q holds of what it returns and of its last heap -/
def Go (l : Launch) (Z : State) (n0 : Nat) (EL : List (String × Nat)) (mn : MethodName) (bytes : ByteArray) (ml : Nat) (ret : Option FieldType) (R : Room) (h0 : Heap) (ws : List Addr) (fr : Bool) (Q : Value → Heap → Prop) (K : Cx) (sf : List Addr) (h : Heap) (k n pc : Nat) (Ls : Array Slot) (st : List Value) : Prop :=
  Ok Z n0 EL mn bytes ml ret h0 ws K → ∀ (T : State) (locs : List Loc), Stand (kp K) l (ke K) R (ks K) (km K) (ka K) (kb K) (kt K) (kc K) T locs k n → T.heap = h → Nw h0 ws locs →
    ∃ s₂ w L, Steps (kp K).tables (ke K) (kb K) (T.setTop (mkF (km K) pc Ls st)) s₂ ∧ s₂.status = .running ∧ Ended s₂ (kb K) (.returned (Rv ret w)) ∧ Q w s₂.heap ∧ Nw h0 ws L ∧ FrameEnd (ks K) (.returned (Rv ret w)) s₂ L R.cells R.slots
/-- a body's contract: called with 'as' at the heap h0 it returns, Q holds, and it writes none of the old cells but those in ws -/
def Con (l : Launch) (Z : State) (n0 : Nat) (EL : List (String × Nat)) (mn : MethodName) (bytes : ByteArray) (ml : Nat) (ret : Option FieldType) (wl : List Jvm.Cond) (R : Room) (as : Array Value) (h0 : Heap) (ws : List Addr) (fr : Bool) (Q : Value → Heap → Prop) : Prop :=
  Old Z n0 h0 → (∀ x ∈ ws, n0 ≤ x) → MetFree l mn (head1 (Jvm.Cond.code mn bytes ml ret :: wl) R) (fun a U => a = as ∧ Z.Warmed39 U.vm ∧ U.heap = h0) (fun _ _ _ _ _ => True)
    (fun _ U o U' => ∃ v L, o = .returned v ∧ ((∃ w, v = Rv ret w ∧ Q w U'.heap ∧ Keep h0 U'.heap ws) ∧ Nw h0 ws L) ∧ FrameEnd U o U' L R.cells R.slots)
section Base
variable {l : Launch} {Z : State} {n0 : Nat} {EL : List (String × Nat)} {mn : MethodName} {bytes : ByteArray} {ml : Nat} {ret : Option FieldType} {R : Room} {h0 : Heap} {ws : List Addr} {fr : Bool} {Q : Value → Heap → Prop} {K : Cx} {sf : List Addr} {h : Heap} {k n pc pc' : Nat} {Ls : Array Slot} {st : List Value} {a0 : Array Value}
theorem con_of {wl : List Jvm.Cond} {as : Array Value} (hp : plainFor mn = true) (hef : ∀ m, entryFrame m as ml = mkF m 0 Ls []) (G : ∀ K, Go l Z n0 EL mn bytes ml ret R h0 ws fr Q K ws h0 0 0 0 Ls []) : Con l Z n0 EL mn bytes ml ret wl R as h0 ws fr Q := by
  intro ho hws
  refine MetFree.of_bodySF hp hisR ?_
  intro p e s m args below meth c s₁ Bd hml0 hP hK
  obtain ⟨rfl, hZ, hh⟩ := hP
  have X0 := Stand.of_body Bd
  obtain ⟨s₂, w, L, h1, h2, h3, h4, h5, h6⟩ := G (p, e, s, m, args, below, meth, c) ⟨Bd.exec, Bd.bytes, hml0, findClass_of_methodNamed Bd.named, (name_of_methodNamed Bd.named Bd.method).1, hZ, Bd.returns, Bd.notSynchronized, hh, ho, hws⟩ s₁ [] X0 (by rw [← hh, Bd.state]; rfl) Nw.nil
  exact ⟨s₂, _, castTop (hef m) h1, h2, h3, _, L, rfl, ⟨⟨w, rfl, h4, (keep_same h6.2.2 hh h5 :)⟩, h5⟩, h6⟩
theorem con_mono {wl : List Jvm.Cond} {as : Array Value} {Q' : Value → Heap → Prop} (C : Con l Z n0 EL mn bytes ml ret wl R as h0 ws fr Q) (H : ∀ w h', Keep h0 h' ws → Q w h' → Q' w h') : Con l Z n0 EL mn bytes ml ret wl R as h0 ws fr Q' := by
  intro ho hws p e ha hc hk s m args below hf happ hP hK
  obtain ⟨n, o, h1, h2, h3, v, L, q1, ⟨⟨w, q2, q3, q4⟩, q5⟩, q6⟩ := C ho hws p e ha hc hk s m args below hf happ hP hK
  exact ⟨n, o, h1, h2, h3, v, L, q1, ⟨⟨w, q2, H w _ q4 q3, q4⟩, q5⟩, q6⟩
theorem old_at (ok : Ok Z n0 EL mn bytes ml ret h0 ws K) {T : State} {locs : List Loc} (X : Stand (kp K) l (ke K) R (ks K) (km K) (ka K) (kb K) (kt K) (kc K) T locs k n) (e : T.heap = h) (N : Nw h0 ws locs) : Old Z n0 h ∧ Keep h0 h ws := by
  obtain ⟨-, -, -, -, -, -, -, -, eh, ho, hws⟩ := ok
  have Kp : Keep h0 T.heap ws := (keep_same X.same eh N :)
  exact ⟨e ▸ ho.keep Kp hws, e ▸ Kp⟩
theorem go_old (G : Old Z n0 h → Keep h0 h ws → Go l Z n0 EL mn bytes ml ret R h0 ws fr Q K sf h k n pc Ls st) : Go l Z n0 EL mn bytes ml ret R h0 ws fr Q K sf h k n pc Ls st := fun ok T locs X e N =>
  G (old_at ok X e N).1 (old_at ok X e N).2 ok T locs X e N
theorem go_mono {k' n' : Nat} (hk : k ≤ k') (hn : n ≤ n') (G : Go l Z n0 EL mn bytes ml ret R h0 ws fr Q K sf h k' n' pc Ls st) : Go l Z n0 EL mn bytes ml ret R h0 ws fr Q K sf h k n pc Ls st := fun ok T locs X e N =>
  G ok T locs { X with same := X.same.mono hk hn } e N
theorem go_sf {sf' : List Addr} (hs : ∀ x ∈ sf', x ∈ sf) (G : Go l Z n0 EL mn bytes ml ret R h0 ws fr Q K sf' h k n pc Ls st) : Go l Z n0 EL mn bytes ml ret R h0 ws fr Q K sf h k n pc Ls st := G
theorem go_add {a : Addr} (hE : EL = []) (ha : a < h.size) (G : Go l Z n0 EL mn bytes ml ret R h0 ws fr Q K (a :: sf) h k n pc Ls st) : Go l Z n0 EL mn bytes ml ret R h0 ws fr Q K sf h k n pc Ls st := G
theorem g_pure {Ls' : Array Slot} {st' : List Value} (S : ∀ T t, At T (km K) (kc K) (kb K) → (kp K).tables.exec = Jvm.exec → Steps (kp K).tables (ke K) (kb K) (T.setTop (mkF (km K) pc' Ls' st')) t → (kc K).code = bytes → Steps (kp K).tables (ke K) (kb K) (T.setTop (mkF (km K) pc Ls st)) t)
    (G : Go l Z n0 EL mn bytes ml ret R h0 ws fr Q K sf h k n pc' Ls' st') : Go l Z n0 EL mn bytes ml ret R h0 ws fr Q K sf h k n pc Ls st := fun ok T locs X e N => by
  obtain ⟨s₂, w, L, h1, r⟩ := G ok T locs X e N
  exact ⟨s₂, w, L, S T _ X.here ok.1 h1 ok.2.1, r⟩
theorem g_law {Ls' : Array Slot} {st' : List Value} (S : ∀ (s' T : State) (locs : List Loc), (kp K).tables.exec = Jvm.exec → (kc K).code = bytes → (kc K).maxLocals = ml → s'.vm.findClass mn.cls = some (km K).cls → (kt K).name = mn.name → Z.Warmed39 s'.vm → Stand (kp K) l (ke K) R s' (km K) (ka K) (kb K) (kt K) (kc K) T locs k n → T.heap = h → Old Z n0 h → ∃ T', Stand (kp K) l (ke K) R s' (km K) (ka K) (kb K) (kt K) (kc K) T' locs k n ∧ T'.heap = h ∧ ∀ t, Steps (kp K).tables (ke K) (kb K) (T'.setTop (mkF (km K) pc' Ls' st')) t → Steps (kp K).tables (ke K) (kb K) (T.setTop (mkF (km K) pc Ls st)) t)
    (G : Go l Z n0 EL mn bytes ml ret R h0 ws fr Q K sf h k n pc' Ls' st') : Go l Z n0 EL mn bytes ml ret R h0 ws fr Q K sf h k n pc Ls st := fun ok T locs X e N => by
  obtain ⟨T', X', e', S'⟩ := S (ks K) T locs ok.1 ok.2.1 ok.2.2.1 ok.2.2.2.1 ok.2.2.2.2.1 ok.2.2.2.2.2.1 X e (old_at ok X e N).1
  obtain ⟨s₂, w, L, h1, r⟩ := G ok T' locs X' e' N
  exact ⟨s₂, w, L, S' _ h1, r⟩
theorem g_wr {a : Addr} {i : Nat} {v : Value} {Ls' : Array Slot} {st' : List Value} (S : ∀ (s' T : State) (locs : List Loc), (kp K).tables.exec = Jvm.exec → (kc K).code = bytes → (kc K).maxLocals = ml → s'.vm.findClass mn.cls = some (km K).cls → (kt K).name = mn.name → Z.Warmed39 s'.vm → Stand (kp K) l (ke K) R s' (km K) (ka K) (kb K) (kt K) (kc K) T locs k n → T.heap = h → Old Z n0 h → ∃ T' h', Stand (kp K) l (ke K) R s' (km K) (ka K) (kb K) (kt K) (kc K) T' (locs ++ [⟨a, i⟩]) k n ∧ T'.heap = h' ∧ Wr h h' a i v ∧ ∀ t, Steps (kp K).tables (ke K) (kb K) (T'.setTop (mkF (km K) pc' Ls' st')) t → Steps (kp K).tables (ke K) (kb K) (T.setTop (mkF (km K) pc Ls st)) t)
    (hin : a ∈ ws ∨ h0.size ≤ a) (hsf : a ∈ sf) (G : ∀ h', Wr h h' a i v → Go l Z n0 EL mn bytes ml ret R h0 ws fr Q K sf h' k n pc' Ls' st') : Go l Z n0 EL mn bytes ml ret R h0 ws fr Q K sf h k n pc Ls st := fun ok T locs X e N => by
  obtain ⟨T', h', X', e', W, S'⟩ := S (ks K) T locs ok.1 ok.2.1 ok.2.2.1 ok.2.2.2.1 ok.2.2.2.2.1 ok.2.2.2.2.2.1 X e (old_at ok X e N).1
  obtain ⟨s₂, w, L, h1, r⟩ := G h' W ok T' _ X' e' (N.one hin)
  exact ⟨s₂, w, L, S' _ h1, r⟩
theorem g_ext {P : Heap → Prop} {k' n' : Nat} {Ls' : Array Slot} {st' : List Value} (S : ∀ (s' T : State) (locs : List Loc), (kp K).tables.exec = Jvm.exec → (kc K).code = bytes → (kc K).maxLocals = ml → s'.vm.findClass mn.cls = some (km K).cls → (kt K).name = mn.name → Z.Warmed39 s'.vm → Stand (kp K) l (ke K) R s' (km K) (ka K) (kb K) (kt K) (kc K) T locs k n → T.heap = h → Old Z n0 h → ∃ T' h', Stand (kp K) l (ke K) R s' (km K) (ka K) (kb K) (kt K) (kc K) T' locs k' n' ∧ T'.heap = h' ∧ Ext h h' ∧ h.size < h'.size ∧ P h' ∧ ∀ t, Steps (kp K).tables (ke K) (kb K) (T'.setTop (mkF (km K) pc' Ls' st')) t → Steps (kp K).tables (ke K) (kb K) (T.setTop (mkF (km K) pc Ls st)) t)
    (G : ∀ h', Ext h h' → P h' → h0.size ≤ h.size → Go l Z n0 EL mn bytes ml ret R h0 ws fr Q K (h.size :: sf) h' k' n' pc' Ls' st') : Go l Z n0 EL mn bytes ml ret R h0 ws fr Q K sf h k n pc Ls st := fun ok T locs X e N => by
  have hsz := (old_at ok X e N).2.1
  obtain ⟨T', h', X', e', E, -, p, S'⟩ := S (ks K) T locs ok.1 ok.2.1 ok.2.2.1 ok.2.2.2.1 ok.2.2.2.2.1 ok.2.2.2.2.2.1 X e (old_at ok X e N).1
  obtain ⟨s₂, w, L, h1, r⟩ := G h' E p hsz ok T' _ X' e' N
  exact ⟨s₂, w, L, S' _ h1, r⟩
theorem g_ret {w : Value} (S : ∀ (s' T : State) (locs : List Loc), (kp K).tables.exec = Jvm.exec → (kc K).code = bytes → Stand (kp K) l (ke K) R s' (km K) (ka K) (kb K) (kt K) (kc K) T locs k n → (kt K).sig.returnType = ret → ∀ fs, (∀ (f : JFrame) (acts : List Action), f.method = km K → f.locked = none → f.entered = [] → (doReturn (ke K) (T.setTop f) acts (Rv ret w)).1 = T.setFrames fs) → Steps (kp K).tables (ke K) (kb K) (T.setTop (mkF (km K) pc Ls st)) (T.setFrames fs))
    (hq : Q w h) (hfr : fr = true → ∀ a, w = .ref a → a ∈ sf) (hk : k ≤ R.cells) (hn : n ≤ R.slots) : Go l Z n0 EL mn bytes ml ret R h0 ws fr Q K sf h k n pc Ls st := fun ok T locs X e N => by
  obtain ⟨hx, hb, -, -, -, -, hret, hlk, -⟩ := ok
  obtain ⟨fs, hl, hrun, hended, hW, hsame⟩ := X.leave (v := Rv ret w) (fun q => by rw [hret] at q; subst q; rfl) hlk
  exact ⟨_, w, locs, S (ks K) T locs hx hb X hret fs hl, hrun, hended, e ▸ hq, N, ⟨_, rfl⟩, hW, hsame.mono hk hn⟩
theorem g_call {kc' nc : Nat} {rest : List Value} {wsb : List Addr} {Qc : Option Value → Heap → List Loc → Prop} (S : ∀ (s' T : State) (locs : List Loc), (kp K).tables.exec = Jvm.exec → (kc K).code = bytes → (kc K).maxLocals = ml → s'.vm.findClass mn.cls = some (km K).cls → (kt K).name = mn.name → Z.Warmed39 s'.vm → Stand (kp K) l (ke K) R s' (km K) (ka K) (kb K) (kt K) (kc K) T locs k n → T.heap = h → Old Z n0 h → Keep h0 h ws → ∃ v T' L, Stand (kp K) l (ke K) R s' (km K) (ka K) (kb K) (kt K) (kc K) T' (locs ++ L) (k + kc') (n + nc) ∧ Qc v T'.heap L ∧ ∀ t, Steps (kp K).tables (ke K) (kb K) (T'.setTop (mkF (km K) pc' Ls (v.toList ++ rest))) t → Steps (kp K).tables (ke K) (kb K) (T.setTop (mkF (km K) pc Ls st)) t)
    (hQ : Keep h0 h ws → ∀ v h' L, Qc v h' L → Nw h0 ws L ∧ Keep h h' wsb) (hsf : ∀ x ∈ wsb, x ∈ sf) (G : ∀ v h' L, Qc v h' L → Go l Z n0 EL mn bytes ml ret R h0 ws fr Q K sf h' (k + kc') (n + nc) pc' Ls (v.toList ++ rest)) : Go l Z n0 EL mn bytes ml ret R h0 ws fr Q K sf h k n pc Ls st := fun ok T locs X e N => by
  obtain ⟨ho, hKp⟩ := old_at ok X e N
  obtain ⟨v, T', L, X', hq, S'⟩ := S (ks K) T locs ok.1 ok.2.1 ok.2.2.1 ok.2.2.2.1 ok.2.2.2.2.1 ok.2.2.2.2.2.1 X e ho hKp
  obtain ⟨s₂, w, L2, h1, r⟩ := G v _ L hq ok T' _ X' rfl (N.app (hQ hKp _ _ _ hq).1)
  exact ⟨s₂, w, L2, S' _ h1, r⟩
end Base
section Rules
variable {l : Launch} {Z : State} {n0 : Nat} {EL : List (String × Nat)} {mn : MethodName} {bytes : ByteArray} {ml : Nat} {ret : Option FieldType} {R : Room} {h0 : Heap} {ws : List Addr} {fr : Bool} {Q : Value → Heap → Prop} {K : Cx} {sf : List Addr} {h : Heap} {k n pc pc' : Nat} {Ls : Array Slot} {st : List Value} {a0 : Array Value}
theorem g_iadd {x y v : Int32} (hd : decode bytes pc = .ok (.iadd, 1)) (hv : x + y = v) (hp : pc + 1 = pc') (G : Go l Z n0 EL mn bytes ml ret R h0 ws fr Q K sf h k n pc' Ls (.int v :: st)) : Go l Z n0 EL mn bytes ml ret R h0 ws fr Q K sf h k n pc Ls (.int y :: .int x :: st) :=
  g_pure (fun T t H hx k e => by subst hp e hv; exact XS.iadd H hx rfl hd rfl k) G
theorem g_isub {x y v : Int32} (hd : decode bytes pc = .ok (.isub, 1)) (hv : x - y = v) (hp : pc + 1 = pc') (G : Go l Z n0 EL mn bytes ml ret R h0 ws fr Q K sf h k n pc' Ls (.int v :: st)) : Go l Z n0 EL mn bytes ml ret R h0 ws fr Q K sf h k n pc Ls (.int y :: .int x :: st) :=
  g_pure (fun T t H hx k e => by subst hp e hv; exact XS.isub H hx rfl hd rfl k) G
theorem g_imul {x y v : Int32} (hd : decode bytes pc = .ok (.imul, 1)) (hv : x * y = v) (hp : pc + 1 = pc') (G : Go l Z n0 EL mn bytes ml ret R h0 ws fr Q K sf h k n pc' Ls (.int v :: st)) : Go l Z n0 EL mn bytes ml ret R h0 ws fr Q K sf h k n pc Ls (.int y :: .int x :: st) :=
  g_pure (fun T t H hx k e => by subst hp e hv; exact XS.imul H hx rfl hd rfl k) G
theorem g_iand {x y v : Int32} (hd : decode bytes pc = .ok (.iand, 1)) (hv : x &&& y = v) (hp : pc + 1 = pc') (G : Go l Z n0 EL mn bytes ml ret R h0 ws fr Q K sf h k n pc' Ls (.int v :: st)) : Go l Z n0 EL mn bytes ml ret R h0 ws fr Q K sf h k n pc Ls (.int y :: .int x :: st) :=
  g_pure (fun T t H hx k e => by subst hp e hv; exact XS.iand H hx rfl hd rfl k) G
theorem g_ior {x y v : Int32} (hd : decode bytes pc = .ok (.ior, 1)) (hv : x ||| y = v) (hp : pc + 1 = pc') (G : Go l Z n0 EL mn bytes ml ret R h0 ws fr Q K sf h k n pc' Ls (.int v :: st)) : Go l Z n0 EL mn bytes ml ret R h0 ws fr Q K sf h k n pc Ls (.int y :: .int x :: st) :=
  g_pure (fun T t H hx k e => by subst hp e hv; exact XS.ior H hx rfl hd rfl k) G
theorem g_ixor {x y v : Int32} (hd : decode bytes pc = .ok (.ixor, 1)) (hv : x ^^^ y = v) (hp : pc + 1 = pc') (G : Go l Z n0 EL mn bytes ml ret R h0 ws fr Q K sf h k n pc' Ls (.int v :: st)) : Go l Z n0 EL mn bytes ml ret R h0 ws fr Q K sf h k n pc Ls (.int y :: .int x :: st) :=
  g_pure (fun T t H hx k e => by subst hp e hv; exact XS.ixor H hx rfl hd rfl k) G
theorem g_ishl {x y v : Int32} (hd : decode bytes pc = .ok (.ishl, 1)) (hv : x <<< (y &&& 31) = v) (hp : pc + 1 = pc') (G : Go l Z n0 EL mn bytes ml ret R h0 ws fr Q K sf h k n pc' Ls (.int v :: st)) : Go l Z n0 EL mn bytes ml ret R h0 ws fr Q K sf h k n pc Ls (.int y :: .int x :: st) :=
  g_pure (fun T t H hx k e => by subst hp e hv; exact XS.ishl H hx rfl hd rfl k) G
theorem g_ishr {x y v : Int32} (hd : decode bytes pc = .ok (.ishr, 1)) (hv : x >>> (y &&& 31) = v) (hp : pc + 1 = pc') (G : Go l Z n0 EL mn bytes ml ret R h0 ws fr Q K sf h k n pc' Ls (.int v :: st)) : Go l Z n0 EL mn bytes ml ret R h0 ws fr Q K sf h k n pc Ls (.int y :: .int x :: st) :=
  g_pure (fun T t H hx k e => by subst hp e hv; exact XS.ishr H hx rfl hd rfl k) G
theorem g_iushr {x y v : Int32} (hd : decode bytes pc = .ok (.iushr, 1)) (hv : (x.toUInt32 >>> (y &&& 31).toUInt32).toInt32 = v) (hp : pc + 1 = pc') (G : Go l Z n0 EL mn bytes ml ret R h0 ws fr Q K sf h k n pc' Ls (.int v :: st)) : Go l Z n0 EL mn bytes ml ret R h0 ws fr Q K sf h k n pc Ls (.int y :: .int x :: st) :=
  g_pure (fun T t H hx k e => by subst hp e hv; exact XS.iushr H hx rfl hd rfl k) G
theorem g_ladd {x y v : Int64} (hd : decode bytes pc = .ok (.ladd, 1)) (hv : x + y = v) (hp : pc + 1 = pc') (G : Go l Z n0 EL mn bytes ml ret R h0 ws fr Q K sf h k n pc' Ls (.long v :: st)) : Go l Z n0 EL mn bytes ml ret R h0 ws fr Q K sf h k n pc Ls (.long y :: .long x :: st) :=
  g_pure (fun T t H hx k e => by subst hp e hv; exact XS.ladd H hx rfl hd rfl k) G
theorem g_lsub {x y v : Int64} (hd : decode bytes pc = .ok (.lsub, 1)) (hv : x - y = v) (hp : pc + 1 = pc') (G : Go l Z n0 EL mn bytes ml ret R h0 ws fr Q K sf h k n pc' Ls (.long v :: st)) : Go l Z n0 EL mn bytes ml ret R h0 ws fr Q K sf h k n pc Ls (.long y :: .long x :: st) :=
  g_pure (fun T t H hx k e => by subst hp e hv; exact XS.lsub H hx rfl hd rfl k) G
theorem g_lmul {x y v : Int64} (hd : decode bytes pc = .ok (.lmul, 1)) (hv : x * y = v) (hp : pc + 1 = pc') (G : Go l Z n0 EL mn bytes ml ret R h0 ws fr Q K sf h k n pc' Ls (.long v :: st)) : Go l Z n0 EL mn bytes ml ret R h0 ws fr Q K sf h k n pc Ls (.long y :: .long x :: st) :=
  g_pure (fun T t H hx k e => by subst hp e hv; exact XS.lmul H hx rfl hd rfl k) G
theorem g_land {x y v : Int64} (hd : decode bytes pc = .ok (.land, 1)) (hv : x &&& y = v) (hp : pc + 1 = pc') (G : Go l Z n0 EL mn bytes ml ret R h0 ws fr Q K sf h k n pc' Ls (.long v :: st)) : Go l Z n0 EL mn bytes ml ret R h0 ws fr Q K sf h k n pc Ls (.long y :: .long x :: st) :=
  g_pure (fun T t H hx k e => by subst hp e hv; exact XS.land H hx rfl hd rfl k) G
theorem g_irem {x y v : Int32} (hd : decode bytes pc = .ok (.irem, 1)) (hy : y ≠ 0) (hv : x % y = v) (hp : pc + 1 = pc') (G : Go l Z n0 EL mn bytes ml ret R h0 ws fr Q K sf h k n pc' Ls (.int v :: st)) : Go l Z n0 EL mn bytes ml ret R h0 ws fr Q K sf h k n pc Ls (.int y :: .int x :: st) :=
  g_pure (fun T t H hx k e => by subst hp e hv; exact XS.irem H hx rfl hd rfl hy (by rw [irem_eq_mod]; exact k)) G
theorem g_idiv {x y v : Int32} (hd : decode bytes pc = .ok (.idiv, 1)) (hy : y ≠ 0) (hv : x / y = v) (hp : pc + 1 = pc') (G : Go l Z n0 EL mn bytes ml ret R h0 ws fr Q K sf h k n pc' Ls (.int v :: st)) : Go l Z n0 EL mn bytes ml ret R h0 ws fr Q K sf h k n pc Ls (.int y :: .int x :: st) :=
  g_pure (fun T t H hx k e => by subst hp e hv; exact XS.idiv H hx rfl hd rfl hy k) G
theorem g_lrem {x y v : Int64} (hd : decode bytes pc = .ok (.lrem, 1)) (hy : y ≠ 0) (hv : x % y = v) (hp : pc + 1 = pc') (G : Go l Z n0 EL mn bytes ml ret R h0 ws fr Q K sf h k n pc' Ls (.long v :: st)) : Go l Z n0 EL mn bytes ml ret R h0 ws fr Q K sf h k n pc Ls (.long y :: .long x :: st) :=
  g_pure (fun T t H hx k e => by subst hp e hv; exact XS.lrem H hx rfl hd rfl hy (by rw [lrem_mod]; exact k)) G
theorem g_lcmp {x y : Int64} {v : Int32} (hd : decode bytes pc = .ok (.lcmp, 1)) (hv : lcmpW x y = v) (hp : pc + 1 = pc') (G : Go l Z n0 EL mn bytes ml ret R h0 ws fr Q K sf h k n pc' Ls (.int v :: st)) : Go l Z n0 EL mn bytes ml ret R h0 ws fr Q K sf h k n pc Ls (.long y :: .long x :: st) :=
  g_pure (fun T t H hx k e => by subst hp e hv; exact XS.lcmp H hx rfl hd rfl k) G
theorem g_ineg {x : Int32} {v : Int32} (hd : decode bytes pc = .ok (.ineg, 1)) (hv : -x = v) (hp : pc + 1 = pc') (G : Go l Z n0 EL mn bytes ml ret R h0 ws fr Q K sf h k n pc' Ls (.int v :: st)) : Go l Z n0 EL mn bytes ml ret R h0 ws fr Q K sf h k n pc Ls (.int x :: st) :=
  g_pure (fun T t H hx k e => by subst hp e hv; exact XS.ineg H hx rfl hd rfl k) G
theorem g_i2c {x : Int32} {v : Int32} (hd : decode bytes pc = .ok (.i2c, 1)) (hv : x.toUInt32.toUInt16.toUInt32.toInt32 = v) (hp : pc + 1 = pc') (G : Go l Z n0 EL mn bytes ml ret R h0 ws fr Q K sf h k n pc' Ls (.int v :: st)) : Go l Z n0 EL mn bytes ml ret R h0 ws fr Q K sf h k n pc Ls (.int x :: st) :=
  g_pure (fun T t H hx k e => by subst hp e hv; exact XS.i2c H hx rfl hd rfl k) G
theorem g_i2b {x : Int32} {v : Int32} (hd : decode bytes pc = .ok (.i2b, 1)) (hv : x.toInt8.toInt32 = v) (hp : pc + 1 = pc') (G : Go l Z n0 EL mn bytes ml ret R h0 ws fr Q K sf h k n pc' Ls (.int v :: st)) : Go l Z n0 EL mn bytes ml ret R h0 ws fr Q K sf h k n pc Ls (.int x :: st) :=
  g_pure (fun T t H hx k e => by subst hp e hv; exact XS.i2b H hx rfl hd rfl k) G
theorem g_i2s {x : Int32} {v : Int32} (hd : decode bytes pc = .ok (.i2s, 1)) (hv : x.toInt16.toInt32 = v) (hp : pc + 1 = pc') (G : Go l Z n0 EL mn bytes ml ret R h0 ws fr Q K sf h k n pc' Ls (.int v :: st)) : Go l Z n0 EL mn bytes ml ret R h0 ws fr Q K sf h k n pc Ls (.int x :: st) :=
  g_pure (fun T t H hx k e => by subst hp e hv; exact XS.i2s H hx rfl hd rfl k) G
theorem g_i2l {x : Int32} {v : Int64} (hd : decode bytes pc = .ok (.i2l, 1)) (hv : x.toInt64 = v) (hp : pc + 1 = pc') (G : Go l Z n0 EL mn bytes ml ret R h0 ws fr Q K sf h k n pc' Ls (.long v :: st)) : Go l Z n0 EL mn bytes ml ret R h0 ws fr Q K sf h k n pc Ls (.int x :: st) :=
  g_pure (fun T t H hx k e => by subst hp e hv; exact XS.i2l H hx rfl hd rfl k) G
theorem g_l2i {x : Int64} {v : Int32} (hd : decode bytes pc = .ok (.l2i, 1)) (hv : x.toInt32 = v) (hp : pc + 1 = pc') (G : Go l Z n0 EL mn bytes ml ret R h0 ws fr Q K sf h k n pc' Ls (.int v :: st)) : Go l Z n0 EL mn bytes ml ret R h0 ws fr Q K sf h k n pc Ls (.long x :: st) :=
  g_pure (fun T t H hx k e => by subst hp e hv; exact XS.l2i H hx rfl hd rfl k) G
theorem g_iload {i : Nat} {x : Int32} (hd : decode bytes pc = .ok (.iload i, 2)) (hl : Ls[i]? = some (.val (.int x))) (hp : pc + 2 = pc') (G : Go l Z n0 EL mn bytes ml ret R h0 ws fr Q K sf h k n pc' Ls (.int x :: st)) : Go l Z n0 EL mn bytes ml ret R h0 ws fr Q K sf h k n pc Ls st :=
  g_pure (fun T t H hx k e => by subst hp e; exact XS.iload H hx rfl hd hl k) G
theorem g_iloadN {i : Fin 4} {x : Int32} (hd : decode bytes pc = .ok (.iload_n i, 1)) (hl : Ls[i.val]? = some (.val (.int x))) (hp : pc + 1 = pc') (G : Go l Z n0 EL mn bytes ml ret R h0 ws fr Q K sf h k n pc' Ls (.int x :: st)) : Go l Z n0 EL mn bytes ml ret R h0 ws fr Q K sf h k n pc Ls st :=
  g_pure (fun T t H hx k e => by subst hp e; exact XS.iloadN H hx rfl hd hl k) G
theorem g_lload {i : Nat} {x : Int64} (hd : decode bytes pc = .ok (.lload i, 2)) (hl : Ls[i]? = some (.val (.long x))) (hp : pc + 2 = pc') (G : Go l Z n0 EL mn bytes ml ret R h0 ws fr Q K sf h k n pc' Ls (.long x :: st)) : Go l Z n0 EL mn bytes ml ret R h0 ws fr Q K sf h k n pc Ls st :=
  g_pure (fun T t H hx k e => by subst hp e; exact XS.lload H hx rfl hd hl k) G
theorem g_lloadN {i : Fin 4} {x : Int64} (hd : decode bytes pc = .ok (.lload_n i, 1)) (hl : Ls[i.val]? = some (.val (.long x))) (hp : pc + 1 = pc') (G : Go l Z n0 EL mn bytes ml ret R h0 ws fr Q K sf h k n pc' Ls (.long x :: st)) : Go l Z n0 EL mn bytes ml ret R h0 ws fr Q K sf h k n pc Ls st :=
  g_pure (fun T t H hx k e => by subst hp e; exact XS.lloadN H hx rfl hd hl k) G
theorem g_aload {i : Nat} {x : Value} (hd : decode bytes pc = .ok (.aload i, 2)) (hl : Ls[i]? = some (.val (x))) (hv : x.isRef = true) (hp : pc + 2 = pc') (G : Go l Z n0 EL mn bytes ml ret R h0 ws fr Q K sf h k n pc' Ls (x :: st)) : Go l Z n0 EL mn bytes ml ret R h0 ws fr Q K sf h k n pc Ls st :=
  g_pure (fun T t H hx k e => by subst hp e; exact XS.aload H hx rfl hd hl hv k) G
theorem g_aloadN {i : Fin 4} {x : Value} (hd : decode bytes pc = .ok (.aload_n i, 1)) (hl : Ls[i.val]? = some (.val (x))) (hv : x.isRef = true) (hp : pc + 1 = pc') (G : Go l Z n0 EL mn bytes ml ret R h0 ws fr Q K sf h k n pc' Ls (x :: st)) : Go l Z n0 EL mn bytes ml ret R h0 ws fr Q K sf h k n pc Ls st :=
  g_pure (fun T t H hx k e => by subst hp e; exact XS.aloadN H hx rfl hd hl hv k) G
theorem g_istore {i : Nat} {x : Int32} {L' : Array Slot} (hd : decode bytes pc = .ok (.istore i, 2)) (hl : storeLocals Ls i (.int x) = some L') (hp : pc + 2 = pc') (G : Go l Z n0 EL mn bytes ml ret R h0 ws fr Q K sf h k n pc' L' st) : Go l Z n0 EL mn bytes ml ret R h0 ws fr Q K sf h k n pc Ls (.int x :: st) :=
  g_pure (fun T t H hx k e => by subst hp e; exact XS.istore H hx rfl hd rfl hl k) G
theorem g_istoreN {i : Fin 4} {x : Int32} {L' : Array Slot} (hd : decode bytes pc = .ok (.istore_n i, 1)) (hl : storeLocals Ls i.val (.int x) = some L') (hp : pc + 1 = pc') (G : Go l Z n0 EL mn bytes ml ret R h0 ws fr Q K sf h k n pc' L' st) : Go l Z n0 EL mn bytes ml ret R h0 ws fr Q K sf h k n pc Ls (.int x :: st) :=
  g_pure (fun T t H hx k e => by subst hp e; exact XS.istoreN H hx rfl hd rfl hl k) G
theorem g_lstore {i : Nat} {x : Int64} {L' : Array Slot} (hd : decode bytes pc = .ok (.lstore i, 2)) (hl : storeLocals Ls i (.long x) = some L') (hp : pc + 2 = pc') (G : Go l Z n0 EL mn bytes ml ret R h0 ws fr Q K sf h k n pc' L' st) : Go l Z n0 EL mn bytes ml ret R h0 ws fr Q K sf h k n pc Ls (.long x :: st) :=
  g_pure (fun T t H hx k e => by subst hp e; exact XS.lstore H hx rfl hd rfl hl k) G
theorem g_lstoreN {i : Fin 4} {x : Int64} {L' : Array Slot} (hd : decode bytes pc = .ok (.lstore_n i, 1)) (hl : storeLocals Ls i.val (.long x) = some L') (hp : pc + 1 = pc') (G : Go l Z n0 EL mn bytes ml ret R h0 ws fr Q K sf h k n pc' L' st) : Go l Z n0 EL mn bytes ml ret R h0 ws fr Q K sf h k n pc Ls (.long x :: st) :=
  g_pure (fun T t H hx k e => by subst hp e; exact XS.lstoreN H hx rfl hd rfl hl k) G
theorem g_astore {i : Nat} {x : Value} {L' : Array Slot} (hd : decode bytes pc = .ok (.astore i, 2)) (hv : x.isRef = true) (hl : storeLocals Ls i (x) = some L') (hp : pc + 2 = pc') (G : Go l Z n0 EL mn bytes ml ret R h0 ws fr Q K sf h k n pc' L' st) : Go l Z n0 EL mn bytes ml ret R h0 ws fr Q K sf h k n pc Ls (x :: st) :=
  g_pure (fun T t H hx k e => by subst hp e; exact XS.astore H hx rfl hd rfl hv hl k) G
theorem g_astoreN {i : Fin 4} {x : Value} {L' : Array Slot} (hd : decode bytes pc = .ok (.astore_n i, 1)) (hv : x.isRef = true) (hl : storeLocals Ls i.val (x) = some L') (hp : pc + 1 = pc') (G : Go l Z n0 EL mn bytes ml ret R h0 ws fr Q K sf h k n pc' L' st) : Go l Z n0 EL mn bytes ml ret R h0 ws fr Q K sf h k n pc Ls (x :: st) :=
  g_pure (fun T t H hx k e => by subst hp e; exact XS.astoreN H hx rfl hd rfl hv hl k) G
theorem g_iinc {i : Nat} {x v : Int32} {cst : Int} {L' : Array Slot} (hd : decode bytes pc = .ok (.iinc i cst, 3)) (hv : Int32.ofInt cst = v) (hl : Ls[i]? = some (.val (.int x))) (hl' : storeLocals Ls i (.int (x + v)) = some L') (hp : pc + 3 = pc') (G : Go l Z n0 EL mn bytes ml ret R h0 ws fr Q K sf h k n pc' L' st) : Go l Z n0 EL mn bytes ml ret R h0 ws fr Q K sf h k n pc Ls st :=
  g_pure (fun T t H hx k e => by subst hp e hv; exact XS.iinc H hx rfl hd hl hl' k) G
theorem g_iconst {i : Int} {v : Int32} (hd : decode bytes pc = .ok (.iconst i, 1)) (hv : Int32.ofInt i = v) (hp : pc + 1 = pc') (G : Go l Z n0 EL mn bytes ml ret R h0 ws fr Q K sf h k n pc' Ls (.int v :: st)) : Go l Z n0 EL mn bytes ml ret R h0 ws fr Q K sf h k n pc Ls st :=
  g_pure (fun T t H hx k e => by subst hp e hv; exact XS.iconst H hx rfl hd k) G
theorem g_bipush {i : Int} {v : Int32} (hd : decode bytes pc = .ok (.bipush i, 2)) (hv : (Int8.ofInt i).toInt32 = v) (hp : pc + 2 = pc') (G : Go l Z n0 EL mn bytes ml ret R h0 ws fr Q K sf h k n pc' Ls (.int v :: st)) : Go l Z n0 EL mn bytes ml ret R h0 ws fr Q K sf h k n pc Ls st :=
  g_pure (fun T t H hx k e => by subst hp e hv; exact XS.bipush H hx rfl hd k) G
theorem g_sipush {i : Int} {v : Int32} (hd : decode bytes pc = .ok (.sipush i, 3)) (hv : (Int16.ofInt i).toInt32 = v) (hp : pc + 3 = pc') (G : Go l Z n0 EL mn bytes ml ret R h0 ws fr Q K sf h k n pc' Ls (.int v :: st)) : Go l Z n0 EL mn bytes ml ret R h0 ws fr Q K sf h k n pc Ls st :=
  g_pure (fun T t H hx k e => by subst hp e hv; exact XS.sipush H hx rfl hd k) G
theorem g_lconst {i : Fin 2} {v : Int64} (hd : decode bytes pc = .ok (.lconst i, 1)) (hv : Int64.ofNat i = v) (hp : pc + 1 = pc') (G : Go l Z n0 EL mn bytes ml ret R h0 ws fr Q K sf h k n pc' Ls (.long v :: st)) : Go l Z n0 EL mn bytes ml ret R h0 ws fr Q K sf h k n pc Ls st :=
  g_pure (fun T t H hx k e => by subst hp e hv; exact XS.lconst H hx rfl hd k) G
theorem g_null (hd : decode bytes pc = .ok (.aconst_null, 1)) (hp : pc + 1 = pc') (G : Go l Z n0 EL mn bytes ml ret R h0 ws fr Q K sf h k n pc' Ls (.null :: st)) : Go l Z n0 EL mn bytes ml ret R h0 ws fr Q K sf h k n pc Ls st :=
  g_pure (fun T t H hx k e => by subst hp e; exact XS.aconstNull H hx rfl hd k) G
theorem g_dup {x : Value} (hd : decode bytes pc = .ok (.dup, 1)) (hc : x.category = 1) (hp : pc + 1 = pc') (G : Go l Z n0 EL mn bytes ml ret R h0 ws fr Q K sf h k n pc' Ls (x :: x :: st)) : Go l Z n0 EL mn bytes ml ret R h0 ws fr Q K sf h k n pc Ls (x :: st) :=
  g_pure (fun T t H hx k e => by subst hp e; exact XS.dup H hx rfl hd rfl hc k) G
theorem g_pop {x : Value} (hd : decode bytes pc = .ok (.pop, 1)) (hc : x.category = 1) (hp : pc + 1 = pc') (G : Go l Z n0 EL mn bytes ml ret R h0 ws fr Q K sf h k n pc' Ls st) : Go l Z n0 EL mn bytes ml ret R h0 ws fr Q K sf h k n pc Ls (x :: st) :=
  g_pure (fun T t H hx k e => by subst hp e; exact XS.pop H hx rfl hd rfl hc k) G
theorem g_dupx1 {x y : Value} (hd : decode bytes pc = .ok (.dup_x1, 1)) (hc : x.category = 1) (hc' : y.category = 1) (hp : pc + 1 = pc') (G : Go l Z n0 EL mn bytes ml ret R h0 ws fr Q K sf h k n pc' Ls (x :: y :: x :: st)) : Go l Z n0 EL mn bytes ml ret R h0 ws fr Q K sf h k n pc Ls (x :: y :: st) :=
  g_pure (fun T t H hx k e => by subst hp e; exact XT.dupX1 H hx rfl hd rfl hc hc' k) G
theorem g_icmp_eq_t {x y : Int32} {o : Int} (hd : decode bytes pc = .ok (.if_icmp .eq o, 3)) (hc : x = y) (ho : 0 ≤ (pc : Int) + o) (hp : ((pc : Int) + o).toNat = pc') (G : Go l Z n0 EL mn bytes ml ret R h0 ws fr Q K sf h k n pc' Ls st) : Go l Z n0 EL mn bytes ml ret R h0 ws fr Q K sf h k n pc Ls (.int y :: .int x :: st) :=
  g_pure (fun T t H hx k e => by subst e; exact XS.icmpYes H hx rfl rfl hd rfl (XT.ii_eq_t hc) ho hp k) G
theorem g_icmp_eq_f {x y : Int32} {o : Int} (hd : decode bytes pc = .ok (.if_icmp .eq o, 3)) (hc : ¬ x = y) (hp : pc + 3 = pc') (G : Go l Z n0 EL mn bytes ml ret R h0 ws fr Q K sf h k n pc' Ls st) : Go l Z n0 EL mn bytes ml ret R h0 ws fr Q K sf h k n pc Ls (.int y :: .int x :: st) :=
  g_pure (fun T t H hx k e => by subst hp e; exact XS.icmpNo H hx rfl hd rfl (XT.ii_eq_f hc) k) G
theorem g_if_eq_t {x : Int32} {o : Int} (hd : decode bytes pc = .ok (.ifCond .eq o, 3)) (hc : x = 0) (ho : 0 ≤ (pc : Int) + o) (hp : ((pc : Int) + o).toNat = pc') (G : Go l Z n0 EL mn bytes ml ret R h0 ws fr Q K sf h k n pc' Ls st) : Go l Z n0 EL mn bytes ml ret R h0 ws fr Q K sf h k n pc Ls (.int x :: st) :=
  g_pure (fun T t H hx k e => by subst e; exact XS.ifYes H hx rfl rfl hd rfl (XT.i0_eq_t hc) ho hp k) G
theorem g_if_eq_f {x : Int32} {o : Int} (hd : decode bytes pc = .ok (.ifCond .eq o, 3)) (hc : ¬ x = 0) (hp : pc + 3 = pc') (G : Go l Z n0 EL mn bytes ml ret R h0 ws fr Q K sf h k n pc' Ls st) : Go l Z n0 EL mn bytes ml ret R h0 ws fr Q K sf h k n pc Ls (.int x :: st) :=
  g_pure (fun T t H hx k e => by subst hp e; exact XS.ifNo H hx rfl hd rfl (XT.i0_eq_f hc) k) G
theorem g_icmp_ne_t {x y : Int32} {o : Int} (hd : decode bytes pc = .ok (.if_icmp .ne o, 3)) (hc : ¬ x = y) (ho : 0 ≤ (pc : Int) + o) (hp : ((pc : Int) + o).toNat = pc') (G : Go l Z n0 EL mn bytes ml ret R h0 ws fr Q K sf h k n pc' Ls st) : Go l Z n0 EL mn bytes ml ret R h0 ws fr Q K sf h k n pc Ls (.int y :: .int x :: st) :=
  g_pure (fun T t H hx k e => by subst e; exact XS.icmpYes H hx rfl rfl hd rfl (XT.ii_ne_t hc) ho hp k) G
theorem g_icmp_ne_f {x y : Int32} {o : Int} (hd : decode bytes pc = .ok (.if_icmp .ne o, 3)) (hc : x = y) (hp : pc + 3 = pc') (G : Go l Z n0 EL mn bytes ml ret R h0 ws fr Q K sf h k n pc' Ls st) : Go l Z n0 EL mn bytes ml ret R h0 ws fr Q K sf h k n pc Ls (.int y :: .int x :: st) :=
  g_pure (fun T t H hx k e => by subst hp e; exact XS.icmpNo H hx rfl hd rfl (XT.ii_ne_f hc) k) G
theorem g_if_ne_t {x : Int32} {o : Int} (hd : decode bytes pc = .ok (.ifCond .ne o, 3)) (hc : ¬ x = 0) (ho : 0 ≤ (pc : Int) + o) (hp : ((pc : Int) + o).toNat = pc') (G : Go l Z n0 EL mn bytes ml ret R h0 ws fr Q K sf h k n pc' Ls st) : Go l Z n0 EL mn bytes ml ret R h0 ws fr Q K sf h k n pc Ls (.int x :: st) :=
  g_pure (fun T t H hx k e => by subst e; exact XS.ifYes H hx rfl rfl hd rfl (XT.i0_ne_t hc) ho hp k) G
theorem g_if_ne_f {x : Int32} {o : Int} (hd : decode bytes pc = .ok (.ifCond .ne o, 3)) (hc : x = 0) (hp : pc + 3 = pc') (G : Go l Z n0 EL mn bytes ml ret R h0 ws fr Q K sf h k n pc' Ls st) : Go l Z n0 EL mn bytes ml ret R h0 ws fr Q K sf h k n pc Ls (.int x :: st) :=
  g_pure (fun T t H hx k e => by subst hp e; exact XS.ifNo H hx rfl hd rfl (XT.i0_ne_f hc) k) G
theorem g_icmp_lt_t {x y : Int32} {o : Int} (hd : decode bytes pc = .ok (.if_icmp .lt o, 3)) (hc : x < y) (ho : 0 ≤ (pc : Int) + o) (hp : ((pc : Int) + o).toNat = pc') (G : Go l Z n0 EL mn bytes ml ret R h0 ws fr Q K sf h k n pc' Ls st) : Go l Z n0 EL mn bytes ml ret R h0 ws fr Q K sf h k n pc Ls (.int y :: .int x :: st) :=
  g_pure (fun T t H hx k e => by subst e; exact XS.icmpYes H hx rfl rfl hd rfl (XT.ii_lt_t hc) ho hp k) G
theorem g_icmp_lt_f {x y : Int32} {o : Int} (hd : decode bytes pc = .ok (.if_icmp .lt o, 3)) (hc : ¬ x < y) (hp : pc + 3 = pc') (G : Go l Z n0 EL mn bytes ml ret R h0 ws fr Q K sf h k n pc' Ls st) : Go l Z n0 EL mn bytes ml ret R h0 ws fr Q K sf h k n pc Ls (.int y :: .int x :: st) :=
  g_pure (fun T t H hx k e => by subst hp e; exact XS.icmpNo H hx rfl hd rfl (XT.ii_lt_f hc) k) G
theorem g_if_lt_t {x : Int32} {o : Int} (hd : decode bytes pc = .ok (.ifCond .lt o, 3)) (hc : x < 0) (ho : 0 ≤ (pc : Int) + o) (hp : ((pc : Int) + o).toNat = pc') (G : Go l Z n0 EL mn bytes ml ret R h0 ws fr Q K sf h k n pc' Ls st) : Go l Z n0 EL mn bytes ml ret R h0 ws fr Q K sf h k n pc Ls (.int x :: st) :=
  g_pure (fun T t H hx k e => by subst e; exact XS.ifYes H hx rfl rfl hd rfl (XT.i0_lt_t hc) ho hp k) G
theorem g_if_lt_f {x : Int32} {o : Int} (hd : decode bytes pc = .ok (.ifCond .lt o, 3)) (hc : ¬ x < 0) (hp : pc + 3 = pc') (G : Go l Z n0 EL mn bytes ml ret R h0 ws fr Q K sf h k n pc' Ls st) : Go l Z n0 EL mn bytes ml ret R h0 ws fr Q K sf h k n pc Ls (.int x :: st) :=
  g_pure (fun T t H hx k e => by subst hp e; exact XS.ifNo H hx rfl hd rfl (XT.i0_lt_f hc) k) G
theorem g_icmp_ge_t {x y : Int32} {o : Int} (hd : decode bytes pc = .ok (.if_icmp .ge o, 3)) (hc : ¬ x < y) (ho : 0 ≤ (pc : Int) + o) (hp : ((pc : Int) + o).toNat = pc') (G : Go l Z n0 EL mn bytes ml ret R h0 ws fr Q K sf h k n pc' Ls st) : Go l Z n0 EL mn bytes ml ret R h0 ws fr Q K sf h k n pc Ls (.int y :: .int x :: st) :=
  g_pure (fun T t H hx k e => by subst e; exact XS.icmpYes H hx rfl rfl hd rfl (XT.ii_ge_t hc) ho hp k) G
theorem g_icmp_ge_f {x y : Int32} {o : Int} (hd : decode bytes pc = .ok (.if_icmp .ge o, 3)) (hc : x < y) (hp : pc + 3 = pc') (G : Go l Z n0 EL mn bytes ml ret R h0 ws fr Q K sf h k n pc' Ls st) : Go l Z n0 EL mn bytes ml ret R h0 ws fr Q K sf h k n pc Ls (.int y :: .int x :: st) :=
  g_pure (fun T t H hx k e => by subst hp e; exact XS.icmpNo H hx rfl hd rfl (XT.ii_ge_f hc) k) G
theorem g_if_ge_t {x : Int32} {o : Int} (hd : decode bytes pc = .ok (.ifCond .ge o, 3)) (hc : ¬ x < 0) (ho : 0 ≤ (pc : Int) + o) (hp : ((pc : Int) + o).toNat = pc') (G : Go l Z n0 EL mn bytes ml ret R h0 ws fr Q K sf h k n pc' Ls st) : Go l Z n0 EL mn bytes ml ret R h0 ws fr Q K sf h k n pc Ls (.int x :: st) :=
  g_pure (fun T t H hx k e => by subst e; exact XS.ifYes H hx rfl rfl hd rfl (XT.i0_ge_t hc) ho hp k) G
theorem g_if_ge_f {x : Int32} {o : Int} (hd : decode bytes pc = .ok (.ifCond .ge o, 3)) (hc : x < 0) (hp : pc + 3 = pc') (G : Go l Z n0 EL mn bytes ml ret R h0 ws fr Q K sf h k n pc' Ls st) : Go l Z n0 EL mn bytes ml ret R h0 ws fr Q K sf h k n pc Ls (.int x :: st) :=
  g_pure (fun T t H hx k e => by subst hp e; exact XS.ifNo H hx rfl hd rfl (XT.i0_ge_f hc) k) G
theorem g_icmp_gt_t {x y : Int32} {o : Int} (hd : decode bytes pc = .ok (.if_icmp .gt o, 3)) (hc : y < x) (ho : 0 ≤ (pc : Int) + o) (hp : ((pc : Int) + o).toNat = pc') (G : Go l Z n0 EL mn bytes ml ret R h0 ws fr Q K sf h k n pc' Ls st) : Go l Z n0 EL mn bytes ml ret R h0 ws fr Q K sf h k n pc Ls (.int y :: .int x :: st) :=
  g_pure (fun T t H hx k e => by subst e; exact XS.icmpYes H hx rfl rfl hd rfl (XT.ii_gt_t hc) ho hp k) G
theorem g_icmp_gt_f {x y : Int32} {o : Int} (hd : decode bytes pc = .ok (.if_icmp .gt o, 3)) (hc : ¬ y < x) (hp : pc + 3 = pc') (G : Go l Z n0 EL mn bytes ml ret R h0 ws fr Q K sf h k n pc' Ls st) : Go l Z n0 EL mn bytes ml ret R h0 ws fr Q K sf h k n pc Ls (.int y :: .int x :: st) :=
  g_pure (fun T t H hx k e => by subst hp e; exact XS.icmpNo H hx rfl hd rfl (XT.ii_gt_f hc) k) G
theorem g_if_gt_t {x : Int32} {o : Int} (hd : decode bytes pc = .ok (.ifCond .gt o, 3)) (hc : 0 < x) (ho : 0 ≤ (pc : Int) + o) (hp : ((pc : Int) + o).toNat = pc') (G : Go l Z n0 EL mn bytes ml ret R h0 ws fr Q K sf h k n pc' Ls st) : Go l Z n0 EL mn bytes ml ret R h0 ws fr Q K sf h k n pc Ls (.int x :: st) :=
  g_pure (fun T t H hx k e => by subst e; exact XS.ifYes H hx rfl rfl hd rfl (XT.i0_gt_t hc) ho hp k) G
theorem g_if_gt_f {x : Int32} {o : Int} (hd : decode bytes pc = .ok (.ifCond .gt o, 3)) (hc : ¬ 0 < x) (hp : pc + 3 = pc') (G : Go l Z n0 EL mn bytes ml ret R h0 ws fr Q K sf h k n pc' Ls st) : Go l Z n0 EL mn bytes ml ret R h0 ws fr Q K sf h k n pc Ls (.int x :: st) :=
  g_pure (fun T t H hx k e => by subst hp e; exact XS.ifNo H hx rfl hd rfl (XT.i0_gt_f hc) k) G
theorem g_icmp_le_t {x y : Int32} {o : Int} (hd : decode bytes pc = .ok (.if_icmp .le o, 3)) (hc : ¬ y < x) (ho : 0 ≤ (pc : Int) + o) (hp : ((pc : Int) + o).toNat = pc') (G : Go l Z n0 EL mn bytes ml ret R h0 ws fr Q K sf h k n pc' Ls st) : Go l Z n0 EL mn bytes ml ret R h0 ws fr Q K sf h k n pc Ls (.int y :: .int x :: st) :=
  g_pure (fun T t H hx k e => by subst e; exact XS.icmpYes H hx rfl rfl hd rfl (XT.ii_le_t hc) ho hp k) G
theorem g_icmp_le_f {x y : Int32} {o : Int} (hd : decode bytes pc = .ok (.if_icmp .le o, 3)) (hc : y < x) (hp : pc + 3 = pc') (G : Go l Z n0 EL mn bytes ml ret R h0 ws fr Q K sf h k n pc' Ls st) : Go l Z n0 EL mn bytes ml ret R h0 ws fr Q K sf h k n pc Ls (.int y :: .int x :: st) :=
  g_pure (fun T t H hx k e => by subst hp e; exact XS.icmpNo H hx rfl hd rfl (XT.ii_le_f hc) k) G
theorem g_if_le_t {x : Int32} {o : Int} (hd : decode bytes pc = .ok (.ifCond .le o, 3)) (hc : ¬ 0 < x) (ho : 0 ≤ (pc : Int) + o) (hp : ((pc : Int) + o).toNat = pc') (G : Go l Z n0 EL mn bytes ml ret R h0 ws fr Q K sf h k n pc' Ls st) : Go l Z n0 EL mn bytes ml ret R h0 ws fr Q K sf h k n pc Ls (.int x :: st) :=
  g_pure (fun T t H hx k e => by subst e; exact XS.ifYes H hx rfl rfl hd rfl (XT.i0_le_t hc) ho hp k) G
theorem g_if_le_f {x : Int32} {o : Int} (hd : decode bytes pc = .ok (.ifCond .le o, 3)) (hc : 0 < x) (hp : pc + 3 = pc') (G : Go l Z n0 EL mn bytes ml ret R h0 ws fr Q K sf h k n pc' Ls st) : Go l Z n0 EL mn bytes ml ret R h0 ws fr Q K sf h k n pc Ls (.int x :: st) :=
  g_pure (fun T t H hx k e => by subst hp e; exact XS.ifNo H hx rfl hd rfl (XT.i0_le_f hc) k) G
theorem g_acmp_eq_t {x y : Value} {o : Int} (hd : decode bytes pc = .ok (.if_acmp .eq o, 3)) (hx' : x.isRef = true) (hy' : y.isRef = true) (hc : x = y) (ho : 0 ≤ (pc : Int) + o) (hp : ((pc : Int) + o).toNat = pc') (G : Go l Z n0 EL mn bytes ml ret R h0 ws fr Q K sf h k n pc' Ls st) : Go l Z n0 EL mn bytes ml ret R h0 ws fr Q K sf h k n pc Ls (y :: x :: st) :=
  g_pure (fun T t H hx k e => by subst e; exact XT.acmpYes H hx rfl rfl hd rfl hx' hy' (XT.aa_eq_t hc) ho hp k) G
theorem g_acmp_eq_f {x y : Value} {o : Int} (hd : decode bytes pc = .ok (.if_acmp .eq o, 3)) (hx' : x.isRef = true) (hy' : y.isRef = true) (hc : ¬ x = y) (hp : pc + 3 = pc') (G : Go l Z n0 EL mn bytes ml ret R h0 ws fr Q K sf h k n pc' Ls st) : Go l Z n0 EL mn bytes ml ret R h0 ws fr Q K sf h k n pc Ls (y :: x :: st) :=
  g_pure (fun T t H hx k e => by subst hp e; exact XT.acmpNo H hx rfl hd rfl hx' hy' (XT.aa_eq_f hc) k) G
theorem g_acmp_ne_t {x y : Value} {o : Int} (hd : decode bytes pc = .ok (.if_acmp .ne o, 3)) (hx' : x.isRef = true) (hy' : y.isRef = true) (hc : ¬ x = y) (ho : 0 ≤ (pc : Int) + o) (hp : ((pc : Int) + o).toNat = pc') (G : Go l Z n0 EL mn bytes ml ret R h0 ws fr Q K sf h k n pc' Ls st) : Go l Z n0 EL mn bytes ml ret R h0 ws fr Q K sf h k n pc Ls (y :: x :: st) :=
  g_pure (fun T t H hx k e => by subst e; exact XT.acmpYes H hx rfl rfl hd rfl hx' hy' (XT.aa_ne_t hc) ho hp k) G
theorem g_acmp_ne_f {x y : Value} {o : Int} (hd : decode bytes pc = .ok (.if_acmp .ne o, 3)) (hx' : x.isRef = true) (hy' : y.isRef = true) (hc : x = y) (hp : pc + 3 = pc') (G : Go l Z n0 EL mn bytes ml ret R h0 ws fr Q K sf h k n pc' Ls st) : Go l Z n0 EL mn bytes ml ret R h0 ws fr Q K sf h k n pc Ls (y :: x :: st) :=
  g_pure (fun T t H hx k e => by subst hp e; exact XT.acmpNo H hx rfl hd rfl hx' hy' (XT.aa_ne_f hc) k) G
theorem g_ifnull_t {o : Int} (hd : decode bytes pc = .ok (.ifnull o, 3)) (ho : 0 ≤ (pc : Int) + o) (hp : ((pc : Int) + o).toNat = pc') (G : Go l Z n0 EL mn bytes ml ret R h0 ws fr Q K sf h k n pc' Ls st) : Go l Z n0 EL mn bytes ml ret R h0 ws fr Q K sf h k n pc Ls (.null :: st) :=
  g_pure (fun T t H hx k e => by subst e; exact XS.ifnullYes H hx rfl rfl hd rfl ho hp k) G
theorem g_ifnull_f {b : Addr} {o : Int} (hd : decode bytes pc = .ok (.ifnull o, 3)) (hp : pc + 3 = pc') (G : Go l Z n0 EL mn bytes ml ret R h0 ws fr Q K sf h k n pc' Ls st) : Go l Z n0 EL mn bytes ml ret R h0 ws fr Q K sf h k n pc Ls (.ref b :: st) :=
  g_pure (fun T t H hx k e => by subst hp e; exact XS.ifnullNo H hx rfl hd rfl k) G
theorem g_ifnonnull_t {b : Addr} {o : Int} (hd : decode bytes pc = .ok (.ifnonnull o, 3)) (ho : 0 ≤ (pc : Int) + o) (hp : ((pc : Int) + o).toNat = pc') (G : Go l Z n0 EL mn bytes ml ret R h0 ws fr Q K sf h k n pc' Ls st) : Go l Z n0 EL mn bytes ml ret R h0 ws fr Q K sf h k n pc Ls (.ref b :: st) :=
  g_pure (fun T t H hx k e => by subst e; exact XS.ifnonnullYes H hx rfl rfl hd rfl ho hp k) G
theorem g_ifnonnull_f {o : Int} (hd : decode bytes pc = .ok (.ifnonnull o, 3)) (hp : pc + 3 = pc') (G : Go l Z n0 EL mn bytes ml ret R h0 ws fr Q K sf h k n pc' Ls st) : Go l Z n0 EL mn bytes ml ret R h0 ws fr Q K sf h k n pc Ls (.null :: st) :=
  g_pure (fun T t H hx k e => by subst hp e; exact XS.ifnonnullNo H hx rfl hd rfl k) G
theorem g_goto {o : Int} (hd : decode bytes pc = .ok (.goto o, 3)) (ho : 0 ≤ (pc : Int) + o) (hp : ((pc : Int) + o).toNat = pc') (G : Go l Z n0 EL mn bytes ml ret R h0 ws fr Q K sf h k n pc' Ls st) : Go l Z n0 EL mn bytes ml ret R h0 ws fr Q K sf h k n pc Ls st :=
  g_pure (fun T t H hx k e => by subst e; exact XS.goto H hx rfl rfl hd ho hp k) G
theorem g_ldcI {idx : Nat} {v : Int32} (hd : decode bytes pc = .ok (.ldc idx, 2)) (w : (Jvm.Cond.constant mn.cls idx v).before a0 Z = true) (hp : pc + 2 = pc') (G : Go l Z n0 EL mn bytes ml ret R h0 ws fr Q K sf h k n pc' Ls (.int v :: st)) : Go l Z n0 EL mn bytes ml ret R h0 ws fr Q K sf h k n pc Ls st :=
  g_law (fun s' T locs hx hb hml hown hnm hZ X e ho => ⟨T, X, e, fun t s => by subst hb hp; exact X.ldcInt hx hown (mvT hZ w) (g := mkF (km K) pc Ls st) rfl hd t s⟩) G
theorem g_ldcwI {idx : Nat} {v : Int32} (hd : decode bytes pc = .ok (.ldc_w idx, 3)) (w : (Jvm.Cond.constant mn.cls idx v).before a0 Z = true) (hp : pc + 3 = pc') (G : Go l Z n0 EL mn bytes ml ret R h0 ws fr Q K sf h k n pc' Ls (.int v :: st)) : Go l Z n0 EL mn bytes ml ret R h0 ws fr Q K sf h k n pc Ls st :=
  g_law (fun s' T locs hx hb hml hown hnm hZ X e ho => ⟨T, X, e, fun t s => by subst hb hp; exact X.ldcwInt hx hown (mvT hZ w) (g := mkF (km K) pc Ls st) rfl hd t s⟩) G
theorem g_ldcJ {idx : Nat} {v : Int64} (hd : decode bytes pc = .ok (.ldc2_w idx, 3)) (w : (Jvm.Cond.constantLong mn.cls idx v).before a0 Z = true) (hp : pc + 3 = pc') (G : Go l Z n0 EL mn bytes ml ret R h0 ws fr Q K sf h k n pc' Ls (.long v :: st)) : Go l Z n0 EL mn bytes ml ret R h0 ws fr Q K sf h k n pc Ls st :=
  g_law (fun s' T locs hx hb hml hown hnm hZ X e ho => ⟨T, X, e, fun t s => by subst hb hp; exact X.ldc2Long hx hown (mvT hZ w) (g := mkF (km K) pc Ls st) rfl hd t s⟩) G
theorem g_getF {idx : Nat} {R0 O nm d : String} {a : Addr} {v : Value} (hd : decode bytes pc = .ok (.getfield idx, 3)) (w : (Jvm.Cond.fieldLink mn.cls idx R0 nm d).before a0 Z = true) (via : Via Z R0 O nm d) (F : Fld Z h a O nm d v) (hp : pc + 3 = pc') (G : Go l Z n0 EL mn bytes ml ret R h0 ws fr Q K sf h k n pc' Ls (v :: st)) : Go l Z n0 EL mn bytes ml ret R h0 ws fr Q K sf h k n pc Ls (.ref a :: st) :=
  g_law (fun s' T locs hx hb hml hown hnm hZ X e ho => by
    subst hb hp
    exact getF X hx hZ hown (host := "") (Or.inl w) via e F (g := mkF (km K) pc Ls (.ref a :: st)) rfl rfl hd) G
theorem g_getS {idx : Nat} {R0 O nm d : String} {v : Value} (hd : decode bytes pc = .ok (.getstatic idx, 3)) (w : (Jvm.Cond.fieldLink mn.cls idx R0 nm d).before a0 Z = true) (via : Via Z R0 O nm d) (F : Sta Z Z.heap O nm d v) (hp : pc + 3 = pc') (G : Go l Z n0 EL mn bytes ml ret R h0 ws fr Q K sf h k n pc' Ls (v :: st)) : Go l Z n0 EL mn bytes ml ret R h0 ws fr Q K sf h k n pc Ls st :=
  g_law (fun s' T locs hx hb hml hown hnm hZ X e ho => by
    subst hb hp
    exact getS X hx hZ hown (host := "") w via e (F.ext ho.2) (g := mkF (km K) pc Ls st) rfl hd) G
theorem g_putF {idx kk : Nat} {R0 O nm d C : String} {ty : FieldType} {a : Addr} {v v' old : Value} (hd : decode bytes pc = .ok (.putfield idx, 3)) (w : (Jvm.Cond.fieldLink mn.cls idx R0 nm d).before a0 Z = true) (via : Via Z R0 O nm d) (F : Fld Z h a O nm d old) (E : Exa Z h a C)
    (L : (Jvm.Cond.lays C O nm d).before a0 Z = true ∨ ((Jvm.Cond.laysFinal C O nm d).before a0 Z = true ∧ mn.cls = O ∧ mn.name = "<init>")) (wi : (Jvm.Cond.instantiable C kk).before a0 Z = true) (hty : parseFieldDescriptor d = some ty) (hn : narrow ty v = v') (hf : fits ty v' = true)
    (hin : a ∈ ws ∨ h0.size ≤ a) (hsf : a ∈ sf) (hp : pc + 3 = pc') (G : ∀ h', Wr h h' a (Jvm.RoadKit.slotOf Z O nm d) v' → Go l Z n0 EL mn bytes ml ret R h0 ws fr Q K sf h' k n pc' Ls st) : Go l Z n0 EL mn bytes ml ret R h0 ws fr Q K sf h k n pc Ls (v :: .ref a :: st) :=
  g_wr (fun s' T locs hx hb hml hown hnm hZ X e ho => by
    subst hb hp
    exact putFN X hx hZ hown w via e F E (L.imp id fun q => ⟨q.1, q.2.1, hnm.trans q.2.2⟩) wi hty hn hf (g := mkF (km K) pc Ls (v :: .ref a :: st)) rfl rfl hd) hin hsf G
theorem g_new {idx c : Nat} {C : String} (hd : decode bytes pc = .ok (.new idx, 3)) (w : (Jvm.Cond.classLink mn.cls idx C).before a0 Z = true) (wi : (Jvm.Cond.instantiable C c).before a0 Z = true) (wz : (Jvm.Cond.initialized C).before a0 Z = true) (hk : k + 1 ≤ R.cells) (hl : n + c ≤ R.slots) (hp : pc + 3 = pc')
    (G : ∀ a h', a = h.size → Keep h h' [] → Exa Z h' a C → (∀ {O nm d : String} {ty : FieldType}, Laid Z a0 C O nm d → parseFieldDescriptor d = some ty → Fld Z h' a O nm d (defaultValue ty)) → h0.size ≤ a → Go l Z n0 EL mn bytes ml ret R h0 ws fr Q K (a :: sf) h' (k + 1) (n + c) pc' Ls (.ref a :: st)) : Go l Z n0 EL mn bytes ml ret R h0 ws fr Q K sf h k n pc Ls st :=
  g_ext (P := fun h' => Exa Z h' h.size C ∧ ∀ {O nm d : String} {ty : FieldType}, Laid Z a0 C O nm d → parseFieldDescriptor d = some ty → Fld Z h' h.size O nm d (defaultValue ty)) (fun s' T locs hx hb hml hown hnm hZ X e ho => by
    subst hb hp
    obtain ⟨T', h', X', e', E, A, D, -, S⟩ := newO X hx hZ hown w wi wz e (g := mkF (km K) pc Ls st) rfl hd hk hl
    exact ⟨T', h', X', e', E, A.lt, ⟨A, D⟩, S⟩) (fun h' E q hsz => G _ h' rfl ((Keep.refl _ _).ext E) q.1 q.2 hsz)
theorem g_initO {idx W : Nat} {a : Addr} (hd : decode bytes pc = .ok (.invokespecial idx, 3)) (w1 : (Jvm.Cond.methodLink mn.cls idx Lib.objectInit).before a0 Z = true) (w2 : (Jvm.Cond.instanceMethod Lib.objectInit).before a0 Z = true) (w3 : (Jvm.Cond.code Lib.objectInit ⟨#[0xb1]⟩ 1 none).before a0 Z = true)
    (hsz : Ls.size = ml) (hf : 1 ≤ R.frames) (hW : (st.map fun v => v.category).sum ≤ W) (hl : W + 12 ≤ R.locals) (hp : pc + 3 = pc') (G : Go l Z n0 EL mn bytes ml ret R h0 ws fr Q K sf h k n pc' Ls st) : Go l Z n0 EL mn bytes ml ret R h0 ws fr Q K sf h k n pc Ls (.ref a :: st) :=
  g_law (fun s' T locs hx hb hml hown hnm hZ X e ho => by
    subst hb hp
    exact initO X hx hZ hown w1 w2 w3 e (g := mkF (km K) pc Ls (.ref a :: st)) rfl (hsz.trans hml.symm) rfl hd hf (W := W) (by show 2 * 0 + _ ≤ _; omega) hl) G
theorem g_cast {idx : Nat} {C : String} {a : Addr} (hd : decode bytes pc = .ok (.checkcast idx, 3)) (w : (Jvm.Cond.classLink mn.cls idx C).before a0 Z = true) (F : Ins Z h a C true) (hp : pc + 3 = pc') (G : Go l Z n0 EL mn bytes ml ret R h0 ws fr Q K sf h k n pc' Ls (.ref a :: st)) : Go l Z n0 EL mn bytes ml ret R h0 ws fr Q K sf h k n pc Ls (.ref a :: st) :=
  g_law (fun s' T locs hx hb hml hown hnm hZ X e ho => by
    subst hb hp
    exact castY X hx hZ hown w e F (g := mkF (km K) pc Ls (.ref a :: st)) rfl rfl hd) G
theorem g_instY {idx : Nat} {C : String} {a : Addr} (hd : decode bytes pc = .ok (.instanceof idx, 3)) (w : (Jvm.Cond.classLink mn.cls idx C).before a0 Z = true) (F : Ins Z h a C true) (hp : pc + 3 = pc') (G : Go l Z n0 EL mn bytes ml ret R h0 ws fr Q K sf h k n pc' Ls (.int 1 :: st)) : Go l Z n0 EL mn bytes ml ret R h0 ws fr Q K sf h k n pc Ls (.ref a :: st) :=
  g_law (fun s' T locs hx hb hml hown hnm hZ X e ho => by
    subst hb hp
    exact instY X hx hZ hown w e F (g := mkF (km K) pc Ls (.ref a :: st)) rfl rfl hd) G
theorem g_instN {idx : Nat} {C C' : String} {a : Addr} (hd : decode bytes pc = .ok (.instanceof idx, 3)) (w : (Jvm.Cond.classLink mn.cls idx C).before a0 Z = true) (E : Exa Z h a C') (F : ∃ c t, Z.vm.findClass C' = some c ∧ Z.vm.findClass C = some t ∧ Z.vm.assignable c t = false) (hp : pc + 3 = pc') (G : Go l Z n0 EL mn bytes ml ret R h0 ws fr Q K sf h k n pc' Ls (.int 0 :: st)) : Go l Z n0 EL mn bytes ml ret R h0 ws fr Q K sf h k n pc Ls (.ref a :: st) :=
  g_law (fun s' T locs hx hb hml hown hnm hZ X e ho => by
    subst hb hp
    exact instNo X hx hZ hown w e E F (g := mkF (km K) pc Ls (.ref a :: st)) rfl rfl hd) G
/-- an array of kind ty that holds the list vs -/
def Ia (Z : State) (h : Heap) (a : Addr) (ty : FieldType) (vs : List Int32) : Prop := ∃ c : Cell, Arr Z h a c ty ∧ c.slots.toList = vs.map Value.int ∧ vs.length < 2 ^ 31 ∧ ∀ v ∈ vs, fits ty (.int v) = true
theorem Ia.keep {h' : Heap} {a : Addr} {ty : FieldType} {vs : List Int32} (A : Ia Z h a ty vs) (Kp : Keep h h' ws) (q : a ∉ ws) : Ia Z h' a ty vs := by obtain ⟨c, A, r⟩ := A; exact ⟨c, ⟨Kp.2.1 a c A.1 q, A.2⟩, r⟩
theorem Ia.lt {a : Addr} {ty : FieldType} {vs : List Int32} (A : Ia Z h a ty vs) : a < h.size := by obtain ⟨c, A, r⟩ := A; exact A.lt
theorem Ia.arv {a : Addr} {ty : FieldType} {vs : List Int32} (A : Ia Z h a ty vs) : ∃ k, Arv Z h a k ty (Int32.ofNat vs.length) (vs.map Value.int) (.int 0) := by
  obtain ⟨c, A, e, hl, hf⟩ := A
  have es : c.slots.size = vs.length := by rw [← Array.length_toList, e, List.length_map]
  have ei : (Int32.ofNat vs.length).toInt = vs.length := Int32.toInt_ofNat_of_lt hl
  refine ⟨c.cls, c, A, rfl, ?_, ?_, fun i hi => ?_, fun i hi => ?_⟩
  · rw [es, Int32.toNatClampNeg, ei]; rfl
  · rw [Int32.lt_iff_toInt_lt, ei]; exact fun q => by have : (0 : Int32).toInt = 0 := rfl; omega
  · have hi' : i < vs.length := es ▸ hi
    rw [← Array.getElem?_toList, e]; simp [List.getD_eq_getElem?_getD, hi']
  · have hi' : i < vs.length := es ▸ hi
    simp only [List.getD_eq_getElem?_getD, List.getElem?_map, List.getElem?_eq_getElem hi', Option.map_some, Option.getD_some]
    exact hf _ (List.getElem_mem hi')
theorem ia_of {a : Addr} {kk : ClassId} {ty : FieldType} {z : Int32} {vs : List Int32} {us : List Value} {d : Value} (A : Arv Z h a kk ty z us d) (e : us = vs.map Value.int) (hz : z.toNatClampNeg = vs.length) : Ia Z h a ty vs := by
  obtain ⟨c, A, -, hs, h0', H, F⟩ := A
  have es : c.slots.size = vs.length := hs.trans hz
  subst e
  have hl : vs.length < 2 ^ 31 := by have := z.toInt_lt; rw [← hz, Int32.toNatClampNeg]; omega
  refine ⟨c, A, ?_, hl, fun v hv => ?_⟩
  · refine List.ext_getElem? fun i => ?_
    rw [Array.getElem?_toList]
    by_cases q : i < vs.length
    · rw [H i (es ▸ q)]; simp [List.getD_eq_getElem?_getD, q]
    · rw [Array.getElem?_eq_none (by omega)]; simp [q]
  · obtain ⟨i, hi, rfl⟩ := List.mem_iff_getElem.mp hv
    have := F i (es ▸ hi)
    simpa [List.getD_eq_getElem?_getD, hi] using this
theorem Ia.fits {a : Addr} {ty : FieldType} {vs : List Int32} (A : Ia Z h a ty vs) : ∀ v ∈ vs, Jvm.fits ty (.int v) = true := by obtain ⟨c, A, r⟩ := A; exact r.2.2
theorem Ia.short {a : Addr} {ty : FieldType} {vs : List Int32} (A : Ia Z h a ty vs) : vs.length < 2 ^ 31 := by obtain ⟨c, A, r⟩ := A; exact r.2.1
theorem g_newA {aty : ArrayType} {x : Int32} {cap : Nat} (hd : decode bytes pc = .ok (.newarray aty, 2)) (w : (Jvm.Cond.arrayClass (newarray.typeOf aty)).before a0 Z = true) (hz : defaultValue (newarray.typeOf aty) = .int 0) (hx0 : ¬ x < 0) (hcap : x.toNatClampNeg ≤ cap) (hb8 : cap * 8 ≤ 536870912) (hk : k + 1 ≤ R.cells) (hl : n + cap ≤ R.slots) (hp : pc + 2 = pc')
    (G : ∀ a h', a = h.size → Keep h h' [] → Ia Z h' a (newarray.typeOf aty) (List.replicate x.toNatClampNeg 0) → h0.size ≤ a → Go l Z n0 EL mn bytes ml ret R h0 ws fr Q K (a :: sf) h' (k + 1) (n + cap) pc' Ls (.ref a :: st)) : Go l Z n0 EL mn bytes ml ret R h0 ws fr Q K sf h k n pc Ls (.int x :: st) :=
  g_ext (P := fun h' => Ia Z h' h.size (newarray.typeOf aty) (List.replicate x.toNatClampNeg 0)) (fun s' T locs hx hb hml hown hnm hZ X e ho => by
    subst hb hp
    obtain ⟨T', h', cA, X', e', E, A, S⟩ := newP X hx hZ w e (g := mkF (km K) pc Ls (.int x :: st)) rfl hd rfl hx0 hcap hb8 hk hl
    have V := Arv.new A hx0
    rw [hz] at V
    exact ⟨T', h', X', e', E, A.lt, ia_of (vs := List.replicate x.toNatClampNeg 0) (V.pad (pad_rep [] (.int 0) x.toNatClampNeg)) (by simp) (by simp), S⟩) (fun h' E q hsz => G _ h' rfl ((Keep.refl _ _).ext E) q hsz)
theorem ia_inb {vs : List Int32} {j : Int32} {i : Nat} {c : Cell} (e : c.slots.toList = vs.map Value.int) (h0 : ¬ j < 0) (hj : j.toNatClampNeg = i) (hi : i < vs.length) : ¬ (j < 0 ∨ c.slots.size ≤ j.toNatClampNeg) := by
  have es : c.slots.size = vs.length := by rw [← Array.length_toList, e, List.length_map]
  rintro (q | q)
  · exact h0 q
  · omega
theorem ia_get {vs : List Int32} {i : Nat} {x : Int32} {c : Cell} (e : c.slots.toList = vs.map Value.int) (hi : vs[i]? = some x) : c.slots[i]? = some (.int x) := by
  rw [← Array.getElem?_toList, e, List.getElem?_map, hi]; rfl
theorem ia_put {h' : Heap} {a : Addr} {ty : FieldType} {vs : List Int32} {i : Nat} {x : Int32} (A : Ia Z h a ty vs) (W : Wr h h' a i (.int x)) (hx : Jvm.fits ty (.int x) = true) : Ia Z h' a ty (vs.set i x) := by
  obtain ⟨c, A, e, hs, hf⟩ := A
  refine ⟨_, A.same W, ?_, by simpa using hs, fun v hv => ?_⟩
  · rw [Cell.setSlot, Array.toList_setIfInBounds, e, List.map_set]
  · rcases List.mem_or_eq_of_mem_set hv with q | rfl
    · exact hf v q
    · exact hx
theorem g_caload {a : Addr} {vs : List Int32} {j x : Int32} {i : Nat} (hd : decode bytes pc = .ok (.caload, 1)) (A : Ia Z h a .char vs) (hj0 : ¬ j < 0) (hj : j.toNatClampNeg = i) (hi : vs[i]? = some x) (hp : pc + 1 = pc') (G : Go l Z n0 EL mn bytes ml ret R h0 ws fr Q K sf h k n pc' Ls (.int x :: st)) : Go l Z n0 EL mn bytes ml ret R h0 ws fr Q K sf h k n pc Ls (.int j :: .ref a :: st) :=
  g_law (fun s' T locs hx hb hml hown hnm hZ X e ho => ⟨T, X, e, fun t s => by
    subst hb hp
    obtain ⟨c, A1, A2, A3, A4⟩ := A
    exact X.caload hx (j := j) (v := .int x) (by rw [e]; exact A1.1) (State.isArrayOf_alike hZ.alike A1.2.1) A1.2.2 (ia_inb A2 hj0 hj (List.getElem?_eq_some_iff.mp hi).1) (by rw [hj]; exact ia_get A2 hi) (g := mkF (km K) pc Ls (.int j :: .ref a :: st)) rfl rfl hd t s⟩) G
theorem g_baload {a : Addr} {vs : List Int32} {j x : Int32} {i : Nat} (hd : decode bytes pc = .ok (.baload, 1)) (A : Ia Z h a .byte vs) (hj0 : ¬ j < 0) (hj : j.toNatClampNeg = i) (hi : vs[i]? = some x) (hp : pc + 1 = pc') (G : Go l Z n0 EL mn bytes ml ret R h0 ws fr Q K sf h k n pc' Ls (.int x :: st)) : Go l Z n0 EL mn bytes ml ret R h0 ws fr Q K sf h k n pc Ls (.int j :: .ref a :: st) :=
  g_law (fun s' T locs hx hb hml hown hnm hZ X e ho => ⟨T, X, e, fun t s => by
    subst hb hp
    obtain ⟨c, A1, A2, A3, A4⟩ := A
    exact X.baloadBytes hx (j := j) (v := .int x) (by rw [e]; exact A1.1) (State.isArrayOf_alike hZ.alike A1.2.1) A1.2.2 (ia_inb A2 hj0 hj (List.getElem?_eq_some_iff.mp hi).1) (by rw [hj]; exact ia_get A2 hi) (g := mkF (km K) pc Ls (.int j :: .ref a :: st)) rfl rfl hd t s⟩) G
theorem g_iaload {a : Addr} {vs : List Int32} {j x : Int32} {i : Nat} (hd : decode bytes pc = .ok (.iaload, 1)) (A : Ia Z h a .int vs) (hj0 : ¬ j < 0) (hj : j.toNatClampNeg = i) (hi : vs[i]? = some x) (hp : pc + 1 = pc') (G : Go l Z n0 EL mn bytes ml ret R h0 ws fr Q K sf h k n pc' Ls (.int x :: st)) : Go l Z n0 EL mn bytes ml ret R h0 ws fr Q K sf h k n pc Ls (.int j :: .ref a :: st) :=
  g_law (fun s' T locs hx hb hml hown hnm hZ X e ho => ⟨T, X, e, fun t s => by
    subst hb hp
    obtain ⟨c, A1, A2, A3, A4⟩ := A
    exact X.iaload hx (j := j) (v := .int x) (by rw [e]; exact A1.1) (State.isArrayOf_alike hZ.alike A1.2.1) A1.2.2 (ia_inb A2 hj0 hj (List.getElem?_eq_some_iff.mp hi).1) (by rw [hj]; exact ia_get A2 hi) (g := mkF (km K) pc Ls (.int j :: .ref a :: st)) rfl rfl hd t s⟩) G
theorem g_castore {a : Addr} {vs : List Int32} {j x : Int32} {i : Nat} (hd : decode bytes pc = .ok (.castore, 1)) (A : Ia Z h a .char vs) (hj0 : ¬ j < 0) (hj : j.toNatClampNeg = i) (hi : i < vs.length) (hin : a ∈ ws ∨ h0.size ≤ a) (hsf : a ∈ sf) (hp : pc + 1 = pc') (G : ∀ h', Keep h h' [a] → Ia Z h' a .char (vs.set i (nar .char x)) → Go l Z n0 EL mn bytes ml ret R h0 ws fr Q K sf h' k n pc' Ls st) : Go l Z n0 EL mn bytes ml ret R h0 ws fr Q K sf h k n pc Ls (.int x :: .int j :: .ref a :: st) :=
  g_wr (i := i) (v := .int (nar .char x)) (fun s' T locs hx hb hml hown hnm hZ X e ho => by
    subst hb hp hj
    obtain ⟨c, A1, A2, A3, A4⟩ := A
    exact stC X hx hZ e A1 (j := j) (ia_inb A2 hj0 rfl hi) (g := mkF (km K) pc Ls (.int x :: .int j :: .ref a :: st)) rfl rfl hd) hin hsf (fun h' W => G h' (Keep.of_wr W) (ia_put A W (fits_nar_char _)))
theorem g_bastore {a : Addr} {vs : List Int32} {j x : Int32} {i : Nat} (hd : decode bytes pc = .ok (.bastore, 1)) (A : Ia Z h a .byte vs) (hj0 : ¬ j < 0) (hj : j.toNatClampNeg = i) (hi : i < vs.length) (hin : a ∈ ws ∨ h0.size ≤ a) (hsf : a ∈ sf) (hp : pc + 1 = pc') (G : ∀ h', Keep h h' [a] → Ia Z h' a .byte (vs.set i (nar .byte x)) → Go l Z n0 EL mn bytes ml ret R h0 ws fr Q K sf h' k n pc' Ls st) : Go l Z n0 EL mn bytes ml ret R h0 ws fr Q K sf h k n pc Ls (.int x :: .int j :: .ref a :: st) :=
  g_wr (i := i) (v := .int (nar .byte x)) (fun s' T locs hx hb hml hown hnm hZ X e ho => by
    subst hb hp hj
    obtain ⟨c, A1, A2, A3, A4⟩ := A
    exact stB X hx hZ e A1 (j := j) (ia_inb A2 hj0 rfl hi) (g := mkF (km K) pc Ls (.int x :: .int j :: .ref a :: st)) rfl rfl hd) hin hsf (fun h' W => G h' (Keep.of_wr W) (ia_put A W (fits_nar_byte _)))
theorem g_iastore {a : Addr} {vs : List Int32} {j x : Int32} {i : Nat} (hd : decode bytes pc = .ok (.iastore, 1)) (A : Ia Z h a .int vs) (hj0 : ¬ j < 0) (hj : j.toNatClampNeg = i) (hi : i < vs.length) (hin : a ∈ ws ∨ h0.size ≤ a) (hsf : a ∈ sf) (hp : pc + 1 = pc') (G : ∀ h', Keep h h' [a] → Ia Z h' a .int (vs.set i x) → Go l Z n0 EL mn bytes ml ret R h0 ws fr Q K sf h' k n pc' Ls st) : Go l Z n0 EL mn bytes ml ret R h0 ws fr Q K sf h k n pc Ls (.int x :: .int j :: .ref a :: st) :=
  g_wr (i := i) (v := .int x) (fun s' T locs hx hb hml hown hnm hZ X e ho => by
    subst hb hp hj
    obtain ⟨c, A1, A2, A3, A4⟩ := A
    exact stI X hx hZ e A1 (j := j) (ia_inb A2 hj0 rfl hi) (g := mkF (km K) pc Ls (.int x :: .int j :: .ref a :: st)) rfl rfl hd) hin hsf (fun h' W => G h' (Keep.of_wr W) (ia_put A W rfl))
theorem g_alen {a : Addr} {ty : FieldType} {vs : List Int32} {x : Int32} (hd : decode bytes pc = .ok (.arraylength, 1)) (A : Ia Z h a ty vs) (hv : Int32.ofNat vs.length = x) (hp : pc + 1 = pc') (G : Go l Z n0 EL mn bytes ml ret R h0 ws fr Q K sf h k n pc' Ls (.int x :: st)) : Go l Z n0 EL mn bytes ml ret R h0 ws fr Q K sf h k n pc Ls (.ref a :: st) :=
  g_law (fun s' T locs hx hb hml hown hnm hZ X e ho => ⟨T, X, e, fun t s => by
    subst hb hp hv
    obtain ⟨c, A1, A2, A3, A4⟩ := A
    have es : c.slots.size = vs.length := by rw [← Array.length_toList, A2, List.length_map]
    refine X.arraylength hx (by rw [e]; exact A1.1) (State.isArrayOf_alike hZ.alike A1.2.1) (g := mkF (km K) pc Ls (.ref a :: st)) rfl rfl hd t ?_
    rw [es]; exact s⟩) G
-- returns
theorem g_ireturn {x : Int32} (hd : decode bytes pc = .ok (.ireturn, 1)) (hr : ret = some .int) (hq : Q (.int x) h) (hk : k ≤ R.cells) (hn : n ≤ R.slots) : Go l Z n0 EL mn bytes ml ret R h0 ws fr Q K sf h k n pc Ls (.int x :: st) :=
  g_ret (w := .int x) (fun s' T locs hx hb X hret fs hl => by subst hb hr; exact retOut X hx hret rfl (Or.inl ⟨rfl, Or.inl rfl, x, rfl⟩) hd hl) hq (fun _ _ e => nomatch e) hk hn
theorem g_ireturnN {x z : Int32} {t : FieldType} (hd : decode bytes pc = .ok (.ireturn, 1)) (hr : ret = some t) (ht : t = .boolean ∨ t = .byte ∨ t = .char ∨ t = .short) (hz : nar t x = z) (hq : Q (.int z) h) (hk : k ≤ R.cells) (hn : n ≤ R.slots) : Go l Z n0 EL mn bytes ml ret R h0 ws fr Q K sf h k n pc Ls (.int x :: st) :=
  g_ret (w := .int z) (fun s' T locs hx hb X hret fs hl => by subst hb hr hz; exact retN X hx hret ht hd hl) hq (fun _ _ e => nomatch e) hk hn
theorem g_lreturn {x : Int64} (hd : decode bytes pc = .ok (.lreturn, 1)) (hr : ret = some .long) (hq : Q (.long x) h) (hk : k ≤ R.cells) (hn : n ≤ R.slots) : Go l Z n0 EL mn bytes ml ret R h0 ws fr Q K sf h k n pc Ls (.long x :: st) :=
  g_ret (w := .long x) (fun s' T locs hx hb X hret fs hl => by subst hb hr; exact retOut X hx hret rfl (Or.inr (Or.inl ⟨rfl, rfl, x, rfl⟩)) hd hl) hq (fun _ _ e => nomatch e) hk hn
theorem g_areturnF {x : Value} {t : FieldType} (hd : decode bytes pc = .ok (.areturn, 1)) (hr : ret = some t) (ht : t.isReference = true) (hv : x.isRef = true) (hq : Q x h) (hfr : fr = true → ∀ a, x = .ref a → a ∈ sf) (hk : k ≤ R.cells) (hn : n ≤ R.slots) : Go l Z n0 EL mn bytes ml ret R h0 ws fr Q K sf h k n pc Ls (x :: st) :=
  g_ret (w := x) (fun s' T locs hx hb X hret fs hl => by
    subst hb hr
    have hnw : narrow t x = x := by rcases ref_cases hv with rfl | ⟨b, rfl⟩ <;> cases t <;> first | rfl | cases ht
    exact retOut X hx hret hnw (Or.inr (Or.inr (Or.inr (Or.inr ⟨rfl, ht, hv⟩)))) hd hl) hq hfr hk hn
theorem g_areturn {x : Value} {t : FieldType} (hd : decode bytes pc = .ok (.areturn, 1)) (hr : ret = some t) (ht : t.isReference = true) (hv : x.isRef = true) (hq : Q x h) (hk : k ≤ R.cells) (hn : n ≤ R.slots) (hfr : fr = false := by rfl) : Go l Z n0 EL mn bytes ml ret R h0 ws fr Q K sf h k n pc Ls (x :: st) :=
  g_areturnF hd hr ht hv hq (fun q => by rw [hfr] at q; cases q) hk hn
theorem g_return (hd : decode bytes pc = .ok (.return_, 1)) (hr : ret = none) (hq : Q .null h) (hk : k ≤ R.cells) (hn : n ≤ R.slots) : Go l Z n0 EL mn bytes ml ret R h0 ws fr Q K sf h k n pc Ls [] :=
  g_ret (w := .null) (fun s' T locs hx hb X hret fs hl => by subst hb hr; exact X.returnOut hx hret hd hl) hq (fun _ _ e => nomatch e) hk hn
-- calls by a Back form
def Bk (l : Launch) (Z : State) (n0 : Nat) (R : Room) (h0 : Heap) (ws : List Addr) (h : Heap) (y : MethodName) (W kc' nc : Nat) (as : Array Value) (Qc : Option Value → Heap → List Loc → Prop) : Prop :=
  ∀ (p : Program) (e : Env) (below : List Frame) (s : State) (args : Array Value), Z.Warmed39 s.vm → Old Z n0 h → Keep h0 h ws → Back l R p e below s args y 3 W (fun A a => a = as ∧ A.U.heap = h ∧ A.cells + kc' ≤ R.cells ∧ A.slots + nc ≤ R.slots) (fun A _ v B => ∃ L, Qc v B.U.heap L ∧ B.locs = A.locs ++ L ∧ B.cells = A.cells + kc' ∧ B.slots = A.slots + nc)
theorem nf_self {y : MethodName} {C : String} (w : (Jvm.Cond.selects C y y).before a0 Z = true) : ∀ s : State, Z.Warmed39 s.vm → NotFace s y := fun s hZ => notFace_of_selects (args := #[]) (mvT hZ w)
theorem g_staticB {idx W kc' nc : Nat} {y : MethodName} {ret' : Option FieldType} {bytes' : ByteArray} {maxL : Nat} {argsL rest : List Value} {wsb : List Addr} {Qc : Option Value → Heap → List Loc → Prop} (hd : decode bytes pc = .ok (.invokestatic idx, 3)) (wl : (Jvm.Cond.methodLink mn.cls idx y).before a0 Z = true) (wst : (Jvm.Cond.static y).before a0 Z = true) (wz : (Jvm.Cond.initialized y.cls).before a0 Z = true) (wc : (Jvm.Cond.code y bytes' maxL ret').before a0 Z = true) (hy : y.cls ≠ "java/lang/invoke/MethodHandle" ∧ y.cls ≠ "java/lang/invoke/VarHandle") (hlen : ∀ sig, parseMethodDescriptor y.desc = some sig → argsL.length = sig.parameters.length)
    (B : Bk l Z n0 R h0 ws h y W kc' nc argsL.toArray Qc) (hQ : Keep h0 h ws → ∀ v h' L, Qc v h' L → Nw h0 ws L ∧ Keep h h' wsb) (hsf : ∀ x ∈ wsb, x ∈ sf)
    (hs : st = argsL.reverse ++ rest) (hW : (rest.map fun v => v.category).sum ≤ W) (hsz : Ls.size = ml) (hk : k + kc' ≤ R.cells) (hn : n + nc ≤ R.slots) (hp : pc + 3 = pc')
    (G : ∀ v h' L, Qc v h' L → Go l Z n0 EL mn bytes ml ret R h0 ws fr Q K sf h' (k + kc') (n + nc) pc' Ls (v.toList ++ rest)) : Go l Z n0 EL mn bytes ml ret R h0 ws fr Q K sf h k n pc Ls st :=
  g_call (fun s' T locs hx hb hml hown hnm hZ X e ho hKp => by
    subst hb hp
    obtain ⟨v, vm₁, ⟨T', L', c', s''⟩, -, X', ⟨Lc, hQ', e1, e2, e3⟩, S⟩ := Jvm.LawKit.callS X hx (y := y) hown (mvT hZ wl) (mvT hZ wst) (mvT hZ wz) (mvT hZ wc) hy (B _ _ _ _ _ hZ ho hKp) (g := mkF (km K) pc Ls st) rfl (hsz.trans hml.symm) (argsL := argsL) (rest := rest) hlen hs (by show 2 * 0 + _ ≤ _; omega) hd (fun _ _ => ⟨rfl, e, hk, hn⟩)
    dsimp only [Pt.U, Pt.locs, Pt.cells, Pt.slots] at X' e1 e2 e3 S hQ'
    subst e1 e2 e3
    exact ⟨v, T', Lc, X', hQ', S⟩) hQ hsf G
theorem g_initB {idx W kc' nc : Nat} {y : MethodName} {bytes' : ByteArray} {maxL : Nat} {a : Addr} {argsL rest : List Value} {wsb : List Addr} {Qc : Option Value → Heap → List Loc → Prop} (hd : decode bytes pc = .ok (.invokespecial idx, 3)) (hy1 : y.name = "<init>") (wl : (Jvm.Cond.methodLink mn.cls idx y).before a0 Z = true) (wst : (Jvm.Cond.instanceMethod y).before a0 Z = true) (wc : (Jvm.Cond.code y bytes' maxL none).before a0 Z = true) (hy : y.cls ≠ "java/lang/invoke/MethodHandle" ∧ y.cls ≠ "java/lang/invoke/VarHandle") (hlen : ∀ sig, parseMethodDescriptor y.desc = some sig → argsL.length = sig.parameters.length)
    (B : Bk l Z n0 R h0 ws h y W kc' nc (.ref a :: argsL).toArray Qc) (hQ : Keep h0 h ws → ∀ v h' L, Qc v h' L → Nw h0 ws L ∧ Keep h h' wsb) (hsf : ∀ x ∈ wsb, x ∈ sf)
    (hs : st = argsL.reverse ++ .ref a :: rest) (hW : (rest.map fun v => v.category).sum ≤ W) (hsz : Ls.size = ml) (hk : k + kc' ≤ R.cells) (hn : n + nc ≤ R.slots) (hp : pc + 3 = pc')
    (G : ∀ v h' L, Qc v h' L → Go l Z n0 EL mn bytes ml ret R h0 ws fr Q K sf h' (k + kc') (n + nc) pc' Ls (v.toList ++ rest)) : Go l Z n0 EL mn bytes ml ret R h0 ws fr Q K sf h k n pc Ls st :=
  g_call (fun s' T locs hx hb hml hown hnm hZ X e ho hKp => by
    subst hb hp
    obtain ⟨v, vm₁, ⟨T', L', c', s''⟩, -, X', ⟨Lc, hQ', e1, e2, e3⟩, S⟩ := X.specialBack hx (y := y) hy1 hown (mvT hZ wl) (mvT hZ wst) (mvT hZ wc) hy (B _ _ _ _ _ hZ ho hKp) (g := mkF (km K) pc Ls st) rfl (hsz.trans hml.symm) (Steps.refl _) (a := a) (argsL := argsL) (rest := rest) hlen hs (by show 2 * 0 + _ ≤ _; omega) hd (fun _ _ => ⟨rfl, e, hk, hn⟩)
    dsimp only [Pt.U, Pt.locs, Pt.cells, Pt.slots] at X' e1 e2 e3 S hQ'
    subst e1 e2 e3
    exact ⟨v, T', Lc, X', hQ', fun t u => S.trans u⟩) hQ hsf G
theorem g_virtB {idx W kc' nc : Nat} {y : MethodName} {a : Addr} {z : MethodName} {C : String} {argsL rest : List Value} {wsb : List Addr} {Qc : Option Value → Heap → List Loc → Prop} (hd : decode bytes pc = .ok (.invokevirtual idx, 3)) (wl : (Jvm.Cond.methodLink mn.cls idx y).before a0 Z = true) (wd : (Jvm.Cond.declares y).before a0 Z = true) (hnf : ∀ s : State, Z.Warmed39 s.vm → NotFace s y) (wsel : (Jvm.Cond.selects C y z).before a0 Z = true) (wst : (Jvm.Cond.instanceMethod z).before a0 Z = true) (hy : y.cls ≠ "java/lang/invoke/MethodHandle" ∧ y.cls ≠ "java/lang/invoke/VarHandle") (hlen : ∀ sig, parseMethodDescriptor y.desc = some sig → argsL.length = sig.parameters.length) (E : Exa Z h a C)
    (B : Bk l Z n0 R h0 ws h z W kc' nc (.ref a :: argsL).toArray Qc) (hQ : Keep h0 h ws → ∀ v h' L, Qc v h' L → Nw h0 ws L ∧ Keep h h' wsb) (hsf : ∀ x ∈ wsb, x ∈ sf)
    (hs : st = argsL.reverse ++ .ref a :: rest) (hW : (rest.map fun v => v.category).sum ≤ W) (hsz : Ls.size = ml) (hk : k + kc' ≤ R.cells) (hn : n + nc ≤ R.slots) (hp : pc + 3 = pc')
    (G : ∀ v h' L, Qc v h' L → Go l Z n0 EL mn bytes ml ret R h0 ws fr Q K sf h' (k + kc') (n + nc) pc' Ls (v.toList ++ rest)) : Go l Z n0 EL mn bytes ml ret R h0 ws fr Q K sf h k n pc Ls st :=
  g_call (fun s' T locs hx hb hml hown hnm hZ X e ho hKp => by
    subst hb hp
    obtain ⟨cq, kq, q1, q2, q3⟩ := isOf hZ e E
    obtain ⟨v, vm₁, ⟨T', L', c', s''⟩, -, X', ⟨Lc, hQ', e1, e2, e3⟩, S⟩ := X.virtualBack hx (y := y) (z := z) hown (mvT hZ wl) (mvT hZ wd) (hnf _ hZ) (mvT hZ wsel) (mvT hZ wst) hy (B _ _ _ _ _ hZ ho hKp) q1 q3 (g := mkF (km K) pc Ls st) rfl (hsz.trans hml.symm) (Steps.refl _) (argsL := argsL) (rest := rest) hlen hs (by show 2 * 0 + _ ≤ _; omega) hd (fun _ _ => ⟨rfl, e, hk, hn⟩)
    dsimp only [Pt.U, Pt.locs, Pt.cells, Pt.slots] at X' e1 e2 e3 S hQ'
    subst e1 e2 e3
    exact ⟨v, T', Lc, X', hQ', fun t u => S.trans u⟩) hQ hsf G
/-- what a contract gives its caller -/
def Qb (ret' : Option FieldType) (h : Heap) (ws' : List Addr) (Q' : Value → Heap → Prop) (v : Option Value) (h' : Heap) (L : List Loc) : Prop := (∃ w, v = Rv ret' w ∧ Q' w h' ∧ Keep h h' ws') ∧ Nw h ws' L
theorem bk_of {y : MethodName} {bytes' : ByteArray} {ml' : Nat} {ret' : Option FieldType} {rm : Room} {as : Array Value} {ws' : List Addr} {fr' : Bool} {Q' : Value → Heap → Prop} {W : Nat} (C : Con l Z n0 EL y bytes' ml' ret' [] rm as h ws' fr' Q') (wc : (Jvm.Cond.code y bytes' ml' ret').before a0 Z = true) (wz : (Jvm.Cond.initialized y.cls).before a0 Z = true)
    (hf : rm.frames + 1 ≤ R.frames) (hl : W + (ml' + 11) + rm.locals ≤ R.locals) (hn0 : ∀ x ∈ ws', n0 ≤ x) : Bk l Z n0 R h0 ws h y W rm.cells rm.slots as (Qb ret' h ws' Q') := fun p e below s args hZ ho hkeep =>
  backOf (C ho hn0) hZ wc wz hf hl
theorem nw_of {ret' : Option FieldType} {ws' : List Addr} {Q' : Value → Heap → Prop} {v : Option Value} {h' : Heap} {L : List Loc} (Kp : Keep h0 h ws) (hws : ∀ x ∈ ws', x ∈ ws ∨ h0.size ≤ x) (q : Qb ret' h ws' Q' v h' L) : Nw h0 ws L := fun x hx => (q.2 x hx).elim (hws _) fun r => Or.inr (Nat.le_trans Kp.1 r)
theorem go_n0 (G : n0 ≤ h0.size → (∀ x ∈ ws, n0 ≤ x) → Go l Z n0 EL mn bytes ml ret R h0 ws fr Q K sf h k n pc Ls st) : Go l Z n0 EL mn bytes ml ret R h0 ws fr Q K sf h k n pc Ls st := fun ok T locs X e N =>
  G (by obtain ⟨-, -, -, -, -, -, -, -, eh, ho, hws⟩ := ok; exact ho.1 ▸ ho.2.1) (by obtain ⟨-, -, -, -, -, -, -, -, eh, ho, hws⟩ := ok; exact hws) ok T locs X e N
/-- the object that a callee hands back as one of its own making -/
def frs (fr : Bool) (w : Value) : List Addr := match fr, w with
  | true, .ref a => [a]
  | _, _ => []
theorem g_static {idx W maxL : Nat} {y : MethodName} {bytes' : ByteArray} {t : FieldType} {argsL rest : List Value} {rm : Room} {ws' : List Addr} {fr' : Bool} {Q' : Value → Heap → Prop} (hd : decode bytes pc = .ok (.invokestatic idx, 3)) (wl : (Jvm.Cond.methodLink mn.cls idx y).before a0 Z = true) (wst : (Jvm.Cond.static y).before a0 Z = true) (hy : y.cls ≠ "java/lang/invoke/MethodHandle" ∧ y.cls ≠ "java/lang/invoke/VarHandle") (hlen : ∀ sig, parseMethodDescriptor y.desc = some sig → argsL.length = sig.parameters.length)
    (C' : Con l Z n0 EL y bytes' maxL (some t) [] rm argsL.toArray h ws' fr' Q') (wc : (Jvm.Cond.code y bytes' maxL (some t)).before a0 Z = true) (wz : (Jvm.Cond.initialized y.cls).before a0 Z = true) (hf : rm.frames + 1 ≤ R.frames) (hl : W + (maxL + 11) + rm.locals ≤ R.locals) (hws : ∀ x ∈ ws', (x ∈ ws ∨ h0.size ≤ x) ∧ x ∈ sf)
    (hs : st = argsL.reverse ++ rest) (hW : (rest.map fun v => v.category).sum ≤ W) (hsz : Ls.size = ml) (hk : k + rm.cells ≤ R.cells) (hn : n + rm.slots ≤ R.slots) (hp : pc + 3 = pc')
    (G : ∀ w h', Q' w h' → Keep h h' ws' → Go l Z n0 EL mn bytes ml ret R h0 ws fr Q K (frs fr' w ++ sf) h' (k + rm.cells) (n + rm.slots) pc' Ls (w :: rest)) : Go l Z n0 EL mn bytes ml ret R h0 ws fr Q K sf h k n pc Ls st :=
  go_n0 fun hn0 hn1 => g_staticB (bytes' := bytes') (maxL := maxL) (ret' := (some t)) (W := W) (argsL := argsL) (rest := rest) (wsb := ws') hd wl wst wz wc hy hlen (bk_of (W := W) C' wc wz hf hl fun x hx => (hws x hx).1.elim (hn1 x) fun q => Nat.le_trans hn0 q) (fun Kp v h' L q => ⟨nw_of Kp (fun x hx => (hws x hx).1) q, by obtain ⟨⟨w, -, -, q2⟩, -⟩ := q; exact q2⟩) (fun x hx => (hws x hx).2) hs hW hsz hk hn hp (fun v h' L q => by
    obtain ⟨⟨w, rfl, q1, q2⟩, -⟩ := q
    exact G w h' q1 q2)
theorem g_staticN {idx W maxL : Nat} {y : MethodName} {bytes' : ByteArray} {argsL rest : List Value} {rm : Room} {ws' : List Addr} {fr' : Bool} {Q' : Value → Heap → Prop} (hd : decode bytes pc = .ok (.invokestatic idx, 3)) (wl : (Jvm.Cond.methodLink mn.cls idx y).before a0 Z = true) (wst : (Jvm.Cond.static y).before a0 Z = true) (hy : y.cls ≠ "java/lang/invoke/MethodHandle" ∧ y.cls ≠ "java/lang/invoke/VarHandle") (hlen : ∀ sig, parseMethodDescriptor y.desc = some sig → argsL.length = sig.parameters.length)
    (C' : Con l Z n0 EL y bytes' maxL none [] rm argsL.toArray h ws' fr' Q') (wc : (Jvm.Cond.code y bytes' maxL none).before a0 Z = true) (wz : (Jvm.Cond.initialized y.cls).before a0 Z = true) (hf : rm.frames + 1 ≤ R.frames) (hl : W + (maxL + 11) + rm.locals ≤ R.locals) (hws : ∀ x ∈ ws', (x ∈ ws ∨ h0.size ≤ x) ∧ x ∈ sf)
    (hs : st = argsL.reverse ++ rest) (hW : (rest.map fun v => v.category).sum ≤ W) (hsz : Ls.size = ml) (hk : k + rm.cells ≤ R.cells) (hn : n + rm.slots ≤ R.slots) (hp : pc + 3 = pc')
    (G : ∀ w h', Q' w h' → Keep h h' ws' → Go l Z n0 EL mn bytes ml ret R h0 ws fr Q K sf h' (k + rm.cells) (n + rm.slots) pc' Ls rest) : Go l Z n0 EL mn bytes ml ret R h0 ws fr Q K sf h k n pc Ls st :=
  go_n0 fun hn0 hn1 => g_staticB (bytes' := bytes') (maxL := maxL) (ret' := none) (W := W) (argsL := argsL) (rest := rest) (wsb := ws') hd wl wst wz wc hy hlen (bk_of (W := W) C' wc wz hf hl fun x hx => (hws x hx).1.elim (hn1 x) fun q => Nat.le_trans hn0 q) (fun Kp v h' L q => ⟨nw_of Kp (fun x hx => (hws x hx).1) q, by obtain ⟨⟨w, -, -, q2⟩, -⟩ := q; exact q2⟩) (fun x hx => (hws x hx).2) hs hW hsz hk hn hp (fun v h' L q => by
    obtain ⟨⟨w, rfl, q1, q2⟩, -⟩ := q
    exact G w h' q1 q2)
theorem g_init {idx W maxL : Nat} {y : MethodName} {bytes' : ByteArray} {a : Addr} {argsL rest : List Value} {rm : Room} {ws' : List Addr} {fr' : Bool} {Q' : Value → Heap → Prop} (hd : decode bytes pc = .ok (.invokespecial idx, 3)) (hy1 : y.name = "<init>") (wl : (Jvm.Cond.methodLink mn.cls idx y).before a0 Z = true) (wst : (Jvm.Cond.instanceMethod y).before a0 Z = true) (hy : y.cls ≠ "java/lang/invoke/MethodHandle" ∧ y.cls ≠ "java/lang/invoke/VarHandle") (hlen : ∀ sig, parseMethodDescriptor y.desc = some sig → argsL.length = sig.parameters.length)
    (C' : Con l Z n0 EL y bytes' maxL none [] rm (.ref a :: argsL).toArray h ws' fr' Q') (wc : (Jvm.Cond.code y bytes' maxL none).before a0 Z = true) (wz : (Jvm.Cond.initialized y.cls).before a0 Z = true) (hf : rm.frames + 1 ≤ R.frames) (hl : W + (maxL + 11) + rm.locals ≤ R.locals) (hws : ∀ x ∈ ws', (x ∈ ws ∨ h0.size ≤ x) ∧ x ∈ sf)
    (hs : st = argsL.reverse ++ .ref a :: rest) (hW : (rest.map fun v => v.category).sum ≤ W) (hsz : Ls.size = ml) (hk : k + rm.cells ≤ R.cells) (hn : n + rm.slots ≤ R.slots) (hp : pc + 3 = pc')
    (G : ∀ w h', Q' w h' → Keep h h' ws' → Go l Z n0 EL mn bytes ml ret R h0 ws fr Q K sf h' (k + rm.cells) (n + rm.slots) pc' Ls rest) : Go l Z n0 EL mn bytes ml ret R h0 ws fr Q K sf h k n pc Ls st :=
  go_n0 fun hn0 hn1 => g_initB (bytes' := bytes') (maxL := maxL) (W := W) (argsL := argsL) (rest := rest) (wsb := ws') hd hy1 wl wst wc hy hlen (bk_of (W := W) C' wc wz hf hl fun x hx => (hws x hx).1.elim (hn1 x) fun q => Nat.le_trans hn0 q) (fun Kp v h' L q => ⟨nw_of Kp (fun x hx => (hws x hx).1) q, by obtain ⟨⟨w, -, -, q2⟩, -⟩ := q; exact q2⟩) (fun x hx => (hws x hx).2) hs hW hsz hk hn hp (fun v h' L q => by
    obtain ⟨⟨w, rfl, q1, q2⟩, -⟩ := q
    exact G w h' q1 q2)
theorem g_virt {idx W maxL : Nat} {y : MethodName} {bytes' : ByteArray} {t : FieldType} {a : Addr} {z : MethodName} {C : String} {argsL rest : List Value} {rm : Room} {ws' : List Addr} {fr' : Bool} {Q' : Value → Heap → Prop} (hd : decode bytes pc = .ok (.invokevirtual idx, 3)) (wl : (Jvm.Cond.methodLink mn.cls idx y).before a0 Z = true) (wd : (Jvm.Cond.declares y).before a0 Z = true) (hnf : ∀ s : State, Z.Warmed39 s.vm → NotFace s y) (wsel : (Jvm.Cond.selects C y z).before a0 Z = true) (wst : (Jvm.Cond.instanceMethod z).before a0 Z = true) (hy : y.cls ≠ "java/lang/invoke/MethodHandle" ∧ y.cls ≠ "java/lang/invoke/VarHandle") (hlen : ∀ sig, parseMethodDescriptor y.desc = some sig → argsL.length = sig.parameters.length) (E : Exa Z h a C)
    (C' : Con l Z n0 EL z bytes' maxL (some t) [] rm (.ref a :: argsL).toArray h ws' fr' Q') (wc : (Jvm.Cond.code z bytes' maxL (some t)).before a0 Z = true) (wz : (Jvm.Cond.initialized z.cls).before a0 Z = true) (hf : rm.frames + 1 ≤ R.frames) (hl : W + (maxL + 11) + rm.locals ≤ R.locals) (hws : ∀ x ∈ ws', (x ∈ ws ∨ h0.size ≤ x) ∧ x ∈ sf)
    (hs : st = argsL.reverse ++ .ref a :: rest) (hW : (rest.map fun v => v.category).sum ≤ W) (hsz : Ls.size = ml) (hk : k + rm.cells ≤ R.cells) (hn : n + rm.slots ≤ R.slots) (hp : pc + 3 = pc')
    (G : ∀ w h', Q' w h' → Keep h h' ws' → Go l Z n0 EL mn bytes ml ret R h0 ws fr Q K (frs fr' w ++ sf) h' (k + rm.cells) (n + rm.slots) pc' Ls (w :: rest)) : Go l Z n0 EL mn bytes ml ret R h0 ws fr Q K sf h k n pc Ls st :=
  go_n0 fun hn0 hn1 => g_virtB (W := W) (argsL := argsL) (rest := rest) (wsb := ws') hd wl wd hnf wsel wst hy hlen E (bk_of (W := W) C' wc wz hf hl fun x hx => (hws x hx).1.elim (hn1 x) fun q => Nat.le_trans hn0 q) (fun Kp v h' L q => ⟨nw_of Kp (fun x hx => (hws x hx).1) q, by obtain ⟨⟨w, -, -, q2⟩, -⟩ := q; exact q2⟩) (fun x hx => (hws x hx).2) hs hW hsz hk hn hp (fun v h' L q => by
    obtain ⟨⟨w, rfl, q1, q2⟩, -⟩ := q
    exact G w h' q1 q2)
theorem g_virtN {idx W maxL : Nat} {y : MethodName} {bytes' : ByteArray} {a : Addr} {z : MethodName} {C : String} {argsL rest : List Value} {rm : Room} {ws' : List Addr} {fr' : Bool} {Q' : Value → Heap → Prop} (hd : decode bytes pc = .ok (.invokevirtual idx, 3)) (wl : (Jvm.Cond.methodLink mn.cls idx y).before a0 Z = true) (wd : (Jvm.Cond.declares y).before a0 Z = true) (hnf : ∀ s : State, Z.Warmed39 s.vm → NotFace s y) (wsel : (Jvm.Cond.selects C y z).before a0 Z = true) (wst : (Jvm.Cond.instanceMethod z).before a0 Z = true) (hy : y.cls ≠ "java/lang/invoke/MethodHandle" ∧ y.cls ≠ "java/lang/invoke/VarHandle") (hlen : ∀ sig, parseMethodDescriptor y.desc = some sig → argsL.length = sig.parameters.length) (E : Exa Z h a C)
    (C' : Con l Z n0 EL z bytes' maxL none [] rm (.ref a :: argsL).toArray h ws' fr' Q') (wc : (Jvm.Cond.code z bytes' maxL none).before a0 Z = true) (wz : (Jvm.Cond.initialized z.cls).before a0 Z = true) (hf : rm.frames + 1 ≤ R.frames) (hl : W + (maxL + 11) + rm.locals ≤ R.locals) (hws : ∀ x ∈ ws', (x ∈ ws ∨ h0.size ≤ x) ∧ x ∈ sf)
    (hs : st = argsL.reverse ++ .ref a :: rest) (hW : (rest.map fun v => v.category).sum ≤ W) (hsz : Ls.size = ml) (hk : k + rm.cells ≤ R.cells) (hn : n + rm.slots ≤ R.slots) (hp : pc + 3 = pc')
    (G : ∀ w h', Q' w h' → Keep h h' ws' → Go l Z n0 EL mn bytes ml ret R h0 ws fr Q K sf h' (k + rm.cells) (n + rm.slots) pc' Ls rest) : Go l Z n0 EL mn bytes ml ret R h0 ws fr Q K sf h k n pc Ls st :=
  go_n0 fun hn0 hn1 => g_virtB (W := W) (argsL := argsL) (rest := rest) (wsb := ws') hd wl wd hnf wsel wst hy hlen E (bk_of (W := W) C' wc wz hf hl fun x hx => (hws x hx).1.elim (hn1 x) fun q => Nat.le_trans hn0 q) (fun Kp v h' L q => ⟨nw_of Kp (fun x hx => (hws x hx).1) q, by obtain ⟨⟨w, -, -, q2⟩, -⟩ := q; exact q2⟩) (fun x hx => (hws x hx).2) hs hW hsz hk hn hp (fun v h' L q => by
    obtain ⟨⟨w, rfl, q1, q2⟩, -⟩ := q
    exact G w h' q1 q2)
end Rules
end Jvm.Pilot.@@N@@
/- laws to paste: Road.backV (cut by pick.py; bodies as the Statement names them) -/
namespace Jvm.Pilot.@@N@@
namespace StrChars
open Jvm Sem ClassFile Op Lib Jvm.Stand Jvm.Free.XT Jvm.Free.ALB Jvm.Free.JM Jvm.Free
open Jvm.Lib.Cold (StaticIs)
/-- a char array whose places are chars -/
def Ch (a : Addr) (A : Cell) (U : State) : Prop := Arr .char a A U ∧ Typed .char A
theorem Ch.mv {a : Addr} {A : Cell} {U U' : State} (h : Ch a A U) (hal : U.vm.Alike U'.vm) (hh : U'.heap = U.heap) : Ch a A U' := ⟨h.1.mv hal hh, h.2⟩
theorem Ch.keep {a : Addr} {A : Cell} {U U' : State} (h : Ch a A U) (hal : U.vm.Alike U'.vm) (hk : U'.heap[a]? = some A) : Ch a A U' := ⟨h.1.keep hal hk, h.2⟩
/-- what place i of a char[]'s cell holds -/
def cv (A : Cell) (i : Nat) : Int32 := match A.slots[i]? with | some (.int x) => x | _ => 0
theorem Ch.get {a : Addr} {A : Cell} {U : State} (h : Ch a A U) {i : Nat} (hi : i < A.slots.size) : A.slots[i]? = some (.int (cv A i)) := by
  have e := Array.getElem?_eq_getElem hi
  have f := h.2 i _ e
  unfold cv; rw [e]
  generalize A.slots[i] = v at f
  cases v <;> simp [fits] at f ⊢
/-- the byte that i2b leaves of a char -/
def lo8 (x : Int32) : Int32 := x.toInt8.toInt32
theorem fits_lo8 (y : Int32) : fits .byte (.int (lo8 y)) = true := by
  have h1 := y.toInt8.le_toInt
  have h2 := y.toInt8.toInt_lt
  simp only [lo8, fits, Bool.and_eq_true, decide_eq_true_eq, Int32.le_iff_toInt_le, Int8.toInt_toInt32, show (-128 : Int32).toInt = -128 from by decide, show (127 : Int32).toInt = 127 from by decide]
  omega
/-- A' is A but that each place j of lo .. hi - 1 holds f j -/
def Laid (A A' : Cell) (lo hi : Nat) (f : Nat → Value) : Prop := A'.cls = A.cls ∧ A'.vm = A.vm ∧ A'.slots.size = A.slots.size ∧ ∀ i, A'.slots[i]? = if lo ≤ i ∧ i < hi then some (f i) else A.slots[i]?
theorem Laid.zero (A : Cell) (lo : Nat) (f : Nat → Value) : Laid A A lo (lo + 0) f := ⟨rfl, rfl, rfl, fun i => by rw [if_neg (by omega)]⟩
theorem Laid.step {A Ak : Cell} {lo k : Nat} {f : Nat → Value} {v : Value} (h : Laid A Ak lo k f) (hlo : lo ≤ k) (hk : k < Ak.slots.size) (hv : v = f k) : Laid A (Ak.setSlot k v) lo (k + 1) f := by
  refine ⟨h.1, h.2.1, by simpa [Cell.setSlot] using h.2.2.1, fun i => ?_⟩
  by_cases e : k = i
  · subst e; rw [Cell.slots_setSlot_self v hk, if_pos (by omega), hv]
  · rw [Cell.slots_setSlot_ne v e, h.2.2.2 i]
    by_cases q : lo ≤ i ∧ i < k
    · rw [if_pos q, if_pos (by omega)]
    · rw [if_neg q, if_neg (by omega)]
def U16 : String := "java/lang/StringUTF16"
namespace Cmp5
def yN : MethodName := ⟨"java/lang/StringUTF16", "compress", "([CI[BII)I"⟩
abbrev yB : ByteArray := jdk_52_method_21_code
theorem d0 : decode yB 0 = .ok (.iconst 0, 1) := by decide +kernel
theorem d1 : decode yB 1 = .ok (.istore 5, 2) := by decide +kernel
theorem d3 : decode yB 3 = .ok (.iload 5, 2) := by decide +kernel
theorem d5 : decode yB 5 = .ok (.iload 4, 2) := by decide +kernel
theorem d7 : decode yB 7 = .ok (.if_icmp (.ge) 37, 3) := by decide +kernel
theorem d10 : decode yB 10 = .ok (.aload_n 0, 1) := by decide +kernel
theorem d11 : decode yB 11 = .ok (.iload_n 1, 1) := by decide +kernel
theorem d12 : decode yB 12 = .ok (.caload, 1) := by decide +kernel
theorem d13 : decode yB 13 = .ok (.istore 6, 2) := by decide +kernel
theorem d15 : decode yB 15 = .ok (.iload 6, 2) := by decide +kernel
theorem d17 : decode yB 17 = .ok (.sipush 255, 3) := by decide +kernel
theorem d20 : decode yB 20 = .ok (.if_icmp (.le) 6, 3) := by decide +kernel
theorem d26 : decode yB 26 = .ok (.aload_n 2, 1) := by decide +kernel
theorem d27 : decode yB 27 = .ok (.iload_n 3, 1) := by decide +kernel
theorem d28 : decode yB 28 = .ok (.iload 6, 2) := by decide +kernel
theorem d30 : decode yB 30 = .ok (.i2b, 1) := by decide +kernel
theorem d31 : decode yB 31 = .ok (.bastore, 1) := by decide +kernel
theorem d32 : decode yB 32 = .ok (.iinc 1 1, 3) := by decide +kernel
theorem d35 : decode yB 35 = .ok (.iinc 3 1, 3) := by decide +kernel
theorem d38 : decode yB 38 = .ok (.iinc 5 1, 3) := by decide +kernel
theorem d41 : decode yB 41 = .ok (.goto (-38), 3) := by decide +kernel
theorem d44 : decode yB 44 = .ok (.iload 4, 2) := by decide +kernel
theorem d46 : decode yB 46 = .ok (.ireturn, 1) := by decide +kernel
def site : List Cond := []
def tab : Cond := tabOf yN yB 7 (some .int) site
def P (b : Addr) (A : Cell) (d : Addr) (B : Cell) (o q len : Nat) (args : Array Value) (s : State) : Prop := args = #[.ref b, .int (Int32.ofNat o), .ref d, .int (Int32.ofNat q), .int (Int32.ofNat len)] ∧ Ch b A s ∧ Arr .byte d B s ∧ b ≠ d ∧ o + len ≤ A.slots.size ∧ q + len ≤ B.slots.size ∧ ∀ i, i < len → ¬ 255 < cv A (o + i)
def E (b : Addr) (A : Cell) (d : Addr) (B : Cell) (o q len : Nat) (r : Option Value) (s u : State) : Prop := r = some (.int (Int32.ofNat len)) ∧ ∃ B', Put d B' s u ∧ Laid B B' q (q + len) (fun j => Value.int (lo8 (cv A (o + (j - q)))))
/-- no char of the range above 255: len; the places written hold each char's low byte -/
theorem law (l : Launch) (b : Addr) (A : Cell) (d : Addr) (B : Cell) (o q len : Nat) : Law l yN 5 5 0 0 yB 7 (some .int) site (P b A d B o q len) (E b A d B o q len) (copyLocs d q len) 0 0 := by
  refine Law.of_walk (plainFor_of_name (by decide +kernel)) (by decide +kernel) (by decide +kernel) (by decide) (fun _ _ h => by rw [h.1]; rfl) (fun _ U U' hal hh h => ⟨h.1, h.2.1.mv hal hh, h.2.2.1.mv hal hh, h.2.2.2⟩) (fun r U U' V V' h1 hal h2 h => ⟨h.1, h.2.elim fun B' q => ⟨B', q.1.mv h1 h2, q.2⟩⟩) ?_
  intro p e s m args below meth c s₁ X0 hexec hbytes hml hret hlk hnm hown hh0 W hP
  obtain ⟨rfl, hA, hB, hne, l1, l2, hp⟩ := hP
  have c1 : Steps p.tables e below (s₁.setTop (entryFrame m #[.ref b, .int (Int32.ofNat o), .ref d, .int (Int32.ofNat q), .int (Int32.ofNat len)] 7)) (s₁.setTop (mkF m 0 #[.val (.ref b), .val (.int (Int32.ofNat o)), .val (.ref d), .val (.int (Int32.ofNat q)), .val (.int (Int32.ofNat len)), .unset, .unset] [])) := entry rfl
  have hA0 := hA.1.mv X0.warmed.alike hh0
  have hB0 := hB.mv X0.warmed.alike hh0
  have a31 := hA.1.2.2.2
  have c2 : Steps p.tables e below (s₁.setTop (entryFrame m #[.ref b, .int (Int32.ofNat o), .ref d, .int (Int32.ofNat q), .int (Int32.ofNat len)] 7)) (s₁.setTop (mkF m 3 #[.val (.ref b), .val (.int (Int32.ofNat o)), .val (.ref d), .val (.int (Int32.ofNat q)), .val (.int (Int32.ofNat len)), .val (.int 0), .unset] [])) := c1.trans (by
    refine iconstV X0.here hexec rfl 0 (hb hbytes d0) (by decide) ?_
    refine XS.istore X0.here hexec rfl (hb hbytes d1) rfl rfl ?_
    exact Steps.refl _)
  have loop : ∀ (r i : Nat), i + r = len → ∀ (z : Slot), (z = .unset ∨ ∃ w, z = .val w ∧ w.category = 1) → ∀ (Tl : State) (Bk : Cell), Stand p l e { frames := 0, locals := 0, cells := 0, slots := 0 } s m #[.ref b, .int (Int32.ofNat o), .ref d, .int (Int32.ofNat q), .int (Int32.ofNat len)] below meth c Tl ([] ++ copyLocs d q i) 0 0 → Put d Bk s₁ Tl → Laid B Bk q (q + i) (fun j => Value.int (lo8 (cv A (o + (j - q))))) →
      Steps p.tables e below (s₁.setTop (entryFrame m #[.ref b, .int (Int32.ofNat o), .ref d, .int (Int32.ofNat q), .int (Int32.ofNat len)] 7)) (Tl.setTop (mkF m 3 #[.val (.ref b), .val (.int (Int32.ofNat (o + i))), .val (.ref d), .val (.int (Int32.ofNat (q + i))), .val (.int (Int32.ofNat len)), .val (.int (Int32.ofNat i)), z] [])) → ∃ (T' : State) (B' : Cell) (z' : Slot), Stand p l e { frames := 0, locals := 0, cells := 0, slots := 0 } s m #[.ref b, .int (Int32.ofNat o), .ref d, .int (Int32.ofNat q), .int (Int32.ofNat len)] below meth c T' ([] ++ copyLocs d q len) 0 0 ∧ Put d B' s₁ T' ∧ Laid B B' q (q + len) (fun j => Value.int (lo8 (cv A (o + (j - q))))) ∧
      Steps p.tables e below (s₁.setTop (entryFrame m #[.ref b, .int (Int32.ofNat o), .ref d, .int (Int32.ofNat q), .int (Int32.ofNat len)] 7)) (T'.setTop (mkF m 3 #[.val (.ref b), .val (.int (Int32.ofNat (o + len))), .val (.ref d), .val (.int (Int32.ofNat (q + len))), .val (.int (Int32.ofNat len)), .val (.int (Int32.ofNat len)), z'] [])) := by
    intro r
    induction r with
    | zero =>
      intro i hi z hz Tl Bk Xl pl fl cl
      have hil : i = len := by omega
      rw [hil] at Xl fl cl
      exact ⟨Tl, Bk, z, Xl, pl, fl, cl⟩
    | succ r ih =>
      intro i hi z hz Tl Bk Xl pl fl cl
      have all := X0.warmed.alike.symm.trans Xl.warmed.alike
      have hAl := hA0.keep all (pl.other hne hA0.1)
      have hBk := hB0.like all pl.1 fl.1 fl.2.1 fl.2.2.1
      have hlt : q + i < Bk.slots.size := by rw [fl.2.2.1]; omega
      have c3 : Steps p.tables e below (s₁.setTop (entryFrame m #[.ref b, .int (Int32.ofNat o), .ref d, .int (Int32.ofNat q), .int (Int32.ofNat len)] 7)) (Tl.setTop (mkF m 12 #[.val (.ref b), .val (.int (Int32.ofNat (o + i))), .val (.ref d), .val (.int (Int32.ofNat (q + i))), .val (.int (Int32.ofNat len)), .val (.int (Int32.ofNat i)), z] [.int (Int32.ofNat (o + i)), .ref b])) := cl.trans (by
        refine XS.iload Xl.here hexec rfl (hb hbytes d3) rfl ?_
        refine XS.iload Xl.here hexec rfl (hb hbytes d5) rfl ?_
        refine XS.icmpNo Xl.here hexec rfl (hb hbytes d7) rfl (ii_ge_f (lt32 (by omega) (by omega))) ?_
        refine XS.aloadN Xl.here hexec rfl (hb hbytes d10) rfl rfl ?_
        refine XS.iloadN Xl.here hexec rfl (hb hbytes d11) rfl ?_
        exact Steps.refl _)
      have c4 : Steps p.tables e below (s₁.setTop (entryFrame m #[.ref b, .int (Int32.ofNat o), .ref d, .int (Int32.ofNat q), .int (Int32.ofNat len)] 7)) (Tl.setTop (mkF m 13 #[.val (.ref b), .val (.int (Int32.ofNat (o + i))), .val (.ref d), .val (.int (Int32.ofNat (q + i))), .val (.int (Int32.ofNat len)), .val (.int (Int32.ofNat i)), z] [.int (cv A (o + i))])) := c3.trans (by
        refine Xl.aget hexec hAl rfl (hA.get (i := o + i) (by omega)) rfl rfl (hb hbytes d12) ?_
        exact Steps.refl _)
      have c5 : Steps p.tables e below (s₁.setTop (entryFrame m #[.ref b, .int (Int32.ofNat o), .ref d, .int (Int32.ofNat q), .int (Int32.ofNat len)] 7)) (Tl.setTop (mkF m 15 #[.val (.ref b), .val (.int (Int32.ofNat (o + i))), .val (.ref d), .val (.int (Int32.ofNat (q + i))), .val (.int (Int32.ofNat len)), .val (.int (Int32.ofNat i)), .val (.int (cv A (o + i)))] [])) := c4.trans (by
        refine XS.istoreS Xl.here hexec rfl (hb hbytes d13) rfl rfl hz ?_
        exact Steps.refl _)
      have c6 : Steps p.tables e below (s₁.setTop (entryFrame m #[.ref b, .int (Int32.ofNat o), .ref d, .int (Int32.ofNat q), .int (Int32.ofNat len)] 7)) (Tl.setTop (mkF m 31 #[.val (.ref b), .val (.int (Int32.ofNat (o + i))), .val (.ref d), .val (.int (Int32.ofNat (q + i))), .val (.int (Int32.ofNat len)), .val (.int (Int32.ofNat i)), .val (.int (cv A (o + i)))] [.int (lo8 (cv A (o + i))), .int (Int32.ofNat (q + i)), .ref d])) := c5.trans (by
        refine XS.iload Xl.here hexec rfl (hb hbytes d15) rfl ?_
        refine sipushV Xl.here hexec rfl 255 (hb hbytes d17) (by decide) ?_
        refine XS.icmpYes Xl.here hexec rfl (pc0 := 20) rfl (hb hbytes d20) rfl (ii_le_t (hp i (by omega))) (by decide) rfl ?_
        refine XS.aloadN Xl.here hexec rfl (hb hbytes d26) rfl rfl ?_
        refine XS.iloadN Xl.here hexec rfl (hb hbytes d27) rfl ?_
        refine XS.iload Xl.here hexec rfl (hb hbytes d28) rfl ?_
        refine i2b Xl.here hexec rfl (hb hbytes d30) rfl ?_
        exact Steps.refl _)
      obtain ⟨T7, X7, p7, st7⟩ := Xl.aput hexec hBk rfl hlt rfl (fits_lo8 (cv A (o + i))) (g := (mkF m 31 #[.val (.ref b), .val (.int (Int32.ofNat (o + i))), .val (.ref d), .val (.int (Int32.ofNat (q + i))), .val (.int (Int32.ofNat len)), .val (.int (Int32.ofNat i)), .val (.int (cv A (o + i)))] [.int (lo8 (cv A (o + i))), .int (Int32.ofNat (q + i)), .ref d])) rfl (rest := []) rfl (hb hbytes d31)
      have c8 : Steps p.tables e below (s₁.setTop (entryFrame m #[.ref b, .int (Int32.ofNat o), .ref d, .int (Int32.ofNat q), .int (Int32.ofNat len)] 7)) (T7.setTop (mkF m 32 #[.val (.ref b), .val (.int (Int32.ofNat (o + i))), .val (.ref d), .val (.int (Int32.ofNat (q + i))), .val (.int (Int32.ofNat len)), .val (.int (Int32.ofNat i)), .val (.int (cv A (o + i)))] [])) := c6.trans (st7 _ (Steps.refl _))
      have c9 : Steps p.tables e below (s₁.setTop (entryFrame m #[.ref b, .int (Int32.ofNat o), .ref d, .int (Int32.ofNat q), .int (Int32.ofNat len)] 7)) (T7.setTop (mkF m 3 #[.val (.ref b), .val (.int (Int32.ofNat (o + i) + 1)), .val (.ref d), .val (.int (Int32.ofNat (q + i) + 1)), .val (.int (Int32.ofNat len)), .val (.int (Int32.ofNat i + 1)), .val (.int (cv A (o + i)))] [])) := c8.trans (by
        refine iincV X7.here hexec rfl 1 (hb hbytes d32) (by decide) rfl rfl ?_
        refine iincV X7.here hexec rfl 1 (hb hbytes d35) (by decide) rfl rfl ?_
        refine iincV X7.here hexec rfl 1 (hb hbytes d38) (by decide) rfl rfl ?_
        refine XS.goto X7.here hexec rfl (pc0 := 41) rfl (hb hbytes d41) (by decide) rfl ?_
        exact Steps.refl _)
      have c10 : Steps p.tables e below (s₁.setTop (entryFrame m #[.ref b, .int (Int32.ofNat o), .ref d, .int (Int32.ofNat q), .int (Int32.ofNat len)] 7)) (T7.setTop (mkF m 3 #[.val (.ref b), .val (.int (Int32.ofNat (o + (i + 1)))), .val (.ref d), .val (.int (Int32.ofNat (q + (i + 1)))), .val (.int (Int32.ofNat len)), .val (.int (Int32.ofNat (i + 1))), .val (.int (cv A (o + i)))] [])) := by
        have := c9
        rw [succ32, succ32, succ32] at this
        exact this
      exact ih (i + 1) (by omega) _ (Or.inr ⟨_, rfl, rfl⟩) T7 _ (by rw [copyLocs_step, ← List.append_assoc]; exact X7) (pl.trans p7) (fl.step (by omega) hlt (by simp)) c10
  obtain ⟨T9, B9, z9, X9, p9, f9, g9⟩ := loop len 0 (by omega) .unset (Or.inl rfl) s₁ B (by simpa [copyLocs] using X0) ⟨hB0.1, fun _ _ => rfl, rfl⟩ (Laid.zero _ _ _) c2
  have c11 : Steps p.tables e below (s₁.setTop (entryFrame m #[.ref b, .int (Int32.ofNat o), .ref d, .int (Int32.ofNat q), .int (Int32.ofNat len)] 7)) (T9.setTop (mkF m 46 #[.val (.ref b), .val (.int (Int32.ofNat (o + len))), .val (.ref d), .val (.int (Int32.ofNat (q + len))), .val (.int (Int32.ofNat len)), .val (.int (Int32.ofNat len)), z9] [.int (Int32.ofNat len)])) := g9.trans (by
    refine XS.iload X9.here hexec rfl (hb hbytes d3) rfl ?_
    refine XS.iload X9.here hexec rfl (hb hbytes d5) rfl ?_
    refine XS.icmpYes X9.here hexec rfl (pc0 := 7) rfl (hb hbytes d7) rfl (ii_ge_t (nlt32 (by omega) (Nat.le_refl _))) (by decide) rfl ?_
    refine XS.iload X9.here hexec rfl (hb hbytes d44) rfl ?_
    exact Steps.refl _)
  exact ⟨T9, some (.int (Int32.ofNat len)), _, _, _, X9, by simp, rfl, rfl, (fun h => by cases h), ⟨rfl, B9, p9.from hh0, f9⟩, fun fs hl => c11.trans (X9.ireturnOut hexec hret rfl (Or.inl rfl) (hb hbytes d46) hl)⟩
end Cmp5
namespace Cmp3
def yN : MethodName := ⟨"java/lang/StringUTF16", "compress", "([CII)[B"⟩
abbrev yB : ByteArray := jdk_52_method_16_code
theorem d0 : decode yB 0 = .ok (.iload_n 2, 1) := by decide +kernel
theorem d1 : decode yB 1 = .ok (.newarray .byte, 2) := by decide +kernel
theorem d3 : decode yB 3 = .ok (.astore_n 3, 1) := by decide +kernel
theorem d4 : decode yB 4 = .ok (.aload_n 0, 1) := by decide +kernel
theorem d5 : decode yB 5 = .ok (.iload_n 1, 1) := by decide +kernel
theorem d6 : decode yB 6 = .ok (.aload_n 3, 1) := by decide +kernel
theorem d7 : decode yB 7 = .ok (.iconst 0, 1) := by decide +kernel
theorem d8 : decode yB 8 = .ok (.iload_n 2, 1) := by decide +kernel
theorem d9 : decode yB 9 = .ok (.invokestatic 115, 3) := by decide +kernel
theorem d12 : decode yB 12 = .ok (.istore 4, 2) := by decide +kernel
theorem d14 : decode yB 14 = .ok (.iload 4, 2) := by decide +kernel
theorem d16 : decode yB 16 = .ok (.iload_n 2, 1) := by decide +kernel
theorem d17 : decode yB 17 = .ok (.if_icmp (.eq) 40, 3) := by decide +kernel
theorem d57 : decode yB 57 = .ok (.aload_n 3, 1) := by decide +kernel
theorem d58 : decode yB 58 = .ok (.areturn, 1) := by decide +kernel
def site : List Cond := [.arrayClass .byte, Cmp5.tab] ++ staticW U16 115 Cmp5.yN
def tab : Cond := tabOf yN yB 6 (some (.array .byte)) site
def P (b : Addr) (A : Cell) (o len : Nat) (args : Array Value) (s : State) : Prop := args = #[.ref b, .int (Int32.ofNat o), .int (Int32.ofNat len)] ∧ Ch b A s ∧ o + len ≤ A.slots.size ∧ len ≤ 536870912 ∧ ∀ i, i < len → ¬ 255 < cv A (o + i)
def E (b : Addr) (A : Cell) (o len : Nat) (r : Option Value) (s u : State) : Prop := NewArr .byte "[B" len (fun j => .int (lo8 (cv A (o + j)))) r s u ∧ u.heap.size = s.heap.size + 1
/-- no char of the range above 255: a new byte[] of their low bytes -/
theorem law (l : Launch) (b : Addr) (A : Cell) (o len : Nat) : Law l yN 3 3 1 18 yB 6 (some (.array .byte)) site (P b A o len) (E b A o len) [] 1 len := by
  refine Law.of_walk (plainFor_of_name (by decide +kernel)) (by decide +kernel) (by decide +kernel) (by decide) (fun _ _ h => by rw [h.1]; rfl) (fun _ U U' hal hh h => ⟨h.1, h.2.1.mv hal hh, h.2.2⟩) (fun r U U' V V' h1 hal h2 h => ⟨NewArr.mv r U U' V V' h1 hal h2 h.1, by rw [h1, h2]; exact h.2⟩) ?_
  intro p e s m args below meth c s₁ X0 hexec hbytes hml hret hlk hnm hown hh0 W hP
  obtain ⟨rfl, hA, l1, l2, hp⟩ := hP
  have a31 := hA.1.2.2.2
  have c1 : Steps p.tables e below (s₁.setTop (entryFrame m #[.ref b, .int (Int32.ofNat o), .int (Int32.ofNat len)] 6)) (s₁.setTop (mkF m 0 #[.val (.ref b), .val (.int (Int32.ofNat o)), .val (.int (Int32.ofNat len)), .unset, .unset, .unset] [])) := entry rfl
  have c2 : Steps p.tables e below (s₁.setTop (entryFrame m #[.ref b, .int (Int32.ofNat o), .int (Int32.ofNat len)] 6)) (s₁.setTop (mkF m 1 #[.val (.ref b), .val (.int (Int32.ofNat o)), .val (.int (Int32.ofNat len)), .unset, .unset, .unset] [.int (Int32.ofNat len)])) := c1.trans (by
    refine XS.iloadN X0.here hexec rfl (hb hbytes d0) rfl ?_
    exact Steps.refl _)
  obtain ⟨T3, B3, X3, ba3, bs3, bv3, bh3, bf3, st3⟩ := X0.anew hexec (atype := .byte) (wk W (.arrayClass .byte)) rfl (by show len * 1 ≤ _; omega) (by omega) (g := (mkF m 1 #[.val (.ref b), .val (.int (Int32.ofNat o)), .val (.int (Int32.ofNat len)), .unset, .unset, .unset] [.int (Int32.ofNat len)])) rfl (hb hbytes d1) (rest := []) rfl (Nat.le_refl _) (by show 0 + len ≤ len; omega)
  rw [hh0] at ba3 st3
  have kp3 : XT.Kept s T3 := (XT.Kept.of_eq hh0).push bh3
  have hA3 := hA.keep X3.warmed.alike (kp3 _ _ hA.1.1)
  have hne : b ≠ s.heap.size := hA.1.ne
  have c4 : Steps p.tables e below (s₁.setTop (entryFrame m #[.ref b, .int (Int32.ofNat o), .int (Int32.ofNat len)] 6)) (T3.setTop (mkF m 3 #[.val (.ref b), .val (.int (Int32.ofNat o)), .val (.int (Int32.ofNat len)), .unset, .unset, .unset] [.ref s.heap.size])) := c2.trans (st3 _ (Steps.refl _))
  have c5 : Steps p.tables e below (s₁.setTop (entryFrame m #[.ref b, .int (Int32.ofNat o), .int (Int32.ofNat len)] 6)) (T3.setTop (mkF m 9 #[.val (.ref b), .val (.int (Int32.ofNat o)), .val (.int (Int32.ofNat len)), .val (.ref s.heap.size), .unset, .unset] [.int (Int32.ofNat len), .int 0, .ref s.heap.size, .int (Int32.ofNat o), .ref b])) := c4.trans (by
    refine XS.astoreN X3.here hexec rfl (hb hbytes d3) rfl rfl rfl ?_
    refine XS.aloadN X3.here hexec rfl (hb hbytes d4) rfl rfl ?_
    refine XS.iloadN X3.here hexec rfl (hb hbytes d5) rfl ?_
    refine XS.aloadN X3.here hexec rfl (hb hbytes d6) rfl rfl ?_
    refine iconstV X3.here hexec rfl 0 (hb hbytes d7) (by decide) ?_
    refine XS.iloadN X3.here hexec rfl (hb hbytes d8) rfl ?_
    exact Steps.refl _)
  obtain ⟨v6, T6, X6, E6, g6⟩ := X3.callS hexec (Cmp5.law l b A s.heap.size B3 o 0 len) hown (wks W (staticW U16 115 Cmp5.yN)) (wk W Cmp5.tab) (W := 0) (Nat.le_of_ble_eq_true rfl) (Nat.le_of_ble_eq_true rfl) (Nat.le_refl _) (by show 0 + len + 0 ≤ len; omega) (g := (mkF m 9 #[.val (.ref b), .val (.int (Int32.ofNat o)), .val (.int (Int32.ofNat len)), .val (.ref s.heap.size), .unset, .unset] [.int (Int32.ofNat len), .int (Int32.ofNat 0), .ref s.heap.size, .int (Int32.ofNat o), .ref b])) rfl (by rw [hml]; rfl) c5 (argsL := [.ref b, .int (Int32.ofNat o), .ref s.heap.size, .int (Int32.ofNat 0), .int (Int32.ofNat len)]) (rest := []) rfl rfl (by show 2 * 0 + 0 ≤ _; decide) (hb hbytes d9) (⟨rfl, hA3, ba3, hne, l1, by rw [bs3]; simp, hp⟩)
  obtain ⟨rfl, B6, p6, f6⟩ := E6
  have c7 : Steps p.tables e below (s₁.setTop (entryFrame m #[.ref b, .int (Int32.ofNat o), .int (Int32.ofNat len)] 6)) (T6.setTop (mkF m 12 #[.val (.ref b), .val (.int (Int32.ofNat o)), .val (.int (Int32.ofNat len)), .val (.ref s.heap.size), .unset, .unset] [.int (Int32.ofNat len)])) := g6
  have c8 : Steps p.tables e below (s₁.setTop (entryFrame m #[.ref b, .int (Int32.ofNat o), .int (Int32.ofNat len)] 6)) (T6.setTop (mkF m 58 #[.val (.ref b), .val (.int (Int32.ofNat o)), .val (.int (Int32.ofNat len)), .val (.ref s.heap.size), .val (.int (Int32.ofNat len)), .unset] [.ref s.heap.size])) := c7.trans (by
    refine XS.istore X6.here hexec rfl (hb hbytes d12) rfl rfl ?_
    refine XS.iload X6.here hexec rfl (hb hbytes d14) rfl ?_
    refine XS.iloadN X6.here hexec rfl (hb hbytes d16) rfl ?_
    refine XS.icmpYes X6.here hexec rfl (pc0 := 17) rfl (hb hbytes d17) rfl (ii_eq_t rfl) (by decide) rfl ?_
    refine XS.aloadN X6.here hexec rfl (hb hbytes d57) rfl rfl ?_
    exact Steps.refl _)
  have X8 := X6.wide (L' := []) (cells' := 1) (slots' := len) (fun x hx hlt => by
    simp only [List.nil_append, copyLocs, List.mem_map, List.mem_range] at hx
    obtain ⟨i, -, rfl⟩ := hx
    exact absurd hlt (Nat.lt_irrefl _)) (Nat.le_refl _) (by omega)
  exact ⟨T6, some (.ref s.heap.size), _, _, _, X8, rfl, rfl, rfl, (fun h => by cases h), ⟨⟨rfl, B6, ba3.like (X3.warmed.alike.symm.trans X6.warmed.alike) p6.1 f6.1 f6.2.1 f6.2.2.1, f6.2.1.trans bv3, by rw [X6.warmed.alike.findClass, f6.1]; exact bf3, by rw [f6.2.2.1, bs3]; simp, fun j hj => by rw [f6.2.2.2 j, if_pos (by omega)]; rfl, kp3.put p6 (Nat.le_refl _)⟩, by rw [p6.2.2, bh3, hh0]; simp⟩, fun fs hl => c8.trans (X8.areturnOut hexec rfl hret rfl (hb hbytes d58) hl)⟩
end Cmp3
namespace CodL
def yN : MethodName := ⟨"java/lang/StringUTF16", "coderFromArrayLen", "([BI)B"⟩
abbrev yB : ByteArray := jdk_52_method_15_code
theorem d0 : decode yB 0 = .ok (.iload_n 1, 1) := by decide +kernel
theorem d1 : decode yB 1 = .ok (.aload_n 0, 1) := by decide +kernel
theorem d2 : decode yB 2 = .ok (.arraylength, 1) := by decide +kernel
theorem d3 : decode yB 3 = .ok (.isub, 1) := by decide +kernel
theorem d4 : decode yB 4 = .ok (.bipush 31, 2) := by decide +kernel
theorem d6 : decode yB 6 = .ok (.iushr, 1) := by decide +kernel
theorem d7 : decode yB 7 = .ok (.i2b, 1) := by decide +kernel
theorem d8 : decode yB 8 = .ok (.ireturn, 1) := by decide +kernel
def site : List Cond := []
def tab : Cond := tabOf yN yB 2 (some .byte) site
def P (d : Addr) (B : Cell) (args : Array Value) (s : State) : Prop := args = #[.ref d, .int (Int32.ofNat B.slots.size)] ∧ Arr .byte d B s
def E (r : Option Value) (s u : State) : Prop := XT.PureE (some (.int 0)) r s u
/-- an array as long as the number of chars: LATIN1 -/
theorem law (l : Launch) (d : Addr) (B : Cell) : Law l yN 2 2 0 0 yB 2 (some .byte) site (P d B) E [] 0 0 := by
  refine Law.of_walk (plainFor_of_name (by decide +kernel)) (by decide +kernel) (by decide +kernel) (by decide) (fun _ _ h => by rw [h.1]; rfl) (fun _ U U' hal hh h => ⟨h.1, h.2.mv hal hh⟩) (fun r U U' V V' h1 hal h2 h => XT.PureE.mv r U U' V V' h1 hal h2 h) ?_
  intro p e s m args below meth c s₁ X0 hexec hbytes hml hret hlk hnm hown hh0 W hP
  obtain ⟨rfl, hB⟩ := hP
  have hB0 := hB.mv X0.warmed.alike hh0
  have c1 : Steps p.tables e below (s₁.setTop (entryFrame m #[.ref d, .int (Int32.ofNat B.slots.size)] 2)) (s₁.setTop (mkF m 0 #[.val (.ref d), .val (.int (Int32.ofNat B.slots.size))] [])) := entry rfl
  have c2 : Steps p.tables e below (s₁.setTop (entryFrame m #[.ref d, .int (Int32.ofNat B.slots.size)] 2)) (s₁.setTop (mkF m 2 #[.val (.ref d), .val (.int (Int32.ofNat B.slots.size))] [.ref d, .int (Int32.ofNat B.slots.size)])) := c1.trans (by
    refine XS.iloadN X0.here hexec rfl (hb hbytes d0) rfl ?_
    refine XS.aloadN X0.here hexec rfl (hb hbytes d1) rfl rfl ?_
    exact Steps.refl _)
  have c3 : Steps p.tables e below (s₁.setTop (entryFrame m #[.ref d, .int (Int32.ofNat B.slots.size)] 2)) (s₁.setTop (mkF m 8 #[.val (.ref d), .val (.int (Int32.ofNat B.slots.size))] [.int (lo8 (ushr (Int32.ofNat B.slots.size - Int32.ofNat B.slots.size) 31))])) := c2.trans (by
    refine X0.alen hexec hB0 rfl rfl (hb hbytes d2) ?_
    refine XS.isub X0.here hexec rfl (hb hbytes d3) rfl ?_
    refine bipushV X0.here hexec rfl 31 (hb hbytes d4) (by decide) ?_
    refine iushr X0.here hexec rfl (hb hbytes d6) rfl ?_
    refine i2b X0.here hexec rfl (hb hbytes d7) rfl ?_
    exact Steps.refl _)
  have e0 : lo8 (ushr (Int32.ofNat B.slots.size - Int32.ofNat B.slots.size) 31) = 0 := by rw [Int32.sub_self]; decide
  rw [e0] at c3
  exact ⟨s₁, some (.int 0), _, _, _, X0, rfl, rfl, rfl, (fun h => by cases h), ⟨rfl, hh0⟩, fun fs hl => c3.trans (X0.ireturnOut hexec hret rfl (Or.inr (Or.inr (Or.inl rfl))) (hb hbytes d8) hl)⟩
end CodL
/-- the String at a is Latin-1 over a new byte[] (the heap's one new cell): the low bytes of the len chars of A from o on; every cell but a is kept -/
def Got (a : Addr) (D : Cell) (fV fC : Field) (A : Cell) (o len : Nat) (r : Option Value) (s u : State) : Prop := r = none ∧ ∃ D' V : Cell, Blank "java/lang/String" a D' u ∧ Same D D' [fV.slot, fC.slot] ∧ D'.slots[fV.slot]? = some (.ref s.heap.size) ∧ D'.slots[fC.slot]? = some (.int 0) ∧ Arr .byte s.heap.size V u ∧ V.vm = .none ∧ u.vm.findClass "[B" = some V.cls ∧ V.slots.size = len ∧ (∀ j, j < len → V.slots[j]? = some (.int (lo8 (cv A (o + j))))) ∧ (∀ (y : Addr) (c : Cell), y ≠ a → s.heap[y]? = some c → u.heap[y]? = some c) ∧ u.heap.size = s.heap.size + 1
theorem Got.mv {a : Addr} {D A : Cell} {fV fC : Field} {o len : Nat} : ∀ r (U U' V V' : State), U'.heap = U.heap → V.vm.Alike V'.vm → V'.heap = V.heap → Got a D fV fC A o len r U V → Got a D fV fC A o len r U' V' :=
  fun r U U' V V' h1 hal h2 ⟨e0, D', X, a1, a2, a3, a4, a5, a6, a7, a8, a9, a10, a11⟩ => ⟨e0, D', X, a1.mv hal h2, a2, by rw [h1]; exact a3, a4, by rw [h1]; exact a5.mv hal h2, a6, by rw [hal.findClass]; exact a7, a8, a9, by rw [h1, h2]; exact a10, by rw [h1, h2]; exact a11⟩
namespace New4
def yN : MethodName := ⟨"java/lang/String", "<init>", "([CIILjava/lang/Void;)V"⟩
abbrev yB : ByteArray := jdk_42_method_149_code
theorem d0 : decode yB 0 = .ok (.aload_n 0, 1) := by decide +kernel
theorem d1 : decode yB 1 = .ok (.invokespecial 1, 3) := by decide +kernel
theorem d4 : decode yB 4 = .ok (.iload_n 3, 1) := by decide +kernel
theorem d5 : decode yB 5 = .ok (.ifCond (.ne) 22, 3) := by decide +kernel
theorem d27 : decode yB 27 = .ok (.getstatic 38, 3) := by decide +kernel
theorem d30 : decode yB 30 = .ok (.ifCond (.eq) 28, 3) := by decide +kernel
theorem d33 : decode yB 33 = .ok (.aload_n 1, 1) := by decide +kernel
theorem d34 : decode yB 34 = .ok (.iload_n 2, 1) := by decide +kernel
theorem d35 : decode yB 35 = .ok (.iload_n 3, 1) := by decide +kernel
theorem d36 : decode yB 36 = .ok (.invokestatic 177, 3) := by decide +kernel
theorem d39 : decode yB 39 = .ok (.astore 5, 2) := by decide +kernel
theorem d41 : decode yB 41 = .ok (.aload_n 0, 1) := by decide +kernel
theorem d42 : decode yB 42 = .ok (.aload 5, 2) := by decide +kernel
theorem d44 : decode yB 44 = .ok (.iload_n 3, 1) := by decide +kernel
theorem d45 : decode yB 45 = .ok (.invokestatic 47, 3) := by decide +kernel
theorem d48 : decode yB 48 = .ok (.putfield 15, 3) := by decide +kernel
theorem d51 : decode yB 51 = .ok (.aload_n 0, 1) := by decide +kernel
theorem d52 : decode yB 52 = .ok (.aload 5, 2) := by decide +kernel
theorem d54 : decode yB 54 = .ok (.putfield 9, 3) := by decide +kernel
theorem d57 : decode yB 57 = .ok (.return_, 1) := by decide +kernel
def site : List Cond := [.fieldLink "java/lang/String" 38 "java/lang/String" "COMPACT_STRINGS" "Z", Cmp3.tab, CodL.tab, .laysFinal "java/lang/String" "java/lang/String" "value" "[B", .fieldLink "java/lang/String" 9 "java/lang/String" "value" "[B", .laysFinal "java/lang/String" "java/lang/String" "coder" "B", .fieldLink "java/lang/String" 15 "java/lang/String" "coder" "B"] ++ objW "java/lang/String" 1 ++ staticW "java/lang/String" 177 Cmp3.yN ++ staticW "java/lang/String" 47 CodL.yN
def tab : Cond := tabOf yN yB 6 none site
def P (a : Addr) (D : Cell) (fV fC : Field) (b : Addr) (A : Cell) (z : Int32) (o len : Nat) (args : Array Value) (s : State) : Prop := args = #[.ref a, .ref b, .int (Int32.ofNat o), .int (Int32.ofNat len), .null] ∧ Blank "java/lang/String" a D s ∧ Found "java/lang/String" "value" "[B" fV s ∧ Found "java/lang/String" "coder" "B" fC s ∧ Ch b A s ∧ StaticIs s "java/lang/String" "COMPACT_STRINGS" "Z" (.int z) ∧ ¬ z = 0 ∧ 0 < len ∧ o + len ≤ A.slots.size ∧ len ≤ 536870912 ∧ ∀ i, i < len → ¬ 255 < cv A (o + i)
def E (a : Addr) (D : Cell) (fV fC : Field) (A : Cell) (o len : Nat) (r : Option Value) (s u : State) : Prop := Got a D fV fC A o len r s u
/-- len > 0, no char of the range above 255: a Latin-1 String of their low bytes -/
theorem law (l : Launch) (a : Addr) (D : Cell) (fV fC : Field) (b : Addr) (A : Cell) (z : Int32) (o len : Nat) : Law l yN 5 4 2 35 yB 6 none site (P a D fV fC b A z o len) (E a D fV fC A o len) [⟨a, fC.slot⟩, ⟨a, fV.slot⟩] 1 len := by
  refine Law.of_walk (plainFor_of_name (by decide +kernel)) (by decide +kernel) (by decide +kernel) (by decide) (fun _ _ h => by rw [h.1]; rfl) (fun _ U U' hal hh h => ⟨h.1, h.2.1.mv hal hh, h.2.2.1.al hal, h.2.2.2.1.al hal, h.2.2.2.2.1.mv hal hh, h.2.2.2.2.2.1.there hal hh, h.2.2.2.2.2.2⟩) (fun r U U' V V' h1 hal h2 h => Got.mv r U U' V V' h1 hal h2 h) ?_
  intro p e s m args below meth c s₁ X0 hexec hbytes hml hret hlk hnm hown hh0 W hP
  obtain ⟨rfl, hB, f1, f2, hA, s1, hz, l0, l1, l2, hp⟩ := hP
  have a31 := hA.1.2.2.2
  have c1 : Steps p.tables e below (s₁.setTop (entryFrame m #[.ref a, .ref b, .int (Int32.ofNat o), .int (Int32.ofNat len), .null] 6)) (s₁.setTop (mkF m 0 #[.val (.ref a), .val (.ref b), .val (.int (Int32.ofNat o)), .val (.int (Int32.ofNat len)), .val .null, .unset] [])) := entry rfl
  have c2 : Steps p.tables e below (s₁.setTop (entryFrame m #[.ref a, .ref b, .int (Int32.ofNat o), .int (Int32.ofNat len), .null] 6)) (s₁.setTop (mkF m 1 #[.val (.ref a), .val (.ref b), .val (.int (Int32.ofNat o)), .val (.int (Int32.ofNat len)), .val .null, .unset] [.ref a])) := c1.trans (by
    refine XS.aloadN X0.here hexec rfl (hb hbytes d0) rfl rfl ?_
    exact Steps.refl _)
  obtain ⟨T3, X3, q3, st3⟩ := X0.oinit hexec hown (wks W (objW "java/lang/String" 1)) (g := (mkF m 1 #[.val (.ref a), .val (.ref b), .val (.int (Int32.ofNat o)), .val (.int (Int32.ofNat len)), .val .null, .unset] [.ref a])) rfl (by rw [hml]; rfl) (rest := []) rfl (hb hbytes d1) (W := 0) (by show 2 * 0 + 0 ≤ _; decide) (Nat.le_of_ble_eq_true rfl) (Nat.le_of_ble_eq_true rfl)
  have hh3 := q3.trans hh0
  have c4 : Steps p.tables e below (s₁.setTop (entryFrame m #[.ref a, .ref b, .int (Int32.ofNat o), .int (Int32.ofNat len), .null] 6)) (T3.setTop (mkF m 27 #[.val (.ref a), .val (.ref b), .val (.int (Int32.ofNat o)), .val (.int (Int32.ofNat len)), .val .null, .unset] [])) := (c2.trans (st3 _ (Steps.refl _))).trans (by
    refine XS.iloadN X3.here hexec rfl (hb hbytes d4) rfl ?_
    refine XS.ifYes X3.here hexec rfl (pc0 := 5) rfl (hb hbytes d5) rfl (i0_ne_t (nz32 (by omega) l0)) (by decide) rfl ?_
    exact Steps.refl _)
  obtain ⟨T5, X5, q5, st5⟩ := X3.sget hexec hown (wk W (.fieldLink "java/lang/String" 38 "java/lang/String" "COMPACT_STRINGS" "Z")) s1 (fun _ _ h => by rw [hh3]; exact h) (g := (mkF m 27 #[.val (.ref a), .val (.ref b), .val (.int (Int32.ofNat o)), .val (.int (Int32.ofNat len)), .val .null, .unset] [])) rfl (hb hbytes d27)
  have hh5 := q5.trans hh3
  have c6 : Steps p.tables e below (s₁.setTop (entryFrame m #[.ref a, .ref b, .int (Int32.ofNat o), .int (Int32.ofNat len), .null] 6)) (T5.setTop (mkF m 30 #[.val (.ref a), .val (.ref b), .val (.int (Int32.ofNat o)), .val (.int (Int32.ofNat len)), .val .null, .unset] [.int z])) := c4.trans (st5 _ (Steps.refl _))
  have c7 : Steps p.tables e below (s₁.setTop (entryFrame m #[.ref a, .ref b, .int (Int32.ofNat o), .int (Int32.ofNat len), .null] 6)) (T5.setTop (mkF m 36 #[.val (.ref a), .val (.ref b), .val (.int (Int32.ofNat o)), .val (.int (Int32.ofNat len)), .val .null, .unset] [.int (Int32.ofNat len), .int (Int32.ofNat o), .ref b])) := c6.trans (by
    refine XS.ifNo X5.here hexec rfl (hb hbytes d30) rfl (i0_eq_f hz) ?_
    refine XS.aloadN X5.here hexec rfl (hb hbytes d33) rfl rfl ?_
    refine XS.iloadN X5.here hexec rfl (hb hbytes d34) rfl ?_
    refine XS.iloadN X5.here hexec rfl (hb hbytes d35) rfl ?_
    exact Steps.refl _)
  obtain ⟨v8, T8, X8, E8, g8⟩ := X5.callS hexec (Cmp3.law l b A o len) hown (wks W (staticW "java/lang/String" 177 Cmp3.yN)) (wk W Cmp3.tab) (W := 0) (Nat.le_of_ble_eq_true rfl) (Nat.le_of_ble_eq_true rfl) (Nat.le_refl _) (by show 0 + len ≤ len; omega) (g := (mkF m 36 #[.val (.ref a), .val (.ref b), .val (.int (Int32.ofNat o)), .val (.int (Int32.ofNat len)), .val .null, .unset] [.int (Int32.ofNat len), .int (Int32.ofNat o), .ref b])) rfl (by rw [hml]; rfl) c7 (argsL := [.ref b, .int (Int32.ofNat o), .int (Int32.ofNat len)]) (rest := []) rfl rfl (by show 2 * 0 + 0 ≤ _; decide) (hb hbytes d36) (⟨rfl, hA.mv X5.warmed.alike hh5, l1, l2, hp⟩)
  obtain ⟨e8, z8⟩ := E8
  obtain ⟨rfl, N, n1, n2, n3, n4, n5, n6⟩ := NewArr.mv _ T5 s _ _ hh5.symm (Vm.Alike.refl _) rfl e8
  rw [hh5] at z8
  have hB1 := hB.keep X8.warmed.alike (n6 _ _ hB.1)
  have hne : s.heap.size ≠ a := (Nat.ne_of_lt (Array.getElem?_eq_some_iff.mp hB.1).1).symm
  have c9 : Steps p.tables e below (s₁.setTop (entryFrame m #[.ref a, .ref b, .int (Int32.ofNat o), .int (Int32.ofNat len), .null] 6)) (T8.setTop (mkF m 39 #[.val (.ref a), .val (.ref b), .val (.int (Int32.ofNat o)), .val (.int (Int32.ofNat len)), .val .null, .unset] [.ref s.heap.size])) := g8
  have c10 : Steps p.tables e below (s₁.setTop (entryFrame m #[.ref a, .ref b, .int (Int32.ofNat o), .int (Int32.ofNat len), .null] 6)) (T8.setTop (mkF m 45 #[.val (.ref a), .val (.ref b), .val (.int (Int32.ofNat o)), .val (.int (Int32.ofNat len)), .val .null, .val (.ref s.heap.size)] [.int (Int32.ofNat N.slots.size), .ref s.heap.size, .ref a])) := by
    have hc : Steps p.tables e below (s₁.setTop (entryFrame m #[.ref a, .ref b, .int (Int32.ofNat o), .int (Int32.ofNat len), .null] 6)) (T8.setTop (mkF m 45 #[.val (.ref a), .val (.ref b), .val (.int (Int32.ofNat o)), .val (.int (Int32.ofNat len)), .val .null, .val (.ref s.heap.size)] [.int (Int32.ofNat len), .ref s.heap.size, .ref a])) := c9.trans (by
      refine XS.astore X8.here hexec rfl (hb hbytes d39) rfl rfl rfl ?_
      refine XS.aloadN X8.here hexec rfl (hb hbytes d41) rfl rfl ?_
      refine XS.aload X8.here hexec rfl (hb hbytes d42) rfl rfl ?_
      refine XS.iloadN X8.here hexec rfl (hb hbytes d44) rfl ?_
      exact Steps.refl _)
    rw [n4]; exact hc
  obtain ⟨v11, T11, X11, E11, g11⟩ := X8.callS hexec (CodL.law l s.heap.size N) hown (wks W (staticW "java/lang/String" 47 CodL.yN)) (wk W CodL.tab) (W := 1) (Nat.le_of_ble_eq_true rfl) (Nat.le_of_ble_eq_true rfl) (Nat.le_refl _) (by show 0 + len + 0 ≤ len; omega) (g := (mkF m 45 #[.val (.ref a), .val (.ref b), .val (.int (Int32.ofNat o)), .val (.int (Int32.ofNat len)), .val .null, .val (.ref s.heap.size)] [.int (Int32.ofNat N.slots.size), .ref s.heap.size, .ref a])) rfl (by rw [hml]; rfl) c10 (argsL := [.ref s.heap.size, .int (Int32.ofNat N.slots.size)]) (rest := [.ref a]) rfl rfl (by show 2 * 0 + (1 + 0) ≤ _; decide) (hb hbytes d45) (⟨rfl, n1⟩)
  obtain ⟨rfl, q11⟩ := E11
  have hB11 := hB1.mv (X8.warmed.alike.symm.trans X11.warmed.alike) q11
  have c12 : Steps p.tables e below (s₁.setTop (entryFrame m #[.ref a, .ref b, .int (Int32.ofNat o), .int (Int32.ofNat len), .null] 6)) (T11.setTop (mkF m 48 #[.val (.ref a), .val (.ref b), .val (.int (Int32.ofNat o)), .val (.int (Int32.ofNat len)), .val .null, .val (.ref s.heap.size)] [.int 0, .ref a])) := g11
  obtain ⟨T13, X13, p13, bl13, sl13, st13⟩ := X11.finit hexec hown (wk W (.fieldLink "java/lang/String" 15 "java/lang/String" "coder" "B")) (Or.inr ⟨_, (wk W (.laysFinal "java/lang/String" "java/lang/String" "coder" "B"))⟩) (Or.inl ⟨rfl, hnm⟩) f2 (Or.inl rfl) hB11 (t := .byte) (by decide +kernel) rfl (g := (mkF m 48 #[.val (.ref a), .val (.ref b), .val (.int (Int32.ofNat o)), .val (.int (Int32.ofNat len)), .val .null, .val (.ref s.heap.size)] [.int 0, .ref a])) rfl (rest := []) rfl (hb hbytes d48)
  have c14 : Steps p.tables e below (s₁.setTop (entryFrame m #[.ref a, .ref b, .int (Int32.ofNat o), .int (Int32.ofNat len), .null] 6)) (T13.setTop (mkF m 54 #[.val (.ref a), .val (.ref b), .val (.int (Int32.ofNat o)), .val (.int (Int32.ofNat len)), .val .null, .val (.ref s.heap.size)] [.ref s.heap.size, .ref a])) := (c12.trans (st13 _ (Steps.refl _))).trans (by
    refine XS.aloadN X13.here hexec rfl (hb hbytes d51) rfl rfl ?_
    refine XS.aload X13.here hexec rfl (hb hbytes d52) rfl rfl ?_
    exact Steps.refl _)
  obtain ⟨T15, X15, p15, bl15, sl15, st15⟩ := X13.finit hexec hown (wk W (.fieldLink "java/lang/String" 9 "java/lang/String" "value" "[B")) (Or.inr ⟨_, (wk W (.laysFinal "java/lang/String" "java/lang/String" "value" "[B"))⟩) (Or.inl ⟨rfl, hnm⟩) f1 (Or.inl rfl) bl13 (t := (.array .byte)) (by decide +kernel) rfl (g := (mkF m 54 #[.val (.ref a), .val (.ref b), .val (.int (Int32.ofNat o)), .val (.int (Int32.ofNat len)), .val .null, .val (.ref s.heap.size)] [.ref s.heap.size, .ref a])) rfl (rest := []) rfl (hb hbytes d54)
  have c16 : Steps p.tables e below (s₁.setTop (entryFrame m #[.ref a, .ref b, .int (Int32.ofNat o), .int (Int32.ofNat len), .null] 6)) (T15.setTop (mkF m 57 #[.val (.ref a), .val (.ref b), .val (.int (Int32.ofNat o)), .val (.int (Int32.ofNat len)), .val .null, .val (.ref s.heap.size)] [])) := c14.trans (st15 _ (Steps.refl _))
  have ap := apart (Or.inr ⟨_, (wk W (.laysFinal "java/lang/String" "java/lang/String" "value" "[B"))⟩) (Or.inr ⟨_, (wk W (.laysFinal "java/lang/String" "java/lang/String" "coder" "B"))⟩) f1 f2 (t₁ := .array .byte) (t₂ := .byte) (by decide +kernel) (by decide +kernel) (by decide)
  have al := X8.warmed.alike.symm.trans X15.warmed.alike
  have n7 : T11.heap[s.heap.size]? = some N := by rw [q11]; exact n1.1
  exact ⟨T15, none, _, _, _, X15, by simp, rfl, by omega, (fun _ => rfl), ⟨rfl, _, N, bl15, ((Same.refl D _).set _ (by simp)).set _ (by simp), sl15, (Cell.slots_setSlot_ne _ ap).trans sl13, n1.keep al (p15.other hne (p13.other hne n7)), n2, by rw [al.findClass]; exact n3, n4, n5, fun y c h1 h2 => p15.other h1 (p13.other h1 (by rw [q11]; exact n6 y c h2)), by rw [p15.2.2, p13.2.2, q11]; exact z8⟩, fun fs hl => c16.trans (X15.returnOut hexec hret (hb hbytes d57) hl)⟩
end New4
namespace New1
def yN : MethodName := ⟨"java/lang/String", "<init>", "([C)V"⟩
abbrev yB : ByteArray := jdk_42_method_3_code
theorem d0 : decode yB 0 = .ok (.aload_n 0, 1) := by decide +kernel
theorem d1 : decode yB 1 = .ok (.aload_n 1, 1) := by decide +kernel
theorem d2 : decode yB 2 = .ok (.iconst 0, 1) := by decide +kernel
theorem d3 : decode yB 3 = .ok (.aload_n 1, 1) := by decide +kernel
theorem d4 : decode yB 4 = .ok (.arraylength, 1) := by decide +kernel
theorem d5 : decode yB 5 = .ok (.aconst_null, 1) := by decide +kernel
theorem d6 : decode yB 6 = .ok (.invokespecial 27, 3) := by decide +kernel
theorem d9 : decode yB 9 = .ok (.return_, 1) := by decide +kernel
def site : List Cond := [New4.tab] ++ initW "java/lang/String" 27 New4.yN
def tab : Cond := tabOf yN yB 2 none site
def P (a : Addr) (D : Cell) (fV fC : Field) (b : Addr) (A : Cell) (z : Int32) (args : Array Value) (s : State) : Prop := args = #[.ref a, .ref b] ∧ Blank "java/lang/String" a D s ∧ Found "java/lang/String" "value" "[B" fV s ∧ Found "java/lang/String" "coder" "B" fC s ∧ Ch b A s ∧ StaticIs s "java/lang/String" "COMPACT_STRINGS" "Z" (.int z) ∧ ¬ z = 0 ∧ 0 < A.slots.size ∧ A.slots.size ≤ 536870912 ∧ ∀ i, i < A.slots.size → ¬ 255 < cv A i
def E (a : Addr) (D : Cell) (fV fC : Field) (A : Cell) (r : Option Value) (s u : State) : Prop := Got a D fV fC A 0 A.slots.size r s u
/-- new String(chars), not empty, no char above 255: a Latin-1 String of their low bytes -/
theorem law (l : Launch) (a : Addr) (D : Cell) (fV fC : Field) (b : Addr) (A : Cell) (z : Int32) : Law l yN 2 1 3 52 yB 2 none site (P a D fV fC b A z) (E a D fV fC A) [⟨a, fC.slot⟩, ⟨a, fV.slot⟩] 1 A.slots.size := by
  refine Law.of_walk (plainFor_of_name (by decide +kernel)) (by decide +kernel) (by decide +kernel) (by decide) (fun _ _ h => by rw [h.1]; rfl) (fun _ U U' hal hh h => ⟨h.1, h.2.1.mv hal hh, h.2.2.1.al hal, h.2.2.2.1.al hal, h.2.2.2.2.1.mv hal hh, h.2.2.2.2.2.1.there hal hh, h.2.2.2.2.2.2⟩) (fun r U U' V V' h1 hal h2 h => Got.mv r U U' V V' h1 hal h2 h) ?_
  intro p e s m args below meth c s₁ X0 hexec hbytes hml hret hlk hnm hown hh0 W hP
  obtain ⟨rfl, hB, f1, f2, hA, s1, hz, l0, l2, hp⟩ := hP
  have c1 : Steps p.tables e below (s₁.setTop (entryFrame m #[.ref a, .ref b] 2)) (s₁.setTop (mkF m 0 #[.val (.ref a), .val (.ref b)] [])) := entry rfl
  have c2 : Steps p.tables e below (s₁.setTop (entryFrame m #[.ref a, .ref b] 2)) (s₁.setTop (mkF m 6 #[.val (.ref a), .val (.ref b)] [.null, .int (Int32.ofNat A.slots.size), .int 0, .ref b, .ref a])) := c1.trans (by
    refine XS.aloadN X0.here hexec rfl (hb hbytes d0) rfl rfl ?_
    refine XS.aloadN X0.here hexec rfl (hb hbytes d1) rfl rfl ?_
    refine iconstV X0.here hexec rfl 0 (hb hbytes d2) (by decide) ?_
    refine XS.aloadN X0.here hexec rfl (hb hbytes d3) rfl rfl ?_
    refine X0.alen hexec (hA.1.mv X0.warmed.alike hh0) rfl rfl (hb hbytes d4) ?_
    refine XS.aconstNull X0.here hexec rfl (hb hbytes d5) ?_
    exact Steps.refl _)
  obtain ⟨v3, T3, X3, E3, g3⟩ := X0.callN hexec (New4.law l a D fV fC b A z 0 A.slots.size) rfl hown (wks W (initW "java/lang/String" 27 New4.yN)) (W New4.tab (by simp only [site, List.mem_cons, List.mem_append, true_or, or_true])) (W := 0) (Nat.le_of_ble_eq_true rfl) (Nat.le_of_ble_eq_true rfl) (Nat.le_refl _) (by show 0 + A.slots.size ≤ A.slots.size; omega) (g := (mkF m 6 #[.val (.ref a), .val (.ref b)] [.null, .int (Int32.ofNat A.slots.size), .int (Int32.ofNat 0), .ref b, .ref a])) rfl (by rw [hml]; rfl) c2 (argsL := [.ref b, .int (Int32.ofNat 0), .int (Int32.ofNat A.slots.size), .null]) (rest := []) rfl rfl (by show 2 * 0 + 0 ≤ _; decide) (hb hbytes d6) (⟨rfl, hB.mv X0.warmed.alike hh0, f1.al X0.warmed.alike, f2.al X0.warmed.alike, hA.mv X0.warmed.alike hh0, s1.there X0.warmed.alike hh0, hz, l0, by omega, l2, fun i hi => by rw [Nat.zero_add]; exact hp i hi⟩)
  have e0 := Got.mv _ s₁ s _ _ hh0.symm (Vm.Alike.refl _) rfl E3
  obtain rfl := e0.1
  have c4 : Steps p.tables e below (s₁.setTop (entryFrame m #[.ref a, .ref b] 2)) (T3.setTop (mkF m 9 #[.val (.ref a), .val (.ref b)] [])) := g3
  exact ⟨T3, none, _, _, _, X3, by simp, rfl, by omega, (fun _ => rfl), e0, fun fs hl => c4.trans (X3.returnOut hexec hret (hb hbytes d9) hl)⟩
theorem pays {l : Launch} {R : Room} {p : Program} {e : Env} {below : List Frame} {s : State} {sargs : Array Value} {len W : Nat} (a : Addr) (D : Cell) (fV fC : Field) (b : Addr) (A : Cell) (z : Int32) (htab : tab.before sargs s = true) (hfr : 4 ≤ R.frames) (hlo : W + 65 ≤ R.locals) :
    Back l R p e below s sargs yN len W (fun A₁ a₁ => A₁.cells + 1 ≤ R.cells ∧ A₁.slots + A.slots.size ≤ R.slots ∧ P a D fV fC b A z a₁ A₁.U) (fun A₁ _ v₁ B₁ => E a D fV fC A v₁ A₁.U B₁.U ∧ B₁.locs = A₁.locs ++ [⟨a, fC.slot⟩, ⟨a, fV.slot⟩] ∧ B₁.cells = A₁.cells + 1 ∧ B₁.slots = A₁.slots + A.slots.size) :=
  (law l a D fV fC b A z).pays htab hfr (by omega)
end New1
end StrChars
namespace StrChars.Road
open Jvm Sem ClassFile Op Lib Jvm.Stand Jvm.Free Jvm.Free.XT
open Jvm.Lib.Cold (StaticIs)
abbrev ST : String := "java/lang/String"
/-- every table word that New1's law asks, flat -/
abbrev words : List Jvm.Cond := [.code New1.yN New1.yB 2 none, .initialized ST, .methodLink ST 27 New4.yN, .instanceMethod New4.yN,
  .code New4.yN New4.yB 6 none, .fieldLink ST 38 ST "COMPACT_STRINGS" "Z", .laysFinal ST ST "value" "[B", .fieldLink ST 9 ST "value" "[B", .laysFinal ST ST "coder" "B", .fieldLink ST 15 ST "coder" "B",
  .methodLink ST 1 Lib.objectInit, .instanceMethod Lib.objectInit, .code Lib.objectInit ⟨#[0xb1]⟩ 1 none, .methodLink ST 177 Cmp3.yN, .static Cmp3.yN, .methodLink ST 47 CodL.yN, .static CodL.yN,
  .code Cmp3.yN Cmp3.yB 6 (some (.array .byte)), .initialized U16, .arrayClass .byte, .methodLink U16 115 Cmp5.yN, .static Cmp5.yN, .code Cmp5.yN Cmp5.yB 7 (some .int), .code CodL.yN CodL.yB 2 (some .byte)]
theorem tab_of {a : Array Value} {s : State} (h : ∀ w ∈ words, w.before a s = true) : New1.tab.before a s = true := by
  have h5 : Cmp5.tab.before a s = true := unparts (wk h (.code Cmp5.yN Cmp5.yB 7 (some .int))) (wks h (.initialized Cmp5.yN.cls :: Cmp5.site))
  have hc : CodL.tab.before a s = true := unparts (wk h (.code CodL.yN CodL.yB 2 (some .byte))) (wks h (.initialized CodL.yN.cls :: CodL.site))
  have q5 : ∀ w ∈ Cmp5.tab :: words, w.before a s = true := fun w hw => (List.mem_cons.mp hw).elim (fun e => e ▸ h5) (h w)
  have h3 : Cmp3.tab.before a s = true := unparts (wk q5 (.code Cmp3.yN Cmp3.yB 6 (some (.array .byte)))) (wks q5 (.initialized Cmp3.yN.cls :: Cmp3.site))
  have q3 : ∀ w ∈ Cmp3.tab :: CodL.tab :: words, w.before a s = true := fun w hw => (List.mem_cons.mp hw).elim (fun e => e ▸ h3) fun hw => (List.mem_cons.mp hw).elim (fun e => e ▸ hc) (h w)
  have h4 : New4.tab.before a s = true := unparts (wk q3 (.code New4.yN New4.yB 6 none)) (wks q3 (.initialized New4.yN.cls :: New4.site))
  have q4 : ∀ w ∈ New4.tab :: words, w.before a s = true := fun w hw => (List.mem_cons.mp hw).elim (fun e => e ▸ h4) (h w)
  exact unparts (wk q4 (.code New1.yN New1.yB 2 none)) (wks q4 (.initialized New1.yN.cls :: New1.site))
/-- the words ride from the start Z to the walk's own state -/
theorem moved {Z s : State} {a0 args : Array Value} (hZ : Z.Warmed39 s.vm) (hw : ∀ d ∈ words, d.before a0 Z = true) : ∀ d ∈ words, d.before args s = true := fun d hd => by
  have q := hw d hd
  have t : ∀ d ∈ words, d = .arrayClass .byte ∨ (d.onTables && d.keepsFace) = true := by decide +kernel
  rcases t d hd with rfl | t
  · exact RoadKit.mvA hZ q
  · exact RoadKit.mv hZ q t
/-- WHAT COMES BACK, over the tables of the start Z: h the heap at the call, h' behind it -/
def Q (Z : State) (x : Addr) (A : Cell) (h : Heap) (v : Option Value) (h' : Heap) (L : List Loc) : Prop := v = none ∧ (∀ y ∈ L, y.base = x) ∧ RoadKit.Keep h h' [x] ∧ h'.size = h.size + 1 ∧ RoadKit.Exa Z h' x ST ∧ RoadKit.Fld Z h' x ST "value" "[B" (.ref h.size) ∧ RoadKit.Fld Z h' x ST "coder" "B" (.int 0) ∧
  (∃ V : Cell, RoadKit.Arr Z h' h.size V .byte ∧ V.vm = .none ∧ Z.vm.findClass "[B" = some V.cls ∧ V.slots.size = A.slots.size ∧ ∀ j, j < A.slots.size → V.slots[j]? = some (.int (lo8 (cv A j)))) ∧
  ∀ (O n d : String) (w : Value), RoadKit.Fld Z h x O n d w → RoadKit.slotOf Z O n d ≠ RoadKit.slotOf Z ST "value" "[B" → RoadKit.slotOf Z O n d ≠ RoadKit.slotOf Z ST "coder" "B" → RoadKit.Fld Z h' x O n d w
/-- **new String(chars) AT A CALL, IN THE ROAD'S FORM**: for specialBack behind newO: x the fresh String, b the char[] with the cell A -/
theorem back {p : Program} {l : Launch} {e : Env} {R : Room} {s : State} {args : Array Value} {below : List Frame} {len W : Nat} {Z : State} {a0 : Array Value} {h : Heap} (hZ : Z.Warmed39 s.vm) (hw : ∀ d ∈ words, d.before a0 Z = true) {kI : Nat} (wi : (Jvm.Cond.instantiable ST kI).before a0 Z = true)
    {x b : Addr} {A : Cell} {z : Int32} {v0 c0 : Value} (E : RoadKit.Exa Z h x ST) (V : RoadKit.Fld Z h x ST "value" "[B" v0) (C : RoadKit.Fld Z h x ST "coder" "B" c0) (K : RoadKit.Arr Z h b A .char) (hty : Typed .char A) (S : RoadKit.Sta Z h ST "COMPACT_STRINGS" "Z" (.int z)) (hz : ¬ z = 0)
    (l0 : 0 < A.slots.size) (l2 : A.slots.size ≤ 536870912) (hp : ∀ i, i < A.slots.size → ¬ 255 < cv A i) (hfr : 4 ≤ R.frames) (hlo : W + 65 ≤ R.locals) :
    Back l R p e below s args New1.yN len W (fun P a => a = #[.ref x, .ref b] ∧ P.U.heap = h ∧ P.cells + 1 ≤ R.cells ∧ P.slots + A.slots.size ≤ R.slots)
      (fun P _ v B => ∃ L, Q Z x A h v B.U.heap L ∧ B.locs = P.locs ++ L ∧ B.cells = P.cells + 1 ∧ B.slots = P.slots + A.slots.size) := by
  intro m meth c P g ig mk a X hg hsize hdg hW hn hp'
  obtain ⟨rfl, rfl, r1, r2⟩ := hp'
  have al : Z.vm.Alike P.U.vm := hZ.alike.trans X.warmed.alike
  obtain ⟨D, cfV, kV, iV, fV, hD, gV, stV, knV, obV, asV, slV⟩ := id V
  obtain ⟨D', cfC, kC, iC, fC, hD', gC, stC, -, -, asC, slC⟩ := id C
  cases hD.symm.trans hD'
  obtain ⟨D2, kD, e1, e2, e3, e4, e5⟩ := id E
  cases hD.symm.trans e1
  obtain ⟨c2, k2, i1, i2, i3, -⟩ := Cond.instantiable_spec wi
  cases e2.symm.trans i1
  cases e3.symm.trans i2
  obtain ⟨kU, u1, u2⟩ := al.2.2 _ _ e3
  have hB : Blank ST x D P.U := ⟨hD, ⟨knV, fun q hq => by rw [hq] at obV; cases obV⟩, by rw [al.findClass]; exact e2, kU, u1, by rw [u2]; exact i3, by rw [u2]; exact e5 i3⟩
  have F1 : Found ST "value" "[B" fV P.U := ⟨SBG.found_only al ⟨cfV, kV, iV, gV⟩, stV⟩
  have F2 : Found ST "coder" "B" fC P.U := ⟨SBG.found_only al ⟨cfC, kC, iC, gC⟩, stC⟩
  have hA : Ch b A P.U := ⟨⟨K.1, State.isArrayOf_alike al K.2.1, K.2.2, by omega⟩, hty⟩
  have hS : StaticIs P.U ST "COMPACT_STRINGS" "Z" (.int z) := by
    obtain ⟨cfS, iS, kS, fS, st, cS, t1, t2, t3, t4, t5, t6, t7⟩ := S
    exact StaticIs.there (s := { Z with heap := P.U.heap }) ⟨cfS, iS, kS, fS, st, cS, t1, t2, t3, t4, t5, (fun q => by rw [q] at t6; cases t6), t7⟩ al rfl
  obtain ⟨v, B, X', ⟨⟨hv, E', V', q1, q2, q3, q4, q5, q6, q7, q8, q9, q10, q11⟩, hl, hc, hs⟩, st⟩ := New1.pays x D fV fC b A z (tab_of (moved hZ hw)) hfr hlo m meth c P g ig mk _ X hg hsize hdg hW hn ⟨r1, r2, rfl, hB, F1, F2, hA, hS, hz, l0, l2, hp⟩
  have al' : Z.vm.Alike B.U.vm := hZ.alike.trans X'.warmed.alike
  have hsz : E'.slots.size = D.slots.size := by
    obtain ⟨-, -, -, kB, w1, w2, w3⟩ := q1
    obtain ⟨kB', y1, y2⟩ := al'.2.2 _ _ e3
    rw [q2.2.1] at w1
    cases w1.symm.trans y1
    rw [w3, e5 i3, y2]
  refine ⟨v, B, X', ⟨_, ⟨hv, ?_, ⟨by omega, fun y cy hy hn' => q10 y cy (by simpa using hn') hy, fun y cy hy => ?_⟩, q11, ⟨E', _, q1.1, by rw [q2.2.1]; exact e2, by rw [q2.2.1]; exact e3, by rw [q2.1]; exact obV, fun _ => by rw [hsz]; exact e5 i3⟩,
    ⟨E', cfV, kV, iV, fV, q1.1, gV, stV, by rw [q2.1]; exact knV, by rw [q2.1]; exact obV, by rw [q2.2.1]; exact asV, q3⟩, ⟨E', cfC, kC, iC, fC, q1.1, gC, stC, by rw [q2.1]; exact knV, by rw [q2.1]; exact obV, by rw [q2.2.1]; exact asC, q4⟩,
    ⟨V', ⟨q5.1, State.isArrayOf_alike al'.symm q5.2.1, q5.2.2.1⟩, q6, by rw [← al'.findClass]; exact q7, q8, fun j hj => by have := q9 j hj; rwa [Nat.zero_add] at this⟩, fun O n d w F n1 n2 => ?_⟩, hl, hc, hs⟩, st⟩
  · intro y hy
    simp only [List.mem_cons, List.not_mem_nil, or_false] at hy
    rcases hy with rfl | rfl <;> rfl
  · by_cases q : y = x
    · subst q
      cases hD.symm.trans hy
      exact ⟨E', q1.1, q2.2.1, q2.1, hsz⟩
    · exact ⟨cy, q10 y cy q hy, rfl, rfl, rfl⟩
  · obtain ⟨D3, cf, k, i, f, g1, g2, g3, g4, g5, g6, g7⟩ := F
    cases hD.symm.trans g1
    simp only [RoadKit.slotOf, g2, gV, gC, Option.map_some, Option.getD_some] at n1 n2
    exact ⟨E', cf, k, i, f, q1.1, g2, g3, by rw [q2.1]; exact g4, by rw [q2.1]; exact g5, by rw [q2.2.1]; exact g6, by rw [q2.2.2 f.slot (by simp [n1, n2])]; exact g7⟩
end StrChars.Road
namespace StrChars.Road
open Jvm Sem ClassFile Op Lib Jvm.Stand Jvm.Free Jvm.Free.XT
/-- WHAT COMES BACK, the byte[] as a list of values -/
def QA (Z : State) (x : Addr) (zn : Int32) (cs : List Int32) (h : Heap) (v : Option Value) (h' : Heap) (L : List Loc) : Prop := v = none ∧ (∀ y ∈ L, y.base = x) ∧ RoadKit.Keep h h' [x] ∧ h'.size = h.size + 1 ∧ RoadKit.Exa Z h' x ST ∧ RoadKit.Fld Z h' x ST "value" "[B" (.ref h.size) ∧ RoadKit.Fld Z h' x ST "coder" "B" (.int 0) ∧
  (∃ kb, Z.vm.findClass "[B" = some kb ∧ RoadKit.Arv Z h' h.size kb .byte zn (cs.map fun c => .int (lo8 c)) (.int 0)) ∧
  ∀ (O n d : String) (w : Value), RoadKit.Fld Z h x O n d w → RoadKit.slotOf Z O n d ≠ RoadKit.slotOf Z ST "value" "[B" → RoadKit.slotOf Z O n d ≠ RoadKit.slotOf Z ST "coder" "B" → RoadKit.Fld Z h' x O n d w
/-- **new String(chars) AT A CALL, THE ARRAYS AS LISTS**: the char[] at b holds cs, not empty, no char above 255 -/
theorem backArv {p : Program} {l : Launch} {e : Env} {R : Room} {s : State} {args : Array Value} {below : List Frame} {len W : Nat} {Z : State} {a0 : Array Value} {h : Heap} (hZ : Z.Warmed39 s.vm) (hw : ∀ d ∈ words, d.before a0 Z = true) {kI : Nat} (wi : (Jvm.Cond.instantiable ST kI).before a0 Z = true)
    {x b : Addr} {k : ClassId} {zn z : Int32} {cs : List Int32} {dv v0 c0 : Value} (E : RoadKit.Exa Z h x ST) (V : RoadKit.Fld Z h x ST "value" "[B" v0) (C : RoadKit.Fld Z h x ST "coder" "B" c0) (K : RoadKit.Arv Z h b k .char zn (cs.map Value.int) dv) (S : RoadKit.Sta Z h ST "COMPACT_STRINGS" "Z" (.int z)) (hz : ¬ z = 0)
    (hlen : zn.toNatClampNeg = cs.length) (h0 : 0 < cs.length) (hbig : cs.length ≤ 536870912) (hall : ∀ c ∈ cs, ¬ 255 < c) (hfr : 4 ≤ R.frames) (hlo : W + 65 ≤ R.locals) :
    Back l R p e below s args New1.yN len W (fun P a => a = #[.ref x, .ref b] ∧ P.U.heap = h ∧ P.cells + 1 ≤ R.cells ∧ P.slots + cs.length ≤ R.slots)
      (fun P _ v B => ∃ L, QA Z x zn cs h v B.U.heap L ∧ B.locs = P.locs ++ L ∧ B.cells = P.cells + 1 ∧ B.slots = P.slots + cs.length) := by
  obtain ⟨A, K1, K2, K3, K4, K5, K6⟩ := K
  have e : A.slots.size = cs.length := K3.trans hlen
  have hat : ∀ (i : Nat) (hi : i < cs.length), A.slots[i]? = some (.int cs[i]) := fun i hi => by rw [K5 i (by omega)]; simp [List.getD_eq_getElem?_getD, hi]
  have hcv : ∀ (i : Nat) (hi : i < cs.length), cv A i = cs[i] := fun i hi => by unfold cv; rw [hat i hi]
  have hty : Typed .char A := fun i v hv => by
    have hi : i < A.slots.size := (Array.getElem?_eq_some_iff.mp hv).1
    have q := K5 i hi
    rw [hv] at q
    rw [Option.some.inj q]
    exact K6 i hi
  refine Back.mono (back hZ hw wi E V C K1 hty S hz (by omega) (by omega) (fun i hi => by rw [hcv i (by omega)]; exact hall _ (List.getElem_mem _)) hfr hlo) (fun P a hp => ⟨hp.1, hp.2.1, hp.2.2.1, by rw [e]; exact hp.2.2.2⟩) (fun P a v B hp hq => ?_)
  obtain ⟨L, ⟨q1, q2, q3, q4, q5, q6, q7, ⟨V', v1, v2, v3, v4, v5⟩, q9⟩, hl, hc, hs⟩ := hq
  refine ⟨L, ⟨q1, q2, q3, q4, q5, q6, q7, ⟨V'.cls, v3, V', v1, rfl, by rw [v4, e, hlen], K4, fun i hi => ?_, fun i hi => ?_⟩, q9⟩, hl, hc, by rw [hs, e]⟩
  · have hi' : i < cs.length := by omega
    rw [v5 i (by omega), hcv i hi']; simp [List.getD_eq_getElem?_getD, hi']
  · have hi' : i < cs.length := by omega
    simp only [List.getD_eq_getElem?_getD, List.getElem?_map, List.getElem?_eq_getElem hi', Option.map_some, Option.getD_some]
    exact fits_lo8 _
end StrChars.Road
namespace StrChars.Road
open Jvm Sem ClassFile Op Lib Jvm.Stand Jvm.Free Jvm.Free.XT
/-- WHAT COMES BACK, in the writer's own shape -/
def QV (Z : State) (x : Addr) (N : Int32) (bs : List Int32) (h : Heap) (n0 : Nat) (v : Option Value) (h' : Heap) (L : List Loc) : Prop := v = none ∧ RoadKit.Fr n0 L ∧ RoadKit.Keep h h' [x] ∧ RoadKit.Exa Z h' x ST ∧ RoadKit.Fld Z h' x ST "coder" "B" (.int 0) ∧
  ∃ (t : Addr) (kb : ClassId), n0 ≤ t ∧ h.size ≤ t ∧ ¬ t = x ∧ RoadKit.Fld Z h' x ST "value" "[B" (.ref t) ∧ RoadKit.Arv Z h' t kb .byte N (bs.map Value.int) (.int 0)
/-- **new String(chars) AT A CALL, FOR THE WRITER**: a char[] of n known ints, each 0 to 255 -/
theorem backV {p : Program} {l : Launch} {e : Env} {R : Room} {s : State} {args : Array Value} {below : List Frame} {len W : Nat} {Z : State} {a0 : Array Value} {h : Heap} (hZ : Z.Warmed39 s.vm) (hw : ∀ d ∈ words, d.before a0 Z = true) {kI : Nat} (wi : (Jvm.Cond.instantiable ST kI).before a0 Z = true)
    {x b : Addr} {kC : ClassId} {cs bs : List Int32} {d v0 c0 : Value} {z N : Int32} {n n0 : Nat} (hx0 : n0 ≤ x) (hh0 : n0 ≤ h.size) (E : RoadKit.Exa Z h x ST) (V : RoadKit.Fld Z h x ST "value" "[B" v0) (C : RoadKit.Fld Z h x ST "coder" "B" c0) (K : RoadKit.Arv Z h b kC .char N (cs.map Value.int) d) (S : RoadKit.Sta Z h ST "COMPACT_STRINGS" "Z" (.int z)) (hz : ¬ z = 0)
    (hn : cs.length = n) (hN : N = Int32.ofNat n) (l0 : 0 < n) (l2 : n ≤ 4000) (hp : ∀ c ∈ cs, ¬ c < 0 ∧ ¬ (255 : Int32) < c) (hb : bs = cs.map (fun c => c.toInt8.toInt32)) (hfr : 4 ≤ R.frames) (hlo : W + 65 ≤ R.locals) :
    Back l R p e below s args (⟨"java/lang/String", "<init>", "([C)V"⟩ : MethodName) len W (fun P a => a = #[.ref x, .ref b] ∧ P.U.heap = h ∧ P.cells + 1 ≤ R.cells ∧ P.slots + n ≤ R.slots)
      (fun P _ v B => ∃ L, QV Z x N bs h n0 v B.U.heap L ∧ B.locs = P.locs ++ L ∧ B.cells = P.cells + 1 ∧ B.slots = P.slots + n) := by
  subst hn hN hb
  refine Back.mono (backArv hZ hw wi E V C K S hz (n32 (by omega)) l0 (by omega) (fun c hc => (hp c hc).2) hfr hlo) (fun P a hp => hp) (fun P a v B hp hq => ?_)
  obtain ⟨L, ⟨q1, q2, q3, q4, q5, q6, q7, ⟨kb, v1, v2⟩, q9⟩, hl, hc, hs⟩ := hq
  exact ⟨L, ⟨q1, fun y hy => by rw [q2 y hy]; exact hx0, q3, q5, q7, h.size, kb, hh0, Nat.le_refl _, Nat.ne_of_gt E.lt, q6, by rw [List.map_map]; exact v2⟩, hl, hc, hs⟩
end StrChars.Road
end Jvm.Pilot.@@N@@
namespace Jvm.Pilot.@@N@@
open Jvm Jvm.ClassFile Sem Op Lib Jvm.Free Jvm.Stand Jvm.LawKit Jvm.RoadKit Bundle Jvm.Pilot.@@N@@.Jvm.D
def Hw (a0 : Array Value) (Z : State) : Prop := ∀ d ∈ tables_1, d.before a0 Z = true
def ELs : List (String × Nat) := []
/-- a Latin-1 String of the chars cs: its bytes lie at t -/
def St (Z : State) (h : Heap) (x t : Addr) (cs : List Int32) : Prop := Exa Z h x "java/lang/String" ∧ Fld Z h x "java/lang/String" "coder" "B" (.int 0) ∧ Fld Z h x "java/lang/String" "value" "[B" (.ref t) ∧ Ia Z h t .byte (cs.map fun c => c.toInt8.toInt32) ∧ ∀ c ∈ cs, ¬ c < 0 ∧ ¬ (255 : Int32) < c
theorem St.keep {Z : State} {h h' : Heap} {x t : Addr} {cs : List Int32} {ws : List Addr} (S : St Z h x t cs) (K : Keep h h' ws) (q : x ∉ ws) (q' : t ∉ ws) : St Z h' x t cs := ⟨S.1.keep K, S.2.1.keep K q, S.2.2.1.keep K q, S.2.2.2.1.keep K q', S.2.2.2.2⟩
theorem St.keep0 {Z : State} {h h' : Heap} {x t : Addr} {cs : List Int32} (S : St Z h x t cs) (K : Keep h h' []) : St Z h' x t cs := S.keep K nin0 nin0
theorem St.lt {Z : State} {h : Heap} {x t : Addr} {cs : List Int32} (S : St Z h x t cs) : x < h.size := S.1.lt
/-- what new String(char[]) leaves: the String x, its bytes at the new array t -/
def Qs (Z : State) (x : Addr) (cs : List Int32) (h h0 : Heap) (ws : List Addr) (v : Option Value) (h' : Heap) (L : List Loc) : Prop := v = none ∧ Nw h0 ws L ∧ Keep h h' [x] ∧ ∃ t, h.size ≤ t ∧ St Z h' x t cs
theorem bk_str {l : Launch} {Z : State} {n0 : Nat} {R : Room} {h0 h : Heap} {ws : List Addr} {a0 : Array Value} {W kI : Nat} (hws : ∀ d ∈ StrChars.Road.words, d.before a0 Z = true) (wi : (Jvm.Cond.instantiable "java/lang/String" kI).before a0 Z = true)
    {x b : Addr} {cs : List Int32} {v0 c0 : Value} {z : Int32} {len : Nat} (hx : h0.size ≤ x) (E : Exa Z h x "java/lang/String") (V : Fld Z h x "java/lang/String" "value" "[B" v0) (C : Fld Z h x "java/lang/String" "coder" "B" c0) (A : Ia Z h b .char cs) (S : Sta Z Z.heap "java/lang/String" "COMPACT_STRINGS" "Z" (.int z)) (hz : ¬ z = 0)
    (hl : cs.length = len) (l0 : 0 < len) (l2 : len ≤ 4000) (hp : ∀ c ∈ cs, ¬ c < 0 ∧ ¬ (255 : Int32) < c) (hfr : 4 ≤ R.frames) (hlo : W + 65 ≤ R.locals) :
    Bk l Z n0 R h0 ws h (⟨"java/lang/String", "<init>", "([C)V"⟩ : MethodName) W 1 len #[.ref x, .ref b] (Qs Z x cs h h0 ws) := fun p e below s args hZ ho hk => by
  obtain ⟨kA, Av⟩ := A.arv
  refine Back.mono (StrChars.Road.backV hZ hws wi (cs := cs) (bs := cs.map fun c => c.toInt8.toInt32) (n := len) (n0 := h0.size) hx hk.1 E V C Av (S.ext ho.2) hz hl (by rw [hl]) l0 l2 hp rfl hfr hlo) (fun P a hp => hp) (fun P a v B _ hq => ?_)
  obtain ⟨L, ⟨q1, q2, q3, q4, q5, t, kb, q6, q7, q8, q9, q10⟩, hl', hc, hs⟩ := hq
  refine ⟨L, ⟨q1, fun y hy => Or.inr (q2 y hy), q3, t, q7, q4, q5, q9, ia_of q10 rfl ?_, hp⟩, hl', hc, hs⟩
  rw [List.length_map, hl, Int32.toNatClampNeg, Int32.toInt_ofNat_of_lt (by omega)]; rfl
theorem low8 (x : Int32) : ¬ nar .char ((x &&& (255 : Int32)).toUInt32.toUInt16.toUInt32.toInt32) < 0 ∧ ¬ (255 : Int32) < nar .char ((x &&& (255 : Int32)).toUInt32.toUInt16.toUInt32.toInt32) := by
  have h1 := c_mask x 255 8 (by decide) (by decide)
  have h2 := c_i2c (x &&& 255)
  have h3 := c_i2c ((x &&& 255).toUInt32.toUInt16.toUInt32.toInt32)
  have e1 : (255 : Int32).toInt = 255 := by decide
  have e2 : (0 : Int32).toInt = 0 := by decide
  show ¬ ((x &&& (255 : Int32)).toUInt32.toUInt16.toUInt32.toInt32).toUInt32.toUInt16.toUInt32.toInt32 < 0 ∧ ¬ (255 : Int32) < ((x &&& (255 : Int32)).toUInt32.toUInt16.toUInt32.toInt32).toUInt32.toUInt16.toUInt32.toInt32
  rw [Int32.lt_iff_toInt_lt, Int32.lt_iff_toInt_lt, e1, e2]
  omega
theorem low8' (x : Int32) : ¬ (x &&& (255 : Int32)).toUInt32.toUInt16.toUInt32.toInt32 < 0 ∧ ¬ (255 : Int32) < (x &&& (255 : Int32)).toUInt32.toUInt16.toUInt32.toInt32 := by
  have h1 := c_mask x 255 8 (by decide) (by decide)
  have h2 := c_i2c (x &&& 255)
  have e1 : (255 : Int32).toInt = 255 := by decide
  have e2 : (0 : Int32).toInt = 0 := by decide
  rw [Int32.lt_iff_toInt_lt, Int32.lt_iff_toInt_lt, e1, e2]
  omega
theorem cmp_left (p q : Int32) : 0 < lcmpW (q.toInt64 - p.toInt64) 0 ↔ p < q := by
  rw [lw_gt, Int64.lt_iff_toInt_lt, Int32.lt_iff_toInt_lt]
  have h := c_lsub q.toInt64 p.toInt64
  have e := c_i2l q; have e' := c_i2l p
  have r := rng32 q; have r' := rng32 p; have r2 := rng64 (q.toInt64 - p.toInt64)
  have e0 : (0 : Int64).toInt = 0 := by decide
  rw [e0]; omega
theorem w_0 {a0 : Array Value} {Z : State} (hw : Hw a0 Z) : (Jvm.Cond.arrayClass Jvm.ClassFile.FieldType.char).before a0 Z = true := hw _ (List.mem_of_getElem? (i := 0) rfl)
theorem w_1 {a0 : Array Value} {Z : State} (hw : Hw a0 Z) : (Jvm.Cond.methodLink "com/example/offlode/offlode/ClaimIsLastAttemptPinLaw" (7 : Nat) ({ cls := "java/lang/String", name := "valueOf", desc := "(C)Ljava/lang/String;" } : Jvm.MethodName)).before a0 Z = true := hw _ (List.mem_of_getElem? (i := 1) rfl)
theorem w_2 {a0 : Array Value} {Z : State} (hw : Hw a0 Z) : (Jvm.Cond.static ({ cls := "java/lang/String", name := "valueOf", desc := "(C)Ljava/lang/String;" } : Jvm.MethodName)).before a0 Z = true := hw _ (List.mem_of_getElem? (i := 2) rfl)
theorem w_3 {a0 : Array Value} {Z : State} (hw : Hw a0 Z) : (Jvm.Cond.initialized "java/lang/String").before a0 Z = true := hw _ (List.mem_of_getElem? (i := 3) rfl)
theorem w_4 {a0 : Array Value} {Z : State} (hw : Hw a0 Z) : (Jvm.Cond.code ({ cls := "java/lang/String", name := "valueOf", desc := "(C)Ljava/lang/String;" } : Jvm.MethodName) jdk_42_method_139_code (1 : Nat) (Option.some (Jvm.ClassFile.FieldType.object "java/lang/String"))).before a0 Z = true := hw _ (List.mem_of_getElem? (i := 4) rfl)
theorem w_5 {a0 : Array Value} {Z : State} (hw : Hw a0 Z) : (Jvm.Cond.fieldLink "java/lang/String" (38 : Nat) "java/lang/String" "COMPACT_STRINGS" "Z").before a0 Z = true := hw _ (List.mem_of_getElem? (i := 5) rfl)
theorem w_6 {a0 : Array Value} {Z : State} (hw : Hw a0 Z) : (Jvm.Cond.methodLink "java/lang/String" (1015 : Nat) ({ cls := "java/lang/StringLatin1", name := "canEncode", desc := "(C)Z" } : Jvm.MethodName)).before a0 Z = true := hw _ (List.mem_of_getElem? (i := 6) rfl)
theorem w_7 {a0 : Array Value} {Z : State} (hw : Hw a0 Z) : (Jvm.Cond.static ({ cls := "java/lang/StringLatin1", name := "canEncode", desc := "(C)Z" } : Jvm.MethodName)).before a0 Z = true := hw _ (List.mem_of_getElem? (i := 7) rfl)
theorem w_8 {a0 : Array Value} {Z : State} (hw : Hw a0 Z) : (Jvm.Cond.initialized "java/lang/StringLatin1").before a0 Z = true := hw _ (List.mem_of_getElem? (i := 8) rfl)
theorem w_9 {a0 : Array Value} {Z : State} (hw : Hw a0 Z) : (Jvm.Cond.code ({ cls := "java/lang/StringLatin1", name := "canEncode", desc := "(C)Z" } : Jvm.MethodName) jdk_43_method_3_code (1 : Nat) (Option.some Jvm.ClassFile.FieldType.boolean)).before a0 Z = true := hw _ (List.mem_of_getElem? (i := 9) rfl)
theorem w_10 {a0 : Array Value} {Z : State} (hw : Hw a0 Z) : (Jvm.Cond.classLink "java/lang/String" (10 : Nat) "java/lang/String").before a0 Z = true := hw _ (List.mem_of_getElem? (i := 10) rfl)
theorem w_11 {a0 : Array Value} {Z : State} (hw : Hw a0 Z) : (Jvm.Cond.instantiable "java/lang/String" (4 : Nat)).before a0 Z = true := hw _ (List.mem_of_getElem? (i := 11) rfl)
theorem w_12 {a0 : Array Value} {Z : State} (hw : Hw a0 Z) : (Jvm.Cond.methodLink "java/lang/String" (1018 : Nat) ({ cls := "java/lang/StringLatin1", name := "toBytes", desc := "(C)[B" } : Jvm.MethodName)).before a0 Z = true := hw _ (List.mem_of_getElem? (i := 12) rfl)
theorem w_13 {a0 : Array Value} {Z : State} (hw : Hw a0 Z) : (Jvm.Cond.static ({ cls := "java/lang/StringLatin1", name := "toBytes", desc := "(C)[B" } : Jvm.MethodName)).before a0 Z = true := hw _ (List.mem_of_getElem? (i := 13) rfl)
theorem w_14 {a0 : Array Value} {Z : State} (hw : Hw a0 Z) : (Jvm.Cond.code ({ cls := "java/lang/StringLatin1", name := "toBytes", desc := "(C)[B" } : Jvm.MethodName) jdk_43_method_46_code (1 : Nat) (Option.some (Jvm.ClassFile.FieldType.array Jvm.ClassFile.FieldType.byte))).before a0 Z = true := hw _ (List.mem_of_getElem? (i := 14) rfl)
theorem w_15 {a0 : Array Value} {Z : State} (hw : Hw a0 Z) : (Jvm.Cond.arrayClass Jvm.ClassFile.FieldType.byte).before a0 Z = true := hw _ (List.mem_of_getElem? (i := 15) rfl)
theorem w_16 {a0 : Array Value} {Z : State} (hw : Hw a0 Z) : (Jvm.Cond.methodLink "java/lang/String" (209 : Nat) ({ cls := "java/lang/String", name := "<init>", desc := "([BB)V" } : Jvm.MethodName)).before a0 Z = true := hw _ (List.mem_of_getElem? (i := 16) rfl)
theorem w_17 {a0 : Array Value} {Z : State} (hw : Hw a0 Z) : (Jvm.Cond.instanceMethod ({ cls := "java/lang/String", name := "<init>", desc := "([BB)V" } : Jvm.MethodName)).before a0 Z = true := hw _ (List.mem_of_getElem? (i := 17) rfl)
theorem w_19 {a0 : Array Value} {Z : State} (hw : Hw a0 Z) : (Jvm.Cond.code ({ cls := "java/lang/String", name := "<init>", desc := "([BB)V" } : Jvm.MethodName) jdk_42_method_151_code (3 : Nat) (Option.none : Option Jvm.ClassFile.FieldType)).before a0 Z = true := hw _ (List.mem_of_getElem? (i := 19) rfl)
theorem w_20 {a0 : Array Value} {Z : State} (hw : Hw a0 Z) : (Jvm.Cond.methodLink "java/lang/String" (1 : Nat) ({ cls := "java/lang/Object", name := "<init>", desc := "()V" } : Jvm.MethodName)).before a0 Z = true := hw _ (List.mem_of_getElem? (i := 20) rfl)
theorem w_21 {a0 : Array Value} {Z : State} (hw : Hw a0 Z) : (Jvm.Cond.instanceMethod ({ cls := "java/lang/Object", name := "<init>", desc := "()V" } : Jvm.MethodName)).before a0 Z = true := hw _ (List.mem_of_getElem? (i := 21) rfl)
theorem w_22 {a0 : Array Value} {Z : State} (hw : Hw a0 Z) : (Jvm.Cond.code ({ cls := "java/lang/Object", name := "<init>", desc := "()V" } : Jvm.MethodName) object_method_1_code (1 : Nat) (Option.none : Option Jvm.ClassFile.FieldType)).before a0 Z = true := hw _ (List.mem_of_getElem? (i := 22) rfl)
theorem w_23 {a0 : Array Value} {Z : State} (hw : Hw a0 Z) : (Jvm.Cond.fieldLink "java/lang/String" (9 : Nat) "java/lang/String" "value" "[B").before a0 Z = true := hw _ (List.mem_of_getElem? (i := 23) rfl)
theorem w_24 {a0 : Array Value} {Z : State} (hw : Hw a0 Z) : (Jvm.Cond.laysFinal "java/lang/String" "java/lang/String" "value" "[B").before a0 Z = true := hw _ (List.mem_of_getElem? (i := 24) rfl)
theorem w_25 {a0 : Array Value} {Z : State} (hw : Hw a0 Z) : (Jvm.Cond.fieldLink "java/lang/String" (15 : Nat) "java/lang/String" "coder" "B").before a0 Z = true := hw _ (List.mem_of_getElem? (i := 25) rfl)
theorem w_26 {a0 : Array Value} {Z : State} (hw : Hw a0 Z) : (Jvm.Cond.laysFinal "java/lang/String" "java/lang/String" "coder" "B").before a0 Z = true := hw _ (List.mem_of_getElem? (i := 26) rfl)
theorem w_27 {a0 : Array Value} {Z : State} (hw : Hw a0 Z) : (Jvm.Cond.classLink "com/example/offlode/offlode/ClaimIsLastAttemptPinLaw" (13 : Nat) "com/example/offlode/offlode/TaskRun").before a0 Z = true := hw _ (List.mem_of_getElem? (i := 27) rfl)
theorem w_28 {a0 : Array Value} {Z : State} (hw : Hw a0 Z) : (Jvm.Cond.instantiable "com/example/offlode/offlode/TaskRun" (4 : Nat)).before a0 Z = true := hw _ (List.mem_of_getElem? (i := 28) rfl)
theorem w_29 {a0 : Array Value} {Z : State} (hw : Hw a0 Z) : (Jvm.Cond.initialized "com/example/offlode/offlode/TaskRun").before a0 Z = true := hw _ (List.mem_of_getElem? (i := 29) rfl)
theorem w_30 {a0 : Array Value} {Z : State} (hw : Hw a0 Z) : (Jvm.Cond.classLink "com/example/offlode/offlode/ClaimIsLastAttemptPinLaw" (8 : Nat) "java/lang/String").before a0 Z = true := hw _ (List.mem_of_getElem? (i := 30) rfl)
theorem w_31 {a0 : Array Value} {Z : State} (hw : Hw a0 Z) : (Jvm.Cond.methodLink "com/example/offlode/offlode/ClaimIsLastAttemptPinLaw" (15 : Nat) ({ cls := "java/lang/String", name := "<init>", desc := "([C)V" } : Jvm.MethodName)).before a0 Z = true := hw _ (List.mem_of_getElem? (i := 31) rfl)
theorem w_32 {a0 : Array Value} {Z : State} (hw : Hw a0 Z) : (Jvm.Cond.instanceMethod ({ cls := "java/lang/String", name := "<init>", desc := "([C)V" } : Jvm.MethodName)).before a0 Z = true := hw _ (List.mem_of_getElem? (i := 32) rfl)
theorem w_33 {a0 : Array Value} {Z : State} (hw : Hw a0 Z) : (Jvm.Cond.code ({ cls := "java/lang/String", name := "<init>", desc := "([C)V" } : Jvm.MethodName) jdk_42_method_3_code (2 : Nat) (Option.none : Option Jvm.ClassFile.FieldType)).before a0 Z = true := hw _ (List.mem_of_getElem? (i := 33) rfl)
theorem w_47 {a0 : Array Value} {Z : State} (hw : Hw a0 Z) : (Jvm.Cond.methodLink "com/example/offlode/offlode/ClaimIsLastAttemptPinLaw" (18 : Nat) ({ cls := "com/example/offlode/offlode/TaskRun", name := "<init>", desc := "(Ljava/lang/String;Ljava/lang/String;Ljava/lang/String;I)V" } : Jvm.MethodName)).before a0 Z = true := hw _ (List.mem_of_getElem? (i := 47) rfl)
theorem w_48 {a0 : Array Value} {Z : State} (hw : Hw a0 Z) : (Jvm.Cond.instanceMethod ({ cls := "com/example/offlode/offlode/TaskRun", name := "<init>", desc := "(Ljava/lang/String;Ljava/lang/String;Ljava/lang/String;I)V" } : Jvm.MethodName)).before a0 Z = true := hw _ (List.mem_of_getElem? (i := 48) rfl)
theorem w_49 {a0 : Array Value} {Z : State} (hw : Hw a0 Z) : (Jvm.Cond.code ({ cls := "com/example/offlode/offlode/TaskRun", name := "<init>", desc := "(Ljava/lang/String;Ljava/lang/String;Ljava/lang/String;I)V" } : Jvm.MethodName) prog_25_method_1_code (5 : Nat) (Option.none : Option Jvm.ClassFile.FieldType)).before a0 Z = true := hw _ (List.mem_of_getElem? (i := 49) rfl)
theorem w_50 {a0 : Array Value} {Z : State} (hw : Hw a0 Z) : (Jvm.Cond.methodLink "com/example/offlode/offlode/TaskRun" (1 : Nat) ({ cls := "java/lang/Record", name := "<init>", desc := "()V" } : Jvm.MethodName)).before a0 Z = true := hw _ (List.mem_of_getElem? (i := 50) rfl)
theorem w_51 {a0 : Array Value} {Z : State} (hw : Hw a0 Z) : (Jvm.Cond.instanceMethod ({ cls := "java/lang/Record", name := "<init>", desc := "()V" } : Jvm.MethodName)).before a0 Z = true := hw _ (List.mem_of_getElem? (i := 51) rfl)
theorem w_53 {a0 : Array Value} {Z : State} (hw : Hw a0 Z) : (Jvm.Cond.initialized "java/lang/Record").before a0 Z = true := hw _ (List.mem_of_getElem? (i := 53) rfl)
theorem w_54 {a0 : Array Value} {Z : State} (hw : Hw a0 Z) : (Jvm.Cond.code ({ cls := "java/lang/Record", name := "<init>", desc := "()V" } : Jvm.MethodName) jdk_30_method_1_code (1 : Nat) (Option.none : Option Jvm.ClassFile.FieldType)).before a0 Z = true := hw _ (List.mem_of_getElem? (i := 54) rfl)
theorem w_55 {a0 : Array Value} {Z : State} (hw : Hw a0 Z) : (Jvm.Cond.methodLink "java/lang/Record" (1 : Nat) ({ cls := "java/lang/Object", name := "<init>", desc := "()V" } : Jvm.MethodName)).before a0 Z = true := hw _ (List.mem_of_getElem? (i := 55) rfl)
theorem w_56 {a0 : Array Value} {Z : State} (hw : Hw a0 Z) : (Jvm.Cond.fieldLink "com/example/offlode/offlode/TaskRun" (7 : Nat) "com/example/offlode/offlode/TaskRun" "id" "Ljava/lang/String;").before a0 Z = true := hw _ (List.mem_of_getElem? (i := 56) rfl)
theorem w_57 {a0 : Array Value} {Z : State} (hw : Hw a0 Z) : (Jvm.Cond.laysFinal "com/example/offlode/offlode/TaskRun" "com/example/offlode/offlode/TaskRun" "id" "Ljava/lang/String;").before a0 Z = true := hw _ (List.mem_of_getElem? (i := 57) rfl)
theorem w_58 {a0 : Array Value} {Z : State} (hw : Hw a0 Z) : (Jvm.Cond.fieldLink "com/example/offlode/offlode/TaskRun" (13 : Nat) "com/example/offlode/offlode/TaskRun" "handlerName" "Ljava/lang/String;").before a0 Z = true := hw _ (List.mem_of_getElem? (i := 58) rfl)
theorem w_59 {a0 : Array Value} {Z : State} (hw : Hw a0 Z) : (Jvm.Cond.laysFinal "com/example/offlode/offlode/TaskRun" "com/example/offlode/offlode/TaskRun" "handlerName" "Ljava/lang/String;").before a0 Z = true := hw _ (List.mem_of_getElem? (i := 59) rfl)
theorem w_60 {a0 : Array Value} {Z : State} (hw : Hw a0 Z) : (Jvm.Cond.fieldLink "com/example/offlode/offlode/TaskRun" (16 : Nat) "com/example/offlode/offlode/TaskRun" "payload" "Ljava/lang/String;").before a0 Z = true := hw _ (List.mem_of_getElem? (i := 60) rfl)
theorem w_61 {a0 : Array Value} {Z : State} (hw : Hw a0 Z) : (Jvm.Cond.laysFinal "com/example/offlode/offlode/TaskRun" "com/example/offlode/offlode/TaskRun" "payload" "Ljava/lang/String;").before a0 Z = true := hw _ (List.mem_of_getElem? (i := 61) rfl)
theorem w_62 {a0 : Array Value} {Z : State} (hw : Hw a0 Z) : (Jvm.Cond.fieldLink "com/example/offlode/offlode/TaskRun" (19 : Nat) "com/example/offlode/offlode/TaskRun" "attempt" "I").before a0 Z = true := hw _ (List.mem_of_getElem? (i := 62) rfl)
theorem w_63 {a0 : Array Value} {Z : State} (hw : Hw a0 Z) : (Jvm.Cond.laysFinal "com/example/offlode/offlode/TaskRun" "com/example/offlode/offlode/TaskRun" "attempt" "I").before a0 Z = true := hw _ (List.mem_of_getElem? (i := 63) rfl)
theorem w_64 {a0 : Array Value} {Z : State} (hw : Hw a0 Z) : (Jvm.Cond.classLink "com/example/offlode/offlode/ClaimIsLastAttemptPinLaw" (21 : Nat) "com/example/offlode/offlode/TaskTable$Claim").before a0 Z = true := hw _ (List.mem_of_getElem? (i := 64) rfl)
theorem w_65 {a0 : Array Value} {Z : State} (hw : Hw a0 Z) : (Jvm.Cond.instantiable "com/example/offlode/offlode/TaskTable$Claim" (3 : Nat)).before a0 Z = true := hw _ (List.mem_of_getElem? (i := 65) rfl)
theorem w_66 {a0 : Array Value} {Z : State} (hw : Hw a0 Z) : (Jvm.Cond.initialized "com/example/offlode/offlode/TaskTable$Claim").before a0 Z = true := hw _ (List.mem_of_getElem? (i := 66) rfl)
theorem w_67 {a0 : Array Value} {Z : State} (hw : Hw a0 Z) : (Jvm.Cond.methodLink "com/example/offlode/offlode/ClaimIsLastAttemptPinLaw" (23 : Nat) ({ cls := "com/example/offlode/offlode/TaskTable$Claim", name := "<init>", desc := "(Lcom/example/offlode/offlode/TaskRun;II)V" } : Jvm.MethodName)).before a0 Z = true := hw _ (List.mem_of_getElem? (i := 67) rfl)
theorem w_68 {a0 : Array Value} {Z : State} (hw : Hw a0 Z) : (Jvm.Cond.instanceMethod ({ cls := "com/example/offlode/offlode/TaskTable$Claim", name := "<init>", desc := "(Lcom/example/offlode/offlode/TaskRun;II)V" } : Jvm.MethodName)).before a0 Z = true := hw _ (List.mem_of_getElem? (i := 68) rfl)
theorem w_69 {a0 : Array Value} {Z : State} (hw : Hw a0 Z) : (Jvm.Cond.code ({ cls := "com/example/offlode/offlode/TaskTable$Claim", name := "<init>", desc := "(Lcom/example/offlode/offlode/TaskRun;II)V" } : Jvm.MethodName) prog_28_method_1_code (4 : Nat) (Option.none : Option Jvm.ClassFile.FieldType)).before a0 Z = true := hw _ (List.mem_of_getElem? (i := 69) rfl)
theorem w_70 {a0 : Array Value} {Z : State} (hw : Hw a0 Z) : (Jvm.Cond.methodLink "com/example/offlode/offlode/TaskTable$Claim" (1 : Nat) ({ cls := "java/lang/Record", name := "<init>", desc := "()V" } : Jvm.MethodName)).before a0 Z = true := hw _ (List.mem_of_getElem? (i := 70) rfl)
theorem w_71 {a0 : Array Value} {Z : State} (hw : Hw a0 Z) : (Jvm.Cond.fieldLink "com/example/offlode/offlode/TaskTable$Claim" (7 : Nat) "com/example/offlode/offlode/TaskTable$Claim" "run" "Lcom/example/offlode/offlode/TaskRun;").before a0 Z = true := hw _ (List.mem_of_getElem? (i := 71) rfl)
theorem w_72 {a0 : Array Value} {Z : State} (hw : Hw a0 Z) : (Jvm.Cond.laysFinal "com/example/offlode/offlode/TaskTable$Claim" "com/example/offlode/offlode/TaskTable$Claim" "run" "Lcom/example/offlode/offlode/TaskRun;").before a0 Z = true := hw _ (List.mem_of_getElem? (i := 72) rfl)
theorem w_73 {a0 : Array Value} {Z : State} (hw : Hw a0 Z) : (Jvm.Cond.fieldLink "com/example/offlode/offlode/TaskTable$Claim" (13 : Nat) "com/example/offlode/offlode/TaskTable$Claim" "maxAttempts" "I").before a0 Z = true := hw _ (List.mem_of_getElem? (i := 73) rfl)
theorem w_74 {a0 : Array Value} {Z : State} (hw : Hw a0 Z) : (Jvm.Cond.laysFinal "com/example/offlode/offlode/TaskTable$Claim" "com/example/offlode/offlode/TaskTable$Claim" "maxAttempts" "I").before a0 Z = true := hw _ (List.mem_of_getElem? (i := 74) rfl)
theorem w_75 {a0 : Array Value} {Z : State} (hw : Hw a0 Z) : (Jvm.Cond.fieldLink "com/example/offlode/offlode/TaskTable$Claim" (17 : Nat) "com/example/offlode/offlode/TaskTable$Claim" "number" "I").before a0 Z = true := hw _ (List.mem_of_getElem? (i := 75) rfl)
theorem w_76 {a0 : Array Value} {Z : State} (hw : Hw a0 Z) : (Jvm.Cond.laysFinal "com/example/offlode/offlode/TaskTable$Claim" "com/example/offlode/offlode/TaskTable$Claim" "number" "I").before a0 Z = true := hw _ (List.mem_of_getElem? (i := 76) rfl)
theorem w_77 {a0 : Array Value} {Z : State} (hw : Hw a0 Z) : (Jvm.Cond.methodLink "com/example/offlode/offlode/ClaimIsLastAttemptPinLaw" (26 : Nat) ({ cls := "com/example/offlode/offlode/TaskTable$Claim", name := "isLastAttempt", desc := "()Z" } : Jvm.MethodName)).before a0 Z = true := hw _ (List.mem_of_getElem? (i := 77) rfl)
theorem w_78 {a0 : Array Value} {Z : State} (hw : Hw a0 Z) : (Jvm.Cond.declares ({ cls := "com/example/offlode/offlode/TaskTable$Claim", name := "isLastAttempt", desc := "()Z" } : Jvm.MethodName)).before a0 Z = true := hw _ (List.mem_of_getElem? (i := 78) rfl)
theorem w_79 {a0 : Array Value} {Z : State} (hw : Hw a0 Z) : (Jvm.Cond.instanceMethod ({ cls := "com/example/offlode/offlode/TaskTable$Claim", name := "isLastAttempt", desc := "()Z" } : Jvm.MethodName)).before a0 Z = true := hw _ (List.mem_of_getElem? (i := 79) rfl)
theorem w_80 {a0 : Array Value} {Z : State} (hw : Hw a0 Z) : (Jvm.Cond.selects "com/example/offlode/offlode/TaskTable$Claim" ({ cls := "com/example/offlode/offlode/TaskTable$Claim", name := "isLastAttempt", desc := "()Z" } : Jvm.MethodName) ({ cls := "com/example/offlode/offlode/TaskTable$Claim", name := "isLastAttempt", desc := "()Z" } : Jvm.MethodName)).before a0 Z = true := hw _ (List.mem_of_getElem? (i := 80) rfl)
theorem w_81 {a0 : Array Value} {Z : State} (hw : Hw a0 Z) : (Jvm.Cond.code ({ cls := "com/example/offlode/offlode/TaskTable$Claim", name := "isLastAttempt", desc := "()Z" } : Jvm.MethodName) prog_28_method_2_code (1 : Nat) (Option.some Jvm.ClassFile.FieldType.boolean)).before a0 Z = true := hw _ (List.mem_of_getElem? (i := 81) rfl)
theorem w_82 {a0 : Array Value} {Z : State} (hw : Hw a0 Z) : (Jvm.Cond.methodLink "com/example/offlode/offlode/TaskTable$Claim" (20 : Nat) ({ cls := "com/example/offlode/offlode/TaskRun", name := "attempt", desc := "()I" } : Jvm.MethodName)).before a0 Z = true := hw _ (List.mem_of_getElem? (i := 82) rfl)
theorem w_83 {a0 : Array Value} {Z : State} (hw : Hw a0 Z) : (Jvm.Cond.declares ({ cls := "com/example/offlode/offlode/TaskRun", name := "attempt", desc := "()I" } : Jvm.MethodName)).before a0 Z = true := hw _ (List.mem_of_getElem? (i := 83) rfl)
theorem w_84 {a0 : Array Value} {Z : State} (hw : Hw a0 Z) : (Jvm.Cond.instanceMethod ({ cls := "com/example/offlode/offlode/TaskRun", name := "attempt", desc := "()I" } : Jvm.MethodName)).before a0 Z = true := hw _ (List.mem_of_getElem? (i := 84) rfl)
theorem w_85 {a0 : Array Value} {Z : State} (hw : Hw a0 Z) : (Jvm.Cond.selects "com/example/offlode/offlode/TaskRun" ({ cls := "com/example/offlode/offlode/TaskRun", name := "attempt", desc := "()I" } : Jvm.MethodName) ({ cls := "com/example/offlode/offlode/TaskRun", name := "attempt", desc := "()I" } : Jvm.MethodName)).before a0 Z = true := hw _ (List.mem_of_getElem? (i := 85) rfl)
theorem w_86 {a0 : Array Value} {Z : State} (hw : Hw a0 Z) : (Jvm.Cond.code ({ cls := "com/example/offlode/offlode/TaskRun", name := "attempt", desc := "()I" } : Jvm.MethodName) prog_25_method_8_code (1 : Nat) (Option.some Jvm.ClassFile.FieldType.int)).before a0 Z = true := hw _ (List.mem_of_getElem? (i := 86) rfl)
theorem d12_0 : decode jdk_30_method_1_code 0 = .ok (.aload_n 0, 1) := by decide +kernel
theorem d12_1 : decode jdk_30_method_1_code 1 = .ok (.invokespecial 1, 3) := by decide +kernel
theorem d12_4 : decode jdk_30_method_1_code 4 = .ok (.return_, 1) := by decide +kernel
theorem d1_0 : decode jdk_42_method_139_code 0 = .ok (.getstatic 38, 3) := by decide +kernel
theorem d1_3 : decode jdk_42_method_139_code 3 = .ok (.ifCond .eq 23, 3) := by decide +kernel
theorem d1_6 : decode jdk_42_method_139_code 6 = .ok (.iload_n 0, 1) := by decide +kernel
theorem d1_7 : decode jdk_42_method_139_code 7 = .ok (.invokestatic 1015, 3) := by decide +kernel
theorem d1_10 : decode jdk_42_method_139_code 10 = .ok (.ifCond .eq 16, 3) := by decide +kernel
theorem d1_13 : decode jdk_42_method_139_code 13 = .ok (.new 10, 3) := by decide +kernel
theorem d1_16 : decode jdk_42_method_139_code 16 = .ok (.dup, 1) := by decide +kernel
theorem d1_17 : decode jdk_42_method_139_code 17 = .ok (.iload_n 0, 1) := by decide +kernel
theorem d1_18 : decode jdk_42_method_139_code 18 = .ok (.invokestatic 1018, 3) := by decide +kernel
theorem d1_21 : decode jdk_42_method_139_code 21 = .ok (.iconst 0, 1) := by decide +kernel
theorem d1_22 : decode jdk_42_method_139_code 22 = .ok (.invokespecial 209, 3) := by decide +kernel
theorem d1_25 : decode jdk_42_method_139_code 25 = .ok (.areturn, 1) := by decide +kernel
theorem d4_0 : decode jdk_42_method_151_code 0 = .ok (.aload_n 0, 1) := by decide +kernel
theorem d4_1 : decode jdk_42_method_151_code 1 = .ok (.invokespecial 1, 3) := by decide +kernel
theorem d4_4 : decode jdk_42_method_151_code 4 = .ok (.aload_n 0, 1) := by decide +kernel
theorem d4_5 : decode jdk_42_method_151_code 5 = .ok (.aload_n 1, 1) := by decide +kernel
theorem d4_6 : decode jdk_42_method_151_code 6 = .ok (.putfield 9, 3) := by decide +kernel
theorem d4_9 : decode jdk_42_method_151_code 9 = .ok (.aload_n 0, 1) := by decide +kernel
theorem d4_10 : decode jdk_42_method_151_code 10 = .ok (.iload_n 2, 1) := by decide +kernel
theorem d4_11 : decode jdk_42_method_151_code 11 = .ok (.putfield 15, 3) := by decide +kernel
theorem d4_14 : decode jdk_42_method_151_code 14 = .ok (.return_, 1) := by decide +kernel
theorem d2_0 : decode jdk_43_method_3_code 0 = .ok (.iload_n 0, 1) := by decide +kernel
theorem d2_1 : decode jdk_43_method_3_code 1 = .ok (.sipush 255, 3) := by decide +kernel
theorem d2_4 : decode jdk_43_method_3_code 4 = .ok (.if_icmp .gt 7, 3) := by decide +kernel
theorem d2_7 : decode jdk_43_method_3_code 7 = .ok (.iconst 1, 1) := by decide +kernel
theorem d2_8 : decode jdk_43_method_3_code 8 = .ok (.goto 4, 3) := by decide +kernel
theorem d2_12 : decode jdk_43_method_3_code 12 = .ok (.ireturn, 1) := by decide +kernel
theorem d3_0 : decode jdk_43_method_46_code 0 = .ok (.iconst 1, 1) := by decide +kernel
theorem d3_1 : decode jdk_43_method_46_code 1 = .ok (.newarray .byte, 2) := by decide +kernel
theorem d3_3 : decode jdk_43_method_46_code 3 = .ok (.dup, 1) := by decide +kernel
theorem d3_4 : decode jdk_43_method_46_code 4 = .ok (.iconst 0, 1) := by decide +kernel
theorem d3_5 : decode jdk_43_method_46_code 5 = .ok (.iload_n 0, 1) := by decide +kernel
theorem d3_6 : decode jdk_43_method_46_code 6 = .ok (.i2b, 1) := by decide +kernel
theorem d3_7 : decode jdk_43_method_46_code 7 = .ok (.bastore, 1) := by decide +kernel
theorem d3_8 : decode jdk_43_method_46_code 8 = .ok (.areturn, 1) := by decide +kernel
theorem d11_0 : decode prog_25_method_1_code 0 = .ok (.aload_n 0, 1) := by decide +kernel
theorem d11_1 : decode prog_25_method_1_code 1 = .ok (.invokespecial 1, 3) := by decide +kernel
theorem d11_4 : decode prog_25_method_1_code 4 = .ok (.aload_n 0, 1) := by decide +kernel
theorem d11_5 : decode prog_25_method_1_code 5 = .ok (.aload_n 1, 1) := by decide +kernel
theorem d11_6 : decode prog_25_method_1_code 6 = .ok (.putfield 7, 3) := by decide +kernel
theorem d11_9 : decode prog_25_method_1_code 9 = .ok (.aload_n 0, 1) := by decide +kernel
theorem d11_10 : decode prog_25_method_1_code 10 = .ok (.aload_n 2, 1) := by decide +kernel
theorem d11_11 : decode prog_25_method_1_code 11 = .ok (.putfield 13, 3) := by decide +kernel
theorem d11_14 : decode prog_25_method_1_code 14 = .ok (.aload_n 0, 1) := by decide +kernel
theorem d11_15 : decode prog_25_method_1_code 15 = .ok (.aload_n 3, 1) := by decide +kernel
theorem d11_16 : decode prog_25_method_1_code 16 = .ok (.putfield 16, 3) := by decide +kernel
theorem d11_19 : decode prog_25_method_1_code 19 = .ok (.aload_n 0, 1) := by decide +kernel
theorem d11_20 : decode prog_25_method_1_code 20 = .ok (.iload 4, 2) := by decide +kernel
theorem d11_22 : decode prog_25_method_1_code 22 = .ok (.putfield 19, 3) := by decide +kernel
theorem d11_25 : decode prog_25_method_1_code 25 = .ok (.return_, 1) := by decide +kernel
theorem d15_0 : decode prog_25_method_8_code 0 = .ok (.aload_n 0, 1) := by decide +kernel
theorem d15_1 : decode prog_25_method_8_code 1 = .ok (.getfield 19, 3) := by decide +kernel
theorem d15_4 : decode prog_25_method_8_code 4 = .ok (.ireturn, 1) := by decide +kernel
theorem d13_0 : decode prog_28_method_1_code 0 = .ok (.aload_n 0, 1) := by decide +kernel
theorem d13_1 : decode prog_28_method_1_code 1 = .ok (.invokespecial 1, 3) := by decide +kernel
theorem d13_4 : decode prog_28_method_1_code 4 = .ok (.aload_n 0, 1) := by decide +kernel
theorem d13_5 : decode prog_28_method_1_code 5 = .ok (.aload_n 1, 1) := by decide +kernel
theorem d13_6 : decode prog_28_method_1_code 6 = .ok (.putfield 7, 3) := by decide +kernel
theorem d13_9 : decode prog_28_method_1_code 9 = .ok (.aload_n 0, 1) := by decide +kernel
theorem d13_10 : decode prog_28_method_1_code 10 = .ok (.iload_n 2, 1) := by decide +kernel
theorem d13_11 : decode prog_28_method_1_code 11 = .ok (.putfield 13, 3) := by decide +kernel
theorem d13_14 : decode prog_28_method_1_code 14 = .ok (.aload_n 0, 1) := by decide +kernel
theorem d13_15 : decode prog_28_method_1_code 15 = .ok (.iload_n 3, 1) := by decide +kernel
theorem d13_16 : decode prog_28_method_1_code 16 = .ok (.putfield 17, 3) := by decide +kernel
theorem d13_19 : decode prog_28_method_1_code 19 = .ok (.return_, 1) := by decide +kernel
theorem d14_0 : decode prog_28_method_2_code 0 = .ok (.aload_n 0, 1) := by decide +kernel
theorem d14_1 : decode prog_28_method_2_code 1 = .ok (.getfield 7, 3) := by decide +kernel
theorem d14_4 : decode prog_28_method_2_code 4 = .ok (.invokevirtual 20, 3) := by decide +kernel
theorem d14_7 : decode prog_28_method_2_code 7 = .ok (.aload_n 0, 1) := by decide +kernel
theorem d14_8 : decode prog_28_method_2_code 8 = .ok (.getfield 13, 3) := by decide +kernel
theorem d14_11 : decode prog_28_method_2_code 11 = .ok (.if_icmp .lt 7, 3) := by decide +kernel
theorem d14_14 : decode prog_28_method_2_code 14 = .ok (.iconst 1, 1) := by decide +kernel
theorem d14_15 : decode prog_28_method_2_code 15 = .ok (.goto 4, 3) := by decide +kernel
theorem d14_18 : decode prog_28_method_2_code 18 = .ok (.iconst 0, 1) := by decide +kernel
theorem d14_19 : decode prog_28_method_2_code 19 = .ok (.ireturn, 1) := by decide +kernel
theorem pd_0 : parseMethodDescriptor "(C)Z" = some ⟨[.char], some .boolean⟩ := by decide +kernel
theorem pd_1 : parseMethodDescriptor "(C)[B" = some ⟨[.char], some (.array .byte)⟩ := by decide +kernel
theorem pd_2 : parseMethodDescriptor "([BB)V" = some ⟨[(.array .byte), .byte], none⟩ := by decide +kernel
theorem pd_3 : parseMethodDescriptor "()V" = some ⟨[], none⟩ := by decide +kernel
theorem pd_4 : parseMethodDescriptor "()I" = some ⟨[], some .int⟩ := by decide +kernel
theorem pd_5 : parseMethodDescriptor "(C)Ljava/lang/String;" = some ⟨[.char], some (.object "java/lang/String")⟩ := by decide +kernel
theorem pd_6 : parseMethodDescriptor "([C)V" = some ⟨[(.array .char)], none⟩ := by decide +kernel
theorem pd_7 : parseMethodDescriptor "(Ljava/lang/String;Ljava/lang/String;Ljava/lang/String;I)V" = some ⟨[(.object "java/lang/String"), (.object "java/lang/String"), (.object "java/lang/String"), .int], none⟩ := by decide +kernel
theorem pd_8 : parseMethodDescriptor "(Lcom/example/offlode/offlode/TaskRun;II)V" = some ⟨[(.object "com/example/offlode/offlode/TaskRun"), .int, .int], none⟩ := by decide +kernel
theorem pd_9 : parseMethodDescriptor "()Z" = some ⟨[], some .boolean⟩ := by decide +kernel
theorem pn_0 : plainName "java/lang/Record" = true := by first | (simp [plainName, overriddenIn]; done) | decide +kernel
theorem pn_1 : plainName "java/lang/String" = true := by first | (simp [plainName, overriddenIn]; done) | decide +kernel
theorem pn_2 : plainName "java/lang/StringLatin1" = true := by first | (simp [plainName, overriddenIn]; done) | decide +kernel
theorem pn_3 : plainName "com/example/offlode/offlode/TaskRun" = true := by first | (simp [plainName, overriddenIn]; done) | decide +kernel
theorem pn_4 : plainName "com/example/offlode/offlode/TaskTable$Claim" = true := by first | (simp [plainName, overriddenIn]; done) | decide +kernel
theorem pn_5 : plainName "com/example/offlode/offlode/ClaimIsLastAttemptPinLaw" = true := by first | (simp [plainName, overriddenIn]; done) | decide +kernel
theorem ef_c_record (m : MethodId) (x0 : Addr)  : entryFrame m #[(.ref x0)] 1 = mkF m 0 #[.val (.ref x0)] [] := by first | (simp [entryFrame, mkF, argsToLocals, Value.category]; done) | rfl
set_option maxRecDepth 65536 in
set_option maxHeartbeats 40000000 in
theorem c_record {l : Launch} {Z : State} {n0 : Nat} {a0 : Array Value} (hw : Hw a0 Z) (x : Addr) (h0 : Heap)  :
    Con l Z n0 ELs (⟨"java/lang/Record", "<init>", "()V"⟩ : MethodName) jdk_30_method_1_code 1 none [] ({ frames := 1, cells := 0, slots := 0, locals := 12 } : Room) #[(.ref x)] h0 [] false (fun w h => h0 = h) := by
  refine con_of (plainFor_of_name pn_0) (fun m => ef_c_record m x ) ?_
  intro K
  refine g_aloadN d12_0 rfl rfl (pc' := 1) rfl ?_
  refine g_initO (W := 0) d12_1 (w_55 hw) (w_21 hw) (w_22 hw) rfl (by decide) (Nat.le_of_eq rfl) (by decide) (pc' := 4) rfl ?_
  exact g_return d12_4 rfl rfl (by decide) (by decide)
theorem ef_c_strbb (m : MethodId) (x0 : Addr) (x1 : Addr) (x2 : Int32)  : entryFrame m #[(.ref x0), (.ref x1), (.int x2)] 3 = mkF m 0 #[.val (.ref x0), .val (.ref x1), .val (.int x2)] [] := by first | (simp [entryFrame, mkF, argsToLocals, Value.category]; done) | rfl
set_option maxRecDepth 65536 in
set_option maxHeartbeats 40000000 in
theorem c_strbb {l : Launch} {Z : State} {n0 : Nat} {a0 : Array Value} (hw : Hw a0 Z) (x : Addr) (t : Addr) (cd : Int32) (u_value : Value) (u_coder : Value)  (h0 : Heap) (E0 : Exa Z h0 x "java/lang/String") (F_value : Fld Z h0 x "java/lang/String" "value" "[B" u_value) (F_coder : Fld Z h0 x "java/lang/String" "coder" "B" u_coder)  :
    Con l Z n0 ELs (⟨"java/lang/String", "<init>", "([BB)V"⟩ : MethodName) jdk_42_method_151_code 3 none [] ({ frames := 1, cells := 0, slots := 0, locals := 12 } : Room) #[(.ref x), (.ref t), (.int cd)] h0 [x] false (fun w h => Exa Z h x "java/lang/String" ∧ Fld Z h x "java/lang/String" "value" "[B" (.ref t) ∧ Fld Z h x "java/lang/String" "coder" "B" (.int (nar .byte cd))) := by
  refine con_of (plainFor_of_name pn_1) (fun m => ef_c_strbb m x t cd ) ?_
  intro K
  refine g_aloadN d4_0 rfl rfl (pc' := 1) rfl ?_
  refine g_initO (W := 0) d4_1 (w_20 hw) (w_21 hw) (w_22 hw) rfl (by decide) (Nat.le_of_eq rfl) (by decide) (pc' := 4) rfl ?_
  refine g_aloadN d4_4 rfl rfl (pc' := 5) rfl ?_
  refine g_aloadN d4_5 rfl rfl (pc' := 6) rfl ?_
  refine g_putF (ty := (.array .byte)) d4_6 (w_23 hw) Via.refl F_value E0 (Or.inr ⟨(w_24 hw), rfl, rfl⟩) (w_11 hw) (by decide) rfl rfl (Or.inl (List.mem_of_getElem? (i := 0) rfl)) (List.mem_of_getElem? (i := 0) rfl) (pc' := 9) rfl ?_
  intro h1 W1
  have Kw1 := Keep.of_wr W1
  have G1_value := F_value.same W1
  have G1_coder := F_coder.other W1 (Or.inr (slot_ne (Or.inr (w_26 hw)) (Or.inr (w_24 hw)) (by decide) (t := .byte) (t' := (.array .byte)) (by decide) (by decide)))
  refine g_aloadN d4_9 rfl rfl (pc' := 10) rfl ?_
  refine g_iloadN d4_10 rfl (pc' := 11) rfl ?_
  refine g_putF (ty := .byte) d4_11 (w_25 hw) Via.refl G1_coder (E0.keep Kw1) (Or.inr ⟨(w_26 hw), rfl, rfl⟩) (w_11 hw) (by decide) (v' := (.int (nar .byte cd))) rfl (fits_nar_byte _) (Or.inl (List.mem_of_getElem? (i := 0) rfl)) (List.mem_of_getElem? (i := 0) rfl) (pc' := 14) rfl ?_
  intro h2 W2
  have Kw2 := Keep.of_wr W2
  have G2_coder := G1_coder.same W2
  have G2_value := G1_value.other W2 (Or.inr (slot_ne (Or.inr (w_24 hw)) (Or.inr (w_26 hw)) (by decide) (t := (.array .byte)) (t' := .byte) (by decide) (by decide)))
  exact g_return d4_14 rfl ⟨((E0.keep Kw1).keep Kw2), G2_value, G2_coder⟩ (by decide) (by decide)
theorem ef_c_canenc (m : MethodId) (x0 : Int32)  : entryFrame m #[(.int x0)] 1 = mkF m 0 #[.val (.int x0)] [] := by first | (simp [entryFrame, mkF, argsToLocals, Value.category]; done) | rfl
set_option maxRecDepth 65536 in
set_option maxHeartbeats 40000000 in
theorem c_canenc {l : Launch} {Z : State} {n0 : Nat} {a0 : Array Value} (hw : Hw a0 Z) (ch : Int32) (h0 : Heap) (hc : ¬ 255 < ch) :
    Con l Z n0 ELs (⟨"java/lang/StringLatin1", "canEncode", "(C)Z"⟩ : MethodName) jdk_43_method_3_code 1 (some .boolean) [] ({ frames := 0, cells := 0, slots := 0, locals := 0 } : Room) #[(.int ch)] h0 [] false (fun w h => w = .int 1 ∧ h0 = h) := by
  refine con_of (plainFor_of_name pn_2) (fun m => ef_c_canenc m ch ) ?_
  intro K
  refine g_iloadN d2_0 rfl (pc' := 1) rfl ?_
  refine g_sipush d2_1 (v := 255) rfl (pc' := 4) rfl ?_
  refine g_icmp_gt_f d2_4 hc (pc' := 7) rfl ?_
  refine g_iconst d2_7 (v := 1) rfl (pc' := 8) rfl ?_
  refine g_goto d2_8 (pc' := 12) (by decide) rfl ?_
  exact g_ireturnN d2_12 rfl (by simp) (z := 1) rfl ⟨rfl, rfl⟩ (by decide) (by decide)
theorem ef_c_tobytes (m : MethodId) (x0 : Int32)  : entryFrame m #[(.int x0)] 1 = mkF m 0 #[.val (.int x0)] [] := by first | (simp [entryFrame, mkF, argsToLocals, Value.category]; done) | rfl
set_option maxRecDepth 65536 in
set_option maxHeartbeats 40000000 in
theorem c_tobytes {l : Launch} {Z : State} {n0 : Nat} {a0 : Array Value} (hw : Hw a0 Z) (ch : Int32) (h0 : Heap)  :
    Con l Z n0 ELs (⟨"java/lang/StringLatin1", "toBytes", "(C)[B"⟩ : MethodName) jdk_43_method_46_code 1 (some (.array .byte)) [] ({ frames := 0, cells := 1, slots := 1, locals := 0 } : Room) #[(.int ch)] h0 [] false (fun w h => ∃ t, w = .ref t ∧ h0.size ≤ t ∧ Ia Z h t .byte [nar .byte ch.toInt8.toInt32]) := by
  refine con_of (plainFor_of_name pn_2) (fun m => ef_c_tobytes m ch ) ?_
  intro K
  refine g_iconst d3_0 (v := 1) rfl (pc' := 1) rfl ?_
  refine g_newA d3_1 (w_15 hw) rfl (by decide) (cap := 1) (by decide) (by decide) (by decide) (by decide) (pc' := 3) rfl ?_
  intro t h1 g1 Kn1 A_t sz_t
  replace A_t : Ia Z h1 t .byte [0] := A_t
  refine g_dup d3_3 rfl (pc' := 4) rfl ?_
  refine g_iconst d3_4 (v := 0) rfl (pc' := 5) rfl ?_
  refine g_iloadN d3_5 rfl (pc' := 6) rfl ?_
  refine g_i2b d3_6 rfl (pc' := 7) rfl ?_
  refine g_bastore d3_7 A_t (by decide) (i := 0) rfl (Nat.le_of_ble_eq_true rfl) (Or.inr sz_t) (List.mem_of_getElem? (i := 0) rfl) (pc' := 8) rfl ?_
  intro h2 Kw2 A_t_2
  replace A_t_2 : Ia Z h2 t .byte [nar .byte ch.toInt8.toInt32] := A_t_2
  exact g_areturn d3_8 rfl rfl rfl ⟨t, rfl, sz_t, A_t_2⟩ (by decide) (by decide)
theorem ef_c_valueof (m : MethodId) (x0 : Int32)  : entryFrame m #[(.int x0)] 1 = mkF m 0 #[.val (.int x0)] [] := by first | (simp [entryFrame, mkF, argsToLocals, Value.category]; done) | rfl
set_option maxRecDepth 65536 in
set_option maxHeartbeats 40000000 in
theorem c_valueof {l : Launch} {Z : State} {n0 : Nat} {a0 : Array Value} (hw : Hw a0 Z) (ch : Int32) (z : Int32) (h0 : Heap) (hC : Sta Z Z.heap "java/lang/String" "COMPACT_STRINGS" "Z" (.int z)) (hz : ¬ z = 0) (hc : ¬ ch < 0 ∧ ¬ 255 < ch) :
    Con l Z n0 ELs (⟨"java/lang/String", "valueOf", "(C)Ljava/lang/String;"⟩ : MethodName) jdk_42_method_139_code 1 (some (.object "java/lang/String")) [] ({ frames := 2, cells := 2, slots := 5, locals := 28 } : Room) #[(.int ch)] h0 [] false (fun w h => ∃ x t, w = .ref x ∧ h0.size ≤ x ∧ h0.size ≤ t ∧ St Z h x t [ch]) := by
  refine con_of (plainFor_of_name pn_1) (fun m => ef_c_valueof m ch ) ?_
  intro K
  refine g_getS d1_0 (w_5 hw) Via.refl hC (pc' := 3) rfl ?_
  refine g_if_eq_f d1_3 hz (pc' := 6) rfl ?_
  refine g_iloadN d1_6 rfl (pc' := 7) rfl ?_
  refine g_static (W := 0) (argsL := [(.int ch)]) (rest := []) d1_7 (w_6 hw) (w_7 hw) (by decide) (lenOf pd_0 rfl) (c_canenc hw ch _ hc.2) (w_9 hw) (w_8 hw) (by decide) (by decide) (fun _ q => nomatch q) rfl (Nat.le_of_eq rfl) rfl (by decide) (by decide) (pc' := 10) rfl ?_
  intro w1 h1 q1 Kc1
  obtain ⟨rfl, rfl⟩ := q1
  refine g_if_eq_f d1_10 (by decide) (pc' := 13) rfl ?_
  refine g_new d1_13 (w_10 hw) (w_11 hw) (w_3 hw) (by decide) (by decide) (pc' := 16) rfl ?_
  intro x h2 g2 Kn2 E_x D2 sz_x
  have F_value_x : Fld Z h2 x "java/lang/String" "value" "[B" .null := D2 (Or.inr (w_24 hw)) (ty := (.array .byte)) (by decide)
  have F_coder_x : Fld Z h2 x "java/lang/String" "coder" "B" (.int 0) := D2 (Or.inr (w_26 hw)) (ty := .byte) (by decide)
  refine g_dup d1_16 rfl (pc' := 17) rfl ?_
  refine g_iloadN d1_17 rfl (pc' := 18) rfl ?_
  refine g_static (W := 2) (argsL := [(.int ch)]) (rest := [(.ref x), (.ref x)]) d1_18 (w_12 hw) (w_13 hw) (by decide) (lenOf pd_1 rfl) (c_tobytes hw ch _) (w_14 hw) (w_8 hw) (by decide) (by decide) (fun _ q => nomatch q) rfl (Nat.le_of_eq rfl) rfl (by decide) (by decide) (pc' := 21) rfl ?_
  intro w3 h3 q3 Kc3
  obtain ⟨t, rfl, ht, A_t⟩ := q3
  refine g_iconst d1_21 (v := 0) rfl (pc' := 22) rfl ?_
  refine g_init (W := 1) (argsL := [(.ref t), (.int 0)]) (rest := [(.ref x)]) d1_22 rfl (w_16 hw) (w_17 hw) (by decide) (lenOf pd_2 rfl) (c_strbb hw x t 0 _ _ _ (E_x.keep Kc3) (F_value_x.keep Kc3 nin0) (F_coder_x.keep Kc3 nin0)) (w_19 hw) (w_3 hw) (by decide) (by decide) (allS ⟨(Or.inr sz_x), (List.mem_of_getElem? (i := 0) rfl)⟩ all0) rfl (Nat.le_of_eq rfl) rfl (by decide) (by decide) (pc' := 25) rfl ?_
  intro w4 h4 q4 Kc4
  obtain ⟨E1, V1, C1⟩ := q4
  have A1 := (A_t.keep Kc4 (ninS (Ne.symm (Nat.ne_of_lt (Nat.lt_of_lt_of_le (E_x).lt ht))) nin0))
  exact g_areturn d1_25 rfl rfl rfl ⟨x, t, rfl, sz_x, Nat.le_trans (Nat.le_trans sz_x (Nat.le_of_lt E_x.lt)) ht, E1, C1, V1, by simpa [nar] using A1, by simpa using hc⟩ (by decide) (by decide)
theorem ef_c_taskrun (m : MethodId) (x0 : Addr) (x1 : Addr) (x2 : Addr) (x3 : Addr) (x4 : Int32)  : entryFrame m #[(.ref x0), (.ref x1), (.ref x2), (.ref x3), (.int x4)] 5 = mkF m 0 #[.val (.ref x0), .val (.ref x1), .val (.ref x2), .val (.ref x3), .val (.int x4)] [] := by first | (simp [entryFrame, mkF, argsToLocals, Value.category]; done) | rfl
set_option maxRecDepth 65536 in
set_option maxHeartbeats 40000000 in
theorem c_taskrun {l : Launch} {Z : State} {n0 : Nat} {a0 : Array Value} (hw : Hw a0 Z) (x : Addr) (i1 : Addr) (i2 : Addr) (i3 : Addr) (att : Int32) (u_id : Value) (u_handlerName : Value) (u_payload : Value) (u_attempt : Value)  (h0 : Heap) (E0 : Exa Z h0 x "com/example/offlode/offlode/TaskRun") (F_id : Fld Z h0 x "com/example/offlode/offlode/TaskRun" "id" "Ljava/lang/String;" u_id) (F_handlerName : Fld Z h0 x "com/example/offlode/offlode/TaskRun" "handlerName" "Ljava/lang/String;" u_handlerName) (F_payload : Fld Z h0 x "com/example/offlode/offlode/TaskRun" "payload" "Ljava/lang/String;" u_payload) (F_attempt : Fld Z h0 x "com/example/offlode/offlode/TaskRun" "attempt" "I" u_attempt)  :
    Con l Z n0 ELs (⟨"com/example/offlode/offlode/TaskRun", "<init>", "(Ljava/lang/String;Ljava/lang/String;Ljava/lang/String;I)V"⟩ : MethodName) prog_25_method_1_code 5 none [] ({ frames := 2, cells := 0, slots := 0, locals := 24 } : Room) #[(.ref x), (.ref i1), (.ref i2), (.ref i3), (.int att)] h0 [x] false (fun w h => Exa Z h x "com/example/offlode/offlode/TaskRun" ∧ Fld Z h x "com/example/offlode/offlode/TaskRun" "id" "Ljava/lang/String;" (.ref i1) ∧ Fld Z h x "com/example/offlode/offlode/TaskRun" "handlerName" "Ljava/lang/String;" (.ref i2) ∧ Fld Z h x "com/example/offlode/offlode/TaskRun" "payload" "Ljava/lang/String;" (.ref i3) ∧ Fld Z h x "com/example/offlode/offlode/TaskRun" "attempt" "I" (.int att)) := by
  refine con_of (plainFor_of_name pn_3) (fun m => ef_c_taskrun m x i1 i2 i3 att ) ?_
  intro K
  refine g_aloadN d11_0 rfl rfl (pc' := 1) rfl ?_
  refine g_init (W := 0) (argsL := []) (rest := []) d11_1 rfl (w_50 hw) (w_51 hw) (by decide) (lenOf pd_3 rfl) (c_record hw x _) (w_54 hw) (w_53 hw) (by decide) (by decide) (fun _ q => nomatch q) rfl (Nat.le_of_eq rfl) rfl (by decide) (by decide) (pc' := 4) rfl ?_
  intro w1 h1 q1 Kc1
  obtain rfl := q1
  refine g_aloadN d11_4 rfl rfl (pc' := 5) rfl ?_
  refine g_aloadN d11_5 rfl rfl (pc' := 6) rfl ?_
  refine g_putF (ty := (.object "java/lang/String")) d11_6 (w_56 hw) Via.refl F_id E0 (Or.inr ⟨(w_57 hw), rfl, rfl⟩) (w_28 hw) (by decide) rfl rfl (Or.inl (List.mem_of_getElem? (i := 0) rfl)) (List.mem_of_getElem? (i := 0) rfl) (pc' := 9) rfl ?_
  intro h2 W2
  have Kw2 := Keep.of_wr W2
  have G2_id := F_id.same W2
  have G2_handlerName := F_handlerName.other W2 (Or.inr (slot_ne (Or.inr (w_59 hw)) (Or.inr (w_57 hw)) (by decide) (t := (.object "java/lang/String")) (t' := (.object "java/lang/String")) (by decide) (by decide)))
  have G2_payload := F_payload.other W2 (Or.inr (slot_ne (Or.inr (w_61 hw)) (Or.inr (w_57 hw)) (by decide) (t := (.object "java/lang/String")) (t' := (.object "java/lang/String")) (by decide) (by decide)))
  have G2_attempt := F_attempt.other W2 (Or.inr (slot_ne (Or.inr (w_63 hw)) (Or.inr (w_57 hw)) (by decide) (t := .int) (t' := (.object "java/lang/String")) (by decide) (by decide)))
  refine g_aloadN d11_9 rfl rfl (pc' := 10) rfl ?_
  refine g_aloadN d11_10 rfl rfl (pc' := 11) rfl ?_
  refine g_putF (ty := (.object "java/lang/String")) d11_11 (w_58 hw) Via.refl G2_handlerName (E0.keep Kw2) (Or.inr ⟨(w_59 hw), rfl, rfl⟩) (w_28 hw) (by decide) rfl rfl (Or.inl (List.mem_of_getElem? (i := 0) rfl)) (List.mem_of_getElem? (i := 0) rfl) (pc' := 14) rfl ?_
  intro h3 W3
  have Kw3 := Keep.of_wr W3
  have G3_handlerName := G2_handlerName.same W3
  have G3_id := G2_id.other W3 (Or.inr (slot_ne (Or.inr (w_57 hw)) (Or.inr (w_59 hw)) (by decide) (t := (.object "java/lang/String")) (t' := (.object "java/lang/String")) (by decide) (by decide)))
  have G3_payload := G2_payload.other W3 (Or.inr (slot_ne (Or.inr (w_61 hw)) (Or.inr (w_59 hw)) (by decide) (t := (.object "java/lang/String")) (t' := (.object "java/lang/String")) (by decide) (by decide)))
  have G3_attempt := G2_attempt.other W3 (Or.inr (slot_ne (Or.inr (w_63 hw)) (Or.inr (w_59 hw)) (by decide) (t := .int) (t' := (.object "java/lang/String")) (by decide) (by decide)))
  refine g_aloadN d11_14 rfl rfl (pc' := 15) rfl ?_
  refine g_aloadN d11_15 rfl rfl (pc' := 16) rfl ?_
  refine g_putF (ty := (.object "java/lang/String")) d11_16 (w_60 hw) Via.refl G3_payload ((E0.keep Kw2).keep Kw3) (Or.inr ⟨(w_61 hw), rfl, rfl⟩) (w_28 hw) (by decide) rfl rfl (Or.inl (List.mem_of_getElem? (i := 0) rfl)) (List.mem_of_getElem? (i := 0) rfl) (pc' := 19) rfl ?_
  intro h4 W4
  have Kw4 := Keep.of_wr W4
  have G4_payload := G3_payload.same W4
  have G4_handlerName := G3_handlerName.other W4 (Or.inr (slot_ne (Or.inr (w_59 hw)) (Or.inr (w_61 hw)) (by decide) (t := (.object "java/lang/String")) (t' := (.object "java/lang/String")) (by decide) (by decide)))
  have G4_id := G3_id.other W4 (Or.inr (slot_ne (Or.inr (w_57 hw)) (Or.inr (w_61 hw)) (by decide) (t := (.object "java/lang/String")) (t' := (.object "java/lang/String")) (by decide) (by decide)))
  have G4_attempt := G3_attempt.other W4 (Or.inr (slot_ne (Or.inr (w_63 hw)) (Or.inr (w_61 hw)) (by decide) (t := .int) (t' := (.object "java/lang/String")) (by decide) (by decide)))
  refine g_aloadN d11_19 rfl rfl (pc' := 20) rfl ?_
  refine g_iload d11_20 rfl (pc' := 22) rfl ?_
  refine g_putF (ty := .int) d11_22 (w_62 hw) Via.refl G4_attempt (((E0.keep Kw2).keep Kw3).keep Kw4) (Or.inr ⟨(w_63 hw), rfl, rfl⟩) (w_28 hw) (by decide) rfl rfl (Or.inl (List.mem_of_getElem? (i := 0) rfl)) (List.mem_of_getElem? (i := 0) rfl) (pc' := 25) rfl ?_
  intro h5 W5
  have Kw5 := Keep.of_wr W5
  have G5_attempt := G4_attempt.same W5
  have G5_payload := G4_payload.other W5 (Or.inr (slot_ne (Or.inr (w_61 hw)) (Or.inr (w_63 hw)) (by decide) (t := (.object "java/lang/String")) (t' := .int) (by decide) (by decide)))
  have G5_handlerName := G4_handlerName.other W5 (Or.inr (slot_ne (Or.inr (w_59 hw)) (Or.inr (w_63 hw)) (by decide) (t := (.object "java/lang/String")) (t' := .int) (by decide) (by decide)))
  have G5_id := G4_id.other W5 (Or.inr (slot_ne (Or.inr (w_57 hw)) (Or.inr (w_63 hw)) (by decide) (t := (.object "java/lang/String")) (t' := .int) (by decide) (by decide)))
  exact g_return d11_25 rfl ⟨((((E0.keep Kw2).keep Kw3).keep Kw4).keep Kw5), G5_id, G5_handlerName, G5_payload, G5_attempt⟩ (by decide) (by decide)
theorem ef_c_claim (m : MethodId) (x0 : Addr) (x1 : Addr) (x2 : Int32) (x3 : Int32)  : entryFrame m #[(.ref x0), (.ref x1), (.int x2), (.int x3)] 4 = mkF m 0 #[.val (.ref x0), .val (.ref x1), .val (.int x2), .val (.int x3)] [] := by first | (simp [entryFrame, mkF, argsToLocals, Value.category]; done) | rfl
set_option maxRecDepth 65536 in
set_option maxHeartbeats 40000000 in
theorem c_claim {l : Launch} {Z : State} {n0 : Nat} {a0 : Array Value} (hw : Hw a0 Z) (x : Addr) (rn : Addr) (mx : Int32) (nb : Int32) (u_run : Value) (u_maxAttempts : Value) (u_number : Value)  (h0 : Heap) (E0 : Exa Z h0 x "com/example/offlode/offlode/TaskTable$Claim") (F_run : Fld Z h0 x "com/example/offlode/offlode/TaskTable$Claim" "run" "Lcom/example/offlode/offlode/TaskRun;" u_run) (F_maxAttempts : Fld Z h0 x "com/example/offlode/offlode/TaskTable$Claim" "maxAttempts" "I" u_maxAttempts) (F_number : Fld Z h0 x "com/example/offlode/offlode/TaskTable$Claim" "number" "I" u_number)  :
    Con l Z n0 ELs (⟨"com/example/offlode/offlode/TaskTable$Claim", "<init>", "(Lcom/example/offlode/offlode/TaskRun;II)V"⟩ : MethodName) prog_28_method_1_code 4 none [] ({ frames := 2, cells := 0, slots := 0, locals := 24 } : Room) #[(.ref x), (.ref rn), (.int mx), (.int nb)] h0 [x] false (fun w h => Exa Z h x "com/example/offlode/offlode/TaskTable$Claim" ∧ Fld Z h x "com/example/offlode/offlode/TaskTable$Claim" "run" "Lcom/example/offlode/offlode/TaskRun;" (.ref rn) ∧ Fld Z h x "com/example/offlode/offlode/TaskTable$Claim" "maxAttempts" "I" (.int mx) ∧ Fld Z h x "com/example/offlode/offlode/TaskTable$Claim" "number" "I" (.int nb)) := by
  refine con_of (plainFor_of_name pn_4) (fun m => ef_c_claim m x rn mx nb ) ?_
  intro K
  refine g_aloadN d13_0 rfl rfl (pc' := 1) rfl ?_
  refine g_init (W := 0) (argsL := []) (rest := []) d13_1 rfl (w_70 hw) (w_51 hw) (by decide) (lenOf pd_3 rfl) (c_record hw x _) (w_54 hw) (w_53 hw) (by decide) (by decide) (fun _ q => nomatch q) rfl (Nat.le_of_eq rfl) rfl (by decide) (by decide) (pc' := 4) rfl ?_
  intro w1 h1 q1 Kc1
  obtain rfl := q1
  refine g_aloadN d13_4 rfl rfl (pc' := 5) rfl ?_
  refine g_aloadN d13_5 rfl rfl (pc' := 6) rfl ?_
  refine g_putF (ty := (.object "com/example/offlode/offlode/TaskRun")) d13_6 (w_71 hw) Via.refl F_run E0 (Or.inr ⟨(w_72 hw), rfl, rfl⟩) (w_65 hw) (by decide) rfl rfl (Or.inl (List.mem_of_getElem? (i := 0) rfl)) (List.mem_of_getElem? (i := 0) rfl) (pc' := 9) rfl ?_
  intro h2 W2
  have Kw2 := Keep.of_wr W2
  have G2_run := F_run.same W2
  have G2_maxAttempts := F_maxAttempts.other W2 (Or.inr (slot_ne (Or.inr (w_74 hw)) (Or.inr (w_72 hw)) (by decide) (t := .int) (t' := (.object "com/example/offlode/offlode/TaskRun")) (by decide) (by decide)))
  have G2_number := F_number.other W2 (Or.inr (slot_ne (Or.inr (w_76 hw)) (Or.inr (w_72 hw)) (by decide) (t := .int) (t' := (.object "com/example/offlode/offlode/TaskRun")) (by decide) (by decide)))
  refine g_aloadN d13_9 rfl rfl (pc' := 10) rfl ?_
  refine g_iloadN d13_10 rfl (pc' := 11) rfl ?_
  refine g_putF (ty := .int) d13_11 (w_73 hw) Via.refl G2_maxAttempts (E0.keep Kw2) (Or.inr ⟨(w_74 hw), rfl, rfl⟩) (w_65 hw) (by decide) rfl rfl (Or.inl (List.mem_of_getElem? (i := 0) rfl)) (List.mem_of_getElem? (i := 0) rfl) (pc' := 14) rfl ?_
  intro h3 W3
  have Kw3 := Keep.of_wr W3
  have G3_maxAttempts := G2_maxAttempts.same W3
  have G3_run := G2_run.other W3 (Or.inr (slot_ne (Or.inr (w_72 hw)) (Or.inr (w_74 hw)) (by decide) (t := (.object "com/example/offlode/offlode/TaskRun")) (t' := .int) (by decide) (by decide)))
  have G3_number := G2_number.other W3 (Or.inr (slot_ne (Or.inr (w_76 hw)) (Or.inr (w_74 hw)) (by decide) (t := .int) (t' := .int) (by decide) (by decide)))
  refine g_aloadN d13_14 rfl rfl (pc' := 15) rfl ?_
  refine g_iloadN d13_15 rfl (pc' := 16) rfl ?_
  refine g_putF (ty := .int) d13_16 (w_75 hw) Via.refl G3_number ((E0.keep Kw2).keep Kw3) (Or.inr ⟨(w_76 hw), rfl, rfl⟩) (w_65 hw) (by decide) rfl rfl (Or.inl (List.mem_of_getElem? (i := 0) rfl)) (List.mem_of_getElem? (i := 0) rfl) (pc' := 19) rfl ?_
  intro h4 W4
  have Kw4 := Keep.of_wr W4
  have G4_number := G3_number.same W4
  have G4_maxAttempts := G3_maxAttempts.other W4 (Or.inr (slot_ne (Or.inr (w_74 hw)) (Or.inr (w_76 hw)) (by decide) (t := .int) (t' := .int) (by decide) (by decide)))
  have G4_run := G3_run.other W4 (Or.inr (slot_ne (Or.inr (w_72 hw)) (Or.inr (w_76 hw)) (by decide) (t := (.object "com/example/offlode/offlode/TaskRun")) (t' := .int) (by decide) (by decide)))
  exact g_return d13_19 rfl ⟨(((E0.keep Kw2).keep Kw3).keep Kw4), G4_run, G4_maxAttempts, G4_number⟩ (by decide) (by decide)
theorem ef_c_attempt (m : MethodId) (x0 : Addr)  : entryFrame m #[(.ref x0)] 1 = mkF m 0 #[.val (.ref x0)] [] := by first | (simp [entryFrame, mkF, argsToLocals, Value.category]; done) | rfl
set_option maxRecDepth 65536 in
set_option maxHeartbeats 40000000 in
theorem c_attempt {l : Launch} {Z : State} {n0 : Nat} {a0 : Array Value} (hw : Hw a0 Z) (x : Addr) (at' : Int32) (h0 : Heap) (F : Fld Z h0 x "com/example/offlode/offlode/TaskRun" "attempt" "I" (.int at')) :
    Con l Z n0 ELs (⟨"com/example/offlode/offlode/TaskRun", "attempt", "()I"⟩ : MethodName) prog_25_method_8_code 1 (some .int) [] ({ frames := 0, cells := 0, slots := 0, locals := 0 } : Room) #[(.ref x)] h0 [] false (fun w h => w = .int at' ∧ h0 = h) := by
  refine con_of (plainFor_of_name pn_3) (fun m => ef_c_attempt m x ) ?_
  intro K
  refine g_aloadN d15_0 rfl rfl (pc' := 1) rfl ?_
  refine g_getF d15_1 (w_62 hw) Via.refl F (pc' := 4) rfl ?_
  exact g_ireturn d15_4 rfl ⟨rfl, rfl⟩ (by decide) (by decide)
theorem ef_c_islast (m : MethodId) (x0 : Addr)  : entryFrame m #[(.ref x0)] 1 = mkF m 0 #[.val (.ref x0)] [] := by first | (simp [entryFrame, mkF, argsToLocals, Value.category]; done) | rfl
set_option maxRecDepth 65536 in
set_option maxHeartbeats 40000000 in
theorem c_islast {l : Launch} {Z : State} {n0 : Nat} {a0 : Array Value} (hw : Hw a0 Z) (x rn : Addr) (at' mx : Int32) (h0 : Heap) (Fr : Fld Z h0 x "com/example/offlode/offlode/TaskTable$Claim" "run" "Lcom/example/offlode/offlode/TaskRun;" (.ref rn)) (Fm : Fld Z h0 x "com/example/offlode/offlode/TaskTable$Claim" "maxAttempts" "I" (.int mx)) (Er : Exa Z h0 rn "com/example/offlode/offlode/TaskRun") (Fa : Fld Z h0 rn "com/example/offlode/offlode/TaskRun" "attempt" "I" (.int at')) :
    Con l Z n0 ELs (⟨"com/example/offlode/offlode/TaskTable$Claim", "isLastAttempt", "()Z"⟩ : MethodName) prog_28_method_2_code 1 (some .boolean) [] ({ frames := 1, cells := 0, slots := 0, locals := 12 } : Room) #[(.ref x)] h0 [] false (fun w h => w = .int (if at' < mx then 0 else 1) ∧ h0 = h) := by
  refine con_of (plainFor_of_name pn_4) (fun m => ef_c_islast m x ) ?_
  intro K
  refine g_aloadN d14_0 rfl rfl (pc' := 1) rfl ?_
  refine g_getF d14_1 (w_71 hw) Via.refl Fr (pc' := 4) rfl ?_
  refine g_virt (W := 0) (argsL := []) (rest := []) d14_4 (w_82 hw) (w_83 hw) (nf_self (w_85 hw)) (w_85 hw) (w_84 hw) (by decide) (lenOf pd_4 rfl) Er (c_attempt hw rn at' _ Fa) (w_86 hw) (w_29 hw) (by decide) (by decide) (fun _ q => nomatch q) rfl (Nat.le_of_eq rfl) rfl (by decide) (by decide) (pc' := 7) rfl ?_
  intro w1 h1 q1 Kc1
  obtain ⟨rfl, rfl⟩ := q1
  refine g_aloadN d14_7 rfl rfl (pc' := 8) rfl ?_
  refine g_getF d14_8 (w_73 hw) Via.refl Fm (pc' := 11) rfl ?_
  by_cases hlt : at' < mx
  ·   refine g_icmp_lt_t d14_11 hlt (pc' := 18) (by decide) rfl ?_
      refine g_iconst d14_18 (v := 0) rfl (pc' := 19) rfl ?_
      exact g_ireturnN d14_19 rfl (by simp) (z := 0) rfl ⟨by rw [if_pos hlt], rfl⟩ (by decide) (by decide)
  ·   refine g_icmp_lt_f d14_11 hlt (pc' := 14) rfl ?_
      refine g_iconst d14_14 (v := 1) rfl (pc' := 15) rfl ?_
      refine g_goto d14_15 (pc' := 19) (by decide) rfl ?_
      exact g_ireturnN d14_19 rfl (by simp) (z := 1) rfl ⟨by rw [if_neg hlt], rfl⟩ (by decide) (by decide)
theorem ef_c_law (m : MethodId) (x0 : Int32) (x1 : Int32) (x2 : Int32) (x3 : Int32)  : entryFrame m #[(.int x0), (.int x1), (.int x2), (.int x3)] maxLocals = mkF m 0 #[.val (.int x0), .val (.int x1), .val (.int x2), .val (.int x3), .unset, .unset, .unset, .unset, .unset, .unset, .unset, .unset] [] := by first | (simp [entryFrame, mkF, argsToLocals, Value.category, maxLocals]; done) | rfl
set_option maxRecDepth 65536 in
set_option maxHeartbeats 40000000 in
theorem c_law {l : Launch} {Z : State} {n0 : Nat} {a0 : Array Value} (hw : Hw a0 Z) (p0 p1 p2 p3 z : Int32) (h0 : Heap) (hC : Sta Z Z.heap "java/lang/String" "COMPACT_STRINGS" "Z" (.int z)) (hz : ¬ z = 0) :
    Con l Z n0 ELs x code maxLocals ret tables_1 room_1 #[(.int p0), (.int p1), (.int p2), (.int p3)] h0 [] false (fun w h => w = .int 1) := by
  refine con_of (plainFor_of_name pn_5) (fun m => ef_c_law m p0 p1 p2 p3 ) ?_
  intro K
  obtain ⟨c0, hc0⟩ : ∃ c, (p3 &&& 255).toUInt32.toUInt16.toUInt32.toInt32 = c := ⟨_, rfl⟩
  obtain ⟨c1, hc1⟩ : ∃ c, (((p3.toUInt32 >>> (24 &&& 31).toUInt32).toInt32) &&& 255).toUInt32.toUInt16.toUInt32.toInt32 = c := ⟨_, rfl⟩
  obtain ⟨c2, hc2⟩ : ∃ c, (((p3.toUInt32 >>> (8 &&& 31).toUInt32).toInt32) &&& 255).toUInt32.toUInt16.toUInt32.toInt32 = c := ⟨_, rfl⟩
  obtain ⟨c3, hc3⟩ : ∃ c, (((p3.toUInt32 >>> (16 &&& 31).toUInt32).toInt32) &&& 255).toUInt32.toUInt16.toUInt32.toInt32 = c := ⟨_, rfl⟩
  obtain ⟨cm, hcm⟩ : ∃ c, lcmpW (p1.toInt64 - p0.toInt64) 0 = c := ⟨_, rfl⟩
  have hcm' := cmp_left p0 p1; rw [hcm] at hcm'
  have bc0 := low8 p3; rw [hc0] at bc0
  have bc1 := low8 ((p3.toUInt32 >>> (24 &&& 31).toUInt32).toInt32); rw [hc1] at bc1
  have bc2 := low8' ((p3.toUInt32 >>> (8 &&& 31).toUInt32).toInt32); rw [hc2] at bc2
  have bc3 := low8' ((p3.toUInt32 >>> (16 &&& 31).toUInt32).toInt32); rw [hc3] at bc3
  have hws : ∀ d ∈ StrChars.Road.words, d.before a0 Z = true := fun d hd => hw d ((by decide +kernel : ∀ d ∈ StrChars.Road.words, d ∈ tables_1) d hd)
  have hp : ∀ c ∈ ([nar .char c0, nar .char c1] : List Int32), ¬ c < 0 ∧ ¬ (255 : Int32) < c := by
    intro c hc
    simp only [List.mem_cons, List.not_mem_nil, or_false] at hc
    rcases hc with rfl | rfl
    · exact bc0
    · exact bc1
  refine g_iconst at_0 (v := 2) rfl (pc' := 1) rfl ?_
  refine g_newA at_1 (w_0 hw) rfl (by decide) (cap := 2) (by decide) (by decide) (by decide) (by decide) (pc' := 3) rfl ?_
  intro b1 h1 g1 Kn1 A_b1 sz_b1
  replace A_b1 : Ia Z h1 b1 .char [0, 0] := A_b1
  refine g_dup at_3 rfl (pc' := 4) rfl ?_
  refine g_iconst at_4 (v := 0) rfl (pc' := 5) rfl ?_
  refine g_iloadN at_5 rfl (pc' := 6) rfl ?_
  refine g_sipush at_6 (v := 255) rfl (pc' := 9) rfl ?_
  refine g_iand at_9 rfl (pc' := 10) rfl ?_
  refine g_i2c at_10 (v := c0) hc0 (pc' := 11) rfl ?_
  refine g_castore at_11 A_b1 (by decide) (i := 0) rfl (Nat.le_of_ble_eq_true rfl) (Or.inr sz_b1) (List.mem_of_getElem? (i := 0) rfl) (pc' := 12) rfl ?_
  intro h2 Kw2 A_b1_2
  replace A_b1_2 : Ia Z h2 b1 .char [nar .char c0, 0] := A_b1_2
  refine g_dup at_12 rfl (pc' := 13) rfl ?_
  refine g_iconst at_13 (v := 1) rfl (pc' := 14) rfl ?_
  refine g_iloadN at_14 rfl (pc' := 15) rfl ?_
  refine g_bipush at_15 (v := 24) rfl (pc' := 17) rfl ?_
  refine g_iushr at_17 rfl (pc' := 18) rfl ?_
  refine g_sipush at_18 (v := 255) rfl (pc' := 21) rfl ?_
  refine g_iand at_21 rfl (pc' := 22) rfl ?_
  refine g_i2c at_22 (v := c1) hc1 (pc' := 23) rfl ?_
  refine g_castore at_23 A_b1_2 (by decide) (i := 1) rfl (Nat.le_of_ble_eq_true rfl) (Or.inr sz_b1) (List.mem_of_getElem? (i := 0) rfl) (pc' := 24) rfl ?_
  intro h3 Kw3 A_b1_3
  replace A_b1_3 : Ia Z h3 b1 .char [nar .char c0, nar .char c1] := A_b1_3
  refine g_astore at_24 rfl (L' := #[.val (.int p0), .val (.int p1), .val (.int p2), .val (.int p3), .val (.ref b1), .unset, .unset, .unset, .unset, .unset, .unset, .unset]) rfl (pc' := 26) rfl ?_
  refine g_iloadN at_26 rfl (pc' := 27) rfl ?_
  refine g_bipush at_27 (v := 8) rfl (pc' := 29) rfl ?_
  refine g_iushr at_29 rfl (pc' := 30) rfl ?_
  refine g_sipush at_30 (v := 255) rfl (pc' := 33) rfl ?_
  refine g_iand at_33 rfl (pc' := 34) rfl ?_
  refine g_i2c at_34 (v := c2) hc2 (pc' := 35) rfl ?_
  refine g_static (W := 0) (argsL := [(.int c2)]) (rest := []) at_35 (w_1 hw) (w_2 hw) (by decide) (lenOf pd_5 rfl) (c_valueof hw c2 z _ hC hz bc2) (w_4 hw) (w_3 hw) (by decide) (by decide) (fun _ q => nomatch q) rfl (Nat.le_of_eq rfl) rfl (by decide) (by decide) (pc' := 38) rfl ?_
  intro w4 h4 q4 Kc4
  obtain ⟨sa, tsa, rfl, hxsa, htsa, Ssa⟩ := q4
  refine g_astore at_38 rfl (L' := #[.val (.int p0), .val (.int p1), .val (.int p2), .val (.int p3), .val (.ref b1), .val (.ref sa), .unset, .unset, .unset, .unset, .unset, .unset]) rfl (pc' := 40) rfl ?_
  refine g_iloadN at_40 rfl (pc' := 41) rfl ?_
  refine g_bipush at_41 (v := 16) rfl (pc' := 43) rfl ?_
  refine g_iushr at_43 rfl (pc' := 44) rfl ?_
  refine g_sipush at_44 (v := 255) rfl (pc' := 47) rfl ?_
  refine g_iand at_47 rfl (pc' := 48) rfl ?_
  refine g_i2c at_48 (v := c3) hc3 (pc' := 49) rfl ?_
  refine g_static (W := 0) (argsL := [(.int c3)]) (rest := []) at_49 (w_1 hw) (w_2 hw) (by decide) (lenOf pd_5 rfl) (c_valueof hw c3 z _ hC hz bc3) (w_4 hw) (w_3 hw) (by decide) (by decide) (fun _ q => nomatch q) rfl (Nat.le_of_eq rfl) rfl (by decide) (by decide) (pc' := 52) rfl ?_
  intro w5 h5 q5 Kc5
  obtain ⟨sb, tsb, rfl, hxsb, htsb, Ssb⟩ := q5
  refine g_astore at_52 rfl (L' := #[.val (.int p0), .val (.int p1), .val (.int p2), .val (.int p3), .val (.ref b1), .val (.ref sa), .val (.ref sb), .unset, .unset, .unset, .unset, .unset]) rfl (pc' := 54) rfl ?_
  refine g_new at_54 (w_27 hw) (w_28 hw) (w_29 hw) (by decide) (by decide) (pc' := 57) rfl ?_
  intro rn h6 g6 Kn6 E_rn D6 sz_rn
  have F_id_rn : Fld Z h6 rn "com/example/offlode/offlode/TaskRun" "id" "Ljava/lang/String;" .null := D6 (Or.inr (w_57 hw)) (ty := (.object "java/lang/String")) (by decide)
  have F_handlerName_rn : Fld Z h6 rn "com/example/offlode/offlode/TaskRun" "handlerName" "Ljava/lang/String;" .null := D6 (Or.inr (w_59 hw)) (ty := (.object "java/lang/String")) (by decide)
  have F_payload_rn : Fld Z h6 rn "com/example/offlode/offlode/TaskRun" "payload" "Ljava/lang/String;" .null := D6 (Or.inr (w_61 hw)) (ty := (.object "java/lang/String")) (by decide)
  have F_attempt_rn : Fld Z h6 rn "com/example/offlode/offlode/TaskRun" "attempt" "I" (.int 0) := D6 (Or.inr (w_63 hw)) (ty := .int) (by decide)
  refine g_dup at_57 rfl (pc' := 58) rfl ?_
  refine g_new at_58 (w_30 hw) (w_11 hw) (w_3 hw) (by decide) (by decide) (pc' := 61) rfl ?_
  intro sc h7 g7 Kn7 E_sc D7 sz_sc
  have F_value_sc : Fld Z h7 sc "java/lang/String" "value" "[B" .null := D7 (Or.inr (w_24 hw)) (ty := (.array .byte)) (by decide)
  have F_coder_sc : Fld Z h7 sc "java/lang/String" "coder" "B" (.int 0) := D7 (Or.inr (w_26 hw)) (ty := .byte) (by decide)
  refine g_dup at_61 rfl (pc' := 62) rfl ?_
  refine g_aload at_62 rfl rfl (pc' := 64) rfl ?_
  refine g_initB (W := 3) (argsL := [(.ref b1)]) (rest := [(.ref sc), (.ref rn), (.ref rn)]) at_64 rfl (w_31 hw) (w_32 hw) (w_33 hw) (by decide) (lenOf pd_6 rfl) (bk_str (len := 2) hws (w_11 hw) sz_sc E_sc F_value_sc F_coder_sc ((((A_b1_3.keep Kc4 nin0).keep Kc5 nin0).keep Kn6 nin0).keep Kn7 nin0) hC hz rfl (by decide) (by decide) hp (by decide) (by decide)) (fun _ _ _ _ q => ⟨q.2.1, q.2.2.1⟩) (allS (List.mem_of_getElem? (i := 0) rfl) all0) rfl (Nat.le_of_eq rfl) rfl (by decide) (by decide) (pc' := 67) rfl ?_
  intro v8 h8 L8 q8
  obtain ⟨rfl, -, Kc8, t8, ht8, S8⟩ := q8
  refine g_aload at_67 rfl rfl (pc' := 69) rfl ?_
  refine g_aload at_69 rfl rfl (pc' := 71) rfl ?_
  refine g_iloadN at_71 rfl (pc' := 72) rfl ?_
  refine g_init (W := 1) (argsL := [(.ref sc), (.ref sa), (.ref sb), (.int p0)]) (rest := [(.ref rn)]) at_72 rfl (w_47 hw) (w_48 hw) (by decide) (lenOf pd_7 rfl) (c_taskrun hw rn sc sa sb p0 _ _ _ _ _ ((E_rn.keep Kn7).keep Kc8) ((F_id_rn.keep Kn7 nin0).keep Kc8 (ninS (Nat.ne_of_lt (Nat.lt_of_lt_of_le (E_rn).lt (Nat.le_of_eq g7.symm))) nin0)) ((F_handlerName_rn.keep Kn7 nin0).keep Kc8 (ninS (Nat.ne_of_lt (Nat.lt_of_lt_of_le (E_rn).lt (Nat.le_of_eq g7.symm))) nin0)) ((F_payload_rn.keep Kn7 nin0).keep Kc8 (ninS (Nat.ne_of_lt (Nat.lt_of_lt_of_le (E_rn).lt (Nat.le_of_eq g7.symm))) nin0)) ((F_attempt_rn.keep Kn7 nin0).keep Kc8 (ninS (Nat.ne_of_lt (Nat.lt_of_lt_of_le (E_rn).lt (Nat.le_of_eq g7.symm))) nin0))) (w_49 hw) (w_29 hw) (by decide) (by decide) (allS ⟨(Or.inr sz_rn), (List.mem_of_getElem? (i := 1) rfl)⟩ all0) rfl (Nat.le_of_eq rfl) rfl (by decide) (by decide) (pc' := 75) rfl ?_
  intro w9 h9 q9 Kc9
  obtain ⟨Ern, Frn_id, Frn_handlerName, Frn_payload, Frn_attempt⟩ := q9
  refine g_astore at_75 rfl (L' := #[.val (.int p0), .val (.int p1), .val (.int p2), .val (.int p3), .val (.ref b1), .val (.ref sa), .val (.ref sb), .val (.ref rn), .unset, .unset, .unset, .unset]) rfl (pc' := 77) rfl ?_
  refine g_new at_77 (w_64 hw) (w_65 hw) (w_66 hw) (by decide) (by decide) (pc' := 80) rfl ?_
  intro cl h10 g10 Kn10 E_cl D10 sz_cl
  have F_run_cl : Fld Z h10 cl "com/example/offlode/offlode/TaskTable$Claim" "run" "Lcom/example/offlode/offlode/TaskRun;" .null := D10 (Or.inr (w_72 hw)) (ty := (.object "com/example/offlode/offlode/TaskRun")) (by decide)
  have F_maxAttempts_cl : Fld Z h10 cl "com/example/offlode/offlode/TaskTable$Claim" "maxAttempts" "I" (.int 0) := D10 (Or.inr (w_74 hw)) (ty := .int) (by decide)
  have F_number_cl : Fld Z h10 cl "com/example/offlode/offlode/TaskTable$Claim" "number" "I" (.int 0) := D10 (Or.inr (w_76 hw)) (ty := .int) (by decide)
  refine g_dup at_80 rfl (pc' := 81) rfl ?_
  refine g_aload at_81 rfl rfl (pc' := 83) rfl ?_
  refine g_iloadN at_83 rfl (pc' := 84) rfl ?_
  refine g_iloadN at_84 rfl (pc' := 85) rfl ?_
  refine g_init (W := 1) (argsL := [(.ref rn), (.int p1), (.int p2)]) (rest := [(.ref cl)]) at_85 rfl (w_67 hw) (w_68 hw) (by decide) (lenOf pd_8 rfl) (c_claim hw cl rn p1 p2 _ _ _ _ E_cl F_run_cl F_maxAttempts_cl F_number_cl) (w_69 hw) (w_66 hw) (by decide) (by decide) (allS ⟨(Or.inr sz_cl), (List.mem_of_getElem? (i := 0) rfl)⟩ all0) rfl (Nat.le_of_eq rfl) rfl (by decide) (by decide) (pc' := 88) rfl ?_
  intro w11 h11 q11 Kc11
  obtain ⟨Ecl, Fcl_run, Fcl_maxAttempts, Fcl_number⟩ := q11
  refine g_astore at_88 rfl (L' := #[.val (.int p0), .val (.int p1), .val (.int p2), .val (.int p3), .val (.ref b1), .val (.ref sa), .val (.ref sb), .val (.ref rn), .val (.ref cl), .unset, .unset, .unset]) rfl (pc' := 90) rfl ?_
  refine g_iloadN at_90 rfl (pc' := 91) rfl ?_
  refine g_i2l at_91 rfl (pc' := 92) rfl ?_
  refine g_iloadN at_92 rfl (pc' := 93) rfl ?_
  refine g_i2l at_93 rfl (pc' := 94) rfl ?_
  refine g_lsub at_94 rfl (pc' := 95) rfl ?_
  refine g_lstore at_95 (L' := #[.val (.int p0), .val (.int p1), .val (.int p2), .val (.int p3), .val (.ref b1), .val (.ref sa), .val (.ref sb), .val (.ref rn), .val (.ref cl), .val (.long (p1.toInt64 - p0.toInt64)), .second, .unset]) rfl (pc' := 97) rfl ?_
  refine g_lload at_97 rfl (pc' := 99) rfl ?_
  refine g_lconst at_99 (v := 0) rfl (pc' := 100) rfl ?_
  refine g_lcmp at_100 (v := cm) hcm (pc' := 101) rfl ?_
  by_cases hcp : 0 < cm
  · have h1 := hcm'.mp hcp
    refine g_if_gt_t at_101 hcp (pc' := 108) (by decide) rfl ?_
    refine g_iconst at_108 (v := 0) rfl (pc' := 109) rfl ?_
    refine g_istore at_109 (L' := #[.val (.int p0), .val (.int p1), .val (.int p2), .val (.int p3), .val (.ref b1), .val (.ref sa), .val (.ref sb), .val (.ref rn), .val (.ref cl), .val (.long (p1.toInt64 - p0.toInt64)), .second, .val (.int 0)]) rfl (pc' := 111) rfl ?_
    refine g_aload at_111 rfl rfl (pc' := 113) rfl ?_
    refine g_virt (W := 0) (argsL := []) (rest := []) at_113 (w_77 hw) (w_78 hw) (nf_self (w_80 hw)) (w_80 hw) (w_79 hw) (by decide) (lenOf pd_9 rfl) Ecl (c_islast hw cl rn p0 p1 _ Fcl_run Fcl_maxAttempts ((Ern.keep Kn10).keep Kc11) ((Frn_attempt.keep Kn10 nin0).keep Kc11 (ninS (Nat.ne_of_lt (Nat.lt_of_lt_of_le ((((E_rn.keep Kn7).keep Kc8).keep Kc9)).lt (Nat.le_of_eq g10.symm))) nin0))) (w_81 hw) (w_66 hw) (by decide) (by decide) (fun _ q => nomatch q) rfl (Nat.le_of_eq rfl) rfl (by decide) (by decide) (pc' := 116) rfl ?_
    intro w12 h12 q12 Kc12
    obtain ⟨rfl, rfl⟩ := q12
    refine g_iload at_116 rfl (pc' := 118) rfl ?_
    refine g_icmp_ne_f at_118 (by rw [if_pos h1]) (pc' := 121) rfl ?_
    refine g_iconst at_121 (v := 1) rfl (pc' := 122) rfl ?_
    refine g_goto at_122 (pc' := 126) (by decide) rfl ?_
    exact g_ireturnN at_126 rfl (by simp) (z := 1) rfl rfl (by decide) (by decide)
  · have h1 := fun q => hcp (hcm'.mpr q)
    refine g_if_gt_f at_101 hcp (pc' := 104) rfl ?_
    refine g_iconst at_104 (v := 1) rfl (pc' := 105) rfl ?_
    refine g_goto at_105 (pc' := 109) (by decide) rfl ?_
    refine g_istore at_109 (L' := #[.val (.int p0), .val (.int p1), .val (.int p2), .val (.int p3), .val (.ref b1), .val (.ref sa), .val (.ref sb), .val (.ref rn), .val (.ref cl), .val (.long (p1.toInt64 - p0.toInt64)), .second, .val (.int 1)]) rfl (pc' := 111) rfl ?_
    refine g_aload at_111 rfl rfl (pc' := 113) rfl ?_
    refine g_virt (W := 0) (argsL := []) (rest := []) at_113 (w_77 hw) (w_78 hw) (nf_self (w_80 hw)) (w_80 hw) (w_79 hw) (by decide) (lenOf pd_9 rfl) Ecl (c_islast hw cl rn p0 p1 _ Fcl_run Fcl_maxAttempts ((Ern.keep Kn10).keep Kc11) ((Frn_attempt.keep Kn10 nin0).keep Kc11 (ninS (Nat.ne_of_lt (Nat.lt_of_lt_of_le ((((E_rn.keep Kn7).keep Kc8).keep Kc9)).lt (Nat.le_of_eq g10.symm))) nin0))) (w_81 hw) (w_66 hw) (by decide) (by decide) (fun _ q => nomatch q) rfl (Nat.le_of_eq rfl) rfl (by decide) (by decide) (pc' := 116) rfl ?_
    intro w13 h13 q13 Kc13
    obtain ⟨rfl, rfl⟩ := q13
    refine g_iload at_116 rfl (pc' := 118) rfl ?_
    refine g_icmp_ne_f at_118 (by rw [if_neg h1]) (pc' := 121) rfl ?_
    refine g_iconst at_121 (v := 1) rfl (pc' := 122) rfl ?_
    refine g_goto at_122 (pc' := 126) (by decide) rfl ?_
    exact g_ireturnN at_126 rfl (by simp) (z := 1) rfl rfl (by decide) (by decide)
set_option maxRecDepth 65536 in
set_option maxHeartbeats 40000000 in
theorem comes_1 {Post : Tables → Env → Array Value → State → Outcome → State → Prop} (hpost : ∀ tb e args s v u, (limb_1_1.after args s (.returned v) u = true ∧ limb_1_2.after args s (.returned v) u = true ∧ True) → FrameEnd s (.returned v) u (Jvm.fieldLocs frame_1_writes args s ++ Jvm.arrayLocs frame_1_arrays args s ++ Jvm.staticLocs frame_1_statics s) 32 128 → Post tb e args s (.returned v) u) :
    ArmFor flags0 classFile x code maxLocals ret World_1 tables_1 room_1 Calls_1 rest_1 Pre_1 Post := by
  intro l hfl _ _ p e ha hc hk s m args below hf hA hF happ hP
  obtain ⟨hcalls, hrest, hpre⟩ := hP
  obtain ⟨-, -, -, hnamed, -, -, -, hat⟩ := (Spec.applies_iff hf).mp happ
  obtain ⟨hg, hn⟩ := and_e (Cond.before_iff.mp (show (Jvm.Cond.and given_1 narrow_1).before args s = true from hpre))
  obtain ⟨g1, g2⟩ := and_e hg
  obtain ⟨g3, g4⟩ := and_e g2
  obtain ⟨g5, g6⟩ := and_e g4
  obtain ⟨g7, g8⟩ := and_e g6
  obtain ⟨w0, w1, w2, w3, rfl⟩ : ∃ w0 w1 w2 w3 : Value, args = #[w0, w1, w2, w3] := by
    have hs : args.size = 4 := by simpa [Cond.value, given_1] using g1
    obtain ⟨L⟩ := args
    match L, hs with
    | [w0, w1, w2, w3], _ => exact ⟨w0, w1, w2, w3, rfl⟩
  have hw : Hw #[w0, w1, w2, w3] s := fun d (hd : d ∈ tables_1) => atoms_spec (ws := Jvm.Cond.code x code maxLocals ret :: tables_1) hat d (List.mem_cons_of_mem _ hd)
  have hfit : Fit s := fun {y c} hc i hi => by
    obtain ⟨ha, rfl⟩ := Array.getElem?_eq_some_iff.mp hc
    have q := List.all_eq_true.mp ((Array.all_eq_true_iff_forall_mem.mp hF) _ (Array.getElem_mem ha)) i (List.mem_range.mpr hi)
    simpa [Array.getElem?_eq_getElem hi] using q
  obtain ⟨hsets, hown0⟩ := atoms_of _ (rest_1_c_eq ▸ (show rest_1_c.before _ s = true from hrest))
  have hr0 := Cond.before_iff.mp hown0
  obtain ⟨zz, e_zz⟩ := is_v (Cond.before_iff.mp (hsets _ (List.mem_of_getElem? (i := 1) rfl)))
  have hC : Sta s s.heap "java/lang/String" "COMPACT_STRINGS" "Z" (.int zz) := Sta.start e_zz (Or.inl (hsets _ (List.mem_of_getElem? (i := 0) rfl)))
  have hz : ¬ zz = 0 := gotF (Cond.eq_ints e_zz (Term.int_eval (0))) (not_v (Cond.before_iff.mp (hsets _ (List.mem_of_getElem? (i := 2) rfl))))
  obtain ⟨i0, ei0⟩ := is_v g3
  obtain rfl : w0 = (.int i0) := Option.some.inj ei0
  obtain ⟨i1, ei1⟩ := is_v g5
  obtain rfl : w1 = (.int i1) := Option.some.inj ei1
  obtain ⟨i2, ei2⟩ := is_v g7
  obtain rfl : w2 = (.int i2) := Option.some.inj ei2
  obtain ⟨i3, ei3⟩ := is_v g8
  obtain rfl : w3 = (.int i3) := Option.some.inj ei3
  have C := c_law (l := l) (n0 := s.heap.size) hw i0 i1 i2 i3 zz s.heap hC hz
  obtain ⟨n, o, h1, h2, h3, v, L, rfl, ⟨⟨w, rfl, rfl, -⟩, N⟩, hq⟩ := C (Old.start s) (fun _ q => nomatch q) p e ha hc hk s m _ below hf ((Spec.applies_iff_loose hf).mp happ).1 ⟨rfl, State.Warmed39.refl s, rfl⟩ trivial
  refine ⟨n, _, h1, h2, h3, hpost _ _ _ _ (some (.int 1)) _ ⟨Cond.after_iff.mpr rfl, Cond.after_iff.mpr (eq_i res_at (Term.int_eval (1)) rfl), trivial⟩ ⟨hq.1, hq.2.1, (hq.2.2.sift fun y hy => Or.inr ((N y hy).elim (fun q => nomatch q) id)).mono (by decide) (by decide)⟩⟩
theorem main_1_1 : Claimed_1_1 := comes_1 fun _ _ _ _ _ _ h hF => ⟨h.1, hF⟩
theorem main_1_2 : Claimed_1_2 := comes_1 fun _ _ _ _ _ _ h hF => ⟨h.2.1, hF⟩
end Jvm.Pilot.@@N@@
namespace Jvm.Pilot.@@N@@
open Jvm Jvm.ClassFile Sem Op Lib Jvm.Free Jvm.Stand Jvm.Pilot.@@N@@.Jvm.D
/-! MADE BY PROGRAM (witnessworld.py) out of the Statement's table words and the real class files: 22 classes; the members and pool entries that the words name. The judged class is class 1, her method 1. -/
namespace start1
open Jvm.ClassFile
def u (s : String) : CpInfo := .utf8 (stringToUtf16 s)
/-- a pool by its gaps: so many unusable entries, then the entry; so many at the end -/
def gap : Nat → List CpInfo → List CpInfo
  | 0, r => r
  | n + 1, r => .unusable :: gap n r
def poolList (es : List (Nat × CpInfo)) (last : Nat) : List CpInfo := es.foldr (fun e r => gap e.1 (e.2 :: r)) (gap last [])
def pool (es : List (Nat × CpInfo)) (last : Nat) : Array CpInfo := ⟨poolList es last⟩
def fileOf (pool : Array CpInfo) (this : Nat) (attrs : Array Attribute := #[]) (ms : Array MethodInfo := #[]) (fl : Nat := 33) (sup : Nat := 0) (ifs : Array Nat := #[]) (fds : Array FieldInfo := #[]) : ClassFile where
  minorVersion := 0
  majorVersion := 65
  constantPool := pool
  accessFlags := fl
  thisClass := this
  superClass := sup
  interfaces := ifs
  fields := fds
  methods := ms
  attributes := attrs
def plain (name : String) (sup : Option ClassId) : Class where
  name := name
  kind := .ordinary
  loader := none
  accessFlags := 33
  super := sup
  interfaces := #[]
  cf := none
  fields := #[]
  methods := #[]
  instanceTypes := #[]
  staticTypes := #[]
  resolved := #[]
  callSites := []
  init := .initialized
  statics := none
  mirror := none

def pool0 : Array CpInfo := pool [(5, u "<init>"), (0, u "()V"), (1, .class_ 10), (1, u "java/lang/Object")] 113

def k0c0 : Code := { maxStack := 0, maxLocals := 1, code := object_method_1_code, exceptionTable := #[], attributes := #[] }
def k0m0 : Method := { name := "<init>", desc := "()V", sig := { parameters := [], returnType := none }, accessFlags := 1, code := some k0c0 }
/-- java/lang/Object -/
def k0 : Class := { plain "java/lang/Object" none with
  accessFlags := 33
  interfaces := #[]
  cf := some (fileOf pool0 8 #[] #[{ accessFlags := 1, nameIndex := 5, descriptorIndex := 6, attributes := #[] }] 33 0 #[] #[])
  fields := #[]
  methods := #[k0m0]
  instanceTypes := #[]
  staticTypes := #[]
  resolved := Array.replicate 124 none
  statics := none }

def pool1 : Array CpInfo := pool [(2, .class_ 4), (1, u "java/lang/Object"), (0, u "<init>"), (0, u "()V"), (0, .methodref 8 9), (0, .class_ 10), (0, .nameAndType 11 12), (0, u "java/lang/String"), (0, u "valueOf"), (0, u "(C)Ljava/lang/String;"), (0, .class_ 14), (0, u "com/example/offlode/offlode/TaskRun"), (0, .methodref 8 16), (0, .nameAndType 5 17), (0, u "([C)V"), (0, .methodref 13 19), (0, .nameAndType 5 20), (0, u "(Ljava/lang/String;Ljava/lang/String;Ljava/lang/String;I)V"), (0, .class_ 22), (0, u "com/example/offlode/offlode/TaskTable$Claim"), (0, .methodref 21 24), (0, .nameAndType 5 25), (0, u "(Lcom/example/offlode/offlode/TaskRun;II)V"), (0, .methodref 21 27), (0, .nameAndType 28 29), (0, u "isLastAttempt"), (0, u "()Z"), (0, .class_ 31), (0, u "com/example/offlode/offlode/ClaimIsLastAttemptPinLaw"), (2, u "law"), (0, u "(IIII)Z")] 9

def k1m0 : Method := { name := "<init>", desc := "()V", sig := { parameters := [], returnType := none }, accessFlags := 1, code := none }
def k1c1 : Code := { maxStack := 6, maxLocals := 12, code := code, exceptionTable := #[], attributes := #[] }
def k1m1 : Method := { name := "law", desc := "(IIII)Z", sig := { parameters := [.int, .int, .int, .int], returnType := some .boolean }, accessFlags := 9, code := some k1c1 }
/-- com/example/offlode/offlode/ClaimIsLastAttemptPinLaw -/
def k1 : Class := { plain "com/example/offlode/offlode/ClaimIsLastAttemptPinLaw" (some 0) with
  accessFlags := 49
  interfaces := #[]
  cf := some (fileOf pool1 30 #[] #[{ accessFlags := 1, nameIndex := 5, descriptorIndex := 6, attributes := #[] }, { accessFlags := 9, nameIndex := 34, descriptorIndex := 35, attributes := #[] }] 49 2 #[] #[])
  fields := #[]
  methods := #[k1m0, k1m1]
  instanceTypes := #[]
  staticTypes := #[]
  resolved := Array.replicate 45 none
  statics := none }

def pool2 : Array CpInfo := pool [(1, .class_ 2), (0, u "java/io/Serializable"), (0, .class_ 4), (0, u "java/lang/Object")] 2

/-- java/io/Serializable -/
def k2 : Class := { plain "java/io/Serializable" (some 0) with
  accessFlags := 1537
  interfaces := #[]
  cf := some (fileOf pool2 1 #[] #[] 1537 3 #[] #[])
  fields := #[]
  methods := #[]
  instanceTypes := #[]
  staticTypes := #[]
  resolved := Array.replicate 7 none
  statics := none }

def pool3 : Array CpInfo := pool [(1, .class_ 2), (0, u "java/lang/Comparable"), (0, .class_ 4), (0, u "java/lang/Object")] 7

/-- java/lang/Comparable -/
def k3 : Class := { plain "java/lang/Comparable" (some 0) with
  accessFlags := 1537
  interfaces := #[]
  cf := some (fileOf pool3 1 #[] #[] 1537 3 #[] #[])
  fields := #[]
  methods := #[]
  instanceTypes := #[]
  staticTypes := #[]
  resolved := Array.replicate 12 none
  statics := none }

def pool4 : Array CpInfo := pool [(2, .class_ 4), (1, u "java/lang/CharSequence"), (42, .class_ 48), (0, u "java/lang/CharSequence$1CodePointIterator"), (10, .class_ 60), (0, u "java/lang/CharSequence$1CharIterator"), (5, .class_ 67), (0, u "java/lang/Object")] 63

/-- java/lang/CharSequence -/
def k4 : Class := { plain "java/lang/CharSequence" (some 0) with
  accessFlags := 1537
  interfaces := #[]
  cf := some (fileOf pool4 2 #[.nestMembers #[47, 59]] #[] 1537 66 #[] #[])
  fields := #[]
  methods := #[]
  instanceTypes := #[]
  staticTypes := #[]
  resolved := Array.replicate 131 none
  statics := none }

def pool5 : Array CpInfo := pool [(1, .class_ 2), (0, u "java/lang/constant/Constable"), (0, .class_ 4), (0, u "java/lang/Object")] 6

/-- java/lang/constant/Constable -/
def k5 : Class := { plain "java/lang/constant/Constable" (some 0) with
  accessFlags := 1537
  interfaces := #[]
  cf := some (fileOf pool5 1 #[] #[] 1537 3 #[] #[])
  fields := #[]
  methods := #[]
  instanceTypes := #[]
  staticTypes := #[]
  resolved := Array.replicate 11 none
  statics := none }

def pool6 : Array CpInfo := pool [(1, .class_ 2), (0, u "java/lang/constant/ConstantDesc"), (0, .class_ 4), (0, u "java/lang/Object")] 32

/-- java/lang/constant/ConstantDesc -/
def k6 : Class := { plain "java/lang/constant/ConstantDesc" (some 0) with
  accessFlags := 1537
  interfaces := #[]
  cf := some (fileOf pool6 1 #[] #[] 1537 3 #[] #[])
  fields := #[]
  methods := #[]
  instanceTypes := #[]
  staticTypes := #[]
  resolved := Array.replicate 37 none
  statics := none }

def pool7 : Array CpInfo := pool [(1, .methodref 2 3), (0, .class_ 4), (0, .nameAndType 5 6), (0, u "java/lang/Object"), (0, u "<init>"), (0, u "()V"), (2, .fieldref 10 11), (0, .class_ 12), (0, .nameAndType 13 14), (0, u "java/lang/String"), (0, u "value"), (0, u "[B"), (0, .fieldref 10 16), (0, .nameAndType 17 18), (0, u "coder"), (0, u "B"), (2, u "hash"), (0, u "I"), (2, u "hashIsZero"), (0, u "Z"), (0, .methodref 10 28), (0, .nameAndType 5 29), (0, u "([CIILjava/lang/Void;)V"), (8, .fieldref 10 39), (0, .nameAndType 40 26), (0, u "COMPACT_STRINGS"), (1, .class_ 44), (1, u "java/lang/StringUTF16"), (0, u "compress"), (1, .methodref 42 48), (0, .nameAndType 49 50), (0, u "coderFromArrayLen"), (0, u "([BI)B"), (2, u "toBytes"), (53, .class_ 109), (1, u "java/lang/StringLatin1"), (67, .methodref 42 178), (0, .nameAndType 45 179), (0, u "([CII)[B"), (29, .methodref 10 210), (0, .nameAndType 5 211), (0, u "([BB)V"), (157, u "(C)Z"), (205, .class_ 576), (0, u "java/lang/CharSequence"), (22, u "CASE_INSENSITIVE_ORDER"), (0, u "Ljava/util/Comparator;"), (181, u "valueOf"), (0, u "(C)Ljava/lang/String;"), (226, u "([C)V"), (4, .methodref 107 1016), (0, .nameAndType 1017 369), (0, u "canEncode"), (0, .methodref 107 1019), (0, .nameAndType 53 1020), (0, u "(C)[B"), (80, u "serialPersistentFields"), (0, u "[Ljava/io/ObjectStreamField;"), (0, .class_ 1104), (0, u "java/lang/String$CaseInsensitiveComparator"), (1, .class_ 1107), (0, u "java/io/Serializable"), (0, .class_ 1109), (0, u "java/lang/Comparable"), (0, .class_ 1111), (0, u "java/lang/constant/Constable"), (0, .class_ 1113), (0, u "java/lang/constant/ConstantDesc"), (2, u "serialVersionUID"), (0, u "J"), (3, u "REPL"), (0, u "C"), (2, u "LATIN1"), (1, u "UTF16")] 323

def k7m0 : Method := { name := "<init>", desc := "()V", sig := { parameters := [], returnType := none }, accessFlags := 1, code := none }
def k7c1 : Code := { maxStack := 5, maxLocals := 2, code := jdk_42_method_3_code, exceptionTable := #[], attributes := #[] }
def k7m1 : Method := { name := "<init>", desc := "([C)V", sig := { parameters := [(.array .char)], returnType := none }, accessFlags := 1, code := some k7c1 }
def k7c2 : Code := { maxStack := 4, maxLocals := 1, code := jdk_42_method_139_code, exceptionTable := #[], attributes := #[] }
def k7m2 : Method := { name := "valueOf", desc := "(C)Ljava/lang/String;", sig := { parameters := [.char], returnType := some (.object "java/lang/String") }, accessFlags := 9, code := some k7c2 }
def k7c3 : Code := { maxStack := 4, maxLocals := 6, code := jdk_42_method_149_code, exceptionTable := #[], attributes := #[] }
def k7m3 : Method := { name := "<init>", desc := "([CIILjava/lang/Void;)V", sig := { parameters := [(.array .char), .int, .int, (.object "java/lang/Void")], returnType := none }, accessFlags := 2, code := some k7c3 }
def k7c4 : Code := { maxStack := 2, maxLocals := 3, code := jdk_42_method_151_code, exceptionTable := #[], attributes := #[] }
def k7m4 : Method := { name := "<init>", desc := "([BB)V", sig := { parameters := [(.array .byte), .byte], returnType := none }, accessFlags := 0, code := some k7c4 }
/-- java/lang/String -/
def k7 : Class := { plain "java/lang/String" (some 0) with
  accessFlags := 49
  interfaces := #[2, 3, 4, 5, 6]
  cf := some (fileOf pool7 10 #[.nestMembers #[1103]] #[{ accessFlags := 1, nameIndex := 5, descriptorIndex := 6, attributes := #[] }, { accessFlags := 1, nameIndex := 5, descriptorIndex := 1010, attributes := #[] }, { accessFlags := 9, nameIndex := 782, descriptorIndex := 783, attributes := #[] }, { accessFlags := 2, nameIndex := 5, descriptorIndex := 29, attributes := #[] }, { accessFlags := 0, nameIndex := 5, descriptorIndex := 211, attributes := #[] }] 49 2 #[1106, 1108, 575, 1110, 1112] #[{ accessFlags := 18, nameIndex := 13, descriptorIndex := 14, attributes := #[] }, { accessFlags := 18, nameIndex := 17, descriptorIndex := 18, attributes := #[] }, { accessFlags := 2, nameIndex := 21, descriptorIndex := 22, attributes := #[] }, { accessFlags := 2, nameIndex := 25, descriptorIndex := 26, attributes := #[] }, { accessFlags := 26, nameIndex := 1116, descriptorIndex := 1117, attributes := #[] }, { accessFlags := 24, nameIndex := 40, descriptorIndex := 26, attributes := #[] }, { accessFlags := 26, nameIndex := 1101, descriptorIndex := 1102, attributes := #[] }, { accessFlags := 26, nameIndex := 1121, descriptorIndex := 1122, attributes := #[] }, { accessFlags := 25, nameIndex := 599, descriptorIndex := 600, attributes := #[] }, { accessFlags := 24, nameIndex := 1125, descriptorIndex := 18, attributes := #[] }, { accessFlags := 24, nameIndex := 1127, descriptorIndex := 18, attributes := #[] }])
  fields := #[{ name := "value", type := (.array .byte), accessFlags := 18, slot := 0, constantValue := 0 }, { name := "coder", type := .byte, accessFlags := 18, slot := 1, constantValue := 0 }, { name := "hash", type := .int, accessFlags := 2, slot := 2, constantValue := 0 }, { name := "hashIsZero", type := .boolean, accessFlags := 2, slot := 3, constantValue := 0 }, { name := "serialVersionUID", type := .long, accessFlags := 26, slot := 0, constantValue := 0 }, { name := "COMPACT_STRINGS", type := .boolean, accessFlags := 24, slot := 1, constantValue := 0 }, { name := "serialPersistentFields", type := (.array (.object "java/io/ObjectStreamField")), accessFlags := 26, slot := 2, constantValue := 0 }, { name := "REPL", type := .char, accessFlags := 26, slot := 3, constantValue := 0 }, { name := "CASE_INSENSITIVE_ORDER", type := (.object "java/util/Comparator"), accessFlags := 25, slot := 4, constantValue := 0 }, { name := "LATIN1", type := .byte, accessFlags := 24, slot := 5, constantValue := 0 }, { name := "UTF16", type := .byte, accessFlags := 24, slot := 6, constantValue := 0 }]
  methods := #[k7m0, k7m1, k7m2, k7m3, k7m4]
  instanceTypes := #[(.array .byte), .byte, .int, .boolean]
  staticTypes := #[.long, .boolean, (.array (.object "java/io/ObjectStreamField")), .char, (.object "java/util/Comparator"), .byte, .byte]
  resolved := Array.replicate 1451 none
  statics := some 0 }

def pool8 : Array CpInfo := pool [(4, .class_ 6), (1, u "java/lang/Object"), (0, u "<init>"), (0, u "()V"), (5, .class_ 16), (1, u "java/lang/StringLatin1"), (73, u "canEncode"), (14, u "(C)Z"), (15, u "$assertionsDisabled"), (0, u "Z"), (98, .class_ 223), (1, u "java/lang/StringLatin1$LinesSpliterator"), (156, u "toBytes"), (1, u "(C)[B"), (7, .class_ 391), (0, u "java/lang/StringLatin1$CharsSpliterator")] 3

def k8m0 : Method := { name := "<init>", desc := "()V", sig := { parameters := [], returnType := none }, accessFlags := 0, code := none }
def k8c1 : Code := { maxStack := 2, maxLocals := 1, code := jdk_43_method_3_code, exceptionTable := #[], attributes := #[] }
def k8m1 : Method := { name := "canEncode", desc := "(C)Z", sig := { parameters := [.char], returnType := some .boolean }, accessFlags := 9, code := some k8c1 }
def k8c2 : Code := { maxStack := 4, maxLocals := 1, code := jdk_43_method_46_code, exceptionTable := #[], attributes := #[] }
def k8m2 : Method := { name := "toBytes", desc := "(C)[B", sig := { parameters := [.char], returnType := some (.array .byte) }, accessFlags := 9, code := some k8c2 }
/-- java/lang/StringLatin1 -/
def k8 : Class := { plain "java/lang/StringLatin1" (some 0) with
  accessFlags := 48
  interfaces := #[]
  cf := some (fileOf pool8 14 #[.nestMembers #[390, 221]] #[{ accessFlags := 0, nameIndex := 7, descriptorIndex := 8, attributes := #[] }, { accessFlags := 9, nameIndex := 90, descriptorIndex := 105, attributes := #[] }, { accessFlags := 9, nameIndex := 380, descriptorIndex := 382, attributes := #[] }] 48 4 #[] #[{ accessFlags := 4120, nameIndex := 121, descriptorIndex := 122, attributes := #[] }])
  fields := #[{ name := "$assertionsDisabled", type := .boolean, accessFlags := 4120, slot := 0, constantValue := 0 }]
  methods := #[k8m0, k8m1, k8m2]
  instanceTypes := #[]
  staticTypes := #[.boolean]
  resolved := Array.replicate 395 none
  statics := none }

def pool9 : Array CpInfo := pool [(1, .methodref 2 3), (0, .class_ 4), (0, .nameAndType 5 6), (0, u "java/lang/Object"), (0, u "<init>"), (0, u "()V"), (0, .class_ 8), (0, u "java/lang/Record")] 13

def k9c0 : Code := { maxStack := 1, maxLocals := 1, code := jdk_30_method_1_code, exceptionTable := #[], attributes := #[] }
def k9m0 : Method := { name := "<init>", desc := "()V", sig := { parameters := [], returnType := none }, accessFlags := 4, code := some k9c0 }
/-- java/lang/Record -/
def k9 : Class := { plain "java/lang/Record" (some 0) with
  accessFlags := 1057
  interfaces := #[]
  cf := some (fileOf pool9 7 #[] #[{ accessFlags := 4, nameIndex := 5, descriptorIndex := 6, attributes := #[] }] 1057 2 #[] #[])
  fields := #[]
  methods := #[k9m0]
  instanceTypes := #[]
  staticTypes := #[]
  resolved := Array.replicate 22 none
  statics := none }

def pool10 : Array CpInfo := pool [(1, .methodref 2 3), (0, .class_ 4), (0, .nameAndType 5 6), (0, u "java/lang/Record"), (0, u "<init>"), (0, u "()V"), (0, .fieldref 8 9), (0, .class_ 10), (0, .nameAndType 11 12), (0, u "com/example/offlode/offlode/TaskRun"), (0, u "id"), (0, u "Ljava/lang/String;"), (0, .fieldref 8 14), (0, .nameAndType 15 12), (0, u "handlerName"), (0, .fieldref 8 17), (0, .nameAndType 18 12), (0, u "payload"), (0, .fieldref 8 20), (0, .nameAndType 21 22), (0, u "attempt"), (0, u "I"), (12, u "(Ljava/lang/String;Ljava/lang/String;Ljava/lang/String;I)V"), (4, u "()I")] 24

def k10c0 : Code := { maxStack := 2, maxLocals := 5, code := prog_25_method_1_code, exceptionTable := #[], attributes := #[] }
def k10m0 : Method := { name := "<init>", desc := "(Ljava/lang/String;Ljava/lang/String;Ljava/lang/String;I)V", sig := { parameters := [(.object "java/lang/String"), (.object "java/lang/String"), (.object "java/lang/String"), .int], returnType := none }, accessFlags := 1, code := some k10c0 }
def k10c1 : Code := { maxStack := 1, maxLocals := 1, code := prog_25_method_8_code, exceptionTable := #[], attributes := #[] }
def k10m1 : Method := { name := "attempt", desc := "()I", sig := { parameters := [], returnType := some .int }, accessFlags := 1, code := some k10c1 }
/-- com/example/offlode/offlode/TaskRun -/
def k10 : Class := { plain "com/example/offlode/offlode/TaskRun" (some 9) with
  accessFlags := 49
  interfaces := #[]
  cf := some (fileOf pool10 8 #[] #[{ accessFlags := 1, nameIndex := 5, descriptorIndex := 35, attributes := #[] }, { accessFlags := 1, nameIndex := 21, descriptorIndex := 40, attributes := #[] }] 49 2 #[] #[{ accessFlags := 18, nameIndex := 11, descriptorIndex := 12, attributes := #[] }, { accessFlags := 18, nameIndex := 15, descriptorIndex := 12, attributes := #[] }, { accessFlags := 18, nameIndex := 18, descriptorIndex := 12, attributes := #[] }, { accessFlags := 18, nameIndex := 21, descriptorIndex := 22, attributes := #[] }])
  fields := #[{ name := "id", type := (.object "java/lang/String"), accessFlags := 18, slot := 0, constantValue := 0 }, { name := "handlerName", type := (.object "java/lang/String"), accessFlags := 18, slot := 1, constantValue := 0 }, { name := "payload", type := (.object "java/lang/String"), accessFlags := 18, slot := 2, constantValue := 0 }, { name := "attempt", type := .int, accessFlags := 18, slot := 3, constantValue := 0 }]
  methods := #[k10m0, k10m1]
  instanceTypes := #[(.object "java/lang/String"), (.object "java/lang/String"), (.object "java/lang/String"), .int]
  staticTypes := #[]
  resolved := Array.replicate 65 none
  statics := none }

def pool11 : Array CpInfo := pool [(6, .class_ 8), (1, u "java/lang/Object"), (0, u "<init>"), (0, u "()V"), (1, .class_ 14), (1, u "java/lang/StringUTF16"), (31, u "$assertionsDisabled"), (0, u "Z"), (13, u "HI_BYTE_SHIFT"), (0, u "I"), (2, u "LO_BYTE_SHIFT"), (49, .methodref 12 116), (0, .nameAndType 117 118), (0, u "compress"), (0, u "([CI[BII)I"), (3, u "([CII)[B"), (138, u "coderFromArrayLen"), (0, u "([BI)B"), (106, .class_ 371), (1, u "java/lang/StringUTF16$LinesSpliterator"), (58, u "MAX_LENGTH"), (196, .class_ 628), (0, u "java/lang/StringUTF16$CodePointsSpliterator"), (0, .class_ 630), (0, u "java/lang/StringUTF16$CharsSpliterator")] 4

def k11m0 : Method := { name := "<init>", desc := "()V", sig := { parameters := [], returnType := none }, accessFlags := 0, code := none }
def k11c1 : Code := { maxStack := 2, maxLocals := 2, code := jdk_52_method_15_code, exceptionTable := #[], attributes := #[] }
def k11m1 : Method := { name := "coderFromArrayLen", desc := "([BI)B", sig := { parameters := [(.array .byte), .int], returnType := some .byte }, accessFlags := 8, code := some k11c1 }
def k11c2 : Code := { maxStack := 5, maxLocals := 6, code := jdk_52_method_16_code, exceptionTable := #[], attributes := #[] }
def k11m2 : Method := { name := "compress", desc := "([CII)[B", sig := { parameters := [(.array .char), .int, .int], returnType := some (.array .byte) }, accessFlags := 9, code := some k11c2 }
def k11c3 : Code := { maxStack := 3, maxLocals := 7, code := jdk_52_method_21_code, exceptionTable := #[], attributes := #[] }
def k11m3 : Method := { name := "compress", desc := "([CI[BII)I", sig := { parameters := [(.array .char), .int, (.array .byte), .int, .int], returnType := some .int }, accessFlags := 9, code := some k11c3 }
/-- java/lang/StringUTF16 -/
def k11 : Class := { plain "java/lang/StringUTF16" (some 0) with
  accessFlags := 48
  interfaces := #[]
  cf := some (fileOf pool11 12 #[.nestMembers #[627, 629, 369]] #[{ accessFlags := 0, nameIndex := 9, descriptorIndex := 10, attributes := #[] }, { accessFlags := 8, nameIndex := 261, descriptorIndex := 262, attributes := #[] }, { accessFlags := 9, nameIndex := 117, descriptorIndex := 122, attributes := #[] }, { accessFlags := 9, nameIndex := 117, descriptorIndex := 118, attributes := #[] }] 48 6 #[] #[{ accessFlags := 26, nameIndex := 61, descriptorIndex := 62, attributes := #[] }, { accessFlags := 26, nameIndex := 65, descriptorIndex := 62, attributes := #[] }, { accessFlags := 24, nameIndex := 430, descriptorIndex := 62, attributes := #[] }, { accessFlags := 4120, nameIndex := 46, descriptorIndex := 47, attributes := #[] }])
  fields := #[{ name := "HI_BYTE_SHIFT", type := .int, accessFlags := 26, slot := 0, constantValue := 0 }, { name := "LO_BYTE_SHIFT", type := .int, accessFlags := 26, slot := 1, constantValue := 0 }, { name := "MAX_LENGTH", type := .int, accessFlags := 24, slot := 2, constantValue := 0 }, { name := "$assertionsDisabled", type := .boolean, accessFlags := 4120, slot := 3, constantValue := 0 }]
  methods := #[k11m0, k11m1, k11m2, k11m3]
  instanceTypes := #[]
  staticTypes := #[.int, .int, .int, .boolean]
  resolved := Array.replicate 635 none
  statics := none }

def pool12 : Array CpInfo := pool [(1, .methodref 2 3), (0, .class_ 4), (0, .nameAndType 5 6), (0, u "java/lang/Record"), (0, u "<init>"), (0, u "()V"), (0, .fieldref 8 9), (0, .class_ 10), (0, .nameAndType 11 12), (0, u "com/example/offlode/offlode/TaskTable$Claim"), (0, u "run"), (0, u "Lcom/example/offlode/offlode/TaskRun;"), (0, .fieldref 8 14), (0, .nameAndType 15 16), (0, u "maxAttempts"), (0, u "I"), (0, .fieldref 8 18), (0, .nameAndType 19 16), (0, u "number"), (0, .methodref 21 22), (0, .class_ 23), (0, .nameAndType 24 25), (0, u "com/example/offlode/offlode/TaskRun"), (0, u "attempt"), (0, u "()I"), (12, u "(Lcom/example/offlode/offlode/TaskRun;II)V"), (3, u "isLastAttempt"), (0, u "()Z"), (7, .class_ 52), (0, u "com/example/offlode/offlode/TaskTable")] 21

def k12c0 : Code := { maxStack := 2, maxLocals := 4, code := prog_28_method_1_code, exceptionTable := #[], attributes := #[] }
def k12m0 : Method := { name := "<init>", desc := "(Lcom/example/offlode/offlode/TaskRun;II)V", sig := { parameters := [(.object "com/example/offlode/offlode/TaskRun"), .int, .int], returnType := none }, accessFlags := 0, code := some k12c0 }
def k12c1 : Code := { maxStack := 2, maxLocals := 1, code := prog_28_method_2_code, exceptionTable := #[], attributes := #[] }
def k12m1 : Method := { name := "isLastAttempt", desc := "()Z", sig := { parameters := [], returnType := some .boolean }, accessFlags := 0, code := some k12c1 }
/-- com/example/offlode/offlode/TaskTable$Claim -/
def k12 : Class := { plain "com/example/offlode/offlode/TaskTable$Claim" (some 9) with
  accessFlags := 48
  interfaces := #[]
  cf := some (fileOf pool12 8 #[.nestHost 51] #[{ accessFlags := 0, nameIndex := 5, descriptorIndex := 38, attributes := #[] }, { accessFlags := 0, nameIndex := 42, descriptorIndex := 43, attributes := #[] }] 48 2 #[] #[{ accessFlags := 18, nameIndex := 11, descriptorIndex := 12, attributes := #[] }, { accessFlags := 18, nameIndex := 15, descriptorIndex := 16, attributes := #[] }, { accessFlags := 18, nameIndex := 19, descriptorIndex := 16, attributes := #[] }])
  fields := #[{ name := "run", type := (.object "com/example/offlode/offlode/TaskRun"), accessFlags := 18, slot := 0, constantValue := 0 }, { name := "maxAttempts", type := .int, accessFlags := 18, slot := 1, constantValue := 0 }, { name := "number", type := .int, accessFlags := 18, slot := 2, constantValue := 0 }]
  methods := #[k12m0, k12m1]
  instanceTypes := #[(.object "com/example/offlode/offlode/TaskRun"), .int, .int]
  staticTypes := #[]
  resolved := Array.replicate 74 none
  statics := none }

def pool13 : Array CpInfo := pool [(2, .class_ 4), (1, u "java/lang/Object"), (0, u "<init>"), (0, u "()V"), (17, .class_ 26), (1, u "jdk/internal/util/Preconditions"), (28, .class_ 56), (0, u "jdk/internal/util/Preconditions$4"), (57, .class_ 115), (0, u "jdk/internal/util/Preconditions$1"), (7, u "SIOOBE_FORMATTER"), (0, u "Ljava/util/function/BiFunction;"), (0, .class_ 126), (0, u "jdk/internal/util/Preconditions$2"), (3, u "AIOOBE_FORMATTER"), (0, .class_ 132), (0, u "jdk/internal/util/Preconditions$3"), (3, u "IOOBE_FORMATTER")] 57

def k13m0 : Method := { name := "<init>", desc := "()V", sig := { parameters := [], returnType := none }, accessFlags := 1, code := none }
/-- jdk/internal/util/Preconditions -/
def k13 : Class := { plain "jdk/internal/util/Preconditions" (some 0) with
  accessFlags := 33
  interfaces := #[]
  cf := some (fileOf pool13 24 #[.nestMembers #[55, 131, 125, 114]] #[{ accessFlags := 1, nameIndex := 5, descriptorIndex := 6, attributes := #[] }] 33 2 #[] #[{ accessFlags := 25, nameIndex := 123, descriptorIndex := 124, attributes := #[] }, { accessFlags := 25, nameIndex := 130, descriptorIndex := 124, attributes := #[] }, { accessFlags := 25, nameIndex := 136, descriptorIndex := 124, attributes := #[] }])
  fields := #[{ name := "SIOOBE_FORMATTER", type := (.object "java/util/function/BiFunction"), accessFlags := 25, slot := 0, constantValue := 0 }, { name := "AIOOBE_FORMATTER", type := (.object "java/util/function/BiFunction"), accessFlags := 25, slot := 1, constantValue := 0 }, { name := "IOOBE_FORMATTER", type := (.object "java/util/function/BiFunction"), accessFlags := 25, slot := 2, constantValue := 0 }]
  methods := #[k13m0]
  instanceTypes := #[]
  staticTypes := #[(.object "java/util/function/BiFunction"), (.object "java/util/function/BiFunction"), (.object "java/util/function/BiFunction")]
  resolved := Array.replicate 194 none
  statics := some 1 }

def pool14 : Array CpInfo := pool [(9, u "<init>"), (6, .class_ 18), (1, u "java/lang/Object"), (0, u "()V"), (1, .class_ 23), (1, u "jdk/internal/util/ArraysSupport"), (0, u "LOG2_ARRAY_LONG_INDEX_SCALE"), (0, u "I"), (2, u "U"), (0, u "Ljdk/internal/misc/Unsafe;"), (8, u "BIG_ENDIAN"), (0, u "Z"), (8, u "LOG2_BYTE_BIT_SIZE"), (4, u "LOG2_ARRAY_INT_INDEX_SCALE"), (54, u "JLA"), (0, u "Ljdk/internal/access/JavaLangAccess;"), (11, u "LOG2_ARRAY_BOOLEAN_INDEX_SCALE"), (9, u "LOG2_ARRAY_BYTE_INDEX_SCALE"), (5, u "LOG2_ARRAY_CHAR_INDEX_SCALE"), (5, u "LOG2_ARRAY_SHORT_INDEX_SCALE"), (18, u "LOG2_ARRAY_FLOAT_INDEX_SCALE"), (24, u "LOG2_ARRAY_DOUBLE_INDEX_SCALE"), (89, u "T_BOOLEAN"), (2, u "T_CHAR"), (1, u "T_FLOAT"), (1, u "T_DOUBLE"), (1, u "T_BYTE"), (1, u "T_SHORT"), (1, u "T_INT"), (1, u "T_LONG"), (1, u "SOFT_MAX_ARRAY_LENGTH")] 83

def k14m0 : Method := { name := "<init>", desc := "()V", sig := { parameters := [], returnType := none }, accessFlags := 2, code := none }
/-- jdk/internal/util/ArraysSupport -/
def k14 : Class := { plain "jdk/internal/util/ArraysSupport" (some 0) with
  accessFlags := 33
  interfaces := #[]
  cf := some (fileOf pool14 21 #[] #[{ accessFlags := 2, nameIndex := 9, descriptorIndex := 19, attributes := #[] }] 33 16 #[] #[{ accessFlags := 24, nameIndex := 28, descriptorIndex := 29, attributes := #[] }, { accessFlags := 26, nameIndex := 38, descriptorIndex := 39, attributes := #[] }, { accessFlags := 25, nameIndex := 121, descriptorIndex := 25, attributes := #[] }, { accessFlags := 25, nameIndex := 131, descriptorIndex := 25, attributes := #[] }, { accessFlags := 25, nameIndex := 137, descriptorIndex := 25, attributes := #[] }, { accessFlags := 25, nameIndex := 143, descriptorIndex := 25, attributes := #[] }, { accessFlags := 25, nameIndex := 53, descriptorIndex := 25, attributes := #[] }, { accessFlags := 25, nameIndex := 24, descriptorIndex := 25, attributes := #[] }, { accessFlags := 25, nameIndex := 162, descriptorIndex := 25, attributes := #[] }, { accessFlags := 25, nameIndex := 187, descriptorIndex := 25, attributes := #[] }, { accessFlags := 26, nameIndex := 48, descriptorIndex := 25, attributes := #[] }, { accessFlags := 25, nameIndex := 277, descriptorIndex := 25, attributes := #[] }, { accessFlags := 25, nameIndex := 280, descriptorIndex := 25, attributes := #[] }, { accessFlags := 25, nameIndex := 282, descriptorIndex := 25, attributes := #[] }, { accessFlags := 25, nameIndex := 284, descriptorIndex := 25, attributes := #[] }, { accessFlags := 25, nameIndex := 286, descriptorIndex := 25, attributes := #[] }, { accessFlags := 25, nameIndex := 288, descriptorIndex := 25, attributes := #[] }, { accessFlags := 25, nameIndex := 290, descriptorIndex := 25, attributes := #[] }, { accessFlags := 25, nameIndex := 292, descriptorIndex := 25, attributes := #[] }, { accessFlags := 26, nameIndex := 108, descriptorIndex := 109, attributes := #[] }, { accessFlags := 25, nameIndex := 294, descriptorIndex := 25, attributes := #[] }])
  fields := #[{ name := "U", type := (.object "jdk/internal/misc/Unsafe"), accessFlags := 24, slot := 0, constantValue := 0 }, { name := "BIG_ENDIAN", type := .boolean, accessFlags := 26, slot := 1, constantValue := 0 }, { name := "LOG2_ARRAY_BOOLEAN_INDEX_SCALE", type := .int, accessFlags := 25, slot := 2, constantValue := 0 }, { name := "LOG2_ARRAY_BYTE_INDEX_SCALE", type := .int, accessFlags := 25, slot := 3, constantValue := 0 }, { name := "LOG2_ARRAY_CHAR_INDEX_SCALE", type := .int, accessFlags := 25, slot := 4, constantValue := 0 }, { name := "LOG2_ARRAY_SHORT_INDEX_SCALE", type := .int, accessFlags := 25, slot := 5, constantValue := 0 }, { name := "LOG2_ARRAY_INT_INDEX_SCALE", type := .int, accessFlags := 25, slot := 6, constantValue := 0 }, { name := "LOG2_ARRAY_LONG_INDEX_SCALE", type := .int, accessFlags := 25, slot := 7, constantValue := 0 }, { name := "LOG2_ARRAY_FLOAT_INDEX_SCALE", type := .int, accessFlags := 25, slot := 8, constantValue := 0 }, { name := "LOG2_ARRAY_DOUBLE_INDEX_SCALE", type := .int, accessFlags := 25, slot := 9, constantValue := 0 }, { name := "LOG2_BYTE_BIT_SIZE", type := .int, accessFlags := 26, slot := 10, constantValue := 0 }, { name := "T_BOOLEAN", type := .int, accessFlags := 25, slot := 11, constantValue := 0 }, { name := "T_CHAR", type := .int, accessFlags := 25, slot := 12, constantValue := 0 }, { name := "T_FLOAT", type := .int, accessFlags := 25, slot := 13, constantValue := 0 }, { name := "T_DOUBLE", type := .int, accessFlags := 25, slot := 14, constantValue := 0 }, { name := "T_BYTE", type := .int, accessFlags := 25, slot := 15, constantValue := 0 }, { name := "T_SHORT", type := .int, accessFlags := 25, slot := 16, constantValue := 0 }, { name := "T_INT", type := .int, accessFlags := 25, slot := 17, constantValue := 0 }, { name := "T_LONG", type := .int, accessFlags := 25, slot := 18, constantValue := 0 }, { name := "JLA", type := (.object "jdk/internal/access/JavaLangAccess"), accessFlags := 26, slot := 19, constantValue := 0 }, { name := "SOFT_MAX_ARRAY_LENGTH", type := .int, accessFlags := 25, slot := 20, constantValue := 0 }]
  methods := #[k14m0]
  instanceTypes := #[]
  staticTypes := #[(.object "jdk/internal/misc/Unsafe"), .boolean, .int, .int, .int, .int, .int, .int, .int, .int, .int, .int, .int, .int, .int, .int, .int, .int, .int, (.object "jdk/internal/access/JavaLangAccess"), .int]
  resolved := Array.replicate 378 none
  statics := none }

def pool15 : Array CpInfo := pool [(1, u "java/lang/Cloneable"), (0, .class_ 1), (0, u "java/lang/Object"), (0, .class_ 3)] 3

/-- java/lang/Cloneable -/
def k15 : Class := { plain "java/lang/Cloneable" (some 0) with
  accessFlags := 1537
  interfaces := #[]
  cf := some (fileOf pool15 2 #[] #[] 1537 4 #[] #[])
  fields := #[]
  methods := #[]
  instanceTypes := #[]
  staticTypes := #[]
  resolved := Array.replicate 8 none
  statics := none }

/-- the primitive byte -/
def k16 : Class := { plain "byte" none with kind := .primitive 'B', accessFlags := 0x411 }
/-- [B -/
def k17 : Class := { plain "[B" (some 0) with kind := .array 16 .byte, interfaces := #[15, 2], accessFlags := 1041 }

/-- the primitive char -/
def k18 : Class := { plain "char" none with kind := .primitive 'C', accessFlags := 0x411 }
/-- [C -/
def k19 : Class := { plain "[C" (some 0) with kind := .array 18 .char, interfaces := #[15, 2], accessFlags := 1041 }

/-- the primitive int -/
def k20 : Class := { plain "int" none with kind := .primitive 'I', accessFlags := 0x411 }
/-- [I -/
def k21 : Class := { plain "[I" (some 0) with kind := .array 20 .int, interfaces := #[15, 2], accessFlags := 1041 }

def heap : Heap := #[{ cls := 7, slots := #[.long 0, .int 1, .null, .int 0, .null, .int 0, .int 0], vm := .statics 7 },
  { cls := 13, slots := #[.null, .null, .null], vm := .statics 13 }]
def classes : Array Class := #[k0, k1, k2, k3, k4, k5, k6, k7, k8, k9, k10, k11, k12, k13, k14, k15, k16, k17, k18, k19, k20, k21]
def interned : List (Array UInt16 × Addr) := []
def slotsUsed : Nat := 10
def theMethod : MethodId := ⟨1, 1⟩
def args0 : Array Value := #[.int 1, .int 3, .int 7, .int 65]
def aboutOver (below : List Frame) : State where
  vm := { classes := classes, interned := interned.toArray }
  heap := heap
  slotsUsed := slotsUsed
  threads := #[{ frames := .invoking theMethod args0 :: below }]
def below0 : List Frame := [.native { method := ⟨0, 0⟩, args := #[] }]
def about1 : State := aboutOver below0
def p0 : Program := .bare "" "" ""
def e0 : Env := launch0.env 0 0 0
theorem w_frames : about1.frames = Frame.invoking theMethod args0 :: below0 := rfl
set_option maxRecDepth 65536 in
theorem w_args : argsFit about1.vm theMethod args0 = true := by decide +kernel
set_option maxRecDepth 65536 in
theorem w_heap : heapFits about1 = true := by decide +kernel
set_option maxRecDepth 65536 in
theorem w_runnable : about1.curStatus? = some .runnable := by decide +kernel
set_option maxRecDepth 65536 in
theorem w_alone : about1.alone = true := by decide +kernel
set_option maxRecDepth 65536 in
theorem w_named : about1.methodNamed? x = some theMethod := by decide +kernel
set_option maxRecDepth 65536 in
theorem w_hears : about1.hears theMethod below0 = true := by decide +kernel
set_option maxRecDepth 65536 in
theorem w_ripe : about1.ripe theMethod args0 below0 = true := by decide +kernel
theorem w_running : about1.status = .running := rfl
set_option maxRecDepth 65536 in
theorem w_room : about1.hasRoom e0.platform room_1 = true :=
  launch0.hasRoom_least _ room_1 (by decide +kernel) (by decide +kernel) (by decide +kernel) (by decide +kernel) (by decide +kernel) (by decide +kernel)
theorem allAtoms_all (ts : List Jvm.Cond) (a : Array Jvm.Value) (st : Jvm.State) : (allAtoms ts).before a st = ts.all (fun c => c.before a st) := by
  induction ts with
  | nil => rfl
  | cons c t ih =>
    show (Jvm.Cond.and c (allAtoms t)).before a st = _
    rw [Jvm.Cond.before_and, ih, List.all_cons]
def words1 : List Jvm.Cond := Jvm.Cond.code x code maxLocals ret :: tables_1
/-- a 'code' word, met by the world's own term for the bytes: nothing is compared byte by byte -/
theorem code_word {y : MethodName} {bytes : ByteArray} {mx : Nat} {rt : Option FieldType} {a : Array Value} {s : State} {m : MethodId} {meth : Method} {c : Code} (h1 : s.methodNamed? y = some m) (h2 : s.vm.method? m = some meth) (h3 : meth.code = some c) (h4 : c.code = bytes)
    (h5 : (c.maxLocals == mx && c.exceptionTable.isEmpty && decide (c.maxStack ≤ mostOperands) && decide (meth.sig.returnType = rt) && !meth.locks && decide (parseMethodDescriptor y.desc = some meth.sig)) = true) : (Jvm.Cond.code y bytes mx rt).before a s = true := by
  simp only [Bool.and_eq_true, beq_iff_eq, Bool.not_eq_true', decide_eq_true_eq] at h5
  obtain ⟨⟨⟨⟨⟨g1, g2⟩, g3⟩, g4⟩, g5⟩, g6⟩ := h5
  simp [Cond.before, Cond.holds, Cond.value, h1, h2, h3, h4, g1, g2, g3, g4, g5, g6]
def isCode : Jvm.Cond → Bool
  | .code _ _ _ _ => true
  | _ => false
theorem all_split {L : List Jvm.Cond} {P : Jvm.Cond → Bool} (h1 : L.all (fun c => isCode c || P c) = true) (h2 : ∀ c ∈ L.filter isCode, P c = true) : L.all P = true := by
  refine List.all_eq_true.mpr fun c hc => ?_
  have h := List.all_eq_true.mp h1 c hc
  rcases Bool.eq_false_or_eq_true (isCode c) with hi | hi
  · exact h2 c (List.mem_filter.mpr ⟨hc, hi⟩)
  · simpa [hi] using h
set_option maxRecDepth 65536 in
theorem w_c0 : (Jvm.Cond.code x code maxLocals ret).before args0 about1 = true := code_word (m := ⟨1, 1⟩) (meth := k1m1) (c := k1c1) (by decide +kernel) rfl rfl rfl (by decide +kernel)
set_option maxRecDepth 65536 in
theorem w_c1 : (Jvm.Cond.code ({ cls := "java/lang/String", name := "valueOf", desc := "(C)Ljava/lang/String;" } : Jvm.MethodName) jdk_42_method_139_code (1 : Nat) (Option.some (Jvm.ClassFile.FieldType.object "java/lang/String"))).before args0 about1 = true := code_word (m := ⟨7, 2⟩) (meth := k7m2) (c := k7c2) (by decide +kernel) rfl rfl rfl (by decide +kernel)
set_option maxRecDepth 65536 in
theorem w_c2 : (Jvm.Cond.code ({ cls := "java/lang/StringLatin1", name := "canEncode", desc := "(C)Z" } : Jvm.MethodName) jdk_43_method_3_code (1 : Nat) (Option.some Jvm.ClassFile.FieldType.boolean)).before args0 about1 = true := code_word (m := ⟨8, 1⟩) (meth := k8m1) (c := k8c1) (by decide +kernel) rfl rfl rfl (by decide +kernel)
set_option maxRecDepth 65536 in
theorem w_c3 : (Jvm.Cond.code ({ cls := "java/lang/StringLatin1", name := "toBytes", desc := "(C)[B" } : Jvm.MethodName) jdk_43_method_46_code (1 : Nat) (Option.some (Jvm.ClassFile.FieldType.array Jvm.ClassFile.FieldType.byte))).before args0 about1 = true := code_word (m := ⟨8, 2⟩) (meth := k8m2) (c := k8c2) (by decide +kernel) rfl rfl rfl (by decide +kernel)
set_option maxRecDepth 65536 in
theorem w_c4 : (Jvm.Cond.code ({ cls := "java/lang/String", name := "<init>", desc := "([BB)V" } : Jvm.MethodName) jdk_42_method_151_code (3 : Nat) (Option.none : Option Jvm.ClassFile.FieldType)).before args0 about1 = true := code_word (m := ⟨7, 4⟩) (meth := k7m4) (c := k7c4) (by decide +kernel) rfl rfl rfl (by decide +kernel)
set_option maxRecDepth 65536 in
theorem w_c5 : (Jvm.Cond.code ({ cls := "java/lang/Object", name := "<init>", desc := "()V" } : Jvm.MethodName) object_method_1_code (1 : Nat) (Option.none : Option Jvm.ClassFile.FieldType)).before args0 about1 = true := code_word (m := ⟨0, 0⟩) (meth := k0m0) (c := k0c0) (by decide +kernel) rfl rfl rfl (by decide +kernel)
set_option maxRecDepth 65536 in
theorem w_c6 : (Jvm.Cond.code ({ cls := "java/lang/String", name := "<init>", desc := "([C)V" } : Jvm.MethodName) jdk_42_method_3_code (2 : Nat) (Option.none : Option Jvm.ClassFile.FieldType)).before args0 about1 = true := code_word (m := ⟨7, 1⟩) (meth := k7m1) (c := k7c1) (by decide +kernel) rfl rfl rfl (by decide +kernel)
set_option maxRecDepth 65536 in
theorem w_c7 : (Jvm.Cond.code ({ cls := "java/lang/String", name := "<init>", desc := "([CIILjava/lang/Void;)V" } : Jvm.MethodName) jdk_42_method_149_code (6 : Nat) (Option.none : Option Jvm.ClassFile.FieldType)).before args0 about1 = true := code_word (m := ⟨7, 3⟩) (meth := k7m3) (c := k7c3) (by decide +kernel) rfl rfl rfl (by decide +kernel)
set_option maxRecDepth 65536 in
theorem w_c8 : (Jvm.Cond.code ({ cls := "java/lang/StringUTF16", name := "compress", desc := "([CII)[B" } : Jvm.MethodName) jdk_52_method_16_code (6 : Nat) (Option.some (Jvm.ClassFile.FieldType.array Jvm.ClassFile.FieldType.byte))).before args0 about1 = true := code_word (m := ⟨11, 2⟩) (meth := k11m2) (c := k11c2) (by decide +kernel) rfl rfl rfl (by decide +kernel)
set_option maxRecDepth 65536 in
theorem w_c9 : (Jvm.Cond.code ({ cls := "java/lang/StringUTF16", name := "compress", desc := "([CI[BII)I" } : Jvm.MethodName) jdk_52_method_21_code (7 : Nat) (Option.some Jvm.ClassFile.FieldType.int)).before args0 about1 = true := code_word (m := ⟨11, 3⟩) (meth := k11m3) (c := k11c3) (by decide +kernel) rfl rfl rfl (by decide +kernel)
set_option maxRecDepth 65536 in
theorem w_c10 : (Jvm.Cond.code ({ cls := "java/lang/StringUTF16", name := "coderFromArrayLen", desc := "([BI)B" } : Jvm.MethodName) jdk_52_method_15_code (2 : Nat) (Option.some Jvm.ClassFile.FieldType.byte)).before args0 about1 = true := code_word (m := ⟨11, 1⟩) (meth := k11m1) (c := k11c1) (by decide +kernel) rfl rfl rfl (by decide +kernel)
set_option maxRecDepth 65536 in
theorem w_c11 : (Jvm.Cond.code ({ cls := "com/example/offlode/offlode/TaskRun", name := "<init>", desc := "(Ljava/lang/String;Ljava/lang/String;Ljava/lang/String;I)V" } : Jvm.MethodName) prog_25_method_1_code (5 : Nat) (Option.none : Option Jvm.ClassFile.FieldType)).before args0 about1 = true := code_word (m := ⟨10, 0⟩) (meth := k10m0) (c := k10c0) (by decide +kernel) rfl rfl rfl (by decide +kernel)
set_option maxRecDepth 65536 in
theorem w_c12 : (Jvm.Cond.code ({ cls := "java/lang/Record", name := "<init>", desc := "()V" } : Jvm.MethodName) jdk_30_method_1_code (1 : Nat) (Option.none : Option Jvm.ClassFile.FieldType)).before args0 about1 = true := code_word (m := ⟨9, 0⟩) (meth := k9m0) (c := k9c0) (by decide +kernel) rfl rfl rfl (by decide +kernel)
set_option maxRecDepth 65536 in
theorem w_c13 : (Jvm.Cond.code ({ cls := "com/example/offlode/offlode/TaskTable$Claim", name := "<init>", desc := "(Lcom/example/offlode/offlode/TaskRun;II)V" } : Jvm.MethodName) prog_28_method_1_code (4 : Nat) (Option.none : Option Jvm.ClassFile.FieldType)).before args0 about1 = true := code_word (m := ⟨12, 0⟩) (meth := k12m0) (c := k12c0) (by decide +kernel) rfl rfl rfl (by decide +kernel)
set_option maxRecDepth 65536 in
theorem w_c14 : (Jvm.Cond.code ({ cls := "com/example/offlode/offlode/TaskTable$Claim", name := "isLastAttempt", desc := "()Z" } : Jvm.MethodName) prog_28_method_2_code (1 : Nat) (Option.some Jvm.ClassFile.FieldType.boolean)).before args0 about1 = true := code_word (m := ⟨12, 1⟩) (meth := k12m1) (c := k12c1) (by decide +kernel) rfl rfl rfl (by decide +kernel)
set_option maxRecDepth 65536 in
theorem w_c15 : (Jvm.Cond.code ({ cls := "com/example/offlode/offlode/TaskRun", name := "attempt", desc := "()I" } : Jvm.MethodName) prog_25_method_8_code (1 : Nat) (Option.some Jvm.ClassFile.FieldType.int)).before args0 about1 = true := code_word (m := ⟨10, 1⟩) (meth := k10m1) (c := k10c1) (by decide +kernel) rfl rfl rfl (by decide +kernel)
def codes1 : List Jvm.Cond := [Jvm.Cond.code x code maxLocals ret, Jvm.Cond.code ({ cls := "java/lang/String", name := "valueOf", desc := "(C)Ljava/lang/String;" } : Jvm.MethodName) jdk_42_method_139_code (1 : Nat) (Option.some (Jvm.ClassFile.FieldType.object "java/lang/String")), Jvm.Cond.code ({ cls := "java/lang/StringLatin1", name := "canEncode", desc := "(C)Z" } : Jvm.MethodName) jdk_43_method_3_code (1 : Nat) (Option.some Jvm.ClassFile.FieldType.boolean), Jvm.Cond.code ({ cls := "java/lang/StringLatin1", name := "toBytes", desc := "(C)[B" } : Jvm.MethodName) jdk_43_method_46_code (1 : Nat) (Option.some (Jvm.ClassFile.FieldType.array Jvm.ClassFile.FieldType.byte)), Jvm.Cond.code ({ cls := "java/lang/String", name := "<init>", desc := "([BB)V" } : Jvm.MethodName) jdk_42_method_151_code (3 : Nat) (Option.none : Option Jvm.ClassFile.FieldType), Jvm.Cond.code ({ cls := "java/lang/Object", name := "<init>", desc := "()V" } : Jvm.MethodName) object_method_1_code (1 : Nat) (Option.none : Option Jvm.ClassFile.FieldType), Jvm.Cond.code ({ cls := "java/lang/String", name := "<init>", desc := "([C)V" } : Jvm.MethodName) jdk_42_method_3_code (2 : Nat) (Option.none : Option Jvm.ClassFile.FieldType), Jvm.Cond.code ({ cls := "java/lang/String", name := "<init>", desc := "([CIILjava/lang/Void;)V" } : Jvm.MethodName) jdk_42_method_149_code (6 : Nat) (Option.none : Option Jvm.ClassFile.FieldType), Jvm.Cond.code ({ cls := "java/lang/StringUTF16", name := "compress", desc := "([CII)[B" } : Jvm.MethodName) jdk_52_method_16_code (6 : Nat) (Option.some (Jvm.ClassFile.FieldType.array Jvm.ClassFile.FieldType.byte)), Jvm.Cond.code ({ cls := "java/lang/StringUTF16", name := "compress", desc := "([CI[BII)I" } : Jvm.MethodName) jdk_52_method_21_code (7 : Nat) (Option.some Jvm.ClassFile.FieldType.int), Jvm.Cond.code ({ cls := "java/lang/StringUTF16", name := "coderFromArrayLen", desc := "([BI)B" } : Jvm.MethodName) jdk_52_method_15_code (2 : Nat) (Option.some Jvm.ClassFile.FieldType.byte), Jvm.Cond.code ({ cls := "com/example/offlode/offlode/TaskRun", name := "<init>", desc := "(Ljava/lang/String;Ljava/lang/String;Ljava/lang/String;I)V" } : Jvm.MethodName) prog_25_method_1_code (5 : Nat) (Option.none : Option Jvm.ClassFile.FieldType), Jvm.Cond.code ({ cls := "java/lang/Record", name := "<init>", desc := "()V" } : Jvm.MethodName) jdk_30_method_1_code (1 : Nat) (Option.none : Option Jvm.ClassFile.FieldType), Jvm.Cond.code ({ cls := "com/example/offlode/offlode/TaskTable$Claim", name := "<init>", desc := "(Lcom/example/offlode/offlode/TaskRun;II)V" } : Jvm.MethodName) prog_28_method_1_code (4 : Nat) (Option.none : Option Jvm.ClassFile.FieldType), Jvm.Cond.code ({ cls := "com/example/offlode/offlode/TaskTable$Claim", name := "isLastAttempt", desc := "()Z" } : Jvm.MethodName) prog_28_method_2_code (1 : Nat) (Option.some Jvm.ClassFile.FieldType.boolean), Jvm.Cond.code ({ cls := "com/example/offlode/offlode/TaskRun", name := "attempt", desc := "()I" } : Jvm.MethodName) prog_25_method_8_code (1 : Nat) (Option.some Jvm.ClassFile.FieldType.int)]
set_option maxRecDepth 65536 in
theorem codes_eq : words1.filter isCode = codes1 := rfl
theorem w_codes : ∀ c ∈ words1.filter isCode, c.before args0 about1 = true := by
  rw [codes_eq]
  intro c hc
  simp only [codes1, List.mem_cons, List.not_mem_nil, or_false] at hc
  rcases hc with rfl | rfl | rfl | rfl | rfl | rfl | rfl | rfl | rfl | rfl | rfl | rfl | rfl | rfl | rfl | rfl
  · exact w_c0
  · exact w_c1
  · exact w_c2
  · exact w_c3
  · exact w_c4
  · exact w_c5
  · exact w_c6
  · exact w_c7
  · exact w_c8
  · exact w_c9
  · exact w_c10
  · exact w_c11
  · exact w_c12
  · exact w_c13
  · exact w_c14
  · exact w_c15
set_option maxRecDepth 65536 in
theorem w_t1 : (words1.take 24).all (fun c => isCode c || c.before args0 about1) = true := by decide +kernel
set_option maxRecDepth 65536 in
theorem w_t2 : ((words1.drop 24).take 24).all (fun c => isCode c || c.before args0 about1) = true := by decide +kernel
set_option maxRecDepth 65536 in
theorem w_t3 : (((words1.drop 24).drop 24).take 24).all (fun c => isCode c || c.before args0 about1) = true := by decide +kernel
set_option maxRecDepth 65536 in
theorem w_t4 : (((words1.drop 24).drop 24).drop 24).all (fun c => isCode c || c.before args0 about1) = true := by decide +kernel
theorem w_tables : (allAtoms (Jvm.Cond.code x code maxLocals ret :: tables_1)).before args0 about1 = true := by
  rw [allAtoms_all]
  show words1.all (fun c => c.before args0 about1) = true
  refine all_split ?_ w_codes
  rw [← List.take_append_drop 24 words1, List.all_append, w_t1, ← List.take_append_drop 24 (words1.drop 24), List.all_append, w_t2, ← List.take_append_drop 24 ((words1.drop 24).drop 24), List.all_append, w_t3, w_t4]
  rfl
set_option maxRecDepth 65536 in
theorem w_rest : rest_1_c.before args0 about1 = true := by decide +kernel
set_option maxRecDepth 65536 in
theorem w_case : (Jvm.Cond.and given_1 narrow_1).before args0 about1 = true := by decide +kernel
theorem w_applies : (headSpec (Jvm.Cond.code x code maxLocals ret :: tables_1) room_1).applies x e0.platform about1 = true :=
  (Spec.applies_iff w_frames).mpr ⟨w_running, w_runnable, w_alone, w_named, w_hears, w_ripe, w_room, w_tables⟩
theorem atStart : AtStart classFile x code maxLocals ret World_1 tables_1 room_1 Calls_1 rest_1 Pre_1 launch0 p0 e0 about1 theMethod args0 below0 :=
  ⟨lists_1, trivial, launch0.admits_env _ _ _, launch0.least_env, fairChoices_fair.cas, fairChoices_fair.clock, w_frames, w_args, w_heap, w_applies, trivial, w_rest, w_case⟩
end start1
theorem witness_1 : WitnessClaimed_1 := ⟨start1.p0, start1.e0, start1.about1, start1.theMethod, start1.args0, start1.below0, start1.atStart⟩
end Jvm.Pilot.@@N@@
