import JvmDerived
import JvmDerived.Pilot.@@N@@Statement
import JvmDerived.Pilot.@@N@@Code
set_option linter.unusedVariables false
set_option linter.unusedSimpArgs false
namespace Jvm.Pilot.@@N@@
open Jvm Jvm.ClassFile Sem Op Lib Jvm.Free Jvm.Stand Jvm.LawKit Jvm.RoadKit Bundle Jvm.Pilot.@@N@@.Jvm.D
/-! the run of one body: Cx holds what is fixed while it runs -/
abbrev Cx : Type := Program × Env × State × MethodId × Array Value × List Frame × Method × Code
abbrev kp (K : Cx) : Program := K.1
abbrev ke (K : Cx) : Env := K.2.1
abbrev ks (K : Cx) : State := K.2.2.1
abbrev km (K : Cx) : MethodId := K.2.2.2.1
abbrev ka (K : Cx) : Array Value := K.2.2.2.2.1
abbrev kb (K : Cx) : List Frame := K.2.2.2.2.2.1
abbrev kt (K : Cx) : Method := K.2.2.2.2.2.2.1
abbrev kc (K : Cx) : Code := K.2.2.2.2.2.2.2
/-- what is returned: nothing where the method is void -/
def Rv (ret : Option FieldType) (w : Value) : Option Value := match ret with
  | none => none
  | some _ => some w
/-- the places written lie in 'ws' or are new -/
def Nw (h0 : Heap) (ws : List Addr) (L : List Loc) : Prop := ∀ x ∈ L, x.base ∈ ws ∨ h0.size ≤ x.base
theorem Nw.nil {h0 : Heap} {ws : List Addr} : Nw h0 ws [] := fun _ q => nomatch q
theorem Nw.app {h0 : Heap} {ws : List Addr} {L L' : List Loc} (a : Nw h0 ws L) (b : Nw h0 ws L') : Nw h0 ws (L ++ L') := fun x q => (List.mem_append.mp q).elim (a x) (b x)
theorem Nw.one {h0 : Heap} {ws : List Addr} {L : List Loc} {a : Addr} {i : Nat} (p : Nw h0 ws L) (q : a ∈ ws ∨ h0.size ≤ a) : Nw h0 ws (L ++ [⟨a, i⟩]) := p.app fun x hx => by cases List.mem_singleton.mp hx; exact q
theorem st_any {l L' : Array Slot} {i : Nat} {v : Value} {o : Slot} (h1 : l[i]? = some o) (ho : One o) (hv : v.category = 1) (e : l.setIfInBounds i (.val v) = L') : storeLocals l i v = some L' := e ▸ XS.store1 h1 ho hv
theorem keep_same {s t : State} {L : List Loc} {k n : Nat} {h0 : Heap} {ws : List Addr} (F : s.sameButNew t L k n) (e : s.heap = h0) (N : Nw h0 ws L) : Keep h0 t.heap ws := by
  subst e
  obtain ⟨-, h2, -, -, -, h3⟩ := F
  refine ⟨h2, fun x c hc hx => ?_, fun x c hc => ?_⟩
  · obtain ⟨c', q1, q2, q3, q4⟩ := h3 x c hc
    have lt := (Array.getElem?_eq_some_iff.mp hc).1
    have : c'.slots = c.slots := Array.ext_getElem? fun i => q4 i fun hm => (N _ hm).elim hx fun q => Nat.not_lt.mpr q lt
    rw [q1, q2, this]
  · obtain ⟨c', q1, q2, q3, -⟩ := h3 x c hc
    exact ⟨c', q1, by rw [q2], by rw [q2], q3⟩
def Ok (Z : State) (n0 : Nat) (EL : List (String × Nat)) (mn : MethodName) (bytes : ByteArray) (ml : Nat) (ret : Option FieldType) (h0 : Heap) (ws : List Addr) (K : Cx) : Prop :=
  (kp K).tables.exec = Jvm.exec ∧ (kc K).code = bytes ∧ (kc K).maxLocals = ml ∧ (ks K).vm.findClass mn.cls = some (km K).cls ∧ (kt K).name = mn.name ∧ Z.Warmed39 (ks K).vm ∧ (kt K).sig.returnType = ret ∧ (kt K).locks = false ∧ (ks K).heap = h0 ∧ Old Z n0 h0 ∧ ∀ x ∈ ws, n0 ≤ x
/-- from the frame (pc, Ls, st), with the heap h, k cells and n slots made, the body's run ends, and Q holds of what it returns and of its last heap -/
def Go (l : Launch) (Z : State) (n0 : Nat) (EL : List (String × Nat)) (mn : MethodName) (bytes : ByteArray) (ml : Nat) (ret : Option FieldType) (R : Room) (h0 : Heap) (ws : List Addr) (fr : Bool) (Q : Value → Heap → Prop) (K : Cx) (sf : List Addr) (h : Heap) (k n pc : Nat) (Ls : Array Slot) (st : List Value) : Prop :=
  Ok Z n0 EL mn bytes ml ret h0 ws K → ∀ (T : State) (locs : List Loc), Stand (kp K) l (ke K) R (ks K) (km K) (ka K) (kb K) (kt K) (kc K) T locs k n → T.heap = h → Nw h0 ws locs →
    ∃ s₂ w L, Steps (kp K).tables (ke K) (kb K) (T.setTop (mkF (km K) pc Ls st)) s₂ ∧ s₂.status = .running ∧ Ended s₂ (kb K) (.returned (Rv ret w)) ∧ Q w s₂.heap ∧ Nw h0 ws L ∧ FrameEnd (ks K) (.returned (Rv ret w)) s₂ L R.cells R.slots
/-- a body's contract: called with 'as' at the heap h0 it returns, Q holds, and it writes none of the old cells but those in ws -/
def Con (l : Launch) (Z : State) (n0 : Nat) (EL : List (String × Nat)) (mn : MethodName) (bytes : ByteArray) (ml : Nat) (ret : Option FieldType) (wl : List Jvm.Cond) (R : Room) (as : Array Value) (h0 : Heap) (ws : List Addr) (fr : Bool) (Q : Value → Heap → Prop) : Prop :=
  Old Z n0 h0 → (∀ x ∈ ws, n0 ≤ x) → MetFree l mn (head1 (Jvm.Cond.code mn bytes ml ret :: wl) R) (fun a U => a = as ∧ Z.Warmed39 U.vm ∧ U.heap = h0) (fun _ _ _ _ _ => True)
    (fun _ U o U' => ∃ v L, o = .returned v ∧ ((∃ w, v = Rv ret w ∧ Q w U'.heap ∧ Keep h0 U'.heap ws) ∧ Nw h0 ws L) ∧ FrameEnd U o U' L R.cells R.slots)
section Base
variable {l : Launch} {Z : State} {n0 : Nat} {EL : List (String × Nat)} {mn : MethodName} {bytes : ByteArray} {ml : Nat} {ret : Option FieldType} {R : Room} {h0 : Heap} {ws : List Addr} {fr : Bool} {Q : Value → Heap → Prop} {K : Cx} {sf : List Addr} {h : Heap} {k n pc pc' : Nat} {Ls : Array Slot} {st : List Value} {a0 : Array Value}
theorem con_of {wl : List Jvm.Cond} {as : Array Value} (hp : plainFor mn = true) (hef : ∀ m, entryFrame m as ml = mkF m 0 Ls []) (G : ∀ K, Go l Z n0 EL mn bytes ml ret R h0 ws fr Q K ws h0 0 0 0 Ls []) : Con l Z n0 EL mn bytes ml ret wl R as h0 ws fr Q := by
  intro ho hws
  refine MetFree.of_bodySF hp hisR ?_
  intro p e s m args below meth c s₁ Bd hml0 hP hK
  obtain ⟨rfl, hZ, hh⟩ := hP
  have X0 := Stand.of_body Bd
  obtain ⟨s₂, w, L, h1, h2, h3, h4, h5, h6⟩ := G (p, e, s, m, args, below, meth, c) ⟨Bd.exec, Bd.bytes, hml0, findClass_of_methodNamed Bd.named, (name_of_methodNamed Bd.named Bd.method).1, hZ, Bd.returns, Bd.notSynchronized, hh, ho, hws⟩ s₁ [] X0 (by rw [← hh, Bd.state]; rfl) Nw.nil
  exact ⟨s₂, _, castTop (hef m) h1, h2, h3, _, L, rfl, ⟨⟨w, rfl, h4, (keep_same h6.2.2 hh h5 :)⟩, h5⟩, h6⟩
theorem con_mono {wl : List Jvm.Cond} {as : Array Value} {Q' : Value → Heap → Prop} (C : Con l Z n0 EL mn bytes ml ret wl R as h0 ws fr Q) (H : ∀ w h', Keep h0 h' ws → Q w h' → Q' w h') : Con l Z n0 EL mn bytes ml ret wl R as h0 ws fr Q' := by
  intro ho hws p e ha hc hk s m args below hf happ hP hK
  obtain ⟨n, o, h1, h2, h3, v, L, q1, ⟨⟨w, q2, q3, q4⟩, q5⟩, q6⟩ := C ho hws p e ha hc hk s m args below hf happ hP hK
  exact ⟨n, o, h1, h2, h3, v, L, q1, ⟨⟨w, q2, H w _ q4 q3, q4⟩, q5⟩, q6⟩
theorem old_at (ok : Ok Z n0 EL mn bytes ml ret h0 ws K) {T : State} {locs : List Loc} (X : Stand (kp K) l (ke K) R (ks K) (km K) (ka K) (kb K) (kt K) (kc K) T locs k n) (e : T.heap = h) (N : Nw h0 ws locs) : Old Z n0 h ∧ Keep h0 h ws := by
  obtain ⟨-, -, -, -, -, -, -, -, eh, ho, hws⟩ := ok
  have Kp : Keep h0 T.heap ws := (keep_same X.same eh N :)
  exact ⟨e ▸ ho.keep Kp hws, e ▸ Kp⟩
theorem go_old (G : Old Z n0 h → Keep h0 h ws → Go l Z n0 EL mn bytes ml ret R h0 ws fr Q K sf h k n pc Ls st) : Go l Z n0 EL mn bytes ml ret R h0 ws fr Q K sf h k n pc Ls st := fun ok T locs X e N =>
  G (old_at ok X e N).1 (old_at ok X e N).2 ok T locs X e N
theorem go_mono {k' n' : Nat} (hk : k ≤ k') (hn : n ≤ n') (G : Go l Z n0 EL mn bytes ml ret R h0 ws fr Q K sf h k' n' pc Ls st) : Go l Z n0 EL mn bytes ml ret R h0 ws fr Q K sf h k n pc Ls st := fun ok T locs X e N =>
  G ok T locs { X with same := X.same.mono hk hn } e N
theorem go_sf {sf' : List Addr} (hs : ∀ x ∈ sf', x ∈ sf) (G : Go l Z n0 EL mn bytes ml ret R h0 ws fr Q K sf' h k n pc Ls st) : Go l Z n0 EL mn bytes ml ret R h0 ws fr Q K sf h k n pc Ls st := G
theorem go_add {a : Addr} (hE : EL = []) (ha : a < h.size) (G : Go l Z n0 EL mn bytes ml ret R h0 ws fr Q K (a :: sf) h k n pc Ls st) : Go l Z n0 EL mn bytes ml ret R h0 ws fr Q K sf h k n pc Ls st := G
theorem g_pure {Ls' : Array Slot} {st' : List Value} (S : ∀ T t, At T (km K) (kc K) (kb K) → (kp K).tables.exec = Jvm.exec → Steps (kp K).tables (ke K) (kb K) (T.setTop (mkF (km K) pc' Ls' st')) t → (kc K).code = bytes → Steps (kp K).tables (ke K) (kb K) (T.setTop (mkF (km K) pc Ls st)) t)
    (G : Go l Z n0 EL mn bytes ml ret R h0 ws fr Q K sf h k n pc' Ls' st') : Go l Z n0 EL mn bytes ml ret R h0 ws fr Q K sf h k n pc Ls st := fun ok T locs X e N => by
  obtain ⟨s₂, w, L, h1, r⟩ := G ok T locs X e N
  exact ⟨s₂, w, L, S T _ X.here ok.1 h1 ok.2.1, r⟩
theorem g_law {Ls' : Array Slot} {st' : List Value} (S : ∀ (s' T : State) (locs : List Loc), (kp K).tables.exec = Jvm.exec → (kc K).code = bytes → (kc K).maxLocals = ml → s'.vm.findClass mn.cls = some (km K).cls → (kt K).name = mn.name → Z.Warmed39 s'.vm → Stand (kp K) l (ke K) R s' (km K) (ka K) (kb K) (kt K) (kc K) T locs k n → T.heap = h → Old Z n0 h → ∃ T', Stand (kp K) l (ke K) R s' (km K) (ka K) (kb K) (kt K) (kc K) T' locs k n ∧ T'.heap = h ∧ ∀ t, Steps (kp K).tables (ke K) (kb K) (T'.setTop (mkF (km K) pc' Ls' st')) t → Steps (kp K).tables (ke K) (kb K) (T.setTop (mkF (km K) pc Ls st)) t)
    (G : Go l Z n0 EL mn bytes ml ret R h0 ws fr Q K sf h k n pc' Ls' st') : Go l Z n0 EL mn bytes ml ret R h0 ws fr Q K sf h k n pc Ls st := fun ok T locs X e N => by
  obtain ⟨T', X', e', S'⟩ := S (ks K) T locs ok.1 ok.2.1 ok.2.2.1 ok.2.2.2.1 ok.2.2.2.2.1 ok.2.2.2.2.2.1 X e (old_at ok X e N).1
  obtain ⟨s₂, w, L, h1, r⟩ := G ok T' locs X' e' N
  exact ⟨s₂, w, L, S' _ h1, r⟩
theorem g_wr {a : Addr} {i : Nat} {v : Value} {Ls' : Array Slot} {st' : List Value} (S : ∀ (s' T : State) (locs : List Loc), (kp K).tables.exec = Jvm.exec → (kc K).code = bytes → (kc K).maxLocals = ml → s'.vm.findClass mn.cls = some (km K).cls → (kt K).name = mn.name → Z.Warmed39 s'.vm → Stand (kp K) l (ke K) R s' (km K) (ka K) (kb K) (kt K) (kc K) T locs k n → T.heap = h → Old Z n0 h → ∃ T' h', Stand (kp K) l (ke K) R s' (km K) (ka K) (kb K) (kt K) (kc K) T' (locs ++ [⟨a, i⟩]) k n ∧ T'.heap = h' ∧ Wr h h' a i v ∧ ∀ t, Steps (kp K).tables (ke K) (kb K) (T'.setTop (mkF (km K) pc' Ls' st')) t → Steps (kp K).tables (ke K) (kb K) (T.setTop (mkF (km K) pc Ls st)) t)
    (hin : a ∈ ws ∨ h0.size ≤ a) (hsf : a ∈ sf) (G : ∀ h', Wr h h' a i v → Go l Z n0 EL mn bytes ml ret R h0 ws fr Q K sf h' k n pc' Ls' st') : Go l Z n0 EL mn bytes ml ret R h0 ws fr Q K sf h k n pc Ls st := fun ok T locs X e N => by
  obtain ⟨T', h', X', e', W, S'⟩ := S (ks K) T locs ok.1 ok.2.1 ok.2.2.1 ok.2.2.2.1 ok.2.2.2.2.1 ok.2.2.2.2.2.1 X e (old_at ok X e N).1
  obtain ⟨s₂, w, L, h1, r⟩ := G h' W ok T' _ X' e' (N.one hin)
  exact ⟨s₂, w, L, S' _ h1, r⟩
theorem g_ext {P : Heap → Prop} {k' n' : Nat} {Ls' : Array Slot} {st' : List Value} (S : ∀ (s' T : State) (locs : List Loc), (kp K).tables.exec = Jvm.exec → (kc K).code = bytes → (kc K).maxLocals = ml → s'.vm.findClass mn.cls = some (km K).cls → (kt K).name = mn.name → Z.Warmed39 s'.vm → Stand (kp K) l (ke K) R s' (km K) (ka K) (kb K) (kt K) (kc K) T locs k n → T.heap = h → Old Z n0 h → ∃ T' h', Stand (kp K) l (ke K) R s' (km K) (ka K) (kb K) (kt K) (kc K) T' locs k' n' ∧ T'.heap = h' ∧ Ext h h' ∧ h.size < h'.size ∧ P h' ∧ ∀ t, Steps (kp K).tables (ke K) (kb K) (T'.setTop (mkF (km K) pc' Ls' st')) t → Steps (kp K).tables (ke K) (kb K) (T.setTop (mkF (km K) pc Ls st)) t)
    (G : ∀ h', Ext h h' → P h' → h0.size ≤ h.size → Go l Z n0 EL mn bytes ml ret R h0 ws fr Q K (h.size :: sf) h' k' n' pc' Ls' st') : Go l Z n0 EL mn bytes ml ret R h0 ws fr Q K sf h k n pc Ls st := fun ok T locs X e N => by
  have hsz := (old_at ok X e N).2.1
  obtain ⟨T', h', X', e', E, -, p, S'⟩ := S (ks K) T locs ok.1 ok.2.1 ok.2.2.1 ok.2.2.2.1 ok.2.2.2.2.1 ok.2.2.2.2.2.1 X e (old_at ok X e N).1
  obtain ⟨s₂, w, L, h1, r⟩ := G h' E p hsz ok T' _ X' e' N
  exact ⟨s₂, w, L, S' _ h1, r⟩
theorem g_ret {w : Value} (S : ∀ (s' T : State) (locs : List Loc), (kp K).tables.exec = Jvm.exec → (kc K).code = bytes → Stand (kp K) l (ke K) R s' (km K) (ka K) (kb K) (kt K) (kc K) T locs k n → (kt K).sig.returnType = ret → ∀ fs, (∀ (f : JFrame) (acts : List Action), f.method = km K → f.locked = none → f.entered = [] → (doReturn (ke K) (T.setTop f) acts (Rv ret w)).1 = T.setFrames fs) → Steps (kp K).tables (ke K) (kb K) (T.setTop (mkF (km K) pc Ls st)) (T.setFrames fs))
    (hq : Q w h) (hfr : fr = true → ∀ a, w = .ref a → a ∈ sf) (hk : k ≤ R.cells) (hn : n ≤ R.slots) : Go l Z n0 EL mn bytes ml ret R h0 ws fr Q K sf h k n pc Ls st := fun ok T locs X e N => by
  obtain ⟨hx, hb, -, -, -, -, hret, hlk, -⟩ := ok
  obtain ⟨fs, hl, hrun, hended, hW, hsame⟩ := X.leave (v := Rv ret w) (fun q => by rw [hret] at q; subst q; rfl) hlk
  exact ⟨_, w, locs, S (ks K) T locs hx hb X hret fs hl, hrun, hended, e ▸ hq, N, ⟨_, rfl⟩, hW, hsame.mono hk hn⟩
theorem g_fr {P : Heap → Prop} {b : Addr} {Ls' : Array Slot} {st' : List Value} (S : ∀ (s' T : State) (locs : List Loc), (kp K).tables.exec = Jvm.exec → (kc K).code = bytes → (kc K).maxLocals = ml → s'.vm.findClass mn.cls = some (km K).cls → (kt K).name = mn.name → Z.Warmed39 s'.vm → Stand (kp K) l (ke K) R s' (km K) (ka K) (kb K) (kt K) (kc K) T locs k n → T.heap = h → Old Z n0 h → Fr h0.size locs → ∃ T' h' L, Stand (kp K) l (ke K) R s' (km K) (ka K) (kb K) (kt K) (kc K) T' L k n ∧ T'.heap = h' ∧ Fr h0.size L ∧ Keep h h' [b] ∧ P h' ∧ ∀ t, Steps (kp K).tables (ke K) (kb K) (T'.setTop (mkF (km K) pc' Ls' st')) t → Steps (kp K).tables (ke K) (kb K) (T.setTop (mkF (km K) pc Ls st)) t)
    (hsf : b ∈ sf) (G : ∀ h', Keep h h' [b] → P h' → Go l Z n0 EL mn bytes ml ret R h0 [] fr Q K sf h' k n pc' Ls' st') : Go l Z n0 EL mn bytes ml ret R h0 [] fr Q K sf h k n pc Ls st := fun ok T locs X e N => by
  obtain ⟨T', h', L, X', e', F, Kp, p, S'⟩ := S (ks K) T locs ok.1 ok.2.1 ok.2.2.1 ok.2.2.2.1 ok.2.2.2.2.1 ok.2.2.2.2.2.1 X e (old_at ok X e N).1 (fun y hy => (N y hy).elim (fun q => nomatch q) id)
  obtain ⟨s₂, w, L2, h1, r⟩ := G h' Kp p ok T' L X' e' (fun y hy => Or.inr (F y hy))
  exact ⟨s₂, w, L2, S' _ h1, r⟩
theorem g_call {kc' nc : Nat} {rest : List Value} {wsb : List Addr} {Qc : Option Value → Heap → List Loc → Prop} (S : ∀ (s' T : State) (locs : List Loc), (kp K).tables.exec = Jvm.exec → (kc K).code = bytes → (kc K).maxLocals = ml → s'.vm.findClass mn.cls = some (km K).cls → (kt K).name = mn.name → Z.Warmed39 s'.vm → Stand (kp K) l (ke K) R s' (km K) (ka K) (kb K) (kt K) (kc K) T locs k n → T.heap = h → Old Z n0 h → Keep h0 h ws → ∃ v T' L, Stand (kp K) l (ke K) R s' (km K) (ka K) (kb K) (kt K) (kc K) T' (locs ++ L) (k + kc') (n + nc) ∧ Qc v T'.heap L ∧ ∀ t, Steps (kp K).tables (ke K) (kb K) (T'.setTop (mkF (km K) pc' Ls (v.toList ++ rest))) t → Steps (kp K).tables (ke K) (kb K) (T.setTop (mkF (km K) pc Ls st)) t)
    (hQ : Keep h0 h ws → ∀ v h' L, Qc v h' L → Nw h0 ws L ∧ Keep h h' wsb) (hsf : ∀ x ∈ wsb, x ∈ sf) (G : ∀ v h' L, Qc v h' L → Go l Z n0 EL mn bytes ml ret R h0 ws fr Q K sf h' (k + kc') (n + nc) pc' Ls (v.toList ++ rest)) : Go l Z n0 EL mn bytes ml ret R h0 ws fr Q K sf h k n pc Ls st := fun ok T locs X e N => by
  obtain ⟨ho, hKp⟩ := old_at ok X e N
  obtain ⟨v, T', L, X', hq, S'⟩ := S (ks K) T locs ok.1 ok.2.1 ok.2.2.1 ok.2.2.2.1 ok.2.2.2.2.1 ok.2.2.2.2.2.1 X e ho hKp
  obtain ⟨s₂, w, L2, h1, r⟩ := G v _ L hq ok T' _ X' rfl (N.app (hQ hKp _ _ _ hq).1)
  exact ⟨s₂, w, L2, S' _ h1, r⟩
end Base
section Rules
variable {l : Launch} {Z : State} {n0 : Nat} {EL : List (String × Nat)} {mn : MethodName} {bytes : ByteArray} {ml : Nat} {ret : Option FieldType} {R : Room} {h0 : Heap} {ws : List Addr} {fr : Bool} {Q : Value → Heap → Prop} {K : Cx} {sf : List Addr} {h : Heap} {k n pc pc' : Nat} {Ls : Array Slot} {st : List Value} {a0 : Array Value}
theorem g_iadd {x y v : Int32} (hd : decode bytes pc = .ok (.iadd, 1)) (hv : x + y = v) (hp : pc + 1 = pc') (G : Go l Z n0 EL mn bytes ml ret R h0 ws fr Q K sf h k n pc' Ls (.int v :: st)) : Go l Z n0 EL mn bytes ml ret R h0 ws fr Q K sf h k n pc Ls (.int y :: .int x :: st) :=
  g_pure (fun T t H hx k e => by subst hp e hv; exact XS.iadd H hx rfl hd rfl k) G
theorem g_isub {x y v : Int32} (hd : decode bytes pc = .ok (.isub, 1)) (hv : x - y = v) (hp : pc + 1 = pc') (G : Go l Z n0 EL mn bytes ml ret R h0 ws fr Q K sf h k n pc' Ls (.int v :: st)) : Go l Z n0 EL mn bytes ml ret R h0 ws fr Q K sf h k n pc Ls (.int y :: .int x :: st) :=
  g_pure (fun T t H hx k e => by subst hp e hv; exact XS.isub H hx rfl hd rfl k) G
theorem g_imul {x y v : Int32} (hd : decode bytes pc = .ok (.imul, 1)) (hv : x * y = v) (hp : pc + 1 = pc') (G : Go l Z n0 EL mn bytes ml ret R h0 ws fr Q K sf h k n pc' Ls (.int v :: st)) : Go l Z n0 EL mn bytes ml ret R h0 ws fr Q K sf h k n pc Ls (.int y :: .int x :: st) :=
  g_pure (fun T t H hx k e => by subst hp e hv; exact XS.imul H hx rfl hd rfl k) G
theorem g_iand {x y v : Int32} (hd : decode bytes pc = .ok (.iand, 1)) (hv : x &&& y = v) (hp : pc + 1 = pc') (G : Go l Z n0 EL mn bytes ml ret R h0 ws fr Q K sf h k n pc' Ls (.int v :: st)) : Go l Z n0 EL mn bytes ml ret R h0 ws fr Q K sf h k n pc Ls (.int y :: .int x :: st) :=
  g_pure (fun T t H hx k e => by subst hp e hv; exact XS.iand H hx rfl hd rfl k) G
theorem g_ior {x y v : Int32} (hd : decode bytes pc = .ok (.ior, 1)) (hv : x ||| y = v) (hp : pc + 1 = pc') (G : Go l Z n0 EL mn bytes ml ret R h0 ws fr Q K sf h k n pc' Ls (.int v :: st)) : Go l Z n0 EL mn bytes ml ret R h0 ws fr Q K sf h k n pc Ls (.int y :: .int x :: st) :=
  g_pure (fun T t H hx k e => by subst hp e hv; exact XS.ior H hx rfl hd rfl k) G
theorem g_ixor {x y v : Int32} (hd : decode bytes pc = .ok (.ixor, 1)) (hv : x ^^^ y = v) (hp : pc + 1 = pc') (G : Go l Z n0 EL mn bytes ml ret R h0 ws fr Q K sf h k n pc' Ls (.int v :: st)) : Go l Z n0 EL mn bytes ml ret R h0 ws fr Q K sf h k n pc Ls (.int y :: .int x :: st) :=
  g_pure (fun T t H hx k e => by subst hp e hv; exact XS.ixor H hx rfl hd rfl k) G
theorem g_ishl {x y v : Int32} (hd : decode bytes pc = .ok (.ishl, 1)) (hv : x <<< (y &&& 31) = v) (hp : pc + 1 = pc') (G : Go l Z n0 EL mn bytes ml ret R h0 ws fr Q K sf h k n pc' Ls (.int v :: st)) : Go l Z n0 EL mn bytes ml ret R h0 ws fr Q K sf h k n pc Ls (.int y :: .int x :: st) :=
  g_pure (fun T t H hx k e => by subst hp e hv; exact XS.ishl H hx rfl hd rfl k) G
theorem g_ishr {x y v : Int32} (hd : decode bytes pc = .ok (.ishr, 1)) (hv : x >>> (y &&& 31) = v) (hp : pc + 1 = pc') (G : Go l Z n0 EL mn bytes ml ret R h0 ws fr Q K sf h k n pc' Ls (.int v :: st)) : Go l Z n0 EL mn bytes ml ret R h0 ws fr Q K sf h k n pc Ls (.int y :: .int x :: st) :=
  g_pure (fun T t H hx k e => by subst hp e hv; exact XS.ishr H hx rfl hd rfl k) G
theorem g_iushr {x y v : Int32} (hd : decode bytes pc = .ok (.iushr, 1)) (hv : (x.toUInt32 >>> (y &&& 31).toUInt32).toInt32 = v) (hp : pc + 1 = pc') (G : Go l Z n0 EL mn bytes ml ret R h0 ws fr Q K sf h k n pc' Ls (.int v :: st)) : Go l Z n0 EL mn bytes ml ret R h0 ws fr Q K sf h k n pc Ls (.int y :: .int x :: st) :=
  g_pure (fun T t H hx k e => by subst hp e hv; exact XS.iushr H hx rfl hd rfl k) G
theorem g_ladd {x y v : Int64} (hd : decode bytes pc = .ok (.ladd, 1)) (hv : x + y = v) (hp : pc + 1 = pc') (G : Go l Z n0 EL mn bytes ml ret R h0 ws fr Q K sf h k n pc' Ls (.long v :: st)) : Go l Z n0 EL mn bytes ml ret R h0 ws fr Q K sf h k n pc Ls (.long y :: .long x :: st) :=
  g_pure (fun T t H hx k e => by subst hp e hv; exact XS.ladd H hx rfl hd rfl k) G
theorem g_lsub {x y v : Int64} (hd : decode bytes pc = .ok (.lsub, 1)) (hv : x - y = v) (hp : pc + 1 = pc') (G : Go l Z n0 EL mn bytes ml ret R h0 ws fr Q K sf h k n pc' Ls (.long v :: st)) : Go l Z n0 EL mn bytes ml ret R h0 ws fr Q K sf h k n pc Ls (.long y :: .long x :: st) :=
  g_pure (fun T t H hx k e => by subst hp e hv; exact XS.lsub H hx rfl hd rfl k) G
theorem g_lmul {x y v : Int64} (hd : decode bytes pc = .ok (.lmul, 1)) (hv : x * y = v) (hp : pc + 1 = pc') (G : Go l Z n0 EL mn bytes ml ret R h0 ws fr Q K sf h k n pc' Ls (.long v :: st)) : Go l Z n0 EL mn bytes ml ret R h0 ws fr Q K sf h k n pc Ls (.long y :: .long x :: st) :=
  g_pure (fun T t H hx k e => by subst hp e hv; exact XS.lmul H hx rfl hd rfl k) G
theorem g_land {x y v : Int64} (hd : decode bytes pc = .ok (.land, 1)) (hv : x &&& y = v) (hp : pc + 1 = pc') (G : Go l Z n0 EL mn bytes ml ret R h0 ws fr Q K sf h k n pc' Ls (.long v :: st)) : Go l Z n0 EL mn bytes ml ret R h0 ws fr Q K sf h k n pc Ls (.long y :: .long x :: st) :=
  g_pure (fun T t H hx k e => by subst hp e hv; exact XS.land H hx rfl hd rfl k) G
theorem g_irem {x y v : Int32} (hd : decode bytes pc = .ok (.irem, 1)) (hy : y ≠ 0) (hv : x % y = v) (hp : pc + 1 = pc') (G : Go l Z n0 EL mn bytes ml ret R h0 ws fr Q K sf h k n pc' Ls (.int v :: st)) : Go l Z n0 EL mn bytes ml ret R h0 ws fr Q K sf h k n pc Ls (.int y :: .int x :: st) :=
  g_pure (fun T t H hx k e => by subst hp e hv; exact XS.irem H hx rfl hd rfl hy (by rw [irem_eq_mod]; exact k)) G
theorem g_idiv {x y v : Int32} (hd : decode bytes pc = .ok (.idiv, 1)) (hy : y ≠ 0) (hv : x / y = v) (hp : pc + 1 = pc') (G : Go l Z n0 EL mn bytes ml ret R h0 ws fr Q K sf h k n pc' Ls (.int v :: st)) : Go l Z n0 EL mn bytes ml ret R h0 ws fr Q K sf h k n pc Ls (.int y :: .int x :: st) :=
  g_pure (fun T t H hx k e => by subst hp e hv; exact XS.idiv H hx rfl hd rfl hy k) G
theorem g_lrem {x y v : Int64} (hd : decode bytes pc = .ok (.lrem, 1)) (hy : y ≠ 0) (hv : x % y = v) (hp : pc + 1 = pc') (G : Go l Z n0 EL mn bytes ml ret R h0 ws fr Q K sf h k n pc' Ls (.long v :: st)) : Go l Z n0 EL mn bytes ml ret R h0 ws fr Q K sf h k n pc Ls (.long y :: .long x :: st) :=
  g_pure (fun T t H hx k e => by subst hp e hv; exact XS.lrem H hx rfl hd rfl hy (by rw [lrem_mod]; exact k)) G
theorem g_lcmp {x y : Int64} {v : Int32} (hd : decode bytes pc = .ok (.lcmp, 1)) (hv : lcmpW x y = v) (hp : pc + 1 = pc') (G : Go l Z n0 EL mn bytes ml ret R h0 ws fr Q K sf h k n pc' Ls (.int v :: st)) : Go l Z n0 EL mn bytes ml ret R h0 ws fr Q K sf h k n pc Ls (.long y :: .long x :: st) :=
  g_pure (fun T t H hx k e => by subst hp e hv; exact XS.lcmp H hx rfl hd rfl k) G
theorem g_ineg {x : Int32} {v : Int32} (hd : decode bytes pc = .ok (.ineg, 1)) (hv : -x = v) (hp : pc + 1 = pc') (G : Go l Z n0 EL mn bytes ml ret R h0 ws fr Q K sf h k n pc' Ls (.int v :: st)) : Go l Z n0 EL mn bytes ml ret R h0 ws fr Q K sf h k n pc Ls (.int x :: st) :=
  g_pure (fun T t H hx k e => by subst hp e hv; exact XS.ineg H hx rfl hd rfl k) G
theorem g_i2c {x : Int32} {v : Int32} (hd : decode bytes pc = .ok (.i2c, 1)) (hv : x.toUInt32.toUInt16.toUInt32.toInt32 = v) (hp : pc + 1 = pc') (G : Go l Z n0 EL mn bytes ml ret R h0 ws fr Q K sf h k n pc' Ls (.int v :: st)) : Go l Z n0 EL mn bytes ml ret R h0 ws fr Q K sf h k n pc Ls (.int x :: st) :=
  g_pure (fun T t H hx k e => by subst hp e hv; exact XS.i2c H hx rfl hd rfl k) G
theorem g_i2b {x : Int32} {v : Int32} (hd : decode bytes pc = .ok (.i2b, 1)) (hv : x.toInt8.toInt32 = v) (hp : pc + 1 = pc') (G : Go l Z n0 EL mn bytes ml ret R h0 ws fr Q K sf h k n pc' Ls (.int v :: st)) : Go l Z n0 EL mn bytes ml ret R h0 ws fr Q K sf h k n pc Ls (.int x :: st) :=
  g_pure (fun T t H hx k e => by subst hp e hv; exact XS.i2b H hx rfl hd rfl k) G
theorem g_i2s {x : Int32} {v : Int32} (hd : decode bytes pc = .ok (.i2s, 1)) (hv : x.toInt16.toInt32 = v) (hp : pc + 1 = pc') (G : Go l Z n0 EL mn bytes ml ret R h0 ws fr Q K sf h k n pc' Ls (.int v :: st)) : Go l Z n0 EL mn bytes ml ret R h0 ws fr Q K sf h k n pc Ls (.int x :: st) :=
  g_pure (fun T t H hx k e => by subst hp e hv; exact XS.i2s H hx rfl hd rfl k) G
theorem g_i2l {x : Int32} {v : Int64} (hd : decode bytes pc = .ok (.i2l, 1)) (hv : x.toInt64 = v) (hp : pc + 1 = pc') (G : Go l Z n0 EL mn bytes ml ret R h0 ws fr Q K sf h k n pc' Ls (.long v :: st)) : Go l Z n0 EL mn bytes ml ret R h0 ws fr Q K sf h k n pc Ls (.int x :: st) :=
  g_pure (fun T t H hx k e => by subst hp e hv; exact XS.i2l H hx rfl hd rfl k) G
theorem g_l2i {x : Int64} {v : Int32} (hd : decode bytes pc = .ok (.l2i, 1)) (hv : x.toInt32 = v) (hp : pc + 1 = pc') (G : Go l Z n0 EL mn bytes ml ret R h0 ws fr Q K sf h k n pc' Ls (.int v :: st)) : Go l Z n0 EL mn bytes ml ret R h0 ws fr Q K sf h k n pc Ls (.long x :: st) :=
  g_pure (fun T t H hx k e => by subst hp e hv; exact XS.l2i H hx rfl hd rfl k) G
theorem g_iload {i : Nat} {x : Int32} (hd : decode bytes pc = .ok (.iload i, 2)) (hl : Ls[i]? = some (.val (.int x))) (hp : pc + 2 = pc') (G : Go l Z n0 EL mn bytes ml ret R h0 ws fr Q K sf h k n pc' Ls (.int x :: st)) : Go l Z n0 EL mn bytes ml ret R h0 ws fr Q K sf h k n pc Ls st :=
  g_pure (fun T t H hx k e => by subst hp e; exact XS.iload H hx rfl hd hl k) G
theorem g_iloadN {i : Fin 4} {x : Int32} (hd : decode bytes pc = .ok (.iload_n i, 1)) (hl : Ls[i.val]? = some (.val (.int x))) (hp : pc + 1 = pc') (G : Go l Z n0 EL mn bytes ml ret R h0 ws fr Q K sf h k n pc' Ls (.int x :: st)) : Go l Z n0 EL mn bytes ml ret R h0 ws fr Q K sf h k n pc Ls st :=
  g_pure (fun T t H hx k e => by subst hp e; exact XS.iloadN H hx rfl hd hl k) G
theorem g_lload {i : Nat} {x : Int64} (hd : decode bytes pc = .ok (.lload i, 2)) (hl : Ls[i]? = some (.val (.long x))) (hp : pc + 2 = pc') (G : Go l Z n0 EL mn bytes ml ret R h0 ws fr Q K sf h k n pc' Ls (.long x :: st)) : Go l Z n0 EL mn bytes ml ret R h0 ws fr Q K sf h k n pc Ls st :=
  g_pure (fun T t H hx k e => by subst hp e; exact XS.lload H hx rfl hd hl k) G
theorem g_lloadN {i : Fin 4} {x : Int64} (hd : decode bytes pc = .ok (.lload_n i, 1)) (hl : Ls[i.val]? = some (.val (.long x))) (hp : pc + 1 = pc') (G : Go l Z n0 EL mn bytes ml ret R h0 ws fr Q K sf h k n pc' Ls (.long x :: st)) : Go l Z n0 EL mn bytes ml ret R h0 ws fr Q K sf h k n pc Ls st :=
  g_pure (fun T t H hx k e => by subst hp e; exact XS.lloadN H hx rfl hd hl k) G
theorem g_aload {i : Nat} {x : Value} (hd : decode bytes pc = .ok (.aload i, 2)) (hl : Ls[i]? = some (.val (x))) (hv : x.isRef = true) (hp : pc + 2 = pc') (G : Go l Z n0 EL mn bytes ml ret R h0 ws fr Q K sf h k n pc' Ls (x :: st)) : Go l Z n0 EL mn bytes ml ret R h0 ws fr Q K sf h k n pc Ls st :=
  g_pure (fun T t H hx k e => by subst hp e; exact XS.aload H hx rfl hd hl hv k) G
theorem g_aloadN {i : Fin 4} {x : Value} (hd : decode bytes pc = .ok (.aload_n i, 1)) (hl : Ls[i.val]? = some (.val (x))) (hv : x.isRef = true) (hp : pc + 1 = pc') (G : Go l Z n0 EL mn bytes ml ret R h0 ws fr Q K sf h k n pc' Ls (x :: st)) : Go l Z n0 EL mn bytes ml ret R h0 ws fr Q K sf h k n pc Ls st :=
  g_pure (fun T t H hx k e => by subst hp e; exact XS.aloadN H hx rfl hd hl hv k) G
theorem g_istore {i : Nat} {x : Int32} {L' : Array Slot} (hd : decode bytes pc = .ok (.istore i, 2)) (hl : storeLocals Ls i (.int x) = some L') (hp : pc + 2 = pc') (G : Go l Z n0 EL mn bytes ml ret R h0 ws fr Q K sf h k n pc' L' st) : Go l Z n0 EL mn bytes ml ret R h0 ws fr Q K sf h k n pc Ls (.int x :: st) :=
  g_pure (fun T t H hx k e => by subst hp e; exact XS.istore H hx rfl hd rfl hl k) G
theorem g_istoreN {i : Fin 4} {x : Int32} {L' : Array Slot} (hd : decode bytes pc = .ok (.istore_n i, 1)) (hl : storeLocals Ls i.val (.int x) = some L') (hp : pc + 1 = pc') (G : Go l Z n0 EL mn bytes ml ret R h0 ws fr Q K sf h k n pc' L' st) : Go l Z n0 EL mn bytes ml ret R h0 ws fr Q K sf h k n pc Ls (.int x :: st) :=
  g_pure (fun T t H hx k e => by subst hp e; exact XS.istoreN H hx rfl hd rfl hl k) G
theorem g_lstore {i : Nat} {x : Int64} {L' : Array Slot} (hd : decode bytes pc = .ok (.lstore i, 2)) (hl : storeLocals Ls i (.long x) = some L') (hp : pc + 2 = pc') (G : Go l Z n0 EL mn bytes ml ret R h0 ws fr Q K sf h k n pc' L' st) : Go l Z n0 EL mn bytes ml ret R h0 ws fr Q K sf h k n pc Ls (.long x :: st) :=
  g_pure (fun T t H hx k e => by subst hp e; exact XS.lstore H hx rfl hd rfl hl k) G
theorem g_lstoreN {i : Fin 4} {x : Int64} {L' : Array Slot} (hd : decode bytes pc = .ok (.lstore_n i, 1)) (hl : storeLocals Ls i.val (.long x) = some L') (hp : pc + 1 = pc') (G : Go l Z n0 EL mn bytes ml ret R h0 ws fr Q K sf h k n pc' L' st) : Go l Z n0 EL mn bytes ml ret R h0 ws fr Q K sf h k n pc Ls (.long x :: st) :=
  g_pure (fun T t H hx k e => by subst hp e; exact XS.lstoreN H hx rfl hd rfl hl k) G
theorem g_astore {i : Nat} {x : Value} {L' : Array Slot} (hd : decode bytes pc = .ok (.astore i, 2)) (hv : x.isRef = true) (hl : storeLocals Ls i (x) = some L') (hp : pc + 2 = pc') (G : Go l Z n0 EL mn bytes ml ret R h0 ws fr Q K sf h k n pc' L' st) : Go l Z n0 EL mn bytes ml ret R h0 ws fr Q K sf h k n pc Ls (x :: st) :=
  g_pure (fun T t H hx k e => by subst hp e; exact XS.astore H hx rfl hd rfl hv hl k) G
theorem g_astoreN {i : Fin 4} {x : Value} {L' : Array Slot} (hd : decode bytes pc = .ok (.astore_n i, 1)) (hv : x.isRef = true) (hl : storeLocals Ls i.val (x) = some L') (hp : pc + 1 = pc') (G : Go l Z n0 EL mn bytes ml ret R h0 ws fr Q K sf h k n pc' L' st) : Go l Z n0 EL mn bytes ml ret R h0 ws fr Q K sf h k n pc Ls (x :: st) :=
  g_pure (fun T t H hx k e => by subst hp e; exact XS.astoreN H hx rfl hd rfl hv hl k) G
theorem g_iinc {i : Nat} {x v y : Int32} {cst : Int} {L' : Array Slot} (hd : decode bytes pc = .ok (.iinc i cst, 3)) (hv : Int32.ofInt cst = v) (hl : Ls[i]? = some (.val (.int x))) (hy : x + v = y) (hl' : storeLocals Ls i (.int y) = some L') (hp : pc + 3 = pc') (G : Go l Z n0 EL mn bytes ml ret R h0 ws fr Q K sf h k n pc' L' st) : Go l Z n0 EL mn bytes ml ret R h0 ws fr Q K sf h k n pc Ls st :=
  g_pure (fun T t H hx k e => by subst hp e hv hy; exact XS.iinc H hx rfl hd hl hl' k) G
theorem g_iconst {i : Int} {v : Int32} (hd : decode bytes pc = .ok (.iconst i, 1)) (hv : Int32.ofInt i = v) (hp : pc + 1 = pc') (G : Go l Z n0 EL mn bytes ml ret R h0 ws fr Q K sf h k n pc' Ls (.int v :: st)) : Go l Z n0 EL mn bytes ml ret R h0 ws fr Q K sf h k n pc Ls st :=
  g_pure (fun T t H hx k e => by subst hp e hv; exact XS.iconst H hx rfl hd k) G
theorem g_bipush {i : Int} {v : Int32} (hd : decode bytes pc = .ok (.bipush i, 2)) (hv : (Int8.ofInt i).toInt32 = v) (hp : pc + 2 = pc') (G : Go l Z n0 EL mn bytes ml ret R h0 ws fr Q K sf h k n pc' Ls (.int v :: st)) : Go l Z n0 EL mn bytes ml ret R h0 ws fr Q K sf h k n pc Ls st :=
  g_pure (fun T t H hx k e => by subst hp e hv; exact XS.bipush H hx rfl hd k) G
theorem g_sipush {i : Int} {v : Int32} (hd : decode bytes pc = .ok (.sipush i, 3)) (hv : (Int16.ofInt i).toInt32 = v) (hp : pc + 3 = pc') (G : Go l Z n0 EL mn bytes ml ret R h0 ws fr Q K sf h k n pc' Ls (.int v :: st)) : Go l Z n0 EL mn bytes ml ret R h0 ws fr Q K sf h k n pc Ls st :=
  g_pure (fun T t H hx k e => by subst hp e hv; exact XS.sipush H hx rfl hd k) G
theorem g_lconst {i : Fin 2} {v : Int64} (hd : decode bytes pc = .ok (.lconst i, 1)) (hv : Int64.ofNat i = v) (hp : pc + 1 = pc') (G : Go l Z n0 EL mn bytes ml ret R h0 ws fr Q K sf h k n pc' Ls (.long v :: st)) : Go l Z n0 EL mn bytes ml ret R h0 ws fr Q K sf h k n pc Ls st :=
  g_pure (fun T t H hx k e => by subst hp e hv; exact XS.lconst H hx rfl hd k) G
theorem g_null (hd : decode bytes pc = .ok (.aconst_null, 1)) (hp : pc + 1 = pc') (G : Go l Z n0 EL mn bytes ml ret R h0 ws fr Q K sf h k n pc' Ls (.null :: st)) : Go l Z n0 EL mn bytes ml ret R h0 ws fr Q K sf h k n pc Ls st :=
  g_pure (fun T t H hx k e => by subst hp e; exact XS.aconstNull H hx rfl hd k) G
theorem g_dup {x : Value} (hd : decode bytes pc = .ok (.dup, 1)) (hc : x.category = 1) (hp : pc + 1 = pc') (G : Go l Z n0 EL mn bytes ml ret R h0 ws fr Q K sf h k n pc' Ls (x :: x :: st)) : Go l Z n0 EL mn bytes ml ret R h0 ws fr Q K sf h k n pc Ls (x :: st) :=
  g_pure (fun T t H hx k e => by subst hp e; exact XS.dup H hx rfl hd rfl hc k) G
theorem g_pop {x : Value} (hd : decode bytes pc = .ok (.pop, 1)) (hc : x.category = 1) (hp : pc + 1 = pc') (G : Go l Z n0 EL mn bytes ml ret R h0 ws fr Q K sf h k n pc' Ls st) : Go l Z n0 EL mn bytes ml ret R h0 ws fr Q K sf h k n pc Ls (x :: st) :=
  g_pure (fun T t H hx k e => by subst hp e; exact XS.pop H hx rfl hd rfl hc k) G
theorem g_dupx1 {x y : Value} (hd : decode bytes pc = .ok (.dup_x1, 1)) (hc : x.category = 1) (hc' : y.category = 1) (hp : pc + 1 = pc') (G : Go l Z n0 EL mn bytes ml ret R h0 ws fr Q K sf h k n pc' Ls (x :: y :: x :: st)) : Go l Z n0 EL mn bytes ml ret R h0 ws fr Q K sf h k n pc Ls (x :: y :: st) :=
  g_pure (fun T t H hx k e => by subst hp e; exact XT.dupX1 H hx rfl hd rfl hc hc' k) G
theorem g_icmp_eq_t {x y : Int32} {o : Int} (hd : decode bytes pc = .ok (.if_icmp .eq o, 3)) (hc : x = y) (ho : 0 ≤ (pc : Int) + o) (hp : ((pc : Int) + o).toNat = pc') (G : Go l Z n0 EL mn bytes ml ret R h0 ws fr Q K sf h k n pc' Ls st) : Go l Z n0 EL mn bytes ml ret R h0 ws fr Q K sf h k n pc Ls (.int y :: .int x :: st) :=
  g_pure (fun T t H hx k e => by subst e; exact XS.icmpYes H hx rfl rfl hd rfl (XT.ii_eq_t hc) ho hp k) G
theorem g_icmp_eq_f {x y : Int32} {o : Int} (hd : decode bytes pc = .ok (.if_icmp .eq o, 3)) (hc : ¬ x = y) (hp : pc + 3 = pc') (G : Go l Z n0 EL mn bytes ml ret R h0 ws fr Q K sf h k n pc' Ls st) : Go l Z n0 EL mn bytes ml ret R h0 ws fr Q K sf h k n pc Ls (.int y :: .int x :: st) :=
  g_pure (fun T t H hx k e => by subst hp e; exact XS.icmpNo H hx rfl hd rfl (XT.ii_eq_f hc) k) G
theorem g_if_eq_t {x : Int32} {o : Int} (hd : decode bytes pc = .ok (.ifCond .eq o, 3)) (hc : x = 0) (ho : 0 ≤ (pc : Int) + o) (hp : ((pc : Int) + o).toNat = pc') (G : Go l Z n0 EL mn bytes ml ret R h0 ws fr Q K sf h k n pc' Ls st) : Go l Z n0 EL mn bytes ml ret R h0 ws fr Q K sf h k n pc Ls (.int x :: st) :=
  g_pure (fun T t H hx k e => by subst e; exact XS.ifYes H hx rfl rfl hd rfl (XT.i0_eq_t hc) ho hp k) G
theorem g_if_eq_f {x : Int32} {o : Int} (hd : decode bytes pc = .ok (.ifCond .eq o, 3)) (hc : ¬ x = 0) (hp : pc + 3 = pc') (G : Go l Z n0 EL mn bytes ml ret R h0 ws fr Q K sf h k n pc' Ls st) : Go l Z n0 EL mn bytes ml ret R h0 ws fr Q K sf h k n pc Ls (.int x :: st) :=
  g_pure (fun T t H hx k e => by subst hp e; exact XS.ifNo H hx rfl hd rfl (XT.i0_eq_f hc) k) G
theorem g_icmp_ne_t {x y : Int32} {o : Int} (hd : decode bytes pc = .ok (.if_icmp .ne o, 3)) (hc : ¬ x = y) (ho : 0 ≤ (pc : Int) + o) (hp : ((pc : Int) + o).toNat = pc') (G : Go l Z n0 EL mn bytes ml ret R h0 ws fr Q K sf h k n pc' Ls st) : Go l Z n0 EL mn bytes ml ret R h0 ws fr Q K sf h k n pc Ls (.int y :: .int x :: st) :=
  g_pure (fun T t H hx k e => by subst e; exact XS.icmpYes H hx rfl rfl hd rfl (XT.ii_ne_t hc) ho hp k) G
theorem g_icmp_ne_f {x y : Int32} {o : Int} (hd : decode bytes pc = .ok (.if_icmp .ne o, 3)) (hc : x = y) (hp : pc + 3 = pc') (G : Go l Z n0 EL mn bytes ml ret R h0 ws fr Q K sf h k n pc' Ls st) : Go l Z n0 EL mn bytes ml ret R h0 ws fr Q K sf h k n pc Ls (.int y :: .int x :: st) :=
  g_pure (fun T t H hx k e => by subst hp e; exact XS.icmpNo H hx rfl hd rfl (XT.ii_ne_f hc) k) G
theorem g_if_ne_t {x : Int32} {o : Int} (hd : decode bytes pc = .ok (.ifCond .ne o, 3)) (hc : ¬ x = 0) (ho : 0 ≤ (pc : Int) + o) (hp : ((pc : Int) + o).toNat = pc') (G : Go l Z n0 EL mn bytes ml ret R h0 ws fr Q K sf h k n pc' Ls st) : Go l Z n0 EL mn bytes ml ret R h0 ws fr Q K sf h k n pc Ls (.int x :: st) :=
  g_pure (fun T t H hx k e => by subst e; exact XS.ifYes H hx rfl rfl hd rfl (XT.i0_ne_t hc) ho hp k) G
theorem g_if_ne_f {x : Int32} {o : Int} (hd : decode bytes pc = .ok (.ifCond .ne o, 3)) (hc : x = 0) (hp : pc + 3 = pc') (G : Go l Z n0 EL mn bytes ml ret R h0 ws fr Q K sf h k n pc' Ls st) : Go l Z n0 EL mn bytes ml ret R h0 ws fr Q K sf h k n pc Ls (.int x :: st) :=
  g_pure (fun T t H hx k e => by subst hp e; exact XS.ifNo H hx rfl hd rfl (XT.i0_ne_f hc) k) G
theorem g_icmp_lt_t {x y : Int32} {o : Int} (hd : decode bytes pc = .ok (.if_icmp .lt o, 3)) (hc : x < y) (ho : 0 ≤ (pc : Int) + o) (hp : ((pc : Int) + o).toNat = pc') (G : Go l Z n0 EL mn bytes ml ret R h0 ws fr Q K sf h k n pc' Ls st) : Go l Z n0 EL mn bytes ml ret R h0 ws fr Q K sf h k n pc Ls (.int y :: .int x :: st) :=
  g_pure (fun T t H hx k e => by subst e; exact XS.icmpYes H hx rfl rfl hd rfl (XT.ii_lt_t hc) ho hp k) G
theorem g_icmp_lt_f {x y : Int32} {o : Int} (hd : decode bytes pc = .ok (.if_icmp .lt o, 3)) (hc : ¬ x < y) (hp : pc + 3 = pc') (G : Go l Z n0 EL mn bytes ml ret R h0 ws fr Q K sf h k n pc' Ls st) : Go l Z n0 EL mn bytes ml ret R h0 ws fr Q K sf h k n pc Ls (.int y :: .int x :: st) :=
  g_pure (fun T t H hx k e => by subst hp e; exact XS.icmpNo H hx rfl hd rfl (XT.ii_lt_f hc) k) G
theorem g_if_lt_t {x : Int32} {o : Int} (hd : decode bytes pc = .ok (.ifCond .lt o, 3)) (hc : x < 0) (ho : 0 ≤ (pc : Int) + o) (hp : ((pc : Int) + o).toNat = pc') (G : Go l Z n0 EL mn bytes ml ret R h0 ws fr Q K sf h k n pc' Ls st) : Go l Z n0 EL mn bytes ml ret R h0 ws fr Q K sf h k n pc Ls (.int x :: st) :=
  g_pure (fun T t H hx k e => by subst e; exact XS.ifYes H hx rfl rfl hd rfl (XT.i0_lt_t hc) ho hp k) G
theorem g_if_lt_f {x : Int32} {o : Int} (hd : decode bytes pc = .ok (.ifCond .lt o, 3)) (hc : ¬ x < 0) (hp : pc + 3 = pc') (G : Go l Z n0 EL mn bytes ml ret R h0 ws fr Q K sf h k n pc' Ls st) : Go l Z n0 EL mn bytes ml ret R h0 ws fr Q K sf h k n pc Ls (.int x :: st) :=
  g_pure (fun T t H hx k e => by subst hp e; exact XS.ifNo H hx rfl hd rfl (XT.i0_lt_f hc) k) G
theorem g_icmp_ge_t {x y : Int32} {o : Int} (hd : decode bytes pc = .ok (.if_icmp .ge o, 3)) (hc : ¬ x < y) (ho : 0 ≤ (pc : Int) + o) (hp : ((pc : Int) + o).toNat = pc') (G : Go l Z n0 EL mn bytes ml ret R h0 ws fr Q K sf h k n pc' Ls st) : Go l Z n0 EL mn bytes ml ret R h0 ws fr Q K sf h k n pc Ls (.int y :: .int x :: st) :=
  g_pure (fun T t H hx k e => by subst e; exact XS.icmpYes H hx rfl rfl hd rfl (XT.ii_ge_t hc) ho hp k) G
theorem g_icmp_ge_f {x y : Int32} {o : Int} (hd : decode bytes pc = .ok (.if_icmp .ge o, 3)) (hc : x < y) (hp : pc + 3 = pc') (G : Go l Z n0 EL mn bytes ml ret R h0 ws fr Q K sf h k n pc' Ls st) : Go l Z n0 EL mn bytes ml ret R h0 ws fr Q K sf h k n pc Ls (.int y :: .int x :: st) :=
  g_pure (fun T t H hx k e => by subst hp e; exact XS.icmpNo H hx rfl hd rfl (XT.ii_ge_f hc) k) G
theorem g_if_ge_t {x : Int32} {o : Int} (hd : decode bytes pc = .ok (.ifCond .ge o, 3)) (hc : ¬ x < 0) (ho : 0 ≤ (pc : Int) + o) (hp : ((pc : Int) + o).toNat = pc') (G : Go l Z n0 EL mn bytes ml ret R h0 ws fr Q K sf h k n pc' Ls st) : Go l Z n0 EL mn bytes ml ret R h0 ws fr Q K sf h k n pc Ls (.int x :: st) :=
  g_pure (fun T t H hx k e => by subst e; exact XS.ifYes H hx rfl rfl hd rfl (XT.i0_ge_t hc) ho hp k) G
theorem g_if_ge_f {x : Int32} {o : Int} (hd : decode bytes pc = .ok (.ifCond .ge o, 3)) (hc : x < 0) (hp : pc + 3 = pc') (G : Go l Z n0 EL mn bytes ml ret R h0 ws fr Q K sf h k n pc' Ls st) : Go l Z n0 EL mn bytes ml ret R h0 ws fr Q K sf h k n pc Ls (.int x :: st) :=
  g_pure (fun T t H hx k e => by subst hp e; exact XS.ifNo H hx rfl hd rfl (XT.i0_ge_f hc) k) G
theorem g_icmp_gt_t {x y : Int32} {o : Int} (hd : decode bytes pc = .ok (.if_icmp .gt o, 3)) (hc : y < x) (ho : 0 ≤ (pc : Int) + o) (hp : ((pc : Int) + o).toNat = pc') (G : Go l Z n0 EL mn bytes ml ret R h0 ws fr Q K sf h k n pc' Ls st) : Go l Z n0 EL mn bytes ml ret R h0 ws fr Q K sf h k n pc Ls (.int y :: .int x :: st) :=
  g_pure (fun T t H hx k e => by subst e; exact XS.icmpYes H hx rfl rfl hd rfl (XT.ii_gt_t hc) ho hp k) G
theorem g_icmp_gt_f {x y : Int32} {o : Int} (hd : decode bytes pc = .ok (.if_icmp .gt o, 3)) (hc : ¬ y < x) (hp : pc + 3 = pc') (G : Go l Z n0 EL mn bytes ml ret R h0 ws fr Q K sf h k n pc' Ls st) : Go l Z n0 EL mn bytes ml ret R h0 ws fr Q K sf h k n pc Ls (.int y :: .int x :: st) :=
  g_pure (fun T t H hx k e => by subst hp e; exact XS.icmpNo H hx rfl hd rfl (XT.ii_gt_f hc) k) G
theorem g_if_gt_t {x : Int32} {o : Int} (hd : decode bytes pc = .ok (.ifCond .gt o, 3)) (hc : 0 < x) (ho : 0 ≤ (pc : Int) + o) (hp : ((pc : Int) + o).toNat = pc') (G : Go l Z n0 EL mn bytes ml ret R h0 ws fr Q K sf h k n pc' Ls st) : Go l Z n0 EL mn bytes ml ret R h0 ws fr Q K sf h k n pc Ls (.int x :: st) :=
  g_pure (fun T t H hx k e => by subst e; exact XS.ifYes H hx rfl rfl hd rfl (XT.i0_gt_t hc) ho hp k) G
theorem g_if_gt_f {x : Int32} {o : Int} (hd : decode bytes pc = .ok (.ifCond .gt o, 3)) (hc : ¬ 0 < x) (hp : pc + 3 = pc') (G : Go l Z n0 EL mn bytes ml ret R h0 ws fr Q K sf h k n pc' Ls st) : Go l Z n0 EL mn bytes ml ret R h0 ws fr Q K sf h k n pc Ls (.int x :: st) :=
  g_pure (fun T t H hx k e => by subst hp e; exact XS.ifNo H hx rfl hd rfl (XT.i0_gt_f hc) k) G
theorem g_icmp_le_t {x y : Int32} {o : Int} (hd : decode bytes pc = .ok (.if_icmp .le o, 3)) (hc : ¬ y < x) (ho : 0 ≤ (pc : Int) + o) (hp : ((pc : Int) + o).toNat = pc') (G : Go l Z n0 EL mn bytes ml ret R h0 ws fr Q K sf h k n pc' Ls st) : Go l Z n0 EL mn bytes ml ret R h0 ws fr Q K sf h k n pc Ls (.int y :: .int x :: st) :=
  g_pure (fun T t H hx k e => by subst e; exact XS.icmpYes H hx rfl rfl hd rfl (XT.ii_le_t hc) ho hp k) G
theorem g_icmp_le_f {x y : Int32} {o : Int} (hd : decode bytes pc = .ok (.if_icmp .le o, 3)) (hc : y < x) (hp : pc + 3 = pc') (G : Go l Z n0 EL mn bytes ml ret R h0 ws fr Q K sf h k n pc' Ls st) : Go l Z n0 EL mn bytes ml ret R h0 ws fr Q K sf h k n pc Ls (.int y :: .int x :: st) :=
  g_pure (fun T t H hx k e => by subst hp e; exact XS.icmpNo H hx rfl hd rfl (XT.ii_le_f hc) k) G
theorem g_if_le_t {x : Int32} {o : Int} (hd : decode bytes pc = .ok (.ifCond .le o, 3)) (hc : ¬ 0 < x) (ho : 0 ≤ (pc : Int) + o) (hp : ((pc : Int) + o).toNat = pc') (G : Go l Z n0 EL mn bytes ml ret R h0 ws fr Q K sf h k n pc' Ls st) : Go l Z n0 EL mn bytes ml ret R h0 ws fr Q K sf h k n pc Ls (.int x :: st) :=
  g_pure (fun T t H hx k e => by subst e; exact XS.ifYes H hx rfl rfl hd rfl (XT.i0_le_t hc) ho hp k) G
theorem g_if_le_f {x : Int32} {o : Int} (hd : decode bytes pc = .ok (.ifCond .le o, 3)) (hc : 0 < x) (hp : pc + 3 = pc') (G : Go l Z n0 EL mn bytes ml ret R h0 ws fr Q K sf h k n pc' Ls st) : Go l Z n0 EL mn bytes ml ret R h0 ws fr Q K sf h k n pc Ls (.int x :: st) :=
  g_pure (fun T t H hx k e => by subst hp e; exact XS.ifNo H hx rfl hd rfl (XT.i0_le_f hc) k) G
theorem g_acmp_eq_t {x y : Value} {o : Int} (hd : decode bytes pc = .ok (.if_acmp .eq o, 3)) (hx' : x.isRef = true) (hy' : y.isRef = true) (hc : x = y) (ho : 0 ≤ (pc : Int) + o) (hp : ((pc : Int) + o).toNat = pc') (G : Go l Z n0 EL mn bytes ml ret R h0 ws fr Q K sf h k n pc' Ls st) : Go l Z n0 EL mn bytes ml ret R h0 ws fr Q K sf h k n pc Ls (y :: x :: st) :=
  g_pure (fun T t H hx k e => by subst e; exact XT.acmpYes H hx rfl rfl hd rfl hx' hy' (XT.aa_eq_t hc) ho hp k) G
theorem g_acmp_eq_f {x y : Value} {o : Int} (hd : decode bytes pc = .ok (.if_acmp .eq o, 3)) (hx' : x.isRef = true) (hy' : y.isRef = true) (hc : ¬ x = y) (hp : pc + 3 = pc') (G : Go l Z n0 EL mn bytes ml ret R h0 ws fr Q K sf h k n pc' Ls st) : Go l Z n0 EL mn bytes ml ret R h0 ws fr Q K sf h k n pc Ls (y :: x :: st) :=
  g_pure (fun T t H hx k e => by subst hp e; exact XT.acmpNo H hx rfl hd rfl hx' hy' (XT.aa_eq_f hc) k) G
theorem g_acmp_ne_t {x y : Value} {o : Int} (hd : decode bytes pc = .ok (.if_acmp .ne o, 3)) (hx' : x.isRef = true) (hy' : y.isRef = true) (hc : ¬ x = y) (ho : 0 ≤ (pc : Int) + o) (hp : ((pc : Int) + o).toNat = pc') (G : Go l Z n0 EL mn bytes ml ret R h0 ws fr Q K sf h k n pc' Ls st) : Go l Z n0 EL mn bytes ml ret R h0 ws fr Q K sf h k n pc Ls (y :: x :: st) :=
  g_pure (fun T t H hx k e => by subst e; exact XT.acmpYes H hx rfl rfl hd rfl hx' hy' (XT.aa_ne_t hc) ho hp k) G
theorem g_acmp_ne_f {x y : Value} {o : Int} (hd : decode bytes pc = .ok (.if_acmp .ne o, 3)) (hx' : x.isRef = true) (hy' : y.isRef = true) (hc : x = y) (hp : pc + 3 = pc') (G : Go l Z n0 EL mn bytes ml ret R h0 ws fr Q K sf h k n pc' Ls st) : Go l Z n0 EL mn bytes ml ret R h0 ws fr Q K sf h k n pc Ls (y :: x :: st) :=
  g_pure (fun T t H hx k e => by subst hp e; exact XT.acmpNo H hx rfl hd rfl hx' hy' (XT.aa_ne_f hc) k) G
theorem g_ifnull_t {o : Int} (hd : decode bytes pc = .ok (.ifnull o, 3)) (ho : 0 ≤ (pc : Int) + o) (hp : ((pc : Int) + o).toNat = pc') (G : Go l Z n0 EL mn bytes ml ret R h0 ws fr Q K sf h k n pc' Ls st) : Go l Z n0 EL mn bytes ml ret R h0 ws fr Q K sf h k n pc Ls (.null :: st) :=
  g_pure (fun T t H hx k e => by subst e; exact XS.ifnullYes H hx rfl rfl hd rfl ho hp k) G
theorem g_ifnull_f {b : Addr} {o : Int} (hd : decode bytes pc = .ok (.ifnull o, 3)) (hp : pc + 3 = pc') (G : Go l Z n0 EL mn bytes ml ret R h0 ws fr Q K sf h k n pc' Ls st) : Go l Z n0 EL mn bytes ml ret R h0 ws fr Q K sf h k n pc Ls (.ref b :: st) :=
  g_pure (fun T t H hx k e => by subst hp e; exact XS.ifnullNo H hx rfl hd rfl k) G
theorem g_ifnonnull_t {b : Addr} {o : Int} (hd : decode bytes pc = .ok (.ifnonnull o, 3)) (ho : 0 ≤ (pc : Int) + o) (hp : ((pc : Int) + o).toNat = pc') (G : Go l Z n0 EL mn bytes ml ret R h0 ws fr Q K sf h k n pc' Ls st) : Go l Z n0 EL mn bytes ml ret R h0 ws fr Q K sf h k n pc Ls (.ref b :: st) :=
  g_pure (fun T t H hx k e => by subst e; exact XS.ifnonnullYes H hx rfl rfl hd rfl ho hp k) G
theorem g_ifnonnull_f {o : Int} (hd : decode bytes pc = .ok (.ifnonnull o, 3)) (hp : pc + 3 = pc') (G : Go l Z n0 EL mn bytes ml ret R h0 ws fr Q K sf h k n pc' Ls st) : Go l Z n0 EL mn bytes ml ret R h0 ws fr Q K sf h k n pc Ls (.null :: st) :=
  g_pure (fun T t H hx k e => by subst hp e; exact XS.ifnonnullNo H hx rfl hd rfl k) G
theorem g_goto {o : Int} (hd : decode bytes pc = .ok (.goto o, 3)) (ho : 0 ≤ (pc : Int) + o) (hp : ((pc : Int) + o).toNat = pc') (G : Go l Z n0 EL mn bytes ml ret R h0 ws fr Q K sf h k n pc' Ls st) : Go l Z n0 EL mn bytes ml ret R h0 ws fr Q K sf h k n pc Ls st :=
  g_pure (fun T t H hx k e => by subst e; exact XS.goto H hx rfl rfl hd ho hp k) G
theorem g_ldcI {idx : Nat} {v : Int32} (hd : decode bytes pc = .ok (.ldc idx, 2)) (w : (Jvm.Cond.constant mn.cls idx v).before a0 Z = true) (hp : pc + 2 = pc') (G : Go l Z n0 EL mn bytes ml ret R h0 ws fr Q K sf h k n pc' Ls (.int v :: st)) : Go l Z n0 EL mn bytes ml ret R h0 ws fr Q K sf h k n pc Ls st :=
  g_law (fun s' T locs hx hb hml hown hnm hZ X e ho => ⟨T, X, e, fun t s => by subst hb hp; exact X.ldcInt hx hown (mvT hZ w) (g := mkF (km K) pc Ls st) rfl hd t s⟩) G
theorem g_ldcwI {idx : Nat} {v : Int32} (hd : decode bytes pc = .ok (.ldc_w idx, 3)) (w : (Jvm.Cond.constant mn.cls idx v).before a0 Z = true) (hp : pc + 3 = pc') (G : Go l Z n0 EL mn bytes ml ret R h0 ws fr Q K sf h k n pc' Ls (.int v :: st)) : Go l Z n0 EL mn bytes ml ret R h0 ws fr Q K sf h k n pc Ls st :=
  g_law (fun s' T locs hx hb hml hown hnm hZ X e ho => ⟨T, X, e, fun t s => by subst hb hp; exact X.ldcwInt hx hown (mvT hZ w) (g := mkF (km K) pc Ls st) rfl hd t s⟩) G
theorem g_ldcJ {idx : Nat} {v : Int64} (hd : decode bytes pc = .ok (.ldc2_w idx, 3)) (w : (Jvm.Cond.constantLong mn.cls idx v).before a0 Z = true) (hp : pc + 3 = pc') (G : Go l Z n0 EL mn bytes ml ret R h0 ws fr Q K sf h k n pc' Ls (.long v :: st)) : Go l Z n0 EL mn bytes ml ret R h0 ws fr Q K sf h k n pc Ls st :=
  g_law (fun s' T locs hx hb hml hown hnm hZ X e ho => ⟨T, X, e, fun t s => by subst hb hp; exact X.ldc2Long hx hown (mvT hZ w) (g := mkF (km K) pc Ls st) rfl hd t s⟩) G
theorem g_getF {idx : Nat} {R0 O nm d : String} {a : Addr} {v : Value} (hd : decode bytes pc = .ok (.getfield idx, 3)) (w : (Jvm.Cond.fieldLink mn.cls idx R0 nm d).before a0 Z = true) (via : Via Z R0 O nm d) (F : Fld Z h a O nm d v) (hp : pc + 3 = pc') (G : Go l Z n0 EL mn bytes ml ret R h0 ws fr Q K sf h k n pc' Ls (v :: st)) : Go l Z n0 EL mn bytes ml ret R h0 ws fr Q K sf h k n pc Ls (.ref a :: st) :=
  g_law (fun s' T locs hx hb hml hown hnm hZ X e ho => by
    subst hb hp
    exact getF X hx hZ hown (host := "") (Or.inl w) via e F (g := mkF (km K) pc Ls (.ref a :: st)) rfl rfl hd) G
theorem g_getS {idx : Nat} {R0 O nm d : String} {v : Value} (hd : decode bytes pc = .ok (.getstatic idx, 3)) (w : (Jvm.Cond.fieldLink mn.cls idx R0 nm d).before a0 Z = true) (via : Via Z R0 O nm d) (F : Sta Z Z.heap O nm d v) (hp : pc + 3 = pc') (G : Go l Z n0 EL mn bytes ml ret R h0 ws fr Q K sf h k n pc' Ls (v :: st)) : Go l Z n0 EL mn bytes ml ret R h0 ws fr Q K sf h k n pc Ls st :=
  g_law (fun s' T locs hx hb hml hown hnm hZ X e ho => by
    subst hb hp
    exact getS X hx hZ hown (host := "") w via e (F.ext ho.2) (g := mkF (km K) pc Ls st) rfl hd) G
theorem g_putF {idx kk : Nat} {R0 O nm d C : String} {ty : FieldType} {a : Addr} {v v' old : Value} (hd : decode bytes pc = .ok (.putfield idx, 3)) (w : (Jvm.Cond.fieldLink mn.cls idx R0 nm d).before a0 Z = true) (via : Via Z R0 O nm d) (F : Fld Z h a O nm d old) (E : Exa Z h a C)
    (L : (Jvm.Cond.lays C O nm d).before a0 Z = true ∨ ((Jvm.Cond.laysFinal C O nm d).before a0 Z = true ∧ mn.cls = O ∧ mn.name = "<init>")) (wi : (Jvm.Cond.instantiable C kk).before a0 Z = true) (hty : parseFieldDescriptor d = some ty) (hn : narrow ty v = v') (hf : fits ty v' = true)
    (hin : a ∈ ws ∨ h0.size ≤ a) (hsf : a ∈ sf) (hp : pc + 3 = pc') (G : ∀ h', Wr h h' a (Jvm.RoadKit.slotOf Z O nm d) v' → Go l Z n0 EL mn bytes ml ret R h0 ws fr Q K sf h' k n pc' Ls st) : Go l Z n0 EL mn bytes ml ret R h0 ws fr Q K sf h k n pc Ls (v :: .ref a :: st) :=
  g_wr (fun s' T locs hx hb hml hown hnm hZ X e ho => by
    subst hb hp
    exact putFN X hx hZ hown w via e F E (L.imp id fun q => ⟨q.1, q.2.1, hnm.trans q.2.2⟩) wi hty hn hf (g := mkF (km K) pc Ls (v :: .ref a :: st)) rfl rfl hd) hin hsf G
theorem g_new {idx c : Nat} {C : String} (hd : decode bytes pc = .ok (.new idx, 3)) (w : (Jvm.Cond.classLink mn.cls idx C).before a0 Z = true) (wi : (Jvm.Cond.instantiable C c).before a0 Z = true) (wz : (Jvm.Cond.initialized C).before a0 Z = true) (hk : k + 1 ≤ R.cells) (hl : n + c ≤ R.slots) (hp : pc + 3 = pc')
    (G : ∀ a h', a = h.size → Keep h h' [] → Exa Z h' a C → (∀ {O nm d : String} {ty : FieldType}, Laid Z a0 C O nm d → parseFieldDescriptor d = some ty → Fld Z h' a O nm d (defaultValue ty)) → h0.size ≤ a → Go l Z n0 EL mn bytes ml ret R h0 ws fr Q K (a :: sf) h' (k + 1) (n + c) pc' Ls (.ref a :: st)) : Go l Z n0 EL mn bytes ml ret R h0 ws fr Q K sf h k n pc Ls st :=
  g_ext (P := fun h' => Exa Z h' h.size C ∧ ∀ {O nm d : String} {ty : FieldType}, Laid Z a0 C O nm d → parseFieldDescriptor d = some ty → Fld Z h' h.size O nm d (defaultValue ty)) (fun s' T locs hx hb hml hown hnm hZ X e ho => by
    subst hb hp
    obtain ⟨T', h', X', e', E, A, D, -, S⟩ := newO X hx hZ hown w wi wz e (g := mkF (km K) pc Ls st) rfl hd hk hl
    exact ⟨T', h', X', e', E, A.lt, ⟨A, D⟩, S⟩) (fun h' E q hsz => G _ h' rfl ((Keep.refl _ _).ext E) q.1 q.2 hsz)
theorem g_initO {idx W : Nat} {a : Addr} (hd : decode bytes pc = .ok (.invokespecial idx, 3)) (w1 : (Jvm.Cond.methodLink mn.cls idx Lib.objectInit).before a0 Z = true) (w2 : (Jvm.Cond.instanceMethod Lib.objectInit).before a0 Z = true) (w3 : (Jvm.Cond.code Lib.objectInit ⟨#[0xb1]⟩ 1 none).before a0 Z = true)
    (hsz : Ls.size = ml) (hf : 1 ≤ R.frames) (hW : (st.map fun v => v.category).sum ≤ W) (hl : W + 12 ≤ R.locals) (hp : pc + 3 = pc') (G : Go l Z n0 EL mn bytes ml ret R h0 ws fr Q K sf h k n pc' Ls st) : Go l Z n0 EL mn bytes ml ret R h0 ws fr Q K sf h k n pc Ls (.ref a :: st) :=
  g_law (fun s' T locs hx hb hml hown hnm hZ X e ho => by
    subst hb hp
    exact initO X hx hZ hown w1 w2 w3 e (g := mkF (km K) pc Ls (.ref a :: st)) rfl (hsz.trans hml.symm) rfl hd hf (W := W) (by show 2 * 0 + _ ≤ _; omega) hl) G
theorem g_cast {idx : Nat} {C : String} {a : Addr} (hd : decode bytes pc = .ok (.checkcast idx, 3)) (w : (Jvm.Cond.classLink mn.cls idx C).before a0 Z = true) (F : Ins Z h a C true) (hp : pc + 3 = pc') (G : Go l Z n0 EL mn bytes ml ret R h0 ws fr Q K sf h k n pc' Ls (.ref a :: st)) : Go l Z n0 EL mn bytes ml ret R h0 ws fr Q K sf h k n pc Ls (.ref a :: st) :=
  g_law (fun s' T locs hx hb hml hown hnm hZ X e ho => by
    subst hb hp
    exact castY X hx hZ hown w e F (g := mkF (km K) pc Ls (.ref a :: st)) rfl rfl hd) G
theorem g_instY {idx : Nat} {C : String} {a : Addr} (hd : decode bytes pc = .ok (.instanceof idx, 3)) (w : (Jvm.Cond.classLink mn.cls idx C).before a0 Z = true) (F : Ins Z h a C true) (hp : pc + 3 = pc') (G : Go l Z n0 EL mn bytes ml ret R h0 ws fr Q K sf h k n pc' Ls (.int 1 :: st)) : Go l Z n0 EL mn bytes ml ret R h0 ws fr Q K sf h k n pc Ls (.ref a :: st) :=
  g_law (fun s' T locs hx hb hml hown hnm hZ X e ho => by
    subst hb hp
    exact instY X hx hZ hown w e F (g := mkF (km K) pc Ls (.ref a :: st)) rfl rfl hd) G
theorem g_instN {idx : Nat} {C C' : String} {a : Addr} (hd : decode bytes pc = .ok (.instanceof idx, 3)) (w : (Jvm.Cond.classLink mn.cls idx C).before a0 Z = true) (E : Exa Z h a C') (F : ∃ c t, Z.vm.findClass C' = some c ∧ Z.vm.findClass C = some t ∧ Z.vm.assignable c t = false) (hp : pc + 3 = pc') (G : Go l Z n0 EL mn bytes ml ret R h0 ws fr Q K sf h k n pc' Ls (.int 0 :: st)) : Go l Z n0 EL mn bytes ml ret R h0 ws fr Q K sf h k n pc Ls (.ref a :: st) :=
  g_law (fun s' T locs hx hb hml hown hnm hZ X e ho => by
    subst hb hp
    exact instNo X hx hZ hown w e E F (g := mkF (km K) pc Ls (.ref a :: st)) rfl rfl hd) G
/-- an array of kind ty that holds the list vs -/
def Ia (Z : State) (h : Heap) (a : Addr) (ty : FieldType) (vs : List Int32) : Prop := ∃ c : Cell, Arr Z h a c ty ∧ c.slots.toList = vs.map Value.int ∧ vs.length < 2 ^ 31 ∧ ∀ v ∈ vs, fits ty (.int v) = true
theorem Ia.keep {h' : Heap} {a : Addr} {ty : FieldType} {vs : List Int32} (A : Ia Z h a ty vs) (Kp : Keep h h' ws) (q : a ∉ ws) : Ia Z h' a ty vs := by obtain ⟨c, A, r⟩ := A; exact ⟨c, ⟨Kp.2.1 a c A.1 q, A.2⟩, r⟩
theorem Ia.lt {a : Addr} {ty : FieldType} {vs : List Int32} (A : Ia Z h a ty vs) : a < h.size := by obtain ⟨c, A, r⟩ := A; exact A.lt
theorem Ia.arv {a : Addr} {ty : FieldType} {vs : List Int32} (A : Ia Z h a ty vs) : ∃ k, Arv Z h a k ty (Int32.ofNat vs.length) (vs.map Value.int) (.int 0) := by
  obtain ⟨c, A, e, hl, hf⟩ := A
  have es : c.slots.size = vs.length := by rw [← Array.length_toList, e, List.length_map]
  have ei : (Int32.ofNat vs.length).toInt = vs.length := Int32.toInt_ofNat_of_lt hl
  refine ⟨c.cls, c, A, rfl, ?_, ?_, fun i hi => ?_, fun i hi => ?_⟩
  · rw [es, Int32.toNatClampNeg, ei]; rfl
  · rw [Int32.lt_iff_toInt_lt, ei]; exact fun q => by have : (0 : Int32).toInt = 0 := rfl; omega
  · have hi' : i < vs.length := es ▸ hi
    rw [← Array.getElem?_toList, e]; simp [List.getD_eq_getElem?_getD, hi']
  · have hi' : i < vs.length := es ▸ hi
    simp only [List.getD_eq_getElem?_getD, List.getElem?_map, List.getElem?_eq_getElem hi', Option.map_some, Option.getD_some]
    exact hf _ (List.getElem_mem hi')
theorem ia_of {a : Addr} {kk : ClassId} {ty : FieldType} {z : Int32} {vs : List Int32} {us : List Value} {d : Value} (A : Arv Z h a kk ty z us d) (e : us = vs.map Value.int) (hz : z.toNatClampNeg = vs.length) : Ia Z h a ty vs := by
  obtain ⟨c, A, -, hs, h0', H, F⟩ := A
  have es : c.slots.size = vs.length := hs.trans hz
  subst e
  have hl : vs.length < 2 ^ 31 := by have := z.toInt_lt; rw [← hz, Int32.toNatClampNeg]; omega
  refine ⟨c, A, ?_, hl, fun v hv => ?_⟩
  · refine List.ext_getElem? fun i => ?_
    rw [Array.getElem?_toList]
    by_cases q : i < vs.length
    · rw [H i (es ▸ q)]; simp [List.getD_eq_getElem?_getD, q]
    · rw [Array.getElem?_eq_none (by omega)]; simp [q]
  · obtain ⟨i, hi, rfl⟩ := List.mem_iff_getElem.mp hv
    have := F i (es ▸ hi)
    simpa [List.getD_eq_getElem?_getD, hi] using this
theorem Ia.fits {a : Addr} {ty : FieldType} {vs : List Int32} (A : Ia Z h a ty vs) : ∀ v ∈ vs, Jvm.fits ty (.int v) = true := by obtain ⟨c, A, r⟩ := A; exact r.2.2
theorem Ia.short {a : Addr} {ty : FieldType} {vs : List Int32} (A : Ia Z h a ty vs) : vs.length < 2 ^ 31 := by obtain ⟨c, A, r⟩ := A; exact r.2.1
theorem g_newA {aty : ArrayType} {x : Int32} {cap : Nat} (hd : decode bytes pc = .ok (.newarray aty, 2)) (w : (Jvm.Cond.arrayClass (newarray.typeOf aty)).before a0 Z = true) (hz : defaultValue (newarray.typeOf aty) = .int 0) (hx0 : ¬ x < 0) (hcap : x.toNatClampNeg ≤ cap) (hb8 : cap * 8 ≤ 536870912) (hk : k + 1 ≤ R.cells) (hl : n + cap ≤ R.slots) (hp : pc + 2 = pc')
    (G : ∀ a h', a = h.size → Keep h h' [] → Ia Z h' a (newarray.typeOf aty) (List.replicate x.toNatClampNeg 0) → h0.size ≤ a → Go l Z n0 EL mn bytes ml ret R h0 ws fr Q K (a :: sf) h' (k + 1) (n + cap) pc' Ls (.ref a :: st)) : Go l Z n0 EL mn bytes ml ret R h0 ws fr Q K sf h k n pc Ls (.int x :: st) :=
  g_ext (P := fun h' => Ia Z h' h.size (newarray.typeOf aty) (List.replicate x.toNatClampNeg 0)) (fun s' T locs hx hb hml hown hnm hZ X e ho => by
    subst hb hp
    obtain ⟨T', h', cA, X', e', E, A, S⟩ := newP X hx hZ w e (g := mkF (km K) pc Ls (.int x :: st)) rfl hd rfl hx0 hcap hb8 hk hl
    have V := Arv.new A hx0
    rw [hz] at V
    exact ⟨T', h', X', e', E, A.lt, ia_of (vs := List.replicate x.toNatClampNeg 0) (V.pad (pad_rep [] (.int 0) x.toNatClampNeg)) (by simp) (by simp), S⟩) (fun h' E q hsz => G _ h' rfl ((Keep.refl _ _).ext E) q hsz)
theorem ia_inb {vs : List Int32} {j : Int32} {i : Nat} {c : Cell} (e : c.slots.toList = vs.map Value.int) (h0 : ¬ j < 0) (hj : j.toNatClampNeg = i) (hi : i < vs.length) : ¬ (j < 0 ∨ c.slots.size ≤ j.toNatClampNeg) := by
  have es : c.slots.size = vs.length := by rw [← Array.length_toList, e, List.length_map]
  rintro (q | q)
  · exact h0 q
  · omega
theorem ia_get {vs : List Int32} {i : Nat} {x : Int32} {c : Cell} (e : c.slots.toList = vs.map Value.int) (hi : vs[i]? = some x) : c.slots[i]? = some (.int x) := by
  rw [← Array.getElem?_toList, e, List.getElem?_map, hi]; rfl
theorem ia_put {h' : Heap} {a : Addr} {ty : FieldType} {vs : List Int32} {i : Nat} {x : Int32} (A : Ia Z h a ty vs) (W : Wr h h' a i (.int x)) (hx : Jvm.fits ty (.int x) = true) : Ia Z h' a ty (vs.set i x) := by
  obtain ⟨c, A, e, hs, hf⟩ := A
  refine ⟨_, A.same W, ?_, by simpa using hs, fun v hv => ?_⟩
  · rw [Cell.setSlot, Array.toList_setIfInBounds, e, List.map_set]
  · rcases List.mem_or_eq_of_mem_set hv with q | rfl
    · exact hf v q
    · exact hx
theorem g_caload {a : Addr} {vs : List Int32} {j x : Int32} {i : Nat} (hd : decode bytes pc = .ok (.caload, 1)) (A : Ia Z h a .char vs) (hj0 : ¬ j < 0) (hj : j.toNatClampNeg = i) (hi : vs[i]? = some x) (hp : pc + 1 = pc') (G : Go l Z n0 EL mn bytes ml ret R h0 ws fr Q K sf h k n pc' Ls (.int x :: st)) : Go l Z n0 EL mn bytes ml ret R h0 ws fr Q K sf h k n pc Ls (.int j :: .ref a :: st) :=
  g_law (fun s' T locs hx hb hml hown hnm hZ X e ho => ⟨T, X, e, fun t s => by
    subst hb hp
    obtain ⟨c, A1, A2, A3, A4⟩ := A
    exact X.caload hx (j := j) (v := .int x) (by rw [e]; exact A1.1) (State.isArrayOf_alike hZ.alike A1.2.1) A1.2.2 (ia_inb A2 hj0 hj (List.getElem?_eq_some_iff.mp hi).1) (by rw [hj]; exact ia_get A2 hi) (g := mkF (km K) pc Ls (.int j :: .ref a :: st)) rfl rfl hd t s⟩) G
theorem g_baload {a : Addr} {vs : List Int32} {j x : Int32} {i : Nat} (hd : decode bytes pc = .ok (.baload, 1)) (A : Ia Z h a .byte vs) (hj0 : ¬ j < 0) (hj : j.toNatClampNeg = i) (hi : vs[i]? = some x) (hp : pc + 1 = pc') (G : Go l Z n0 EL mn bytes ml ret R h0 ws fr Q K sf h k n pc' Ls (.int x :: st)) : Go l Z n0 EL mn bytes ml ret R h0 ws fr Q K sf h k n pc Ls (.int j :: .ref a :: st) :=
  g_law (fun s' T locs hx hb hml hown hnm hZ X e ho => ⟨T, X, e, fun t s => by
    subst hb hp
    obtain ⟨c, A1, A2, A3, A4⟩ := A
    exact X.baloadBytes hx (j := j) (v := .int x) (by rw [e]; exact A1.1) (State.isArrayOf_alike hZ.alike A1.2.1) A1.2.2 (ia_inb A2 hj0 hj (List.getElem?_eq_some_iff.mp hi).1) (by rw [hj]; exact ia_get A2 hi) (g := mkF (km K) pc Ls (.int j :: .ref a :: st)) rfl rfl hd t s⟩) G
theorem g_iaload {a : Addr} {vs : List Int32} {j x : Int32} {i : Nat} (hd : decode bytes pc = .ok (.iaload, 1)) (A : Ia Z h a .int vs) (hj0 : ¬ j < 0) (hj : j.toNatClampNeg = i) (hi : vs[i]? = some x) (hp : pc + 1 = pc') (G : Go l Z n0 EL mn bytes ml ret R h0 ws fr Q K sf h k n pc' Ls (.int x :: st)) : Go l Z n0 EL mn bytes ml ret R h0 ws fr Q K sf h k n pc Ls (.int j :: .ref a :: st) :=
  g_law (fun s' T locs hx hb hml hown hnm hZ X e ho => ⟨T, X, e, fun t s => by
    subst hb hp
    obtain ⟨c, A1, A2, A3, A4⟩ := A
    exact X.iaload hx (j := j) (v := .int x) (by rw [e]; exact A1.1) (State.isArrayOf_alike hZ.alike A1.2.1) A1.2.2 (ia_inb A2 hj0 hj (List.getElem?_eq_some_iff.mp hi).1) (by rw [hj]; exact ia_get A2 hi) (g := mkF (km K) pc Ls (.int j :: .ref a :: st)) rfl rfl hd t s⟩) G
theorem g_castore {a : Addr} {vs : List Int32} {j x : Int32} {i : Nat} (hd : decode bytes pc = .ok (.castore, 1)) (A : Ia Z h a .char vs) (hj0 : ¬ j < 0) (hj : j.toNatClampNeg = i) (hi : i < vs.length) (hin : a ∈ ws ∨ h0.size ≤ a) (hsf : a ∈ sf) (hp : pc + 1 = pc') (G : ∀ h', Keep h h' [a] → Ia Z h' a .char (vs.set i (nar .char x)) → Go l Z n0 EL mn bytes ml ret R h0 ws fr Q K sf h' k n pc' Ls st) : Go l Z n0 EL mn bytes ml ret R h0 ws fr Q K sf h k n pc Ls (.int x :: .int j :: .ref a :: st) :=
  g_wr (i := i) (v := .int (nar .char x)) (fun s' T locs hx hb hml hown hnm hZ X e ho => by
    subst hb hp hj
    obtain ⟨c, A1, A2, A3, A4⟩ := A
    exact stC X hx hZ e A1 (j := j) (ia_inb A2 hj0 rfl hi) (g := mkF (km K) pc Ls (.int x :: .int j :: .ref a :: st)) rfl rfl hd) hin hsf (fun h' W => G h' (Keep.of_wr W) (ia_put A W (fits_nar_char _)))
theorem g_bastore {a : Addr} {vs : List Int32} {j x : Int32} {i : Nat} (hd : decode bytes pc = .ok (.bastore, 1)) (A : Ia Z h a .byte vs) (hj0 : ¬ j < 0) (hj : j.toNatClampNeg = i) (hi : i < vs.length) (hin : a ∈ ws ∨ h0.size ≤ a) (hsf : a ∈ sf) (hp : pc + 1 = pc') (G : ∀ h', Keep h h' [a] → Ia Z h' a .byte (vs.set i (nar .byte x)) → Go l Z n0 EL mn bytes ml ret R h0 ws fr Q K sf h' k n pc' Ls st) : Go l Z n0 EL mn bytes ml ret R h0 ws fr Q K sf h k n pc Ls (.int x :: .int j :: .ref a :: st) :=
  g_wr (i := i) (v := .int (nar .byte x)) (fun s' T locs hx hb hml hown hnm hZ X e ho => by
    subst hb hp hj
    obtain ⟨c, A1, A2, A3, A4⟩ := A
    exact stB X hx hZ e A1 (j := j) (ia_inb A2 hj0 rfl hi) (g := mkF (km K) pc Ls (.int x :: .int j :: .ref a :: st)) rfl rfl hd) hin hsf (fun h' W => G h' (Keep.of_wr W) (ia_put A W (fits_nar_byte _)))
theorem g_iastore {a : Addr} {vs : List Int32} {j x : Int32} {i : Nat} (hd : decode bytes pc = .ok (.iastore, 1)) (A : Ia Z h a .int vs) (hj0 : ¬ j < 0) (hj : j.toNatClampNeg = i) (hi : i < vs.length) (hin : a ∈ ws ∨ h0.size ≤ a) (hsf : a ∈ sf) (hp : pc + 1 = pc') (G : ∀ h', Keep h h' [a] → Ia Z h' a .int (vs.set i x) → Go l Z n0 EL mn bytes ml ret R h0 ws fr Q K sf h' k n pc' Ls st) : Go l Z n0 EL mn bytes ml ret R h0 ws fr Q K sf h k n pc Ls (.int x :: .int j :: .ref a :: st) :=
  g_wr (i := i) (v := .int x) (fun s' T locs hx hb hml hown hnm hZ X e ho => by
    subst hb hp hj
    obtain ⟨c, A1, A2, A3, A4⟩ := A
    exact stI X hx hZ e A1 (j := j) (ia_inb A2 hj0 rfl hi) (g := mkF (km K) pc Ls (.int x :: .int j :: .ref a :: st)) rfl rfl hd) hin hsf (fun h' W => G h' (Keep.of_wr W) (ia_put A W rfl))
theorem nat_i32 {n : Nat} (h : n < 2 ^ 31) : (Int32.ofNat n).toNatClampNeg = n := by rw [Int32.toNatClampNeg, Int32.toInt_ofNat_of_lt h]; rfl
theorem g_acopy {idx W : Nat} {a b : Addr} {vs vd : List Int32} {sp dp nn : Int32} {i j m : Nat} (hd : decode bytes pc = .ok (.invokestatic idx, 3)) (w1 : (Jvm.Cond.methodLink mn.cls idx Jvm.Stand.acN).before a0 Z = true) (w2 : (Jvm.Cond.native Jvm.Stand.acN).before a0 Z = true) (w3 : (Jvm.Cond.static Jvm.Stand.acN).before a0 Z = true) (w4 : (Jvm.Cond.initialized "java/lang/System").before a0 Z = true)
    (A : Ia Z h a .byte vs) (B : Ia Z h b .byte vd) (h1 : ¬ sp < 0) (e1 : sp.toNatClampNeg = i) (h2 : ¬ dp < 0) (e2 : dp.toNatClampNeg = j) (h3 : ¬ nn < 0) (e3 : nn.toNatClampNeg = m) (h4 : i + m ≤ vs.length) (h5 : j + m ≤ vd.length)
    (hsz : Ls.size = ml) (hf : 1 ≤ R.frames) (hW : (st.map fun v => v.category).sum ≤ W) (hlo : W + (nativeFrameWords "java/lang/System" "arraycopy" 5 + 11) ≤ R.locals) (hin : h0.size ≤ b) (hsf : b ∈ sf) (hp : pc + 3 = pc')
    (G : ∀ h', Keep h h' [b] → Ia Z h' b .byte (vd.take j ++ (vs.drop i).take m ++ vd.drop (j + m)) → Go l Z n0 EL mn bytes ml ret R h0 [] fr Q K sf h' k n pc' Ls st) : Go l Z n0 EL mn bytes ml ret R h0 [] fr Q K sf h k n pc Ls (.int nn :: .int dp :: .ref b :: .int sp :: .ref a :: st) :=
  g_fr (P := fun h' => Ia Z h' b .byte (vd.take j ++ (vs.drop i).take m ++ vd.drop (j + m))) (b := b) (fun s' T locs hx hb hml hown hnm hZ X e ho N => by
    subst hb hp e1 e2 e3
    obtain ⟨kA, Av⟩ := A.arv
    obtain ⟨kB, Bv⟩ := B.arv
    obtain ⟨T', h', L, X', e', F, Kp, V, S⟩ := cpA X hx hZ hown w1 w2 w3 w4 e Av Bv (us := ((vs.drop sp.toNatClampNeg).take nn.toNatClampNeg).map Value.int) (Or.inl ⟨rfl, rfl⟩) h1 h2 h3 (by rw [nat_i32 A.short]; exact h4) (by rw [nat_i32 B.short]; exact h5)
      (by
        refine List.ext_getElem? fun q => ?_
        by_cases c1 : q < nn.toNatClampNeg
        · have c2 : sp.toNatClampNeg + q < vs.length := by omega
          simp [List.getElem?_take, c1, c2, List.getD_eq_getElem?_getD]
        · simp [List.getElem?_take, c1]) (by rw [List.length_map]; exact h5) N hin (g := mkF (km K) pc Ls (.int nn :: .int dp :: .ref b :: .int sp :: .ref a :: st)) rfl (hsz.trans hml.symm) rfl hd hf (W := W) (by show 2 * 0 + _ ≤ _; omega) hlo
    refine ⟨T', h', L, X', e', F, Kp, ia_of V (by simp [List.map_take, List.map_drop]) (by rw [nat_i32 B.short]; simp only [List.length_append, List.length_take, List.length_drop]; omega), S⟩) hsf G
theorem g_alen {a : Addr} {ty : FieldType} {vs : List Int32} {x : Int32} (hd : decode bytes pc = .ok (.arraylength, 1)) (A : Ia Z h a ty vs) (hv : Int32.ofNat vs.length = x) (hp : pc + 1 = pc') (G : Go l Z n0 EL mn bytes ml ret R h0 ws fr Q K sf h k n pc' Ls (.int x :: st)) : Go l Z n0 EL mn bytes ml ret R h0 ws fr Q K sf h k n pc Ls (.ref a :: st) :=
  g_law (fun s' T locs hx hb hml hown hnm hZ X e ho => ⟨T, X, e, fun t s => by
    subst hb hp hv
    obtain ⟨c, A1, A2, A3, A4⟩ := A
    have es : c.slots.size = vs.length := by rw [← Array.length_toList, A2, List.length_map]
    refine X.arraylength hx (by rw [e]; exact A1.1) (State.isArrayOf_alike hZ.alike A1.2.1) (g := mkF (km K) pc Ls (.ref a :: st)) rfl rfl hd t ?_
    rw [es]; exact s⟩) G
-- returns
theorem g_ireturn {x : Int32} (hd : decode bytes pc = .ok (.ireturn, 1)) (hr : ret = some .int) (hq : Q (.int x) h) (hk : k ≤ R.cells) (hn : n ≤ R.slots) : Go l Z n0 EL mn bytes ml ret R h0 ws fr Q K sf h k n pc Ls (.int x :: st) :=
  g_ret (w := .int x) (fun s' T locs hx hb X hret fs hl => by subst hb hr; exact retOut X hx hret rfl (Or.inl ⟨rfl, Or.inl rfl, x, rfl⟩) hd hl) hq (fun _ _ e => nomatch e) hk hn
theorem g_ireturnN {x z : Int32} {t : FieldType} (hd : decode bytes pc = .ok (.ireturn, 1)) (hr : ret = some t) (ht : t = .boolean ∨ t = .byte ∨ t = .char ∨ t = .short) (hz : nar t x = z) (hq : Q (.int z) h) (hk : k ≤ R.cells) (hn : n ≤ R.slots) : Go l Z n0 EL mn bytes ml ret R h0 ws fr Q K sf h k n pc Ls (.int x :: st) :=
  g_ret (w := .int z) (fun s' T locs hx hb X hret fs hl => by subst hb hr hz; exact retN X hx hret ht hd hl) hq (fun _ _ e => nomatch e) hk hn
theorem g_lreturn {x : Int64} (hd : decode bytes pc = .ok (.lreturn, 1)) (hr : ret = some .long) (hq : Q (.long x) h) (hk : k ≤ R.cells) (hn : n ≤ R.slots) : Go l Z n0 EL mn bytes ml ret R h0 ws fr Q K sf h k n pc Ls (.long x :: st) :=
  g_ret (w := .long x) (fun s' T locs hx hb X hret fs hl => by subst hb hr; exact retOut X hx hret rfl (Or.inr (Or.inl ⟨rfl, rfl, x, rfl⟩)) hd hl) hq (fun _ _ e => nomatch e) hk hn
theorem g_areturnF {x : Value} {t : FieldType} (hd : decode bytes pc = .ok (.areturn, 1)) (hr : ret = some t) (ht : t.isReference = true) (hv : x.isRef = true) (hq : Q x h) (hfr : fr = true → ∀ a, x = .ref a → a ∈ sf) (hk : k ≤ R.cells) (hn : n ≤ R.slots) : Go l Z n0 EL mn bytes ml ret R h0 ws fr Q K sf h k n pc Ls (x :: st) :=
  g_ret (w := x) (fun s' T locs hx hb X hret fs hl => by
    subst hb hr
    have hnw : narrow t x = x := by rcases ref_cases hv with rfl | ⟨b, rfl⟩ <;> cases t <;> first | rfl | cases ht
    exact retOut X hx hret hnw (Or.inr (Or.inr (Or.inr (Or.inr ⟨rfl, ht, hv⟩)))) hd hl) hq hfr hk hn
theorem g_areturn {x : Value} {t : FieldType} (hd : decode bytes pc = .ok (.areturn, 1)) (hr : ret = some t) (ht : t.isReference = true) (hv : x.isRef = true) (hq : Q x h) (hk : k ≤ R.cells) (hn : n ≤ R.slots) (hfr : fr = false := by rfl) : Go l Z n0 EL mn bytes ml ret R h0 ws fr Q K sf h k n pc Ls (x :: st) :=
  g_areturnF hd hr ht hv hq (fun q => by rw [hfr] at q; cases q) hk hn
theorem g_return (hd : decode bytes pc = .ok (.return_, 1)) (hr : ret = none) (hq : Q .null h) (hk : k ≤ R.cells) (hn : n ≤ R.slots) : Go l Z n0 EL mn bytes ml ret R h0 ws fr Q K sf h k n pc Ls [] :=
  g_ret (w := .null) (fun s' T locs hx hb X hret fs hl => by subst hb hr; exact X.returnOut hx hret hd hl) hq (fun _ _ e => nomatch e) hk hn
-- calls by a Back form
def Bk (l : Launch) (Z : State) (n0 : Nat) (R : Room) (h0 : Heap) (ws : List Addr) (h : Heap) (y : MethodName) (W kc' nc : Nat) (as : Array Value) (Qc : Option Value → Heap → List Loc → Prop) : Prop :=
  ∀ (p : Program) (e : Env) (below : List Frame) (s : State) (args : Array Value), Z.Warmed39 s.vm → Old Z n0 h → Keep h0 h ws → Back l R p e below s args y 3 W (fun A a => a = as ∧ A.U.heap = h ∧ A.cells + kc' ≤ R.cells ∧ A.slots + nc ≤ R.slots) (fun A _ v B => ∃ L, Qc v B.U.heap L ∧ B.locs = A.locs ++ L ∧ B.cells = A.cells + kc' ∧ B.slots = A.slots + nc)
theorem nf_self {y : MethodName} {C : String} (w : (Jvm.Cond.selects C y y).before a0 Z = true) : ∀ s : State, Z.Warmed39 s.vm → NotFace s y := fun s hZ => notFace_of_selects (args := #[]) (mvT hZ w)
theorem g_staticB {idx W kc' nc : Nat} {y : MethodName} {ret' : Option FieldType} {bytes' : ByteArray} {maxL : Nat} {argsL rest : List Value} {wsb : List Addr} {Qc : Option Value → Heap → List Loc → Prop} (hd : decode bytes pc = .ok (.invokestatic idx, 3)) (wl : (Jvm.Cond.methodLink mn.cls idx y).before a0 Z = true) (wst : (Jvm.Cond.static y).before a0 Z = true) (wz : (Jvm.Cond.initialized y.cls).before a0 Z = true) (wc : (Jvm.Cond.code y bytes' maxL ret').before a0 Z = true) (hy : y.cls ≠ "java/lang/invoke/MethodHandle" ∧ y.cls ≠ "java/lang/invoke/VarHandle") (hlen : ∀ sig, parseMethodDescriptor y.desc = some sig → argsL.length = sig.parameters.length)
    (B : Bk l Z n0 R h0 ws h y W kc' nc argsL.toArray Qc) (hQ : Keep h0 h ws → ∀ v h' L, Qc v h' L → Nw h0 ws L ∧ Keep h h' wsb) (hsf : ∀ x ∈ wsb, x ∈ sf)
    (hs : st = argsL.reverse ++ rest) (hW : (rest.map fun v => v.category).sum ≤ W) (hsz : Ls.size = ml) (hk : k + kc' ≤ R.cells) (hn : n + nc ≤ R.slots) (hp : pc + 3 = pc')
    (G : ∀ v h' L, Qc v h' L → Go l Z n0 EL mn bytes ml ret R h0 ws fr Q K sf h' (k + kc') (n + nc) pc' Ls (v.toList ++ rest)) : Go l Z n0 EL mn bytes ml ret R h0 ws fr Q K sf h k n pc Ls st :=
  g_call (fun s' T locs hx hb hml hown hnm hZ X e ho hKp => by
    subst hb hp
    obtain ⟨v, vm₁, ⟨T', L', c', s''⟩, -, X', ⟨Lc, hQ', e1, e2, e3⟩, S⟩ := Jvm.LawKit.callS X hx (y := y) hown (mvT hZ wl) (mvT hZ wst) (mvT hZ wz) (mvT hZ wc) hy (B _ _ _ _ _ hZ ho hKp) (g := mkF (km K) pc Ls st) rfl (hsz.trans hml.symm) (argsL := argsL) (rest := rest) hlen hs (by show 2 * 0 + _ ≤ _; omega) hd (fun _ _ => ⟨rfl, e, hk, hn⟩)
    dsimp only [Pt.U, Pt.locs, Pt.cells, Pt.slots] at X' e1 e2 e3 S hQ'
    subst e1 e2 e3
    exact ⟨v, T', Lc, X', hQ', S⟩) hQ hsf G
theorem g_initB {idx W kc' nc : Nat} {y : MethodName} {bytes' : ByteArray} {maxL : Nat} {a : Addr} {argsL rest : List Value} {wsb : List Addr} {Qc : Option Value → Heap → List Loc → Prop} (hd : decode bytes pc = .ok (.invokespecial idx, 3)) (hy1 : y.name = "<init>") (wl : (Jvm.Cond.methodLink mn.cls idx y).before a0 Z = true) (wst : (Jvm.Cond.instanceMethod y).before a0 Z = true) (wc : (Jvm.Cond.code y bytes' maxL none).before a0 Z = true) (hy : y.cls ≠ "java/lang/invoke/MethodHandle" ∧ y.cls ≠ "java/lang/invoke/VarHandle") (hlen : ∀ sig, parseMethodDescriptor y.desc = some sig → argsL.length = sig.parameters.length)
    (B : Bk l Z n0 R h0 ws h y W kc' nc (.ref a :: argsL).toArray Qc) (hQ : Keep h0 h ws → ∀ v h' L, Qc v h' L → Nw h0 ws L ∧ Keep h h' wsb) (hsf : ∀ x ∈ wsb, x ∈ sf)
    (hs : st = argsL.reverse ++ .ref a :: rest) (hW : (rest.map fun v => v.category).sum ≤ W) (hsz : Ls.size = ml) (hk : k + kc' ≤ R.cells) (hn : n + nc ≤ R.slots) (hp : pc + 3 = pc')
    (G : ∀ v h' L, Qc v h' L → Go l Z n0 EL mn bytes ml ret R h0 ws fr Q K sf h' (k + kc') (n + nc) pc' Ls (v.toList ++ rest)) : Go l Z n0 EL mn bytes ml ret R h0 ws fr Q K sf h k n pc Ls st :=
  g_call (fun s' T locs hx hb hml hown hnm hZ X e ho hKp => by
    subst hb hp
    obtain ⟨v, vm₁, ⟨T', L', c', s''⟩, -, X', ⟨Lc, hQ', e1, e2, e3⟩, S⟩ := X.specialBack hx (y := y) hy1 hown (mvT hZ wl) (mvT hZ wst) (mvT hZ wc) hy (B _ _ _ _ _ hZ ho hKp) (g := mkF (km K) pc Ls st) rfl (hsz.trans hml.symm) (Steps.refl _) (a := a) (argsL := argsL) (rest := rest) hlen hs (by show 2 * 0 + _ ≤ _; omega) hd (fun _ _ => ⟨rfl, e, hk, hn⟩)
    dsimp only [Pt.U, Pt.locs, Pt.cells, Pt.slots] at X' e1 e2 e3 S hQ'
    subst e1 e2 e3
    exact ⟨v, T', Lc, X', hQ', fun t u => S.trans u⟩) hQ hsf G
theorem g_virtB {idx W kc' nc : Nat} {y : MethodName} {a : Addr} {z : MethodName} {C : String} {argsL rest : List Value} {wsb : List Addr} {Qc : Option Value → Heap → List Loc → Prop} (hd : decode bytes pc = .ok (.invokevirtual idx, 3)) (wl : (Jvm.Cond.methodLink mn.cls idx y).before a0 Z = true) (wd : (Jvm.Cond.declares y).before a0 Z = true) (hnf : ∀ s : State, Z.Warmed39 s.vm → NotFace s y) (wsel : (Jvm.Cond.selects C y z).before a0 Z = true) (wst : (Jvm.Cond.instanceMethod z).before a0 Z = true) (hy : y.cls ≠ "java/lang/invoke/MethodHandle" ∧ y.cls ≠ "java/lang/invoke/VarHandle") (hlen : ∀ sig, parseMethodDescriptor y.desc = some sig → argsL.length = sig.parameters.length) (E : Exa Z h a C)
    (B : Bk l Z n0 R h0 ws h z W kc' nc (.ref a :: argsL).toArray Qc) (hQ : Keep h0 h ws → ∀ v h' L, Qc v h' L → Nw h0 ws L ∧ Keep h h' wsb) (hsf : ∀ x ∈ wsb, x ∈ sf)
    (hs : st = argsL.reverse ++ .ref a :: rest) (hW : (rest.map fun v => v.category).sum ≤ W) (hsz : Ls.size = ml) (hk : k + kc' ≤ R.cells) (hn : n + nc ≤ R.slots) (hp : pc + 3 = pc')
    (G : ∀ v h' L, Qc v h' L → Go l Z n0 EL mn bytes ml ret R h0 ws fr Q K sf h' (k + kc') (n + nc) pc' Ls (v.toList ++ rest)) : Go l Z n0 EL mn bytes ml ret R h0 ws fr Q K sf h k n pc Ls st :=
  g_call (fun s' T locs hx hb hml hown hnm hZ X e ho hKp => by
    subst hb hp
    obtain ⟨cq, kq, q1, q2, q3⟩ := isOf hZ e E
    obtain ⟨v, vm₁, ⟨T', L', c', s''⟩, -, X', ⟨Lc, hQ', e1, e2, e3⟩, S⟩ := X.virtualBack hx (y := y) (z := z) hown (mvT hZ wl) (mvT hZ wd) (hnf _ hZ) (mvT hZ wsel) (mvT hZ wst) hy (B _ _ _ _ _ hZ ho hKp) q1 q3 (g := mkF (km K) pc Ls st) rfl (hsz.trans hml.symm) (Steps.refl _) (argsL := argsL) (rest := rest) hlen hs (by show 2 * 0 + _ ≤ _; omega) hd (fun _ _ => ⟨rfl, e, hk, hn⟩)
    dsimp only [Pt.U, Pt.locs, Pt.cells, Pt.slots] at X' e1 e2 e3 S hQ'
    subst e1 e2 e3
    exact ⟨v, T', Lc, X', hQ', fun t u => S.trans u⟩) hQ hsf G
/-- what a contract gives its caller -/
def Qb (ret' : Option FieldType) (h : Heap) (ws' : List Addr) (Q' : Value → Heap → Prop) (v : Option Value) (h' : Heap) (L : List Loc) : Prop := (∃ w, v = Rv ret' w ∧ Q' w h' ∧ Keep h h' ws') ∧ Nw h ws' L
theorem bk_of {y : MethodName} {bytes' : ByteArray} {ml' : Nat} {ret' : Option FieldType} {rm : Room} {as : Array Value} {ws' : List Addr} {fr' : Bool} {Q' : Value → Heap → Prop} {W : Nat} (C : Con l Z n0 EL y bytes' ml' ret' [] rm as h ws' fr' Q') (wc : (Jvm.Cond.code y bytes' ml' ret').before a0 Z = true) (wz : (Jvm.Cond.initialized y.cls).before a0 Z = true)
    (hf : rm.frames + 1 ≤ R.frames) (hl : W + (ml' + 11) + rm.locals ≤ R.locals) (hn0 : ∀ x ∈ ws', n0 ≤ x) : Bk l Z n0 R h0 ws h y W rm.cells rm.slots as (Qb ret' h ws' Q') := fun p e below s args hZ ho hkeep =>
  backOf (C ho hn0) hZ wc wz hf hl
theorem nw_of {ret' : Option FieldType} {ws' : List Addr} {Q' : Value → Heap → Prop} {v : Option Value} {h' : Heap} {L : List Loc} (Kp : Keep h0 h ws) (hws : ∀ x ∈ ws', x ∈ ws ∨ h0.size ≤ x) (q : Qb ret' h ws' Q' v h' L) : Nw h0 ws L := fun x hx => (q.2 x hx).elim (hws _) fun r => Or.inr (Nat.le_trans Kp.1 r)
theorem go_n0 (G : n0 ≤ h0.size → (∀ x ∈ ws, n0 ≤ x) → Go l Z n0 EL mn bytes ml ret R h0 ws fr Q K sf h k n pc Ls st) : Go l Z n0 EL mn bytes ml ret R h0 ws fr Q K sf h k n pc Ls st := fun ok T locs X e N =>
  G (by obtain ⟨-, -, -, -, -, -, -, -, eh, ho, hws⟩ := ok; exact ho.1 ▸ ho.2.1) (by obtain ⟨-, -, -, -, -, -, -, -, eh, ho, hws⟩ := ok; exact hws) ok T locs X e N
theorem g_iface {idx cnt W maxL : Nat} {y z : MethodName} {bytes' : ByteArray} {t : FieldType} {a : Addr} {C : String} {argsL rest : List Value} {rm : Room} {Q' : Value → Heap → Prop} (hd : decode bytes pc = .ok (.invokeinterface idx cnt, 5)) (wl : (Jvm.Cond.methodLink mn.cls idx y).before a0 Z = true) (wd : (Jvm.Cond.declares y).before a0 Z = true) (wf : ∀ (s' : State) (as : Array Value), Z.Warmed39 s'.vm → (Jvm.Cond.interfaceMethod y.cls y.cls y.name y.desc).before as s' = true) (wsel : (Jvm.Cond.selects C y z).before a0 Z = true) (wst : (Jvm.Cond.instanceMethod z).before a0 Z = true)
    (wp : (Jvm.Cond.publicMethod z).before a0 Z = true) (wu : (Jvm.Cond.unhidden C y.name y.desc).before a0 Z = true) (wk : (Jvm.Cond.castable C y.cls).before a0 Z = true) (hy : y.cls ≠ "java/lang/invoke/MethodHandle" ∧ y.cls ≠ "java/lang/invoke/VarHandle") (hlen : ∀ sig, parseMethodDescriptor y.desc = some sig → argsL.length = sig.parameters.length) (E : Exa Z h a C)
    (C' : Con l Z n0 EL z bytes' maxL (some t) [] rm (.ref a :: argsL).toArray h [] false Q') (wc : (Jvm.Cond.code z bytes' maxL (some t)).before a0 Z = true) (wz : (Jvm.Cond.initialized z.cls).before a0 Z = true) (hf : rm.frames + 1 ≤ R.frames) (hl : W + (maxL + 11) + rm.locals ≤ R.locals)
    (hs : st = argsL.reverse ++ .ref a :: rest) (hW : (rest.map fun v => v.category).sum ≤ W) (hsz : Ls.size = ml) (hk : k + rm.cells ≤ R.cells) (hn : n + rm.slots ≤ R.slots) (hp : pc + 5 = pc')
    (G : ∀ w h', Q' w h' → Keep h h' [] → Go l Z n0 EL mn bytes ml ret R h0 ws fr Q K sf h' (k + rm.cells) (n + rm.slots) pc' Ls (w :: rest)) : Go l Z n0 EL mn bytes ml ret R h0 ws fr Q K sf h k n pc Ls st :=
  g_call (kc' := rm.cells) (nc := rm.slots) (rest := rest) (pc' := pc') (wsb := []) (Qc := Qb (some t) h [] Q') (fun s' T locs hx hb hml hown hnm hZ X e ho hKp => by
    subst hb hp
    obtain ⟨cq, kq, q1, q2, q3⟩ := isOf hZ e E
    obtain ⟨v, vm₁, ⟨T', L', c', s''⟩, -, X', ⟨Lc, hQ', e1, e2, e3⟩, S⟩ := X.interfaceBack hx (xi := y) (y := z) hown (mvT hZ wl) (mvT hZ wd) (wf _ _ hZ) (mvT hZ wsel) (mvT hZ wst) (mvT hZ wp) (mvT hZ wu) (mvT hZ wk) hy (backOf (W := W) (len := 5) (Q := Qb (some t) h [] Q') (C' ho (fun _ q => nomatch q)) hZ wc wz hf hl) q1 q2 q3 (g := mkF (km K) pc Ls st) rfl (hsz.trans hml.symm) (Steps.refl _) (argsL := argsL) (rest := rest) hlen hs (by show 2 * 0 + _ ≤ _; omega) hd (fun _ _ => ⟨rfl, e, hk, hn⟩)
    dsimp only [Pt.U, Pt.locs, Pt.cells, Pt.slots] at X' e1 e2 e3 S hQ'
    subst e1 e2 e3
    exact ⟨v, T', Lc, X', hQ', fun t u => S.trans u⟩) (fun Kp v h' L q => ⟨nw_of (ws' := []) Kp (fun _ z => nomatch z) q, by obtain ⟨⟨w, -, -, q2⟩, -⟩ := q; exact q2⟩) (fun _ q => nomatch q) (fun v h' L q => by
    obtain ⟨⟨w, rfl, q1, q2⟩, -⟩ := q
    exact G w h' q1 q2)
/-- the object that a callee hands back as one of its own making -/
def frs (fr : Bool) (w : Value) : List Addr := match fr, w with
  | true, .ref a => [a]
  | _, _ => []
theorem g_static {idx W maxL : Nat} {y : MethodName} {bytes' : ByteArray} {t : FieldType} {argsL rest : List Value} {rm : Room} {ws' : List Addr} {fr' : Bool} {Q' : Value → Heap → Prop} (hd : decode bytes pc = .ok (.invokestatic idx, 3)) (wl : (Jvm.Cond.methodLink mn.cls idx y).before a0 Z = true) (wst : (Jvm.Cond.static y).before a0 Z = true) (hy : y.cls ≠ "java/lang/invoke/MethodHandle" ∧ y.cls ≠ "java/lang/invoke/VarHandle") (hlen : ∀ sig, parseMethodDescriptor y.desc = some sig → argsL.length = sig.parameters.length)
    (C' : Con l Z n0 EL y bytes' maxL (some t) [] rm argsL.toArray h ws' fr' Q') (wc : (Jvm.Cond.code y bytes' maxL (some t)).before a0 Z = true) (wz : (Jvm.Cond.initialized y.cls).before a0 Z = true) (hf : rm.frames + 1 ≤ R.frames) (hl : W + (maxL + 11) + rm.locals ≤ R.locals) (hws : ∀ x ∈ ws', (x ∈ ws ∨ h0.size ≤ x) ∧ x ∈ sf)
    (hs : st = argsL.reverse ++ rest) (hW : (rest.map fun v => v.category).sum ≤ W) (hsz : Ls.size = ml) (hk : k + rm.cells ≤ R.cells) (hn : n + rm.slots ≤ R.slots) (hp : pc + 3 = pc')
    (G : ∀ w h', Q' w h' → Keep h h' ws' → Go l Z n0 EL mn bytes ml ret R h0 ws fr Q K (frs fr' w ++ sf) h' (k + rm.cells) (n + rm.slots) pc' Ls (w :: rest)) : Go l Z n0 EL mn bytes ml ret R h0 ws fr Q K sf h k n pc Ls st :=
  go_n0 fun hn0 hn1 => g_staticB (bytes' := bytes') (maxL := maxL) (ret' := (some t)) (W := W) (argsL := argsL) (rest := rest) (wsb := ws') hd wl wst wz wc hy hlen (bk_of (W := W) C' wc wz hf hl fun x hx => (hws x hx).1.elim (hn1 x) fun q => Nat.le_trans hn0 q) (fun Kp v h' L q => ⟨nw_of Kp (fun x hx => (hws x hx).1) q, by obtain ⟨⟨w, -, -, q2⟩, -⟩ := q; exact q2⟩) (fun x hx => (hws x hx).2) hs hW hsz hk hn hp (fun v h' L q => by
    obtain ⟨⟨w, rfl, q1, q2⟩, -⟩ := q
    exact G w h' q1 q2)
theorem g_staticN {idx W maxL : Nat} {y : MethodName} {bytes' : ByteArray} {argsL rest : List Value} {rm : Room} {ws' : List Addr} {fr' : Bool} {Q' : Value → Heap → Prop} (hd : decode bytes pc = .ok (.invokestatic idx, 3)) (wl : (Jvm.Cond.methodLink mn.cls idx y).before a0 Z = true) (wst : (Jvm.Cond.static y).before a0 Z = true) (hy : y.cls ≠ "java/lang/invoke/MethodHandle" ∧ y.cls ≠ "java/lang/invoke/VarHandle") (hlen : ∀ sig, parseMethodDescriptor y.desc = some sig → argsL.length = sig.parameters.length)
    (C' : Con l Z n0 EL y bytes' maxL none [] rm argsL.toArray h ws' fr' Q') (wc : (Jvm.Cond.code y bytes' maxL none).before a0 Z = true) (wz : (Jvm.Cond.initialized y.cls).before a0 Z = true) (hf : rm.frames + 1 ≤ R.frames) (hl : W + (maxL + 11) + rm.locals ≤ R.locals) (hws : ∀ x ∈ ws', (x ∈ ws ∨ h0.size ≤ x) ∧ x ∈ sf)
    (hs : st = argsL.reverse ++ rest) (hW : (rest.map fun v => v.category).sum ≤ W) (hsz : Ls.size = ml) (hk : k + rm.cells ≤ R.cells) (hn : n + rm.slots ≤ R.slots) (hp : pc + 3 = pc')
    (G : ∀ w h', Q' w h' → Keep h h' ws' → Go l Z n0 EL mn bytes ml ret R h0 ws fr Q K sf h' (k + rm.cells) (n + rm.slots) pc' Ls rest) : Go l Z n0 EL mn bytes ml ret R h0 ws fr Q K sf h k n pc Ls st :=
  go_n0 fun hn0 hn1 => g_staticB (bytes' := bytes') (maxL := maxL) (ret' := none) (W := W) (argsL := argsL) (rest := rest) (wsb := ws') hd wl wst wz wc hy hlen (bk_of (W := W) C' wc wz hf hl fun x hx => (hws x hx).1.elim (hn1 x) fun q => Nat.le_trans hn0 q) (fun Kp v h' L q => ⟨nw_of Kp (fun x hx => (hws x hx).1) q, by obtain ⟨⟨w, -, -, q2⟩, -⟩ := q; exact q2⟩) (fun x hx => (hws x hx).2) hs hW hsz hk hn hp (fun v h' L q => by
    obtain ⟨⟨w, rfl, q1, q2⟩, -⟩ := q
    exact G w h' q1 q2)
theorem g_init {idx W maxL : Nat} {y : MethodName} {bytes' : ByteArray} {a : Addr} {argsL rest : List Value} {rm : Room} {ws' : List Addr} {fr' : Bool} {Q' : Value → Heap → Prop} (hd : decode bytes pc = .ok (.invokespecial idx, 3)) (hy1 : y.name = "<init>") (wl : (Jvm.Cond.methodLink mn.cls idx y).before a0 Z = true) (wst : (Jvm.Cond.instanceMethod y).before a0 Z = true) (hy : y.cls ≠ "java/lang/invoke/MethodHandle" ∧ y.cls ≠ "java/lang/invoke/VarHandle") (hlen : ∀ sig, parseMethodDescriptor y.desc = some sig → argsL.length = sig.parameters.length)
    (C' : Con l Z n0 EL y bytes' maxL none [] rm (.ref a :: argsL).toArray h ws' fr' Q') (wc : (Jvm.Cond.code y bytes' maxL none).before a0 Z = true) (wz : (Jvm.Cond.initialized y.cls).before a0 Z = true) (hf : rm.frames + 1 ≤ R.frames) (hl : W + (maxL + 11) + rm.locals ≤ R.locals) (hws : ∀ x ∈ ws', (x ∈ ws ∨ h0.size ≤ x) ∧ x ∈ sf)
    (hs : st = argsL.reverse ++ .ref a :: rest) (hW : (rest.map fun v => v.category).sum ≤ W) (hsz : Ls.size = ml) (hk : k + rm.cells ≤ R.cells) (hn : n + rm.slots ≤ R.slots) (hp : pc + 3 = pc')
    (G : ∀ w h', Q' w h' → Keep h h' ws' → Go l Z n0 EL mn bytes ml ret R h0 ws fr Q K sf h' (k + rm.cells) (n + rm.slots) pc' Ls rest) : Go l Z n0 EL mn bytes ml ret R h0 ws fr Q K sf h k n pc Ls st :=
  go_n0 fun hn0 hn1 => g_initB (bytes' := bytes') (maxL := maxL) (W := W) (argsL := argsL) (rest := rest) (wsb := ws') hd hy1 wl wst wc hy hlen (bk_of (W := W) C' wc wz hf hl fun x hx => (hws x hx).1.elim (hn1 x) fun q => Nat.le_trans hn0 q) (fun Kp v h' L q => ⟨nw_of Kp (fun x hx => (hws x hx).1) q, by obtain ⟨⟨w, -, -, q2⟩, -⟩ := q; exact q2⟩) (fun x hx => (hws x hx).2) hs hW hsz hk hn hp (fun v h' L q => by
    obtain ⟨⟨w, rfl, q1, q2⟩, -⟩ := q
    exact G w h' q1 q2)
theorem g_virt {idx W maxL : Nat} {y : MethodName} {bytes' : ByteArray} {t : FieldType} {a : Addr} {z : MethodName} {C : String} {argsL rest : List Value} {rm : Room} {ws' : List Addr} {fr' : Bool} {Q' : Value → Heap → Prop} (hd : decode bytes pc = .ok (.invokevirtual idx, 3)) (wl : (Jvm.Cond.methodLink mn.cls idx y).before a0 Z = true) (wd : (Jvm.Cond.declares y).before a0 Z = true) (hnf : ∀ s : State, Z.Warmed39 s.vm → NotFace s y) (wsel : (Jvm.Cond.selects C y z).before a0 Z = true) (wst : (Jvm.Cond.instanceMethod z).before a0 Z = true) (hy : y.cls ≠ "java/lang/invoke/MethodHandle" ∧ y.cls ≠ "java/lang/invoke/VarHandle") (hlen : ∀ sig, parseMethodDescriptor y.desc = some sig → argsL.length = sig.parameters.length) (E : Exa Z h a C)
    (C' : Con l Z n0 EL z bytes' maxL (some t) [] rm (.ref a :: argsL).toArray h ws' fr' Q') (wc : (Jvm.Cond.code z bytes' maxL (some t)).before a0 Z = true) (wz : (Jvm.Cond.initialized z.cls).before a0 Z = true) (hf : rm.frames + 1 ≤ R.frames) (hl : W + (maxL + 11) + rm.locals ≤ R.locals) (hws : ∀ x ∈ ws', (x ∈ ws ∨ h0.size ≤ x) ∧ x ∈ sf)
    (hs : st = argsL.reverse ++ .ref a :: rest) (hW : (rest.map fun v => v.category).sum ≤ W) (hsz : Ls.size = ml) (hk : k + rm.cells ≤ R.cells) (hn : n + rm.slots ≤ R.slots) (hp : pc + 3 = pc')
    (G : ∀ w h', Q' w h' → Keep h h' ws' → Go l Z n0 EL mn bytes ml ret R h0 ws fr Q K (frs fr' w ++ sf) h' (k + rm.cells) (n + rm.slots) pc' Ls (w :: rest)) : Go l Z n0 EL mn bytes ml ret R h0 ws fr Q K sf h k n pc Ls st :=
  go_n0 fun hn0 hn1 => g_virtB (W := W) (argsL := argsL) (rest := rest) (wsb := ws') hd wl wd hnf wsel wst hy hlen E (bk_of (W := W) C' wc wz hf hl fun x hx => (hws x hx).1.elim (hn1 x) fun q => Nat.le_trans hn0 q) (fun Kp v h' L q => ⟨nw_of Kp (fun x hx => (hws x hx).1) q, by obtain ⟨⟨w, -, -, q2⟩, -⟩ := q; exact q2⟩) (fun x hx => (hws x hx).2) hs hW hsz hk hn hp (fun v h' L q => by
    obtain ⟨⟨w, rfl, q1, q2⟩, -⟩ := q
    exact G w h' q1 q2)
theorem g_virtN {idx W maxL : Nat} {y : MethodName} {bytes' : ByteArray} {a : Addr} {z : MethodName} {C : String} {argsL rest : List Value} {rm : Room} {ws' : List Addr} {fr' : Bool} {Q' : Value → Heap → Prop} (hd : decode bytes pc = .ok (.invokevirtual idx, 3)) (wl : (Jvm.Cond.methodLink mn.cls idx y).before a0 Z = true) (wd : (Jvm.Cond.declares y).before a0 Z = true) (hnf : ∀ s : State, Z.Warmed39 s.vm → NotFace s y) (wsel : (Jvm.Cond.selects C y z).before a0 Z = true) (wst : (Jvm.Cond.instanceMethod z).before a0 Z = true) (hy : y.cls ≠ "java/lang/invoke/MethodHandle" ∧ y.cls ≠ "java/lang/invoke/VarHandle") (hlen : ∀ sig, parseMethodDescriptor y.desc = some sig → argsL.length = sig.parameters.length) (E : Exa Z h a C)
    (C' : Con l Z n0 EL z bytes' maxL none [] rm (.ref a :: argsL).toArray h ws' fr' Q') (wc : (Jvm.Cond.code z bytes' maxL none).before a0 Z = true) (wz : (Jvm.Cond.initialized z.cls).before a0 Z = true) (hf : rm.frames + 1 ≤ R.frames) (hl : W + (maxL + 11) + rm.locals ≤ R.locals) (hws : ∀ x ∈ ws', (x ∈ ws ∨ h0.size ≤ x) ∧ x ∈ sf)
    (hs : st = argsL.reverse ++ .ref a :: rest) (hW : (rest.map fun v => v.category).sum ≤ W) (hsz : Ls.size = ml) (hk : k + rm.cells ≤ R.cells) (hn : n + rm.slots ≤ R.slots) (hp : pc + 3 = pc')
    (G : ∀ w h', Q' w h' → Keep h h' ws' → Go l Z n0 EL mn bytes ml ret R h0 ws fr Q K sf h' (k + rm.cells) (n + rm.slots) pc' Ls rest) : Go l Z n0 EL mn bytes ml ret R h0 ws fr Q K sf h k n pc Ls st :=
  go_n0 fun hn0 hn1 => g_virtB (W := W) (argsL := argsL) (rest := rest) (wsb := ws') hd wl wd hnf wsel wst hy hlen E (bk_of (W := W) C' wc wz hf hl fun x hx => (hws x hx).1.elim (hn1 x) fun q => Nat.le_trans hn0 q) (fun Kp v h' L q => ⟨nw_of Kp (fun x hx => (hws x hx).1) q, by obtain ⟨⟨w, -, -, q2⟩, -⟩ := q; exact q2⟩) (fun x hx => (hws x hx).2) hs hW hsz hk hn hp (fun v h' L q => by
    obtain ⟨⟨w, rfl, q1, q2⟩, -⟩ := q
    exact G w h' q1 q2)
end Rules
end Jvm.Pilot.@@N@@
namespace Jvm.Pilot.@@N@@
open Jvm Jvm.ClassFile Sem Op Lib Jvm.Free Jvm.Stand Jvm.LawKit Jvm.RoadKit Bundle Jvm.Pilot.@@N@@.Jvm.D
def Hw (a0 : Array Value) (Z : State) : Prop := ∀ d ∈ tables_1, d.before a0 Z = true
def ELs : List (String × Nat) := []
/-- a Latin-1 String of the chars cs: its bytes lie at t -/
def St (Z : State) (h : Heap) (x t : Addr) (cs : List Int32) : Prop := Exa Z h x "java/lang/String" ∧ Fld Z h x "java/lang/String" "coder" "B" (.int 0) ∧ Fld Z h x "java/lang/String" "value" "[B" (.ref t) ∧ Ia Z h t .byte (cs.map fun c => c.toInt8.toInt32) ∧ ∀ c ∈ cs, ¬ c < 0 ∧ ¬ (255 : Int32) < c
theorem St.keep {Z : State} {h h' : Heap} {x t : Addr} {cs : List Int32} {ws : List Addr} (S : St Z h x t cs) (K : Keep h h' ws) (q : x ∉ ws) (q' : t ∉ ws) : St Z h' x t cs := ⟨S.1.keep K, S.2.1.keep K q, S.2.2.1.keep K q, S.2.2.2.1.keep K q', S.2.2.2.2⟩
theorem St.keep0 {Z : State} {h h' : Heap} {x t : Addr} {cs : List Int32} (S : St Z h x t cs) (K : Keep h h' []) : St Z h' x t cs := S.keep K nin0 nin0
theorem St.lt {Z : State} {h : Heap} {x t : Addr} {cs : List Int32} (S : St Z h x t cs) : x < h.size := S.1.lt
theorem low8 (x : Int32) : ¬ nar .char ((x &&& (255 : Int32)).toUInt32.toUInt16.toUInt32.toInt32) < 0 ∧ ¬ (255 : Int32) < nar .char ((x &&& (255 : Int32)).toUInt32.toUInt16.toUInt32.toInt32) := by
  have h1 := c_mask x 255 8 (by decide) (by decide)
  have h2 := c_i2c (x &&& 255)
  have h3 := c_i2c ((x &&& 255).toUInt32.toUInt16.toUInt32.toInt32)
  have e1 : (255 : Int32).toInt = 255 := by decide
  have e2 : (0 : Int32).toInt = 0 := by decide
  show ¬ ((x &&& (255 : Int32)).toUInt32.toUInt16.toUInt32.toInt32).toUInt32.toUInt16.toUInt32.toInt32 < 0 ∧ ¬ (255 : Int32) < ((x &&& (255 : Int32)).toUInt32.toUInt16.toUInt32.toInt32).toUInt32.toUInt16.toUInt32.toInt32
  rw [Int32.lt_iff_toInt_lt, Int32.lt_iff_toInt_lt, e1, e2]
  omega
theorem low8' (x : Int32) : ¬ (x &&& (255 : Int32)).toUInt32.toUInt16.toUInt32.toInt32 < 0 ∧ ¬ (255 : Int32) < (x &&& (255 : Int32)).toUInt32.toUInt16.toUInt32.toInt32 := by
  have h1 := c_mask x 255 8 (by decide) (by decide)
  have h2 := c_i2c (x &&& 255)
  have e1 : (255 : Int32).toInt = 255 := by decide
  have e2 : (0 : Int32).toInt = 0 := by decide
  rw [Int32.lt_iff_toInt_lt, Int32.lt_iff_toInt_lt, e1, e2]
  omega
theorem shr0 (x : Int32) : x >>> (0 &&& 31) = x := by
  rw [← Int32.toInt_inj, c_ishr x 0 0 (by decide)]; simp
/-- a byte read back is the char -/
theorem lo8 (c : Int32) (h : ¬ c < 0 ∧ ¬ (255 : Int32) < c) : (c.toInt8.toInt32 &&& 255).toUInt32.toUInt16.toUInt32.toInt32 = c ∧ nar .char c = c ∧ c.toUInt32.toUInt16.toUInt32.toInt32 = c := by
  have e1 : (255 : Int32).toInt = 255 := by decide
  have e2 : (0 : Int32).toInt = 0 := by decide
  have h1 := c_i2b c
  have h2 := c_mask c.toInt8.toInt32 255 8 (by decide) (by decide)
  have h3 := c_i2c (c.toInt8.toInt32 &&& 255)
  have h4 := c_i2c c
  rw [Int32.lt_iff_toInt_lt, Int32.lt_iff_toInt_lt, e1, e2] at h
  refine ⟨Int32.toInt_inj.mp (by omega), Int32.toInt_inj.mp ?_, Int32.toInt_inj.mp (by omega)⟩
  show c.toUInt32.toUInt16.toUInt32.toInt32.toInt = _
  omega
theorem ofNat_lt {i n : Nat} (h : i < n) (hn : n < 2 ^ 31) : ¬ Int32.ofNat i < 0 ∧ Int32.ofNat i < Int32.ofNat n ∧ (Int32.ofNat i).toNatClampNeg = i := by
  have e2 : (0 : Int32).toInt = 0 := by decide
  rw [Int32.lt_iff_toInt_lt, Int32.lt_iff_toInt_lt, Int32.toInt_ofNat_of_lt (by omega), Int32.toInt_ofNat_of_lt hn, Int32.toNatClampNeg, Int32.toInt_ofNat_of_lt (by omega), e2]
  omega
theorem ofNat_toInt {n : Nat} (h : n < 2 ^ 31) : (Int32.ofNat n).toInt = n := Int32.toInt_ofNat_of_lt h
theorem ofNat_le {a b : Nat} (h : a ≤ b) (hb : b < 2 ^ 31) : ¬ Int32.ofNat a < 0 ∧ ¬ Int32.ofNat b < Int32.ofNat a := by
  have e2 : (0 : Int32).toInt = 0 := by decide
  rw [Int32.lt_iff_toInt_lt, Int32.lt_iff_toInt_lt, ofNat_toInt hb, ofNat_toInt (by omega), e2]
  omega
theorem ofNat_inj {a b : Nat} (ha : a < 2 ^ 31) (hb : b < 2 ^ 31) : Int32.ofNat a = Int32.ofNat b ↔ a = b := by
  rw [← Int32.toInt_inj, ofNat_toInt ha, ofNat_toInt hb]; omega
theorem ofNat_sub {a b : Nat} (h : b ≤ a) (ha : a < 2 ^ 31) : Int32.ofNat a - Int32.ofNat b = Int32.ofNat (a - b) := by
  rw [← Int32.toInt_inj, ofNat_toInt (by omega)]
  have q := c_isub (Int32.ofNat a) (Int32.ofNat b); have r := rng32 (Int32.ofNat a - Int32.ofNat b)
  rw [ofNat_toInt ha, ofNat_toInt (by omega)] at q; omega
theorem ofNat_add {a b : Nat} (h : a + b < 2 ^ 31) : Int32.ofNat a + Int32.ofNat b = Int32.ofNat (a + b) := by
  rw [← Int32.toInt_inj, ofNat_toInt h]
  have q := c_iadd (Int32.ofNat a) (Int32.ofNat b); have r := rng32 (Int32.ofNat a + Int32.ofNat b)
  rw [ofNat_toInt (by omega), ofNat_toInt (by omega)] at q; omega
theorem ofNat_succ {a : Nat} (h : a + 1 < 2 ^ 31) : Int32.ofNat a + 1 = Int32.ofNat (a + 1) := ofNat_add (b := 1) h
theorem ofNat_pred {a : Nat} (h : 0 < a) (ha : a < 2 ^ 31) : Int32.ofNat a - 1 = Int32.ofNat (a - 1) := ofNat_sub (b := 1) h ha
theorem ofNat_pred' {a : Nat} (h : 0 < a) (ha : a < 2 ^ 31) : Int32.ofNat a + (-1) = Int32.ofNat (a - 1) := by
  rw [← ofNat_pred h ha]
  rw [← Int32.toInt_inj]
  have q := c_isub (Int32.ofNat a) 1; have r := rng32 (Int32.ofNat a - 1); have q' := c_iadd (Int32.ofNat a) (-1); have r' := rng32 (Int32.ofNat a + (-1))
  have e1 : (1 : Int32).toInt = 1 := by decide
  have e2 : (-1 : Int32).toInt = -1 := by decide
  omega
def bLo (c : Int32) : Int32 := c.toInt8.toInt32
def bHi (c : Int32) : Int32 := (c >>> (8 &&& 31)).toInt8.toInt32
/-- the bytes of UTF-16, the low one first -/
def b16 : List Int32 → List Int32
  | [] => []
  | c :: cs => bLo c :: bHi c :: b16 cs
def lat (cs : List Int32) : Bool := cs.all fun c => decide (¬ (255 : Int32) < c)
def enc (cs : List Int32) : List Int32 := if lat cs = true then cs.map bLo else b16 cs
theorem b16_len : ∀ cs : List Int32, (b16 cs).length = 2 * cs.length
  | [] => rfl
  | c :: cs => by simp only [b16, List.length_cons, b16_len cs]; omega
theorem b16_get : ∀ (cs : List Int32) (i : Nat) (c : Int32), cs[i]? = some c → (b16 cs)[2 * i]? = some (bLo c) ∧ (b16 cs)[2 * i + 1]? = some (bHi c)
  | [], i, c, h => by simp at h
  | a :: cs, 0, c, h => by
    simp only [List.getElem?_cons_zero, Option.some.injEq] at h; subst h; exact ⟨rfl, rfl⟩
  | a :: cs, i + 1, c, h => by
    have := b16_get cs i c (by simpa using h)
    rw [show 2 * (i + 1) = 2 * i + 1 + 1 by omega]
    exact ⟨by simpa [b16] using this.1, by simpa [b16] using this.2⟩
theorem b16_app : ∀ (a b : List Int32), b16 (a ++ b) = b16 a ++ b16 b
  | [], b => rfl
  | c :: a, b => by simp [b16, b16_app a b]
theorem b16_put (cs : List Int32) (i r : Nat) (c : Int32) (hc : cs[i]? = some c) : ((b16 (cs.take i) ++ List.replicate (2 * (r + 1)) 0).set (2 * i) (bLo c)).set (2 * i + 1) (bHi c) = b16 (cs.take (i + 1)) ++ List.replicate (2 * r) 0 := by
  have hi := (List.getElem?_eq_some_iff.mp hc).1
  have l1 : (b16 (cs.take i)).length = 2 * i := by rw [b16_len, List.length_take]; omega
  have e1 : cs.take (i + 1) = cs.take i ++ [c] := by rw [List.take_add_one, hc]; rfl
  rw [e1, b16_app, List.set_append, if_neg (by omega), l1, List.set_append, if_neg (by omega), l1]
  rw [show 2 * i - 2 * i = 0 by omega, show 2 * i + 1 - 2 * i = 1 by omega, show 2 * (r + 1) = 2 * r + 1 + 1 by omega, List.replicate_succ, List.replicate_succ]
  simp [b16]
theorem lat_map (cs : List Int32) (h : ∀ c ∈ cs, ¬ (255 : Int32) < c) : lat cs = true := by simp only [lat, List.all_eq_true, decide_eq_true_eq]; exact h
theorem lat_not (cs : List Int32) (i : Nat) (c : Int32) (hc : cs[i]? = some c) (h : 255 < c) : lat cs = false := by
  rw [Bool.eq_false_iff]; intro q
  simp only [lat, List.all_eq_true, decide_eq_true_eq] at q
  exact q c (List.mem_of_getElem? hc) h
theorem nar_b (x : Int32) : nar .byte x.toInt8.toInt32 = x.toInt8.toInt32 := by simp [nar]
theorem shl1 {i : Nat} (h : i < 2 ^ 30) : Int32.ofNat i <<< (1 &&& 31) = Int32.ofNat (2 * i) := by
  rw [← Int32.toInt_inj, Int32.toInt_ofNat_of_lt (by omega)]
  have q := c_ishl (Int32.ofNat i) 1 1 (by decide)
  have r := rng32 (Int32.ofNat i <<< (1 &&& 31))
  rw [Int32.toInt_ofNat_of_lt (by omega)] at q
  omega
theorem shr1 {i : Nat} (h : i < 2 ^ 30) : Int32.ofNat (2 * i) >>> (1 &&& 31) = Int32.ofNat i := by
  rw [← Int32.toInt_inj, Int32.toInt_ofNat_of_lt (by omega), c_ishr (Int32.ofNat (2 * i)) 1 1 (by decide), Int32.toInt_ofNat_of_lt (by omega)]
  omega
theorem get16 (c : Int32) (h : ¬ c < 0 ∧ ¬ (65535 : Int32) < c) : (((bLo c &&& 255) <<< (0 &&& 31)) ||| ((bHi c &&& 255) <<< (8 &&& 31))).toUInt32.toUInt16.toUInt32.toInt32 = c ∧ nar .char c = c := by
  have e1 : (65535 : Int32).toInt = 65535 := by decide
  have e2 : (0 : Int32).toInt = 0 := by decide
  rw [Int32.lt_iff_toInt_lt, Int32.lt_iff_toInt_lt, e1, e2] at h
  have h1 := c_i2b c
  have h2 := c_i2b (c >>> (8 &&& 31))
  have h3 := c_ishr c 8 8 (by decide)
  have h4 := c_mask (bLo c) 255 8 (by decide) (by decide)
  have h5 := c_mask (bHi c) 255 8 (by decide) (by decide)
  have h6 := c_ishl (bLo c &&& 255) 0 0 (by decide)
  have h7 := c_ishl (bHi c &&& 255) 8 8 (by decide)
  have r6 := rng32 ((bLo c &&& 255) <<< (0 &&& 31)); have r7 := rng32 ((bHi c &&& 255) <<< (8 &&& 31))
  have h8 := c_or ((bHi c &&& 255) <<< (8 &&& 31)) ((bLo c &&& 255) <<< (0 &&& 31)) 8 (by decide) 256 (by decide)
  have r8 := rng32 (((bHi c &&& 255) <<< (8 &&& 31)) ||| ((bLo c &&& 255) <<< (0 &&& 31)))
  have h9 := c_i2c (((bHi c &&& 255) <<< (8 &&& 31)) ||| ((bLo c &&& 255) <<< (0 &&& 31)))
  have h10 := c_i2c c
  have b1 : (bLo c).toInt = c.toInt8.toInt32.toInt := rfl
  have b2 : (bHi c).toInt = (c >>> (8 &&& 31)).toInt8.toInt32.toInt := rfl
  refine ⟨?_, ?_⟩
  · rw [Int32.or_comm, ← Int32.toInt_inj]
    have q1 : ((bLo c &&& 255) <<< (0 &&& 31)).toInt = c.toInt % 256 := by omega
    have q2 : ((bHi c &&& 255) <<< (8 &&& 31)).toInt = (c.toInt / 256) * 256 := by omega
    have := h8 (by omega) (by omega) (by omega)
    omega
  · show c.toUInt32.toUInt16.toUInt32.toInt32 = c
    rw [← Int32.toInt_inj]; omega
theorem cfa_lat (n : Int32) : ((n - n).toUInt32 >>> ((31 : Int32) &&& 31).toUInt32).toInt32.toInt8.toInt32 = 0 ∧ nar .byte 0 = 0 := by
  have : n - n = 0 := by rw [← Int32.toInt_inj]; have := c_isub n n; have r := rng32 (n - n); have e : (0 : Int32).toInt = 0 := by decide
                         omega
  rw [this]; decide
theorem cfa_u16 {n : Nat} (h0 : 0 < n) (h : n < 2 ^ 30) : ((Int32.ofNat n - Int32.ofNat (2 * n)).toUInt32 >>> ((31 : Int32) &&& 31).toUInt32).toInt32.toInt8.toInt32 = 1 := by
  have q := c_isub (Int32.ofNat n) (Int32.ofNat (2 * n)); have r := rng32 (Int32.ofNat n - Int32.ofNat (2 * n))
  rw [Int32.toInt_ofNat_of_lt (by omega), Int32.toInt_ofNat_of_lt (by omega)] at q
  have u := c_iushr (Int32.ofNat n - Int32.ofNat (2 * n)) 31 31 (by decide) (by decide)
  have e : ((Int32.ofNat n - Int32.ofNat (2 * n)).toUInt32 >>> ((31 : Int32) &&& 31).toUInt32).toInt32 = 1 := by
    rw [← Int32.toInt_inj, u]; have e : (1 : Int32).toInt = 1 := by decide
    omega
  rw [e]; decide
/-- a String of the chars cs, of either kind: its bytes lie at t -/
def Su (Z : State) (h : Heap) (x t : Addr) (cs : List Int32) : Prop := Exa Z h x "java/lang/String" ∧ Fld Z h x "java/lang/String" "coder" "B" (.int (if lat cs = true then 0 else 1)) ∧ Fld Z h x "java/lang/String" "value" "[B" (.ref t) ∧ Ia Z h t .byte (enc cs) ∧ (∀ c ∈ cs, ¬ c < 0 ∧ ¬ (65535 : Int32) < c) ∧ cs.length ≤ 8
theorem Su.keep {Z : State} {h h' : Heap} {x t : Addr} {cs : List Int32} {ws : List Addr} (S : Su Z h x t cs) (K : Keep h h' ws) (q : x ∉ ws) (q' : t ∉ ws) : Su Z h' x t cs := ⟨S.1.keep K, S.2.1.keep K q, S.2.2.1.keep K q, S.2.2.2.1.keep K q', S.2.2.2.2⟩
theorem Su.keep0 {Z : State} {h h' : Heap} {x t : Addr} {cs : List Int32} (S : Su Z h x t cs) (K : Keep h h' []) : Su Z h' x t cs := S.keep K nin0 nin0
theorem Su.lt {Z : State} {h : Heap} {x t : Addr} {cs : List Int32} (S : Su Z h x t cs) : x < h.size := S.1.lt
theorem nat32 {n : Nat} (h : n < 2 ^ 31) : (Int32.ofNat n).toNatClampNeg = n := nat_i32 h
def isHi (c : Int32) : Bool := decide (¬ c < 55296 ∧ c < 56320)
def isLo (c : Int32) : Bool := decide (¬ c < 56320 ∧ c < 57344)
theorem hi_lo (c : Int32) (h : isHi c = true) : isLo c = false := by
  simp only [isHi, decide_eq_true_eq] at h
  simp only [isLo, decide_eq_false_iff_not]; exact fun q => q.1 h.2
def ps (cs : List Int32) (x : Nat) : Bool := match cs[x]?, cs[x + 1]? with
  | some a, some b => isHi a && isLo b
  | _, _ => false
def adv (cs : List Int32) (x : Nat) : Nat := if ps cs x = true then x + 2 else x + 1
def advN (cs : List Int32) : Nat → Nat → Nat
  | 0, a => a
  | k + 1, a => adv cs (advN cs k a)
theorem advN_add (cs : List Int32) (a : Nat) (p : Nat) : ∀ k, advN cs k (advN cs p a) = advN cs (p + k) a
  | 0 => rfl
  | k + 1 => by rw [advN, advN_add cs a p k, ← Nat.add_assoc, advN]
theorem c16 (x : Int32) : (¬ x.toUInt32.toUInt16.toUInt32.toInt32 < 0 ∧ ¬ (65535 : Int32) < x.toUInt32.toUInt16.toUInt32.toInt32) ∧ nar .char x.toUInt32.toUInt16.toUInt32.toInt32 = x.toUInt32.toUInt16.toUInt32.toInt32 := by
  have h := c_i2c x
  have e1 : (65535 : Int32).toInt = 65535 := by decide
  have e2 : (0 : Int32).toInt = 0 := by decide
  have r : ¬ x.toUInt32.toUInt16.toUInt32.toInt32 < 0 ∧ ¬ (65535 : Int32) < x.toUInt32.toUInt16.toUInt32.toInt32 := by
    rw [Int32.lt_iff_toInt_lt, Int32.lt_iff_toInt_lt, e1, e2]; omega
  exact ⟨r, (get16 _ r).2⟩
theorem modN (x : Int32) (d : Nat) (h0 : 0 < d) (hd : d ≤ 8) : ∃ r, r < d ∧ (x &&& 7) % Int32.ofNat d = Int32.ofNat r := by
  have h1 := c_mask x 7 3 (by decide) (by decide)
  have h2 := (c_irem (x &&& 7) (Int32.ofNat d) d (ofNat_toInt (by omega))).1 (by rw [h1]; omega)
  have h3 := Int.emod_nonneg (x &&& 7).toInt (b := (d : Int)) (by omega)
  have h4 := Int.emod_lt_of_pos (x &&& 7).toInt (b := (d : Int)) (by omega)
  rw [← h2] at h3 h4
  refine ⟨((x &&& 7) % Int32.ofNat d).toInt.toNat, by omega, ?_⟩
  rw [← Int32.toInt_inj, ofNat_toInt (by omega)]; omega
theorem ofNat_ne {n : Nat} (h : 0 < n) (h' : n < 2 ^ 31) : Int32.ofNat n ≠ 0 := fun z => absurd ((ofNat_inj (b := 0) h' (by omega)).mp z) (by omega)
theorem sta_eq {Z : State} {args : Array Value} {C n d : String} {v : Int32} (h : (Jvm.Cond.eq (Jvm.Term.static C n d) (Jvm.Term.int v)).before args Z = true) (hi : (Jvm.Cond.initializedFor C n d).before args Z = true) : Sta Z Z.heap C n d (.int v) := by
  have h' := Cond.before_iff.mp h
  obtain ⟨x, y, hx, hy, k1, k2⟩ := cmp_v (Or.inl h')
  have ey : y = .int v := by
    have q := Term.int_eval (args := args) (first := Z) (o := none) (idx := []) (s := Z) v
    exact Option.some.inj (hy.symm.trans q)
  subst ey
  obtain ⟨w, rfl⟩ := k2
  have := gotT (Cond.eq_ints hx (Term.int_eval v)) h'
  subst this
  exact Sta.start hx (Or.inl hi)
theorem w_0 {a0 : Array Value} {Z : State} (hw : Hw a0 Z) : (Jvm.Cond.arrayClass Jvm.ClassFile.FieldType.char).before a0 Z = true := hw _ (List.mem_of_getElem? (i := 0) rfl)
theorem w_1 {a0 : Array Value} {Z : State} (hw : Hw a0 Z) : (Jvm.Cond.methodLink "com/example/passagework/passagework/CodePointsIndexOfPinLaw" (12 : Nat) ({ cls := "com/example/passagework/passagework/CodePointsIndexOfPinLaw", name := "ch", desc := "(I)C" } : Jvm.MethodName)).before a0 Z = true := hw _ (List.mem_of_getElem? (i := 1) rfl)
theorem w_2 {a0 : Array Value} {Z : State} (hw : Hw a0 Z) : (Jvm.Cond.static ({ cls := "com/example/passagework/passagework/CodePointsIndexOfPinLaw", name := "ch", desc := "(I)C" } : Jvm.MethodName)).before a0 Z = true := hw _ (List.mem_of_getElem? (i := 2) rfl)
theorem w_3 {a0 : Array Value} {Z : State} (hw : Hw a0 Z) : (Jvm.Cond.initialized "com/example/passagework/passagework/CodePointsIndexOfPinLaw").before a0 Z = true := hw _ (List.mem_of_getElem? (i := 3) rfl)
theorem w_4 {a0 : Array Value} {Z : State} (hw : Hw a0 Z) : (Jvm.Cond.code ({ cls := "com/example/passagework/passagework/CodePointsIndexOfPinLaw", name := "ch", desc := "(I)C" } : Jvm.MethodName) method_2_code (3 : Nat) (Option.some Jvm.ClassFile.FieldType.char)).before a0 Z = true := hw _ (List.mem_of_getElem? (i := 4) rfl)
theorem w_5 {a0 : Array Value} {Z : State} (hw : Hw a0 Z) : (Jvm.Cond.constant "com/example/passagework/passagework/CodePointsIndexOfPinLaw" (7 : Nat) (65535 : Int32)).before a0 Z = true := hw _ (List.mem_of_getElem? (i := 5) rfl)
theorem w_6 {a0 : Array Value} {Z : State} (hw : Hw a0 Z) : (Jvm.Cond.constant "com/example/passagework/passagework/CodePointsIndexOfPinLaw" (9 : Nat) (56320 : Int32)).before a0 Z = true := hw _ (List.mem_of_getElem? (i := 6) rfl)
theorem w_7 {a0 : Array Value} {Z : State} (hw : Hw a0 Z) : (Jvm.Cond.constant "com/example/passagework/passagework/CodePointsIndexOfPinLaw" (8 : Nat) (55296 : Int32)).before a0 Z = true := hw _ (List.mem_of_getElem? (i := 7) rfl)
theorem w_8 {a0 : Array Value} {Z : State} (hw : Hw a0 Z) : (Jvm.Cond.methodLink "com/example/passagework/passagework/CodePointsIndexOfPinLaw" (18 : Nat) ({ cls := "com/example/passagework/passagework/CodePointsIndexOfPinLaw", name := "isHigh", desc := "(C)Z" } : Jvm.MethodName)).before a0 Z = true := hw _ (List.mem_of_getElem? (i := 8) rfl)
theorem w_9 {a0 : Array Value} {Z : State} (hw : Hw a0 Z) : (Jvm.Cond.static ({ cls := "com/example/passagework/passagework/CodePointsIndexOfPinLaw", name := "isHigh", desc := "(C)Z" } : Jvm.MethodName)).before a0 Z = true := hw _ (List.mem_of_getElem? (i := 9) rfl)
theorem w_10 {a0 : Array Value} {Z : State} (hw : Hw a0 Z) : (Jvm.Cond.code ({ cls := "com/example/passagework/passagework/CodePointsIndexOfPinLaw", name := "isHigh", desc := "(C)Z" } : Jvm.MethodName) method_3_code (1 : Nat) (Option.some Jvm.ClassFile.FieldType.boolean)).before a0 Z = true := hw _ (List.mem_of_getElem? (i := 10) rfl)
theorem w_11 {a0 : Array Value} {Z : State} (hw : Hw a0 Z) : (Jvm.Cond.constant "com/example/passagework/passagework/CodePointsIndexOfPinLaw" (10 : Nat) (56319 : Int32)).before a0 Z = true := hw _ (List.mem_of_getElem? (i := 11) rfl)
theorem w_12 {a0 : Array Value} {Z : State} (hw : Hw a0 Z) : (Jvm.Cond.arrayClass Jvm.ClassFile.FieldType.int).before a0 Z = true := hw _ (List.mem_of_getElem? (i := 12) rfl)
theorem w_13 {a0 : Array Value} {Z : State} (hw : Hw a0 Z) : (Jvm.Cond.classLink "com/example/passagework/passagework/CodePointsIndexOfPinLaw" (25 : Nat) "com/example/passagework/passagework/CodePoints").before a0 Z = true := hw _ (List.mem_of_getElem? (i := 13) rfl)
theorem w_14 {a0 : Array Value} {Z : State} (hw : Hw a0 Z) : (Jvm.Cond.instantiable "com/example/passagework/passagework/CodePoints" (3 : Nat)).before a0 Z = true := hw _ (List.mem_of_getElem? (i := 14) rfl)
theorem w_15 {a0 : Array Value} {Z : State} (hw : Hw a0 Z) : (Jvm.Cond.initialized "com/example/passagework/passagework/CodePoints").before a0 Z = true := hw _ (List.mem_of_getElem? (i := 15) rfl)
theorem w_16 {a0 : Array Value} {Z : State} (hw : Hw a0 Z) : (Jvm.Cond.classLink "com/example/passagework/passagework/CodePointsIndexOfPinLaw" (27 : Nat) "java/lang/String").before a0 Z = true := hw _ (List.mem_of_getElem? (i := 16) rfl)
theorem w_17 {a0 : Array Value} {Z : State} (hw : Hw a0 Z) : (Jvm.Cond.instantiable "java/lang/String" (4 : Nat)).before a0 Z = true := hw _ (List.mem_of_getElem? (i := 17) rfl)
theorem w_18 {a0 : Array Value} {Z : State} (hw : Hw a0 Z) : (Jvm.Cond.initialized "java/lang/String").before a0 Z = true := hw _ (List.mem_of_getElem? (i := 18) rfl)
theorem w_19 {a0 : Array Value} {Z : State} (hw : Hw a0 Z) : (Jvm.Cond.methodLink "com/example/passagework/passagework/CodePointsIndexOfPinLaw" (29 : Nat) ({ cls := "java/lang/String", name := "<init>", desc := "([C)V" } : Jvm.MethodName)).before a0 Z = true := hw _ (List.mem_of_getElem? (i := 19) rfl)
theorem w_20 {a0 : Array Value} {Z : State} (hw : Hw a0 Z) : (Jvm.Cond.instanceMethod ({ cls := "java/lang/String", name := "<init>", desc := "([C)V" } : Jvm.MethodName)).before a0 Z = true := hw _ (List.mem_of_getElem? (i := 20) rfl)
theorem w_21 {a0 : Array Value} {Z : State} (hw : Hw a0 Z) : (Jvm.Cond.code ({ cls := "java/lang/String", name := "<init>", desc := "([C)V" } : Jvm.MethodName) jdk_42_method_3_code (2 : Nat) (Option.none : Option Jvm.ClassFile.FieldType)).before a0 Z = true := hw _ (List.mem_of_getElem? (i := 21) rfl)
theorem w_22 {a0 : Array Value} {Z : State} (hw : Hw a0 Z) : (Jvm.Cond.methodLink "java/lang/String" (27 : Nat) ({ cls := "java/lang/String", name := "<init>", desc := "([CIILjava/lang/Void;)V" } : Jvm.MethodName)).before a0 Z = true := hw _ (List.mem_of_getElem? (i := 22) rfl)
theorem w_23 {a0 : Array Value} {Z : State} (hw : Hw a0 Z) : (Jvm.Cond.instanceMethod ({ cls := "java/lang/String", name := "<init>", desc := "([CIILjava/lang/Void;)V" } : Jvm.MethodName)).before a0 Z = true := hw _ (List.mem_of_getElem? (i := 23) rfl)
theorem w_25 {a0 : Array Value} {Z : State} (hw : Hw a0 Z) : (Jvm.Cond.code ({ cls := "java/lang/String", name := "<init>", desc := "([CIILjava/lang/Void;)V" } : Jvm.MethodName) jdk_42_method_149_code (6 : Nat) (Option.none : Option Jvm.ClassFile.FieldType)).before a0 Z = true := hw _ (List.mem_of_getElem? (i := 25) rfl)
theorem w_26 {a0 : Array Value} {Z : State} (hw : Hw a0 Z) : (Jvm.Cond.methodLink "java/lang/String" (1 : Nat) ({ cls := "java/lang/Object", name := "<init>", desc := "()V" } : Jvm.MethodName)).before a0 Z = true := hw _ (List.mem_of_getElem? (i := 26) rfl)
theorem w_27 {a0 : Array Value} {Z : State} (hw : Hw a0 Z) : (Jvm.Cond.instanceMethod ({ cls := "java/lang/Object", name := "<init>", desc := "()V" } : Jvm.MethodName)).before a0 Z = true := hw _ (List.mem_of_getElem? (i := 27) rfl)
theorem w_28 {a0 : Array Value} {Z : State} (hw : Hw a0 Z) : (Jvm.Cond.code ({ cls := "java/lang/Object", name := "<init>", desc := "()V" } : Jvm.MethodName) object_method_1_code (1 : Nat) (Option.none : Option Jvm.ClassFile.FieldType)).before a0 Z = true := hw _ (List.mem_of_getElem? (i := 28) rfl)
theorem w_29 {a0 : Array Value} {Z : State} (hw : Hw a0 Z) : (Jvm.Cond.fieldLink "java/lang/String" (38 : Nat) "java/lang/String" "COMPACT_STRINGS" "Z").before a0 Z = true := hw _ (List.mem_of_getElem? (i := 29) rfl)
theorem w_30 {a0 : Array Value} {Z : State} (hw : Hw a0 Z) : (Jvm.Cond.methodLink "java/lang/String" (177 : Nat) ({ cls := "java/lang/StringUTF16", name := "compress", desc := "([CII)[B" } : Jvm.MethodName)).before a0 Z = true := hw _ (List.mem_of_getElem? (i := 30) rfl)
theorem w_31 {a0 : Array Value} {Z : State} (hw : Hw a0 Z) : (Jvm.Cond.static ({ cls := "java/lang/StringUTF16", name := "compress", desc := "([CII)[B" } : Jvm.MethodName)).before a0 Z = true := hw _ (List.mem_of_getElem? (i := 31) rfl)
theorem w_32 {a0 : Array Value} {Z : State} (hw : Hw a0 Z) : (Jvm.Cond.initialized "java/lang/StringUTF16").before a0 Z = true := hw _ (List.mem_of_getElem? (i := 32) rfl)
theorem w_33 {a0 : Array Value} {Z : State} (hw : Hw a0 Z) : (Jvm.Cond.code ({ cls := "java/lang/StringUTF16", name := "compress", desc := "([CII)[B" } : Jvm.MethodName) jdk_52_method_16_code (6 : Nat) (Option.some (Jvm.ClassFile.FieldType.array Jvm.ClassFile.FieldType.byte))).before a0 Z = true := hw _ (List.mem_of_getElem? (i := 33) rfl)
theorem w_34 {a0 : Array Value} {Z : State} (hw : Hw a0 Z) : (Jvm.Cond.arrayClass Jvm.ClassFile.FieldType.byte).before a0 Z = true := hw _ (List.mem_of_getElem? (i := 34) rfl)
theorem w_35 {a0 : Array Value} {Z : State} (hw : Hw a0 Z) : (Jvm.Cond.methodLink "java/lang/StringUTF16" (115 : Nat) ({ cls := "java/lang/StringUTF16", name := "compress", desc := "([CI[BII)I" } : Jvm.MethodName)).before a0 Z = true := hw _ (List.mem_of_getElem? (i := 35) rfl)
theorem w_36 {a0 : Array Value} {Z : State} (hw : Hw a0 Z) : (Jvm.Cond.static ({ cls := "java/lang/StringUTF16", name := "compress", desc := "([CI[BII)I" } : Jvm.MethodName)).before a0 Z = true := hw _ (List.mem_of_getElem? (i := 36) rfl)
theorem w_37 {a0 : Array Value} {Z : State} (hw : Hw a0 Z) : (Jvm.Cond.code ({ cls := "java/lang/StringUTF16", name := "compress", desc := "([CI[BII)I" } : Jvm.MethodName) jdk_52_method_21_code (7 : Nat) (Option.some Jvm.ClassFile.FieldType.int)).before a0 Z = true := hw _ (List.mem_of_getElem? (i := 37) rfl)
theorem w_38 {a0 : Array Value} {Z : State} (hw : Hw a0 Z) : (Jvm.Cond.methodLink "java/lang/StringUTF16" (119 : Nat) ({ cls := "java/lang/StringUTF16", name := "toBytes", desc := "([CII)[B" } : Jvm.MethodName)).before a0 Z = true := hw _ (List.mem_of_getElem? (i := 38) rfl)
theorem w_39 {a0 : Array Value} {Z : State} (hw : Hw a0 Z) : (Jvm.Cond.static ({ cls := "java/lang/StringUTF16", name := "toBytes", desc := "([CII)[B" } : Jvm.MethodName)).before a0 Z = true := hw _ (List.mem_of_getElem? (i := 39) rfl)
theorem w_40 {a0 : Array Value} {Z : State} (hw : Hw a0 Z) : (Jvm.Cond.code ({ cls := "java/lang/StringUTF16", name := "toBytes", desc := "([CII)[B" } : Jvm.MethodName) jdk_52_method_14_code (5 : Nat) (Option.some (Jvm.ClassFile.FieldType.array Jvm.ClassFile.FieldType.byte))).before a0 Z = true := hw _ (List.mem_of_getElem? (i := 40) rfl)
theorem w_41 {a0 : Array Value} {Z : State} (hw : Hw a0 Z) : (Jvm.Cond.methodLink "java/lang/StringUTF16" (107 : Nat) ({ cls := "java/lang/StringUTF16", name := "newBytesFor", desc := "(I)[B" } : Jvm.MethodName)).before a0 Z = true := hw _ (List.mem_of_getElem? (i := 41) rfl)
theorem w_42 {a0 : Array Value} {Z : State} (hw : Hw a0 Z) : (Jvm.Cond.static ({ cls := "java/lang/StringUTF16", name := "newBytesFor", desc := "(I)[B" } : Jvm.MethodName)).before a0 Z = true := hw _ (List.mem_of_getElem? (i := 42) rfl)
theorem w_43 {a0 : Array Value} {Z : State} (hw : Hw a0 Z) : (Jvm.Cond.code ({ cls := "java/lang/StringUTF16", name := "newBytesFor", desc := "(I)[B" } : Jvm.MethodName) jdk_52_method_2_code (1 : Nat) (Option.some (Jvm.ClassFile.FieldType.array Jvm.ClassFile.FieldType.byte))).before a0 Z = true := hw _ (List.mem_of_getElem? (i := 43) rfl)
theorem w_44 {a0 : Array Value} {Z : State} (hw : Hw a0 Z) : (Jvm.Cond.methodLink "java/lang/StringUTF16" (11 : Nat) ({ cls := "java/lang/StringUTF16", name := "newBytesLength", desc := "(I)I" } : Jvm.MethodName)).before a0 Z = true := hw _ (List.mem_of_getElem? (i := 44) rfl)
theorem w_45 {a0 : Array Value} {Z : State} (hw : Hw a0 Z) : (Jvm.Cond.static ({ cls := "java/lang/StringUTF16", name := "newBytesLength", desc := "(I)I" } : Jvm.MethodName)).before a0 Z = true := hw _ (List.mem_of_getElem? (i := 45) rfl)
theorem w_46 {a0 : Array Value} {Z : State} (hw : Hw a0 Z) : (Jvm.Cond.code ({ cls := "java/lang/StringUTF16", name := "newBytesLength", desc := "(I)I" } : Jvm.MethodName) jdk_52_method_3_code (1 : Nat) (Option.some Jvm.ClassFile.FieldType.int)).before a0 Z = true := hw _ (List.mem_of_getElem? (i := 46) rfl)
theorem w_47 {a0 : Array Value} {Z : State} (hw : Hw a0 Z) : (Jvm.Cond.constant "java/lang/StringUTF16" (20 : Nat) (1073741823 : Int32)).before a0 Z = true := hw _ (List.mem_of_getElem? (i := 47) rfl)
theorem w_48 {a0 : Array Value} {Z : State} (hw : Hw a0 Z) : (Jvm.Cond.methodLink "java/lang/StringUTF16" (111 : Nat) ({ cls := "java/lang/StringUTF16", name := "putChar", desc := "([BII)V" } : Jvm.MethodName)).before a0 Z = true := hw _ (List.mem_of_getElem? (i := 48) rfl)
theorem w_49 {a0 : Array Value} {Z : State} (hw : Hw a0 Z) : (Jvm.Cond.static ({ cls := "java/lang/StringUTF16", name := "putChar", desc := "([BII)V" } : Jvm.MethodName)).before a0 Z = true := hw _ (List.mem_of_getElem? (i := 49) rfl)
theorem w_50 {a0 : Array Value} {Z : State} (hw : Hw a0 Z) : (Jvm.Cond.code ({ cls := "java/lang/StringUTF16", name := "putChar", desc := "([BII)V" } : Jvm.MethodName) jdk_52_method_4_code (3 : Nat) (Option.none : Option Jvm.ClassFile.FieldType)).before a0 Z = true := hw _ (List.mem_of_getElem? (i := 50) rfl)
theorem w_51 {a0 : Array Value} {Z : State} (hw : Hw a0 Z) : (Jvm.Cond.fieldLink "java/lang/StringUTF16" (44 : Nat) "java/lang/StringUTF16" "$assertionsDisabled" "Z").before a0 Z = true := hw _ (List.mem_of_getElem? (i := 51) rfl)
theorem w_52 {a0 : Array Value} {Z : State} (hw : Hw a0 Z) : (Jvm.Cond.fieldLink "java/lang/StringUTF16" (59 : Nat) "java/lang/StringUTF16" "HI_BYTE_SHIFT" "I").before a0 Z = true := hw _ (List.mem_of_getElem? (i := 52) rfl)
theorem w_53 {a0 : Array Value} {Z : State} (hw : Hw a0 Z) : (Jvm.Cond.fieldLink "java/lang/StringUTF16" (63 : Nat) "java/lang/StringUTF16" "LO_BYTE_SHIFT" "I").before a0 Z = true := hw _ (List.mem_of_getElem? (i := 53) rfl)
theorem w_54 {a0 : Array Value} {Z : State} (hw : Hw a0 Z) : (Jvm.Cond.methodLink "java/lang/StringUTF16" (71 : Nat) ({ cls := "java/lang/StringUTF16", name := "getChar", desc := "([BI)C" } : Jvm.MethodName)).before a0 Z = true := hw _ (List.mem_of_getElem? (i := 54) rfl)
theorem w_55 {a0 : Array Value} {Z : State} (hw : Hw a0 Z) : (Jvm.Cond.static ({ cls := "java/lang/StringUTF16", name := "getChar", desc := "([BI)C" } : Jvm.MethodName)).before a0 Z = true := hw _ (List.mem_of_getElem? (i := 55) rfl)
theorem w_56 {a0 : Array Value} {Z : State} (hw : Hw a0 Z) : (Jvm.Cond.code ({ cls := "java/lang/StringUTF16", name := "getChar", desc := "([BI)C" } : Jvm.MethodName) jdk_52_method_5_code (2 : Nat) (Option.some Jvm.ClassFile.FieldType.char)).before a0 Z = true := hw _ (List.mem_of_getElem? (i := 56) rfl)
theorem w_57 {a0 : Array Value} {Z : State} (hw : Hw a0 Z) : (Jvm.Cond.methodLink "java/lang/String" (47 : Nat) ({ cls := "java/lang/StringUTF16", name := "coderFromArrayLen", desc := "([BI)B" } : Jvm.MethodName)).before a0 Z = true := hw _ (List.mem_of_getElem? (i := 57) rfl)
theorem w_58 {a0 : Array Value} {Z : State} (hw : Hw a0 Z) : (Jvm.Cond.static ({ cls := "java/lang/StringUTF16", name := "coderFromArrayLen", desc := "([BI)B" } : Jvm.MethodName)).before a0 Z = true := hw _ (List.mem_of_getElem? (i := 58) rfl)
theorem w_59 {a0 : Array Value} {Z : State} (hw : Hw a0 Z) : (Jvm.Cond.code ({ cls := "java/lang/StringUTF16", name := "coderFromArrayLen", desc := "([BI)B" } : Jvm.MethodName) jdk_52_method_15_code (2 : Nat) (Option.some Jvm.ClassFile.FieldType.byte)).before a0 Z = true := hw _ (List.mem_of_getElem? (i := 59) rfl)
theorem w_60 {a0 : Array Value} {Z : State} (hw : Hw a0 Z) : (Jvm.Cond.fieldLink "java/lang/String" (15 : Nat) "java/lang/String" "coder" "B").before a0 Z = true := hw _ (List.mem_of_getElem? (i := 60) rfl)
theorem w_61 {a0 : Array Value} {Z : State} (hw : Hw a0 Z) : (Jvm.Cond.laysFinal "java/lang/String" "java/lang/String" "coder" "B").before a0 Z = true := hw _ (List.mem_of_getElem? (i := 61) rfl)
theorem w_62 {a0 : Array Value} {Z : State} (hw : Hw a0 Z) : (Jvm.Cond.fieldLink "java/lang/String" (9 : Nat) "java/lang/String" "value" "[B").before a0 Z = true := hw _ (List.mem_of_getElem? (i := 62) rfl)
theorem w_63 {a0 : Array Value} {Z : State} (hw : Hw a0 Z) : (Jvm.Cond.laysFinal "java/lang/String" "java/lang/String" "value" "[B").before a0 Z = true := hw _ (List.mem_of_getElem? (i := 63) rfl)
theorem w_64 {a0 : Array Value} {Z : State} (hw : Hw a0 Z) : (Jvm.Cond.methodLink "com/example/passagework/passagework/CodePointsIndexOfPinLaw" (32 : Nat) ({ cls := "com/example/passagework/passagework/CodePoints", name := "<init>", desc := "(Ljava/lang/String;)V" } : Jvm.MethodName)).before a0 Z = true := hw _ (List.mem_of_getElem? (i := 64) rfl)
theorem w_65 {a0 : Array Value} {Z : State} (hw : Hw a0 Z) : (Jvm.Cond.instanceMethod ({ cls := "com/example/passagework/passagework/CodePoints", name := "<init>", desc := "(Ljava/lang/String;)V" } : Jvm.MethodName)).before a0 Z = true := hw _ (List.mem_of_getElem? (i := 65) rfl)
theorem w_66 {a0 : Array Value} {Z : State} (hw : Hw a0 Z) : (Jvm.Cond.code ({ cls := "com/example/passagework/passagework/CodePoints", name := "<init>", desc := "(Ljava/lang/String;)V" } : Jvm.MethodName) prog_5_method_1_code (2 : Nat) (Option.none : Option Jvm.ClassFile.FieldType)).before a0 Z = true := hw _ (List.mem_of_getElem? (i := 66) rfl)
theorem w_67 {a0 : Array Value} {Z : State} (hw : Hw a0 Z) : (Jvm.Cond.methodLink "com/example/passagework/passagework/CodePoints" (1 : Nat) ({ cls := "java/lang/Object", name := "<init>", desc := "()V" } : Jvm.MethodName)).before a0 Z = true := hw _ (List.mem_of_getElem? (i := 67) rfl)
theorem w_68 {a0 : Array Value} {Z : State} (hw : Hw a0 Z) : (Jvm.Cond.fieldLink "com/example/passagework/passagework/CodePoints" (7 : Nat) "com/example/passagework/passagework/CodePoints" "text" "Ljava/lang/String;").before a0 Z = true := hw _ (List.mem_of_getElem? (i := 68) rfl)
theorem w_69 {a0 : Array Value} {Z : State} (hw : Hw a0 Z) : (Jvm.Cond.laysFinal "com/example/passagework/passagework/CodePoints" "com/example/passagework/passagework/CodePoints" "text" "Ljava/lang/String;").before a0 Z = true := hw _ (List.mem_of_getElem? (i := 69) rfl)
theorem w_70 {a0 : Array Value} {Z : State} (hw : Hw a0 Z) : (Jvm.Cond.methodLink "com/example/passagework/passagework/CodePointsIndexOfPinLaw" (35 : Nat) ({ cls := "com/example/passagework/passagework/CodePoints", name := "indexOf", desc := "(I)I" } : Jvm.MethodName)).before a0 Z = true := hw _ (List.mem_of_getElem? (i := 70) rfl)
theorem w_71 {a0 : Array Value} {Z : State} (hw : Hw a0 Z) : (Jvm.Cond.declares ({ cls := "com/example/passagework/passagework/CodePoints", name := "indexOf", desc := "(I)I" } : Jvm.MethodName)).before a0 Z = true := hw _ (List.mem_of_getElem? (i := 71) rfl)
theorem w_72 {a0 : Array Value} {Z : State} (hw : Hw a0 Z) : (Jvm.Cond.instanceMethod ({ cls := "com/example/passagework/passagework/CodePoints", name := "indexOf", desc := "(I)I" } : Jvm.MethodName)).before a0 Z = true := hw _ (List.mem_of_getElem? (i := 72) rfl)
theorem w_73 {a0 : Array Value} {Z : State} (hw : Hw a0 Z) : (Jvm.Cond.selects "com/example/passagework/passagework/CodePoints" ({ cls := "com/example/passagework/passagework/CodePoints", name := "indexOf", desc := "(I)I" } : Jvm.MethodName) ({ cls := "com/example/passagework/passagework/CodePoints", name := "indexOf", desc := "(I)I" } : Jvm.MethodName)).before a0 Z = true := hw _ (List.mem_of_getElem? (i := 73) rfl)
theorem w_74 {a0 : Array Value} {Z : State} (hw : Hw a0 Z) : (Jvm.Cond.code ({ cls := "com/example/passagework/passagework/CodePoints", name := "indexOf", desc := "(I)I" } : Jvm.MethodName) prog_5_method_5_code (2 : Nat) (Option.some Jvm.ClassFile.FieldType.int)).before a0 Z = true := hw _ (List.mem_of_getElem? (i := 74) rfl)
theorem w_75 {a0 : Array Value} {Z : State} (hw : Hw a0 Z) : (Jvm.Cond.fieldLink "com/example/passagework/passagework/CodePoints" (17 : Nat) "com/example/passagework/passagework/CodePoints" "charIndex" "I").before a0 Z = true := hw _ (List.mem_of_getElem? (i := 75) rfl)
theorem w_76 {a0 : Array Value} {Z : State} (hw : Hw a0 Z) : (Jvm.Cond.lays "com/example/passagework/passagework/CodePoints" "com/example/passagework/passagework/CodePoints" "charIndex" "I").before a0 Z = true := hw _ (List.mem_of_getElem? (i := 76) rfl)
theorem w_77 {a0 : Array Value} {Z : State} (hw : Hw a0 Z) : (Jvm.Cond.fieldLink "com/example/passagework/passagework/CodePoints" (13 : Nat) "com/example/passagework/passagework/CodePoints" "codePointOffset" "I").before a0 Z = true := hw _ (List.mem_of_getElem? (i := 77) rfl)
theorem w_78 {a0 : Array Value} {Z : State} (hw : Hw a0 Z) : (Jvm.Cond.lays "com/example/passagework/passagework/CodePoints" "com/example/passagework/passagework/CodePoints" "codePointOffset" "I").before a0 Z = true := hw _ (List.mem_of_getElem? (i := 78) rfl)
theorem w_79 {a0 : Array Value} {Z : State} (hw : Hw a0 Z) : (Jvm.Cond.methodLink "com/example/passagework/passagework/CodePoints" (60 : Nat) ({ cls := "java/lang/String", name := "offsetByCodePoints", desc := "(II)I" } : Jvm.MethodName)).before a0 Z = true := hw _ (List.mem_of_getElem? (i := 79) rfl)
theorem w_80 {a0 : Array Value} {Z : State} (hw : Hw a0 Z) : (Jvm.Cond.declares ({ cls := "java/lang/String", name := "offsetByCodePoints", desc := "(II)I" } : Jvm.MethodName)).before a0 Z = true := hw _ (List.mem_of_getElem? (i := 80) rfl)
theorem w_81 {a0 : Array Value} {Z : State} (hw : Hw a0 Z) : (Jvm.Cond.instanceMethod ({ cls := "java/lang/String", name := "offsetByCodePoints", desc := "(II)I" } : Jvm.MethodName)).before a0 Z = true := hw _ (List.mem_of_getElem? (i := 81) rfl)
theorem w_82 {a0 : Array Value} {Z : State} (hw : Hw a0 Z) : (Jvm.Cond.selects "java/lang/String" ({ cls := "java/lang/String", name := "offsetByCodePoints", desc := "(II)I" } : Jvm.MethodName) ({ cls := "java/lang/String", name := "offsetByCodePoints", desc := "(II)I" } : Jvm.MethodName)).before a0 Z = true := hw _ (List.mem_of_getElem? (i := 82) rfl)
theorem w_83 {a0 : Array Value} {Z : State} (hw : Hw a0 Z) : (Jvm.Cond.code ({ cls := "java/lang/String", name := "offsetByCodePoints", desc := "(II)I" } : Jvm.MethodName) jdk_42_method_60_code (3 : Nat) (Option.some Jvm.ClassFile.FieldType.int)).before a0 Z = true := hw _ (List.mem_of_getElem? (i := 83) rfl)
theorem w_84 {a0 : Array Value} {Z : State} (hw : Hw a0 Z) : (Jvm.Cond.methodLink "java/lang/String" (517 : Nat) ({ cls := "java/lang/Character", name := "offsetByCodePoints", desc := "(Ljava/lang/CharSequence;II)I" } : Jvm.MethodName)).before a0 Z = true := hw _ (List.mem_of_getElem? (i := 84) rfl)
theorem w_85 {a0 : Array Value} {Z : State} (hw : Hw a0 Z) : (Jvm.Cond.static ({ cls := "java/lang/Character", name := "offsetByCodePoints", desc := "(Ljava/lang/CharSequence;II)I" } : Jvm.MethodName)).before a0 Z = true := hw _ (List.mem_of_getElem? (i := 85) rfl)
theorem w_86 {a0 : Array Value} {Z : State} (hw : Hw a0 Z) : (Jvm.Cond.initialized "java/lang/Character").before a0 Z = true := hw _ (List.mem_of_getElem? (i := 86) rfl)
theorem w_87 {a0 : Array Value} {Z : State} (hw : Hw a0 Z) : (Jvm.Cond.code ({ cls := "java/lang/Character", name := "offsetByCodePoints", desc := "(Ljava/lang/CharSequence;II)I" } : Jvm.MethodName) jdk_89_method_36_code (6 : Nat) (Option.some Jvm.ClassFile.FieldType.int)).before a0 Z = true := hw _ (List.mem_of_getElem? (i := 87) rfl)
theorem w_88 {a0 : Array Value} {Z : State} (hw : Hw a0 Z) : (Jvm.Cond.methodLink "java/lang/Character" (92 : Nat) ({ cls := "java/lang/CharSequence", name := "length", desc := "()I" } : Jvm.MethodName)).before a0 Z = true := hw _ (List.mem_of_getElem? (i := 88) rfl)
theorem w_89 {a0 : Array Value} {Z : State} (hw : Hw a0 Z) : (Jvm.Cond.declares ({ cls := "java/lang/CharSequence", name := "length", desc := "()I" } : Jvm.MethodName)).before a0 Z = true := hw _ (List.mem_of_getElem? (i := 89) rfl)
theorem w_90 {a0 : Array Value} {Z : State} (hw : Hw a0 Z) : (Jvm.Cond.interfaceMethod "java/lang/CharSequence" "java/lang/CharSequence" "length" "()I").before a0 Z = true := hw _ (List.mem_of_getElem? (i := 90) rfl)
theorem w_91 {a0 : Array Value} {Z : State} (hw : Hw a0 Z) : (Jvm.Cond.selects "java/lang/String" ({ cls := "java/lang/CharSequence", name := "length", desc := "()I" } : Jvm.MethodName) ({ cls := "java/lang/String", name := "length", desc := "()I" } : Jvm.MethodName)).before a0 Z = true := hw _ (List.mem_of_getElem? (i := 91) rfl)
theorem w_92 {a0 : Array Value} {Z : State} (hw : Hw a0 Z) : (Jvm.Cond.instanceMethod ({ cls := "java/lang/String", name := "length", desc := "()I" } : Jvm.MethodName)).before a0 Z = true := hw _ (List.mem_of_getElem? (i := 92) rfl)
theorem w_93 {a0 : Array Value} {Z : State} (hw : Hw a0 Z) : (Jvm.Cond.publicMethod ({ cls := "java/lang/String", name := "length", desc := "()I" } : Jvm.MethodName)).before a0 Z = true := hw _ (List.mem_of_getElem? (i := 93) rfl)
theorem w_94 {a0 : Array Value} {Z : State} (hw : Hw a0 Z) : (Jvm.Cond.unhidden "java/lang/String" "length" "()I").before a0 Z = true := hw _ (List.mem_of_getElem? (i := 94) rfl)
theorem w_95 {a0 : Array Value} {Z : State} (hw : Hw a0 Z) : (Jvm.Cond.castable "java/lang/String" "java/lang/CharSequence").before a0 Z = true := hw _ (List.mem_of_getElem? (i := 95) rfl)
theorem w_96 {a0 : Array Value} {Z : State} (hw : Hw a0 Z) : (Jvm.Cond.code ({ cls := "java/lang/String", name := "length", desc := "()I" } : Jvm.MethodName) jdk_42_method_54_code (1 : Nat) (Option.some Jvm.ClassFile.FieldType.int)).before a0 Z = true := hw _ (List.mem_of_getElem? (i := 96) rfl)
theorem w_97 {a0 : Array Value} {Z : State} (hw : Hw a0 Z) : (Jvm.Cond.methodLink "java/lang/String" (335 : Nat) ({ cls := "java/lang/String", name := "coder", desc := "()B" } : Jvm.MethodName)).before a0 Z = true := hw _ (List.mem_of_getElem? (i := 97) rfl)
theorem w_98 {a0 : Array Value} {Z : State} (hw : Hw a0 Z) : (Jvm.Cond.declares ({ cls := "java/lang/String", name := "coder", desc := "()B" } : Jvm.MethodName)).before a0 Z = true := hw _ (List.mem_of_getElem? (i := 98) rfl)
theorem w_99 {a0 : Array Value} {Z : State} (hw : Hw a0 Z) : (Jvm.Cond.instanceMethod ({ cls := "java/lang/String", name := "coder", desc := "()B" } : Jvm.MethodName)).before a0 Z = true := hw _ (List.mem_of_getElem? (i := 99) rfl)
theorem w_100 {a0 : Array Value} {Z : State} (hw : Hw a0 Z) : (Jvm.Cond.selects "java/lang/String" ({ cls := "java/lang/String", name := "coder", desc := "()B" } : Jvm.MethodName) ({ cls := "java/lang/String", name := "coder", desc := "()B" } : Jvm.MethodName)).before a0 Z = true := hw _ (List.mem_of_getElem? (i := 100) rfl)
theorem w_101 {a0 : Array Value} {Z : State} (hw : Hw a0 Z) : (Jvm.Cond.code ({ cls := "java/lang/String", name := "coder", desc := "()B" } : Jvm.MethodName) jdk_42_method_152_code (1 : Nat) (Option.some Jvm.ClassFile.FieldType.byte)).before a0 Z = true := hw _ (List.mem_of_getElem? (i := 101) rfl)
theorem w_102 {a0 : Array Value} {Z : State} (hw : Hw a0 Z) : (Jvm.Cond.methodLink "java/lang/Character" (86 : Nat) ({ cls := "java/lang/CharSequence", name := "charAt", desc := "(I)C" } : Jvm.MethodName)).before a0 Z = true := hw _ (List.mem_of_getElem? (i := 102) rfl)
theorem w_103 {a0 : Array Value} {Z : State} (hw : Hw a0 Z) : (Jvm.Cond.declares ({ cls := "java/lang/CharSequence", name := "charAt", desc := "(I)C" } : Jvm.MethodName)).before a0 Z = true := hw _ (List.mem_of_getElem? (i := 103) rfl)
theorem w_104 {a0 : Array Value} {Z : State} (hw : Hw a0 Z) : (Jvm.Cond.interfaceMethod "java/lang/CharSequence" "java/lang/CharSequence" "charAt" "(I)C").before a0 Z = true := hw _ (List.mem_of_getElem? (i := 104) rfl)
theorem w_105 {a0 : Array Value} {Z : State} (hw : Hw a0 Z) : (Jvm.Cond.selects "java/lang/String" ({ cls := "java/lang/CharSequence", name := "charAt", desc := "(I)C" } : Jvm.MethodName) ({ cls := "java/lang/String", name := "charAt", desc := "(I)C" } : Jvm.MethodName)).before a0 Z = true := hw _ (List.mem_of_getElem? (i := 105) rfl)
theorem w_106 {a0 : Array Value} {Z : State} (hw : Hw a0 Z) : (Jvm.Cond.instanceMethod ({ cls := "java/lang/String", name := "charAt", desc := "(I)C" } : Jvm.MethodName)).before a0 Z = true := hw _ (List.mem_of_getElem? (i := 106) rfl)
theorem w_107 {a0 : Array Value} {Z : State} (hw : Hw a0 Z) : (Jvm.Cond.publicMethod ({ cls := "java/lang/String", name := "charAt", desc := "(I)C" } : Jvm.MethodName)).before a0 Z = true := hw _ (List.mem_of_getElem? (i := 107) rfl)
theorem w_108 {a0 : Array Value} {Z : State} (hw : Hw a0 Z) : (Jvm.Cond.unhidden "java/lang/String" "charAt" "(I)C").before a0 Z = true := hw _ (List.mem_of_getElem? (i := 108) rfl)
theorem w_109 {a0 : Array Value} {Z : State} (hw : Hw a0 Z) : (Jvm.Cond.code ({ cls := "java/lang/String", name := "charAt", desc := "(I)C" } : Jvm.MethodName) jdk_42_method_56_code (2 : Nat) (Option.some Jvm.ClassFile.FieldType.char)).before a0 Z = true := hw _ (List.mem_of_getElem? (i := 109) rfl)
theorem w_110 {a0 : Array Value} {Z : State} (hw : Hw a0 Z) : (Jvm.Cond.methodLink "java/lang/String" (492 : Nat) ({ cls := "java/lang/String", name := "isLatin1", desc := "()Z" } : Jvm.MethodName)).before a0 Z = true := hw _ (List.mem_of_getElem? (i := 110) rfl)
theorem w_111 {a0 : Array Value} {Z : State} (hw : Hw a0 Z) : (Jvm.Cond.declares ({ cls := "java/lang/String", name := "isLatin1", desc := "()Z" } : Jvm.MethodName)).before a0 Z = true := hw _ (List.mem_of_getElem? (i := 111) rfl)
theorem w_112 {a0 : Array Value} {Z : State} (hw : Hw a0 Z) : (Jvm.Cond.instanceMethod ({ cls := "java/lang/String", name := "isLatin1", desc := "()Z" } : Jvm.MethodName)).before a0 Z = true := hw _ (List.mem_of_getElem? (i := 112) rfl)
theorem w_113 {a0 : Array Value} {Z : State} (hw : Hw a0 Z) : (Jvm.Cond.selects "java/lang/String" ({ cls := "java/lang/String", name := "isLatin1", desc := "()Z" } : Jvm.MethodName) ({ cls := "java/lang/String", name := "isLatin1", desc := "()Z" } : Jvm.MethodName)).before a0 Z = true := hw _ (List.mem_of_getElem? (i := 113) rfl)
theorem w_114 {a0 : Array Value} {Z : State} (hw : Hw a0 Z) : (Jvm.Cond.code ({ cls := "java/lang/String", name := "isLatin1", desc := "()Z" } : Jvm.MethodName) jdk_42_method_154_code (1 : Nat) (Option.some Jvm.ClassFile.FieldType.boolean)).before a0 Z = true := hw _ (List.mem_of_getElem? (i := 114) rfl)
theorem w_115 {a0 : Array Value} {Z : State} (hw : Hw a0 Z) : (Jvm.Cond.methodLink "java/lang/String" (498 : Nat) ({ cls := "java/lang/StringUTF16", name := "charAt", desc := "([BI)C" } : Jvm.MethodName)).before a0 Z = true := hw _ (List.mem_of_getElem? (i := 115) rfl)
theorem w_116 {a0 : Array Value} {Z : State} (hw : Hw a0 Z) : (Jvm.Cond.static ({ cls := "java/lang/StringUTF16", name := "charAt", desc := "([BI)C" } : Jvm.MethodName)).before a0 Z = true := hw _ (List.mem_of_getElem? (i := 116) rfl)
theorem w_117 {a0 : Array Value} {Z : State} (hw : Hw a0 Z) : (Jvm.Cond.code ({ cls := "java/lang/StringUTF16", name := "charAt", desc := "([BI)C" } : Jvm.MethodName) jdk_52_method_83_code (2 : Nat) (Option.some Jvm.ClassFile.FieldType.char)).before a0 Z = true := hw _ (List.mem_of_getElem? (i := 117) rfl)
theorem w_118 {a0 : Array Value} {Z : State} (hw : Hw a0 Z) : (Jvm.Cond.methodLink "java/lang/StringUTF16" (67 : Nat) ({ cls := "java/lang/StringUTF16", name := "checkIndex", desc := "(I[B)V" } : Jvm.MethodName)).before a0 Z = true := hw _ (List.mem_of_getElem? (i := 118) rfl)
theorem w_119 {a0 : Array Value} {Z : State} (hw : Hw a0 Z) : (Jvm.Cond.static ({ cls := "java/lang/StringUTF16", name := "checkIndex", desc := "(I[B)V" } : Jvm.MethodName)).before a0 Z = true := hw _ (List.mem_of_getElem? (i := 119) rfl)
theorem w_120 {a0 : Array Value} {Z : State} (hw : Hw a0 Z) : (Jvm.Cond.code ({ cls := "java/lang/StringUTF16", name := "checkIndex", desc := "(I[B)V" } : Jvm.MethodName) jdk_52_method_91_code (2 : Nat) (Option.none : Option Jvm.ClassFile.FieldType)).before a0 Z = true := hw _ (List.mem_of_getElem? (i := 120) rfl)
theorem w_121 {a0 : Array Value} {Z : State} (hw : Hw a0 Z) : (Jvm.Cond.methodLink "java/lang/StringUTF16" (48 : Nat) ({ cls := "java/lang/StringUTF16", name := "length", desc := "([B)I" } : Jvm.MethodName)).before a0 Z = true := hw _ (List.mem_of_getElem? (i := 121) rfl)
theorem w_122 {a0 : Array Value} {Z : State} (hw : Hw a0 Z) : (Jvm.Cond.static ({ cls := "java/lang/StringUTF16", name := "length", desc := "([B)I" } : Jvm.MethodName)).before a0 Z = true := hw _ (List.mem_of_getElem? (i := 122) rfl)
theorem w_123 {a0 : Array Value} {Z : State} (hw : Hw a0 Z) : (Jvm.Cond.code ({ cls := "java/lang/StringUTF16", name := "length", desc := "([B)I" } : Jvm.MethodName) jdk_52_method_6_code (1 : Nat) (Option.some Jvm.ClassFile.FieldType.int)).before a0 Z = true := hw _ (List.mem_of_getElem? (i := 123) rfl)
theorem w_124 {a0 : Array Value} {Z : State} (hw : Hw a0 Z) : (Jvm.Cond.methodLink "java/lang/StringUTF16" (414 : Nat) ({ cls := "java/lang/String", name := "checkIndex", desc := "(II)V" } : Jvm.MethodName)).before a0 Z = true := hw _ (List.mem_of_getElem? (i := 124) rfl)
theorem w_125 {a0 : Array Value} {Z : State} (hw : Hw a0 Z) : (Jvm.Cond.static ({ cls := "java/lang/String", name := "checkIndex", desc := "(II)V" } : Jvm.MethodName)).before a0 Z = true := hw _ (List.mem_of_getElem? (i := 125) rfl)
theorem w_126 {a0 : Array Value} {Z : State} (hw : Hw a0 Z) : (Jvm.Cond.code ({ cls := "java/lang/String", name := "checkIndex", desc := "(II)V" } : Jvm.MethodName) jdk_42_method_155_code (2 : Nat) (Option.none : Option Jvm.ClassFile.FieldType)).before a0 Z = true := hw _ (List.mem_of_getElem? (i := 126) rfl)
theorem w_127 {a0 : Array Value} {Z : State} (hw : Hw a0 Z) : (Jvm.Cond.fieldLink "java/lang/String" (1053 : Nat) "jdk/internal/util/Preconditions" "SIOOBE_FORMATTER" "Ljava/util/function/BiFunction;").before a0 Z = true := hw _ (List.mem_of_getElem? (i := 127) rfl)
theorem w_128 {a0 : Array Value} {Z : State} (hw : Hw a0 Z) : (Jvm.Cond.initialized "jdk/internal/util/Preconditions").before a0 Z = true := hw _ (List.mem_of_getElem? (i := 128) rfl)
theorem w_129 {a0 : Array Value} {Z : State} (hw : Hw a0 Z) : (Jvm.Cond.methodLink "java/lang/String" (1059 : Nat) ({ cls := "jdk/internal/util/Preconditions", name := "checkIndex", desc := "(IILjava/util/function/BiFunction;)I" } : Jvm.MethodName)).before a0 Z = true := hw _ (List.mem_of_getElem? (i := 129) rfl)
theorem w_130 {a0 : Array Value} {Z : State} (hw : Hw a0 Z) : (Jvm.Cond.static ({ cls := "jdk/internal/util/Preconditions", name := "checkIndex", desc := "(IILjava/util/function/BiFunction;)I" } : Jvm.MethodName)).before a0 Z = true := hw _ (List.mem_of_getElem? (i := 130) rfl)
theorem w_131 {a0 : Array Value} {Z : State} (hw : Hw a0 Z) : (Jvm.Cond.code ({ cls := "jdk/internal/util/Preconditions", name := "checkIndex", desc := "(IILjava/util/function/BiFunction;)I" } : Jvm.MethodName) jdk_41_method_11_code (3 : Nat) (Option.some Jvm.ClassFile.FieldType.int)).before a0 Z = true := hw _ (List.mem_of_getElem? (i := 131) rfl)
theorem w_132 {a0 : Array Value} {Z : State} (hw : Hw a0 Z) : (Jvm.Cond.methodLink "java/lang/Character" (78 : Nat) ({ cls := "java/lang/Character", name := "isHighSurrogate", desc := "(C)Z" } : Jvm.MethodName)).before a0 Z = true := hw _ (List.mem_of_getElem? (i := 132) rfl)
theorem w_133 {a0 : Array Value} {Z : State} (hw : Hw a0 Z) : (Jvm.Cond.static ({ cls := "java/lang/Character", name := "isHighSurrogate", desc := "(C)Z" } : Jvm.MethodName)).before a0 Z = true := hw _ (List.mem_of_getElem? (i := 133) rfl)
theorem w_134 {a0 : Array Value} {Z : State} (hw : Hw a0 Z) : (Jvm.Cond.code ({ cls := "java/lang/Character", name := "isHighSurrogate", desc := "(C)Z" } : Jvm.MethodName) jdk_89_method_14_code (1 : Nat) (Option.some Jvm.ClassFile.FieldType.boolean)).before a0 Z = true := hw _ (List.mem_of_getElem? (i := 134) rfl)
theorem w_135 {a0 : Array Value} {Z : State} (hw : Hw a0 Z) : (Jvm.Cond.constant "java/lang/Character" (75 : Nat) (55296 : Int32)).before a0 Z = true := hw _ (List.mem_of_getElem? (i := 135) rfl)
theorem w_136 {a0 : Array Value} {Z : State} (hw : Hw a0 Z) : (Jvm.Cond.methodLink "com/example/passagework/passagework/CodePointsIndexOfPinLaw" (22 : Nat) ({ cls := "com/example/passagework/passagework/CodePointsIndexOfPinLaw", name := "isLow", desc := "(C)Z" } : Jvm.MethodName)).before a0 Z = true := hw _ (List.mem_of_getElem? (i := 136) rfl)
theorem w_137 {a0 : Array Value} {Z : State} (hw : Hw a0 Z) : (Jvm.Cond.static ({ cls := "com/example/passagework/passagework/CodePointsIndexOfPinLaw", name := "isLow", desc := "(C)Z" } : Jvm.MethodName)).before a0 Z = true := hw _ (List.mem_of_getElem? (i := 137) rfl)
theorem w_138 {a0 : Array Value} {Z : State} (hw : Hw a0 Z) : (Jvm.Cond.code ({ cls := "com/example/passagework/passagework/CodePointsIndexOfPinLaw", name := "isLow", desc := "(C)Z" } : Jvm.MethodName) method_4_code (1 : Nat) (Option.some Jvm.ClassFile.FieldType.boolean)).before a0 Z = true := hw _ (List.mem_of_getElem? (i := 138) rfl)
theorem w_139 {a0 : Array Value} {Z : State} (hw : Hw a0 Z) : (Jvm.Cond.constant "java/lang/Character" (76 : Nat) (56320 : Int32)).before a0 Z = true := hw _ (List.mem_of_getElem? (i := 139) rfl)
theorem w_140 {a0 : Array Value} {Z : State} (hw : Hw a0 Z) : (Jvm.Cond.constant "com/example/passagework/passagework/CodePointsIndexOfPinLaw" (11 : Nat) (57343 : Int32)).before a0 Z = true := hw _ (List.mem_of_getElem? (i := 140) rfl)
theorem w_141 {a0 : Array Value} {Z : State} (hw : Hw a0 Z) : (Jvm.Cond.methodLink "java/lang/Character" (82 : Nat) ({ cls := "java/lang/Character", name := "isLowSurrogate", desc := "(C)Z" } : Jvm.MethodName)).before a0 Z = true := hw _ (List.mem_of_getElem? (i := 141) rfl)
theorem w_142 {a0 : Array Value} {Z : State} (hw : Hw a0 Z) : (Jvm.Cond.static ({ cls := "java/lang/Character", name := "isLowSurrogate", desc := "(C)Z" } : Jvm.MethodName)).before a0 Z = true := hw _ (List.mem_of_getElem? (i := 142) rfl)
theorem w_143 {a0 : Array Value} {Z : State} (hw : Hw a0 Z) : (Jvm.Cond.code ({ cls := "java/lang/Character", name := "isLowSurrogate", desc := "(C)Z" } : Jvm.MethodName) jdk_89_method_15_code (1 : Nat) (Option.some Jvm.ClassFile.FieldType.boolean)).before a0 Z = true := hw _ (List.mem_of_getElem? (i := 143) rfl)
theorem w_144 {a0 : Array Value} {Z : State} (hw : Hw a0 Z) : (Jvm.Cond.constant "java/lang/Character" (77 : Nat) (57344 : Int32)).before a0 Z = true := hw _ (List.mem_of_getElem? (i := 144) rfl)
theorem w_145 {a0 : Array Value} {Z : State} (hw : Hw a0 Z) : (Jvm.Cond.methodLink "java/lang/String" (495 : Nat) ({ cls := "java/lang/StringLatin1", name := "charAt", desc := "([BI)C" } : Jvm.MethodName)).before a0 Z = true := hw _ (List.mem_of_getElem? (i := 145) rfl)
theorem w_146 {a0 : Array Value} {Z : State} (hw : Hw a0 Z) : (Jvm.Cond.static ({ cls := "java/lang/StringLatin1", name := "charAt", desc := "([BI)C" } : Jvm.MethodName)).before a0 Z = true := hw _ (List.mem_of_getElem? (i := 146) rfl)
theorem w_147 {a0 : Array Value} {Z : State} (hw : Hw a0 Z) : (Jvm.Cond.initialized "java/lang/StringLatin1").before a0 Z = true := hw _ (List.mem_of_getElem? (i := 147) rfl)
theorem w_148 {a0 : Array Value} {Z : State} (hw : Hw a0 Z) : (Jvm.Cond.code ({ cls := "java/lang/StringLatin1", name := "charAt", desc := "([BI)C" } : Jvm.MethodName) jdk_43_method_2_code (2 : Nat) (Option.some Jvm.ClassFile.FieldType.char)).before a0 Z = true := hw _ (List.mem_of_getElem? (i := 148) rfl)
theorem w_149 {a0 : Array Value} {Z : State} (hw : Hw a0 Z) : (Jvm.Cond.methodLink "java/lang/StringLatin1" (9 : Nat) ({ cls := "java/lang/String", name := "checkIndex", desc := "(II)V" } : Jvm.MethodName)).before a0 Z = true := hw _ (List.mem_of_getElem? (i := 149) rfl)
theorem d26_0 : decode jdk_41_method_11_code 0 = .ok (.iload_n 0, 1) := by decide +kernel
theorem d26_1 : decode jdk_41_method_11_code 1 = .ok (.ifCond .lt 8, 3) := by decide +kernel
theorem d26_4 : decode jdk_41_method_11_code 4 = .ok (.iload_n 0, 1) := by decide +kernel
theorem d26_5 : decode jdk_41_method_11_code 5 = .ok (.iload_n 1, 1) := by decide +kernel
theorem d26_6 : decode jdk_41_method_11_code 6 = .ok (.if_icmp .lt 10, 3) := by decide +kernel
theorem d26_16 : decode jdk_41_method_11_code 16 = .ok (.iload_n 0, 1) := by decide +kernel
theorem d26_17 : decode jdk_41_method_11_code 17 = .ok (.ireturn, 1) := by decide +kernel
theorem d4_0 : decode jdk_42_method_149_code 0 = .ok (.aload_n 0, 1) := by decide +kernel
theorem d4_1 : decode jdk_42_method_149_code 1 = .ok (.invokespecial 1, 3) := by decide +kernel
theorem d4_4 : decode jdk_42_method_149_code 4 = .ok (.iload_n 3, 1) := by decide +kernel
theorem d4_5 : decode jdk_42_method_149_code 5 = .ok (.ifCond .ne 22, 3) := by decide +kernel
theorem d4_27 : decode jdk_42_method_149_code 27 = .ok (.getstatic 38, 3) := by decide +kernel
theorem d4_30 : decode jdk_42_method_149_code 30 = .ok (.ifCond .eq 28, 3) := by decide +kernel
theorem d4_33 : decode jdk_42_method_149_code 33 = .ok (.aload_n 1, 1) := by decide +kernel
theorem d4_34 : decode jdk_42_method_149_code 34 = .ok (.iload_n 2, 1) := by decide +kernel
theorem d4_35 : decode jdk_42_method_149_code 35 = .ok (.iload_n 3, 1) := by decide +kernel
theorem d4_36 : decode jdk_42_method_149_code 36 = .ok (.invokestatic 177, 3) := by decide +kernel
theorem d4_39 : decode jdk_42_method_149_code 39 = .ok (.astore 5, 2) := by decide +kernel
theorem d4_41 : decode jdk_42_method_149_code 41 = .ok (.aload_n 0, 1) := by decide +kernel
theorem d4_42 : decode jdk_42_method_149_code 42 = .ok (.aload 5, 2) := by decide +kernel
theorem d4_44 : decode jdk_42_method_149_code 44 = .ok (.iload_n 3, 1) := by decide +kernel
theorem d4_45 : decode jdk_42_method_149_code 45 = .ok (.invokestatic 47, 3) := by decide +kernel
theorem d4_48 : decode jdk_42_method_149_code 48 = .ok (.putfield 15, 3) := by decide +kernel
theorem d4_51 : decode jdk_42_method_149_code 51 = .ok (.aload_n 0, 1) := by decide +kernel
theorem d4_52 : decode jdk_42_method_149_code 52 = .ok (.aload 5, 2) := by decide +kernel
theorem d4_54 : decode jdk_42_method_149_code 54 = .ok (.putfield 9, 3) := by decide +kernel
theorem d4_57 : decode jdk_42_method_149_code 57 = .ok (.return_, 1) := by decide +kernel
theorem d19_0 : decode jdk_42_method_152_code 0 = .ok (.getstatic 38, 3) := by decide +kernel
theorem d19_3 : decode jdk_42_method_152_code 3 = .ok (.ifCond .eq 10, 3) := by decide +kernel
theorem d19_6 : decode jdk_42_method_152_code 6 = .ok (.aload_n 0, 1) := by decide +kernel
theorem d19_7 : decode jdk_42_method_152_code 7 = .ok (.getfield 15, 3) := by decide +kernel
theorem d19_10 : decode jdk_42_method_152_code 10 = .ok (.goto 4, 3) := by decide +kernel
theorem d19_14 : decode jdk_42_method_152_code 14 = .ok (.ireturn, 1) := by decide +kernel
theorem d21_0 : decode jdk_42_method_154_code 0 = .ok (.getstatic 38, 3) := by decide +kernel
theorem d21_3 : decode jdk_42_method_154_code 3 = .ok (.ifCond .eq 14, 3) := by decide +kernel
theorem d21_6 : decode jdk_42_method_154_code 6 = .ok (.aload_n 0, 1) := by decide +kernel
theorem d21_7 : decode jdk_42_method_154_code 7 = .ok (.getfield 15, 3) := by decide +kernel
theorem d21_10 : decode jdk_42_method_154_code 10 = .ok (.ifCond .ne 7, 3) := by decide +kernel
theorem d21_13 : decode jdk_42_method_154_code 13 = .ok (.iconst 1, 1) := by decide +kernel
theorem d21_14 : decode jdk_42_method_154_code 14 = .ok (.goto 4, 3) := by decide +kernel
theorem d21_17 : decode jdk_42_method_154_code 17 = .ok (.iconst 0, 1) := by decide +kernel
theorem d21_18 : decode jdk_42_method_154_code 18 = .ok (.ireturn, 1) := by decide +kernel
theorem d25_0 : decode jdk_42_method_155_code 0 = .ok (.iload_n 0, 1) := by decide +kernel
theorem d25_1 : decode jdk_42_method_155_code 1 = .ok (.iload_n 1, 1) := by decide +kernel
theorem d25_2 : decode jdk_42_method_155_code 2 = .ok (.getstatic 1053, 3) := by decide +kernel
theorem d25_5 : decode jdk_42_method_155_code 5 = .ok (.invokestatic 1059, 3) := by decide +kernel
theorem d25_8 : decode jdk_42_method_155_code 8 = .ok (.pop, 1) := by decide +kernel
theorem d25_9 : decode jdk_42_method_155_code 9 = .ok (.return_, 1) := by decide +kernel
theorem d3_0 : decode jdk_42_method_3_code 0 = .ok (.aload_n 0, 1) := by decide +kernel
theorem d3_1 : decode jdk_42_method_3_code 1 = .ok (.aload_n 1, 1) := by decide +kernel
theorem d3_2 : decode jdk_42_method_3_code 2 = .ok (.iconst 0, 1) := by decide +kernel
theorem d3_3 : decode jdk_42_method_3_code 3 = .ok (.aload_n 1, 1) := by decide +kernel
theorem d3_4 : decode jdk_42_method_3_code 4 = .ok (.arraylength, 1) := by decide +kernel
theorem d3_5 : decode jdk_42_method_3_code 5 = .ok (.aconst_null, 1) := by decide +kernel
theorem d3_6 : decode jdk_42_method_3_code 6 = .ok (.invokespecial 27, 3) := by decide +kernel
theorem d3_9 : decode jdk_42_method_3_code 9 = .ok (.return_, 1) := by decide +kernel
theorem d18_0 : decode jdk_42_method_54_code 0 = .ok (.aload_n 0, 1) := by decide +kernel
theorem d18_1 : decode jdk_42_method_54_code 1 = .ok (.getfield 9, 3) := by decide +kernel
theorem d18_4 : decode jdk_42_method_54_code 4 = .ok (.arraylength, 1) := by decide +kernel
theorem d18_5 : decode jdk_42_method_54_code 5 = .ok (.aload_n 0, 1) := by decide +kernel
theorem d18_6 : decode jdk_42_method_54_code 6 = .ok (.invokevirtual 335, 3) := by decide +kernel
theorem d18_9 : decode jdk_42_method_54_code 9 = .ok (.ishr, 1) := by decide +kernel
theorem d18_10 : decode jdk_42_method_54_code 10 = .ok (.ireturn, 1) := by decide +kernel
theorem d20_0 : decode jdk_42_method_56_code 0 = .ok (.aload_n 0, 1) := by decide +kernel
theorem d20_1 : decode jdk_42_method_56_code 1 = .ok (.invokevirtual 492, 3) := by decide +kernel
theorem d20_4 : decode jdk_42_method_56_code 4 = .ok (.ifCond .eq 12, 3) := by decide +kernel
theorem d20_7 : decode jdk_42_method_56_code 7 = .ok (.aload_n 0, 1) := by decide +kernel
theorem d20_8 : decode jdk_42_method_56_code 8 = .ok (.getfield 9, 3) := by decide +kernel
theorem d20_11 : decode jdk_42_method_56_code 11 = .ok (.iload_n 1, 1) := by decide +kernel
theorem d20_12 : decode jdk_42_method_56_code 12 = .ok (.invokestatic 495, 3) := by decide +kernel
theorem d20_15 : decode jdk_42_method_56_code 15 = .ok (.ireturn, 1) := by decide +kernel
theorem d20_16 : decode jdk_42_method_56_code 16 = .ok (.aload_n 0, 1) := by decide +kernel
theorem d20_17 : decode jdk_42_method_56_code 17 = .ok (.getfield 9, 3) := by decide +kernel
theorem d20_20 : decode jdk_42_method_56_code 20 = .ok (.iload_n 1, 1) := by decide +kernel
theorem d20_21 : decode jdk_42_method_56_code 21 = .ok (.invokestatic 498, 3) := by decide +kernel
theorem d20_24 : decode jdk_42_method_56_code 24 = .ok (.ireturn, 1) := by decide +kernel
theorem d16_0 : decode jdk_42_method_60_code 0 = .ok (.aload_n 0, 1) := by decide +kernel
theorem d16_1 : decode jdk_42_method_60_code 1 = .ok (.iload_n 1, 1) := by decide +kernel
theorem d16_2 : decode jdk_42_method_60_code 2 = .ok (.iload_n 2, 1) := by decide +kernel
theorem d16_3 : decode jdk_42_method_60_code 3 = .ok (.invokestatic 517, 3) := by decide +kernel
theorem d16_6 : decode jdk_42_method_60_code 6 = .ok (.ireturn, 1) := by decide +kernel
theorem d30_0 : decode jdk_43_method_2_code 0 = .ok (.iload_n 1, 1) := by decide +kernel
theorem d30_1 : decode jdk_43_method_2_code 1 = .ok (.aload_n 0, 1) := by decide +kernel
theorem d30_2 : decode jdk_43_method_2_code 2 = .ok (.arraylength, 1) := by decide +kernel
theorem d30_3 : decode jdk_43_method_2_code 3 = .ok (.invokestatic 9, 3) := by decide +kernel
theorem d30_6 : decode jdk_43_method_2_code 6 = .ok (.aload_n 0, 1) := by decide +kernel
theorem d30_7 : decode jdk_43_method_2_code 7 = .ok (.iload_n 1, 1) := by decide +kernel
theorem d30_8 : decode jdk_43_method_2_code 8 = .ok (.baload, 1) := by decide +kernel
theorem d30_9 : decode jdk_43_method_2_code 9 = .ok (.sipush 255, 3) := by decide +kernel
theorem d30_12 : decode jdk_43_method_2_code 12 = .ok (.iand, 1) := by decide +kernel
theorem d30_13 : decode jdk_43_method_2_code 13 = .ok (.i2c, 1) := by decide +kernel
theorem d30_14 : decode jdk_43_method_2_code 14 = .ok (.ireturn, 1) := by decide +kernel
theorem d8_0 : decode jdk_52_method_14_code 0 = .ok (.iload_n 2, 1) := by decide +kernel
theorem d8_1 : decode jdk_52_method_14_code 1 = .ok (.invokestatic 107, 3) := by decide +kernel
theorem d8_4 : decode jdk_52_method_14_code 4 = .ok (.astore_n 3, 1) := by decide +kernel
theorem d8_5 : decode jdk_52_method_14_code 5 = .ok (.iconst 0, 1) := by decide +kernel
theorem d8_6 : decode jdk_52_method_14_code 6 = .ok (.istore 4, 2) := by decide +kernel
theorem d8_8 : decode jdk_52_method_14_code 8 = .ok (.iload 4, 2) := by decide +kernel
theorem d8_10 : decode jdk_52_method_14_code 10 = .ok (.iload_n 2, 1) := by decide +kernel
theorem d8_11 : decode jdk_52_method_14_code 11 = .ok (.if_icmp .ge 21, 3) := by decide +kernel
theorem d8_14 : decode jdk_52_method_14_code 14 = .ok (.aload_n 3, 1) := by decide +kernel
theorem d8_15 : decode jdk_52_method_14_code 15 = .ok (.iload 4, 2) := by decide +kernel
theorem d8_17 : decode jdk_52_method_14_code 17 = .ok (.aload_n 0, 1) := by decide +kernel
theorem d8_18 : decode jdk_52_method_14_code 18 = .ok (.iload_n 1, 1) := by decide +kernel
theorem d8_19 : decode jdk_52_method_14_code 19 = .ok (.caload, 1) := by decide +kernel
theorem d8_20 : decode jdk_52_method_14_code 20 = .ok (.invokestatic 111, 3) := by decide +kernel
theorem d8_23 : decode jdk_52_method_14_code 23 = .ok (.iinc 1 1, 3) := by decide +kernel
theorem d8_26 : decode jdk_52_method_14_code 26 = .ok (.iinc 4 1, 3) := by decide +kernel
theorem d8_29 : decode jdk_52_method_14_code 29 = .ok (.goto (-21), 3) := by decide +kernel
theorem d8_32 : decode jdk_52_method_14_code 32 = .ok (.aload_n 3, 1) := by decide +kernel
theorem d8_33 : decode jdk_52_method_14_code 33 = .ok (.areturn, 1) := by decide +kernel
theorem d13_0 : decode jdk_52_method_15_code 0 = .ok (.iload_n 1, 1) := by decide +kernel
theorem d13_1 : decode jdk_52_method_15_code 1 = .ok (.aload_n 0, 1) := by decide +kernel
theorem d13_2 : decode jdk_52_method_15_code 2 = .ok (.arraylength, 1) := by decide +kernel
theorem d13_3 : decode jdk_52_method_15_code 3 = .ok (.isub, 1) := by decide +kernel
theorem d13_4 : decode jdk_52_method_15_code 4 = .ok (.bipush 31, 2) := by decide +kernel
theorem d13_6 : decode jdk_52_method_15_code 6 = .ok (.iushr, 1) := by decide +kernel
theorem d13_7 : decode jdk_52_method_15_code 7 = .ok (.i2b, 1) := by decide +kernel
theorem d13_8 : decode jdk_52_method_15_code 8 = .ok (.ireturn, 1) := by decide +kernel
theorem d6_0 : decode jdk_52_method_16_code 0 = .ok (.iload_n 2, 1) := by decide +kernel
theorem d6_1 : decode jdk_52_method_16_code 1 = .ok (.newarray .byte, 2) := by decide +kernel
theorem d6_3 : decode jdk_52_method_16_code 3 = .ok (.astore_n 3, 1) := by decide +kernel
theorem d6_4 : decode jdk_52_method_16_code 4 = .ok (.aload_n 0, 1) := by decide +kernel
theorem d6_5 : decode jdk_52_method_16_code 5 = .ok (.iload_n 1, 1) := by decide +kernel
theorem d6_6 : decode jdk_52_method_16_code 6 = .ok (.aload_n 3, 1) := by decide +kernel
theorem d6_7 : decode jdk_52_method_16_code 7 = .ok (.iconst 0, 1) := by decide +kernel
theorem d6_8 : decode jdk_52_method_16_code 8 = .ok (.iload_n 2, 1) := by decide +kernel
theorem d6_9 : decode jdk_52_method_16_code 9 = .ok (.invokestatic 115, 3) := by decide +kernel
theorem d6_12 : decode jdk_52_method_16_code 12 = .ok (.istore 4, 2) := by decide +kernel
theorem d6_14 : decode jdk_52_method_16_code 14 = .ok (.iload 4, 2) := by decide +kernel
theorem d6_16 : decode jdk_52_method_16_code 16 = .ok (.iload_n 2, 1) := by decide +kernel
theorem d6_17 : decode jdk_52_method_16_code 17 = .ok (.if_icmp .eq 40, 3) := by decide +kernel
theorem d6_20 : decode jdk_52_method_16_code 20 = .ok (.aload_n 0, 1) := by decide +kernel
theorem d6_21 : decode jdk_52_method_16_code 21 = .ok (.iload_n 1, 1) := by decide +kernel
theorem d6_22 : decode jdk_52_method_16_code 22 = .ok (.iload_n 2, 1) := by decide +kernel
theorem d6_23 : decode jdk_52_method_16_code 23 = .ok (.invokestatic 119, 3) := by decide +kernel
theorem d6_26 : decode jdk_52_method_16_code 26 = .ok (.astore 5, 2) := by decide +kernel
theorem d6_28 : decode jdk_52_method_16_code 28 = .ok (.aload 5, 2) := by decide +kernel
theorem d6_30 : decode jdk_52_method_16_code 30 = .ok (.iload 4, 2) := by decide +kernel
theorem d6_32 : decode jdk_52_method_16_code 32 = .ok (.invokestatic 71, 3) := by decide +kernel
theorem d6_35 : decode jdk_52_method_16_code 35 = .ok (.sipush 255, 3) := by decide +kernel
theorem d6_38 : decode jdk_52_method_16_code 38 = .ok (.if_icmp .gt 16, 3) := by decide +kernel
theorem d6_54 : decode jdk_52_method_16_code 54 = .ok (.aload 5, 2) := by decide +kernel
theorem d6_56 : decode jdk_52_method_16_code 56 = .ok (.areturn, 1) := by decide +kernel
theorem d6_57 : decode jdk_52_method_16_code 57 = .ok (.aload_n 3, 1) := by decide +kernel
theorem d6_58 : decode jdk_52_method_16_code 58 = .ok (.areturn, 1) := by decide +kernel
theorem d7_0 : decode jdk_52_method_21_code 0 = .ok (.iconst 0, 1) := by decide +kernel
theorem d7_1 : decode jdk_52_method_21_code 1 = .ok (.istore 5, 2) := by decide +kernel
theorem d7_3 : decode jdk_52_method_21_code 3 = .ok (.iload 5, 2) := by decide +kernel
theorem d7_5 : decode jdk_52_method_21_code 5 = .ok (.iload 4, 2) := by decide +kernel
theorem d7_7 : decode jdk_52_method_21_code 7 = .ok (.if_icmp .ge 37, 3) := by decide +kernel
theorem d7_10 : decode jdk_52_method_21_code 10 = .ok (.aload_n 0, 1) := by decide +kernel
theorem d7_11 : decode jdk_52_method_21_code 11 = .ok (.iload_n 1, 1) := by decide +kernel
theorem d7_12 : decode jdk_52_method_21_code 12 = .ok (.caload, 1) := by decide +kernel
theorem d7_13 : decode jdk_52_method_21_code 13 = .ok (.istore 6, 2) := by decide +kernel
theorem d7_15 : decode jdk_52_method_21_code 15 = .ok (.iload 6, 2) := by decide +kernel
theorem d7_17 : decode jdk_52_method_21_code 17 = .ok (.sipush 255, 3) := by decide +kernel
theorem d7_20 : decode jdk_52_method_21_code 20 = .ok (.if_icmp .le 6, 3) := by decide +kernel
theorem d7_23 : decode jdk_52_method_21_code 23 = .ok (.iload 5, 2) := by decide +kernel
theorem d7_25 : decode jdk_52_method_21_code 25 = .ok (.ireturn, 1) := by decide +kernel
theorem d7_26 : decode jdk_52_method_21_code 26 = .ok (.aload_n 2, 1) := by decide +kernel
theorem d7_27 : decode jdk_52_method_21_code 27 = .ok (.iload_n 3, 1) := by decide +kernel
theorem d7_28 : decode jdk_52_method_21_code 28 = .ok (.iload 6, 2) := by decide +kernel
theorem d7_30 : decode jdk_52_method_21_code 30 = .ok (.i2b, 1) := by decide +kernel
theorem d7_31 : decode jdk_52_method_21_code 31 = .ok (.bastore, 1) := by decide +kernel
theorem d7_32 : decode jdk_52_method_21_code 32 = .ok (.iinc 1 1, 3) := by decide +kernel
theorem d7_35 : decode jdk_52_method_21_code 35 = .ok (.iinc 3 1, 3) := by decide +kernel
theorem d7_38 : decode jdk_52_method_21_code 38 = .ok (.iinc 5 1, 3) := by decide +kernel
theorem d7_41 : decode jdk_52_method_21_code 41 = .ok (.goto (-38), 3) := by decide +kernel
theorem d7_44 : decode jdk_52_method_21_code 44 = .ok (.iload 4, 2) := by decide +kernel
theorem d7_46 : decode jdk_52_method_21_code 46 = .ok (.ireturn, 1) := by decide +kernel
theorem d9_0 : decode jdk_52_method_2_code 0 = .ok (.iload_n 0, 1) := by decide +kernel
theorem d9_1 : decode jdk_52_method_2_code 1 = .ok (.invokestatic 11, 3) := by decide +kernel
theorem d9_4 : decode jdk_52_method_2_code 4 = .ok (.newarray .byte, 2) := by decide +kernel
theorem d9_6 : decode jdk_52_method_2_code 6 = .ok (.areturn, 1) := by decide +kernel
theorem d10_0 : decode jdk_52_method_3_code 0 = .ok (.iload_n 0, 1) := by decide +kernel
theorem d10_1 : decode jdk_52_method_3_code 1 = .ok (.ifCond .ge 11, 3) := by decide +kernel
theorem d10_12 : decode jdk_52_method_3_code 12 = .ok (.iload_n 0, 1) := by decide +kernel
theorem d10_13 : decode jdk_52_method_3_code 13 = .ok (.ldc 20, 2) := by decide +kernel
theorem d10_15 : decode jdk_52_method_3_code 15 = .ok (.if_icmp .lt 40, 3) := by decide +kernel
theorem d10_55 : decode jdk_52_method_3_code 55 = .ok (.iload_n 0, 1) := by decide +kernel
theorem d10_56 : decode jdk_52_method_3_code 56 = .ok (.iconst 1, 1) := by decide +kernel
theorem d10_57 : decode jdk_52_method_3_code 57 = .ok (.ishl, 1) := by decide +kernel
theorem d10_58 : decode jdk_52_method_3_code 58 = .ok (.ireturn, 1) := by decide +kernel
theorem d11_0 : decode jdk_52_method_4_code 0 = .ok (.getstatic 44, 3) := by decide +kernel
theorem d11_3 : decode jdk_52_method_4_code 3 = .ok (.ifCond .ne 25, 3) := by decide +kernel
theorem d11_28 : decode jdk_52_method_4_code 28 = .ok (.iload_n 1, 1) := by decide +kernel
theorem d11_29 : decode jdk_52_method_4_code 29 = .ok (.iconst 1, 1) := by decide +kernel
theorem d11_30 : decode jdk_52_method_4_code 30 = .ok (.ishl, 1) := by decide +kernel
theorem d11_31 : decode jdk_52_method_4_code 31 = .ok (.istore_n 1, 1) := by decide +kernel
theorem d11_32 : decode jdk_52_method_4_code 32 = .ok (.aload_n 0, 1) := by decide +kernel
theorem d11_33 : decode jdk_52_method_4_code 33 = .ok (.iload_n 1, 1) := by decide +kernel
theorem d11_34 : decode jdk_52_method_4_code 34 = .ok (.iinc 1 1, 3) := by decide +kernel
theorem d11_37 : decode jdk_52_method_4_code 37 = .ok (.iload_n 2, 1) := by decide +kernel
theorem d11_38 : decode jdk_52_method_4_code 38 = .ok (.getstatic 59, 3) := by decide +kernel
theorem d11_41 : decode jdk_52_method_4_code 41 = .ok (.ishr, 1) := by decide +kernel
theorem d11_42 : decode jdk_52_method_4_code 42 = .ok (.i2b, 1) := by decide +kernel
theorem d11_43 : decode jdk_52_method_4_code 43 = .ok (.bastore, 1) := by decide +kernel
theorem d11_44 : decode jdk_52_method_4_code 44 = .ok (.aload_n 0, 1) := by decide +kernel
theorem d11_45 : decode jdk_52_method_4_code 45 = .ok (.iload_n 1, 1) := by decide +kernel
theorem d11_46 : decode jdk_52_method_4_code 46 = .ok (.iload_n 2, 1) := by decide +kernel
theorem d11_47 : decode jdk_52_method_4_code 47 = .ok (.getstatic 63, 3) := by decide +kernel
theorem d11_50 : decode jdk_52_method_4_code 50 = .ok (.ishr, 1) := by decide +kernel
theorem d11_51 : decode jdk_52_method_4_code 51 = .ok (.i2b, 1) := by decide +kernel
theorem d11_52 : decode jdk_52_method_4_code 52 = .ok (.bastore, 1) := by decide +kernel
theorem d11_53 : decode jdk_52_method_4_code 53 = .ok (.return_, 1) := by decide +kernel
theorem d12_0 : decode jdk_52_method_5_code 0 = .ok (.getstatic 44, 3) := by decide +kernel
theorem d12_3 : decode jdk_52_method_5_code 3 = .ok (.ifCond .ne 25, 3) := by decide +kernel
theorem d12_28 : decode jdk_52_method_5_code 28 = .ok (.iload_n 1, 1) := by decide +kernel
theorem d12_29 : decode jdk_52_method_5_code 29 = .ok (.iconst 1, 1) := by decide +kernel
theorem d12_30 : decode jdk_52_method_5_code 30 = .ok (.ishl, 1) := by decide +kernel
theorem d12_31 : decode jdk_52_method_5_code 31 = .ok (.istore_n 1, 1) := by decide +kernel
theorem d12_32 : decode jdk_52_method_5_code 32 = .ok (.aload_n 0, 1) := by decide +kernel
theorem d12_33 : decode jdk_52_method_5_code 33 = .ok (.iload_n 1, 1) := by decide +kernel
theorem d12_34 : decode jdk_52_method_5_code 34 = .ok (.iinc 1 1, 3) := by decide +kernel
theorem d12_37 : decode jdk_52_method_5_code 37 = .ok (.baload, 1) := by decide +kernel
theorem d12_38 : decode jdk_52_method_5_code 38 = .ok (.sipush 255, 3) := by decide +kernel
theorem d12_41 : decode jdk_52_method_5_code 41 = .ok (.iand, 1) := by decide +kernel
theorem d12_42 : decode jdk_52_method_5_code 42 = .ok (.getstatic 59, 3) := by decide +kernel
theorem d12_45 : decode jdk_52_method_5_code 45 = .ok (.ishl, 1) := by decide +kernel
theorem d12_46 : decode jdk_52_method_5_code 46 = .ok (.aload_n 0, 1) := by decide +kernel
theorem d12_47 : decode jdk_52_method_5_code 47 = .ok (.iload_n 1, 1) := by decide +kernel
theorem d12_48 : decode jdk_52_method_5_code 48 = .ok (.baload, 1) := by decide +kernel
theorem d12_49 : decode jdk_52_method_5_code 49 = .ok (.sipush 255, 3) := by decide +kernel
theorem d12_52 : decode jdk_52_method_5_code 52 = .ok (.iand, 1) := by decide +kernel
theorem d12_53 : decode jdk_52_method_5_code 53 = .ok (.getstatic 63, 3) := by decide +kernel
theorem d12_56 : decode jdk_52_method_5_code 56 = .ok (.ishl, 1) := by decide +kernel
theorem d12_57 : decode jdk_52_method_5_code 57 = .ok (.ior, 1) := by decide +kernel
theorem d12_58 : decode jdk_52_method_5_code 58 = .ok (.i2c, 1) := by decide +kernel
theorem d12_59 : decode jdk_52_method_5_code 59 = .ok (.ireturn, 1) := by decide +kernel
theorem d24_0 : decode jdk_52_method_6_code 0 = .ok (.aload_n 0, 1) := by decide +kernel
theorem d24_1 : decode jdk_52_method_6_code 1 = .ok (.arraylength, 1) := by decide +kernel
theorem d24_2 : decode jdk_52_method_6_code 2 = .ok (.iconst 1, 1) := by decide +kernel
theorem d24_3 : decode jdk_52_method_6_code 3 = .ok (.ishr, 1) := by decide +kernel
theorem d24_4 : decode jdk_52_method_6_code 4 = .ok (.ireturn, 1) := by decide +kernel
theorem d22_0 : decode jdk_52_method_83_code 0 = .ok (.iload_n 1, 1) := by decide +kernel
theorem d22_1 : decode jdk_52_method_83_code 1 = .ok (.aload_n 0, 1) := by decide +kernel
theorem d22_2 : decode jdk_52_method_83_code 2 = .ok (.invokestatic 67, 3) := by decide +kernel
theorem d22_5 : decode jdk_52_method_83_code 5 = .ok (.aload_n 0, 1) := by decide +kernel
theorem d22_6 : decode jdk_52_method_83_code 6 = .ok (.iload_n 1, 1) := by decide +kernel
theorem d22_7 : decode jdk_52_method_83_code 7 = .ok (.invokestatic 71, 3) := by decide +kernel
theorem d22_10 : decode jdk_52_method_83_code 10 = .ok (.ireturn, 1) := by decide +kernel
theorem d23_0 : decode jdk_52_method_91_code 0 = .ok (.iload_n 0, 1) := by decide +kernel
theorem d23_1 : decode jdk_52_method_91_code 1 = .ok (.aload_n 1, 1) := by decide +kernel
theorem d23_2 : decode jdk_52_method_91_code 2 = .ok (.invokestatic 48, 3) := by decide +kernel
theorem d23_5 : decode jdk_52_method_91_code 5 = .ok (.invokestatic 414, 3) := by decide +kernel
theorem d23_8 : decode jdk_52_method_91_code 8 = .ok (.return_, 1) := by decide +kernel
theorem d27_0 : decode jdk_89_method_14_code 0 = .ok (.iload_n 0, 1) := by decide +kernel
theorem d27_1 : decode jdk_89_method_14_code 1 = .ok (.ldc 75, 2) := by decide +kernel
theorem d27_3 : decode jdk_89_method_14_code 3 = .ok (.if_icmp .lt 13, 3) := by decide +kernel
theorem d27_6 : decode jdk_89_method_14_code 6 = .ok (.iload_n 0, 1) := by decide +kernel
theorem d27_7 : decode jdk_89_method_14_code 7 = .ok (.ldc 76, 2) := by decide +kernel
theorem d27_9 : decode jdk_89_method_14_code 9 = .ok (.if_icmp .ge 7, 3) := by decide +kernel
theorem d27_12 : decode jdk_89_method_14_code 12 = .ok (.iconst 1, 1) := by decide +kernel
theorem d27_13 : decode jdk_89_method_14_code 13 = .ok (.goto 4, 3) := by decide +kernel
theorem d27_16 : decode jdk_89_method_14_code 16 = .ok (.iconst 0, 1) := by decide +kernel
theorem d27_17 : decode jdk_89_method_14_code 17 = .ok (.ireturn, 1) := by decide +kernel
theorem d29_0 : decode jdk_89_method_15_code 0 = .ok (.iload_n 0, 1) := by decide +kernel
theorem d29_1 : decode jdk_89_method_15_code 1 = .ok (.ldc 76, 2) := by decide +kernel
theorem d29_3 : decode jdk_89_method_15_code 3 = .ok (.if_icmp .lt 13, 3) := by decide +kernel
theorem d29_6 : decode jdk_89_method_15_code 6 = .ok (.iload_n 0, 1) := by decide +kernel
theorem d29_7 : decode jdk_89_method_15_code 7 = .ok (.ldc 77, 2) := by decide +kernel
theorem d29_9 : decode jdk_89_method_15_code 9 = .ok (.if_icmp .ge 7, 3) := by decide +kernel
theorem d29_12 : decode jdk_89_method_15_code 12 = .ok (.iconst 1, 1) := by decide +kernel
theorem d29_13 : decode jdk_89_method_15_code 13 = .ok (.goto 4, 3) := by decide +kernel
theorem d29_16 : decode jdk_89_method_15_code 16 = .ok (.iconst 0, 1) := by decide +kernel
theorem d29_17 : decode jdk_89_method_15_code 17 = .ok (.ireturn, 1) := by decide +kernel
theorem d17_0 : decode jdk_89_method_36_code 0 = .ok (.aload_n 0, 1) := by decide +kernel
theorem d17_1 : decode jdk_89_method_36_code 1 = .ok (.invokeinterface 92 1, 5) := by decide +kernel
theorem d17_6 : decode jdk_89_method_36_code 6 = .ok (.istore_n 3, 1) := by decide +kernel
theorem d17_7 : decode jdk_89_method_36_code 7 = .ok (.iload_n 1, 1) := by decide +kernel
theorem d17_8 : decode jdk_89_method_36_code 8 = .ok (.ifCond .lt 8, 3) := by decide +kernel
theorem d17_11 : decode jdk_89_method_36_code 11 = .ok (.iload_n 1, 1) := by decide +kernel
theorem d17_12 : decode jdk_89_method_36_code 12 = .ok (.iload_n 3, 1) := by decide +kernel
theorem d17_13 : decode jdk_89_method_36_code 13 = .ok (.if_icmp .le 11, 3) := by decide +kernel
theorem d17_24 : decode jdk_89_method_36_code 24 = .ok (.iload_n 1, 1) := by decide +kernel
theorem d17_25 : decode jdk_89_method_36_code 25 = .ok (.istore 4, 2) := by decide +kernel
theorem d17_27 : decode jdk_89_method_36_code 27 = .ok (.iload_n 2, 1) := by decide +kernel
theorem d17_28 : decode jdk_89_method_36_code 28 = .ok (.ifCond .lt 81, 3) := by decide +kernel
theorem d17_31 : decode jdk_89_method_36_code 31 = .ok (.iconst 0, 1) := by decide +kernel
theorem d17_32 : decode jdk_89_method_36_code 32 = .ok (.istore 5, 2) := by decide +kernel
theorem d17_34 : decode jdk_89_method_36_code 34 = .ok (.iload 4, 2) := by decide +kernel
theorem d17_36 : decode jdk_89_method_36_code 36 = .ok (.iload_n 3, 1) := by decide +kernel
theorem d17_37 : decode jdk_89_method_36_code 37 = .ok (.if_icmp .ge 55, 3) := by decide +kernel
theorem d17_40 : decode jdk_89_method_36_code 40 = .ok (.iload 5, 2) := by decide +kernel
theorem d17_42 : decode jdk_89_method_36_code 42 = .ok (.iload_n 2, 1) := by decide +kernel
theorem d17_43 : decode jdk_89_method_36_code 43 = .ok (.if_icmp .ge 49, 3) := by decide +kernel
theorem d17_46 : decode jdk_89_method_36_code 46 = .ok (.aload_n 0, 1) := by decide +kernel
theorem d17_47 : decode jdk_89_method_36_code 47 = .ok (.iload 4, 2) := by decide +kernel
theorem d17_49 : decode jdk_89_method_36_code 49 = .ok (.iinc 4 1, 3) := by decide +kernel
theorem d17_52 : decode jdk_89_method_36_code 52 = .ok (.invokeinterface 86 2, 5) := by decide +kernel
theorem d17_57 : decode jdk_89_method_36_code 57 = .ok (.invokestatic 78, 3) := by decide +kernel
theorem d17_60 : decode jdk_89_method_36_code 60 = .ok (.ifCond .eq 26, 3) := by decide +kernel
theorem d17_63 : decode jdk_89_method_36_code 63 = .ok (.iload 4, 2) := by decide +kernel
theorem d17_65 : decode jdk_89_method_36_code 65 = .ok (.iload_n 3, 1) := by decide +kernel
theorem d17_66 : decode jdk_89_method_36_code 66 = .ok (.if_icmp .ge 20, 3) := by decide +kernel
theorem d17_69 : decode jdk_89_method_36_code 69 = .ok (.aload_n 0, 1) := by decide +kernel
theorem d17_70 : decode jdk_89_method_36_code 70 = .ok (.iload 4, 2) := by decide +kernel
theorem d17_72 : decode jdk_89_method_36_code 72 = .ok (.invokeinterface 86 2, 5) := by decide +kernel
theorem d17_77 : decode jdk_89_method_36_code 77 = .ok (.invokestatic 82, 3) := by decide +kernel
theorem d17_80 : decode jdk_89_method_36_code 80 = .ok (.ifCond .eq 6, 3) := by decide +kernel
theorem d17_83 : decode jdk_89_method_36_code 83 = .ok (.iinc 4 1, 3) := by decide +kernel
theorem d17_86 : decode jdk_89_method_36_code 86 = .ok (.iinc 5 1, 3) := by decide +kernel
theorem d17_89 : decode jdk_89_method_36_code 89 = .ok (.goto (-55), 3) := by decide +kernel
theorem d17_92 : decode jdk_89_method_36_code 92 = .ok (.iload 5, 2) := by decide +kernel
theorem d17_94 : decode jdk_89_method_36_code 94 = .ok (.iload_n 2, 1) := by decide +kernel
theorem d17_95 : decode jdk_89_method_36_code 95 = .ok (.if_icmp .ge 11, 3) := by decide +kernel
theorem d17_106 : decode jdk_89_method_36_code 106 = .ok (.goto 76, 3) := by decide +kernel
theorem d17_182 : decode jdk_89_method_36_code 182 = .ok (.iload 4, 2) := by decide +kernel
theorem d17_184 : decode jdk_89_method_36_code 184 = .ok (.ireturn, 1) := by decide +kernel
theorem d1_0 : decode method_2_code 0 = .ok (.iload_n 0, 1) := by decide +kernel
theorem d1_1 : decode method_2_code 1 = .ok (.iconst 3, 1) := by decide +kernel
theorem d1_2 : decode method_2_code 2 = .ok (.iand, 1) := by decide +kernel
theorem d1_3 : decode method_2_code 3 = .ok (.istore_n 1, 1) := by decide +kernel
theorem d1_4 : decode method_2_code 4 = .ok (.iload_n 0, 1) := by decide +kernel
theorem d1_5 : decode method_2_code 5 = .ok (.iconst 2, 1) := by decide +kernel
theorem d1_6 : decode method_2_code 6 = .ok (.iushr, 1) := by decide +kernel
theorem d1_7 : decode method_2_code 7 = .ok (.istore_n 2, 1) := by decide +kernel
theorem d1_8 : decode method_2_code 8 = .ok (.iload_n 1, 1) := by decide +kernel
theorem d1_9 : decode method_2_code 9 = .ok (.ifCond .ne 9, 3) := by decide +kernel
theorem d1_12 : decode method_2_code 12 = .ok (.iload_n 2, 1) := by decide +kernel
theorem d1_13 : decode method_2_code 13 = .ok (.ldc 7, 2) := by decide +kernel
theorem d1_15 : decode method_2_code 15 = .ok (.iand, 1) := by decide +kernel
theorem d1_16 : decode method_2_code 16 = .ok (.i2c, 1) := by decide +kernel
theorem d1_17 : decode method_2_code 17 = .ok (.ireturn, 1) := by decide +kernel
theorem d1_18 : decode method_2_code 18 = .ok (.iload_n 1, 1) := by decide +kernel
theorem d1_19 : decode method_2_code 19 = .ok (.iconst 1, 1) := by decide +kernel
theorem d1_20 : decode method_2_code 20 = .ok (.if_icmp .ne 13, 3) := by decide +kernel
theorem d1_23 : decode method_2_code 23 = .ok (.ldc 8, 2) := by decide +kernel
theorem d1_25 : decode method_2_code 25 = .ok (.iload_n 2, 1) := by decide +kernel
theorem d1_26 : decode method_2_code 26 = .ok (.sipush 1023, 3) := by decide +kernel
theorem d1_29 : decode method_2_code 29 = .ok (.iand, 1) := by decide +kernel
theorem d1_30 : decode method_2_code 30 = .ok (.iadd, 1) := by decide +kernel
theorem d1_31 : decode method_2_code 31 = .ok (.i2c, 1) := by decide +kernel
theorem d1_32 : decode method_2_code 32 = .ok (.ireturn, 1) := by decide +kernel
theorem d1_33 : decode method_2_code 33 = .ok (.iload_n 1, 1) := by decide +kernel
theorem d1_34 : decode method_2_code 34 = .ok (.iconst 2, 1) := by decide +kernel
theorem d1_35 : decode method_2_code 35 = .ok (.if_icmp .ne 13, 3) := by decide +kernel
theorem d1_38 : decode method_2_code 38 = .ok (.ldc 9, 2) := by decide +kernel
theorem d1_40 : decode method_2_code 40 = .ok (.iload_n 2, 1) := by decide +kernel
theorem d1_41 : decode method_2_code 41 = .ok (.sipush 1023, 3) := by decide +kernel
theorem d1_44 : decode method_2_code 44 = .ok (.iand, 1) := by decide +kernel
theorem d1_45 : decode method_2_code 45 = .ok (.iadd, 1) := by decide +kernel
theorem d1_46 : decode method_2_code 46 = .ok (.i2c, 1) := by decide +kernel
theorem d1_47 : decode method_2_code 47 = .ok (.ireturn, 1) := by decide +kernel
theorem d1_48 : decode method_2_code 48 = .ok (.iload_n 2, 1) := by decide +kernel
theorem d1_49 : decode method_2_code 49 = .ok (.sipush 255, 3) := by decide +kernel
theorem d1_52 : decode method_2_code 52 = .ok (.iand, 1) := by decide +kernel
theorem d1_53 : decode method_2_code 53 = .ok (.i2c, 1) := by decide +kernel
theorem d1_54 : decode method_2_code 54 = .ok (.ireturn, 1) := by decide +kernel
theorem d2_0 : decode method_3_code 0 = .ok (.iload_n 0, 1) := by decide +kernel
theorem d2_1 : decode method_3_code 1 = .ok (.ldc 8, 2) := by decide +kernel
theorem d2_3 : decode method_3_code 3 = .ok (.if_icmp .lt 13, 3) := by decide +kernel
theorem d2_6 : decode method_3_code 6 = .ok (.iload_n 0, 1) := by decide +kernel
theorem d2_7 : decode method_3_code 7 = .ok (.ldc 10, 2) := by decide +kernel
theorem d2_9 : decode method_3_code 9 = .ok (.if_icmp .gt 7, 3) := by decide +kernel
theorem d2_12 : decode method_3_code 12 = .ok (.iconst 1, 1) := by decide +kernel
theorem d2_13 : decode method_3_code 13 = .ok (.goto 4, 3) := by decide +kernel
theorem d2_16 : decode method_3_code 16 = .ok (.iconst 0, 1) := by decide +kernel
theorem d2_17 : decode method_3_code 17 = .ok (.ireturn, 1) := by decide +kernel
theorem d28_0 : decode method_4_code 0 = .ok (.iload_n 0, 1) := by decide +kernel
theorem d28_1 : decode method_4_code 1 = .ok (.ldc 9, 2) := by decide +kernel
theorem d28_3 : decode method_4_code 3 = .ok (.if_icmp .lt 13, 3) := by decide +kernel
theorem d28_6 : decode method_4_code 6 = .ok (.iload_n 0, 1) := by decide +kernel
theorem d28_7 : decode method_4_code 7 = .ok (.ldc 11, 2) := by decide +kernel
theorem d28_9 : decode method_4_code 9 = .ok (.if_icmp .gt 7, 3) := by decide +kernel
theorem d28_12 : decode method_4_code 12 = .ok (.iconst 1, 1) := by decide +kernel
theorem d28_13 : decode method_4_code 13 = .ok (.goto 4, 3) := by decide +kernel
theorem d28_16 : decode method_4_code 16 = .ok (.iconst 0, 1) := by decide +kernel
theorem d28_17 : decode method_4_code 17 = .ok (.ireturn, 1) := by decide +kernel
theorem d14_0 : decode prog_5_method_1_code 0 = .ok (.aload_n 0, 1) := by decide +kernel
theorem d14_1 : decode prog_5_method_1_code 1 = .ok (.invokespecial 1, 3) := by decide +kernel
theorem d14_4 : decode prog_5_method_1_code 4 = .ok (.aload_n 0, 1) := by decide +kernel
theorem d14_5 : decode prog_5_method_1_code 5 = .ok (.aload_n 1, 1) := by decide +kernel
theorem d14_6 : decode prog_5_method_1_code 6 = .ok (.putfield 7, 3) := by decide +kernel
theorem d14_9 : decode prog_5_method_1_code 9 = .ok (.return_, 1) := by decide +kernel
theorem d15_0 : decode prog_5_method_5_code 0 = .ok (.aload_n 0, 1) := by decide +kernel
theorem d15_1 : decode prog_5_method_5_code 1 = .ok (.aload_n 0, 1) := by decide +kernel
theorem d15_2 : decode prog_5_method_5_code 2 = .ok (.getfield 7, 3) := by decide +kernel
theorem d15_5 : decode prog_5_method_5_code 5 = .ok (.aload_n 0, 1) := by decide +kernel
theorem d15_6 : decode prog_5_method_5_code 6 = .ok (.getfield 17, 3) := by decide +kernel
theorem d15_9 : decode prog_5_method_5_code 9 = .ok (.iload_n 1, 1) := by decide +kernel
theorem d15_10 : decode prog_5_method_5_code 10 = .ok (.aload_n 0, 1) := by decide +kernel
theorem d15_11 : decode prog_5_method_5_code 11 = .ok (.getfield 13, 3) := by decide +kernel
theorem d15_14 : decode prog_5_method_5_code 14 = .ok (.isub, 1) := by decide +kernel
theorem d15_15 : decode prog_5_method_5_code 15 = .ok (.invokevirtual 60, 3) := by decide +kernel
theorem d15_18 : decode prog_5_method_5_code 18 = .ok (.putfield 17, 3) := by decide +kernel
theorem d15_21 : decode prog_5_method_5_code 21 = .ok (.aload_n 0, 1) := by decide +kernel
theorem d15_22 : decode prog_5_method_5_code 22 = .ok (.iload_n 1, 1) := by decide +kernel
theorem d15_23 : decode prog_5_method_5_code 23 = .ok (.putfield 13, 3) := by decide +kernel
theorem d15_26 : decode prog_5_method_5_code 26 = .ok (.aload_n 0, 1) := by decide +kernel
theorem d15_27 : decode prog_5_method_5_code 27 = .ok (.getfield 17, 3) := by decide +kernel
theorem d15_30 : decode prog_5_method_5_code 30 = .ok (.ireturn, 1) := by decide +kernel
theorem pd_0 : parseMethodDescriptor "(I)I" = some ⟨[.int], some .int⟩ := by decide +kernel
theorem pd_1 : parseMethodDescriptor "(I)[B" = some ⟨[.int], some (.array .byte)⟩ := by decide +kernel
theorem pd_2 : parseMethodDescriptor "([BII)V" = some ⟨[(.array .byte), .int, .int], none⟩ := by decide +kernel
theorem pd_3 : parseMethodDescriptor "([CI[BII)I" = some ⟨[(.array .char), .int, (.array .byte), .int, .int], some .int⟩ := by decide +kernel
theorem pd_4 : parseMethodDescriptor "([CII)[B" = some ⟨[(.array .char), .int, .int], some (.array .byte)⟩ := by decide +kernel
theorem pd_5 : parseMethodDescriptor "([BI)C" = some ⟨[(.array .byte), .int], some .char⟩ := by decide +kernel
theorem pd_6 : parseMethodDescriptor "([BI)B" = some ⟨[(.array .byte), .int], some .byte⟩ := by decide +kernel
theorem pd_7 : parseMethodDescriptor "([CIILjava/lang/Void;)V" = some ⟨[(.array .char), .int, .int, (.object "java/lang/Void")], none⟩ := by decide +kernel
theorem pd_8 : parseMethodDescriptor "(IILjava/util/function/BiFunction;)I" = some ⟨[.int, .int, (.object "java/util/function/BiFunction")], some .int⟩ := by decide +kernel
theorem pd_9 : parseMethodDescriptor "(II)V" = some ⟨[.int, .int], none⟩ := by decide +kernel
theorem pd_10 : parseMethodDescriptor "()B" = some ⟨[], some .byte⟩ := by decide +kernel
theorem pd_11 : parseMethodDescriptor "([B)I" = some ⟨[(.array .byte)], some .int⟩ := by decide +kernel
theorem pd_12 : parseMethodDescriptor "(I[B)V" = some ⟨[.int, (.array .byte)], none⟩ := by decide +kernel
theorem pd_13 : parseMethodDescriptor "()Z" = some ⟨[], some .boolean⟩ := by decide +kernel
theorem pd_14 : parseMethodDescriptor "()I" = some ⟨[], some .int⟩ := by decide +kernel
theorem pd_15 : parseMethodDescriptor "(I)C" = some ⟨[.int], some .char⟩ := by decide +kernel
theorem pd_16 : parseMethodDescriptor "(C)Z" = some ⟨[.char], some .boolean⟩ := by decide +kernel
theorem pd_17 : parseMethodDescriptor "(Ljava/lang/CharSequence;II)I" = some ⟨[(.object "java/lang/CharSequence"), .int, .int], some .int⟩ := by decide +kernel
theorem pd_18 : parseMethodDescriptor "(II)I" = some ⟨[.int, .int], some .int⟩ := by decide +kernel
theorem pd_19 : parseMethodDescriptor "([C)V" = some ⟨[(.array .char)], none⟩ := by decide +kernel
theorem pd_20 : parseMethodDescriptor "(Ljava/lang/String;)V" = some ⟨[(.object "java/lang/String")], none⟩ := by decide +kernel
theorem pn_0 : plainName "java/lang/StringUTF16" = true := by first | (simp [plainName, overriddenIn]; done) | decide +kernel
theorem pn_1 : plainName "java/lang/String" = true := by first | (simp [plainName, overriddenIn]; done) | decide +kernel
theorem pn_2 : plainName "jdk/internal/util/Preconditions" = true := by first | (simp [plainName, overriddenIn]; done) | decide +kernel
theorem pn_3 : plainName "java/lang/StringLatin1" = true := by first | (simp [plainName, overriddenIn]; done) | decide +kernel
theorem pn_4 : plainName "java/lang/Character" = true := by first | (simp [plainName, overriddenIn]; done) | decide +kernel
theorem pn_5 : plainName "com/example/passagework/passagework/CodePointsIndexOfPinLaw" = true := by first | (simp [plainName, overriddenIn]; done) | decide +kernel
theorem pn_6 : plainName "com/example/passagework/passagework/CodePoints" = true := by first | (simp [plainName, overriddenIn]; done) | decide +kernel
theorem ef_c_put (m : MethodId) (x0 : Addr) (x1 : Int32) (x2 : Int32)  : entryFrame m #[(.ref x0), (.int x1), (.int x2)] 3 = mkF m 0 #[.val (.ref x0), .val (.int x1), .val (.int x2)] [] := by first | (simp [entryFrame, mkF, argsToLocals, Value.category]; done) | rfl
set_option maxRecDepth 65536 in
set_option maxHeartbeats 40000000 in
theorem c_put {l : Launch} {Z : State} {n0 : Nat} {a0 : Array Value} (hw : Hw a0 Z) (t : Addr) (vs : List Int32) (i : Nat) (ch : Int32) (h0 : Heap) (hA : Sta Z Z.heap "java/lang/StringUTF16" "$assertionsDisabled" "Z" (.int 1)) (hH : Sta Z Z.heap "java/lang/StringUTF16" "HI_BYTE_SHIFT" "I" (.int 0)) (hL : Sta Z Z.heap "java/lang/StringUTF16" "LO_BYTE_SHIFT" "I" (.int 8)) (A : Ia Z h0 t .byte vs) (hi : 2 * i + 1 < vs.length) (hi30 : i < 2 ^ 29) :
    Con l Z n0 ELs (⟨"java/lang/StringUTF16", "putChar", "([BII)V"⟩ : MethodName) jdk_52_method_4_code 3 none [] ({ frames := 0, cells := 0, slots := 0, locals := 0 } : Room) #[(.ref t), (.int (Int32.ofNat i)), (.int ch)] h0 [t] false (fun w h => Ia Z h t .byte ((vs.set (2 * i) (bLo ch)).set (2 * i + 1) (bHi ch))) := by
  refine con_of (plainFor_of_name pn_0) (fun mt => ef_c_put mt t ((Int32.ofNat i)) ch ) ?_
  intro K
  refine g_getS d11_0 (w_51 hw) Via.refl hA (pc' := 3) rfl ?_
  refine g_if_ne_t d11_3 (by decide) (pc' := 28) (by decide) rfl ?_
  refine g_iloadN d11_28 rfl (pc' := 29) rfl ?_
  refine g_iconst d11_29 (v := 1) rfl (pc' := 30) rfl ?_
  refine g_ishl d11_30 (v := (Int32.ofNat (2 * i))) (shl1 (by omega)) (pc' := 31) rfl ?_
  refine g_istoreN d11_31 (L' := #[.val (.ref t), .val (.int (Int32.ofNat (2 * i))), .val (.int ch)]) rfl (pc' := 32) rfl ?_
  refine g_aloadN d11_32 rfl rfl (pc' := 33) rfl ?_
  refine g_iloadN d11_33 rfl (pc' := 34) rfl ?_
  refine g_iinc d11_34 (v := 1) rfl rfl (y := (Int32.ofNat (2 * i + 1))) (ofNat_succ (by omega)) (L' := #[.val (.ref t), .val (.int (Int32.ofNat (2 * i + 1))), .val (.int ch)]) rfl (pc' := 37) rfl ?_
  refine g_iloadN d11_37 rfl (pc' := 38) rfl ?_
  refine g_getS d11_38 (w_52 hw) Via.refl hH (pc' := 41) rfl ?_
  refine g_ishr d11_41 (v := ch) (shr0 ch) (pc' := 42) rfl ?_
  refine g_i2b d11_42 rfl (pc' := 43) rfl ?_
  refine g_bastore d11_43 A (ofNat_lt (n := 2 * i + 1) (by omega) (by omega)).1 (nat32 (by omega)) (by omega) (Or.inl (List.mem_of_getElem? (i := 0) rfl)) (List.mem_of_getElem? (i := 0) rfl) (pc' := 44) rfl ?_
  intro h1 Kw1 A_t_1
  refine g_aloadN d11_44 rfl rfl (pc' := 45) rfl ?_
  refine g_iloadN d11_45 rfl (pc' := 46) rfl ?_
  refine g_iloadN d11_46 rfl (pc' := 47) rfl ?_
  refine g_getS d11_47 (w_53 hw) Via.refl hL (pc' := 50) rfl ?_
  refine g_ishr d11_50 rfl (pc' := 51) rfl ?_
  refine g_i2b d11_51 rfl (pc' := 52) rfl ?_
  refine g_bastore d11_52 A_t_1 (ofNat_lt (n := 2 * i + 2) (by omega) (by omega)).1 (nat32 (by omega)) (by simp only [List.length_set]; omega) (Or.inl (List.mem_of_getElem? (i := 0) rfl)) (List.mem_of_getElem? (i := 0) rfl) (pc' := 53) rfl ?_
  intro h2 Kw2 A_t_2
  rw [nar_b, nar_b] at A_t_2
  exact g_return d11_53 rfl A_t_2 (by decide) (by decide)
theorem ef_c_get (m : MethodId) (x0 : Addr) (x1 : Int32)  : entryFrame m #[(.ref x0), (.int x1)] 2 = mkF m 0 #[.val (.ref x0), .val (.int x1)] [] := by first | (simp [entryFrame, mkF, argsToLocals, Value.category]; done) | rfl
set_option maxRecDepth 65536 in
set_option maxHeartbeats 40000000 in
theorem c_get {l : Launch} {Z : State} {n0 : Nat} {a0 : Array Value} (hw : Hw a0 Z) (t : Addr) (cs : List Int32) (i : Nat) (ch : Int32) (h0 : Heap) (hA : Sta Z Z.heap "java/lang/StringUTF16" "$assertionsDisabled" "Z" (.int 1)) (hH : Sta Z Z.heap "java/lang/StringUTF16" "HI_BYTE_SHIFT" "I" (.int 0)) (hL : Sta Z Z.heap "java/lang/StringUTF16" "LO_BYTE_SHIFT" "I" (.int 8)) (A : Ia Z h0 t .byte (b16 cs)) (hi : cs[i]? = some ch) (hc : ¬ ch < 0 ∧ ¬ (65535 : Int32) < ch) (h8 : cs.length ≤ 8) :
    Con l Z n0 ELs (⟨"java/lang/StringUTF16", "getChar", "([BI)C"⟩ : MethodName) jdk_52_method_5_code 2 (some .char) [] ({ frames := 0, cells := 0, slots := 0, locals := 0 } : Room) #[(.ref t), (.int (Int32.ofNat i))] h0 [] false (fun w h => w = .int ch ∧ h0 = h) := by
  refine con_of (plainFor_of_name pn_0) (fun mt => ef_c_get mt t ((Int32.ofNat i)) ) ?_
  intro K
  have g := b16_get cs i ch hi
  have hlt := (List.getElem?_eq_some_iff.mp hi).1
  refine g_getS d12_0 (w_51 hw) Via.refl hA (pc' := 3) rfl ?_
  refine g_if_ne_t d12_3 (by decide) (pc' := 28) (by decide) rfl ?_
  refine g_iloadN d12_28 rfl (pc' := 29) rfl ?_
  refine g_iconst d12_29 (v := 1) rfl (pc' := 30) rfl ?_
  refine g_ishl d12_30 (v := (Int32.ofNat (2 * i))) (shl1 (by omega)) (pc' := 31) rfl ?_
  refine g_istoreN d12_31 (L' := #[.val (.ref t), .val (.int (Int32.ofNat (2 * i)))]) rfl (pc' := 32) rfl ?_
  refine g_aloadN d12_32 rfl rfl (pc' := 33) rfl ?_
  refine g_iloadN d12_33 rfl (pc' := 34) rfl ?_
  refine g_iinc d12_34 (v := 1) rfl rfl (y := (Int32.ofNat (2 * i + 1))) (ofNat_succ (by omega)) (L' := #[.val (.ref t), .val (.int (Int32.ofNat (2 * i + 1)))]) rfl (pc' := 37) rfl ?_
  refine g_baload d12_37 A (ofNat_lt (n := 2 * i + 1) (by omega) (by omega)).1 (nat32 (by omega)) g.1 (pc' := 38) rfl ?_
  refine g_sipush d12_38 (v := 255) rfl (pc' := 41) rfl ?_
  refine g_iand d12_41 rfl (pc' := 42) rfl ?_
  refine g_getS d12_42 (w_52 hw) Via.refl hH (pc' := 45) rfl ?_
  refine g_ishl d12_45 rfl (pc' := 46) rfl ?_
  refine g_aloadN d12_46 rfl rfl (pc' := 47) rfl ?_
  refine g_iloadN d12_47 rfl (pc' := 48) rfl ?_
  refine g_baload d12_48 A (ofNat_lt (n := 2 * i + 2) (by omega) (by omega)).1 (nat32 (by omega)) g.2 (pc' := 49) rfl ?_
  refine g_sipush d12_49 (v := 255) rfl (pc' := 52) rfl ?_
  refine g_iand d12_52 rfl (pc' := 53) rfl ?_
  refine g_getS d12_53 (w_53 hw) Via.refl hL (pc' := 56) rfl ?_
  refine g_ishl d12_56 rfl (pc' := 57) rfl ?_
  refine g_ior d12_57 rfl (pc' := 58) rfl ?_
  refine g_i2c d12_58 (v := ch) (get16 ch hc).1 (pc' := 59) rfl ?_
  exact g_ireturnN d12_59 rfl (by simp) (get16 ch hc).2 ⟨rfl, rfl⟩ (by decide) (by decide)
theorem ef_c_nbl (m : MethodId) (x0 : Int32)  : entryFrame m #[(.int x0)] 1 = mkF m 0 #[.val (.int x0)] [] := by first | (simp [entryFrame, mkF, argsToLocals, Value.category]; done) | rfl
set_option maxRecDepth 65536 in
set_option maxHeartbeats 40000000 in
theorem c_nbl {l : Launch} {Z : State} {n0 : Nat} {a0 : Array Value} (hw : Hw a0 Z) (n : Nat) (h0 : Heap) (h8 : n ≤ 8) :
    Con l Z n0 ELs (⟨"java/lang/StringUTF16", "newBytesLength", "(I)I"⟩ : MethodName) jdk_52_method_3_code 1 (some .int) [] ({ frames := 0, cells := 0, slots := 0, locals := 0 } : Room) #[(.int (Int32.ofNat n))] h0 [] false (fun w h => w = .int (Int32.ofNat (2 * n)) ∧ h0 = h) := by
  refine con_of (plainFor_of_name pn_0) (fun mt => ef_c_nbl mt ((Int32.ofNat n)) ) ?_
  intro K
  refine g_iloadN d10_0 rfl (pc' := 1) rfl ?_
  refine g_if_ge_t d10_1 (ofNat_le (Nat.le_refl _) (by omega)).1 (pc' := 12) (by decide) rfl ?_
  refine g_iloadN d10_12 rfl (pc' := 13) rfl ?_
  refine g_ldcI d10_13 (w_47 hw) (pc' := 15) rfl ?_
  refine g_icmp_lt_t d10_15 (by rw [Int32.lt_iff_toInt_lt, ofNat_toInt (by omega), show (1073741823 : Int32).toInt = 1073741823 from by decide]; omega) (pc' := 55) (by decide) rfl ?_
  refine g_iloadN d10_55 rfl (pc' := 56) rfl ?_
  refine g_iconst d10_56 (v := 1) rfl (pc' := 57) rfl ?_
  refine g_ishl d10_57 (v := (Int32.ofNat (2 * n))) (shl1 (by omega)) (pc' := 58) rfl ?_
  exact g_ireturn d10_58 rfl ⟨rfl, rfl⟩ (by decide) (by decide)
theorem ef_c_nbf (m : MethodId) (x0 : Int32)  : entryFrame m #[(.int x0)] 1 = mkF m 0 #[.val (.int x0)] [] := by first | (simp [entryFrame, mkF, argsToLocals, Value.category]; done) | rfl
set_option maxRecDepth 65536 in
set_option maxHeartbeats 40000000 in
theorem c_nbf {l : Launch} {Z : State} {n0 : Nat} {a0 : Array Value} (hw : Hw a0 Z) (n : Nat) (h0 : Heap) (h8 : n ≤ 8) :
    Con l Z n0 ELs (⟨"java/lang/StringUTF16", "newBytesFor", "(I)[B"⟩ : MethodName) jdk_52_method_2_code 1 (some (.array .byte)) [] ({ frames := 1, cells := 1, slots := 16, locals := 12 } : Room) #[(.int (Int32.ofNat n))] h0 [] true (fun w h => ∃ t, w = .ref t ∧ h0.size ≤ t ∧ Ia Z h t .byte (List.replicate (2 * n) 0)) := by
  refine con_of (plainFor_of_name pn_0) (fun mt => ef_c_nbf mt ((Int32.ofNat n)) ) ?_
  intro K
  refine g_iloadN d9_0 rfl (pc' := 1) rfl ?_
  refine g_static (W := 0) (argsL := [(.int (Int32.ofNat n))]) (rest := []) d9_1 (w_44 hw) (w_45 hw) (by decide) (lenOf pd_0 rfl) (c_nbl hw n _ h8) (w_46 hw) (w_32 hw) (by decide) (by decide) (fun _ q => nomatch q) rfl (Nat.le_of_eq rfl) rfl (by decide) (by decide) (pc' := 4) rfl ?_
  intro w1 h1 q1 Kc1
  obtain ⟨rfl, rfl⟩ := q1
  refine g_newA d9_4 (w_34 hw) rfl (ofNat_le (Nat.le_refl _) (by omega)).1 (cap := 16) (by rw [nat32 (by omega)]; omega) (by decide) (by decide) (by decide) (pc' := 6) rfl ?_
  intro t h2 g2 Kn2 A_t sz_t
  exact g_areturnF d9_6 rfl rfl rfl ⟨t, rfl, sz_t, by rw [nat32 (by omega)] at A_t; exact A_t⟩ (fun _ _ e => by cases e; exact (List.mem_of_getElem? (i := 0) rfl)) (by decide) (by decide)
theorem ef_c_tob (m : MethodId) (x0 : Addr) (x1 : Int32) (x2 : Int32)  : entryFrame m #[(.ref x0), (.int x1), (.int x2)] 5 = mkF m 0 #[.val (.ref x0), .val (.int x1), .val (.int x2), .unset, .unset] [] := by first | (simp [entryFrame, mkF, argsToLocals, Value.category]; done) | rfl
set_option maxRecDepth 65536 in
set_option maxHeartbeats 40000000 in
theorem c_tob {l : Launch} {Z : State} {n0 : Nat} {a0 : Array Value} (hw : Hw a0 Z) (b : Addr) (cs : List Int32) (h0 : Heap) (hA : Sta Z Z.heap "java/lang/StringUTF16" "$assertionsDisabled" "Z" (.int 1)) (hH : Sta Z Z.heap "java/lang/StringUTF16" "HI_BYTE_SHIFT" "I" (.int 0)) (hL : Sta Z Z.heap "java/lang/StringUTF16" "LO_BYTE_SHIFT" "I" (.int 8)) (A : Ia Z h0 b .char cs) (h8 : cs.length ≤ 8) :
    Con l Z n0 ELs (⟨"java/lang/StringUTF16", "toBytes", "([CII)[B"⟩ : MethodName) jdk_52_method_14_code 5 (some (.array .byte)) [] ({ frames := 2, cells := 1, slots := 16, locals := 30 } : Room) #[(.ref b), (.int 0), (.int (Int32.ofNat cs.length))] h0 [] true (fun w h => ∃ t, w = .ref t ∧ h0.size ≤ t ∧ Ia Z h t .byte (b16 cs)) := by
  refine con_of (plainFor_of_name pn_0) (fun mt => ef_c_tob mt b 0 ((Int32.ofNat cs.length)) ) ?_
  intro K
  refine g_iloadN d8_0 rfl (pc' := 1) rfl ?_
  refine g_static (W := 0) (argsL := [(.int (Int32.ofNat cs.length))]) (rest := []) d8_1 (w_41 hw) (w_42 hw) (by decide) (lenOf pd_1 rfl) (c_nbf hw cs.length _ h8) (w_43 hw) (w_32 hw) (by decide) (by decide) (fun _ q => nomatch q) rfl (Nat.le_of_eq rfl) rfl (by decide) (by decide) (pc' := 4) rfl ?_
  intro w1 h1 q1 Kc1
  obtain ⟨t, rfl, ht, At⟩ := q1
  refine g_astoreN d8_4 rfl (L' := #[.val (.ref b), .val (.int 0), .val (.int (Int32.ofNat cs.length)), .val (.ref t), .unset]) rfl (pc' := 5) rfl ?_
  refine g_iconst d8_5 (v := 0) rfl (pc' := 6) rfl ?_
  refine g_istore d8_6 (L' := #[.val (.ref b), .val (.int 0), .val (.int (Int32.ofNat cs.length)), .val (.ref t), .val (.int 0)]) rfl (pc' := 8) rfl ?_
  have A' := (A.keep Kc1 nin0)
  have hne : b ≠ t := Nat.ne_of_lt (Nat.lt_of_lt_of_le A.lt ht)
  have lp : ∀ (m i : Nat) (h : Heap), i + m = cs.length → Ia Z h b .char cs → Ia Z h t .byte (b16 (cs.take i) ++ List.replicate (2 * m) 0) → Go l Z n0 ELs (⟨"java/lang/StringUTF16", "toBytes", "([CII)[B"⟩ : MethodName) jdk_52_method_14_code 5 (some (.array .byte)) ({ frames := 2, cells := 1, slots := 16, locals := 30 } : Room) h0 [] true (fun w h => ∃ t, w = .ref t ∧ h0.size ≤ t ∧ Ia Z h t .byte (b16 cs)) K [t] h (0 + 1) (0 + 16) 8 #[.val (.ref b), .val (.int (Int32.ofNat i)), .val (.int (Int32.ofNat cs.length)), .val (.ref t), .val (.int (Int32.ofNat i))] [] := by
    intro m
    induction m with
    | zero =>
      intro i h him Ab At
      refine g_iload d8_8 rfl (pc' := 10) rfl ?_
      refine g_iloadN d8_10 rfl (pc' := 11) rfl ?_
      refine g_icmp_ge_t d8_11 (by rw [show i = cs.length by omega]; exact (ofNat_le (Nat.le_refl _) (by omega)).2) (pc' := 32) (by decide) rfl ?_
      refine g_aloadN d8_32 rfl rfl (pc' := 33) rfl ?_
      exact g_areturnF d8_33 rfl rfl rfl ⟨t, rfl, ht, by simpa [show cs.take i = cs from List.take_of_length_le (by omega)] using At⟩ (fun _ _ e => by cases e; exact (List.mem_of_getElem? (i := 0) rfl)) (by decide) (by decide)
    | succ m ih =>
      intro i h him Ab At
      have hlt := ofNat_lt (i := i) (n := cs.length) (by omega) (by omega)
      obtain ⟨ch, hch⟩ : ∃ ch, cs[i]? = some ch := ⟨_, List.getElem?_eq_getElem (by omega)⟩
      refine g_iload d8_8 rfl (pc' := 10) rfl ?_
      refine g_iloadN d8_10 rfl (pc' := 11) rfl ?_
      refine g_icmp_ge_f d8_11 hlt.2.1 (pc' := 14) rfl ?_
      refine g_aloadN d8_14 rfl rfl (pc' := 15) rfl ?_
      refine g_iload d8_15 rfl (pc' := 17) rfl ?_
      refine g_aloadN d8_17 rfl rfl (pc' := 18) rfl ?_
      refine g_iloadN d8_18 rfl (pc' := 19) rfl ?_
      refine g_caload d8_19 Ab hlt.1 hlt.2.2 hch (pc' := 20) rfl ?_
      refine g_staticN (W := 0) (argsL := [(.ref t), (.int (Int32.ofNat i)), (.int ch)]) (rest := []) d8_20 (w_48 hw) (w_49 hw) (by decide) (lenOf pd_2 rfl) (c_put hw t _ i ch _ hA hH hL At (by simp only [List.length_append, List.length_replicate, b16_len, List.length_take]; omega) (by omega)) (w_50 hw) (w_32 hw) (by decide) (by decide) (allS ⟨Or.inr ht, List.mem_of_getElem? (i := 0) rfl⟩ all0) rfl (Nat.le_of_eq rfl) rfl (by decide) (by decide) (pc' := 23) rfl ?_
      intro w1 h1 q1 Kc1
      have At2 := q1
      refine g_iinc d8_23 (v := 1) rfl rfl (y := (Int32.ofNat (i + 1))) (ofNat_succ (by omega)) (L' := #[.val (.ref b), .val (.int (Int32.ofNat (i + 1))), .val (.int (Int32.ofNat cs.length)), .val (.ref t), .val (.int (Int32.ofNat i))]) rfl (pc' := 26) rfl ?_
      refine g_iinc d8_26 (v := 1) rfl rfl (y := (Int32.ofNat (i + 1))) (ofNat_succ (by omega)) (L' := #[.val (.ref b), .val (.int (Int32.ofNat (i + 1))), .val (.int (Int32.ofNat cs.length)), .val (.ref t), .val (.int (Int32.ofNat (i + 1)))]) rfl (pc' := 29) rfl ?_
      refine g_goto d8_29 (pc' := 8) (by decide) rfl ?_
      refine ih (i + 1) _ (by omega) (Ab.keep Kc1 (ninS hne nin0)) ?_
      rw [b16_put cs i m ch hch] at At2; exact At2
  exact lp cs.length 0 _ (by omega) A' (by simpa [b16] using At)
theorem ef_c_cpl (m : MethodId) (x0 : Addr) (x1 : Int32) (x2 : Addr) (x3 : Int32) (x4 : Int32)  : entryFrame m #[(.ref x0), (.int x1), (.ref x2), (.int x3), (.int x4)] 7 = mkF m 0 #[.val (.ref x0), .val (.int x1), .val (.ref x2), .val (.int x3), .val (.int x4), .unset, .unset] [] := by first | (simp [entryFrame, mkF, argsToLocals, Value.category]; done) | rfl
set_option maxRecDepth 65536 in
set_option maxHeartbeats 40000000 in
theorem c_cpl {l : Launch} {Z : State} {n0 : Nat} {a0 : Array Value} (hw : Hw a0 Z) (b d : Addr) (cs : List Int32) (h0 : Heap) (A : Ia Z h0 b .char cs) (Ad : Ia Z h0 d .byte (List.replicate cs.length 0)) (hne : b ≠ d) (h8 : cs.length ≤ 8) :
    Con l Z n0 ELs (⟨"java/lang/StringUTF16", "compress", "([CI[BII)I"⟩ : MethodName) jdk_52_method_21_code 7 (some .int) [] ({ frames := 0, cells := 0, slots := 0, locals := 0 } : Room) #[(.ref b), (.int 0), (.ref d), (.int 0), (.int (Int32.ofNat cs.length))] h0 [d] false (fun w h => (w = .int (Int32.ofNat cs.length) ∧ (∀ c ∈ cs, ¬ (255 : Int32) < c) ∧ Ia Z h d .byte (cs.map bLo)) ∨ ∃ k ch, k < cs.length ∧ w = .int (Int32.ofNat k) ∧ cs[k]? = some ch ∧ 255 < ch) := by
  refine con_of (plainFor_of_name pn_0) (fun mt => ef_c_cpl mt b 0 d 0 ((Int32.ofNat cs.length)) ) ?_
  intro K
  have lp : ∀ (m i : Nat) (h : Heap) (s6 : Slot), One s6 → i + m = cs.length → Ia Z h b .char cs → Ia Z h d .byte ((cs.take i).map bLo ++ List.replicate m 0) → (∀ c ∈ cs.take i, ¬ (255 : Int32) < c) → Go l Z n0 ELs (⟨"java/lang/StringUTF16", "compress", "([CI[BII)I"⟩ : MethodName) jdk_52_method_21_code 7 (some .int) ({ frames := 0, cells := 0, slots := 0, locals := 0 } : Room) h0 [d] false (fun w h => (w = .int (Int32.ofNat cs.length) ∧ (∀ c ∈ cs, ¬ (255 : Int32) < c) ∧ Ia Z h d .byte (cs.map bLo)) ∨ ∃ k ch, k < cs.length ∧ w = .int (Int32.ofNat k) ∧ cs[k]? = some ch ∧ 255 < ch) K [d] h 0 0 3 #[.val (.ref b), .val (.int (Int32.ofNat i)), .val (.ref d), .val (.int (Int32.ofNat i)), .val (.int (Int32.ofNat cs.length)), .val (.int (Int32.ofNat i)), s6] [] := by
    intro m
    induction m with
    | zero =>
      intro i h s6 hs6 him Ab Ad hall
      have ei : cs.take i = cs := List.take_of_length_le (by omega)
      rw [ei] at Ad hall
      refine g_iload d7_3 rfl (pc' := 5) rfl ?_
      refine g_iload d7_5 rfl (pc' := 7) rfl ?_
      refine g_icmp_ge_t d7_7 (by rw [show i = cs.length by omega]; exact (ofNat_le (Nat.le_refl _) (by omega)).2) (pc' := 44) (by decide) rfl ?_
      refine g_iload d7_44 rfl (pc' := 46) rfl ?_
      exact g_ireturn d7_46 rfl (Or.inl ⟨rfl, hall, by simpa using Ad⟩) (by decide) (by decide)
    | succ m ih =>
      intro i h s6 hs6 him Ab Ad hall
      have hlt := ofNat_lt (i := i) (n := cs.length) (by omega) (by omega)
      obtain ⟨ch, hch⟩ : ∃ ch, cs[i]? = some ch := ⟨_, List.getElem?_eq_getElem (by omega)⟩
      refine g_iload d7_3 rfl (pc' := 5) rfl ?_
      refine g_iload d7_5 rfl (pc' := 7) rfl ?_
      refine g_icmp_ge_f d7_7 hlt.2.1 (pc' := 10) rfl ?_
      refine g_aloadN d7_10 rfl rfl (pc' := 11) rfl ?_
      refine g_iloadN d7_11 rfl (pc' := 12) rfl ?_
      refine g_caload d7_12 Ab hlt.1 hlt.2.2 hch (pc' := 13) rfl ?_
      refine g_istore d7_13 (L' := #[.val (.ref b), .val (.int (Int32.ofNat i)), .val (.ref d), .val (.int (Int32.ofNat i)), .val (.int (Int32.ofNat cs.length)), .val (.int (Int32.ofNat i)), .val (.int ch)]) (st_any rfl hs6 rfl rfl) (pc' := 15) rfl ?_
      refine g_iload d7_15 rfl (pc' := 17) rfl ?_
      refine g_sipush d7_17 (v := 255) rfl (pc' := 20) rfl ?_
      by_cases q : 255 < ch
      ·
        refine g_icmp_le_f d7_20 q (pc' := 23) rfl ?_
        refine g_iload d7_23 rfl (pc' := 25) rfl ?_
        exact g_ireturn d7_25 rfl (Or.inr ⟨i, ch, by omega, rfl, hch, q⟩) (by decide) (by decide)
      ·
        refine g_icmp_le_t d7_20 q (pc' := 26) (by decide) rfl ?_
        refine g_aloadN d7_26 rfl rfl (pc' := 27) rfl ?_
        refine g_iloadN d7_27 rfl (pc' := 28) rfl ?_
        refine g_iload d7_28 rfl (pc' := 30) rfl ?_
        refine g_i2b d7_30 rfl (pc' := 31) rfl ?_
        refine g_bastore d7_31 Ad hlt.1 hlt.2.2 (by simp only [List.length_append, List.length_map, List.length_take, List.length_replicate]; omega) (Or.inl (List.mem_of_getElem? (i := 0) rfl)) (List.mem_of_getElem? (i := 0) rfl) (pc' := 32) rfl ?_
        intro h1 Kw1 A_d_1
        refine g_iinc d7_32 (v := 1) rfl rfl (y := (Int32.ofNat (i + 1))) (ofNat_succ (by omega)) (L' := #[.val (.ref b), .val (.int (Int32.ofNat (i + 1))), .val (.ref d), .val (.int (Int32.ofNat i)), .val (.int (Int32.ofNat cs.length)), .val (.int (Int32.ofNat i)), .val (.int ch)]) rfl (pc' := 35) rfl ?_
        refine g_iinc d7_35 (v := 1) rfl rfl (y := (Int32.ofNat (i + 1))) (ofNat_succ (by omega)) (L' := #[.val (.ref b), .val (.int (Int32.ofNat (i + 1))), .val (.ref d), .val (.int (Int32.ofNat (i + 1))), .val (.int (Int32.ofNat cs.length)), .val (.int (Int32.ofNat i)), .val (.int ch)]) rfl (pc' := 38) rfl ?_
        refine g_iinc d7_38 (v := 1) rfl rfl (y := (Int32.ofNat (i + 1))) (ofNat_succ (by omega)) (L' := #[.val (.ref b), .val (.int (Int32.ofNat (i + 1))), .val (.ref d), .val (.int (Int32.ofNat (i + 1))), .val (.int (Int32.ofNat cs.length)), .val (.int (Int32.ofNat (i + 1))), .val (.int ch)]) rfl (pc' := 41) rfl ?_
        refine g_goto d7_41 (pc' := 3) (by decide) rfl ?_
        have et : cs.take (i + 1) = cs.take i ++ [ch] := by rw [List.take_add_one, hch]; rfl
        refine ih (i + 1) _ _ (One.val rfl) (by omega) (Ab.keep Kw1 (ninS hne nin0)) ?_ ?_
        · rw [nar_b] at A_d_1
          have e : ((cs.take i).map bLo ++ List.replicate (m + 1) 0).set i (bLo ch) = (cs.take (i + 1)).map bLo ++ List.replicate m 0 := by
            rw [List.set_append, if_neg (by simp; omega), et]
            simp only [List.length_map, List.length_take, show i - min i cs.length = 0 by omega, List.replicate_succ, List.set_cons_zero, List.map_append, List.map_cons, List.map_nil, List.append_assoc, List.cons_append, List.nil_append]
          exact e ▸ A_d_1
        · intro z hz
          rw [et] at hz
          rcases List.mem_append.mp hz with hz | hz
          · exact hall z hz
          · cases List.mem_singleton.mp hz; exact q
  refine g_iconst d7_0 (v := 0) rfl (pc' := 1) rfl ?_
  refine g_istore d7_1 (L' := #[.val (.ref b), .val (.int 0), .val (.ref d), .val (.int 0), .val (.int (Int32.ofNat cs.length)), .val (.int 0), .unset]) rfl (pc' := 3) rfl ?_
  exact lp cs.length 0 _ _ One.u (by omega) A (by simpa using Ad) (by simp)
theorem ef_c_cpa (m : MethodId) (x0 : Addr) (x1 : Int32) (x2 : Int32)  : entryFrame m #[(.ref x0), (.int x1), (.int x2)] 6 = mkF m 0 #[.val (.ref x0), .val (.int x1), .val (.int x2), .unset, .unset, .unset] [] := by first | (simp [entryFrame, mkF, argsToLocals, Value.category]; done) | rfl
set_option maxRecDepth 65536 in
set_option maxHeartbeats 40000000 in
theorem c_cpa {l : Launch} {Z : State} {n0 : Nat} {a0 : Array Value} (hw : Hw a0 Z) (b : Addr) (cs : List Int32) (h0 : Heap) (hA : Sta Z Z.heap "java/lang/StringUTF16" "$assertionsDisabled" "Z" (.int 1)) (hH : Sta Z Z.heap "java/lang/StringUTF16" "HI_BYTE_SHIFT" "I" (.int 0)) (hL : Sta Z Z.heap "java/lang/StringUTF16" "LO_BYTE_SHIFT" "I" (.int 8)) (A : Ia Z h0 b .char cs) (hcs : ∀ c ∈ cs, ¬ c < 0 ∧ ¬ (65535 : Int32) < c) (h8 : cs.length ≤ 8) :
    Con l Z n0 ELs (⟨"java/lang/StringUTF16", "compress", "([CII)[B"⟩ : MethodName) jdk_52_method_16_code 6 (some (.array .byte)) [] ({ frames := 3, cells := 2, slots := 24, locals := 50 } : Room) #[(.ref b), (.int 0), (.int (Int32.ofNat cs.length))] h0 [] true (fun w h => ∃ t, w = .ref t ∧ h0.size ≤ t ∧ Ia Z h t .byte (enc cs)) := by
  refine con_of (plainFor_of_name pn_0) (fun mt => ef_c_cpa mt b 0 ((Int32.ofNat cs.length)) ) ?_
  intro K
  refine g_iloadN d6_0 rfl (pc' := 1) rfl ?_
  refine g_newA d6_1 (w_34 hw) rfl (ofNat_le (Nat.le_refl _) (by omega)).1 (cap := 8) (by rw [nat32 (by omega)]; omega) (by decide) (by decide) (by decide) (pc' := 3) rfl ?_
  intro d h1 g1 Kn1 A_d sz_d
  rw [nat32 (by omega)] at A_d
  refine g_astoreN d6_3 rfl (L' := #[.val (.ref b), .val (.int 0), .val (.int (Int32.ofNat cs.length)), .val (.ref d), .unset, .unset]) rfl (pc' := 4) rfl ?_
  refine g_aloadN d6_4 rfl rfl (pc' := 5) rfl ?_
  refine g_iloadN d6_5 rfl (pc' := 6) rfl ?_
  refine g_aloadN d6_6 rfl rfl (pc' := 7) rfl ?_
  refine g_iconst d6_7 (v := 0) rfl (pc' := 8) rfl ?_
  refine g_iloadN d6_8 rfl (pc' := 9) rfl ?_
  refine g_static (W := 0) (argsL := [(.ref b), (.int 0), (.ref d), (.int 0), (.int (Int32.ofNat cs.length))]) (rest := []) d6_9 (w_35 hw) (w_36 hw) (by decide) (lenOf pd_3 rfl) (c_cpl hw b d cs _ (A.keep Kn1 nin0) A_d (Nat.ne_of_lt (Nat.lt_of_lt_of_le (A).lt (Nat.le_of_eq g1.symm))) h8) (w_37 hw) (w_32 hw) (by decide) (by decide) (allS ⟨(Or.inr sz_d), (List.mem_of_getElem? (i := 0) rfl)⟩ all0) rfl (Nat.le_of_eq rfl) rfl (by decide) (by decide) (pc' := 12) rfl ?_
  intro w2 h2 q2 Kc2
  rcases q2 with ⟨rfl, hall, Ad⟩ | ⟨k, ch, hk, rfl, hch, h255⟩
  ·
    refine g_istore d6_12 (L' := #[.val (.ref b), .val (.int 0), .val (.int (Int32.ofNat cs.length)), .val (.ref d), .val (.int (Int32.ofNat cs.length)), .unset]) rfl (pc' := 14) rfl ?_
    refine g_iload d6_14 rfl (pc' := 16) rfl ?_
    refine g_iloadN d6_16 rfl (pc' := 17) rfl ?_
    refine g_icmp_eq_t d6_17 rfl (pc' := 57) (by decide) rfl ?_
    refine g_aloadN d6_57 rfl rfl (pc' := 58) rfl ?_
    exact g_areturnF d6_58 rfl rfl rfl ⟨d, rfl, sz_d, by rw [enc, if_pos (lat_map cs hall)]; exact Ad⟩ (fun _ _ e => by cases e; exact (List.mem_of_getElem? (i := 0) rfl)) (by decide) (by decide)
  · refine go_old fun _ hKo => ?_
    have hsz := hKo.1
    refine g_istore d6_12 (L' := #[.val (.ref b), .val (.int 0), .val (.int (Int32.ofNat cs.length)), .val (.ref d), .val (.int (Int32.ofNat k)), .unset]) rfl (pc' := 14) rfl ?_
    refine g_iload d6_14 rfl (pc' := 16) rfl ?_
    refine g_iloadN d6_16 rfl (pc' := 17) rfl ?_
    refine g_icmp_eq_f d6_17 (fun z => absurd ((ofNat_inj (by omega) (by omega)).mp z) (by omega)) (pc' := 20) rfl ?_
    refine g_aloadN d6_20 rfl rfl (pc' := 21) rfl ?_
    refine g_iloadN d6_21 rfl (pc' := 22) rfl ?_
    refine g_iloadN d6_22 rfl (pc' := 23) rfl ?_
    refine g_static (W := 0) (argsL := [(.ref b), (.int 0), (.int (Int32.ofNat cs.length))]) (rest := []) d6_23 (w_38 hw) (w_39 hw) (by decide) (lenOf pd_4 rfl) (c_tob hw b cs _ hA hH hL ((A.keep Kn1 nin0).keep Kc2 (ninS (Nat.ne_of_lt (Nat.lt_of_lt_of_le (A).lt (Nat.le_of_eq g1.symm))) nin0)) h8) (w_40 hw) (w_32 hw) (by decide) (by decide) (fun _ q => nomatch q) rfl (Nat.le_of_eq rfl) rfl (by decide) (by decide) (pc' := 26) rfl ?_
    intro w3 h3 q3 Kc3
    obtain ⟨u, rfl, hu, Au⟩ := q3
    refine g_astore d6_26 rfl (L' := #[.val (.ref b), .val (.int 0), .val (.int (Int32.ofNat cs.length)), .val (.ref d), .val (.int (Int32.ofNat k)), .val (.ref u)]) rfl (pc' := 28) rfl ?_
    refine g_aload d6_28 rfl rfl (pc' := 30) rfl ?_
    refine g_iload d6_30 rfl (pc' := 32) rfl ?_
    refine g_static (W := 0) (argsL := [(.ref u), (.int (Int32.ofNat k))]) (rest := []) d6_32 (w_54 hw) (w_55 hw) (by decide) (lenOf pd_5 rfl) (c_get hw u cs k ch _ hA hH hL Au hch (hcs ch (List.mem_of_getElem? hch)) h8) (w_56 hw) (w_32 hw) (by decide) (by decide) (fun _ q => nomatch q) rfl (Nat.le_of_eq rfl) rfl (by decide) (by decide) (pc' := 35) rfl ?_
    intro w4 h4 q4 Kc4
    obtain ⟨rfl, rfl⟩ := q4
    refine g_sipush d6_35 (v := 255) rfl (pc' := 38) rfl ?_
    refine g_icmp_gt_t d6_38 h255 (pc' := 54) (by decide) rfl ?_
    refine g_aload d6_54 rfl rfl (pc' := 56) rfl ?_
    exact g_areturnF d6_56 rfl rfl rfl ⟨u, rfl, Nat.le_trans hsz hu, by rw [enc, lat_not cs k ch hch h255, if_neg (by decide)]; exact Au⟩ (fun _ _ e => by cases e; exact (List.mem_of_getElem? (i := 0) rfl)) (by decide) (by decide)
theorem ef_c_cfa (m : MethodId) (x0 : Addr) (x1 : Int32)  : entryFrame m #[(.ref x0), (.int x1)] 2 = mkF m 0 #[.val (.ref x0), .val (.int x1)] [] := by first | (simp [entryFrame, mkF, argsToLocals, Value.category]; done) | rfl
set_option maxRecDepth 65536 in
set_option maxHeartbeats 40000000 in
theorem c_cfa {l : Launch} {Z : State} {n0 : Nat} {a0 : Array Value} (hw : Hw a0 Z) (t : Addr) (cs : List Int32) (h0 : Heap) (A : Ia Z h0 t .byte (enc cs)) (hpos : 0 < cs.length) (h8 : cs.length ≤ 8) :
    Con l Z n0 ELs (⟨"java/lang/StringUTF16", "coderFromArrayLen", "([BI)B"⟩ : MethodName) jdk_52_method_15_code 2 (some .byte) [] ({ frames := 0, cells := 0, slots := 0, locals := 0 } : Room) #[(.ref t), (.int (Int32.ofNat cs.length))] h0 [] false (fun w h => w = .int (if lat cs = true then 0 else 1) ∧ h0 = h) := by
  refine con_of (plainFor_of_name pn_0) (fun mt => ef_c_cfa mt t ((Int32.ofNat cs.length)) ) ?_
  intro K
  by_cases q : lat cs = true
  ·
    refine g_iloadN d13_0 rfl (pc' := 1) rfl ?_
    refine g_aloadN d13_1 rfl rfl (pc' := 2) rfl ?_
    refine g_alen d13_2 A (x := (Int32.ofNat cs.length)) (by rw [enc, if_pos q, List.length_map]) (pc' := 3) rfl ?_
    refine g_isub d13_3 rfl (pc' := 4) rfl ?_
    refine g_bipush d13_4 (v := 31) rfl (pc' := 6) rfl ?_
    refine g_iushr d13_6 rfl (pc' := 7) rfl ?_
    refine g_i2b d13_7 (v := 0) (cfa_lat _).1 (pc' := 8) rfl ?_
    exact g_ireturnN d13_8 rfl (by simp) (z := 0) rfl ⟨by rw [if_pos q], rfl⟩ (by decide) (by decide)
  ·
    refine g_iloadN d13_0 rfl (pc' := 1) rfl ?_
    refine g_aloadN d13_1 rfl rfl (pc' := 2) rfl ?_
    refine g_alen d13_2 A (x := (Int32.ofNat (2 * cs.length))) (by rw [enc, if_neg q, b16_len]) (pc' := 3) rfl ?_
    refine g_isub d13_3 rfl (pc' := 4) rfl ?_
    refine g_bipush d13_4 (v := 31) rfl (pc' := 6) rfl ?_
    refine g_iushr d13_6 rfl (pc' := 7) rfl ?_
    refine g_i2b d13_7 (v := 1) (cfa_u16 hpos (by omega)) (pc' := 8) rfl ?_
    exact g_ireturnN d13_8 rfl (by simp) (z := 1) rfl ⟨by rw [if_neg q], rfl⟩ (by decide) (by decide)
theorem ef_c_iv (m : MethodId) (x0 : Addr) (x1 : Addr) (x2 : Int32) (x3 : Int32)  : entryFrame m #[(.ref x0), (.ref x1), (.int x2), (.int x3), .null] 6 = mkF m 0 #[.val (.ref x0), .val (.ref x1), .val (.int x2), .val (.int x3), .val .null, .unset] [] := by first | (simp [entryFrame, mkF, argsToLocals, Value.category]; done) | rfl
set_option maxRecDepth 65536 in
set_option maxHeartbeats 40000000 in
theorem c_iv {l : Launch} {Z : State} {n0 : Nat} {a0 : Array Value} (hw : Hw a0 Z) (x b : Addr) (cs : List Int32) (z : Int32) (u_value u_coder : Value) (h0 : Heap) (hC : Sta Z Z.heap "java/lang/String" "COMPACT_STRINGS" "Z" (.int z)) (hz : ¬ z = 0) (hA : Sta Z Z.heap "java/lang/StringUTF16" "$assertionsDisabled" "Z" (.int 1)) (hH : Sta Z Z.heap "java/lang/StringUTF16" "HI_BYTE_SHIFT" "I" (.int 0)) (hL : Sta Z Z.heap "java/lang/StringUTF16" "LO_BYTE_SHIFT" "I" (.int 8)) (E0 : Exa Z h0 x "java/lang/String") (F_value : Fld Z h0 x "java/lang/String" "value" "[B" u_value) (F_coder : Fld Z h0 x "java/lang/String" "coder" "B" u_coder) (A : Ia Z h0 b .char cs) (hcs : ∀ c ∈ cs, ¬ c < 0 ∧ ¬ (65535 : Int32) < c) (hpos : 0 < cs.length) (h8 : cs.length ≤ 8) :
    Con l Z n0 ELs (⟨"java/lang/String", "<init>", "([CIILjava/lang/Void;)V"⟩ : MethodName) jdk_42_method_149_code 6 none [] ({ frames := 4, cells := 2, slots := 24, locals := 75 } : Room) #[(.ref x), (.ref b), (.int 0), (.int (Int32.ofNat cs.length)), .null] h0 [x] false (fun w h => ∃ t, h0.size ≤ t ∧ Su Z h x t cs) := by
  refine con_of (plainFor_of_name pn_1) (fun mt => ef_c_iv mt x b 0 ((Int32.ofNat cs.length)) ) ?_
  intro K
  refine g_aloadN d4_0 rfl rfl (pc' := 1) rfl ?_
  refine g_initO (W := 0) d4_1 (w_26 hw) (w_27 hw) (w_28 hw) rfl (by decide) (Nat.le_of_eq rfl) (by decide) (pc' := 4) rfl ?_
  refine g_iloadN d4_4 rfl (pc' := 5) rfl ?_
  refine g_if_ne_t d4_5 (fun z => absurd ((ofNat_inj (b := 0) (by omega) (by omega)).mp z) (by omega)) (pc' := 27) (by decide) rfl ?_
  refine g_getS d4_27 (w_29 hw) Via.refl hC (pc' := 30) rfl ?_
  refine g_if_eq_f d4_30 hz (pc' := 33) rfl ?_
  refine g_aloadN d4_33 rfl rfl (pc' := 34) rfl ?_
  refine g_iloadN d4_34 rfl (pc' := 35) rfl ?_
  refine g_iloadN d4_35 rfl (pc' := 36) rfl ?_
  refine g_static (W := 0) (argsL := [(.ref b), (.int 0), (.int (Int32.ofNat cs.length))]) (rest := []) d4_36 (w_30 hw) (w_31 hw) (by decide) (lenOf pd_4 rfl) (c_cpa hw b cs _ hA hH hL A hcs h8) (w_33 hw) (w_32 hw) (by decide) (by decide) (fun _ q => nomatch q) rfl (Nat.le_of_eq rfl) rfl (by decide) (by decide) (pc' := 39) rfl ?_
  intro w1 h1 q1 Kc1
  obtain ⟨t, rfl, ht, At⟩ := q1
  refine g_astore d4_39 rfl (L' := #[.val (.ref x), .val (.ref b), .val (.int 0), .val (.int (Int32.ofNat cs.length)), .val .null, .val (.ref t)]) rfl (pc' := 41) rfl ?_
  refine g_aloadN d4_41 rfl rfl (pc' := 42) rfl ?_
  refine g_aload d4_42 rfl rfl (pc' := 44) rfl ?_
  refine g_iloadN d4_44 rfl (pc' := 45) rfl ?_
  refine g_static (W := 1) (argsL := [(.ref t), (.int (Int32.ofNat cs.length))]) (rest := [(.ref x)]) d4_45 (w_57 hw) (w_58 hw) (by decide) (lenOf pd_6 rfl) (c_cfa hw t cs _ At hpos h8) (w_59 hw) (w_32 hw) (by decide) (by decide) (fun _ q => nomatch q) rfl (Nat.le_of_eq rfl) rfl (by decide) (by decide) (pc' := 48) rfl ?_
  intro w2 h2 q2 Kc2
  obtain ⟨rfl, rfl⟩ := q2
  refine g_putF (ty := .byte) d4_48 (w_60 hw) Via.refl (F_coder.keep Kc1 nin0) (E0.keep Kc1) (Or.inr ⟨(w_61 hw), rfl, rfl⟩) (w_17 hw) (by decide) (v' := (.int (if lat cs = true then 0 else 1))) (by simp only [narrow]; split <;> rfl) (by split <;> rfl) (Or.inl (List.mem_of_getElem? (i := 0) rfl)) (List.mem_of_getElem? (i := 1) rfl) (pc' := 51) rfl ?_
  intro h3 W3
  have Kw3 := Keep.of_wr W3
  have G3_coder := (F_coder.keep Kc1 nin0).same W3
  have G3_value := (F_value.keep Kc1 nin0).other W3 (Or.inr (slot_ne (Or.inr (w_63 hw)) (Or.inr (w_61 hw)) (by decide) (t := (.array .byte)) (t' := .byte) (by decide) (by decide)))
  refine g_aloadN d4_51 rfl rfl (pc' := 52) rfl ?_
  refine g_aload d4_52 rfl rfl (pc' := 54) rfl ?_
  refine g_putF (ty := (.array .byte)) d4_54 (w_62 hw) Via.refl G3_value ((E0.keep Kc1).keep Kw3) (Or.inr ⟨(w_63 hw), rfl, rfl⟩) (w_17 hw) (by decide) rfl rfl (Or.inl (List.mem_of_getElem? (i := 0) rfl)) (List.mem_of_getElem? (i := 1) rfl) (pc' := 57) rfl ?_
  intro h4 W4
  have Kw4 := Keep.of_wr W4
  have G4_value := G3_value.same W4
  have G4_coder := G3_coder.other W4 (Or.inr (slot_ne (Or.inr (w_61 hw)) (Or.inr (w_63 hw)) (by decide) (t := .byte) (t' := (.array .byte)) (by decide) (by decide)))
  exact g_return d4_57 rfl ⟨t, ht, (((E0.keep Kc1).keep Kw3).keep Kw4), G4_coder, G4_value, ((At.keep Kw3 (ninS (Ne.symm (Nat.ne_of_lt (Nat.lt_of_lt_of_le (E0).lt ht))) nin0)).keep Kw4 (ninS (Ne.symm (Nat.ne_of_lt (Nat.lt_of_lt_of_le (E0).lt ht))) nin0)), hcs, h8⟩ (by decide) (by decide)
theorem ef_c_ic (m : MethodId) (x0 : Addr) (x1 : Addr)  : entryFrame m #[(.ref x0), (.ref x1)] 2 = mkF m 0 #[.val (.ref x0), .val (.ref x1)] [] := by first | (simp [entryFrame, mkF, argsToLocals, Value.category]; done) | rfl
set_option maxRecDepth 65536 in
set_option maxHeartbeats 40000000 in
theorem c_ic {l : Launch} {Z : State} {n0 : Nat} {a0 : Array Value} (hw : Hw a0 Z) (x b : Addr) (cs : List Int32) (z : Int32) (u_value u_coder : Value) (h0 : Heap) (hC : Sta Z Z.heap "java/lang/String" "COMPACT_STRINGS" "Z" (.int z)) (hz : ¬ z = 0) (hA : Sta Z Z.heap "java/lang/StringUTF16" "$assertionsDisabled" "Z" (.int 1)) (hH : Sta Z Z.heap "java/lang/StringUTF16" "HI_BYTE_SHIFT" "I" (.int 0)) (hL : Sta Z Z.heap "java/lang/StringUTF16" "LO_BYTE_SHIFT" "I" (.int 8)) (E0 : Exa Z h0 x "java/lang/String") (F_value : Fld Z h0 x "java/lang/String" "value" "[B" u_value) (F_coder : Fld Z h0 x "java/lang/String" "coder" "B" u_coder) (A : Ia Z h0 b .char cs) (hcs : ∀ c ∈ cs, ¬ c < 0 ∧ ¬ (65535 : Int32) < c) (hpos : 0 < cs.length) (h8 : cs.length ≤ 8) :
    Con l Z n0 ELs (⟨"java/lang/String", "<init>", "([C)V"⟩ : MethodName) jdk_42_method_3_code 2 none [] ({ frames := 5, cells := 2, slots := 24, locals := 95 } : Room) #[(.ref x), (.ref b)] h0 [x] false (fun w h => ∃ t, h0.size ≤ t ∧ Su Z h x t cs) := by
  refine con_of (plainFor_of_name pn_1) (fun mt => ef_c_ic mt x b ) ?_
  intro K
  refine g_aloadN d3_0 rfl rfl (pc' := 1) rfl ?_
  refine g_aloadN d3_1 rfl rfl (pc' := 2) rfl ?_
  refine g_iconst d3_2 (v := 0) rfl (pc' := 3) rfl ?_
  refine g_aloadN d3_3 rfl rfl (pc' := 4) rfl ?_
  refine g_alen d3_4 A (x := (Int32.ofNat cs.length)) rfl (pc' := 5) rfl ?_
  refine g_null d3_5 (pc' := 6) rfl ?_
  refine g_init (W := 0) (argsL := [(.ref b), (.int 0), (.int (Int32.ofNat cs.length)), .null]) (rest := []) d3_6 rfl (w_22 hw) (w_23 hw) (by decide) (lenOf pd_7 rfl) (c_iv hw x b cs z _ _ _ hC hz hA hH hL E0 F_value F_coder A hcs hpos h8) (w_25 hw) (w_18 hw) (by decide) (by decide) (allS ⟨(Or.inl (List.mem_of_getElem? (i := 0) rfl)), (List.mem_of_getElem? (i := 0) rfl)⟩ all0) rfl (Nat.le_of_eq rfl) rfl (by decide) (by decide) (pc' := 9) rfl ?_
  intro w1 h1 q1 Kc1
  exact g_return d3_9 rfl q1 (by decide) (by decide)
theorem ef_c_coder (m : MethodId) (x0 : Addr)  : entryFrame m #[(.ref x0)] 1 = mkF m 0 #[.val (.ref x0)] [] := by first | (simp [entryFrame, mkF, argsToLocals, Value.category]; done) | rfl
set_option maxRecDepth 65536 in
set_option maxHeartbeats 40000000 in
theorem c_coder {l : Launch} {Z : State} {n0 : Nat} {a0 : Array Value} (hw : Hw a0 Z) (x : Addr) (cd z : Int32) (h0 : Heap) (hC : Sta Z Z.heap "java/lang/String" "COMPACT_STRINGS" "Z" (.int z)) (hz : ¬ z = 0) (F : Fld Z h0 x "java/lang/String" "coder" "B" (.int cd)) (hcd : nar .byte cd = cd) :
    Con l Z n0 ELs (⟨"java/lang/String", "coder", "()B"⟩ : MethodName) jdk_42_method_152_code 1 (some .byte) [] ({ frames := 0, cells := 0, slots := 0, locals := 0 } : Room) #[(.ref x)] h0 [] false (fun w h => w = .int cd ∧ h0 = h) := by
  refine con_of (plainFor_of_name pn_1) (fun mt => ef_c_coder mt x ) ?_
  intro K
  refine g_getS d19_0 (w_29 hw) Via.refl hC (pc' := 3) rfl ?_
  refine g_if_eq_f d19_3 hz (pc' := 6) rfl ?_
  refine g_aloadN d19_6 rfl rfl (pc' := 7) rfl ?_
  refine g_getF d19_7 (w_60 hw) Via.refl F (pc' := 10) rfl ?_
  refine g_goto d19_10 (pc' := 14) (by decide) rfl ?_
  exact g_ireturnN d19_14 rfl (by simp) hcd ⟨rfl, rfl⟩ (by decide) (by decide)
theorem ef_c_pci (m : MethodId) (x0 : Int32) (x1 : Int32) (x2 : Value) (hx2 : x2.isRef = true) : entryFrame m #[(.int x0), (.int x1), x2] 3 = mkF m 0 #[.val (.int x0), .val (.int x1), .val x2] [] := by rcases ref_cases hx2 with rfl | ⟨bx2, rfl⟩ <;> first | (simp [entryFrame, mkF, argsToLocals, Value.category]; done) | rfl
set_option maxRecDepth 65536 in
set_option maxHeartbeats 40000000 in
theorem c_pci {l : Launch} {Z : State} {n0 : Nat} {a0 : Array Value} (hw : Hw a0 Z) (i n : Int32) (sf : Value) (h0 : Heap) (rsf : sf.isRef = true) (hi : ¬ i < 0 ∧ i < n) :
    Con l Z n0 ELs (⟨"jdk/internal/util/Preconditions", "checkIndex", "(IILjava/util/function/BiFunction;)I"⟩ : MethodName) jdk_41_method_11_code 3 (some .int) [] ({ frames := 0, cells := 0, slots := 0, locals := 0 } : Room) #[(.int i), (.int n), sf] h0 [] false (fun w h => w = .int i ∧ h0 = h) := by
  refine con_of (plainFor_of_name pn_2) (fun mt => ef_c_pci mt i n sf rsf) ?_
  intro K
  refine g_iloadN d26_0 rfl (pc' := 1) rfl ?_
  refine g_if_lt_f d26_1 hi.1 (pc' := 4) rfl ?_
  refine g_iloadN d26_4 rfl (pc' := 5) rfl ?_
  refine g_iloadN d26_5 rfl (pc' := 6) rfl ?_
  refine g_icmp_lt_t d26_6 hi.2 (pc' := 16) (by decide) rfl ?_
  refine g_iloadN d26_16 rfl (pc' := 17) rfl ?_
  exact g_ireturn d26_17 rfl ⟨rfl, rfl⟩ (by decide) (by decide)
theorem ef_c_ci (m : MethodId) (x0 : Int32) (x1 : Int32)  : entryFrame m #[(.int x0), (.int x1)] 2 = mkF m 0 #[.val (.int x0), .val (.int x1)] [] := by first | (simp [entryFrame, mkF, argsToLocals, Value.category]; done) | rfl
set_option maxRecDepth 65536 in
set_option maxHeartbeats 40000000 in
theorem c_ci {l : Launch} {Z : State} {n0 : Nat} {a0 : Array Value} (hw : Hw a0 Z) (i n : Int32) (sf : Value) (h0 : Heap) (hF : Sta Z Z.heap "jdk/internal/util/Preconditions" "SIOOBE_FORMATTER" "Ljava/util/function/BiFunction;" sf) (rsf : sf.isRef = true) (hi : ¬ i < 0 ∧ i < n) :
    Con l Z n0 ELs (⟨"java/lang/String", "checkIndex", "(II)V"⟩ : MethodName) jdk_42_method_155_code 2 none [] ({ frames := 1, cells := 0, slots := 0, locals := 14 } : Room) #[(.int i), (.int n)] h0 [] false (fun w h => h0 = h) := by
  refine con_of (plainFor_of_name pn_1) (fun mt => ef_c_ci mt i n ) ?_
  intro K
  refine g_iloadN d25_0 rfl (pc' := 1) rfl ?_
  refine g_iloadN d25_1 rfl (pc' := 2) rfl ?_
  refine g_getS d25_2 (w_127 hw) Via.refl hF (pc' := 5) rfl ?_
  refine g_static (W := 0) (argsL := [(.int i), (.int n), sf]) (rest := []) d25_5 (w_129 hw) (w_130 hw) (by decide) (lenOf pd_8 rfl) (c_pci hw i n sf _ rsf hi) (w_131 hw) (w_128 hw) (by decide) (by decide) (fun _ q => nomatch q) rfl (Nat.le_of_eq rfl) rfl (by decide) (by decide) (pc' := 8) rfl ?_
  intro w1 h1 q1 Kc1
  obtain ⟨rfl, rfl⟩ := q1
  refine g_pop d25_8 rfl (pc' := 9) rfl ?_
  exact g_return d25_9 rfl rfl (by decide) (by decide)
theorem ef_c_lca (m : MethodId) (x0 : Addr) (x1 : Int32)  : entryFrame m #[(.ref x0), (.int x1)] 2 = mkF m 0 #[.val (.ref x0), .val (.int x1)] [] := by first | (simp [entryFrame, mkF, argsToLocals, Value.category]; done) | rfl
set_option maxRecDepth 65536 in
set_option maxHeartbeats 40000000 in
theorem c_lca {l : Launch} {Z : State} {n0 : Nat} {a0 : Array Value} (hw : Hw a0 Z) (t : Addr) (cs : List Int32) (i : Nat) (ch : Int32) (sf : Value) (h0 : Heap) (hF : Sta Z Z.heap "jdk/internal/util/Preconditions" "SIOOBE_FORMATTER" "Ljava/util/function/BiFunction;" sf) (rsf : sf.isRef = true) (A : Ia Z h0 t .byte (cs.map fun c => c.toInt8.toInt32)) (hi : cs[i]? = some ch) (hc : ¬ ch < 0 ∧ ¬ (255 : Int32) < ch) :
    Con l Z n0 ELs (⟨"java/lang/StringLatin1", "charAt", "([BI)C"⟩ : MethodName) jdk_43_method_2_code 2 (some .char) [] ({ frames := 2, cells := 0, slots := 0, locals := 27 } : Room) #[(.ref t), (.int (Int32.ofNat i))] h0 [] false (fun w h => w = .int ch ∧ h0 = h) := by
  refine con_of (plainFor_of_name pn_3) (fun mt => ef_c_lca mt t ((Int32.ofNat i)) ) ?_
  intro K
  have hb := ofNat_lt (List.getElem?_eq_some_iff.mp hi).1 (by simpa using A.short)
  refine g_iloadN d30_0 rfl (pc' := 1) rfl ?_
  refine g_aloadN d30_1 rfl rfl (pc' := 2) rfl ?_
  refine g_alen d30_2 A (x := (Int32.ofNat cs.length)) (by rw [List.length_map]) (pc' := 3) rfl ?_
  refine g_staticN (W := 0) (argsL := [(.int (Int32.ofNat i)), (.int (Int32.ofNat cs.length))]) (rest := []) d30_3 (w_149 hw) (w_125 hw) (by decide) (lenOf pd_9 rfl) (c_ci hw (Int32.ofNat i) (Int32.ofNat cs.length) sf _ hF rsf ⟨hb.1, hb.2.1⟩) (w_126 hw) (w_18 hw) (by decide) (by decide) (fun _ q => nomatch q) rfl (Nat.le_of_eq rfl) rfl (by decide) (by decide) (pc' := 6) rfl ?_
  intro w1 h1 q1 Kc1
  obtain rfl := q1
  refine g_aloadN d30_6 rfl rfl (pc' := 7) rfl ?_
  refine g_iloadN d30_7 rfl (pc' := 8) rfl ?_
  refine g_baload d30_8 A hb.1 hb.2.2 (by rw [List.getElem?_map, hi]; rfl) (pc' := 9) rfl ?_
  refine g_sipush d30_9 (v := 255) rfl (pc' := 12) rfl ?_
  refine g_iand d30_12 rfl (pc' := 13) rfl ?_
  refine g_i2c d30_13 (v := ch) (lo8 ch hc).1 (pc' := 14) rfl ?_
  exact g_ireturnN d30_14 rfl (by simp) (lo8 ch hc).2.1 ⟨rfl, rfl⟩ (by decide) (by decide)
theorem ef_c_ulen (m : MethodId) (x0 : Addr)  : entryFrame m #[(.ref x0)] 1 = mkF m 0 #[.val (.ref x0)] [] := by first | (simp [entryFrame, mkF, argsToLocals, Value.category]; done) | rfl
set_option maxRecDepth 65536 in
set_option maxHeartbeats 40000000 in
theorem c_ulen {l : Launch} {Z : State} {n0 : Nat} {a0 : Array Value} (hw : Hw a0 Z) (x t : Addr) (cs : List Int32) (z : Int32) (h0 : Heap) (hC : Sta Z Z.heap "java/lang/String" "COMPACT_STRINGS" "Z" (.int z)) (hz : ¬ z = 0) (S : Su Z h0 x t cs) :
    Con l Z n0 ELs (⟨"java/lang/String", "length", "()I"⟩ : MethodName) jdk_42_method_54_code 1 (some .int) [] ({ frames := 1, cells := 0, slots := 0, locals := 13 } : Room) #[(.ref x)] h0 [] false (fun w h => w = .int (Int32.ofNat cs.length) ∧ h0 = h) := by
  refine con_of (plainFor_of_name pn_1) (fun mt => ef_c_ulen mt x ) ?_
  intro K
  have h8 := S.2.2.2.2.2
  by_cases q : lat cs = true
  ·
    refine g_aloadN d18_0 rfl rfl (pc' := 1) rfl ?_
    refine g_getF d18_1 (w_62 hw) Via.refl S.2.2.1 (pc' := 4) rfl ?_
    refine g_alen d18_4 S.2.2.2.1 (x := (Int32.ofNat cs.length)) (by rw [enc, if_pos q, List.length_map]) (pc' := 5) rfl ?_
    refine g_aloadN d18_5 rfl rfl (pc' := 6) rfl ?_
    refine g_virt (W := 1) (argsL := []) (rest := [(.int (Int32.ofNat cs.length))]) d18_6 (w_97 hw) (w_98 hw) (nf_self (w_100 hw)) (w_100 hw) (w_99 hw) (by decide) (lenOf pd_10 rfl) S.1 (c_coder hw x 0 z _ hC hz (by have q2 := S.2.1; rw [if_pos q] at q2; exact q2) rfl) (w_101 hw) (w_18 hw) (by decide) (by decide) (fun _ q => nomatch q) rfl (Nat.le_of_eq rfl) rfl (by decide) (by decide) (pc' := 9) rfl ?_
    intro w1 h1 q1 Kc1
    obtain ⟨rfl, rfl⟩ := q1
    refine g_ishr d18_9 (v := (Int32.ofNat cs.length)) (shr0 _) (pc' := 10) rfl ?_
    exact g_ireturn d18_10 rfl ⟨rfl, rfl⟩ (by decide) (by decide)
  ·
    refine g_aloadN d18_0 rfl rfl (pc' := 1) rfl ?_
    refine g_getF d18_1 (w_62 hw) Via.refl S.2.2.1 (pc' := 4) rfl ?_
    refine g_alen d18_4 S.2.2.2.1 (x := (Int32.ofNat (2 * cs.length))) (by rw [enc, if_neg q, b16_len]) (pc' := 5) rfl ?_
    refine g_aloadN d18_5 rfl rfl (pc' := 6) rfl ?_
    refine g_virt (W := 1) (argsL := []) (rest := [(.int (Int32.ofNat (2 * cs.length)))]) d18_6 (w_97 hw) (w_98 hw) (nf_self (w_100 hw)) (w_100 hw) (w_99 hw) (by decide) (lenOf pd_10 rfl) S.1 (c_coder hw x 1 z _ hC hz (by have q2 := S.2.1; rw [if_neg q] at q2; exact q2) rfl) (w_101 hw) (w_18 hw) (by decide) (by decide) (fun _ q => nomatch q) rfl (Nat.le_of_eq rfl) rfl (by decide) (by decide) (pc' := 9) rfl ?_
    intro w2 h2 q2 Kc2
    obtain ⟨rfl, rfl⟩ := q2
    refine g_ishr d18_9 (v := (Int32.ofNat cs.length)) (shr1 (by omega)) (pc' := 10) rfl ?_
    exact g_ireturn d18_10 rfl ⟨rfl, rfl⟩ (by decide) (by decide)
theorem ef_c_ulat (m : MethodId) (x0 : Addr)  : entryFrame m #[(.ref x0)] 1 = mkF m 0 #[.val (.ref x0)] [] := by first | (simp [entryFrame, mkF, argsToLocals, Value.category]; done) | rfl
set_option maxRecDepth 65536 in
set_option maxHeartbeats 40000000 in
theorem c_ulat {l : Launch} {Z : State} {n0 : Nat} {a0 : Array Value} (hw : Hw a0 Z) (x : Addr) (cs : List Int32) (z : Int32) (h0 : Heap) (hC : Sta Z Z.heap "java/lang/String" "COMPACT_STRINGS" "Z" (.int z)) (hz : ¬ z = 0) (F : Fld Z h0 x "java/lang/String" "coder" "B" (.int (if lat cs = true then 0 else 1))) :
    Con l Z n0 ELs (⟨"java/lang/String", "isLatin1", "()Z"⟩ : MethodName) jdk_42_method_154_code 1 (some .boolean) [] ({ frames := 0, cells := 0, slots := 0, locals := 0 } : Room) #[(.ref x)] h0 [] false (fun w h => w = .int (if lat cs = true then 1 else 0) ∧ h0 = h) := by
  refine con_of (plainFor_of_name pn_1) (fun mt => ef_c_ulat mt x ) ?_
  intro K
  by_cases q : lat cs = true
  ·
    refine g_getS d21_0 (w_29 hw) Via.refl hC (pc' := 3) rfl ?_
    refine g_if_eq_f d21_3 hz (pc' := 6) rfl ?_
    refine g_aloadN d21_6 rfl rfl (pc' := 7) rfl ?_
    refine g_getF d21_7 (w_60 hw) Via.refl F (pc' := 10) rfl ?_
    refine g_if_ne_f d21_10 (if_pos q) (pc' := 13) rfl ?_
    refine g_iconst d21_13 (v := 1) rfl (pc' := 14) rfl ?_
    refine g_goto d21_14 (pc' := 18) (by decide) rfl ?_
    exact g_ireturnN d21_18 rfl (by simp) (z := 1) rfl ⟨by rw [if_pos q], rfl⟩ (by decide) (by decide)
  ·
    refine g_getS d21_0 (w_29 hw) Via.refl hC (pc' := 3) rfl ?_
    refine g_if_eq_f d21_3 hz (pc' := 6) rfl ?_
    refine g_aloadN d21_6 rfl rfl (pc' := 7) rfl ?_
    refine g_getF d21_7 (w_60 hw) Via.refl F (pc' := 10) rfl ?_
    refine g_if_ne_t d21_10 (by rw [if_neg q]; decide) (pc' := 17) (by decide) rfl ?_
    refine g_iconst d21_17 (v := 0) rfl (pc' := 18) rfl ?_
    exact g_ireturnN d21_18 rfl (by simp) (z := 0) rfl ⟨by rw [if_neg q], rfl⟩ (by decide) (by decide)
theorem ef_c_uln (m : MethodId) (x0 : Addr)  : entryFrame m #[(.ref x0)] 1 = mkF m 0 #[.val (.ref x0)] [] := by first | (simp [entryFrame, mkF, argsToLocals, Value.category]; done) | rfl
set_option maxRecDepth 65536 in
set_option maxHeartbeats 40000000 in
theorem c_uln {l : Launch} {Z : State} {n0 : Nat} {a0 : Array Value} (hw : Hw a0 Z) (t : Addr) (cs : List Int32) (h0 : Heap) (A : Ia Z h0 t .byte (b16 cs)) (h8 : cs.length ≤ 8) :
    Con l Z n0 ELs (⟨"java/lang/StringUTF16", "length", "([B)I"⟩ : MethodName) jdk_52_method_6_code 1 (some .int) [] ({ frames := 0, cells := 0, slots := 0, locals := 0 } : Room) #[(.ref t)] h0 [] false (fun w h => w = .int (Int32.ofNat cs.length) ∧ h0 = h) := by
  refine con_of (plainFor_of_name pn_0) (fun mt => ef_c_uln mt t ) ?_
  intro K
  refine g_aloadN d24_0 rfl rfl (pc' := 1) rfl ?_
  refine g_alen d24_1 A (x := (Int32.ofNat (2 * cs.length))) (by rw [b16_len]) (pc' := 2) rfl ?_
  refine g_iconst d24_2 (v := 1) rfl (pc' := 3) rfl ?_
  refine g_ishr d24_3 (v := (Int32.ofNat cs.length)) (shr1 (by omega)) (pc' := 4) rfl ?_
  exact g_ireturn d24_4 rfl ⟨rfl, rfl⟩ (by decide) (by decide)
theorem ef_c_uci (m : MethodId) (x0 : Int32) (x1 : Addr)  : entryFrame m #[(.int x0), (.ref x1)] 2 = mkF m 0 #[.val (.int x0), .val (.ref x1)] [] := by first | (simp [entryFrame, mkF, argsToLocals, Value.category]; done) | rfl
set_option maxRecDepth 65536 in
set_option maxHeartbeats 40000000 in
theorem c_uci {l : Launch} {Z : State} {n0 : Nat} {a0 : Array Value} (hw : Hw a0 Z) (t : Addr) (cs : List Int32) (i : Nat) (sf : Value) (h0 : Heap) (hF : Sta Z Z.heap "jdk/internal/util/Preconditions" "SIOOBE_FORMATTER" "Ljava/util/function/BiFunction;" sf) (rsf : sf.isRef = true) (A : Ia Z h0 t .byte (b16 cs)) (hi : i < cs.length) (h8 : cs.length ≤ 8) :
    Con l Z n0 ELs (⟨"java/lang/StringUTF16", "checkIndex", "(I[B)V"⟩ : MethodName) jdk_52_method_91_code 2 none [] ({ frames := 2, cells := 0, slots := 0, locals := 28 } : Room) #[(.int (Int32.ofNat i)), (.ref t)] h0 [] false (fun w h => h0 = h) := by
  refine con_of (plainFor_of_name pn_0) (fun mt => ef_c_uci mt ((Int32.ofNat i)) t ) ?_
  intro K
  refine g_iloadN d23_0 rfl (pc' := 1) rfl ?_
  refine g_aloadN d23_1 rfl rfl (pc' := 2) rfl ?_
  refine g_static (W := 1) (argsL := [(.ref t)]) (rest := [(.int (Int32.ofNat i))]) d23_2 (w_121 hw) (w_122 hw) (by decide) (lenOf pd_11 rfl) (c_uln hw t cs _ A h8) (w_123 hw) (w_32 hw) (by decide) (by decide) (fun _ q => nomatch q) rfl (Nat.le_of_eq rfl) rfl (by decide) (by decide) (pc' := 5) rfl ?_
  intro w1 h1 q1 Kc1
  obtain ⟨rfl, rfl⟩ := q1
  refine g_staticN (W := 0) (argsL := [(.int (Int32.ofNat i)), (.int (Int32.ofNat cs.length))]) (rest := []) d23_5 (w_124 hw) (w_125 hw) (by decide) (lenOf pd_9 rfl) (c_ci hw _ _ sf _ hF rsf ⟨(ofNat_lt hi (by omega)).1, (ofNat_lt hi (by omega)).2.1⟩) (w_126 hw) (w_18 hw) (by decide) (by decide) (fun _ q => nomatch q) rfl (Nat.le_of_eq rfl) rfl (by decide) (by decide) (pc' := 8) rfl ?_
  intro w2 h2 q2 Kc2
  obtain rfl := q2
  exact g_return d23_8 rfl rfl (by decide) (by decide)
theorem ef_c_uca (m : MethodId) (x0 : Addr) (x1 : Int32)  : entryFrame m #[(.ref x0), (.int x1)] 2 = mkF m 0 #[.val (.ref x0), .val (.int x1)] [] := by first | (simp [entryFrame, mkF, argsToLocals, Value.category]; done) | rfl
set_option maxRecDepth 65536 in
set_option maxHeartbeats 40000000 in
theorem c_uca {l : Launch} {Z : State} {n0 : Nat} {a0 : Array Value} (hw : Hw a0 Z) (t : Addr) (cs : List Int32) (i : Nat) (ch : Int32) (sf : Value) (h0 : Heap) (hA : Sta Z Z.heap "java/lang/StringUTF16" "$assertionsDisabled" "Z" (.int 1)) (hH : Sta Z Z.heap "java/lang/StringUTF16" "HI_BYTE_SHIFT" "I" (.int 0)) (hL : Sta Z Z.heap "java/lang/StringUTF16" "LO_BYTE_SHIFT" "I" (.int 8)) (hF : Sta Z Z.heap "jdk/internal/util/Preconditions" "SIOOBE_FORMATTER" "Ljava/util/function/BiFunction;" sf) (rsf : sf.isRef = true) (A : Ia Z h0 t .byte (b16 cs)) (hi : cs[i]? = some ch) (hc : ¬ ch < 0 ∧ ¬ (65535 : Int32) < ch) (h8 : cs.length ≤ 8) :
    Con l Z n0 ELs (⟨"java/lang/StringUTF16", "charAt", "([BI)C"⟩ : MethodName) jdk_52_method_83_code 2 (some .char) [] ({ frames := 3, cells := 0, slots := 0, locals := 45 } : Room) #[(.ref t), (.int (Int32.ofNat i))] h0 [] false (fun w h => w = .int ch ∧ h0 = h) := by
  refine con_of (plainFor_of_name pn_0) (fun mt => ef_c_uca mt t ((Int32.ofNat i)) ) ?_
  intro K
  refine g_iloadN d22_0 rfl (pc' := 1) rfl ?_
  refine g_aloadN d22_1 rfl rfl (pc' := 2) rfl ?_
  refine g_staticN (W := 0) (argsL := [(.int (Int32.ofNat i)), (.ref t)]) (rest := []) d22_2 (w_118 hw) (w_119 hw) (by decide) (lenOf pd_12 rfl) (c_uci hw t cs i sf _ hF rsf A (List.getElem?_eq_some_iff.mp hi).1 h8) (w_120 hw) (w_32 hw) (by decide) (by decide) (fun _ q => nomatch q) rfl (Nat.le_of_eq rfl) rfl (by decide) (by decide) (pc' := 5) rfl ?_
  intro w1 h1 q1 Kc1
  obtain rfl := q1
  refine g_aloadN d22_5 rfl rfl (pc' := 6) rfl ?_
  refine g_iloadN d22_6 rfl (pc' := 7) rfl ?_
  refine g_static (W := 0) (argsL := [(.ref t), (.int (Int32.ofNat i))]) (rest := []) d22_7 (w_54 hw) (w_55 hw) (by decide) (lenOf pd_5 rfl) (c_get hw t cs i ch _ hA hH hL A hi hc h8) (w_56 hw) (w_32 hw) (by decide) (by decide) (fun _ q => nomatch q) rfl (Nat.le_of_eq rfl) rfl (by decide) (by decide) (pc' := 10) rfl ?_
  intro w2 h2 q2 Kc2
  obtain ⟨rfl, rfl⟩ := q2
  exact g_ireturnN d22_10 rfl (by simp) (get16 ch hc).2 ⟨rfl, rfl⟩ (by decide) (by decide)
theorem ef_c_uchar (m : MethodId) (x0 : Addr) (x1 : Int32)  : entryFrame m #[(.ref x0), (.int x1)] 2 = mkF m 0 #[.val (.ref x0), .val (.int x1)] [] := by first | (simp [entryFrame, mkF, argsToLocals, Value.category]; done) | rfl
set_option maxRecDepth 65536 in
set_option maxHeartbeats 40000000 in
theorem c_uchar {l : Launch} {Z : State} {n0 : Nat} {a0 : Array Value} (hw : Hw a0 Z) (x t : Addr) (cs : List Int32) (i : Nat) (ch z : Int32) (sf : Value) (h0 : Heap) (hC : Sta Z Z.heap "java/lang/String" "COMPACT_STRINGS" "Z" (.int z)) (hz : ¬ z = 0) (hA : Sta Z Z.heap "java/lang/StringUTF16" "$assertionsDisabled" "Z" (.int 1)) (hH : Sta Z Z.heap "java/lang/StringUTF16" "HI_BYTE_SHIFT" "I" (.int 0)) (hL : Sta Z Z.heap "java/lang/StringUTF16" "LO_BYTE_SHIFT" "I" (.int 8)) (hF : Sta Z Z.heap "jdk/internal/util/Preconditions" "SIOOBE_FORMATTER" "Ljava/util/function/BiFunction;" sf) (rsf : sf.isRef = true) (S : Su Z h0 x t cs) (hi : cs[i]? = some ch) :
    Con l Z n0 ELs (⟨"java/lang/String", "charAt", "(I)C"⟩ : MethodName) jdk_42_method_56_code 2 (some .char) [] ({ frames := 4, cells := 0, slots := 0, locals := 60 } : Room) #[(.ref x), (.int (Int32.ofNat i))] h0 [] false (fun w h => w = .int ch ∧ h0 = h) := by
  refine con_of (plainFor_of_name pn_1) (fun mt => ef_c_uchar mt x ((Int32.ofNat i)) ) ?_
  intro K
  have hc := S.2.2.2.2.1 ch (List.mem_of_getElem? hi)
  refine g_aloadN d20_0 rfl rfl (pc' := 1) rfl ?_
  refine g_virt (W := 0) (argsL := []) (rest := []) d20_1 (w_110 hw) (w_111 hw) (nf_self (w_113 hw)) (w_113 hw) (w_112 hw) (by decide) (lenOf pd_13 rfl) S.1 (c_ulat hw x cs z _ hC hz S.2.1) (w_114 hw) (w_18 hw) (by decide) (by decide) (fun _ q => nomatch q) rfl (Nat.le_of_eq rfl) rfl (by decide) (by decide) (pc' := 4) rfl ?_
  intro w1 h1 q1 Kc1
  obtain ⟨rfl, rfl⟩ := q1
  by_cases q : lat cs = true
  ·
    refine g_if_eq_f d20_4 (by rw [if_pos q]; decide) (pc' := 7) rfl ?_
    refine g_aloadN d20_7 rfl rfl (pc' := 8) rfl ?_
    refine g_getF d20_8 (w_62 hw) Via.refl S.2.2.1 (pc' := 11) rfl ?_
    refine g_iloadN d20_11 rfl (pc' := 12) rfl ?_
    refine g_static (W := 0) (argsL := [(.ref t), (.int (Int32.ofNat i))]) (rest := []) d20_12 (w_145 hw) (w_146 hw) (by decide) (lenOf pd_5 rfl) (c_lca hw t cs i ch sf _ hF rsf (by have q2 := S.2.2.2.1; rw [enc, if_pos q] at q2; exact q2) hi ⟨hc.1, by have q3 := List.all_eq_true.mp q ch (List.mem_of_getElem? hi); simpa using q3⟩) (w_148 hw) (w_147 hw) (by decide) (by decide) (fun _ q => nomatch q) rfl (Nat.le_of_eq rfl) rfl (by decide) (by decide) (pc' := 15) rfl ?_
    intro w2 h2 q2 Kc2
    obtain ⟨rfl, rfl⟩ := q2
    exact g_ireturnN d20_15 rfl (by simp) (get16 ch hc).2 ⟨rfl, rfl⟩ (by decide) (by decide)
  ·
    refine g_if_eq_t d20_4 (if_neg q) (pc' := 16) (by decide) rfl ?_
    refine g_aloadN d20_16 rfl rfl (pc' := 17) rfl ?_
    refine g_getF d20_17 (w_62 hw) Via.refl S.2.2.1 (pc' := 20) rfl ?_
    refine g_iloadN d20_20 rfl (pc' := 21) rfl ?_
    refine g_static (W := 0) (argsL := [(.ref t), (.int (Int32.ofNat i))]) (rest := []) d20_21 (w_115 hw) (w_116 hw) (by decide) (lenOf pd_5 rfl) (c_uca hw t cs i ch sf _ hA hH hL hF rsf (by have q2 := S.2.2.2.1; rw [enc, if_neg q] at q2; exact q2) hi hc S.2.2.2.2.2) (w_117 hw) (w_32 hw) (by decide) (by decide) (fun _ q => nomatch q) rfl (Nat.le_of_eq rfl) rfl (by decide) (by decide) (pc' := 24) rfl ?_
    intro w3 h3 q3 Kc3
    obtain ⟨rfl, rfl⟩ := q3
    exact g_ireturnN d20_24 rfl (by simp) (get16 ch hc).2 ⟨rfl, rfl⟩ (by decide) (by decide)
theorem ef_c_hs (m : MethodId) (x0 : Int32)  : entryFrame m #[(.int x0)] 1 = mkF m 0 #[.val (.int x0)] [] := by first | (simp [entryFrame, mkF, argsToLocals, Value.category]; done) | rfl
set_option maxRecDepth 65536 in
set_option maxHeartbeats 40000000 in
theorem c_hs {l : Launch} {Z : State} {n0 : Nat} {a0 : Array Value} (hw : Hw a0 Z) (ch : Int32) (h0 : Heap)  :
    Con l Z n0 ELs (⟨"java/lang/Character", "isHighSurrogate", "(C)Z"⟩ : MethodName) jdk_89_method_14_code 1 (some .boolean) [] ({ frames := 0, cells := 0, slots := 0, locals := 0 } : Room) #[(.int ch)] h0 [] false (fun w h => w = .int (if isHi ch = true then 1 else 0) ∧ h0 = h) := by
  refine con_of (plainFor_of_name pn_4) (fun mt => ef_c_hs mt ch ) ?_
  intro K
  by_cases q1 : ch < 55296
  ·
    refine g_iloadN d27_0 rfl (pc' := 1) rfl ?_
    refine g_ldcI d27_1 (w_135 hw) (pc' := 3) rfl ?_
    refine g_icmp_lt_t d27_3 q1 (pc' := 16) (by decide) rfl ?_
    refine g_iconst d27_16 (v := 0) rfl (pc' := 17) rfl ?_
    exact g_ireturnN d27_17 rfl (by simp) (z := 0) rfl ⟨by rw [if_neg (by simp [isHi, q1])], rfl⟩ (by decide) (by decide)
  · by_cases q2 : ch < 56320
    · have hb1 : ch < 56320 := q2
      refine g_iloadN d27_0 rfl (pc' := 1) rfl ?_
      refine g_ldcI d27_1 (w_135 hw) (pc' := 3) rfl ?_
      refine g_icmp_lt_f d27_3 q1 (pc' := 6) rfl ?_
      refine g_iloadN d27_6 rfl (pc' := 7) rfl ?_
      refine g_ldcI d27_7 (w_139 hw) (pc' := 9) rfl ?_
      refine g_icmp_ge_f d27_9 (hb1) (pc' := 12) rfl ?_
      refine g_iconst d27_12 (v := 1) rfl (pc' := 13) rfl ?_
      refine g_goto d27_13 (pc' := 17) (by decide) rfl ?_
      exact g_ireturnN d27_17 rfl (by simp) (z := 1) rfl ⟨by rw [if_pos (by simp only [isHi, decide_eq_true_eq]; exact ⟨q1, q2⟩)], rfl⟩ (by decide) (by decide)
    · have hb2 : ¬ ch < 56320 := q2
      refine g_iloadN d27_0 rfl (pc' := 1) rfl ?_
      refine g_ldcI d27_1 (w_135 hw) (pc' := 3) rfl ?_
      refine g_icmp_lt_f d27_3 q1 (pc' := 6) rfl ?_
      refine g_iloadN d27_6 rfl (pc' := 7) rfl ?_
      refine g_ldcI d27_7 (w_139 hw) (pc' := 9) rfl ?_
      refine g_icmp_ge_t d27_9 hb2 (pc' := 16) (by decide) rfl ?_
      refine g_iconst d27_16 (v := 0) rfl (pc' := 17) rfl ?_
      exact g_ireturnN d27_17 rfl (by simp) (z := 0) rfl ⟨by rw [if_neg (by simp only [isHi, decide_eq_true_eq]; exact fun z => q2 z.2)], rfl⟩ (by decide) (by decide)
theorem ef_c_ls (m : MethodId) (x0 : Int32)  : entryFrame m #[(.int x0)] 1 = mkF m 0 #[.val (.int x0)] [] := by first | (simp [entryFrame, mkF, argsToLocals, Value.category]; done) | rfl
set_option maxRecDepth 65536 in
set_option maxHeartbeats 40000000 in
theorem c_ls {l : Launch} {Z : State} {n0 : Nat} {a0 : Array Value} (hw : Hw a0 Z) (ch : Int32) (h0 : Heap)  :
    Con l Z n0 ELs (⟨"java/lang/Character", "isLowSurrogate", "(C)Z"⟩ : MethodName) jdk_89_method_15_code 1 (some .boolean) [] ({ frames := 0, cells := 0, slots := 0, locals := 0 } : Room) #[(.int ch)] h0 [] false (fun w h => w = .int (if isLo ch = true then 1 else 0) ∧ h0 = h) := by
  refine con_of (plainFor_of_name pn_4) (fun mt => ef_c_ls mt ch ) ?_
  intro K
  by_cases q1 : ch < 56320
  ·
    refine g_iloadN d29_0 rfl (pc' := 1) rfl ?_
    refine g_ldcI d29_1 (w_139 hw) (pc' := 3) rfl ?_
    refine g_icmp_lt_t d29_3 q1 (pc' := 16) (by decide) rfl ?_
    refine g_iconst d29_16 (v := 0) rfl (pc' := 17) rfl ?_
    exact g_ireturnN d29_17 rfl (by simp) (z := 0) rfl ⟨by rw [if_neg (by simp [isLo, q1])], rfl⟩ (by decide) (by decide)
  · by_cases q2 : ch < 57344
    · have hb1 : ch < 57344 := q2
      refine g_iloadN d29_0 rfl (pc' := 1) rfl ?_
      refine g_ldcI d29_1 (w_139 hw) (pc' := 3) rfl ?_
      refine g_icmp_lt_f d29_3 q1 (pc' := 6) rfl ?_
      refine g_iloadN d29_6 rfl (pc' := 7) rfl ?_
      refine g_ldcI d29_7 (w_144 hw) (pc' := 9) rfl ?_
      refine g_icmp_ge_f d29_9 (hb1) (pc' := 12) rfl ?_
      refine g_iconst d29_12 (v := 1) rfl (pc' := 13) rfl ?_
      refine g_goto d29_13 (pc' := 17) (by decide) rfl ?_
      exact g_ireturnN d29_17 rfl (by simp) (z := 1) rfl ⟨by rw [if_pos (by simp only [isLo, decide_eq_true_eq]; exact ⟨q1, q2⟩)], rfl⟩ (by decide) (by decide)
    · have hb2 : ¬ ch < 57344 := q2
      refine g_iloadN d29_0 rfl (pc' := 1) rfl ?_
      refine g_ldcI d29_1 (w_139 hw) (pc' := 3) rfl ?_
      refine g_icmp_lt_f d29_3 q1 (pc' := 6) rfl ?_
      refine g_iloadN d29_6 rfl (pc' := 7) rfl ?_
      refine g_ldcI d29_7 (w_144 hw) (pc' := 9) rfl ?_
      refine g_icmp_ge_t d29_9 hb2 (pc' := 16) (by decide) rfl ?_
      refine g_iconst d29_16 (v := 0) rfl (pc' := 17) rfl ?_
      exact g_ireturnN d29_17 rfl (by simp) (z := 0) rfl ⟨by rw [if_neg (by simp only [isLo, decide_eq_true_eq]; exact fun z => q2 z.2)], rfl⟩ (by decide) (by decide)
theorem ef_c_ih (m : MethodId) (x0 : Int32)  : entryFrame m #[(.int x0)] 1 = mkF m 0 #[.val (.int x0)] [] := by first | (simp [entryFrame, mkF, argsToLocals, Value.category]; done) | rfl
set_option maxRecDepth 65536 in
set_option maxHeartbeats 40000000 in
theorem c_ih {l : Launch} {Z : State} {n0 : Nat} {a0 : Array Value} (hw : Hw a0 Z) (ch : Int32) (h0 : Heap)  :
    Con l Z n0 ELs (⟨"com/example/passagework/passagework/CodePointsIndexOfPinLaw", "isHigh", "(C)Z"⟩ : MethodName) method_3_code 1 (some .boolean) [] ({ frames := 0, cells := 0, slots := 0, locals := 0 } : Room) #[(.int ch)] h0 [] false (fun w h => w = .int (if isHi ch = true then 1 else 0) ∧ h0 = h) := by
  refine con_of (plainFor_of_name pn_5) (fun mt => ef_c_ih mt ch ) ?_
  intro K
  by_cases q1 : ch < 55296
  ·
    refine g_iloadN d2_0 rfl (pc' := 1) rfl ?_
    refine g_ldcI d2_1 (w_7 hw) (pc' := 3) rfl ?_
    refine g_icmp_lt_t d2_3 q1 (pc' := 16) (by decide) rfl ?_
    refine g_iconst d2_16 (v := 0) rfl (pc' := 17) rfl ?_
    exact g_ireturnN d2_17 rfl (by simp) (z := 0) rfl ⟨by rw [if_neg (by simp [isHi, q1])], rfl⟩ (by decide) (by decide)
  · by_cases q2 : ch < 56320
    · have hb1 : ¬ (56319 : Int32) < ch := by
        rw [Int32.lt_iff_toInt_lt] at q2 ⊢
        have e1 : (56319 : Int32).toInt = 56319 := by decide
        have e2 : (56320 : Int32).toInt = 56320 := by decide
        omega
      refine g_iloadN d2_0 rfl (pc' := 1) rfl ?_
      refine g_ldcI d2_1 (w_7 hw) (pc' := 3) rfl ?_
      refine g_icmp_lt_f d2_3 q1 (pc' := 6) rfl ?_
      refine g_iloadN d2_6 rfl (pc' := 7) rfl ?_
      refine g_ldcI d2_7 (w_11 hw) (pc' := 9) rfl ?_
      refine g_icmp_gt_f d2_9 (hb1) (pc' := 12) rfl ?_
      refine g_iconst d2_12 (v := 1) rfl (pc' := 13) rfl ?_
      refine g_goto d2_13 (pc' := 17) (by decide) rfl ?_
      exact g_ireturnN d2_17 rfl (by simp) (z := 1) rfl ⟨by rw [if_pos (by simp only [isHi, decide_eq_true_eq]; exact ⟨q1, q2⟩)], rfl⟩ (by decide) (by decide)
    · have hb2 : (56319 : Int32) < ch := by
        rw [Int32.lt_iff_toInt_lt] at q2 ⊢
        have e1 : (56319 : Int32).toInt = 56319 := by decide
        have e2 : (56320 : Int32).toInt = 56320 := by decide
        omega
      refine g_iloadN d2_0 rfl (pc' := 1) rfl ?_
      refine g_ldcI d2_1 (w_7 hw) (pc' := 3) rfl ?_
      refine g_icmp_lt_f d2_3 q1 (pc' := 6) rfl ?_
      refine g_iloadN d2_6 rfl (pc' := 7) rfl ?_
      refine g_ldcI d2_7 (w_11 hw) (pc' := 9) rfl ?_
      refine g_icmp_gt_t d2_9 hb2 (pc' := 16) (by decide) rfl ?_
      refine g_iconst d2_16 (v := 0) rfl (pc' := 17) rfl ?_
      exact g_ireturnN d2_17 rfl (by simp) (z := 0) rfl ⟨by rw [if_neg (by simp only [isHi, decide_eq_true_eq]; exact fun z => q2 z.2)], rfl⟩ (by decide) (by decide)
theorem ef_c_il (m : MethodId) (x0 : Int32)  : entryFrame m #[(.int x0)] 1 = mkF m 0 #[.val (.int x0)] [] := by first | (simp [entryFrame, mkF, argsToLocals, Value.category]; done) | rfl
set_option maxRecDepth 65536 in
set_option maxHeartbeats 40000000 in
theorem c_il {l : Launch} {Z : State} {n0 : Nat} {a0 : Array Value} (hw : Hw a0 Z) (ch : Int32) (h0 : Heap)  :
    Con l Z n0 ELs (⟨"com/example/passagework/passagework/CodePointsIndexOfPinLaw", "isLow", "(C)Z"⟩ : MethodName) method_4_code 1 (some .boolean) [] ({ frames := 0, cells := 0, slots := 0, locals := 0 } : Room) #[(.int ch)] h0 [] false (fun w h => w = .int (if isLo ch = true then 1 else 0) ∧ h0 = h) := by
  refine con_of (plainFor_of_name pn_5) (fun mt => ef_c_il mt ch ) ?_
  intro K
  by_cases q1 : ch < 56320
  ·
    refine g_iloadN d28_0 rfl (pc' := 1) rfl ?_
    refine g_ldcI d28_1 (w_6 hw) (pc' := 3) rfl ?_
    refine g_icmp_lt_t d28_3 q1 (pc' := 16) (by decide) rfl ?_
    refine g_iconst d28_16 (v := 0) rfl (pc' := 17) rfl ?_
    exact g_ireturnN d28_17 rfl (by simp) (z := 0) rfl ⟨by rw [if_neg (by simp [isLo, q1])], rfl⟩ (by decide) (by decide)
  · by_cases q2 : ch < 57344
    · have hb1 : ¬ (57343 : Int32) < ch := by
        rw [Int32.lt_iff_toInt_lt] at q2 ⊢
        have e1 : (57343 : Int32).toInt = 57343 := by decide
        have e2 : (57344 : Int32).toInt = 57344 := by decide
        omega
      refine g_iloadN d28_0 rfl (pc' := 1) rfl ?_
      refine g_ldcI d28_1 (w_6 hw) (pc' := 3) rfl ?_
      refine g_icmp_lt_f d28_3 q1 (pc' := 6) rfl ?_
      refine g_iloadN d28_6 rfl (pc' := 7) rfl ?_
      refine g_ldcI d28_7 (w_140 hw) (pc' := 9) rfl ?_
      refine g_icmp_gt_f d28_9 (hb1) (pc' := 12) rfl ?_
      refine g_iconst d28_12 (v := 1) rfl (pc' := 13) rfl ?_
      refine g_goto d28_13 (pc' := 17) (by decide) rfl ?_
      exact g_ireturnN d28_17 rfl (by simp) (z := 1) rfl ⟨by rw [if_pos (by simp only [isLo, decide_eq_true_eq]; exact ⟨q1, q2⟩)], rfl⟩ (by decide) (by decide)
    · have hb2 : (57343 : Int32) < ch := by
        rw [Int32.lt_iff_toInt_lt] at q2 ⊢
        have e1 : (57343 : Int32).toInt = 57343 := by decide
        have e2 : (57344 : Int32).toInt = 57344 := by decide
        omega
      refine g_iloadN d28_0 rfl (pc' := 1) rfl ?_
      refine g_ldcI d28_1 (w_6 hw) (pc' := 3) rfl ?_
      refine g_icmp_lt_f d28_3 q1 (pc' := 6) rfl ?_
      refine g_iloadN d28_6 rfl (pc' := 7) rfl ?_
      refine g_ldcI d28_7 (w_140 hw) (pc' := 9) rfl ?_
      refine g_icmp_gt_t d28_9 hb2 (pc' := 16) (by decide) rfl ?_
      refine g_iconst d28_16 (v := 0) rfl (pc' := 17) rfl ?_
      exact g_ireturnN d28_17 rfl (by simp) (z := 0) rfl ⟨by rw [if_neg (by simp only [isLo, decide_eq_true_eq]; exact fun z => q2 z.2)], rfl⟩ (by decide) (by decide)
theorem ef_c_ob (m : MethodId) (x0 : Addr) (x1 : Int32) (x2 : Int32)  : entryFrame m #[(.ref x0), (.int x1), (.int x2)] 6 = mkF m 0 #[.val (.ref x0), .val (.int x1), .val (.int x2), .unset, .unset, .unset] [] := by first | (simp [entryFrame, mkF, argsToLocals, Value.category]; done) | rfl
set_option maxRecDepth 65536 in
set_option maxHeartbeats 40000000 in
theorem c_ob {l : Launch} {Z : State} {n0 : Nat} {a0 : Array Value} (hw : Hw a0 Z) (x t : Addr) (cs : List Int32) (a k : Nat) (z : Int32) (sf : Value) (h0 : Heap) (hC : Sta Z Z.heap "java/lang/String" "COMPACT_STRINGS" "Z" (.int z)) (hz : ¬ z = 0) (hA : Sta Z Z.heap "java/lang/StringUTF16" "$assertionsDisabled" "Z" (.int 1)) (hH : Sta Z Z.heap "java/lang/StringUTF16" "HI_BYTE_SHIFT" "I" (.int 0)) (hL : Sta Z Z.heap "java/lang/StringUTF16" "LO_BYTE_SHIFT" "I" (.int 8)) (hF : Sta Z Z.heap "jdk/internal/util/Preconditions" "SIOOBE_FORMATTER" "Ljava/util/function/BiFunction;" sf) (rsf : sf.isRef = true) (S : Su Z h0 x t cs) (hal : a ≤ cs.length) (hk : k ≤ 8) (hin : ∀ j, j < k → advN cs j a < cs.length) :
    Con l Z n0 ELs (⟨"java/lang/Character", "offsetByCodePoints", "(Ljava/lang/CharSequence;II)I"⟩ : MethodName) jdk_89_method_36_code 6 (some .int) [] ({ frames := 5, cells := 0, slots := 0, locals := 80 } : Room) #[(.ref x), (.int (Int32.ofNat a)), (.int (Int32.ofNat k))] h0 [] false (fun w h => w = .int (Int32.ofNat (advN cs k a)) ∧ h0 = h) := by
  refine con_of (plainFor_of_name pn_4) (fun mt => ef_c_ob mt x ((Int32.ofNat a)) ((Int32.ofNat k)) ) ?_
  intro K
  have h8 := S.2.2.2.2.2
  have lp : ∀ (m i X : Nat), i + m = k → X = advN cs i a → X ≤ cs.length → Go l Z n0 ELs (⟨"java/lang/Character", "offsetByCodePoints", "(Ljava/lang/CharSequence;II)I"⟩ : MethodName) jdk_89_method_36_code 6 (some .int) ({ frames := 5, cells := 0, slots := 0, locals := 80 } : Room) h0 [] false (fun w h => w = .int (Int32.ofNat (advN cs k a)) ∧ h0 = h) K [] h0 0 0 34 #[.val (.ref x), .val (.int (Int32.ofNat a)), .val (.int (Int32.ofNat k)), .val (.int (Int32.ofNat cs.length)), .val (.int (Int32.ofNat X)), .val (.int (Int32.ofNat i))] [] := by
    intro m
    induction m with
    | zero =>
      intro i X him hX hXl
      refine g_iload d17_34 rfl (pc' := 36) rfl ?_
      refine g_iloadN d17_36 rfl (pc' := 37) rfl ?_
      by_cases q : (Int32.ofNat X) < (Int32.ofNat cs.length)
      ·
        refine g_icmp_ge_f d17_37 q (pc' := 40) rfl ?_
        refine g_iload d17_40 rfl (pc' := 42) rfl ?_
        refine g_iloadN d17_42 rfl (pc' := 43) rfl ?_
        refine g_icmp_ge_t d17_43 (by rw [show i = k by omega]; exact (ofNat_le (Nat.le_refl k) (by omega)).2) (pc' := 92) (by decide) rfl ?_
        refine g_iload d17_92 rfl (pc' := 94) rfl ?_
        refine g_iloadN d17_94 rfl (pc' := 95) rfl ?_
        refine g_icmp_ge_t d17_95 (by rw [show i = k by omega]; exact (ofNat_le (Nat.le_refl k) (by omega)).2) (pc' := 106) (by decide) rfl ?_
        refine g_goto d17_106 (pc' := 182) (by decide) rfl ?_
        refine g_iload d17_182 rfl (pc' := 184) rfl ?_
        exact g_ireturn d17_184 rfl ⟨by rw [hX, show i = k by omega], rfl⟩ (by decide) (by decide)
      ·
        refine g_icmp_ge_t d17_37 q (pc' := 92) (by decide) rfl ?_
        refine g_iload d17_92 rfl (pc' := 94) rfl ?_
        refine g_iloadN d17_94 rfl (pc' := 95) rfl ?_
        refine g_icmp_ge_t d17_95 (by rw [show i = k by omega]; exact (ofNat_le (Nat.le_refl k) (by omega)).2) (pc' := 106) (by decide) rfl ?_
        refine g_goto d17_106 (pc' := 182) (by decide) rfl ?_
        refine g_iload d17_182 rfl (pc' := 184) rfl ?_
        exact g_ireturn d17_184 rfl ⟨by rw [hX, show i = k by omega], rfl⟩ (by decide) (by decide)
    | succ m ih =>
      intro i X him hX hXl
      have hXn : X < cs.length := by rw [hX]; exact hin i (by omega)
      have hl1 := ofNat_lt (i := X) (n := cs.length) hXn (by omega)
      have hl2 := ofNat_lt (i := i) (n := k) (by omega) (by omega)
      obtain ⟨ch, hch⟩ : ∃ ch, cs[X]? = some ch := ⟨_, List.getElem?_eq_getElem hXn⟩
      refine g_iload d17_34 rfl (pc' := 36) rfl ?_
      refine g_iloadN d17_36 rfl (pc' := 37) rfl ?_
      refine g_icmp_ge_f d17_37 hl1.2.1 (pc' := 40) rfl ?_
      refine g_iload d17_40 rfl (pc' := 42) rfl ?_
      refine g_iloadN d17_42 rfl (pc' := 43) rfl ?_
      refine g_icmp_ge_f d17_43 hl2.2.1 (pc' := 46) rfl ?_
      refine g_aloadN d17_46 rfl rfl (pc' := 47) rfl ?_
      refine g_iload d17_47 rfl (pc' := 49) rfl ?_
      refine g_iinc d17_49 (v := 1) rfl rfl (y := (Int32.ofNat (X + 1))) (ofNat_succ (by omega)) (L' := #[.val (.ref x), .val (.int (Int32.ofNat a)), .val (.int (Int32.ofNat k)), .val (.int (Int32.ofNat cs.length)), .val (.int (Int32.ofNat (X + 1))), .val (.int (Int32.ofNat i))]) rfl (pc' := 52) rfl ?_
      refine g_iface (W := 0) (argsL := [(.int (Int32.ofNat X))]) (rest := []) d17_52 (w_102 hw) (w_103 hw) (fun _ _ hZ => mvT hZ (w_104 hw)) (w_105 hw) (w_106 hw) (w_107 hw) (w_108 hw) (w_95 hw) (by decide) (lenOf pd_15 rfl) S.1 (c_uchar hw x t cs X ch z sf _ hC hz hA hH hL hF rsf S hch) (w_109 hw) (w_18 hw) (by decide) (by decide) rfl (Nat.le_of_eq rfl) rfl (by decide) (by decide) (pc' := 57) rfl ?_
      intro w1 h1 q1 Kc1
      obtain ⟨rfl, rfl⟩ := q1
      refine g_static (W := 0) (argsL := [(.int ch)]) (rest := []) d17_57 (w_132 hw) (w_133 hw) (by decide) (lenOf pd_16 rfl) (c_hs hw ch _) (w_134 hw) (w_86 hw) (by decide) (by decide) (fun _ q => nomatch q) rfl (Nat.le_of_eq rfl) rfl (by decide) (by decide) (pc' := 60) rfl ?_
      intro w2 h2 q2 Kc2
      obtain ⟨rfl, rfl⟩ := q2
      by_cases q1 : isHi ch = true
      ·
        refine g_if_eq_f d17_60 (by rw [if_pos q1]; decide) (pc' := 63) rfl ?_
        refine g_iload d17_63 rfl (pc' := 65) rfl ?_
        refine g_iloadN d17_65 rfl (pc' := 66) rfl ?_
        by_cases q2 : X + 1 < cs.length
        · obtain ⟨c2, hc2⟩ : ∃ c2, cs[X + 1]? = some c2 := ⟨_, List.getElem?_eq_getElem q2⟩
          refine g_icmp_ge_f d17_66 (ofNat_lt q2 (by omega)).2.1 (pc' := 69) rfl ?_
          refine g_aloadN d17_69 rfl rfl (pc' := 70) rfl ?_
          refine g_iload d17_70 rfl (pc' := 72) rfl ?_
          refine g_iface (W := 0) (argsL := [(.int (Int32.ofNat (X + 1)))]) (rest := []) d17_72 (w_102 hw) (w_103 hw) (fun _ _ hZ => mvT hZ (w_104 hw)) (w_105 hw) (w_106 hw) (w_107 hw) (w_108 hw) (w_95 hw) (by decide) (lenOf pd_15 rfl) S.1 (c_uchar hw x t cs (X + 1) c2 z sf _ hC hz hA hH hL hF rsf S hc2) (w_109 hw) (w_18 hw) (by decide) (by decide) rfl (Nat.le_of_eq rfl) rfl (by decide) (by decide) (pc' := 77) rfl ?_
          intro w3 h3 q3 Kc3
          obtain ⟨rfl, rfl⟩ := q3
          refine g_static (W := 0) (argsL := [(.int c2)]) (rest := []) d17_77 (w_141 hw) (w_142 hw) (by decide) (lenOf pd_16 rfl) (c_ls hw c2 _) (w_143 hw) (w_86 hw) (by decide) (by decide) (fun _ q => nomatch q) rfl (Nat.le_of_eq rfl) rfl (by decide) (by decide) (pc' := 80) rfl ?_
          intro w4 h4 q4 Kc4
          obtain ⟨rfl, rfl⟩ := q4
          by_cases q3 : isLo c2 = true
          ·
            refine g_if_eq_f d17_80 (by rw [if_pos q3]; decide) (pc' := 83) rfl ?_
            refine g_iinc d17_83 (v := 1) rfl rfl (y := (Int32.ofNat (X + 2))) (ofNat_succ (by omega)) (L' := #[.val (.ref x), .val (.int (Int32.ofNat a)), .val (.int (Int32.ofNat k)), .val (.int (Int32.ofNat cs.length)), .val (.int (Int32.ofNat (X + 2))), .val (.int (Int32.ofNat i))]) rfl (pc' := 86) rfl ?_
            refine g_iinc d17_86 (v := 1) rfl rfl (y := (Int32.ofNat (i + 1))) (ofNat_succ (by omega)) (L' := #[.val (.ref x), .val (.int (Int32.ofNat a)), .val (.int (Int32.ofNat k)), .val (.int (Int32.ofNat cs.length)), .val (.int (Int32.ofNat (X + 2))), .val (.int (Int32.ofNat (i + 1)))]) rfl (pc' := 89) rfl ?_
            refine g_goto d17_89 (pc' := 34) (by decide) rfl ?_
            have hps : ps cs X = true := by simp only [ps, hch, hc2, q1, q3]; rfl
            exact ih (i + 1) (X + 2) (by omega) (by rw [advN, ← hX, adv, if_pos hps]) (by omega)
          ·
            refine g_if_eq_t d17_80 (if_neg q3) (pc' := 86) (by decide) rfl ?_
            refine g_iinc d17_86 (v := 1) rfl rfl (y := (Int32.ofNat (i + 1))) (ofNat_succ (by omega)) (L' := #[.val (.ref x), .val (.int (Int32.ofNat a)), .val (.int (Int32.ofNat k)), .val (.int (Int32.ofNat cs.length)), .val (.int (Int32.ofNat (X + 1))), .val (.int (Int32.ofNat (i + 1)))]) rfl (pc' := 89) rfl ?_
            refine g_goto d17_89 (pc' := 34) (by decide) rfl ?_
            have hps : ¬ ps cs X = true := by simp only [ps, hch, hc2, q1, Bool.true_and]; exact q3
            exact ih (i + 1) (X + 1) (by omega) (by rw [advN, ← hX, adv, if_neg hps]) (by omega)
        ·
          refine g_icmp_ge_t d17_66 (by rw [show X + 1 = cs.length by omega]; exact (ofNat_le (Nat.le_refl _) (by omega)).2) (pc' := 86) (by decide) rfl ?_
          refine g_iinc d17_86 (v := 1) rfl rfl (y := (Int32.ofNat (i + 1))) (ofNat_succ (by omega)) (L' := #[.val (.ref x), .val (.int (Int32.ofNat a)), .val (.int (Int32.ofNat k)), .val (.int (Int32.ofNat cs.length)), .val (.int (Int32.ofNat (X + 1))), .val (.int (Int32.ofNat (i + 1)))]) rfl (pc' := 89) rfl ?_
          refine g_goto d17_89 (pc' := 34) (by decide) rfl ?_
          have hps : ¬ ps cs X = true := by simp only [ps, hch, List.getElem?_eq_none (show cs.length ≤ X + 1 by omega)]; exact Bool.false_ne_true
          exact ih (i + 1) (X + 1) (by omega) (by rw [advN, ← hX, adv, if_neg hps]) (by omega)
      ·
        refine g_if_eq_t d17_60 (if_neg q1) (pc' := 86) (by decide) rfl ?_
        refine g_iinc d17_86 (v := 1) rfl rfl (y := (Int32.ofNat (i + 1))) (ofNat_succ (by omega)) (L' := #[.val (.ref x), .val (.int (Int32.ofNat a)), .val (.int (Int32.ofNat k)), .val (.int (Int32.ofNat cs.length)), .val (.int (Int32.ofNat (X + 1))), .val (.int (Int32.ofNat (i + 1)))]) rfl (pc' := 89) rfl ?_
        refine g_goto d17_89 (pc' := 34) (by decide) rfl ?_
        have hps : ¬ ps cs X = true := by simp only [ps, hch]; cases hq : cs[X + 1]? with
            | none => exact Bool.false_ne_true
            | some b => simp [q1]
        exact ih (i + 1) (X + 1) (by omega) (by rw [advN, ← hX, adv, if_neg hps]) (by omega)
  refine g_aloadN d17_0 rfl rfl (pc' := 1) rfl ?_
  refine g_iface (W := 0) (argsL := []) (rest := []) d17_1 (w_88 hw) (w_89 hw) (fun _ _ hZ => mvT hZ (w_90 hw)) (w_91 hw) (w_92 hw) (w_93 hw) (w_94 hw) (w_95 hw) (by decide) (lenOf pd_14 rfl) S.1 (c_ulen hw x t cs z _ hC hz S) (w_96 hw) (w_18 hw) (by decide) (by decide) rfl (Nat.le_of_eq rfl) rfl (by decide) (by decide) (pc' := 6) rfl ?_
  intro w1 h1 q1 Kc1
  obtain ⟨rfl, rfl⟩ := q1
  refine g_istoreN d17_6 (L' := #[.val (.ref x), .val (.int (Int32.ofNat a)), .val (.int (Int32.ofNat k)), .val (.int (Int32.ofNat cs.length)), .unset, .unset]) rfl (pc' := 7) rfl ?_
  refine g_iloadN d17_7 rfl (pc' := 8) rfl ?_
  refine g_if_lt_f d17_8 (ofNat_le hal (by omega)).1 (pc' := 11) rfl ?_
  refine g_iloadN d17_11 rfl (pc' := 12) rfl ?_
  refine g_iloadN d17_12 rfl (pc' := 13) rfl ?_
  refine g_icmp_le_t d17_13 (ofNat_le hal (by omega)).2 (pc' := 24) (by decide) rfl ?_
  refine g_iloadN d17_24 rfl (pc' := 25) rfl ?_
  refine g_istore d17_25 (L' := #[.val (.ref x), .val (.int (Int32.ofNat a)), .val (.int (Int32.ofNat k)), .val (.int (Int32.ofNat cs.length)), .val (.int (Int32.ofNat a)), .unset]) rfl (pc' := 27) rfl ?_
  refine g_iloadN d17_27 rfl (pc' := 28) rfl ?_
  refine g_if_lt_f d17_28 (ofNat_le (Nat.le_refl k) (by omega)).1 (pc' := 31) rfl ?_
  refine g_iconst d17_31 (v := 0) rfl (pc' := 32) rfl ?_
  refine g_istore d17_32 (L' := #[.val (.ref x), .val (.int (Int32.ofNat a)), .val (.int (Int32.ofNat k)), .val (.int (Int32.ofNat cs.length)), .val (.int (Int32.ofNat a)), .val (.int 0)]) rfl (pc' := 34) rfl ?_
  exact lp k 0 a (by omega) rfl hal
theorem ef_c_sob (m : MethodId) (x0 : Addr) (x1 : Int32) (x2 : Int32)  : entryFrame m #[(.ref x0), (.int x1), (.int x2)] 3 = mkF m 0 #[.val (.ref x0), .val (.int x1), .val (.int x2)] [] := by first | (simp [entryFrame, mkF, argsToLocals, Value.category]; done) | rfl
set_option maxRecDepth 65536 in
set_option maxHeartbeats 40000000 in
theorem c_sob {l : Launch} {Z : State} {n0 : Nat} {a0 : Array Value} (hw : Hw a0 Z) (x t : Addr) (cs : List Int32) (a k : Nat) (z : Int32) (sf : Value) (h0 : Heap) (hC : Sta Z Z.heap "java/lang/String" "COMPACT_STRINGS" "Z" (.int z)) (hz : ¬ z = 0) (hA : Sta Z Z.heap "java/lang/StringUTF16" "$assertionsDisabled" "Z" (.int 1)) (hH : Sta Z Z.heap "java/lang/StringUTF16" "HI_BYTE_SHIFT" "I" (.int 0)) (hL : Sta Z Z.heap "java/lang/StringUTF16" "LO_BYTE_SHIFT" "I" (.int 8)) (hF : Sta Z Z.heap "jdk/internal/util/Preconditions" "SIOOBE_FORMATTER" "Ljava/util/function/BiFunction;" sf) (rsf : sf.isRef = true) (S : Su Z h0 x t cs) (hal : a ≤ cs.length) (hk : k ≤ 8) (hin : ∀ j, j < k → advN cs j a < cs.length) :
    Con l Z n0 ELs (⟨"java/lang/String", "offsetByCodePoints", "(II)I"⟩ : MethodName) jdk_42_method_60_code 3 (some .int) [] ({ frames := 6, cells := 0, slots := 0, locals := 100 } : Room) #[(.ref x), (.int (Int32.ofNat a)), (.int (Int32.ofNat k))] h0 [] false (fun w h => w = .int (Int32.ofNat (advN cs k a)) ∧ h0 = h) := by
  refine con_of (plainFor_of_name pn_1) (fun mt => ef_c_sob mt x ((Int32.ofNat a)) ((Int32.ofNat k)) ) ?_
  intro K
  refine g_aloadN d16_0 rfl rfl (pc' := 1) rfl ?_
  refine g_iloadN d16_1 rfl (pc' := 2) rfl ?_
  refine g_iloadN d16_2 rfl (pc' := 3) rfl ?_
  refine g_static (W := 0) (argsL := [(.ref x), (.int (Int32.ofNat a)), (.int (Int32.ofNat k))]) (rest := []) d16_3 (w_84 hw) (w_85 hw) (by decide) (lenOf pd_17 rfl) (c_ob hw x t cs a k z sf _ hC hz hA hH hL hF rsf S hal hk hin) (w_87 hw) (w_86 hw) (by decide) (by decide) (fun _ q => nomatch q) rfl (Nat.le_of_eq rfl) rfl (by decide) (by decide) (pc' := 6) rfl ?_
  intro w1 h1 q1 Kc1
  obtain ⟨rfl, rfl⟩ := q1
  exact g_ireturn d16_6 rfl ⟨rfl, rfl⟩ (by decide) (by decide)
theorem ef_c_cp (m : MethodId) (x0 : Addr) (x1 : Addr)  : entryFrame m #[(.ref x0), (.ref x1)] 2 = mkF m 0 #[.val (.ref x0), .val (.ref x1)] [] := by first | (simp [entryFrame, mkF, argsToLocals, Value.category]; done) | rfl
set_option maxRecDepth 65536 in
set_option maxHeartbeats 40000000 in
theorem c_cp {l : Launch} {Z : State} {n0 : Nat} {a0 : Array Value} (hw : Hw a0 Z) (x : Addr) (s : Addr) (u_text : Value)  (h0 : Heap) (E0 : Exa Z h0 x "com/example/passagework/passagework/CodePoints") (F_text : Fld Z h0 x "com/example/passagework/passagework/CodePoints" "text" "Ljava/lang/String;" u_text)  :
    Con l Z n0 ELs (⟨"com/example/passagework/passagework/CodePoints", "<init>", "(Ljava/lang/String;)V"⟩ : MethodName) prog_5_method_1_code 2 none [] ({ frames := 1, cells := 0, slots := 0, locals := 12 } : Room) #[(.ref x), (.ref s)] h0 [x] false (fun w h => Exa Z h x "com/example/passagework/passagework/CodePoints" ∧ Fld Z h x "com/example/passagework/passagework/CodePoints" "text" "Ljava/lang/String;" (.ref s)) := by
  refine con_of (plainFor_of_name pn_6) (fun mt => ef_c_cp mt x s ) ?_
  intro K
  refine g_aloadN d14_0 rfl rfl (pc' := 1) rfl ?_
  refine g_initO (W := 0) d14_1 (w_67 hw) (w_27 hw) (w_28 hw) rfl (by decide) (Nat.le_of_eq rfl) (by decide) (pc' := 4) rfl ?_
  refine g_aloadN d14_4 rfl rfl (pc' := 5) rfl ?_
  refine g_aloadN d14_5 rfl rfl (pc' := 6) rfl ?_
  refine g_putF (ty := (.object "java/lang/String")) d14_6 (w_68 hw) Via.refl F_text E0 (Or.inr ⟨(w_69 hw), rfl, rfl⟩) (w_14 hw) (by decide) rfl rfl (Or.inl (List.mem_of_getElem? (i := 0) rfl)) (List.mem_of_getElem? (i := 0) rfl) (pc' := 9) rfl ?_
  intro h1 W1
  have Kw1 := Keep.of_wr W1
  have G1_text := F_text.same W1
  exact g_return d14_9 rfl ⟨(E0.keep Kw1), G1_text⟩ (by decide) (by decide)
theorem ef_c_ix (m : MethodId) (x0 : Addr) (x1 : Int32)  : entryFrame m #[(.ref x0), (.int x1)] 2 = mkF m 0 #[.val (.ref x0), .val (.int x1)] [] := by first | (simp [entryFrame, mkF, argsToLocals, Value.category]; done) | rfl
set_option maxRecDepth 65536 in
set_option maxHeartbeats 40000000 in
theorem c_ix {l : Launch} {Z : State} {n0 : Nat} {a0 : Array Value} (hw : Hw a0 Z) (cp x t : Addr) (cs : List Int32) (a p q : Nat) (z : Int32) (sf : Value) (h0 : Heap) (hC : Sta Z Z.heap "java/lang/String" "COMPACT_STRINGS" "Z" (.int z)) (hz : ¬ z = 0) (hA : Sta Z Z.heap "java/lang/StringUTF16" "$assertionsDisabled" "Z" (.int 1)) (hH : Sta Z Z.heap "java/lang/StringUTF16" "HI_BYTE_SHIFT" "I" (.int 0)) (hL : Sta Z Z.heap "java/lang/StringUTF16" "LO_BYTE_SHIFT" "I" (.int 8)) (hF : Sta Z Z.heap "jdk/internal/util/Preconditions" "SIOOBE_FORMATTER" "Ljava/util/function/BiFunction;" sf) (rsf : sf.isRef = true) (C0 : Exa Z h0 cp "com/example/passagework/passagework/CodePoints" ∧ Fld Z h0 cp "com/example/passagework/passagework/CodePoints" "text" "Ljava/lang/String;" (.ref x) ∧ Fld Z h0 cp "com/example/passagework/passagework/CodePoints" "charIndex" "I" (.int (Int32.ofNat a)) ∧ Fld Z h0 cp "com/example/passagework/passagework/CodePoints" "codePointOffset" "I" (.int (Int32.ofNat p))) (S : Su Z h0 x t cs) (hpq : p ≤ q) (hq : q ≤ 8) (hal : a ≤ cs.length) (hin : ∀ j, j < q - p → advN cs j a < cs.length) :
    Con l Z n0 ELs (⟨"com/example/passagework/passagework/CodePoints", "indexOf", "(I)I"⟩ : MethodName) prog_5_method_5_code 2 (some .int) [] ({ frames := 7, cells := 0, slots := 0, locals := 120 } : Room) #[(.ref cp), (.int (Int32.ofNat q))] h0 [cp] false (fun w h => w = .int (Int32.ofNat (advN cs (q - p) a)) ∧ Exa Z h cp "com/example/passagework/passagework/CodePoints" ∧ Fld Z h cp "com/example/passagework/passagework/CodePoints" "text" "Ljava/lang/String;" (.ref x) ∧ Fld Z h cp "com/example/passagework/passagework/CodePoints" "charIndex" "I" (.int (Int32.ofNat (advN cs (q - p) a))) ∧ Fld Z h cp "com/example/passagework/passagework/CodePoints" "codePointOffset" "I" (.int (Int32.ofNat q))) := by
  refine con_of (plainFor_of_name pn_6) (fun mt => ef_c_ix mt cp ((Int32.ofNat q)) ) ?_
  intro K
  obtain ⟨E0, Ft, Fi, Fo⟩ := C0
  refine g_aloadN d15_0 rfl rfl (pc' := 1) rfl ?_
  refine g_aloadN d15_1 rfl rfl (pc' := 2) rfl ?_
  refine g_getF d15_2 (w_68 hw) Via.refl Ft (pc' := 5) rfl ?_
  refine g_aloadN d15_5 rfl rfl (pc' := 6) rfl ?_
  refine g_getF d15_6 (w_75 hw) Via.refl Fi (pc' := 9) rfl ?_
  refine g_iloadN d15_9 rfl (pc' := 10) rfl ?_
  refine g_aloadN d15_10 rfl rfl (pc' := 11) rfl ?_
  refine g_getF d15_11 (w_77 hw) Via.refl Fo (pc' := 14) rfl ?_
  refine g_isub d15_14 (v := (Int32.ofNat (q - p))) (ofNat_sub hpq (by omega)) (pc' := 15) rfl ?_
  refine g_virt (W := 1) (argsL := [(.int (Int32.ofNat a)), (.int (Int32.ofNat (q - p)))]) (rest := [(.ref cp)]) d15_15 (w_79 hw) (w_80 hw) (nf_self (w_82 hw)) (w_82 hw) (w_81 hw) (by decide) (lenOf pd_18 rfl) S.1 (c_sob hw x t cs a (q - p) z sf _ hC hz hA hH hL hF rsf S hal (by omega) hin) (w_83 hw) (w_18 hw) (by decide) (by decide) (fun _ q => nomatch q) rfl (Nat.le_of_eq rfl) rfl (by decide) (by decide) (pc' := 18) rfl ?_
  intro w1 h1 q1 Kc1
  obtain ⟨rfl, rfl⟩ := q1
  refine g_putF (ty := .int) d15_18 (w_75 hw) Via.refl Fi E0 (Or.inl (w_76 hw)) (w_14 hw) (by decide) rfl rfl (Or.inl (List.mem_of_getElem? (i := 0) rfl)) (List.mem_of_getElem? (i := 0) rfl) (pc' := 21) rfl ?_
  intro h2 W2
  have Kw2 := Keep.of_wr W2
  have G2_charIndex := Fi.same W2
  have G2_text := Ft.other W2 (Or.inr (slot_ne (Or.inr (w_69 hw)) (Or.inl (w_76 hw)) (by decide) (t := (.object "java/lang/String")) (t' := .int) (by decide) (by decide)))
  have G2_codePointOffset := Fo.other W2 (Or.inr (slot_ne (Or.inl (w_78 hw)) (Or.inl (w_76 hw)) (by decide) (t := .int) (t' := .int) (by decide) (by decide)))
  refine g_aloadN d15_21 rfl rfl (pc' := 22) rfl ?_
  refine g_iloadN d15_22 rfl (pc' := 23) rfl ?_
  refine g_putF (ty := .int) d15_23 (w_77 hw) Via.refl G2_codePointOffset (E0.keep Kw2) (Or.inl (w_78 hw)) (w_14 hw) (by decide) rfl rfl (Or.inl (List.mem_of_getElem? (i := 0) rfl)) (List.mem_of_getElem? (i := 0) rfl) (pc' := 26) rfl ?_
  intro h3 W3
  have Kw3 := Keep.of_wr W3
  have G3_codePointOffset := G2_codePointOffset.same W3
  have G3_charIndex := G2_charIndex.other W3 (Or.inr (slot_ne (Or.inl (w_76 hw)) (Or.inl (w_78 hw)) (by decide) (t := .int) (t' := .int) (by decide) (by decide)))
  have G3_text := G2_text.other W3 (Or.inr (slot_ne (Or.inr (w_69 hw)) (Or.inl (w_78 hw)) (by decide) (t := (.object "java/lang/String")) (t' := .int) (by decide) (by decide)))
  refine g_aloadN d15_26 rfl rfl (pc' := 27) rfl ?_
  refine g_getF d15_27 (w_75 hw) Via.refl G3_charIndex (pc' := 30) rfl ?_
  exact g_ireturn d15_30 rfl ⟨rfl, ((E0.keep Kw2).keep Kw3), G3_text, G3_charIndex, G3_codePointOffset⟩ (by decide) (by decide)
theorem ef_c_ch (m : MethodId) (x0 : Int32)  : entryFrame m #[(.int x0)] 3 = mkF m 0 #[.val (.int x0), .unset, .unset] [] := by first | (simp [entryFrame, mkF, argsToLocals, Value.category]; done) | rfl
set_option maxRecDepth 65536 in
set_option maxHeartbeats 40000000 in
theorem c_ch {l : Launch} {Z : State} {n0 : Nat} {a0 : Array Value} (hw : Hw a0 Z) (p : Int32) (h0 : Heap)  :
    Con l Z n0 ELs (⟨"com/example/passagework/passagework/CodePointsIndexOfPinLaw", "ch", "(I)C"⟩ : MethodName) method_2_code 3 (some .char) [] ({ frames := 0, cells := 0, slots := 0, locals := 0 } : Room) #[(.int p)] h0 [] false (fun w h => ∃ v, w = .int v ∧ (¬ v < 0 ∧ ¬ (65535 : Int32) < v) ∧ h0 = h) := by
  refine con_of (plainFor_of_name pn_5) (fun mt => ef_c_ch mt p ) ?_
  intro K
  obtain ⟨s, hs⟩ : ∃ s, p &&& 3 = s := ⟨_, rfl⟩
  obtain ⟨v, hv⟩ : ∃ v, (p.toUInt32 >>> (2 &&& 31).toUInt32).toInt32 = v := ⟨_, rfl⟩
  refine g_iloadN d1_0 rfl (pc' := 1) rfl ?_
  refine g_iconst d1_1 (v := 3) rfl (pc' := 2) rfl ?_
  refine g_iand d1_2 (v := s) hs (pc' := 3) rfl ?_
  refine g_istoreN d1_3 (L' := #[.val (.int p), .val (.int s), .unset]) rfl (pc' := 4) rfl ?_
  refine g_iloadN d1_4 rfl (pc' := 5) rfl ?_
  refine g_iconst d1_5 (v := 2) rfl (pc' := 6) rfl ?_
  refine g_iushr d1_6 (v := v) hv (pc' := 7) rfl ?_
  refine g_istoreN d1_7 (L' := #[.val (.int p), .val (.int s), .val (.int v)]) rfl (pc' := 8) rfl ?_
  refine g_iloadN d1_8 rfl (pc' := 9) rfl ?_
  by_cases a : s = 0
  ·
    refine g_if_ne_f d1_9 a (pc' := 12) rfl ?_
    refine g_iloadN d1_12 rfl (pc' := 13) rfl ?_
    refine g_ldcI d1_13 (w_5 hw) (pc' := 15) rfl ?_
    refine g_iand d1_15 rfl (pc' := 16) rfl ?_
    refine g_i2c d1_16 rfl (pc' := 17) rfl ?_
    exact g_ireturnN d1_17 rfl (by simp) (c16 _).2 ⟨_, rfl, (c16 _).1, rfl⟩ (by decide) (by decide)
  · by_cases b : s = 1
    ·
      refine g_if_ne_t d1_9 a (pc' := 18) (by decide) rfl ?_
      refine g_iloadN d1_18 rfl (pc' := 19) rfl ?_
      refine g_iconst d1_19 (v := 1) rfl (pc' := 20) rfl ?_
      refine g_icmp_ne_f d1_20 b (pc' := 23) rfl ?_
      refine g_ldcI d1_23 (w_7 hw) (pc' := 25) rfl ?_
      refine g_iloadN d1_25 rfl (pc' := 26) rfl ?_
      refine g_sipush d1_26 (v := 1023) rfl (pc' := 29) rfl ?_
      refine g_iand d1_29 rfl (pc' := 30) rfl ?_
      refine g_iadd d1_30 rfl (pc' := 31) rfl ?_
      refine g_i2c d1_31 rfl (pc' := 32) rfl ?_
      exact g_ireturnN d1_32 rfl (by simp) (c16 _).2 ⟨_, rfl, (c16 _).1, rfl⟩ (by decide) (by decide)
    · by_cases d : s = 2
      ·
        refine g_if_ne_t d1_9 a (pc' := 18) (by decide) rfl ?_
        refine g_iloadN d1_18 rfl (pc' := 19) rfl ?_
        refine g_iconst d1_19 (v := 1) rfl (pc' := 20) rfl ?_
        refine g_icmp_ne_t d1_20 b (pc' := 33) (by decide) rfl ?_
        refine g_iloadN d1_33 rfl (pc' := 34) rfl ?_
        refine g_iconst d1_34 (v := 2) rfl (pc' := 35) rfl ?_
        refine g_icmp_ne_f d1_35 d (pc' := 38) rfl ?_
        refine g_ldcI d1_38 (w_6 hw) (pc' := 40) rfl ?_
        refine g_iloadN d1_40 rfl (pc' := 41) rfl ?_
        refine g_sipush d1_41 (v := 1023) rfl (pc' := 44) rfl ?_
        refine g_iand d1_44 rfl (pc' := 45) rfl ?_
        refine g_iadd d1_45 rfl (pc' := 46) rfl ?_
        refine g_i2c d1_46 rfl (pc' := 47) rfl ?_
        exact g_ireturnN d1_47 rfl (by simp) (c16 _).2 ⟨_, rfl, (c16 _).1, rfl⟩ (by decide) (by decide)
      ·
        refine g_if_ne_t d1_9 a (pc' := 18) (by decide) rfl ?_
        refine g_iloadN d1_18 rfl (pc' := 19) rfl ?_
        refine g_iconst d1_19 (v := 1) rfl (pc' := 20) rfl ?_
        refine g_icmp_ne_t d1_20 b (pc' := 33) (by decide) rfl ?_
        refine g_iloadN d1_33 rfl (pc' := 34) rfl ?_
        refine g_iconst d1_34 (v := 2) rfl (pc' := 35) rfl ?_
        refine g_icmp_ne_t d1_35 d (pc' := 48) (by decide) rfl ?_
        refine g_iloadN d1_48 rfl (pc' := 49) rfl ?_
        refine g_sipush d1_49 (v := 255) rfl (pc' := 52) rfl ?_
        refine g_iand d1_52 rfl (pc' := 53) rfl ?_
        refine g_i2c d1_53 rfl (pc' := 54) rfl ?_
        exact g_ireturnN d1_54 rfl (by simp) (c16 _).2 ⟨_, rfl, (c16 _).1, rfl⟩ (by decide) (by decide)
theorem ef_c_cpi (m : MethodId) (x0 : Addr) (x1 : Addr)  : entryFrame m #[(.ref x0), (.ref x1)] 2 = mkF m 0 #[.val (.ref x0), .val (.ref x1)] [] := by first | (simp [entryFrame, mkF, argsToLocals, Value.category]; done) | rfl
set_option maxRecDepth 65536 in
set_option maxHeartbeats 40000000 in
theorem c_cpi {l : Launch} {Z : State} {n0 : Nat} {a0 : Array Value} (hw : Hw a0 Z) (cp x : Addr) (u : Value) (h0 : Heap) (E0 : Exa Z h0 cp "com/example/passagework/passagework/CodePoints") (F_text : Fld Z h0 cp "com/example/passagework/passagework/CodePoints" "text" "Ljava/lang/String;" u) (F_charIndex : Fld Z h0 cp "com/example/passagework/passagework/CodePoints" "charIndex" "I" (.int 0)) (F_codePointOffset : Fld Z h0 cp "com/example/passagework/passagework/CodePoints" "codePointOffset" "I" (.int 0)) :
    Con l Z n0 ELs (⟨"com/example/passagework/passagework/CodePoints", "<init>", "(Ljava/lang/String;)V"⟩ : MethodName) prog_5_method_1_code 2 none [] ({ frames := 1, cells := 0, slots := 0, locals := 12 } : Room) #[(.ref cp), (.ref x)] h0 [cp] false (fun w h => Exa Z h cp "com/example/passagework/passagework/CodePoints" ∧ Fld Z h cp "com/example/passagework/passagework/CodePoints" "text" "Ljava/lang/String;" (.ref x) ∧ Fld Z h cp "com/example/passagework/passagework/CodePoints" "charIndex" "I" (.int (Int32.ofNat 0)) ∧ Fld Z h cp "com/example/passagework/passagework/CodePoints" "codePointOffset" "I" (.int (Int32.ofNat 0))) := by
  refine con_of (plainFor_of_name pn_6) (fun mt => ef_c_cpi mt cp x ) ?_
  intro K
  refine g_aloadN d14_0 rfl rfl (pc' := 1) rfl ?_
  refine g_initO (W := 0) d14_1 (w_67 hw) (w_27 hw) (w_28 hw) rfl (by decide) (Nat.le_of_eq rfl) (by decide) (pc' := 4) rfl ?_
  refine g_aloadN d14_4 rfl rfl (pc' := 5) rfl ?_
  refine g_aloadN d14_5 rfl rfl (pc' := 6) rfl ?_
  refine g_putF (ty := (.object "java/lang/String")) d14_6 (w_68 hw) Via.refl F_text E0 (Or.inr ⟨(w_69 hw), rfl, rfl⟩) (w_14 hw) (by decide) rfl rfl (Or.inl (List.mem_of_getElem? (i := 0) rfl)) (List.mem_of_getElem? (i := 0) rfl) (pc' := 9) rfl ?_
  intro h1 W1
  have Kw1 := Keep.of_wr W1
  have G1_text := F_text.same W1
  have G1_charIndex := F_charIndex.other W1 (Or.inr (slot_ne (Or.inl (w_76 hw)) (Or.inr (w_69 hw)) (by decide) (t := .int) (t' := (.object "java/lang/String")) (by decide) (by decide)))
  have G1_codePointOffset := F_codePointOffset.other W1 (Or.inr (slot_ne (Or.inl (w_78 hw)) (Or.inr (w_69 hw)) (by decide) (t := .int) (t' := (.object "java/lang/String")) (by decide) (by decide)))
  exact g_return d14_9 rfl ⟨(E0.keep Kw1), G1_text, G1_charIndex, G1_codePointOffset⟩ (by decide) (by decide)
theorem ef_c_law (m : MethodId) (x0 : Int32) (x1 : Int32) (x2 : Int32) (x3 : Int32) (x4 : Int32)  : entryFrame m #[(.int x0), (.int x1), (.int x2), (.int x3), (.int x4)] maxLocals = mkF m 0 #[.val (.int x0), .val (.int x1), .val (.int x2), .val (.int x3), .val (.int x4), .unset, .unset, .unset, .unset, .unset, .unset, .unset, .unset, .unset, .unset, .unset, .unset, .unset, .unset] [] := by first | (simp [entryFrame, mkF, argsToLocals, Value.category, maxLocals]; done) | rfl
set_option maxRecDepth 65536 in
set_option maxHeartbeats 40000000 in
theorem c_law {l : Launch} {Z : State} {n0 : Nat} {a0 : Array Value} (hw : Hw a0 Z) (p0 p1 p2 p3 p4 z : Int32) (sf : Value) (h0 : Heap) (hC : Sta Z Z.heap "java/lang/String" "COMPACT_STRINGS" "Z" (.int z)) (hz : ¬ z = 0) (hA : Sta Z Z.heap "java/lang/StringUTF16" "$assertionsDisabled" "Z" (.int 1)) (hH : Sta Z Z.heap "java/lang/StringUTF16" "HI_BYTE_SHIFT" "I" (.int 0)) (hL : Sta Z Z.heap "java/lang/StringUTF16" "LO_BYTE_SHIFT" "I" (.int 8)) (hF : Sta Z Z.heap "jdk/internal/util/Preconditions" "SIOOBE_FORMATTER" "Ljava/util/function/BiFunction;" sf) (rsf : sf.isRef = true) :
    Con l Z n0 ELs x code maxLocals ret tables_1 room_1 #[(.int p0), (.int p1), (.int p2), (.int p3), (.int p4)] h0 [] false (fun w h => w = .int 1) := by
  refine con_of (plainFor_of_name pn_5) (fun mt => ef_c_law mt p0 p1 p2 p3 p4 ) ?_
  intro K
  refine g_iconst at_0 (v := 4) rfl (pc' := 1) rfl ?_
  refine g_newA at_1 (w_0 hw) rfl (by decide) (cap := 4) (by decide) (by decide) (by decide) (by decide) (pc' := 3) rfl ?_
  intro ca h1 g1 Kn1 A_ca sz_ca
  replace A_ca : Ia Z h1 ca .char [0, 0, 0, 0] := A_ca
  refine g_astore at_3 rfl (L' := #[.val (.int p0), .val (.int p1), .val (.int p2), .val (.int p3), .val (.int p4), .val (.ref ca), .unset, .unset, .unset, .unset, .unset, .unset, .unset, .unset, .unset, .unset, .unset, .unset, .unset]) rfl (pc' := 5) rfl ?_
  refine g_aload at_5 rfl rfl (pc' := 7) rfl ?_
  refine g_iconst at_7 (v := 0) rfl (pc' := 8) rfl ?_
  refine g_iloadN at_8 rfl (pc' := 9) rfl ?_
  refine g_static (W := 2) (argsL := [(.int p0)]) (rest := [(.int 0), (.ref ca)]) at_9 (w_1 hw) (w_2 hw) (by decide) (lenOf pd_15 rfl) (c_ch hw p0 _) (w_4 hw) (w_3 hw) (by decide) (by decide) (fun _ q => nomatch q) rfl (Nat.le_of_eq rfl) rfl (by decide) (by decide) (pc' := 12) rfl ?_
  intro w2 h2 q2 Kc2
  obtain ⟨c0, rfl, b0, rfl⟩ := q2
  refine g_castore at_12 A_ca (by decide) (i := 0) rfl (Nat.le_of_ble_eq_true rfl) (Or.inr sz_ca) (List.mem_of_getElem? (i := 0) rfl) (pc' := 13) rfl ?_
  intro h3 Kw3 A_ca_3
  replace A_ca_3 : Ia Z h3 ca .char [c0, 0, 0, 0] := (by rw [(get16 c0 b0).2] at A_ca_3; exact A_ca_3)
  refine g_aload at_13 rfl rfl (pc' := 15) rfl ?_
  refine g_iconst at_15 (v := 1) rfl (pc' := 16) rfl ?_
  refine g_iloadN at_16 rfl (pc' := 17) rfl ?_
  refine g_static (W := 2) (argsL := [(.int p1)]) (rest := [(.int 1), (.ref ca)]) at_17 (w_1 hw) (w_2 hw) (by decide) (lenOf pd_15 rfl) (c_ch hw p1 _) (w_4 hw) (w_3 hw) (by decide) (by decide) (fun _ q => nomatch q) rfl (Nat.le_of_eq rfl) rfl (by decide) (by decide) (pc' := 20) rfl ?_
  intro w4 h4 q4 Kc4
  obtain ⟨c1, rfl, b1, rfl⟩ := q4
  refine g_castore at_20 A_ca_3 (by decide) (i := 1) rfl (Nat.le_of_ble_eq_true rfl) (Or.inr sz_ca) (List.mem_of_getElem? (i := 0) rfl) (pc' := 21) rfl ?_
  intro h5 Kw5 A_ca_5
  replace A_ca_5 : Ia Z h5 ca .char [c0, c1, 0, 0] := (by rw [(get16 c1 b1).2] at A_ca_5; exact A_ca_5)
  refine g_aload at_21 rfl rfl (pc' := 23) rfl ?_
  refine g_iconst at_23 (v := 2) rfl (pc' := 24) rfl ?_
  refine g_iloadN at_24 rfl (pc' := 25) rfl ?_
  refine g_static (W := 2) (argsL := [(.int p2)]) (rest := [(.int 2), (.ref ca)]) at_25 (w_1 hw) (w_2 hw) (by decide) (lenOf pd_15 rfl) (c_ch hw p2 _) (w_4 hw) (w_3 hw) (by decide) (by decide) (fun _ q => nomatch q) rfl (Nat.le_of_eq rfl) rfl (by decide) (by decide) (pc' := 28) rfl ?_
  intro w6 h6 q6 Kc6
  obtain ⟨c2, rfl, b2, rfl⟩ := q6
  refine g_castore at_28 A_ca_5 (by decide) (i := 2) rfl (Nat.le_of_ble_eq_true rfl) (Or.inr sz_ca) (List.mem_of_getElem? (i := 0) rfl) (pc' := 29) rfl ?_
  intro h7 Kw7 A_ca_7
  replace A_ca_7 : Ia Z h7 ca .char [c0, c1, c2, 0] := (by rw [(get16 c2 b2).2] at A_ca_7; exact A_ca_7)
  refine g_aload at_29 rfl rfl (pc' := 31) rfl ?_
  refine g_iconst at_31 (v := 3) rfl (pc' := 32) rfl ?_
  refine g_iloadN at_32 rfl (pc' := 33) rfl ?_
  refine g_static (W := 2) (argsL := [(.int p3)]) (rest := [(.int 3), (.ref ca)]) at_33 (w_1 hw) (w_2 hw) (by decide) (lenOf pd_15 rfl) (c_ch hw p3 _) (w_4 hw) (w_3 hw) (by decide) (by decide) (fun _ q => nomatch q) rfl (Nat.le_of_eq rfl) rfl (by decide) (by decide) (pc' := 36) rfl ?_
  intro w8 h8 q8 Kc8
  obtain ⟨c3, rfl, b3, rfl⟩ := q8
  refine g_castore at_36 A_ca_7 (by decide) (i := 3) rfl (Nat.le_of_ble_eq_true rfl) (Or.inr sz_ca) (List.mem_of_getElem? (i := 0) rfl) (pc' := 37) rfl ?_
  intro h9 Kw9 A_ca_9
  replace A_ca_9 : Ia Z h9 ca .char [c0, c1, c2, c3] := (by rw [(get16 c3 b3).2] at A_ca_9; exact A_ca_9)
  have hcs : ∀ c ∈ ([c0, c1, c2, c3] : List Int32), ¬ c < 0 ∧ ¬ (65535 : Int32) < c := by
    intro c hc
    simp only [List.mem_cons, List.not_mem_nil, or_false] at hc
    rcases hc with rfl | rfl | rfl | rfl
    · exact b0
    · exact b1
    · exact b2
    · exact b3
  by_cases P0 : (isHi c0 && isLo c1) = true
  · obtain ⟨hh0, ll0⟩ := Bool.and_eq_true_iff.mp P0
    refine g_aload at_37 rfl rfl (pc' := 39) rfl ?_
    refine g_iconst at_39 (v := 0) rfl (pc' := 40) rfl ?_
    refine g_caload at_40 A_ca_9 (by decide) (i := 0) rfl rfl (pc' := 41) rfl ?_
    refine g_static (W := 0) (argsL := [(.int c0)]) (rest := []) at_41 (w_8 hw) (w_9 hw) (by decide) (lenOf pd_16 rfl) (c_ih hw c0 _) (w_10 hw) (w_3 hw) (by decide) (by decide) (fun _ q => nomatch q) rfl (Nat.le_of_eq rfl) rfl (by decide) (by decide) (pc' := 44) rfl ?_
    intro w10 h10 q10 Kc10
    obtain ⟨rfl, rfl⟩ := q10
    refine g_if_eq_f at_44 (by rw [if_pos hh0]; decide) (pc' := 47) rfl ?_
    refine g_aload at_47 rfl rfl (pc' := 49) rfl ?_
    refine g_iconst at_49 (v := 1) rfl (pc' := 50) rfl ?_
    refine g_caload at_50 A_ca_9 (by decide) (i := 1) rfl rfl (pc' := 51) rfl ?_
    refine g_static (W := 0) (argsL := [(.int c1)]) (rest := []) at_51 (w_136 hw) (w_137 hw) (by decide) (lenOf pd_16 rfl) (c_il hw c1 _) (w_138 hw) (w_3 hw) (by decide) (by decide) (fun _ q => nomatch q) rfl (Nat.le_of_eq rfl) rfl (by decide) (by decide) (pc' := 54) rfl ?_
    intro w11 h11 q11 Kc11
    obtain ⟨rfl, rfl⟩ := q11
    refine g_if_ne_t at_54 (by rw [if_pos ll0]; decide) (pc' := 61) (by decide) rfl ?_
    refine g_iconst at_61 (v := 0) rfl (pc' := 62) rfl ?_
    refine g_istore at_62 (L' := #[.val (.int p0), .val (.int p1), .val (.int p2), .val (.int p3), .val (.int p4), .val (.ref ca), .val (.int 0), .unset, .unset, .unset, .unset, .unset, .unset, .unset, .unset, .unset, .unset, .unset, .unset]) rfl (pc' := 64) rfl ?_
    by_cases P1 : (isHi c1 && isLo c2) = true
    · obtain ⟨hh1, ll1⟩ := Bool.and_eq_true_iff.mp P1
      exact absurd ll0 (by rw [hi_lo c1 hh1]; decide)
    · have J : Go l Z n0 ELs x code maxLocals ret room_1 h0 [] false (fun w h => w = .int 1) K [ca] h9 1 4 89 #[.val (.int p0), .val (.int p1), .val (.int p2), .val (.int p3), .val (.int p4), .val (.ref ca), .val (.int 0), .unset, .unset, .unset, .unset, .unset, .unset, .unset, .unset, .unset, .unset, .unset, .unset] [(.int 1)] := by
        refine g_istore at_89 (L' := #[.val (.int p0), .val (.int p1), .val (.int p2), .val (.int p3), .val (.int p4), .val (.ref ca), .val (.int 0), .val (.int 1), .unset, .unset, .unset, .unset, .unset, .unset, .unset, .unset, .unset, .unset, .unset]) rfl (pc' := 91) rfl ?_
        by_cases P2 : (isHi c2 && isLo c3) = true
        · obtain ⟨hh2, ll2⟩ := Bool.and_eq_true_iff.mp P2
          refine g_aload at_91 rfl rfl (pc' := 93) rfl ?_
          refine g_iconst at_93 (v := 2) rfl (pc' := 94) rfl ?_
          refine g_caload at_94 A_ca_9 (by decide) (i := 2) rfl rfl (pc' := 95) rfl ?_
          refine g_static (W := 0) (argsL := [(.int c2)]) (rest := []) at_95 (w_8 hw) (w_9 hw) (by decide) (lenOf pd_16 rfl) (c_ih hw c2 _) (w_10 hw) (w_3 hw) (by decide) (by decide) (fun _ q => nomatch q) rfl (Nat.le_of_eq rfl) rfl (by decide) (by decide) (pc' := 98) rfl ?_
          intro w12 h12 q12 Kc12
          obtain ⟨rfl, rfl⟩ := q12
          refine g_if_eq_f at_98 (by rw [if_pos hh2]; decide) (pc' := 101) rfl ?_
          refine g_aload at_101 rfl rfl (pc' := 103) rfl ?_
          refine g_iconst at_103 (v := 3) rfl (pc' := 104) rfl ?_
          refine g_caload at_104 A_ca_9 (by decide) (i := 3) rfl rfl (pc' := 105) rfl ?_
          refine g_static (W := 0) (argsL := [(.int c3)]) (rest := []) at_105 (w_136 hw) (w_137 hw) (by decide) (lenOf pd_16 rfl) (c_il hw c3 _) (w_138 hw) (w_3 hw) (by decide) (by decide) (fun _ q => nomatch q) rfl (Nat.le_of_eq rfl) rfl (by decide) (by decide) (pc' := 108) rfl ?_
          intro w13 h13 q13 Kc13
          obtain ⟨rfl, rfl⟩ := q13
          refine g_if_ne_t at_108 (by rw [if_pos ll2]; decide) (pc' := 115) (by decide) rfl ?_
          refine g_iconst at_115 (v := 0) rfl (pc' := 116) rfl ?_
          refine g_istore at_116 (L' := #[.val (.int p0), .val (.int p1), .val (.int p2), .val (.int p3), .val (.int p4), .val (.ref ca), .val (.int 0), .val (.int 1), .val (.int 0), .unset, .unset, .unset, .unset, .unset, .unset, .unset, .unset, .unset, .unset]) rfl (pc' := 118) rfl ?_
          refine g_iconst at_118 (v := 5) rfl (pc' := 119) rfl ?_
          refine g_newA at_119 (w_12 hw) rfl (by decide) (cap := 5) (by decide) (by decide) (by decide) (by decide) (pc' := 121) rfl ?_
          intro bs h14 g14 Kn14 A_bs sz_bs
          replace A_bs : Ia Z h14 bs .int [0, 0, 0, 0, 0] := A_bs
          refine g_astore at_121 rfl (L' := #[.val (.int p0), .val (.int p1), .val (.int p2), .val (.int p3), .val (.int p4), .val (.ref ca), .val (.int 0), .val (.int 1), .val (.int 0), .val (.ref bs), .unset, .unset, .unset, .unset, .unset, .unset, .unset, .unset, .unset]) rfl (pc' := 123) rfl ?_
          refine g_iconst at_123 (v := 0) rfl (pc' := 124) rfl ?_
          refine g_istore at_124 (L' := #[.val (.int p0), .val (.int p1), .val (.int p2), .val (.int p3), .val (.int p4), .val (.ref ca), .val (.int 0), .val (.int 1), .val (.int 0), .val (.ref bs), .val (.int 0), .unset, .unset, .unset, .unset, .unset, .unset, .unset, .unset]) rfl (pc' := 126) rfl ?_
          refine g_aload at_126 rfl rfl (pc' := 128) rfl ?_
          refine g_iload at_128 rfl (pc' := 130) rfl ?_
          refine g_iconst at_130 (v := 0) rfl (pc' := 131) rfl ?_
          refine g_iastore at_131 A_bs (by decide) (i := 0) rfl (Nat.le_of_ble_eq_true rfl) (Or.inr sz_bs) (List.mem_of_getElem? (i := 0) rfl) (pc' := 132) rfl ?_
          intro h15 Kw15 A_bs_15
          replace A_bs_15 : Ia Z h15 bs .int [0, 0, 0, 0, 0] := A_bs_15
          refine g_iinc at_132 (v := 1) rfl rfl (y := 1) rfl (L' := #[.val (.int p0), .val (.int p1), .val (.int p2), .val (.int p3), .val (.int p4), .val (.ref ca), .val (.int 0), .val (.int 1), .val (.int 0), .val (.ref bs), .val (.int 1), .unset, .unset, .unset, .unset, .unset, .unset, .unset, .unset]) rfl (pc' := 135) rfl ?_
          refine g_iload at_135 rfl (pc' := 137) rfl ?_
          refine g_if_eq_t at_137 rfl (pc' := 149) (by decide) rfl ?_
          refine g_iload at_149 rfl (pc' := 151) rfl ?_
          refine g_if_eq_f at_151 (by decide) (pc' := 154) rfl ?_
          refine g_aload at_154 rfl rfl (pc' := 156) rfl ?_
          refine g_iload at_156 rfl (pc' := 158) rfl ?_
          refine g_iconst at_158 (v := 2) rfl (pc' := 159) rfl ?_
          refine g_iastore at_159 A_bs_15 (by decide) (i := 1) rfl (Nat.le_of_ble_eq_true rfl) (Or.inr sz_bs) (List.mem_of_getElem? (i := 0) rfl) (pc' := 160) rfl ?_
          intro h16 Kw16 A_bs_16
          replace A_bs_16 : Ia Z h16 bs .int [0, 2, 0, 0, 0] := A_bs_16
          refine g_iinc at_160 (v := 1) rfl rfl (y := 2) rfl (L' := #[.val (.int p0), .val (.int p1), .val (.int p2), .val (.int p3), .val (.int p4), .val (.ref ca), .val (.int 0), .val (.int 1), .val (.int 0), .val (.ref bs), .val (.int 2), .unset, .unset, .unset, .unset, .unset, .unset, .unset, .unset]) rfl (pc' := 163) rfl ?_
          refine g_iload at_163 rfl (pc' := 165) rfl ?_
          refine g_if_eq_t at_165 rfl (pc' := 177) (by decide) rfl ?_
          refine g_aload at_177 rfl rfl (pc' := 179) rfl ?_
          refine g_iload at_179 rfl (pc' := 181) rfl ?_
          refine g_iconst at_181 (v := 4) rfl (pc' := 182) rfl ?_
          refine g_iastore at_182 A_bs_16 (by decide) (i := 2) rfl (Nat.le_of_ble_eq_true rfl) (Or.inr sz_bs) (List.mem_of_getElem? (i := 0) rfl) (pc' := 183) rfl ?_
          intro h17 Kw17 A_bs_17
          replace A_bs_17 : Ia Z h17 bs .int [0, 2, 4, 0, 0] := A_bs_17
          refine g_iinc at_183 (v := 1) rfl rfl (y := 3) rfl (L' := #[.val (.int p0), .val (.int p1), .val (.int p2), .val (.int p3), .val (.int p4), .val (.ref ca), .val (.int 0), .val (.int 1), .val (.int 0), .val (.ref bs), .val (.int 3), .unset, .unset, .unset, .unset, .unset, .unset, .unset, .unset]) rfl (pc' := 186) rfl ?_
          refine g_iload at_186 rfl (pc' := 188) rfl ?_
          refine g_iconst at_188 (v := 1) rfl (pc' := 189) rfl ?_
          refine g_isub at_189 (v := 2) rfl (pc' := 190) rfl ?_
          refine g_istore at_190 (L' := #[.val (.int p0), .val (.int p1), .val (.int p2), .val (.int p3), .val (.int p4), .val (.ref ca), .val (.int 0), .val (.int 1), .val (.int 0), .val (.ref bs), .val (.int 3), .val (.int 2), .unset, .unset, .unset, .unset, .unset, .unset, .unset]) rfl (pc' := 192) rfl ?_
          have e0 : ps [c0, c1, c2, c3] 0 = true := P0
          have e1 : ps [c0, c1, c2, c3] 1 = false := Bool.eq_false_iff.mpr P1
          have e2 : ps [c0, c1, c2, c3] 2 = true := P2
          have e3 : ps [c0, c1, c2, c3] 3 = false := rfl
          have hlt4 : ∀ o, o < 2 → advN [c0, c1, c2, c3] o 0 < 4 := by
            intro o ho
            rcases (by omega : o = 0 ∨ o = 1) with rfl | rfl <;> simp [advN, adv, e0, e1, e2, e3]
          have hle4 : ∀ o, o ≤ 2 → advN [c0, c1, c2, c3] o 0 ≤ 4 := by
            intro o ho
            rcases (by omega : o = 0 ∨ o = 1 ∨ o = 2) with rfl | rfl | rfl <;> simp [advN, adv, e0, e1, e2, e3]
          have hbs : ∀ o, o ≤ 2 → ([0, 2, 4, 0, 0] : List Int32)[o]? = some (Int32.ofNat (advN [c0, c1, c2, c3] o 0)) := by
            intro o ho
            rcases (by omega : o = 0 ∨ o = 1 ∨ o = 2) with rfl | rfl | rfl <;> simp [advN, adv, e0, e1, e2, e3] <;> rfl
          obtain ⟨o1, hr1, er1⟩ := modN p4 3 (by decide) (by decide)
          obtain ⟨r2, hr2, er2⟩ := modN ((p4.toUInt32 >>> (3 &&& 31).toUInt32).toInt32) (3 - o1) (by omega) (by omega)
          obtain ⟨r3, hr3, er3⟩ := modN ((p4.toUInt32 >>> (6 &&& 31).toUInt32).toInt32) (3 - (o1 + r2)) (by omega) (by omega)
          refine g_iload at_192 rfl (pc' := 194) rfl ?_
          refine g_bipush at_194 (v := 7) rfl (pc' := 196) rfl ?_
          refine g_iand at_196 rfl (pc' := 197) rfl ?_
          refine g_iload at_197 rfl (pc' := 199) rfl ?_
          refine g_iconst at_199 (v := 1) rfl (pc' := 200) rfl ?_
          refine g_iadd at_200 (v := 3) rfl (pc' := 201) rfl ?_
          refine g_irem at_201 (by decide) (v := (Int32.ofNat o1)) er1 (pc' := 202) rfl ?_
          refine g_istore at_202 (L' := #[.val (.int p0), .val (.int p1), .val (.int p2), .val (.int p3), .val (.int p4), .val (.ref ca), .val (.int 0), .val (.int 1), .val (.int 0), .val (.ref bs), .val (.int 3), .val (.int 2), .val (.int (Int32.ofNat o1)), .unset, .unset, .unset, .unset, .unset, .unset]) rfl (pc' := 204) rfl ?_
          refine g_iload at_204 rfl (pc' := 206) rfl ?_
          refine g_iload at_206 rfl (pc' := 208) rfl ?_
          refine g_iconst at_208 (v := 3) rfl (pc' := 209) rfl ?_
          refine g_iushr at_209 rfl (pc' := 210) rfl ?_
          refine g_bipush at_210 (v := 7) rfl (pc' := 212) rfl ?_
          refine g_iand at_212 rfl (pc' := 213) rfl ?_
          refine g_iload at_213 rfl (pc' := 215) rfl ?_
          refine g_iconst at_215 (v := 1) rfl (pc' := 216) rfl ?_
          refine g_iadd at_216 (v := 3) rfl (pc' := 217) rfl ?_
          refine g_iload at_217 rfl (pc' := 219) rfl ?_
          refine g_isub at_219 (v := (Int32.ofNat (3 - o1))) (ofNat_sub (a := 3) (by omega) (by omega)) (pc' := 220) rfl ?_
          refine g_irem at_220 (ofNat_ne (by omega) (by omega)) (v := (Int32.ofNat r2)) er2 (pc' := 221) rfl ?_
          refine g_iadd at_221 (v := (Int32.ofNat (o1 + r2))) (ofNat_add (by omega)) (pc' := 222) rfl ?_
          refine g_istore at_222 (L' := #[.val (.int p0), .val (.int p1), .val (.int p2), .val (.int p3), .val (.int p4), .val (.ref ca), .val (.int 0), .val (.int 1), .val (.int 0), .val (.ref bs), .val (.int 3), .val (.int 2), .val (.int (Int32.ofNat o1)), .val (.int (Int32.ofNat (o1 + r2))), .unset, .unset, .unset, .unset, .unset]) rfl (pc' := 224) rfl ?_
          refine g_iload at_224 rfl (pc' := 226) rfl ?_
          refine g_iload at_226 rfl (pc' := 228) rfl ?_
          refine g_bipush at_228 (v := 6) rfl (pc' := 230) rfl ?_
          refine g_iushr at_230 rfl (pc' := 231) rfl ?_
          refine g_bipush at_231 (v := 7) rfl (pc' := 233) rfl ?_
          refine g_iand at_233 rfl (pc' := 234) rfl ?_
          refine g_iload at_234 rfl (pc' := 236) rfl ?_
          refine g_iconst at_236 (v := 1) rfl (pc' := 237) rfl ?_
          refine g_iadd at_237 (v := 3) rfl (pc' := 238) rfl ?_
          refine g_iload at_238 rfl (pc' := 240) rfl ?_
          refine g_isub at_240 (v := (Int32.ofNat (3 - (o1 + r2)))) (ofNat_sub (a := 3) (by omega) (by omega)) (pc' := 241) rfl ?_
          refine g_irem at_241 (ofNat_ne (by omega) (by omega)) (v := (Int32.ofNat r3)) er3 (pc' := 242) rfl ?_
          refine g_iadd at_242 (v := (Int32.ofNat (o1 + r2 + r3))) (ofNat_add (by omega)) (pc' := 243) rfl ?_
          refine g_istore at_243 (L' := #[.val (.int p0), .val (.int p1), .val (.int p2), .val (.int p3), .val (.int p4), .val (.ref ca), .val (.int 0), .val (.int 1), .val (.int 0), .val (.ref bs), .val (.int 3), .val (.int 2), .val (.int (Int32.ofNat o1)), .val (.int (Int32.ofNat (o1 + r2))), .val (.int (Int32.ofNat (o1 + r2 + r3))), .unset, .unset, .unset, .unset]) rfl (pc' := 245) rfl ?_
          refine g_new at_245 (w_13 hw) (w_14 hw) (w_15 hw) (by decide) (by decide) (pc' := 248) rfl ?_
          intro cp h18 g18 Kn18 E_cp D18 sz_cp
          have F_text_cp : Fld Z h18 cp "com/example/passagework/passagework/CodePoints" "text" "Ljava/lang/String;" .null := D18 (Or.inr (w_69 hw)) (ty := (.object "java/lang/String")) (by decide)
          have F_charIndex_cp : Fld Z h18 cp "com/example/passagework/passagework/CodePoints" "charIndex" "I" (.int 0) := D18 (Or.inl (w_76 hw)) (ty := .int) (by decide)
          have F_codePointOffset_cp : Fld Z h18 cp "com/example/passagework/passagework/CodePoints" "codePointOffset" "I" (.int 0) := D18 (Or.inl (w_78 hw)) (ty := .int) (by decide)
          refine g_dup at_248 rfl (pc' := 249) rfl ?_
          refine g_new at_249 (w_16 hw) (w_17 hw) (w_18 hw) (by decide) (by decide) (pc' := 252) rfl ?_
          intro x h19 g19 Kn19 E_x D19 sz_x
          have F_coder_x : Fld Z h19 x "java/lang/String" "coder" "B" (.int 0) := D19 (Or.inr (w_61 hw)) (ty := .byte) (by decide)
          have F_value_x : Fld Z h19 x "java/lang/String" "value" "[B" .null := D19 (Or.inr (w_63 hw)) (ty := (.array .byte)) (by decide)
          refine g_dup at_252 rfl (pc' := 253) rfl ?_
          refine g_aload at_253 rfl rfl (pc' := 255) rfl ?_
          refine g_init (W := 3) (argsL := [(.ref ca)]) (rest := [(.ref x), (.ref cp), (.ref cp)]) at_255 rfl (w_19 hw) (w_20 hw) (by decide) (lenOf pd_19 rfl) (c_ic hw x ca [c0, c1, c2, c3] z _ _ _ hC hz hA hH hL E_x F_value_x F_coder_x ((((((A_ca_9.keep Kn14 nin0).keep Kw15 (ninS (Nat.ne_of_lt (Nat.lt_of_lt_of_le (A_ca_9).lt (Nat.le_of_eq g14.symm))) nin0)).keep Kw16 (ninS (Nat.ne_of_lt (Nat.lt_of_lt_of_le (A_ca_9).lt (Nat.le_of_eq g14.symm))) nin0)).keep Kw17 (ninS (Nat.ne_of_lt (Nat.lt_of_lt_of_le (A_ca_9).lt (Nat.le_of_eq g14.symm))) nin0)).keep Kn18 nin0).keep Kn19 nin0) hcs (Nat.le_of_ble_eq_true rfl) (Nat.le_of_ble_eq_true rfl)) (w_21 hw) (w_18 hw) (by decide) (by decide) (allS ⟨(Or.inr sz_x), (List.mem_of_getElem? (i := 0) rfl)⟩ all0) rfl (Nat.le_of_eq rfl) rfl (by decide) (by decide) (pc' := 258) rfl ?_
          intro w20 h20 q20 Kc20
          obtain ⟨ts, hts, Ss⟩ := q20
          refine g_init (W := 1) (argsL := [(.ref x)]) (rest := [(.ref cp)]) at_258 rfl (w_64 hw) (w_65 hw) (by decide) (lenOf pd_20 rfl) (c_cpi hw cp x _ _ ((E_cp.keep Kn19).keep Kc20) ((F_text_cp.keep Kn19 nin0).keep Kc20 (ninS (Nat.ne_of_lt (Nat.lt_of_lt_of_le (E_cp).lt (Nat.le_of_eq g19.symm))) nin0)) ((F_charIndex_cp.keep Kn19 nin0).keep Kc20 (ninS (Nat.ne_of_lt (Nat.lt_of_lt_of_le (E_cp).lt (Nat.le_of_eq g19.symm))) nin0)) ((F_codePointOffset_cp.keep Kn19 nin0).keep Kc20 (ninS (Nat.ne_of_lt (Nat.lt_of_lt_of_le (E_cp).lt (Nat.le_of_eq g19.symm))) nin0))) (w_66 hw) (w_15 hw) (by decide) (by decide) (allS ⟨(Or.inr sz_cp), (List.mem_of_getElem? (i := 1) rfl)⟩ all0) rfl (Nat.le_of_eq rfl) rfl (by decide) (by decide) (pc' := 261) rfl ?_
          intro w21 h21 q21 Kc21
          have C0 := q21
          refine g_astore at_261 rfl (L' := #[.val (.int p0), .val (.int p1), .val (.int p2), .val (.int p3), .val (.int p4), .val (.ref ca), .val (.int 0), .val (.int 1), .val (.int 0), .val (.ref bs), .val (.int 3), .val (.int 2), .val (.int (Int32.ofNat o1)), .val (.int (Int32.ofNat (o1 + r2))), .val (.int (Int32.ofNat (o1 + r2 + r3))), .val (.ref cp), .unset, .unset, .unset]) rfl (pc' := 263) rfl ?_
          refine g_aload at_263 rfl rfl (pc' := 265) rfl ?_
          refine g_iload at_265 rfl (pc' := 267) rfl ?_
          refine g_virt (W := 0) (argsL := [(.int (Int32.ofNat o1))]) (rest := []) at_267 (w_70 hw) (w_71 hw) (nf_self (w_73 hw)) (w_73 hw) (w_72 hw) (by decide) (lenOf pd_0 rfl) C0.1 (c_ix hw cp x ts [c0, c1, c2, c3] 0 0 o1 z sf _ hC hz hA hH hL hF rsf C0 (Ss.keep Kc21 (ninS (Ne.symm (Nat.ne_of_lt (Nat.lt_of_lt_of_le (E_cp).lt (Nat.le_of_eq g19.symm)))) nin0) (ninS (Ne.symm (Nat.ne_of_lt (Nat.lt_of_lt_of_le ((E_cp.keep Kn19)).lt hts))) nin0)) (by omega) (by omega) (Nat.zero_le _) (fun j hj => by exact hlt4 j (by omega))) (w_74 hw) (w_15 hw) (by decide) (by decide) (allS ⟨(Or.inr sz_cp), (List.mem_of_getElem? (i := 1) rfl)⟩ all0) rfl (Nat.le_of_eq rfl) rfl (by decide) (by decide) (pc' := 270) rfl ?_
          intro w22 h22 q22 Kc22
          obtain ⟨rfl, C1⟩ := q22
          rw [Nat.sub_zero] at C1
          refine g_istore at_270 (L' := #[.val (.int p0), .val (.int p1), .val (.int p2), .val (.int p3), .val (.int p4), .val (.ref ca), .val (.int 0), .val (.int 1), .val (.int 0), .val (.ref bs), .val (.int 3), .val (.int 2), .val (.int (Int32.ofNat o1)), .val (.int (Int32.ofNat (o1 + r2))), .val (.int (Int32.ofNat (o1 + r2 + r3))), .val (.ref cp), .val (.int (Int32.ofNat (advN [c0, c1, c2, c3] (o1 - 0) 0))), .unset, .unset]) rfl (pc' := 272) rfl ?_
          refine g_aload at_272 rfl rfl (pc' := 274) rfl ?_
          refine g_iload at_274 rfl (pc' := 276) rfl ?_
          refine g_virt (W := 0) (argsL := [(.int (Int32.ofNat (o1 + r2)))]) (rest := []) at_276 (w_70 hw) (w_71 hw) (nf_self (w_73 hw)) (w_73 hw) (w_72 hw) (by decide) (lenOf pd_0 rfl) C1.1 (c_ix hw cp x ts [c0, c1, c2, c3] (advN [c0, c1, c2, c3] o1 0) o1 (o1 + r2) z sf _ hC hz hA hH hL hF rsf C1 ((Ss.keep Kc21 (ninS (Ne.symm (Nat.ne_of_lt (Nat.lt_of_lt_of_le (E_cp).lt (Nat.le_of_eq g19.symm)))) nin0) (ninS (Ne.symm (Nat.ne_of_lt (Nat.lt_of_lt_of_le ((E_cp.keep Kn19)).lt hts))) nin0)).keep Kc22 (ninS (Ne.symm (Nat.ne_of_lt (Nat.lt_of_lt_of_le (E_cp).lt (Nat.le_of_eq g19.symm)))) nin0) (ninS (Ne.symm (Nat.ne_of_lt (Nat.lt_of_lt_of_le ((E_cp.keep Kn19)).lt hts))) nin0)) (by omega) (by omega) (hle4 o1 (by omega)) (fun j hj => by rw [advN_add]; exact hlt4 _ (by omega))) (w_74 hw) (w_15 hw) (by decide) (by decide) (allS ⟨(Or.inr sz_cp), (List.mem_of_getElem? (i := 1) rfl)⟩ all0) rfl (Nat.le_of_eq rfl) rfl (by decide) (by decide) (pc' := 279) rfl ?_
          intro w23 h23 q23 Kc23
          obtain ⟨rfl, C2⟩ := q23
          rw [advN_add, show o1 + (o1 + r2 - o1) = o1 + r2 by omega] at C2
          refine g_istore at_279 (L' := #[.val (.int p0), .val (.int p1), .val (.int p2), .val (.int p3), .val (.int p4), .val (.ref ca), .val (.int 0), .val (.int 1), .val (.int 0), .val (.ref bs), .val (.int 3), .val (.int 2), .val (.int (Int32.ofNat o1)), .val (.int (Int32.ofNat (o1 + r2))), .val (.int (Int32.ofNat (o1 + r2 + r3))), .val (.ref cp), .val (.int (Int32.ofNat (advN [c0, c1, c2, c3] (o1 - 0) 0))), .val (.int (Int32.ofNat (advN [c0, c1, c2, c3] (o1 + r2 - o1) (advN [c0, c1, c2, c3] o1 0)))), .unset]) rfl (pc' := 281) rfl ?_
          refine g_aload at_281 rfl rfl (pc' := 283) rfl ?_
          refine g_iload at_283 rfl (pc' := 285) rfl ?_
          refine g_virt (W := 0) (argsL := [(.int (Int32.ofNat (o1 + r2 + r3)))]) (rest := []) at_285 (w_70 hw) (w_71 hw) (nf_self (w_73 hw)) (w_73 hw) (w_72 hw) (by decide) (lenOf pd_0 rfl) C2.1 (c_ix hw cp x ts [c0, c1, c2, c3] (advN [c0, c1, c2, c3] (o1 + r2) 0) (o1 + r2) (o1 + r2 + r3) z sf _ hC hz hA hH hL hF rsf C2 (((Ss.keep Kc21 (ninS (Ne.symm (Nat.ne_of_lt (Nat.lt_of_lt_of_le (E_cp).lt (Nat.le_of_eq g19.symm)))) nin0) (ninS (Ne.symm (Nat.ne_of_lt (Nat.lt_of_lt_of_le ((E_cp.keep Kn19)).lt hts))) nin0)).keep Kc22 (ninS (Ne.symm (Nat.ne_of_lt (Nat.lt_of_lt_of_le (E_cp).lt (Nat.le_of_eq g19.symm)))) nin0) (ninS (Ne.symm (Nat.ne_of_lt (Nat.lt_of_lt_of_le ((E_cp.keep Kn19)).lt hts))) nin0)).keep Kc23 (ninS (Ne.symm (Nat.ne_of_lt (Nat.lt_of_lt_of_le (E_cp).lt (Nat.le_of_eq g19.symm)))) nin0) (ninS (Ne.symm (Nat.ne_of_lt (Nat.lt_of_lt_of_le ((E_cp.keep Kn19)).lt hts))) nin0)) (by omega) (by omega) (hle4 (o1 + r2) (by omega)) (fun j hj => by rw [advN_add]; exact hlt4 _ (by omega))) (w_74 hw) (w_15 hw) (by decide) (by decide) (allS ⟨(Or.inr sz_cp), (List.mem_of_getElem? (i := 1) rfl)⟩ all0) rfl (Nat.le_of_eq rfl) rfl (by decide) (by decide) (pc' := 288) rfl ?_
          intro w24 h24 q24 Kc24
          obtain ⟨rfl, C3⟩ := q24
          rw [advN_add, show o1 + r2 + (o1 + r2 + r3 - (o1 + r2)) = o1 + r2 + r3 by omega] at C3
          refine g_istore at_288 (L' := #[.val (.int p0), .val (.int p1), .val (.int p2), .val (.int p3), .val (.int p4), .val (.ref ca), .val (.int 0), .val (.int 1), .val (.int 0), .val (.ref bs), .val (.int 3), .val (.int 2), .val (.int (Int32.ofNat o1)), .val (.int (Int32.ofNat (o1 + r2))), .val (.int (Int32.ofNat (o1 + r2 + r3))), .val (.ref cp), .val (.int (Int32.ofNat (advN [c0, c1, c2, c3] (o1 - 0) 0))), .val (.int (Int32.ofNat (advN [c0, c1, c2, c3] (o1 + r2 - o1) (advN [c0, c1, c2, c3] o1 0)))), .val (.int (Int32.ofNat (advN [c0, c1, c2, c3] (o1 + r2 + r3 - (o1 + r2)) (advN [c0, c1, c2, c3] (o1 + r2) 0))))]) rfl (pc' := 290) rfl ?_
          refine g_iload at_290 rfl (pc' := 292) rfl ?_
          refine g_aload at_292 rfl rfl (pc' := 294) rfl ?_
          refine g_iload at_294 rfl (pc' := 296) rfl ?_
          refine g_iaload at_296 (((((((A_bs_17.keep Kn18 nin0).keep Kn19 nin0).keep Kc20 (ninS (Nat.ne_of_lt (Nat.lt_of_lt_of_le ((A_bs_17.keep Kn18 nin0)).lt (Nat.le_of_eq g19.symm))) nin0)).keep Kc21 (ninS (Nat.ne_of_lt (Nat.lt_of_lt_of_le (A_bs_17).lt (Nat.le_of_eq g18.symm))) nin0)).keep Kc22 (ninS (Nat.ne_of_lt (Nat.lt_of_lt_of_le (A_bs_17).lt (Nat.le_of_eq g18.symm))) nin0)).keep Kc23 (ninS (Nat.ne_of_lt (Nat.lt_of_lt_of_le (A_bs_17).lt (Nat.le_of_eq g18.symm))) nin0)).keep Kc24 (ninS (Nat.ne_of_lt (Nat.lt_of_lt_of_le (A_bs_17).lt (Nat.le_of_eq g18.symm))) nin0)) (ofNat_le (a := o1) (Nat.le_refl _) (by omega)).1 (nat32 (by omega)) (hbs o1 (by omega)) (pc' := 297) rfl ?_
          refine g_icmp_ne_f at_297 (by rw [Nat.sub_zero]) (pc' := 300) rfl ?_
          refine g_iload at_300 rfl (pc' := 302) rfl ?_
          refine g_aload at_302 rfl rfl (pc' := 304) rfl ?_
          refine g_iload at_304 rfl (pc' := 306) rfl ?_
          refine g_iaload at_306 (((((((A_bs_17.keep Kn18 nin0).keep Kn19 nin0).keep Kc20 (ninS (Nat.ne_of_lt (Nat.lt_of_lt_of_le ((A_bs_17.keep Kn18 nin0)).lt (Nat.le_of_eq g19.symm))) nin0)).keep Kc21 (ninS (Nat.ne_of_lt (Nat.lt_of_lt_of_le (A_bs_17).lt (Nat.le_of_eq g18.symm))) nin0)).keep Kc22 (ninS (Nat.ne_of_lt (Nat.lt_of_lt_of_le (A_bs_17).lt (Nat.le_of_eq g18.symm))) nin0)).keep Kc23 (ninS (Nat.ne_of_lt (Nat.lt_of_lt_of_le (A_bs_17).lt (Nat.le_of_eq g18.symm))) nin0)).keep Kc24 (ninS (Nat.ne_of_lt (Nat.lt_of_lt_of_le (A_bs_17).lt (Nat.le_of_eq g18.symm))) nin0)) (ofNat_le (a := (o1 + r2)) (Nat.le_refl _) (by omega)).1 (nat32 (by omega)) (hbs (o1 + r2) (by omega)) (pc' := 307) rfl ?_
          refine g_icmp_ne_f at_307 (by rw [advN_add, show o1 + (o1 + r2 - o1) = o1 + r2 by omega]) (pc' := 310) rfl ?_
          refine g_iload at_310 rfl (pc' := 312) rfl ?_
          refine g_aload at_312 rfl rfl (pc' := 314) rfl ?_
          refine g_iload at_314 rfl (pc' := 316) rfl ?_
          refine g_iaload at_316 (((((((A_bs_17.keep Kn18 nin0).keep Kn19 nin0).keep Kc20 (ninS (Nat.ne_of_lt (Nat.lt_of_lt_of_le ((A_bs_17.keep Kn18 nin0)).lt (Nat.le_of_eq g19.symm))) nin0)).keep Kc21 (ninS (Nat.ne_of_lt (Nat.lt_of_lt_of_le (A_bs_17).lt (Nat.le_of_eq g18.symm))) nin0)).keep Kc22 (ninS (Nat.ne_of_lt (Nat.lt_of_lt_of_le (A_bs_17).lt (Nat.le_of_eq g18.symm))) nin0)).keep Kc23 (ninS (Nat.ne_of_lt (Nat.lt_of_lt_of_le (A_bs_17).lt (Nat.le_of_eq g18.symm))) nin0)).keep Kc24 (ninS (Nat.ne_of_lt (Nat.lt_of_lt_of_le (A_bs_17).lt (Nat.le_of_eq g18.symm))) nin0)) (ofNat_le (a := (o1 + r2 + r3)) (Nat.le_refl _) (by omega)).1 (nat32 (by omega)) (hbs (o1 + r2 + r3) (by omega)) (pc' := 317) rfl ?_
          refine g_icmp_ne_f at_317 (by rw [advN_add, show o1 + r2 + (o1 + r2 + r3 - (o1 + r2)) = o1 + r2 + r3 by omega]) (pc' := 320) rfl ?_
          refine g_iconst at_320 (v := 1) rfl (pc' := 321) rfl ?_
          refine g_goto at_321 (pc' := 325) (by decide) rfl ?_
          exact g_ireturnN at_325 rfl (by simp) (z := 1) rfl rfl (by decide) (by decide)
        · have J : Go l Z n0 ELs x code maxLocals ret room_1 h0 [] false (fun w h => w = .int 1) K [ca] h9 1 4 116 #[.val (.int p0), .val (.int p1), .val (.int p2), .val (.int p3), .val (.int p4), .val (.ref ca), .val (.int 0), .val (.int 1), .unset, .unset, .unset, .unset, .unset, .unset, .unset, .unset, .unset, .unset, .unset] [(.int 1)] := by
            refine g_istore at_116 (L' := #[.val (.int p0), .val (.int p1), .val (.int p2), .val (.int p3), .val (.int p4), .val (.ref ca), .val (.int 0), .val (.int 1), .val (.int 1), .unset, .unset, .unset, .unset, .unset, .unset, .unset, .unset, .unset, .unset]) rfl (pc' := 118) rfl ?_
            refine g_iconst at_118 (v := 5) rfl (pc' := 119) rfl ?_
            refine g_newA at_119 (w_12 hw) rfl (by decide) (cap := 5) (by decide) (by decide) (by decide) (by decide) (pc' := 121) rfl ?_
            intro bs h25 g25 Kn25 A_bs sz_bs
            replace A_bs : Ia Z h25 bs .int [0, 0, 0, 0, 0] := A_bs
            refine g_astore at_121 rfl (L' := #[.val (.int p0), .val (.int p1), .val (.int p2), .val (.int p3), .val (.int p4), .val (.ref ca), .val (.int 0), .val (.int 1), .val (.int 1), .val (.ref bs), .unset, .unset, .unset, .unset, .unset, .unset, .unset, .unset, .unset]) rfl (pc' := 123) rfl ?_
            refine g_iconst at_123 (v := 0) rfl (pc' := 124) rfl ?_
            refine g_istore at_124 (L' := #[.val (.int p0), .val (.int p1), .val (.int p2), .val (.int p3), .val (.int p4), .val (.ref ca), .val (.int 0), .val (.int 1), .val (.int 1), .val (.ref bs), .val (.int 0), .unset, .unset, .unset, .unset, .unset, .unset, .unset, .unset]) rfl (pc' := 126) rfl ?_
            refine g_aload at_126 rfl rfl (pc' := 128) rfl ?_
            refine g_iload at_128 rfl (pc' := 130) rfl ?_
            refine g_iconst at_130 (v := 0) rfl (pc' := 131) rfl ?_
            refine g_iastore at_131 A_bs (by decide) (i := 0) rfl (Nat.le_of_ble_eq_true rfl) (Or.inr sz_bs) (List.mem_of_getElem? (i := 0) rfl) (pc' := 132) rfl ?_
            intro h26 Kw26 A_bs_26
            replace A_bs_26 : Ia Z h26 bs .int [0, 0, 0, 0, 0] := A_bs_26
            refine g_iinc at_132 (v := 1) rfl rfl (y := 1) rfl (L' := #[.val (.int p0), .val (.int p1), .val (.int p2), .val (.int p3), .val (.int p4), .val (.ref ca), .val (.int 0), .val (.int 1), .val (.int 1), .val (.ref bs), .val (.int 1), .unset, .unset, .unset, .unset, .unset, .unset, .unset, .unset]) rfl (pc' := 135) rfl ?_
            refine g_iload at_135 rfl (pc' := 137) rfl ?_
            refine g_if_eq_t at_137 rfl (pc' := 149) (by decide) rfl ?_
            refine g_iload at_149 rfl (pc' := 151) rfl ?_
            refine g_if_eq_f at_151 (by decide) (pc' := 154) rfl ?_
            refine g_aload at_154 rfl rfl (pc' := 156) rfl ?_
            refine g_iload at_156 rfl (pc' := 158) rfl ?_
            refine g_iconst at_158 (v := 2) rfl (pc' := 159) rfl ?_
            refine g_iastore at_159 A_bs_26 (by decide) (i := 1) rfl (Nat.le_of_ble_eq_true rfl) (Or.inr sz_bs) (List.mem_of_getElem? (i := 0) rfl) (pc' := 160) rfl ?_
            intro h27 Kw27 A_bs_27
            replace A_bs_27 : Ia Z h27 bs .int [0, 2, 0, 0, 0] := A_bs_27
            refine g_iinc at_160 (v := 1) rfl rfl (y := 2) rfl (L' := #[.val (.int p0), .val (.int p1), .val (.int p2), .val (.int p3), .val (.int p4), .val (.ref ca), .val (.int 0), .val (.int 1), .val (.int 1), .val (.ref bs), .val (.int 2), .unset, .unset, .unset, .unset, .unset, .unset, .unset, .unset]) rfl (pc' := 163) rfl ?_
            refine g_iload at_163 rfl (pc' := 165) rfl ?_
            refine g_if_eq_f at_165 (by decide) (pc' := 168) rfl ?_
            refine g_aload at_168 rfl rfl (pc' := 170) rfl ?_
            refine g_iload at_170 rfl (pc' := 172) rfl ?_
            refine g_iconst at_172 (v := 3) rfl (pc' := 173) rfl ?_
            refine g_iastore at_173 A_bs_27 (by decide) (i := 2) rfl (Nat.le_of_ble_eq_true rfl) (Or.inr sz_bs) (List.mem_of_getElem? (i := 0) rfl) (pc' := 174) rfl ?_
            intro h28 Kw28 A_bs_28
            replace A_bs_28 : Ia Z h28 bs .int [0, 2, 3, 0, 0] := A_bs_28
            refine g_iinc at_174 (v := 1) rfl rfl (y := 3) rfl (L' := #[.val (.int p0), .val (.int p1), .val (.int p2), .val (.int p3), .val (.int p4), .val (.ref ca), .val (.int 0), .val (.int 1), .val (.int 1), .val (.ref bs), .val (.int 3), .unset, .unset, .unset, .unset, .unset, .unset, .unset, .unset]) rfl (pc' := 177) rfl ?_
            refine g_aload at_177 rfl rfl (pc' := 179) rfl ?_
            refine g_iload at_179 rfl (pc' := 181) rfl ?_
            refine g_iconst at_181 (v := 4) rfl (pc' := 182) rfl ?_
            refine g_iastore at_182 A_bs_28 (by decide) (i := 3) rfl (Nat.le_of_ble_eq_true rfl) (Or.inr sz_bs) (List.mem_of_getElem? (i := 0) rfl) (pc' := 183) rfl ?_
            intro h29 Kw29 A_bs_29
            replace A_bs_29 : Ia Z h29 bs .int [0, 2, 3, 4, 0] := A_bs_29
            refine g_iinc at_183 (v := 1) rfl rfl (y := 4) rfl (L' := #[.val (.int p0), .val (.int p1), .val (.int p2), .val (.int p3), .val (.int p4), .val (.ref ca), .val (.int 0), .val (.int 1), .val (.int 1), .val (.ref bs), .val (.int 4), .unset, .unset, .unset, .unset, .unset, .unset, .unset, .unset]) rfl (pc' := 186) rfl ?_
            refine g_iload at_186 rfl (pc' := 188) rfl ?_
            refine g_iconst at_188 (v := 1) rfl (pc' := 189) rfl ?_
            refine g_isub at_189 (v := 3) rfl (pc' := 190) rfl ?_
            refine g_istore at_190 (L' := #[.val (.int p0), .val (.int p1), .val (.int p2), .val (.int p3), .val (.int p4), .val (.ref ca), .val (.int 0), .val (.int 1), .val (.int 1), .val (.ref bs), .val (.int 4), .val (.int 3), .unset, .unset, .unset, .unset, .unset, .unset, .unset]) rfl (pc' := 192) rfl ?_
            have e0 : ps [c0, c1, c2, c3] 0 = true := P0
            have e1 : ps [c0, c1, c2, c3] 1 = false := Bool.eq_false_iff.mpr P1
            have e2 : ps [c0, c1, c2, c3] 2 = false := Bool.eq_false_iff.mpr P2
            have e3 : ps [c0, c1, c2, c3] 3 = false := rfl
            have hlt4 : ∀ o, o < 3 → advN [c0, c1, c2, c3] o 0 < 4 := by
              intro o ho
              rcases (by omega : o = 0 ∨ o = 1 ∨ o = 2) with rfl | rfl | rfl <;> simp [advN, adv, e0, e1, e2, e3]
            have hle4 : ∀ o, o ≤ 3 → advN [c0, c1, c2, c3] o 0 ≤ 4 := by
              intro o ho
              rcases (by omega : o = 0 ∨ o = 1 ∨ o = 2 ∨ o = 3) with rfl | rfl | rfl | rfl <;> simp [advN, adv, e0, e1, e2, e3]
            have hbs : ∀ o, o ≤ 3 → ([0, 2, 3, 4, 0] : List Int32)[o]? = some (Int32.ofNat (advN [c0, c1, c2, c3] o 0)) := by
              intro o ho
              rcases (by omega : o = 0 ∨ o = 1 ∨ o = 2 ∨ o = 3) with rfl | rfl | rfl | rfl <;> simp [advN, adv, e0, e1, e2, e3] <;> rfl
            obtain ⟨o1, hr1, er1⟩ := modN p4 4 (by decide) (by decide)
            obtain ⟨r2, hr2, er2⟩ := modN ((p4.toUInt32 >>> (3 &&& 31).toUInt32).toInt32) (4 - o1) (by omega) (by omega)
            obtain ⟨r3, hr3, er3⟩ := modN ((p4.toUInt32 >>> (6 &&& 31).toUInt32).toInt32) (4 - (o1 + r2)) (by omega) (by omega)
            refine g_iload at_192 rfl (pc' := 194) rfl ?_
            refine g_bipush at_194 (v := 7) rfl (pc' := 196) rfl ?_
            refine g_iand at_196 rfl (pc' := 197) rfl ?_
            refine g_iload at_197 rfl (pc' := 199) rfl ?_
            refine g_iconst at_199 (v := 1) rfl (pc' := 200) rfl ?_
            refine g_iadd at_200 (v := 4) rfl (pc' := 201) rfl ?_
            refine g_irem at_201 (by decide) (v := (Int32.ofNat o1)) er1 (pc' := 202) rfl ?_
            refine g_istore at_202 (L' := #[.val (.int p0), .val (.int p1), .val (.int p2), .val (.int p3), .val (.int p4), .val (.ref ca), .val (.int 0), .val (.int 1), .val (.int 1), .val (.ref bs), .val (.int 4), .val (.int 3), .val (.int (Int32.ofNat o1)), .unset, .unset, .unset, .unset, .unset, .unset]) rfl (pc' := 204) rfl ?_
            refine g_iload at_204 rfl (pc' := 206) rfl ?_
            refine g_iload at_206 rfl (pc' := 208) rfl ?_
            refine g_iconst at_208 (v := 3) rfl (pc' := 209) rfl ?_
            refine g_iushr at_209 rfl (pc' := 210) rfl ?_
            refine g_bipush at_210 (v := 7) rfl (pc' := 212) rfl ?_
            refine g_iand at_212 rfl (pc' := 213) rfl ?_
            refine g_iload at_213 rfl (pc' := 215) rfl ?_
            refine g_iconst at_215 (v := 1) rfl (pc' := 216) rfl ?_
            refine g_iadd at_216 (v := 4) rfl (pc' := 217) rfl ?_
            refine g_iload at_217 rfl (pc' := 219) rfl ?_
            refine g_isub at_219 (v := (Int32.ofNat (4 - o1))) (ofNat_sub (a := 4) (by omega) (by omega)) (pc' := 220) rfl ?_
            refine g_irem at_220 (ofNat_ne (by omega) (by omega)) (v := (Int32.ofNat r2)) er2 (pc' := 221) rfl ?_
            refine g_iadd at_221 (v := (Int32.ofNat (o1 + r2))) (ofNat_add (by omega)) (pc' := 222) rfl ?_
            refine g_istore at_222 (L' := #[.val (.int p0), .val (.int p1), .val (.int p2), .val (.int p3), .val (.int p4), .val (.ref ca), .val (.int 0), .val (.int 1), .val (.int 1), .val (.ref bs), .val (.int 4), .val (.int 3), .val (.int (Int32.ofNat o1)), .val (.int (Int32.ofNat (o1 + r2))), .unset, .unset, .unset, .unset, .unset]) rfl (pc' := 224) rfl ?_
            refine g_iload at_224 rfl (pc' := 226) rfl ?_
            refine g_iload at_226 rfl (pc' := 228) rfl ?_
            refine g_bipush at_228 (v := 6) rfl (pc' := 230) rfl ?_
            refine g_iushr at_230 rfl (pc' := 231) rfl ?_
            refine g_bipush at_231 (v := 7) rfl (pc' := 233) rfl ?_
            refine g_iand at_233 rfl (pc' := 234) rfl ?_
            refine g_iload at_234 rfl (pc' := 236) rfl ?_
            refine g_iconst at_236 (v := 1) rfl (pc' := 237) rfl ?_
            refine g_iadd at_237 (v := 4) rfl (pc' := 238) rfl ?_
            refine g_iload at_238 rfl (pc' := 240) rfl ?_
            refine g_isub at_240 (v := (Int32.ofNat (4 - (o1 + r2)))) (ofNat_sub (a := 4) (by omega) (by omega)) (pc' := 241) rfl ?_
            refine g_irem at_241 (ofNat_ne (by omega) (by omega)) (v := (Int32.ofNat r3)) er3 (pc' := 242) rfl ?_
            refine g_iadd at_242 (v := (Int32.ofNat (o1 + r2 + r3))) (ofNat_add (by omega)) (pc' := 243) rfl ?_
            refine g_istore at_243 (L' := #[.val (.int p0), .val (.int p1), .val (.int p2), .val (.int p3), .val (.int p4), .val (.ref ca), .val (.int 0), .val (.int 1), .val (.int 1), .val (.ref bs), .val (.int 4), .val (.int 3), .val (.int (Int32.ofNat o1)), .val (.int (Int32.ofNat (o1 + r2))), .val (.int (Int32.ofNat (o1 + r2 + r3))), .unset, .unset, .unset, .unset]) rfl (pc' := 245) rfl ?_
            refine g_new at_245 (w_13 hw) (w_14 hw) (w_15 hw) (by decide) (by decide) (pc' := 248) rfl ?_
            intro cp h30 g30 Kn30 E_cp D30 sz_cp
            have F_text_cp : Fld Z h30 cp "com/example/passagework/passagework/CodePoints" "text" "Ljava/lang/String;" .null := D30 (Or.inr (w_69 hw)) (ty := (.object "java/lang/String")) (by decide)
            have F_charIndex_cp : Fld Z h30 cp "com/example/passagework/passagework/CodePoints" "charIndex" "I" (.int 0) := D30 (Or.inl (w_76 hw)) (ty := .int) (by decide)
            have F_codePointOffset_cp : Fld Z h30 cp "com/example/passagework/passagework/CodePoints" "codePointOffset" "I" (.int 0) := D30 (Or.inl (w_78 hw)) (ty := .int) (by decide)
            refine g_dup at_248 rfl (pc' := 249) rfl ?_
            refine g_new at_249 (w_16 hw) (w_17 hw) (w_18 hw) (by decide) (by decide) (pc' := 252) rfl ?_
            intro x h31 g31 Kn31 E_x D31 sz_x
            have F_coder_x : Fld Z h31 x "java/lang/String" "coder" "B" (.int 0) := D31 (Or.inr (w_61 hw)) (ty := .byte) (by decide)
            have F_value_x : Fld Z h31 x "java/lang/String" "value" "[B" .null := D31 (Or.inr (w_63 hw)) (ty := (.array .byte)) (by decide)
            refine g_dup at_252 rfl (pc' := 253) rfl ?_
            refine g_aload at_253 rfl rfl (pc' := 255) rfl ?_
            refine g_init (W := 3) (argsL := [(.ref ca)]) (rest := [(.ref x), (.ref cp), (.ref cp)]) at_255 rfl (w_19 hw) (w_20 hw) (by decide) (lenOf pd_19 rfl) (c_ic hw x ca [c0, c1, c2, c3] z _ _ _ hC hz hA hH hL E_x F_value_x F_coder_x (((((((A_ca_9.keep Kn25 nin0).keep Kw26 (ninS (Nat.ne_of_lt (Nat.lt_of_lt_of_le (A_ca_9).lt (Nat.le_of_eq g25.symm))) nin0)).keep Kw27 (ninS (Nat.ne_of_lt (Nat.lt_of_lt_of_le (A_ca_9).lt (Nat.le_of_eq g25.symm))) nin0)).keep Kw28 (ninS (Nat.ne_of_lt (Nat.lt_of_lt_of_le (A_ca_9).lt (Nat.le_of_eq g25.symm))) nin0)).keep Kw29 (ninS (Nat.ne_of_lt (Nat.lt_of_lt_of_le (A_ca_9).lt (Nat.le_of_eq g25.symm))) nin0)).keep Kn30 nin0).keep Kn31 nin0) hcs (Nat.le_of_ble_eq_true rfl) (Nat.le_of_ble_eq_true rfl)) (w_21 hw) (w_18 hw) (by decide) (by decide) (allS ⟨(Or.inr sz_x), (List.mem_of_getElem? (i := 0) rfl)⟩ all0) rfl (Nat.le_of_eq rfl) rfl (by decide) (by decide) (pc' := 258) rfl ?_
            intro w32 h32 q32 Kc32
            obtain ⟨ts, hts, Ss⟩ := q32
            refine g_init (W := 1) (argsL := [(.ref x)]) (rest := [(.ref cp)]) at_258 rfl (w_64 hw) (w_65 hw) (by decide) (lenOf pd_20 rfl) (c_cpi hw cp x _ _ ((E_cp.keep Kn31).keep Kc32) ((F_text_cp.keep Kn31 nin0).keep Kc32 (ninS (Nat.ne_of_lt (Nat.lt_of_lt_of_le (E_cp).lt (Nat.le_of_eq g31.symm))) nin0)) ((F_charIndex_cp.keep Kn31 nin0).keep Kc32 (ninS (Nat.ne_of_lt (Nat.lt_of_lt_of_le (E_cp).lt (Nat.le_of_eq g31.symm))) nin0)) ((F_codePointOffset_cp.keep Kn31 nin0).keep Kc32 (ninS (Nat.ne_of_lt (Nat.lt_of_lt_of_le (E_cp).lt (Nat.le_of_eq g31.symm))) nin0))) (w_66 hw) (w_15 hw) (by decide) (by decide) (allS ⟨(Or.inr sz_cp), (List.mem_of_getElem? (i := 1) rfl)⟩ all0) rfl (Nat.le_of_eq rfl) rfl (by decide) (by decide) (pc' := 261) rfl ?_
            intro w33 h33 q33 Kc33
            have C0 := q33
            refine g_astore at_261 rfl (L' := #[.val (.int p0), .val (.int p1), .val (.int p2), .val (.int p3), .val (.int p4), .val (.ref ca), .val (.int 0), .val (.int 1), .val (.int 1), .val (.ref bs), .val (.int 4), .val (.int 3), .val (.int (Int32.ofNat o1)), .val (.int (Int32.ofNat (o1 + r2))), .val (.int (Int32.ofNat (o1 + r2 + r3))), .val (.ref cp), .unset, .unset, .unset]) rfl (pc' := 263) rfl ?_
            refine g_aload at_263 rfl rfl (pc' := 265) rfl ?_
            refine g_iload at_265 rfl (pc' := 267) rfl ?_
            refine g_virt (W := 0) (argsL := [(.int (Int32.ofNat o1))]) (rest := []) at_267 (w_70 hw) (w_71 hw) (nf_self (w_73 hw)) (w_73 hw) (w_72 hw) (by decide) (lenOf pd_0 rfl) C0.1 (c_ix hw cp x ts [c0, c1, c2, c3] 0 0 o1 z sf _ hC hz hA hH hL hF rsf C0 (Ss.keep Kc33 (ninS (Ne.symm (Nat.ne_of_lt (Nat.lt_of_lt_of_le (E_cp).lt (Nat.le_of_eq g31.symm)))) nin0) (ninS (Ne.symm (Nat.ne_of_lt (Nat.lt_of_lt_of_le ((E_cp.keep Kn31)).lt hts))) nin0)) (by omega) (by omega) (Nat.zero_le _) (fun j hj => by exact hlt4 j (by omega))) (w_74 hw) (w_15 hw) (by decide) (by decide) (allS ⟨(Or.inr sz_cp), (List.mem_of_getElem? (i := 1) rfl)⟩ all0) rfl (Nat.le_of_eq rfl) rfl (by decide) (by decide) (pc' := 270) rfl ?_
            intro w34 h34 q34 Kc34
            obtain ⟨rfl, C1⟩ := q34
            rw [Nat.sub_zero] at C1
            refine g_istore at_270 (L' := #[.val (.int p0), .val (.int p1), .val (.int p2), .val (.int p3), .val (.int p4), .val (.ref ca), .val (.int 0), .val (.int 1), .val (.int 1), .val (.ref bs), .val (.int 4), .val (.int 3), .val (.int (Int32.ofNat o1)), .val (.int (Int32.ofNat (o1 + r2))), .val (.int (Int32.ofNat (o1 + r2 + r3))), .val (.ref cp), .val (.int (Int32.ofNat (advN [c0, c1, c2, c3] (o1 - 0) 0))), .unset, .unset]) rfl (pc' := 272) rfl ?_
            refine g_aload at_272 rfl rfl (pc' := 274) rfl ?_
            refine g_iload at_274 rfl (pc' := 276) rfl ?_
            refine g_virt (W := 0) (argsL := [(.int (Int32.ofNat (o1 + r2)))]) (rest := []) at_276 (w_70 hw) (w_71 hw) (nf_self (w_73 hw)) (w_73 hw) (w_72 hw) (by decide) (lenOf pd_0 rfl) C1.1 (c_ix hw cp x ts [c0, c1, c2, c3] (advN [c0, c1, c2, c3] o1 0) o1 (o1 + r2) z sf _ hC hz hA hH hL hF rsf C1 ((Ss.keep Kc33 (ninS (Ne.symm (Nat.ne_of_lt (Nat.lt_of_lt_of_le (E_cp).lt (Nat.le_of_eq g31.symm)))) nin0) (ninS (Ne.symm (Nat.ne_of_lt (Nat.lt_of_lt_of_le ((E_cp.keep Kn31)).lt hts))) nin0)).keep Kc34 (ninS (Ne.symm (Nat.ne_of_lt (Nat.lt_of_lt_of_le (E_cp).lt (Nat.le_of_eq g31.symm)))) nin0) (ninS (Ne.symm (Nat.ne_of_lt (Nat.lt_of_lt_of_le ((E_cp.keep Kn31)).lt hts))) nin0)) (by omega) (by omega) (hle4 o1 (by omega)) (fun j hj => by rw [advN_add]; exact hlt4 _ (by omega))) (w_74 hw) (w_15 hw) (by decide) (by decide) (allS ⟨(Or.inr sz_cp), (List.mem_of_getElem? (i := 1) rfl)⟩ all0) rfl (Nat.le_of_eq rfl) rfl (by decide) (by decide) (pc' := 279) rfl ?_
            intro w35 h35 q35 Kc35
            obtain ⟨rfl, C2⟩ := q35
            rw [advN_add, show o1 + (o1 + r2 - o1) = o1 + r2 by omega] at C2
            refine g_istore at_279 (L' := #[.val (.int p0), .val (.int p1), .val (.int p2), .val (.int p3), .val (.int p4), .val (.ref ca), .val (.int 0), .val (.int 1), .val (.int 1), .val (.ref bs), .val (.int 4), .val (.int 3), .val (.int (Int32.ofNat o1)), .val (.int (Int32.ofNat (o1 + r2))), .val (.int (Int32.ofNat (o1 + r2 + r3))), .val (.ref cp), .val (.int (Int32.ofNat (advN [c0, c1, c2, c3] (o1 - 0) 0))), .val (.int (Int32.ofNat (advN [c0, c1, c2, c3] (o1 + r2 - o1) (advN [c0, c1, c2, c3] o1 0)))), .unset]) rfl (pc' := 281) rfl ?_
            refine g_aload at_281 rfl rfl (pc' := 283) rfl ?_
            refine g_iload at_283 rfl (pc' := 285) rfl ?_
            refine g_virt (W := 0) (argsL := [(.int (Int32.ofNat (o1 + r2 + r3)))]) (rest := []) at_285 (w_70 hw) (w_71 hw) (nf_self (w_73 hw)) (w_73 hw) (w_72 hw) (by decide) (lenOf pd_0 rfl) C2.1 (c_ix hw cp x ts [c0, c1, c2, c3] (advN [c0, c1, c2, c3] (o1 + r2) 0) (o1 + r2) (o1 + r2 + r3) z sf _ hC hz hA hH hL hF rsf C2 (((Ss.keep Kc33 (ninS (Ne.symm (Nat.ne_of_lt (Nat.lt_of_lt_of_le (E_cp).lt (Nat.le_of_eq g31.symm)))) nin0) (ninS (Ne.symm (Nat.ne_of_lt (Nat.lt_of_lt_of_le ((E_cp.keep Kn31)).lt hts))) nin0)).keep Kc34 (ninS (Ne.symm (Nat.ne_of_lt (Nat.lt_of_lt_of_le (E_cp).lt (Nat.le_of_eq g31.symm)))) nin0) (ninS (Ne.symm (Nat.ne_of_lt (Nat.lt_of_lt_of_le ((E_cp.keep Kn31)).lt hts))) nin0)).keep Kc35 (ninS (Ne.symm (Nat.ne_of_lt (Nat.lt_of_lt_of_le (E_cp).lt (Nat.le_of_eq g31.symm)))) nin0) (ninS (Ne.symm (Nat.ne_of_lt (Nat.lt_of_lt_of_le ((E_cp.keep Kn31)).lt hts))) nin0)) (by omega) (by omega) (hle4 (o1 + r2) (by omega)) (fun j hj => by rw [advN_add]; exact hlt4 _ (by omega))) (w_74 hw) (w_15 hw) (by decide) (by decide) (allS ⟨(Or.inr sz_cp), (List.mem_of_getElem? (i := 1) rfl)⟩ all0) rfl (Nat.le_of_eq rfl) rfl (by decide) (by decide) (pc' := 288) rfl ?_
            intro w36 h36 q36 Kc36
            obtain ⟨rfl, C3⟩ := q36
            rw [advN_add, show o1 + r2 + (o1 + r2 + r3 - (o1 + r2)) = o1 + r2 + r3 by omega] at C3
            refine g_istore at_288 (L' := #[.val (.int p0), .val (.int p1), .val (.int p2), .val (.int p3), .val (.int p4), .val (.ref ca), .val (.int 0), .val (.int 1), .val (.int 1), .val (.ref bs), .val (.int 4), .val (.int 3), .val (.int (Int32.ofNat o1)), .val (.int (Int32.ofNat (o1 + r2))), .val (.int (Int32.ofNat (o1 + r2 + r3))), .val (.ref cp), .val (.int (Int32.ofNat (advN [c0, c1, c2, c3] (o1 - 0) 0))), .val (.int (Int32.ofNat (advN [c0, c1, c2, c3] (o1 + r2 - o1) (advN [c0, c1, c2, c3] o1 0)))), .val (.int (Int32.ofNat (advN [c0, c1, c2, c3] (o1 + r2 + r3 - (o1 + r2)) (advN [c0, c1, c2, c3] (o1 + r2) 0))))]) rfl (pc' := 290) rfl ?_
            refine g_iload at_290 rfl (pc' := 292) rfl ?_
            refine g_aload at_292 rfl rfl (pc' := 294) rfl ?_
            refine g_iload at_294 rfl (pc' := 296) rfl ?_
            refine g_iaload at_296 (((((((A_bs_29.keep Kn30 nin0).keep Kn31 nin0).keep Kc32 (ninS (Nat.ne_of_lt (Nat.lt_of_lt_of_le ((A_bs_29.keep Kn30 nin0)).lt (Nat.le_of_eq g31.symm))) nin0)).keep Kc33 (ninS (Nat.ne_of_lt (Nat.lt_of_lt_of_le (A_bs_29).lt (Nat.le_of_eq g30.symm))) nin0)).keep Kc34 (ninS (Nat.ne_of_lt (Nat.lt_of_lt_of_le (A_bs_29).lt (Nat.le_of_eq g30.symm))) nin0)).keep Kc35 (ninS (Nat.ne_of_lt (Nat.lt_of_lt_of_le (A_bs_29).lt (Nat.le_of_eq g30.symm))) nin0)).keep Kc36 (ninS (Nat.ne_of_lt (Nat.lt_of_lt_of_le (A_bs_29).lt (Nat.le_of_eq g30.symm))) nin0)) (ofNat_le (a := o1) (Nat.le_refl _) (by omega)).1 (nat32 (by omega)) (hbs o1 (by omega)) (pc' := 297) rfl ?_
            refine g_icmp_ne_f at_297 (by rw [Nat.sub_zero]) (pc' := 300) rfl ?_
            refine g_iload at_300 rfl (pc' := 302) rfl ?_
            refine g_aload at_302 rfl rfl (pc' := 304) rfl ?_
            refine g_iload at_304 rfl (pc' := 306) rfl ?_
            refine g_iaload at_306 (((((((A_bs_29.keep Kn30 nin0).keep Kn31 nin0).keep Kc32 (ninS (Nat.ne_of_lt (Nat.lt_of_lt_of_le ((A_bs_29.keep Kn30 nin0)).lt (Nat.le_of_eq g31.symm))) nin0)).keep Kc33 (ninS (Nat.ne_of_lt (Nat.lt_of_lt_of_le (A_bs_29).lt (Nat.le_of_eq g30.symm))) nin0)).keep Kc34 (ninS (Nat.ne_of_lt (Nat.lt_of_lt_of_le (A_bs_29).lt (Nat.le_of_eq g30.symm))) nin0)).keep Kc35 (ninS (Nat.ne_of_lt (Nat.lt_of_lt_of_le (A_bs_29).lt (Nat.le_of_eq g30.symm))) nin0)).keep Kc36 (ninS (Nat.ne_of_lt (Nat.lt_of_lt_of_le (A_bs_29).lt (Nat.le_of_eq g30.symm))) nin0)) (ofNat_le (a := (o1 + r2)) (Nat.le_refl _) (by omega)).1 (nat32 (by omega)) (hbs (o1 + r2) (by omega)) (pc' := 307) rfl ?_
            refine g_icmp_ne_f at_307 (by rw [advN_add, show o1 + (o1 + r2 - o1) = o1 + r2 by omega]) (pc' := 310) rfl ?_
            refine g_iload at_310 rfl (pc' := 312) rfl ?_
            refine g_aload at_312 rfl rfl (pc' := 314) rfl ?_
            refine g_iload at_314 rfl (pc' := 316) rfl ?_
            refine g_iaload at_316 (((((((A_bs_29.keep Kn30 nin0).keep Kn31 nin0).keep Kc32 (ninS (Nat.ne_of_lt (Nat.lt_of_lt_of_le ((A_bs_29.keep Kn30 nin0)).lt (Nat.le_of_eq g31.symm))) nin0)).keep Kc33 (ninS (Nat.ne_of_lt (Nat.lt_of_lt_of_le (A_bs_29).lt (Nat.le_of_eq g30.symm))) nin0)).keep Kc34 (ninS (Nat.ne_of_lt (Nat.lt_of_lt_of_le (A_bs_29).lt (Nat.le_of_eq g30.symm))) nin0)).keep Kc35 (ninS (Nat.ne_of_lt (Nat.lt_of_lt_of_le (A_bs_29).lt (Nat.le_of_eq g30.symm))) nin0)).keep Kc36 (ninS (Nat.ne_of_lt (Nat.lt_of_lt_of_le (A_bs_29).lt (Nat.le_of_eq g30.symm))) nin0)) (ofNat_le (a := (o1 + r2 + r3)) (Nat.le_refl _) (by omega)).1 (nat32 (by omega)) (hbs (o1 + r2 + r3) (by omega)) (pc' := 317) rfl ?_
            refine g_icmp_ne_f at_317 (by rw [advN_add, show o1 + r2 + (o1 + r2 + r3 - (o1 + r2)) = o1 + r2 + r3 by omega]) (pc' := 320) rfl ?_
            refine g_iconst at_320 (v := 1) rfl (pc' := 321) rfl ?_
            refine g_goto at_321 (pc' := 325) (by decide) rfl ?_
            exact g_ireturnN at_325 rfl (by simp) (z := 1) rfl rfl (by decide) (by decide)
          by_cases q : isHi c2 = true
          ·
            refine g_aload at_91 rfl rfl (pc' := 93) rfl ?_
            refine g_iconst at_93 (v := 2) rfl (pc' := 94) rfl ?_
            refine g_caload at_94 A_ca_9 (by decide) (i := 2) rfl rfl (pc' := 95) rfl ?_
            refine g_static (W := 0) (argsL := [(.int c2)]) (rest := []) at_95 (w_8 hw) (w_9 hw) (by decide) (lenOf pd_16 rfl) (c_ih hw c2 _) (w_10 hw) (w_3 hw) (by decide) (by decide) (fun _ q => nomatch q) rfl (Nat.le_of_eq rfl) rfl (by decide) (by decide) (pc' := 98) rfl ?_
            intro w37 h37 q37 Kc37
            obtain ⟨rfl, rfl⟩ := q37
            refine g_if_eq_f at_98 (by rw [if_pos q]; decide) (pc' := 101) rfl ?_
            refine g_aload at_101 rfl rfl (pc' := 103) rfl ?_
            refine g_iconst at_103 (v := 3) rfl (pc' := 104) rfl ?_
            refine g_caload at_104 A_ca_9 (by decide) (i := 3) rfl rfl (pc' := 105) rfl ?_
            refine g_static (W := 0) (argsL := [(.int c3)]) (rest := []) at_105 (w_136 hw) (w_137 hw) (by decide) (lenOf pd_16 rfl) (c_il hw c3 _) (w_138 hw) (w_3 hw) (by decide) (by decide) (fun _ q => nomatch q) rfl (Nat.le_of_eq rfl) rfl (by decide) (by decide) (pc' := 108) rfl ?_
            intro w38 h38 q38 Kc38
            obtain ⟨rfl, rfl⟩ := q38
            refine g_if_ne_f at_108 (if_neg (fun z => P2 (by rw [q, z]; rfl))) (pc' := 111) rfl ?_
            refine g_iconst at_111 (v := 1) rfl (pc' := 112) rfl ?_
            refine g_goto at_112 (pc' := 116) (by decide) rfl ?_
            exact J
          ·
            refine g_aload at_91 rfl rfl (pc' := 93) rfl ?_
            refine g_iconst at_93 (v := 2) rfl (pc' := 94) rfl ?_
            refine g_caload at_94 A_ca_9 (by decide) (i := 2) rfl rfl (pc' := 95) rfl ?_
            refine g_static (W := 0) (argsL := [(.int c2)]) (rest := []) at_95 (w_8 hw) (w_9 hw) (by decide) (lenOf pd_16 rfl) (c_ih hw c2 _) (w_10 hw) (w_3 hw) (by decide) (by decide) (fun _ q => nomatch q) rfl (Nat.le_of_eq rfl) rfl (by decide) (by decide) (pc' := 98) rfl ?_
            intro w39 h39 q39 Kc39
            obtain ⟨rfl, rfl⟩ := q39
            refine g_if_eq_t at_98 (if_neg q) (pc' := 111) (by decide) rfl ?_
            refine g_iconst at_111 (v := 1) rfl (pc' := 112) rfl ?_
            refine g_goto at_112 (pc' := 116) (by decide) rfl ?_
            exact J
      by_cases q : isHi c1 = true
      ·
        refine g_aload at_64 rfl rfl (pc' := 66) rfl ?_
        refine g_iconst at_66 (v := 1) rfl (pc' := 67) rfl ?_
        refine g_caload at_67 A_ca_9 (by decide) (i := 1) rfl rfl (pc' := 68) rfl ?_
        refine g_static (W := 0) (argsL := [(.int c1)]) (rest := []) at_68 (w_8 hw) (w_9 hw) (by decide) (lenOf pd_16 rfl) (c_ih hw c1 _) (w_10 hw) (w_3 hw) (by decide) (by decide) (fun _ q => nomatch q) rfl (Nat.le_of_eq rfl) rfl (by decide) (by decide) (pc' := 71) rfl ?_
        intro w40 h40 q40 Kc40
        obtain ⟨rfl, rfl⟩ := q40
        refine g_if_eq_f at_71 (by rw [if_pos q]; decide) (pc' := 74) rfl ?_
        refine g_aload at_74 rfl rfl (pc' := 76) rfl ?_
        refine g_iconst at_76 (v := 2) rfl (pc' := 77) rfl ?_
        refine g_caload at_77 A_ca_9 (by decide) (i := 2) rfl rfl (pc' := 78) rfl ?_
        refine g_static (W := 0) (argsL := [(.int c2)]) (rest := []) at_78 (w_136 hw) (w_137 hw) (by decide) (lenOf pd_16 rfl) (c_il hw c2 _) (w_138 hw) (w_3 hw) (by decide) (by decide) (fun _ q => nomatch q) rfl (Nat.le_of_eq rfl) rfl (by decide) (by decide) (pc' := 81) rfl ?_
        intro w41 h41 q41 Kc41
        obtain ⟨rfl, rfl⟩ := q41
        refine g_if_ne_f at_81 (if_neg (fun z => P1 (by rw [q, z]; rfl))) (pc' := 84) rfl ?_
        refine g_iconst at_84 (v := 1) rfl (pc' := 85) rfl ?_
        refine g_goto at_85 (pc' := 89) (by decide) rfl ?_
        exact J
      ·
        refine g_aload at_64 rfl rfl (pc' := 66) rfl ?_
        refine g_iconst at_66 (v := 1) rfl (pc' := 67) rfl ?_
        refine g_caload at_67 A_ca_9 (by decide) (i := 1) rfl rfl (pc' := 68) rfl ?_
        refine g_static (W := 0) (argsL := [(.int c1)]) (rest := []) at_68 (w_8 hw) (w_9 hw) (by decide) (lenOf pd_16 rfl) (c_ih hw c1 _) (w_10 hw) (w_3 hw) (by decide) (by decide) (fun _ q => nomatch q) rfl (Nat.le_of_eq rfl) rfl (by decide) (by decide) (pc' := 71) rfl ?_
        intro w42 h42 q42 Kc42
        obtain ⟨rfl, rfl⟩ := q42
        refine g_if_eq_t at_71 (if_neg q) (pc' := 84) (by decide) rfl ?_
        refine g_iconst at_84 (v := 1) rfl (pc' := 85) rfl ?_
        refine g_goto at_85 (pc' := 89) (by decide) rfl ?_
        exact J
  · have J : Go l Z n0 ELs x code maxLocals ret room_1 h0 [] false (fun w h => w = .int 1) K [ca] h9 1 4 62 #[.val (.int p0), .val (.int p1), .val (.int p2), .val (.int p3), .val (.int p4), .val (.ref ca), .unset, .unset, .unset, .unset, .unset, .unset, .unset, .unset, .unset, .unset, .unset, .unset, .unset] [(.int 1)] := by
      refine g_istore at_62 (L' := #[.val (.int p0), .val (.int p1), .val (.int p2), .val (.int p3), .val (.int p4), .val (.ref ca), .val (.int 1), .unset, .unset, .unset, .unset, .unset, .unset, .unset, .unset, .unset, .unset, .unset, .unset]) rfl (pc' := 64) rfl ?_
      by_cases P1 : (isHi c1 && isLo c2) = true
      · obtain ⟨hh1, ll1⟩ := Bool.and_eq_true_iff.mp P1
        refine g_aload at_64 rfl rfl (pc' := 66) rfl ?_
        refine g_iconst at_66 (v := 1) rfl (pc' := 67) rfl ?_
        refine g_caload at_67 A_ca_9 (by decide) (i := 1) rfl rfl (pc' := 68) rfl ?_
        refine g_static (W := 0) (argsL := [(.int c1)]) (rest := []) at_68 (w_8 hw) (w_9 hw) (by decide) (lenOf pd_16 rfl) (c_ih hw c1 _) (w_10 hw) (w_3 hw) (by decide) (by decide) (fun _ q => nomatch q) rfl (Nat.le_of_eq rfl) rfl (by decide) (by decide) (pc' := 71) rfl ?_
        intro w43 h43 q43 Kc43
        obtain ⟨rfl, rfl⟩ := q43
        refine g_if_eq_f at_71 (by rw [if_pos hh1]; decide) (pc' := 74) rfl ?_
        refine g_aload at_74 rfl rfl (pc' := 76) rfl ?_
        refine g_iconst at_76 (v := 2) rfl (pc' := 77) rfl ?_
        refine g_caload at_77 A_ca_9 (by decide) (i := 2) rfl rfl (pc' := 78) rfl ?_
        refine g_static (W := 0) (argsL := [(.int c2)]) (rest := []) at_78 (w_136 hw) (w_137 hw) (by decide) (lenOf pd_16 rfl) (c_il hw c2 _) (w_138 hw) (w_3 hw) (by decide) (by decide) (fun _ q => nomatch q) rfl (Nat.le_of_eq rfl) rfl (by decide) (by decide) (pc' := 81) rfl ?_
        intro w44 h44 q44 Kc44
        obtain ⟨rfl, rfl⟩ := q44
        refine g_if_ne_t at_81 (by rw [if_pos ll1]; decide) (pc' := 88) (by decide) rfl ?_
        refine g_iconst at_88 (v := 0) rfl (pc' := 89) rfl ?_
        refine g_istore at_89 (L' := #[.val (.int p0), .val (.int p1), .val (.int p2), .val (.int p3), .val (.int p4), .val (.ref ca), .val (.int 1), .val (.int 0), .unset, .unset, .unset, .unset, .unset, .unset, .unset, .unset, .unset, .unset, .unset]) rfl (pc' := 91) rfl ?_
        by_cases P2 : (isHi c2 && isLo c3) = true
        · obtain ⟨hh2, ll2⟩ := Bool.and_eq_true_iff.mp P2
          exact absurd ll1 (by rw [hi_lo c2 hh2]; decide)
        · have J : Go l Z n0 ELs x code maxLocals ret room_1 h0 [] false (fun w h => w = .int 1) K [ca] h9 1 4 116 #[.val (.int p0), .val (.int p1), .val (.int p2), .val (.int p3), .val (.int p4), .val (.ref ca), .val (.int 1), .val (.int 0), .unset, .unset, .unset, .unset, .unset, .unset, .unset, .unset, .unset, .unset, .unset] [(.int 1)] := by
            refine g_istore at_116 (L' := #[.val (.int p0), .val (.int p1), .val (.int p2), .val (.int p3), .val (.int p4), .val (.ref ca), .val (.int 1), .val (.int 0), .val (.int 1), .unset, .unset, .unset, .unset, .unset, .unset, .unset, .unset, .unset, .unset]) rfl (pc' := 118) rfl ?_
            refine g_iconst at_118 (v := 5) rfl (pc' := 119) rfl ?_
            refine g_newA at_119 (w_12 hw) rfl (by decide) (cap := 5) (by decide) (by decide) (by decide) (by decide) (pc' := 121) rfl ?_
            intro bs h45 g45 Kn45 A_bs sz_bs
            replace A_bs : Ia Z h45 bs .int [0, 0, 0, 0, 0] := A_bs
            refine g_astore at_121 rfl (L' := #[.val (.int p0), .val (.int p1), .val (.int p2), .val (.int p3), .val (.int p4), .val (.ref ca), .val (.int 1), .val (.int 0), .val (.int 1), .val (.ref bs), .unset, .unset, .unset, .unset, .unset, .unset, .unset, .unset, .unset]) rfl (pc' := 123) rfl ?_
            refine g_iconst at_123 (v := 0) rfl (pc' := 124) rfl ?_
            refine g_istore at_124 (L' := #[.val (.int p0), .val (.int p1), .val (.int p2), .val (.int p3), .val (.int p4), .val (.ref ca), .val (.int 1), .val (.int 0), .val (.int 1), .val (.ref bs), .val (.int 0), .unset, .unset, .unset, .unset, .unset, .unset, .unset, .unset]) rfl (pc' := 126) rfl ?_
            refine g_aload at_126 rfl rfl (pc' := 128) rfl ?_
            refine g_iload at_128 rfl (pc' := 130) rfl ?_
            refine g_iconst at_130 (v := 0) rfl (pc' := 131) rfl ?_
            refine g_iastore at_131 A_bs (by decide) (i := 0) rfl (Nat.le_of_ble_eq_true rfl) (Or.inr sz_bs) (List.mem_of_getElem? (i := 0) rfl) (pc' := 132) rfl ?_
            intro h46 Kw46 A_bs_46
            replace A_bs_46 : Ia Z h46 bs .int [0, 0, 0, 0, 0] := A_bs_46
            refine g_iinc at_132 (v := 1) rfl rfl (y := 1) rfl (L' := #[.val (.int p0), .val (.int p1), .val (.int p2), .val (.int p3), .val (.int p4), .val (.ref ca), .val (.int 1), .val (.int 0), .val (.int 1), .val (.ref bs), .val (.int 1), .unset, .unset, .unset, .unset, .unset, .unset, .unset, .unset]) rfl (pc' := 135) rfl ?_
            refine g_iload at_135 rfl (pc' := 137) rfl ?_
            refine g_if_eq_f at_137 (by decide) (pc' := 140) rfl ?_
            refine g_aload at_140 rfl rfl (pc' := 142) rfl ?_
            refine g_iload at_142 rfl (pc' := 144) rfl ?_
            refine g_iconst at_144 (v := 1) rfl (pc' := 145) rfl ?_
            refine g_iastore at_145 A_bs_46 (by decide) (i := 1) rfl (Nat.le_of_ble_eq_true rfl) (Or.inr sz_bs) (List.mem_of_getElem? (i := 0) rfl) (pc' := 146) rfl ?_
            intro h47 Kw47 A_bs_47
            replace A_bs_47 : Ia Z h47 bs .int [0, 1, 0, 0, 0] := A_bs_47
            refine g_iinc at_146 (v := 1) rfl rfl (y := 2) rfl (L' := #[.val (.int p0), .val (.int p1), .val (.int p2), .val (.int p3), .val (.int p4), .val (.ref ca), .val (.int 1), .val (.int 0), .val (.int 1), .val (.ref bs), .val (.int 2), .unset, .unset, .unset, .unset, .unset, .unset, .unset, .unset]) rfl (pc' := 149) rfl ?_
            refine g_iload at_149 rfl (pc' := 151) rfl ?_
            refine g_if_eq_t at_151 rfl (pc' := 163) (by decide) rfl ?_
            refine g_iload at_163 rfl (pc' := 165) rfl ?_
            refine g_if_eq_f at_165 (by decide) (pc' := 168) rfl ?_
            refine g_aload at_168 rfl rfl (pc' := 170) rfl ?_
            refine g_iload at_170 rfl (pc' := 172) rfl ?_
            refine g_iconst at_172 (v := 3) rfl (pc' := 173) rfl ?_
            refine g_iastore at_173 A_bs_47 (by decide) (i := 2) rfl (Nat.le_of_ble_eq_true rfl) (Or.inr sz_bs) (List.mem_of_getElem? (i := 0) rfl) (pc' := 174) rfl ?_
            intro h48 Kw48 A_bs_48
            replace A_bs_48 : Ia Z h48 bs .int [0, 1, 3, 0, 0] := A_bs_48
            refine g_iinc at_174 (v := 1) rfl rfl (y := 3) rfl (L' := #[.val (.int p0), .val (.int p1), .val (.int p2), .val (.int p3), .val (.int p4), .val (.ref ca), .val (.int 1), .val (.int 0), .val (.int 1), .val (.ref bs), .val (.int 3), .unset, .unset, .unset, .unset, .unset, .unset, .unset, .unset]) rfl (pc' := 177) rfl ?_
            refine g_aload at_177 rfl rfl (pc' := 179) rfl ?_
            refine g_iload at_179 rfl (pc' := 181) rfl ?_
            refine g_iconst at_181 (v := 4) rfl (pc' := 182) rfl ?_
            refine g_iastore at_182 A_bs_48 (by decide) (i := 3) rfl (Nat.le_of_ble_eq_true rfl) (Or.inr sz_bs) (List.mem_of_getElem? (i := 0) rfl) (pc' := 183) rfl ?_
            intro h49 Kw49 A_bs_49
            replace A_bs_49 : Ia Z h49 bs .int [0, 1, 3, 4, 0] := A_bs_49
            refine g_iinc at_183 (v := 1) rfl rfl (y := 4) rfl (L' := #[.val (.int p0), .val (.int p1), .val (.int p2), .val (.int p3), .val (.int p4), .val (.ref ca), .val (.int 1), .val (.int 0), .val (.int 1), .val (.ref bs), .val (.int 4), .unset, .unset, .unset, .unset, .unset, .unset, .unset, .unset]) rfl (pc' := 186) rfl ?_
            refine g_iload at_186 rfl (pc' := 188) rfl ?_
            refine g_iconst at_188 (v := 1) rfl (pc' := 189) rfl ?_
            refine g_isub at_189 (v := 3) rfl (pc' := 190) rfl ?_
            refine g_istore at_190 (L' := #[.val (.int p0), .val (.int p1), .val (.int p2), .val (.int p3), .val (.int p4), .val (.ref ca), .val (.int 1), .val (.int 0), .val (.int 1), .val (.ref bs), .val (.int 4), .val (.int 3), .unset, .unset, .unset, .unset, .unset, .unset, .unset]) rfl (pc' := 192) rfl ?_
            have e0 : ps [c0, c1, c2, c3] 0 = false := Bool.eq_false_iff.mpr P0
            have e1 : ps [c0, c1, c2, c3] 1 = true := P1
            have e2 : ps [c0, c1, c2, c3] 2 = false := Bool.eq_false_iff.mpr P2
            have e3 : ps [c0, c1, c2, c3] 3 = false := rfl
            have hlt4 : ∀ o, o < 3 → advN [c0, c1, c2, c3] o 0 < 4 := by
              intro o ho
              rcases (by omega : o = 0 ∨ o = 1 ∨ o = 2) with rfl | rfl | rfl <;> simp [advN, adv, e0, e1, e2, e3]
            have hle4 : ∀ o, o ≤ 3 → advN [c0, c1, c2, c3] o 0 ≤ 4 := by
              intro o ho
              rcases (by omega : o = 0 ∨ o = 1 ∨ o = 2 ∨ o = 3) with rfl | rfl | rfl | rfl <;> simp [advN, adv, e0, e1, e2, e3]
            have hbs : ∀ o, o ≤ 3 → ([0, 1, 3, 4, 0] : List Int32)[o]? = some (Int32.ofNat (advN [c0, c1, c2, c3] o 0)) := by
              intro o ho
              rcases (by omega : o = 0 ∨ o = 1 ∨ o = 2 ∨ o = 3) with rfl | rfl | rfl | rfl <;> simp [advN, adv, e0, e1, e2, e3] <;> rfl
            obtain ⟨o1, hr1, er1⟩ := modN p4 4 (by decide) (by decide)
            obtain ⟨r2, hr2, er2⟩ := modN ((p4.toUInt32 >>> (3 &&& 31).toUInt32).toInt32) (4 - o1) (by omega) (by omega)
            obtain ⟨r3, hr3, er3⟩ := modN ((p4.toUInt32 >>> (6 &&& 31).toUInt32).toInt32) (4 - (o1 + r2)) (by omega) (by omega)
            refine g_iload at_192 rfl (pc' := 194) rfl ?_
            refine g_bipush at_194 (v := 7) rfl (pc' := 196) rfl ?_
            refine g_iand at_196 rfl (pc' := 197) rfl ?_
            refine g_iload at_197 rfl (pc' := 199) rfl ?_
            refine g_iconst at_199 (v := 1) rfl (pc' := 200) rfl ?_
            refine g_iadd at_200 (v := 4) rfl (pc' := 201) rfl ?_
            refine g_irem at_201 (by decide) (v := (Int32.ofNat o1)) er1 (pc' := 202) rfl ?_
            refine g_istore at_202 (L' := #[.val (.int p0), .val (.int p1), .val (.int p2), .val (.int p3), .val (.int p4), .val (.ref ca), .val (.int 1), .val (.int 0), .val (.int 1), .val (.ref bs), .val (.int 4), .val (.int 3), .val (.int (Int32.ofNat o1)), .unset, .unset, .unset, .unset, .unset, .unset]) rfl (pc' := 204) rfl ?_
            refine g_iload at_204 rfl (pc' := 206) rfl ?_
            refine g_iload at_206 rfl (pc' := 208) rfl ?_
            refine g_iconst at_208 (v := 3) rfl (pc' := 209) rfl ?_
            refine g_iushr at_209 rfl (pc' := 210) rfl ?_
            refine g_bipush at_210 (v := 7) rfl (pc' := 212) rfl ?_
            refine g_iand at_212 rfl (pc' := 213) rfl ?_
            refine g_iload at_213 rfl (pc' := 215) rfl ?_
            refine g_iconst at_215 (v := 1) rfl (pc' := 216) rfl ?_
            refine g_iadd at_216 (v := 4) rfl (pc' := 217) rfl ?_
            refine g_iload at_217 rfl (pc' := 219) rfl ?_
            refine g_isub at_219 (v := (Int32.ofNat (4 - o1))) (ofNat_sub (a := 4) (by omega) (by omega)) (pc' := 220) rfl ?_
            refine g_irem at_220 (ofNat_ne (by omega) (by omega)) (v := (Int32.ofNat r2)) er2 (pc' := 221) rfl ?_
            refine g_iadd at_221 (v := (Int32.ofNat (o1 + r2))) (ofNat_add (by omega)) (pc' := 222) rfl ?_
            refine g_istore at_222 (L' := #[.val (.int p0), .val (.int p1), .val (.int p2), .val (.int p3), .val (.int p4), .val (.ref ca), .val (.int 1), .val (.int 0), .val (.int 1), .val (.ref bs), .val (.int 4), .val (.int 3), .val (.int (Int32.ofNat o1)), .val (.int (Int32.ofNat (o1 + r2))), .unset, .unset, .unset, .unset, .unset]) rfl (pc' := 224) rfl ?_
            refine g_iload at_224 rfl (pc' := 226) rfl ?_
            refine g_iload at_226 rfl (pc' := 228) rfl ?_
            refine g_bipush at_228 (v := 6) rfl (pc' := 230) rfl ?_
            refine g_iushr at_230 rfl (pc' := 231) rfl ?_
            refine g_bipush at_231 (v := 7) rfl (pc' := 233) rfl ?_
            refine g_iand at_233 rfl (pc' := 234) rfl ?_
            refine g_iload at_234 rfl (pc' := 236) rfl ?_
            refine g_iconst at_236 (v := 1) rfl (pc' := 237) rfl ?_
            refine g_iadd at_237 (v := 4) rfl (pc' := 238) rfl ?_
            refine g_iload at_238 rfl (pc' := 240) rfl ?_
            refine g_isub at_240 (v := (Int32.ofNat (4 - (o1 + r2)))) (ofNat_sub (a := 4) (by omega) (by omega)) (pc' := 241) rfl ?_
            refine g_irem at_241 (ofNat_ne (by omega) (by omega)) (v := (Int32.ofNat r3)) er3 (pc' := 242) rfl ?_
            refine g_iadd at_242 (v := (Int32.ofNat (o1 + r2 + r3))) (ofNat_add (by omega)) (pc' := 243) rfl ?_
            refine g_istore at_243 (L' := #[.val (.int p0), .val (.int p1), .val (.int p2), .val (.int p3), .val (.int p4), .val (.ref ca), .val (.int 1), .val (.int 0), .val (.int 1), .val (.ref bs), .val (.int 4), .val (.int 3), .val (.int (Int32.ofNat o1)), .val (.int (Int32.ofNat (o1 + r2))), .val (.int (Int32.ofNat (o1 + r2 + r3))), .unset, .unset, .unset, .unset]) rfl (pc' := 245) rfl ?_
            refine g_new at_245 (w_13 hw) (w_14 hw) (w_15 hw) (by decide) (by decide) (pc' := 248) rfl ?_
            intro cp h50 g50 Kn50 E_cp D50 sz_cp
            have F_text_cp : Fld Z h50 cp "com/example/passagework/passagework/CodePoints" "text" "Ljava/lang/String;" .null := D50 (Or.inr (w_69 hw)) (ty := (.object "java/lang/String")) (by decide)
            have F_charIndex_cp : Fld Z h50 cp "com/example/passagework/passagework/CodePoints" "charIndex" "I" (.int 0) := D50 (Or.inl (w_76 hw)) (ty := .int) (by decide)
            have F_codePointOffset_cp : Fld Z h50 cp "com/example/passagework/passagework/CodePoints" "codePointOffset" "I" (.int 0) := D50 (Or.inl (w_78 hw)) (ty := .int) (by decide)
            refine g_dup at_248 rfl (pc' := 249) rfl ?_
            refine g_new at_249 (w_16 hw) (w_17 hw) (w_18 hw) (by decide) (by decide) (pc' := 252) rfl ?_
            intro x h51 g51 Kn51 E_x D51 sz_x
            have F_coder_x : Fld Z h51 x "java/lang/String" "coder" "B" (.int 0) := D51 (Or.inr (w_61 hw)) (ty := .byte) (by decide)
            have F_value_x : Fld Z h51 x "java/lang/String" "value" "[B" .null := D51 (Or.inr (w_63 hw)) (ty := (.array .byte)) (by decide)
            refine g_dup at_252 rfl (pc' := 253) rfl ?_
            refine g_aload at_253 rfl rfl (pc' := 255) rfl ?_
            refine g_init (W := 3) (argsL := [(.ref ca)]) (rest := [(.ref x), (.ref cp), (.ref cp)]) at_255 rfl (w_19 hw) (w_20 hw) (by decide) (lenOf pd_19 rfl) (c_ic hw x ca [c0, c1, c2, c3] z _ _ _ hC hz hA hH hL E_x F_value_x F_coder_x (((((((A_ca_9.keep Kn45 nin0).keep Kw46 (ninS (Nat.ne_of_lt (Nat.lt_of_lt_of_le (A_ca_9).lt (Nat.le_of_eq g45.symm))) nin0)).keep Kw47 (ninS (Nat.ne_of_lt (Nat.lt_of_lt_of_le (A_ca_9).lt (Nat.le_of_eq g45.symm))) nin0)).keep Kw48 (ninS (Nat.ne_of_lt (Nat.lt_of_lt_of_le (A_ca_9).lt (Nat.le_of_eq g45.symm))) nin0)).keep Kw49 (ninS (Nat.ne_of_lt (Nat.lt_of_lt_of_le (A_ca_9).lt (Nat.le_of_eq g45.symm))) nin0)).keep Kn50 nin0).keep Kn51 nin0) hcs (Nat.le_of_ble_eq_true rfl) (Nat.le_of_ble_eq_true rfl)) (w_21 hw) (w_18 hw) (by decide) (by decide) (allS ⟨(Or.inr sz_x), (List.mem_of_getElem? (i := 0) rfl)⟩ all0) rfl (Nat.le_of_eq rfl) rfl (by decide) (by decide) (pc' := 258) rfl ?_
            intro w52 h52 q52 Kc52
            obtain ⟨ts, hts, Ss⟩ := q52
            refine g_init (W := 1) (argsL := [(.ref x)]) (rest := [(.ref cp)]) at_258 rfl (w_64 hw) (w_65 hw) (by decide) (lenOf pd_20 rfl) (c_cpi hw cp x _ _ ((E_cp.keep Kn51).keep Kc52) ((F_text_cp.keep Kn51 nin0).keep Kc52 (ninS (Nat.ne_of_lt (Nat.lt_of_lt_of_le (E_cp).lt (Nat.le_of_eq g51.symm))) nin0)) ((F_charIndex_cp.keep Kn51 nin0).keep Kc52 (ninS (Nat.ne_of_lt (Nat.lt_of_lt_of_le (E_cp).lt (Nat.le_of_eq g51.symm))) nin0)) ((F_codePointOffset_cp.keep Kn51 nin0).keep Kc52 (ninS (Nat.ne_of_lt (Nat.lt_of_lt_of_le (E_cp).lt (Nat.le_of_eq g51.symm))) nin0))) (w_66 hw) (w_15 hw) (by decide) (by decide) (allS ⟨(Or.inr sz_cp), (List.mem_of_getElem? (i := 1) rfl)⟩ all0) rfl (Nat.le_of_eq rfl) rfl (by decide) (by decide) (pc' := 261) rfl ?_
            intro w53 h53 q53 Kc53
            have C0 := q53
            refine g_astore at_261 rfl (L' := #[.val (.int p0), .val (.int p1), .val (.int p2), .val (.int p3), .val (.int p4), .val (.ref ca), .val (.int 1), .val (.int 0), .val (.int 1), .val (.ref bs), .val (.int 4), .val (.int 3), .val (.int (Int32.ofNat o1)), .val (.int (Int32.ofNat (o1 + r2))), .val (.int (Int32.ofNat (o1 + r2 + r3))), .val (.ref cp), .unset, .unset, .unset]) rfl (pc' := 263) rfl ?_
            refine g_aload at_263 rfl rfl (pc' := 265) rfl ?_
            refine g_iload at_265 rfl (pc' := 267) rfl ?_
            refine g_virt (W := 0) (argsL := [(.int (Int32.ofNat o1))]) (rest := []) at_267 (w_70 hw) (w_71 hw) (nf_self (w_73 hw)) (w_73 hw) (w_72 hw) (by decide) (lenOf pd_0 rfl) C0.1 (c_ix hw cp x ts [c0, c1, c2, c3] 0 0 o1 z sf _ hC hz hA hH hL hF rsf C0 (Ss.keep Kc53 (ninS (Ne.symm (Nat.ne_of_lt (Nat.lt_of_lt_of_le (E_cp).lt (Nat.le_of_eq g51.symm)))) nin0) (ninS (Ne.symm (Nat.ne_of_lt (Nat.lt_of_lt_of_le ((E_cp.keep Kn51)).lt hts))) nin0)) (by omega) (by omega) (Nat.zero_le _) (fun j hj => by exact hlt4 j (by omega))) (w_74 hw) (w_15 hw) (by decide) (by decide) (allS ⟨(Or.inr sz_cp), (List.mem_of_getElem? (i := 1) rfl)⟩ all0) rfl (Nat.le_of_eq rfl) rfl (by decide) (by decide) (pc' := 270) rfl ?_
            intro w54 h54 q54 Kc54
            obtain ⟨rfl, C1⟩ := q54
            rw [Nat.sub_zero] at C1
            refine g_istore at_270 (L' := #[.val (.int p0), .val (.int p1), .val (.int p2), .val (.int p3), .val (.int p4), .val (.ref ca), .val (.int 1), .val (.int 0), .val (.int 1), .val (.ref bs), .val (.int 4), .val (.int 3), .val (.int (Int32.ofNat o1)), .val (.int (Int32.ofNat (o1 + r2))), .val (.int (Int32.ofNat (o1 + r2 + r3))), .val (.ref cp), .val (.int (Int32.ofNat (advN [c0, c1, c2, c3] (o1 - 0) 0))), .unset, .unset]) rfl (pc' := 272) rfl ?_
            refine g_aload at_272 rfl rfl (pc' := 274) rfl ?_
            refine g_iload at_274 rfl (pc' := 276) rfl ?_
            refine g_virt (W := 0) (argsL := [(.int (Int32.ofNat (o1 + r2)))]) (rest := []) at_276 (w_70 hw) (w_71 hw) (nf_self (w_73 hw)) (w_73 hw) (w_72 hw) (by decide) (lenOf pd_0 rfl) C1.1 (c_ix hw cp x ts [c0, c1, c2, c3] (advN [c0, c1, c2, c3] o1 0) o1 (o1 + r2) z sf _ hC hz hA hH hL hF rsf C1 ((Ss.keep Kc53 (ninS (Ne.symm (Nat.ne_of_lt (Nat.lt_of_lt_of_le (E_cp).lt (Nat.le_of_eq g51.symm)))) nin0) (ninS (Ne.symm (Nat.ne_of_lt (Nat.lt_of_lt_of_le ((E_cp.keep Kn51)).lt hts))) nin0)).keep Kc54 (ninS (Ne.symm (Nat.ne_of_lt (Nat.lt_of_lt_of_le (E_cp).lt (Nat.le_of_eq g51.symm)))) nin0) (ninS (Ne.symm (Nat.ne_of_lt (Nat.lt_of_lt_of_le ((E_cp.keep Kn51)).lt hts))) nin0)) (by omega) (by omega) (hle4 o1 (by omega)) (fun j hj => by rw [advN_add]; exact hlt4 _ (by omega))) (w_74 hw) (w_15 hw) (by decide) (by decide) (allS ⟨(Or.inr sz_cp), (List.mem_of_getElem? (i := 1) rfl)⟩ all0) rfl (Nat.le_of_eq rfl) rfl (by decide) (by decide) (pc' := 279) rfl ?_
            intro w55 h55 q55 Kc55
            obtain ⟨rfl, C2⟩ := q55
            rw [advN_add, show o1 + (o1 + r2 - o1) = o1 + r2 by omega] at C2
            refine g_istore at_279 (L' := #[.val (.int p0), .val (.int p1), .val (.int p2), .val (.int p3), .val (.int p4), .val (.ref ca), .val (.int 1), .val (.int 0), .val (.int 1), .val (.ref bs), .val (.int 4), .val (.int 3), .val (.int (Int32.ofNat o1)), .val (.int (Int32.ofNat (o1 + r2))), .val (.int (Int32.ofNat (o1 + r2 + r3))), .val (.ref cp), .val (.int (Int32.ofNat (advN [c0, c1, c2, c3] (o1 - 0) 0))), .val (.int (Int32.ofNat (advN [c0, c1, c2, c3] (o1 + r2 - o1) (advN [c0, c1, c2, c3] o1 0)))), .unset]) rfl (pc' := 281) rfl ?_
            refine g_aload at_281 rfl rfl (pc' := 283) rfl ?_
            refine g_iload at_283 rfl (pc' := 285) rfl ?_
            refine g_virt (W := 0) (argsL := [(.int (Int32.ofNat (o1 + r2 + r3)))]) (rest := []) at_285 (w_70 hw) (w_71 hw) (nf_self (w_73 hw)) (w_73 hw) (w_72 hw) (by decide) (lenOf pd_0 rfl) C2.1 (c_ix hw cp x ts [c0, c1, c2, c3] (advN [c0, c1, c2, c3] (o1 + r2) 0) (o1 + r2) (o1 + r2 + r3) z sf _ hC hz hA hH hL hF rsf C2 (((Ss.keep Kc53 (ninS (Ne.symm (Nat.ne_of_lt (Nat.lt_of_lt_of_le (E_cp).lt (Nat.le_of_eq g51.symm)))) nin0) (ninS (Ne.symm (Nat.ne_of_lt (Nat.lt_of_lt_of_le ((E_cp.keep Kn51)).lt hts))) nin0)).keep Kc54 (ninS (Ne.symm (Nat.ne_of_lt (Nat.lt_of_lt_of_le (E_cp).lt (Nat.le_of_eq g51.symm)))) nin0) (ninS (Ne.symm (Nat.ne_of_lt (Nat.lt_of_lt_of_le ((E_cp.keep Kn51)).lt hts))) nin0)).keep Kc55 (ninS (Ne.symm (Nat.ne_of_lt (Nat.lt_of_lt_of_le (E_cp).lt (Nat.le_of_eq g51.symm)))) nin0) (ninS (Ne.symm (Nat.ne_of_lt (Nat.lt_of_lt_of_le ((E_cp.keep Kn51)).lt hts))) nin0)) (by omega) (by omega) (hle4 (o1 + r2) (by omega)) (fun j hj => by rw [advN_add]; exact hlt4 _ (by omega))) (w_74 hw) (w_15 hw) (by decide) (by decide) (allS ⟨(Or.inr sz_cp), (List.mem_of_getElem? (i := 1) rfl)⟩ all0) rfl (Nat.le_of_eq rfl) rfl (by decide) (by decide) (pc' := 288) rfl ?_
            intro w56 h56 q56 Kc56
            obtain ⟨rfl, C3⟩ := q56
            rw [advN_add, show o1 + r2 + (o1 + r2 + r3 - (o1 + r2)) = o1 + r2 + r3 by omega] at C3
            refine g_istore at_288 (L' := #[.val (.int p0), .val (.int p1), .val (.int p2), .val (.int p3), .val (.int p4), .val (.ref ca), .val (.int 1), .val (.int 0), .val (.int 1), .val (.ref bs), .val (.int 4), .val (.int 3), .val (.int (Int32.ofNat o1)), .val (.int (Int32.ofNat (o1 + r2))), .val (.int (Int32.ofNat (o1 + r2 + r3))), .val (.ref cp), .val (.int (Int32.ofNat (advN [c0, c1, c2, c3] (o1 - 0) 0))), .val (.int (Int32.ofNat (advN [c0, c1, c2, c3] (o1 + r2 - o1) (advN [c0, c1, c2, c3] o1 0)))), .val (.int (Int32.ofNat (advN [c0, c1, c2, c3] (o1 + r2 + r3 - (o1 + r2)) (advN [c0, c1, c2, c3] (o1 + r2) 0))))]) rfl (pc' := 290) rfl ?_
            refine g_iload at_290 rfl (pc' := 292) rfl ?_
            refine g_aload at_292 rfl rfl (pc' := 294) rfl ?_
            refine g_iload at_294 rfl (pc' := 296) rfl ?_
            refine g_iaload at_296 (((((((A_bs_49.keep Kn50 nin0).keep Kn51 nin0).keep Kc52 (ninS (Nat.ne_of_lt (Nat.lt_of_lt_of_le ((A_bs_49.keep Kn50 nin0)).lt (Nat.le_of_eq g51.symm))) nin0)).keep Kc53 (ninS (Nat.ne_of_lt (Nat.lt_of_lt_of_le (A_bs_49).lt (Nat.le_of_eq g50.symm))) nin0)).keep Kc54 (ninS (Nat.ne_of_lt (Nat.lt_of_lt_of_le (A_bs_49).lt (Nat.le_of_eq g50.symm))) nin0)).keep Kc55 (ninS (Nat.ne_of_lt (Nat.lt_of_lt_of_le (A_bs_49).lt (Nat.le_of_eq g50.symm))) nin0)).keep Kc56 (ninS (Nat.ne_of_lt (Nat.lt_of_lt_of_le (A_bs_49).lt (Nat.le_of_eq g50.symm))) nin0)) (ofNat_le (a := o1) (Nat.le_refl _) (by omega)).1 (nat32 (by omega)) (hbs o1 (by omega)) (pc' := 297) rfl ?_
            refine g_icmp_ne_f at_297 (by rw [Nat.sub_zero]) (pc' := 300) rfl ?_
            refine g_iload at_300 rfl (pc' := 302) rfl ?_
            refine g_aload at_302 rfl rfl (pc' := 304) rfl ?_
            refine g_iload at_304 rfl (pc' := 306) rfl ?_
            refine g_iaload at_306 (((((((A_bs_49.keep Kn50 nin0).keep Kn51 nin0).keep Kc52 (ninS (Nat.ne_of_lt (Nat.lt_of_lt_of_le ((A_bs_49.keep Kn50 nin0)).lt (Nat.le_of_eq g51.symm))) nin0)).keep Kc53 (ninS (Nat.ne_of_lt (Nat.lt_of_lt_of_le (A_bs_49).lt (Nat.le_of_eq g50.symm))) nin0)).keep Kc54 (ninS (Nat.ne_of_lt (Nat.lt_of_lt_of_le (A_bs_49).lt (Nat.le_of_eq g50.symm))) nin0)).keep Kc55 (ninS (Nat.ne_of_lt (Nat.lt_of_lt_of_le (A_bs_49).lt (Nat.le_of_eq g50.symm))) nin0)).keep Kc56 (ninS (Nat.ne_of_lt (Nat.lt_of_lt_of_le (A_bs_49).lt (Nat.le_of_eq g50.symm))) nin0)) (ofNat_le (a := (o1 + r2)) (Nat.le_refl _) (by omega)).1 (nat32 (by omega)) (hbs (o1 + r2) (by omega)) (pc' := 307) rfl ?_
            refine g_icmp_ne_f at_307 (by rw [advN_add, show o1 + (o1 + r2 - o1) = o1 + r2 by omega]) (pc' := 310) rfl ?_
            refine g_iload at_310 rfl (pc' := 312) rfl ?_
            refine g_aload at_312 rfl rfl (pc' := 314) rfl ?_
            refine g_iload at_314 rfl (pc' := 316) rfl ?_
            refine g_iaload at_316 (((((((A_bs_49.keep Kn50 nin0).keep Kn51 nin0).keep Kc52 (ninS (Nat.ne_of_lt (Nat.lt_of_lt_of_le ((A_bs_49.keep Kn50 nin0)).lt (Nat.le_of_eq g51.symm))) nin0)).keep Kc53 (ninS (Nat.ne_of_lt (Nat.lt_of_lt_of_le (A_bs_49).lt (Nat.le_of_eq g50.symm))) nin0)).keep Kc54 (ninS (Nat.ne_of_lt (Nat.lt_of_lt_of_le (A_bs_49).lt (Nat.le_of_eq g50.symm))) nin0)).keep Kc55 (ninS (Nat.ne_of_lt (Nat.lt_of_lt_of_le (A_bs_49).lt (Nat.le_of_eq g50.symm))) nin0)).keep Kc56 (ninS (Nat.ne_of_lt (Nat.lt_of_lt_of_le (A_bs_49).lt (Nat.le_of_eq g50.symm))) nin0)) (ofNat_le (a := (o1 + r2 + r3)) (Nat.le_refl _) (by omega)).1 (nat32 (by omega)) (hbs (o1 + r2 + r3) (by omega)) (pc' := 317) rfl ?_
            refine g_icmp_ne_f at_317 (by rw [advN_add, show o1 + r2 + (o1 + r2 + r3 - (o1 + r2)) = o1 + r2 + r3 by omega]) (pc' := 320) rfl ?_
            refine g_iconst at_320 (v := 1) rfl (pc' := 321) rfl ?_
            refine g_goto at_321 (pc' := 325) (by decide) rfl ?_
            exact g_ireturnN at_325 rfl (by simp) (z := 1) rfl rfl (by decide) (by decide)
          by_cases q : isHi c2 = true
          ·
            refine g_aload at_91 rfl rfl (pc' := 93) rfl ?_
            refine g_iconst at_93 (v := 2) rfl (pc' := 94) rfl ?_
            refine g_caload at_94 A_ca_9 (by decide) (i := 2) rfl rfl (pc' := 95) rfl ?_
            refine g_static (W := 0) (argsL := [(.int c2)]) (rest := []) at_95 (w_8 hw) (w_9 hw) (by decide) (lenOf pd_16 rfl) (c_ih hw c2 _) (w_10 hw) (w_3 hw) (by decide) (by decide) (fun _ q => nomatch q) rfl (Nat.le_of_eq rfl) rfl (by decide) (by decide) (pc' := 98) rfl ?_
            intro w57 h57 q57 Kc57
            obtain ⟨rfl, rfl⟩ := q57
            refine g_if_eq_f at_98 (by rw [if_pos q]; decide) (pc' := 101) rfl ?_
            refine g_aload at_101 rfl rfl (pc' := 103) rfl ?_
            refine g_iconst at_103 (v := 3) rfl (pc' := 104) rfl ?_
            refine g_caload at_104 A_ca_9 (by decide) (i := 3) rfl rfl (pc' := 105) rfl ?_
            refine g_static (W := 0) (argsL := [(.int c3)]) (rest := []) at_105 (w_136 hw) (w_137 hw) (by decide) (lenOf pd_16 rfl) (c_il hw c3 _) (w_138 hw) (w_3 hw) (by decide) (by decide) (fun _ q => nomatch q) rfl (Nat.le_of_eq rfl) rfl (by decide) (by decide) (pc' := 108) rfl ?_
            intro w58 h58 q58 Kc58
            obtain ⟨rfl, rfl⟩ := q58
            refine g_if_ne_f at_108 (if_neg (fun z => P2 (by rw [q, z]; rfl))) (pc' := 111) rfl ?_
            refine g_iconst at_111 (v := 1) rfl (pc' := 112) rfl ?_
            refine g_goto at_112 (pc' := 116) (by decide) rfl ?_
            exact J
          ·
            refine g_aload at_91 rfl rfl (pc' := 93) rfl ?_
            refine g_iconst at_93 (v := 2) rfl (pc' := 94) rfl ?_
            refine g_caload at_94 A_ca_9 (by decide) (i := 2) rfl rfl (pc' := 95) rfl ?_
            refine g_static (W := 0) (argsL := [(.int c2)]) (rest := []) at_95 (w_8 hw) (w_9 hw) (by decide) (lenOf pd_16 rfl) (c_ih hw c2 _) (w_10 hw) (w_3 hw) (by decide) (by decide) (fun _ q => nomatch q) rfl (Nat.le_of_eq rfl) rfl (by decide) (by decide) (pc' := 98) rfl ?_
            intro w59 h59 q59 Kc59
            obtain ⟨rfl, rfl⟩ := q59
            refine g_if_eq_t at_98 (if_neg q) (pc' := 111) (by decide) rfl ?_
            refine g_iconst at_111 (v := 1) rfl (pc' := 112) rfl ?_
            refine g_goto at_112 (pc' := 116) (by decide) rfl ?_
            exact J
      · have J : Go l Z n0 ELs x code maxLocals ret room_1 h0 [] false (fun w h => w = .int 1) K [ca] h9 1 4 89 #[.val (.int p0), .val (.int p1), .val (.int p2), .val (.int p3), .val (.int p4), .val (.ref ca), .val (.int 1), .unset, .unset, .unset, .unset, .unset, .unset, .unset, .unset, .unset, .unset, .unset, .unset] [(.int 1)] := by
          refine g_istore at_89 (L' := #[.val (.int p0), .val (.int p1), .val (.int p2), .val (.int p3), .val (.int p4), .val (.ref ca), .val (.int 1), .val (.int 1), .unset, .unset, .unset, .unset, .unset, .unset, .unset, .unset, .unset, .unset, .unset]) rfl (pc' := 91) rfl ?_
          by_cases P2 : (isHi c2 && isLo c3) = true
          · obtain ⟨hh2, ll2⟩ := Bool.and_eq_true_iff.mp P2
            refine g_aload at_91 rfl rfl (pc' := 93) rfl ?_
            refine g_iconst at_93 (v := 2) rfl (pc' := 94) rfl ?_
            refine g_caload at_94 A_ca_9 (by decide) (i := 2) rfl rfl (pc' := 95) rfl ?_
            refine g_static (W := 0) (argsL := [(.int c2)]) (rest := []) at_95 (w_8 hw) (w_9 hw) (by decide) (lenOf pd_16 rfl) (c_ih hw c2 _) (w_10 hw) (w_3 hw) (by decide) (by decide) (fun _ q => nomatch q) rfl (Nat.le_of_eq rfl) rfl (by decide) (by decide) (pc' := 98) rfl ?_
            intro w60 h60 q60 Kc60
            obtain ⟨rfl, rfl⟩ := q60
            refine g_if_eq_f at_98 (by rw [if_pos hh2]; decide) (pc' := 101) rfl ?_
            refine g_aload at_101 rfl rfl (pc' := 103) rfl ?_
            refine g_iconst at_103 (v := 3) rfl (pc' := 104) rfl ?_
            refine g_caload at_104 A_ca_9 (by decide) (i := 3) rfl rfl (pc' := 105) rfl ?_
            refine g_static (W := 0) (argsL := [(.int c3)]) (rest := []) at_105 (w_136 hw) (w_137 hw) (by decide) (lenOf pd_16 rfl) (c_il hw c3 _) (w_138 hw) (w_3 hw) (by decide) (by decide) (fun _ q => nomatch q) rfl (Nat.le_of_eq rfl) rfl (by decide) (by decide) (pc' := 108) rfl ?_
            intro w61 h61 q61 Kc61
            obtain ⟨rfl, rfl⟩ := q61
            refine g_if_ne_t at_108 (by rw [if_pos ll2]; decide) (pc' := 115) (by decide) rfl ?_
            refine g_iconst at_115 (v := 0) rfl (pc' := 116) rfl ?_
            refine g_istore at_116 (L' := #[.val (.int p0), .val (.int p1), .val (.int p2), .val (.int p3), .val (.int p4), .val (.ref ca), .val (.int 1), .val (.int 1), .val (.int 0), .unset, .unset, .unset, .unset, .unset, .unset, .unset, .unset, .unset, .unset]) rfl (pc' := 118) rfl ?_
            refine g_iconst at_118 (v := 5) rfl (pc' := 119) rfl ?_
            refine g_newA at_119 (w_12 hw) rfl (by decide) (cap := 5) (by decide) (by decide) (by decide) (by decide) (pc' := 121) rfl ?_
            intro bs h62 g62 Kn62 A_bs sz_bs
            replace A_bs : Ia Z h62 bs .int [0, 0, 0, 0, 0] := A_bs
            refine g_astore at_121 rfl (L' := #[.val (.int p0), .val (.int p1), .val (.int p2), .val (.int p3), .val (.int p4), .val (.ref ca), .val (.int 1), .val (.int 1), .val (.int 0), .val (.ref bs), .unset, .unset, .unset, .unset, .unset, .unset, .unset, .unset, .unset]) rfl (pc' := 123) rfl ?_
            refine g_iconst at_123 (v := 0) rfl (pc' := 124) rfl ?_
            refine g_istore at_124 (L' := #[.val (.int p0), .val (.int p1), .val (.int p2), .val (.int p3), .val (.int p4), .val (.ref ca), .val (.int 1), .val (.int 1), .val (.int 0), .val (.ref bs), .val (.int 0), .unset, .unset, .unset, .unset, .unset, .unset, .unset, .unset]) rfl (pc' := 126) rfl ?_
            refine g_aload at_126 rfl rfl (pc' := 128) rfl ?_
            refine g_iload at_128 rfl (pc' := 130) rfl ?_
            refine g_iconst at_130 (v := 0) rfl (pc' := 131) rfl ?_
            refine g_iastore at_131 A_bs (by decide) (i := 0) rfl (Nat.le_of_ble_eq_true rfl) (Or.inr sz_bs) (List.mem_of_getElem? (i := 0) rfl) (pc' := 132) rfl ?_
            intro h63 Kw63 A_bs_63
            replace A_bs_63 : Ia Z h63 bs .int [0, 0, 0, 0, 0] := A_bs_63
            refine g_iinc at_132 (v := 1) rfl rfl (y := 1) rfl (L' := #[.val (.int p0), .val (.int p1), .val (.int p2), .val (.int p3), .val (.int p4), .val (.ref ca), .val (.int 1), .val (.int 1), .val (.int 0), .val (.ref bs), .val (.int 1), .unset, .unset, .unset, .unset, .unset, .unset, .unset, .unset]) rfl (pc' := 135) rfl ?_
            refine g_iload at_135 rfl (pc' := 137) rfl ?_
            refine g_if_eq_f at_137 (by decide) (pc' := 140) rfl ?_
            refine g_aload at_140 rfl rfl (pc' := 142) rfl ?_
            refine g_iload at_142 rfl (pc' := 144) rfl ?_
            refine g_iconst at_144 (v := 1) rfl (pc' := 145) rfl ?_
            refine g_iastore at_145 A_bs_63 (by decide) (i := 1) rfl (Nat.le_of_ble_eq_true rfl) (Or.inr sz_bs) (List.mem_of_getElem? (i := 0) rfl) (pc' := 146) rfl ?_
            intro h64 Kw64 A_bs_64
            replace A_bs_64 : Ia Z h64 bs .int [0, 1, 0, 0, 0] := A_bs_64
            refine g_iinc at_146 (v := 1) rfl rfl (y := 2) rfl (L' := #[.val (.int p0), .val (.int p1), .val (.int p2), .val (.int p3), .val (.int p4), .val (.ref ca), .val (.int 1), .val (.int 1), .val (.int 0), .val (.ref bs), .val (.int 2), .unset, .unset, .unset, .unset, .unset, .unset, .unset, .unset]) rfl (pc' := 149) rfl ?_
            refine g_iload at_149 rfl (pc' := 151) rfl ?_
            refine g_if_eq_f at_151 (by decide) (pc' := 154) rfl ?_
            refine g_aload at_154 rfl rfl (pc' := 156) rfl ?_
            refine g_iload at_156 rfl (pc' := 158) rfl ?_
            refine g_iconst at_158 (v := 2) rfl (pc' := 159) rfl ?_
            refine g_iastore at_159 A_bs_64 (by decide) (i := 2) rfl (Nat.le_of_ble_eq_true rfl) (Or.inr sz_bs) (List.mem_of_getElem? (i := 0) rfl) (pc' := 160) rfl ?_
            intro h65 Kw65 A_bs_65
            replace A_bs_65 : Ia Z h65 bs .int [0, 1, 2, 0, 0] := A_bs_65
            refine g_iinc at_160 (v := 1) rfl rfl (y := 3) rfl (L' := #[.val (.int p0), .val (.int p1), .val (.int p2), .val (.int p3), .val (.int p4), .val (.ref ca), .val (.int 1), .val (.int 1), .val (.int 0), .val (.ref bs), .val (.int 3), .unset, .unset, .unset, .unset, .unset, .unset, .unset, .unset]) rfl (pc' := 163) rfl ?_
            refine g_iload at_163 rfl (pc' := 165) rfl ?_
            refine g_if_eq_t at_165 rfl (pc' := 177) (by decide) rfl ?_
            refine g_aload at_177 rfl rfl (pc' := 179) rfl ?_
            refine g_iload at_179 rfl (pc' := 181) rfl ?_
            refine g_iconst at_181 (v := 4) rfl (pc' := 182) rfl ?_
            refine g_iastore at_182 A_bs_65 (by decide) (i := 3) rfl (Nat.le_of_ble_eq_true rfl) (Or.inr sz_bs) (List.mem_of_getElem? (i := 0) rfl) (pc' := 183) rfl ?_
            intro h66 Kw66 A_bs_66
            replace A_bs_66 : Ia Z h66 bs .int [0, 1, 2, 4, 0] := A_bs_66
            refine g_iinc at_183 (v := 1) rfl rfl (y := 4) rfl (L' := #[.val (.int p0), .val (.int p1), .val (.int p2), .val (.int p3), .val (.int p4), .val (.ref ca), .val (.int 1), .val (.int 1), .val (.int 0), .val (.ref bs), .val (.int 4), .unset, .unset, .unset, .unset, .unset, .unset, .unset, .unset]) rfl (pc' := 186) rfl ?_
            refine g_iload at_186 rfl (pc' := 188) rfl ?_
            refine g_iconst at_188 (v := 1) rfl (pc' := 189) rfl ?_
            refine g_isub at_189 (v := 3) rfl (pc' := 190) rfl ?_
            refine g_istore at_190 (L' := #[.val (.int p0), .val (.int p1), .val (.int p2), .val (.int p3), .val (.int p4), .val (.ref ca), .val (.int 1), .val (.int 1), .val (.int 0), .val (.ref bs), .val (.int 4), .val (.int 3), .unset, .unset, .unset, .unset, .unset, .unset, .unset]) rfl (pc' := 192) rfl ?_
            have e0 : ps [c0, c1, c2, c3] 0 = false := Bool.eq_false_iff.mpr P0
            have e1 : ps [c0, c1, c2, c3] 1 = false := Bool.eq_false_iff.mpr P1
            have e2 : ps [c0, c1, c2, c3] 2 = true := P2
            have e3 : ps [c0, c1, c2, c3] 3 = false := rfl
            have hlt4 : ∀ o, o < 3 → advN [c0, c1, c2, c3] o 0 < 4 := by
              intro o ho
              rcases (by omega : o = 0 ∨ o = 1 ∨ o = 2) with rfl | rfl | rfl <;> simp [advN, adv, e0, e1, e2, e3]
            have hle4 : ∀ o, o ≤ 3 → advN [c0, c1, c2, c3] o 0 ≤ 4 := by
              intro o ho
              rcases (by omega : o = 0 ∨ o = 1 ∨ o = 2 ∨ o = 3) with rfl | rfl | rfl | rfl <;> simp [advN, adv, e0, e1, e2, e3]
            have hbs : ∀ o, o ≤ 3 → ([0, 1, 2, 4, 0] : List Int32)[o]? = some (Int32.ofNat (advN [c0, c1, c2, c3] o 0)) := by
              intro o ho
              rcases (by omega : o = 0 ∨ o = 1 ∨ o = 2 ∨ o = 3) with rfl | rfl | rfl | rfl <;> simp [advN, adv, e0, e1, e2, e3] <;> rfl
            obtain ⟨o1, hr1, er1⟩ := modN p4 4 (by decide) (by decide)
            obtain ⟨r2, hr2, er2⟩ := modN ((p4.toUInt32 >>> (3 &&& 31).toUInt32).toInt32) (4 - o1) (by omega) (by omega)
            obtain ⟨r3, hr3, er3⟩ := modN ((p4.toUInt32 >>> (6 &&& 31).toUInt32).toInt32) (4 - (o1 + r2)) (by omega) (by omega)
            refine g_iload at_192 rfl (pc' := 194) rfl ?_
            refine g_bipush at_194 (v := 7) rfl (pc' := 196) rfl ?_
            refine g_iand at_196 rfl (pc' := 197) rfl ?_
            refine g_iload at_197 rfl (pc' := 199) rfl ?_
            refine g_iconst at_199 (v := 1) rfl (pc' := 200) rfl ?_
            refine g_iadd at_200 (v := 4) rfl (pc' := 201) rfl ?_
            refine g_irem at_201 (by decide) (v := (Int32.ofNat o1)) er1 (pc' := 202) rfl ?_
            refine g_istore at_202 (L' := #[.val (.int p0), .val (.int p1), .val (.int p2), .val (.int p3), .val (.int p4), .val (.ref ca), .val (.int 1), .val (.int 1), .val (.int 0), .val (.ref bs), .val (.int 4), .val (.int 3), .val (.int (Int32.ofNat o1)), .unset, .unset, .unset, .unset, .unset, .unset]) rfl (pc' := 204) rfl ?_
            refine g_iload at_204 rfl (pc' := 206) rfl ?_
            refine g_iload at_206 rfl (pc' := 208) rfl ?_
            refine g_iconst at_208 (v := 3) rfl (pc' := 209) rfl ?_
            refine g_iushr at_209 rfl (pc' := 210) rfl ?_
            refine g_bipush at_210 (v := 7) rfl (pc' := 212) rfl ?_
            refine g_iand at_212 rfl (pc' := 213) rfl ?_
            refine g_iload at_213 rfl (pc' := 215) rfl ?_
            refine g_iconst at_215 (v := 1) rfl (pc' := 216) rfl ?_
            refine g_iadd at_216 (v := 4) rfl (pc' := 217) rfl ?_
            refine g_iload at_217 rfl (pc' := 219) rfl ?_
            refine g_isub at_219 (v := (Int32.ofNat (4 - o1))) (ofNat_sub (a := 4) (by omega) (by omega)) (pc' := 220) rfl ?_
            refine g_irem at_220 (ofNat_ne (by omega) (by omega)) (v := (Int32.ofNat r2)) er2 (pc' := 221) rfl ?_
            refine g_iadd at_221 (v := (Int32.ofNat (o1 + r2))) (ofNat_add (by omega)) (pc' := 222) rfl ?_
            refine g_istore at_222 (L' := #[.val (.int p0), .val (.int p1), .val (.int p2), .val (.int p3), .val (.int p4), .val (.ref ca), .val (.int 1), .val (.int 1), .val (.int 0), .val (.ref bs), .val (.int 4), .val (.int 3), .val (.int (Int32.ofNat o1)), .val (.int (Int32.ofNat (o1 + r2))), .unset, .unset, .unset, .unset, .unset]) rfl (pc' := 224) rfl ?_
            refine g_iload at_224 rfl (pc' := 226) rfl ?_
            refine g_iload at_226 rfl (pc' := 228) rfl ?_
            refine g_bipush at_228 (v := 6) rfl (pc' := 230) rfl ?_
            refine g_iushr at_230 rfl (pc' := 231) rfl ?_
            refine g_bipush at_231 (v := 7) rfl (pc' := 233) rfl ?_
            refine g_iand at_233 rfl (pc' := 234) rfl ?_
            refine g_iload at_234 rfl (pc' := 236) rfl ?_
            refine g_iconst at_236 (v := 1) rfl (pc' := 237) rfl ?_
            refine g_iadd at_237 (v := 4) rfl (pc' := 238) rfl ?_
            refine g_iload at_238 rfl (pc' := 240) rfl ?_
            refine g_isub at_240 (v := (Int32.ofNat (4 - (o1 + r2)))) (ofNat_sub (a := 4) (by omega) (by omega)) (pc' := 241) rfl ?_
            refine g_irem at_241 (ofNat_ne (by omega) (by omega)) (v := (Int32.ofNat r3)) er3 (pc' := 242) rfl ?_
            refine g_iadd at_242 (v := (Int32.ofNat (o1 + r2 + r3))) (ofNat_add (by omega)) (pc' := 243) rfl ?_
            refine g_istore at_243 (L' := #[.val (.int p0), .val (.int p1), .val (.int p2), .val (.int p3), .val (.int p4), .val (.ref ca), .val (.int 1), .val (.int 1), .val (.int 0), .val (.ref bs), .val (.int 4), .val (.int 3), .val (.int (Int32.ofNat o1)), .val (.int (Int32.ofNat (o1 + r2))), .val (.int (Int32.ofNat (o1 + r2 + r3))), .unset, .unset, .unset, .unset]) rfl (pc' := 245) rfl ?_
            refine g_new at_245 (w_13 hw) (w_14 hw) (w_15 hw) (by decide) (by decide) (pc' := 248) rfl ?_
            intro cp h67 g67 Kn67 E_cp D67 sz_cp
            have F_text_cp : Fld Z h67 cp "com/example/passagework/passagework/CodePoints" "text" "Ljava/lang/String;" .null := D67 (Or.inr (w_69 hw)) (ty := (.object "java/lang/String")) (by decide)
            have F_charIndex_cp : Fld Z h67 cp "com/example/passagework/passagework/CodePoints" "charIndex" "I" (.int 0) := D67 (Or.inl (w_76 hw)) (ty := .int) (by decide)
            have F_codePointOffset_cp : Fld Z h67 cp "com/example/passagework/passagework/CodePoints" "codePointOffset" "I" (.int 0) := D67 (Or.inl (w_78 hw)) (ty := .int) (by decide)
            refine g_dup at_248 rfl (pc' := 249) rfl ?_
            refine g_new at_249 (w_16 hw) (w_17 hw) (w_18 hw) (by decide) (by decide) (pc' := 252) rfl ?_
            intro x h68 g68 Kn68 E_x D68 sz_x
            have F_coder_x : Fld Z h68 x "java/lang/String" "coder" "B" (.int 0) := D68 (Or.inr (w_61 hw)) (ty := .byte) (by decide)
            have F_value_x : Fld Z h68 x "java/lang/String" "value" "[B" .null := D68 (Or.inr (w_63 hw)) (ty := (.array .byte)) (by decide)
            refine g_dup at_252 rfl (pc' := 253) rfl ?_
            refine g_aload at_253 rfl rfl (pc' := 255) rfl ?_
            refine g_init (W := 3) (argsL := [(.ref ca)]) (rest := [(.ref x), (.ref cp), (.ref cp)]) at_255 rfl (w_19 hw) (w_20 hw) (by decide) (lenOf pd_19 rfl) (c_ic hw x ca [c0, c1, c2, c3] z _ _ _ hC hz hA hH hL E_x F_value_x F_coder_x (((((((A_ca_9.keep Kn62 nin0).keep Kw63 (ninS (Nat.ne_of_lt (Nat.lt_of_lt_of_le (A_ca_9).lt (Nat.le_of_eq g62.symm))) nin0)).keep Kw64 (ninS (Nat.ne_of_lt (Nat.lt_of_lt_of_le (A_ca_9).lt (Nat.le_of_eq g62.symm))) nin0)).keep Kw65 (ninS (Nat.ne_of_lt (Nat.lt_of_lt_of_le (A_ca_9).lt (Nat.le_of_eq g62.symm))) nin0)).keep Kw66 (ninS (Nat.ne_of_lt (Nat.lt_of_lt_of_le (A_ca_9).lt (Nat.le_of_eq g62.symm))) nin0)).keep Kn67 nin0).keep Kn68 nin0) hcs (Nat.le_of_ble_eq_true rfl) (Nat.le_of_ble_eq_true rfl)) (w_21 hw) (w_18 hw) (by decide) (by decide) (allS ⟨(Or.inr sz_x), (List.mem_of_getElem? (i := 0) rfl)⟩ all0) rfl (Nat.le_of_eq rfl) rfl (by decide) (by decide) (pc' := 258) rfl ?_
            intro w69 h69 q69 Kc69
            obtain ⟨ts, hts, Ss⟩ := q69
            refine g_init (W := 1) (argsL := [(.ref x)]) (rest := [(.ref cp)]) at_258 rfl (w_64 hw) (w_65 hw) (by decide) (lenOf pd_20 rfl) (c_cpi hw cp x _ _ ((E_cp.keep Kn68).keep Kc69) ((F_text_cp.keep Kn68 nin0).keep Kc69 (ninS (Nat.ne_of_lt (Nat.lt_of_lt_of_le (E_cp).lt (Nat.le_of_eq g68.symm))) nin0)) ((F_charIndex_cp.keep Kn68 nin0).keep Kc69 (ninS (Nat.ne_of_lt (Nat.lt_of_lt_of_le (E_cp).lt (Nat.le_of_eq g68.symm))) nin0)) ((F_codePointOffset_cp.keep Kn68 nin0).keep Kc69 (ninS (Nat.ne_of_lt (Nat.lt_of_lt_of_le (E_cp).lt (Nat.le_of_eq g68.symm))) nin0))) (w_66 hw) (w_15 hw) (by decide) (by decide) (allS ⟨(Or.inr sz_cp), (List.mem_of_getElem? (i := 1) rfl)⟩ all0) rfl (Nat.le_of_eq rfl) rfl (by decide) (by decide) (pc' := 261) rfl ?_
            intro w70 h70 q70 Kc70
            have C0 := q70
            refine g_astore at_261 rfl (L' := #[.val (.int p0), .val (.int p1), .val (.int p2), .val (.int p3), .val (.int p4), .val (.ref ca), .val (.int 1), .val (.int 1), .val (.int 0), .val (.ref bs), .val (.int 4), .val (.int 3), .val (.int (Int32.ofNat o1)), .val (.int (Int32.ofNat (o1 + r2))), .val (.int (Int32.ofNat (o1 + r2 + r3))), .val (.ref cp), .unset, .unset, .unset]) rfl (pc' := 263) rfl ?_
            refine g_aload at_263 rfl rfl (pc' := 265) rfl ?_
            refine g_iload at_265 rfl (pc' := 267) rfl ?_
            refine g_virt (W := 0) (argsL := [(.int (Int32.ofNat o1))]) (rest := []) at_267 (w_70 hw) (w_71 hw) (nf_self (w_73 hw)) (w_73 hw) (w_72 hw) (by decide) (lenOf pd_0 rfl) C0.1 (c_ix hw cp x ts [c0, c1, c2, c3] 0 0 o1 z sf _ hC hz hA hH hL hF rsf C0 (Ss.keep Kc70 (ninS (Ne.symm (Nat.ne_of_lt (Nat.lt_of_lt_of_le (E_cp).lt (Nat.le_of_eq g68.symm)))) nin0) (ninS (Ne.symm (Nat.ne_of_lt (Nat.lt_of_lt_of_le ((E_cp.keep Kn68)).lt hts))) nin0)) (by omega) (by omega) (Nat.zero_le _) (fun j hj => by exact hlt4 j (by omega))) (w_74 hw) (w_15 hw) (by decide) (by decide) (allS ⟨(Or.inr sz_cp), (List.mem_of_getElem? (i := 1) rfl)⟩ all0) rfl (Nat.le_of_eq rfl) rfl (by decide) (by decide) (pc' := 270) rfl ?_
            intro w71 h71 q71 Kc71
            obtain ⟨rfl, C1⟩ := q71
            rw [Nat.sub_zero] at C1
            refine g_istore at_270 (L' := #[.val (.int p0), .val (.int p1), .val (.int p2), .val (.int p3), .val (.int p4), .val (.ref ca), .val (.int 1), .val (.int 1), .val (.int 0), .val (.ref bs), .val (.int 4), .val (.int 3), .val (.int (Int32.ofNat o1)), .val (.int (Int32.ofNat (o1 + r2))), .val (.int (Int32.ofNat (o1 + r2 + r3))), .val (.ref cp), .val (.int (Int32.ofNat (advN [c0, c1, c2, c3] (o1 - 0) 0))), .unset, .unset]) rfl (pc' := 272) rfl ?_
            refine g_aload at_272 rfl rfl (pc' := 274) rfl ?_
            refine g_iload at_274 rfl (pc' := 276) rfl ?_
            refine g_virt (W := 0) (argsL := [(.int (Int32.ofNat (o1 + r2)))]) (rest := []) at_276 (w_70 hw) (w_71 hw) (nf_self (w_73 hw)) (w_73 hw) (w_72 hw) (by decide) (lenOf pd_0 rfl) C1.1 (c_ix hw cp x ts [c0, c1, c2, c3] (advN [c0, c1, c2, c3] o1 0) o1 (o1 + r2) z sf _ hC hz hA hH hL hF rsf C1 ((Ss.keep Kc70 (ninS (Ne.symm (Nat.ne_of_lt (Nat.lt_of_lt_of_le (E_cp).lt (Nat.le_of_eq g68.symm)))) nin0) (ninS (Ne.symm (Nat.ne_of_lt (Nat.lt_of_lt_of_le ((E_cp.keep Kn68)).lt hts))) nin0)).keep Kc71 (ninS (Ne.symm (Nat.ne_of_lt (Nat.lt_of_lt_of_le (E_cp).lt (Nat.le_of_eq g68.symm)))) nin0) (ninS (Ne.symm (Nat.ne_of_lt (Nat.lt_of_lt_of_le ((E_cp.keep Kn68)).lt hts))) nin0)) (by omega) (by omega) (hle4 o1 (by omega)) (fun j hj => by rw [advN_add]; exact hlt4 _ (by omega))) (w_74 hw) (w_15 hw) (by decide) (by decide) (allS ⟨(Or.inr sz_cp), (List.mem_of_getElem? (i := 1) rfl)⟩ all0) rfl (Nat.le_of_eq rfl) rfl (by decide) (by decide) (pc' := 279) rfl ?_
            intro w72 h72 q72 Kc72
            obtain ⟨rfl, C2⟩ := q72
            rw [advN_add, show o1 + (o1 + r2 - o1) = o1 + r2 by omega] at C2
            refine g_istore at_279 (L' := #[.val (.int p0), .val (.int p1), .val (.int p2), .val (.int p3), .val (.int p4), .val (.ref ca), .val (.int 1), .val (.int 1), .val (.int 0), .val (.ref bs), .val (.int 4), .val (.int 3), .val (.int (Int32.ofNat o1)), .val (.int (Int32.ofNat (o1 + r2))), .val (.int (Int32.ofNat (o1 + r2 + r3))), .val (.ref cp), .val (.int (Int32.ofNat (advN [c0, c1, c2, c3] (o1 - 0) 0))), .val (.int (Int32.ofNat (advN [c0, c1, c2, c3] (o1 + r2 - o1) (advN [c0, c1, c2, c3] o1 0)))), .unset]) rfl (pc' := 281) rfl ?_
            refine g_aload at_281 rfl rfl (pc' := 283) rfl ?_
            refine g_iload at_283 rfl (pc' := 285) rfl ?_
            refine g_virt (W := 0) (argsL := [(.int (Int32.ofNat (o1 + r2 + r3)))]) (rest := []) at_285 (w_70 hw) (w_71 hw) (nf_self (w_73 hw)) (w_73 hw) (w_72 hw) (by decide) (lenOf pd_0 rfl) C2.1 (c_ix hw cp x ts [c0, c1, c2, c3] (advN [c0, c1, c2, c3] (o1 + r2) 0) (o1 + r2) (o1 + r2 + r3) z sf _ hC hz hA hH hL hF rsf C2 (((Ss.keep Kc70 (ninS (Ne.symm (Nat.ne_of_lt (Nat.lt_of_lt_of_le (E_cp).lt (Nat.le_of_eq g68.symm)))) nin0) (ninS (Ne.symm (Nat.ne_of_lt (Nat.lt_of_lt_of_le ((E_cp.keep Kn68)).lt hts))) nin0)).keep Kc71 (ninS (Ne.symm (Nat.ne_of_lt (Nat.lt_of_lt_of_le (E_cp).lt (Nat.le_of_eq g68.symm)))) nin0) (ninS (Ne.symm (Nat.ne_of_lt (Nat.lt_of_lt_of_le ((E_cp.keep Kn68)).lt hts))) nin0)).keep Kc72 (ninS (Ne.symm (Nat.ne_of_lt (Nat.lt_of_lt_of_le (E_cp).lt (Nat.le_of_eq g68.symm)))) nin0) (ninS (Ne.symm (Nat.ne_of_lt (Nat.lt_of_lt_of_le ((E_cp.keep Kn68)).lt hts))) nin0)) (by omega) (by omega) (hle4 (o1 + r2) (by omega)) (fun j hj => by rw [advN_add]; exact hlt4 _ (by omega))) (w_74 hw) (w_15 hw) (by decide) (by decide) (allS ⟨(Or.inr sz_cp), (List.mem_of_getElem? (i := 1) rfl)⟩ all0) rfl (Nat.le_of_eq rfl) rfl (by decide) (by decide) (pc' := 288) rfl ?_
            intro w73 h73 q73 Kc73
            obtain ⟨rfl, C3⟩ := q73
            rw [advN_add, show o1 + r2 + (o1 + r2 + r3 - (o1 + r2)) = o1 + r2 + r3 by omega] at C3
            refine g_istore at_288 (L' := #[.val (.int p0), .val (.int p1), .val (.int p2), .val (.int p3), .val (.int p4), .val (.ref ca), .val (.int 1), .val (.int 1), .val (.int 0), .val (.ref bs), .val (.int 4), .val (.int 3), .val (.int (Int32.ofNat o1)), .val (.int (Int32.ofNat (o1 + r2))), .val (.int (Int32.ofNat (o1 + r2 + r3))), .val (.ref cp), .val (.int (Int32.ofNat (advN [c0, c1, c2, c3] (o1 - 0) 0))), .val (.int (Int32.ofNat (advN [c0, c1, c2, c3] (o1 + r2 - o1) (advN [c0, c1, c2, c3] o1 0)))), .val (.int (Int32.ofNat (advN [c0, c1, c2, c3] (o1 + r2 + r3 - (o1 + r2)) (advN [c0, c1, c2, c3] (o1 + r2) 0))))]) rfl (pc' := 290) rfl ?_
            refine g_iload at_290 rfl (pc' := 292) rfl ?_
            refine g_aload at_292 rfl rfl (pc' := 294) rfl ?_
            refine g_iload at_294 rfl (pc' := 296) rfl ?_
            refine g_iaload at_296 (((((((A_bs_66.keep Kn67 nin0).keep Kn68 nin0).keep Kc69 (ninS (Nat.ne_of_lt (Nat.lt_of_lt_of_le ((A_bs_66.keep Kn67 nin0)).lt (Nat.le_of_eq g68.symm))) nin0)).keep Kc70 (ninS (Nat.ne_of_lt (Nat.lt_of_lt_of_le (A_bs_66).lt (Nat.le_of_eq g67.symm))) nin0)).keep Kc71 (ninS (Nat.ne_of_lt (Nat.lt_of_lt_of_le (A_bs_66).lt (Nat.le_of_eq g67.symm))) nin0)).keep Kc72 (ninS (Nat.ne_of_lt (Nat.lt_of_lt_of_le (A_bs_66).lt (Nat.le_of_eq g67.symm))) nin0)).keep Kc73 (ninS (Nat.ne_of_lt (Nat.lt_of_lt_of_le (A_bs_66).lt (Nat.le_of_eq g67.symm))) nin0)) (ofNat_le (a := o1) (Nat.le_refl _) (by omega)).1 (nat32 (by omega)) (hbs o1 (by omega)) (pc' := 297) rfl ?_
            refine g_icmp_ne_f at_297 (by rw [Nat.sub_zero]) (pc' := 300) rfl ?_
            refine g_iload at_300 rfl (pc' := 302) rfl ?_
            refine g_aload at_302 rfl rfl (pc' := 304) rfl ?_
            refine g_iload at_304 rfl (pc' := 306) rfl ?_
            refine g_iaload at_306 (((((((A_bs_66.keep Kn67 nin0).keep Kn68 nin0).keep Kc69 (ninS (Nat.ne_of_lt (Nat.lt_of_lt_of_le ((A_bs_66.keep Kn67 nin0)).lt (Nat.le_of_eq g68.symm))) nin0)).keep Kc70 (ninS (Nat.ne_of_lt (Nat.lt_of_lt_of_le (A_bs_66).lt (Nat.le_of_eq g67.symm))) nin0)).keep Kc71 (ninS (Nat.ne_of_lt (Nat.lt_of_lt_of_le (A_bs_66).lt (Nat.le_of_eq g67.symm))) nin0)).keep Kc72 (ninS (Nat.ne_of_lt (Nat.lt_of_lt_of_le (A_bs_66).lt (Nat.le_of_eq g67.symm))) nin0)).keep Kc73 (ninS (Nat.ne_of_lt (Nat.lt_of_lt_of_le (A_bs_66).lt (Nat.le_of_eq g67.symm))) nin0)) (ofNat_le (a := (o1 + r2)) (Nat.le_refl _) (by omega)).1 (nat32 (by omega)) (hbs (o1 + r2) (by omega)) (pc' := 307) rfl ?_
            refine g_icmp_ne_f at_307 (by rw [advN_add, show o1 + (o1 + r2 - o1) = o1 + r2 by omega]) (pc' := 310) rfl ?_
            refine g_iload at_310 rfl (pc' := 312) rfl ?_
            refine g_aload at_312 rfl rfl (pc' := 314) rfl ?_
            refine g_iload at_314 rfl (pc' := 316) rfl ?_
            refine g_iaload at_316 (((((((A_bs_66.keep Kn67 nin0).keep Kn68 nin0).keep Kc69 (ninS (Nat.ne_of_lt (Nat.lt_of_lt_of_le ((A_bs_66.keep Kn67 nin0)).lt (Nat.le_of_eq g68.symm))) nin0)).keep Kc70 (ninS (Nat.ne_of_lt (Nat.lt_of_lt_of_le (A_bs_66).lt (Nat.le_of_eq g67.symm))) nin0)).keep Kc71 (ninS (Nat.ne_of_lt (Nat.lt_of_lt_of_le (A_bs_66).lt (Nat.le_of_eq g67.symm))) nin0)).keep Kc72 (ninS (Nat.ne_of_lt (Nat.lt_of_lt_of_le (A_bs_66).lt (Nat.le_of_eq g67.symm))) nin0)).keep Kc73 (ninS (Nat.ne_of_lt (Nat.lt_of_lt_of_le (A_bs_66).lt (Nat.le_of_eq g67.symm))) nin0)) (ofNat_le (a := (o1 + r2 + r3)) (Nat.le_refl _) (by omega)).1 (nat32 (by omega)) (hbs (o1 + r2 + r3) (by omega)) (pc' := 317) rfl ?_
            refine g_icmp_ne_f at_317 (by rw [advN_add, show o1 + r2 + (o1 + r2 + r3 - (o1 + r2)) = o1 + r2 + r3 by omega]) (pc' := 320) rfl ?_
            refine g_iconst at_320 (v := 1) rfl (pc' := 321) rfl ?_
            refine g_goto at_321 (pc' := 325) (by decide) rfl ?_
            exact g_ireturnN at_325 rfl (by simp) (z := 1) rfl rfl (by decide) (by decide)
          · have J : Go l Z n0 ELs x code maxLocals ret room_1 h0 [] false (fun w h => w = .int 1) K [ca] h9 1 4 116 #[.val (.int p0), .val (.int p1), .val (.int p2), .val (.int p3), .val (.int p4), .val (.ref ca), .val (.int 1), .val (.int 1), .unset, .unset, .unset, .unset, .unset, .unset, .unset, .unset, .unset, .unset, .unset] [(.int 1)] := by
              refine g_istore at_116 (L' := #[.val (.int p0), .val (.int p1), .val (.int p2), .val (.int p3), .val (.int p4), .val (.ref ca), .val (.int 1), .val (.int 1), .val (.int 1), .unset, .unset, .unset, .unset, .unset, .unset, .unset, .unset, .unset, .unset]) rfl (pc' := 118) rfl ?_
              refine g_iconst at_118 (v := 5) rfl (pc' := 119) rfl ?_
              refine g_newA at_119 (w_12 hw) rfl (by decide) (cap := 5) (by decide) (by decide) (by decide) (by decide) (pc' := 121) rfl ?_
              intro bs h74 g74 Kn74 A_bs sz_bs
              replace A_bs : Ia Z h74 bs .int [0, 0, 0, 0, 0] := A_bs
              refine g_astore at_121 rfl (L' := #[.val (.int p0), .val (.int p1), .val (.int p2), .val (.int p3), .val (.int p4), .val (.ref ca), .val (.int 1), .val (.int 1), .val (.int 1), .val (.ref bs), .unset, .unset, .unset, .unset, .unset, .unset, .unset, .unset, .unset]) rfl (pc' := 123) rfl ?_
              refine g_iconst at_123 (v := 0) rfl (pc' := 124) rfl ?_
              refine g_istore at_124 (L' := #[.val (.int p0), .val (.int p1), .val (.int p2), .val (.int p3), .val (.int p4), .val (.ref ca), .val (.int 1), .val (.int 1), .val (.int 1), .val (.ref bs), .val (.int 0), .unset, .unset, .unset, .unset, .unset, .unset, .unset, .unset]) rfl (pc' := 126) rfl ?_
              refine g_aload at_126 rfl rfl (pc' := 128) rfl ?_
              refine g_iload at_128 rfl (pc' := 130) rfl ?_
              refine g_iconst at_130 (v := 0) rfl (pc' := 131) rfl ?_
              refine g_iastore at_131 A_bs (by decide) (i := 0) rfl (Nat.le_of_ble_eq_true rfl) (Or.inr sz_bs) (List.mem_of_getElem? (i := 0) rfl) (pc' := 132) rfl ?_
              intro h75 Kw75 A_bs_75
              replace A_bs_75 : Ia Z h75 bs .int [0, 0, 0, 0, 0] := A_bs_75
              refine g_iinc at_132 (v := 1) rfl rfl (y := 1) rfl (L' := #[.val (.int p0), .val (.int p1), .val (.int p2), .val (.int p3), .val (.int p4), .val (.ref ca), .val (.int 1), .val (.int 1), .val (.int 1), .val (.ref bs), .val (.int 1), .unset, .unset, .unset, .unset, .unset, .unset, .unset, .unset]) rfl (pc' := 135) rfl ?_
              refine g_iload at_135 rfl (pc' := 137) rfl ?_
              refine g_if_eq_f at_137 (by decide) (pc' := 140) rfl ?_
              refine g_aload at_140 rfl rfl (pc' := 142) rfl ?_
              refine g_iload at_142 rfl (pc' := 144) rfl ?_
              refine g_iconst at_144 (v := 1) rfl (pc' := 145) rfl ?_
              refine g_iastore at_145 A_bs_75 (by decide) (i := 1) rfl (Nat.le_of_ble_eq_true rfl) (Or.inr sz_bs) (List.mem_of_getElem? (i := 0) rfl) (pc' := 146) rfl ?_
              intro h76 Kw76 A_bs_76
              replace A_bs_76 : Ia Z h76 bs .int [0, 1, 0, 0, 0] := A_bs_76
              refine g_iinc at_146 (v := 1) rfl rfl (y := 2) rfl (L' := #[.val (.int p0), .val (.int p1), .val (.int p2), .val (.int p3), .val (.int p4), .val (.ref ca), .val (.int 1), .val (.int 1), .val (.int 1), .val (.ref bs), .val (.int 2), .unset, .unset, .unset, .unset, .unset, .unset, .unset, .unset]) rfl (pc' := 149) rfl ?_
              refine g_iload at_149 rfl (pc' := 151) rfl ?_
              refine g_if_eq_f at_151 (by decide) (pc' := 154) rfl ?_
              refine g_aload at_154 rfl rfl (pc' := 156) rfl ?_
              refine g_iload at_156 rfl (pc' := 158) rfl ?_
              refine g_iconst at_158 (v := 2) rfl (pc' := 159) rfl ?_
              refine g_iastore at_159 A_bs_76 (by decide) (i := 2) rfl (Nat.le_of_ble_eq_true rfl) (Or.inr sz_bs) (List.mem_of_getElem? (i := 0) rfl) (pc' := 160) rfl ?_
              intro h77 Kw77 A_bs_77
              replace A_bs_77 : Ia Z h77 bs .int [0, 1, 2, 0, 0] := A_bs_77
              refine g_iinc at_160 (v := 1) rfl rfl (y := 3) rfl (L' := #[.val (.int p0), .val (.int p1), .val (.int p2), .val (.int p3), .val (.int p4), .val (.ref ca), .val (.int 1), .val (.int 1), .val (.int 1), .val (.ref bs), .val (.int 3), .unset, .unset, .unset, .unset, .unset, .unset, .unset, .unset]) rfl (pc' := 163) rfl ?_
              refine g_iload at_163 rfl (pc' := 165) rfl ?_
              refine g_if_eq_f at_165 (by decide) (pc' := 168) rfl ?_
              refine g_aload at_168 rfl rfl (pc' := 170) rfl ?_
              refine g_iload at_170 rfl (pc' := 172) rfl ?_
              refine g_iconst at_172 (v := 3) rfl (pc' := 173) rfl ?_
              refine g_iastore at_173 A_bs_77 (by decide) (i := 3) rfl (Nat.le_of_ble_eq_true rfl) (Or.inr sz_bs) (List.mem_of_getElem? (i := 0) rfl) (pc' := 174) rfl ?_
              intro h78 Kw78 A_bs_78
              replace A_bs_78 : Ia Z h78 bs .int [0, 1, 2, 3, 0] := A_bs_78
              refine g_iinc at_174 (v := 1) rfl rfl (y := 4) rfl (L' := #[.val (.int p0), .val (.int p1), .val (.int p2), .val (.int p3), .val (.int p4), .val (.ref ca), .val (.int 1), .val (.int 1), .val (.int 1), .val (.ref bs), .val (.int 4), .unset, .unset, .unset, .unset, .unset, .unset, .unset, .unset]) rfl (pc' := 177) rfl ?_
              refine g_aload at_177 rfl rfl (pc' := 179) rfl ?_
              refine g_iload at_179 rfl (pc' := 181) rfl ?_
              refine g_iconst at_181 (v := 4) rfl (pc' := 182) rfl ?_
              refine g_iastore at_182 A_bs_78 (by decide) (i := 4) rfl (Nat.le_of_ble_eq_true rfl) (Or.inr sz_bs) (List.mem_of_getElem? (i := 0) rfl) (pc' := 183) rfl ?_
              intro h79 Kw79 A_bs_79
              replace A_bs_79 : Ia Z h79 bs .int [0, 1, 2, 3, 4] := A_bs_79
              refine g_iinc at_183 (v := 1) rfl rfl (y := 5) rfl (L' := #[.val (.int p0), .val (.int p1), .val (.int p2), .val (.int p3), .val (.int p4), .val (.ref ca), .val (.int 1), .val (.int 1), .val (.int 1), .val (.ref bs), .val (.int 5), .unset, .unset, .unset, .unset, .unset, .unset, .unset, .unset]) rfl (pc' := 186) rfl ?_
              refine g_iload at_186 rfl (pc' := 188) rfl ?_
              refine g_iconst at_188 (v := 1) rfl (pc' := 189) rfl ?_
              refine g_isub at_189 (v := 4) rfl (pc' := 190) rfl ?_
              refine g_istore at_190 (L' := #[.val (.int p0), .val (.int p1), .val (.int p2), .val (.int p3), .val (.int p4), .val (.ref ca), .val (.int 1), .val (.int 1), .val (.int 1), .val (.ref bs), .val (.int 5), .val (.int 4), .unset, .unset, .unset, .unset, .unset, .unset, .unset]) rfl (pc' := 192) rfl ?_
              have e0 : ps [c0, c1, c2, c3] 0 = false := Bool.eq_false_iff.mpr P0
              have e1 : ps [c0, c1, c2, c3] 1 = false := Bool.eq_false_iff.mpr P1
              have e2 : ps [c0, c1, c2, c3] 2 = false := Bool.eq_false_iff.mpr P2
              have e3 : ps [c0, c1, c2, c3] 3 = false := rfl
              have hlt4 : ∀ o, o < 4 → advN [c0, c1, c2, c3] o 0 < 4 := by
                intro o ho
                rcases (by omega : o = 0 ∨ o = 1 ∨ o = 2 ∨ o = 3) with rfl | rfl | rfl | rfl <;> simp [advN, adv, e0, e1, e2, e3]
              have hle4 : ∀ o, o ≤ 4 → advN [c0, c1, c2, c3] o 0 ≤ 4 := by
                intro o ho
                rcases (by omega : o = 0 ∨ o = 1 ∨ o = 2 ∨ o = 3 ∨ o = 4) with rfl | rfl | rfl | rfl | rfl <;> simp [advN, adv, e0, e1, e2, e3]
              have hbs : ∀ o, o ≤ 4 → ([0, 1, 2, 3, 4] : List Int32)[o]? = some (Int32.ofNat (advN [c0, c1, c2, c3] o 0)) := by
                intro o ho
                rcases (by omega : o = 0 ∨ o = 1 ∨ o = 2 ∨ o = 3 ∨ o = 4) with rfl | rfl | rfl | rfl | rfl <;> simp [advN, adv, e0, e1, e2, e3] <;> rfl
              obtain ⟨o1, hr1, er1⟩ := modN p4 5 (by decide) (by decide)
              obtain ⟨r2, hr2, er2⟩ := modN ((p4.toUInt32 >>> (3 &&& 31).toUInt32).toInt32) (5 - o1) (by omega) (by omega)
              obtain ⟨r3, hr3, er3⟩ := modN ((p4.toUInt32 >>> (6 &&& 31).toUInt32).toInt32) (5 - (o1 + r2)) (by omega) (by omega)
              refine g_iload at_192 rfl (pc' := 194) rfl ?_
              refine g_bipush at_194 (v := 7) rfl (pc' := 196) rfl ?_
              refine g_iand at_196 rfl (pc' := 197) rfl ?_
              refine g_iload at_197 rfl (pc' := 199) rfl ?_
              refine g_iconst at_199 (v := 1) rfl (pc' := 200) rfl ?_
              refine g_iadd at_200 (v := 5) rfl (pc' := 201) rfl ?_
              refine g_irem at_201 (by decide) (v := (Int32.ofNat o1)) er1 (pc' := 202) rfl ?_
              refine g_istore at_202 (L' := #[.val (.int p0), .val (.int p1), .val (.int p2), .val (.int p3), .val (.int p4), .val (.ref ca), .val (.int 1), .val (.int 1), .val (.int 1), .val (.ref bs), .val (.int 5), .val (.int 4), .val (.int (Int32.ofNat o1)), .unset, .unset, .unset, .unset, .unset, .unset]) rfl (pc' := 204) rfl ?_
              refine g_iload at_204 rfl (pc' := 206) rfl ?_
              refine g_iload at_206 rfl (pc' := 208) rfl ?_
              refine g_iconst at_208 (v := 3) rfl (pc' := 209) rfl ?_
              refine g_iushr at_209 rfl (pc' := 210) rfl ?_
              refine g_bipush at_210 (v := 7) rfl (pc' := 212) rfl ?_
              refine g_iand at_212 rfl (pc' := 213) rfl ?_
              refine g_iload at_213 rfl (pc' := 215) rfl ?_
              refine g_iconst at_215 (v := 1) rfl (pc' := 216) rfl ?_
              refine g_iadd at_216 (v := 5) rfl (pc' := 217) rfl ?_
              refine g_iload at_217 rfl (pc' := 219) rfl ?_
              refine g_isub at_219 (v := (Int32.ofNat (5 - o1))) (ofNat_sub (a := 5) (by omega) (by omega)) (pc' := 220) rfl ?_
              refine g_irem at_220 (ofNat_ne (by omega) (by omega)) (v := (Int32.ofNat r2)) er2 (pc' := 221) rfl ?_
              refine g_iadd at_221 (v := (Int32.ofNat (o1 + r2))) (ofNat_add (by omega)) (pc' := 222) rfl ?_
              refine g_istore at_222 (L' := #[.val (.int p0), .val (.int p1), .val (.int p2), .val (.int p3), .val (.int p4), .val (.ref ca), .val (.int 1), .val (.int 1), .val (.int 1), .val (.ref bs), .val (.int 5), .val (.int 4), .val (.int (Int32.ofNat o1)), .val (.int (Int32.ofNat (o1 + r2))), .unset, .unset, .unset, .unset, .unset]) rfl (pc' := 224) rfl ?_
              refine g_iload at_224 rfl (pc' := 226) rfl ?_
              refine g_iload at_226 rfl (pc' := 228) rfl ?_
              refine g_bipush at_228 (v := 6) rfl (pc' := 230) rfl ?_
              refine g_iushr at_230 rfl (pc' := 231) rfl ?_
              refine g_bipush at_231 (v := 7) rfl (pc' := 233) rfl ?_
              refine g_iand at_233 rfl (pc' := 234) rfl ?_
              refine g_iload at_234 rfl (pc' := 236) rfl ?_
              refine g_iconst at_236 (v := 1) rfl (pc' := 237) rfl ?_
              refine g_iadd at_237 (v := 5) rfl (pc' := 238) rfl ?_
              refine g_iload at_238 rfl (pc' := 240) rfl ?_
              refine g_isub at_240 (v := (Int32.ofNat (5 - (o1 + r2)))) (ofNat_sub (a := 5) (by omega) (by omega)) (pc' := 241) rfl ?_
              refine g_irem at_241 (ofNat_ne (by omega) (by omega)) (v := (Int32.ofNat r3)) er3 (pc' := 242) rfl ?_
              refine g_iadd at_242 (v := (Int32.ofNat (o1 + r2 + r3))) (ofNat_add (by omega)) (pc' := 243) rfl ?_
              refine g_istore at_243 (L' := #[.val (.int p0), .val (.int p1), .val (.int p2), .val (.int p3), .val (.int p4), .val (.ref ca), .val (.int 1), .val (.int 1), .val (.int 1), .val (.ref bs), .val (.int 5), .val (.int 4), .val (.int (Int32.ofNat o1)), .val (.int (Int32.ofNat (o1 + r2))), .val (.int (Int32.ofNat (o1 + r2 + r3))), .unset, .unset, .unset, .unset]) rfl (pc' := 245) rfl ?_
              refine g_new at_245 (w_13 hw) (w_14 hw) (w_15 hw) (by decide) (by decide) (pc' := 248) rfl ?_
              intro cp h80 g80 Kn80 E_cp D80 sz_cp
              have F_text_cp : Fld Z h80 cp "com/example/passagework/passagework/CodePoints" "text" "Ljava/lang/String;" .null := D80 (Or.inr (w_69 hw)) (ty := (.object "java/lang/String")) (by decide)
              have F_charIndex_cp : Fld Z h80 cp "com/example/passagework/passagework/CodePoints" "charIndex" "I" (.int 0) := D80 (Or.inl (w_76 hw)) (ty := .int) (by decide)
              have F_codePointOffset_cp : Fld Z h80 cp "com/example/passagework/passagework/CodePoints" "codePointOffset" "I" (.int 0) := D80 (Or.inl (w_78 hw)) (ty := .int) (by decide)
              refine g_dup at_248 rfl (pc' := 249) rfl ?_
              refine g_new at_249 (w_16 hw) (w_17 hw) (w_18 hw) (by decide) (by decide) (pc' := 252) rfl ?_
              intro x h81 g81 Kn81 E_x D81 sz_x
              have F_coder_x : Fld Z h81 x "java/lang/String" "coder" "B" (.int 0) := D81 (Or.inr (w_61 hw)) (ty := .byte) (by decide)
              have F_value_x : Fld Z h81 x "java/lang/String" "value" "[B" .null := D81 (Or.inr (w_63 hw)) (ty := (.array .byte)) (by decide)
              refine g_dup at_252 rfl (pc' := 253) rfl ?_
              refine g_aload at_253 rfl rfl (pc' := 255) rfl ?_
              refine g_init (W := 3) (argsL := [(.ref ca)]) (rest := [(.ref x), (.ref cp), (.ref cp)]) at_255 rfl (w_19 hw) (w_20 hw) (by decide) (lenOf pd_19 rfl) (c_ic hw x ca [c0, c1, c2, c3] z _ _ _ hC hz hA hH hL E_x F_value_x F_coder_x ((((((((A_ca_9.keep Kn74 nin0).keep Kw75 (ninS (Nat.ne_of_lt (Nat.lt_of_lt_of_le (A_ca_9).lt (Nat.le_of_eq g74.symm))) nin0)).keep Kw76 (ninS (Nat.ne_of_lt (Nat.lt_of_lt_of_le (A_ca_9).lt (Nat.le_of_eq g74.symm))) nin0)).keep Kw77 (ninS (Nat.ne_of_lt (Nat.lt_of_lt_of_le (A_ca_9).lt (Nat.le_of_eq g74.symm))) nin0)).keep Kw78 (ninS (Nat.ne_of_lt (Nat.lt_of_lt_of_le (A_ca_9).lt (Nat.le_of_eq g74.symm))) nin0)).keep Kw79 (ninS (Nat.ne_of_lt (Nat.lt_of_lt_of_le (A_ca_9).lt (Nat.le_of_eq g74.symm))) nin0)).keep Kn80 nin0).keep Kn81 nin0) hcs (Nat.le_of_ble_eq_true rfl) (Nat.le_of_ble_eq_true rfl)) (w_21 hw) (w_18 hw) (by decide) (by decide) (allS ⟨(Or.inr sz_x), (List.mem_of_getElem? (i := 0) rfl)⟩ all0) rfl (Nat.le_of_eq rfl) rfl (by decide) (by decide) (pc' := 258) rfl ?_
              intro w82 h82 q82 Kc82
              obtain ⟨ts, hts, Ss⟩ := q82
              refine g_init (W := 1) (argsL := [(.ref x)]) (rest := [(.ref cp)]) at_258 rfl (w_64 hw) (w_65 hw) (by decide) (lenOf pd_20 rfl) (c_cpi hw cp x _ _ ((E_cp.keep Kn81).keep Kc82) ((F_text_cp.keep Kn81 nin0).keep Kc82 (ninS (Nat.ne_of_lt (Nat.lt_of_lt_of_le (E_cp).lt (Nat.le_of_eq g81.symm))) nin0)) ((F_charIndex_cp.keep Kn81 nin0).keep Kc82 (ninS (Nat.ne_of_lt (Nat.lt_of_lt_of_le (E_cp).lt (Nat.le_of_eq g81.symm))) nin0)) ((F_codePointOffset_cp.keep Kn81 nin0).keep Kc82 (ninS (Nat.ne_of_lt (Nat.lt_of_lt_of_le (E_cp).lt (Nat.le_of_eq g81.symm))) nin0))) (w_66 hw) (w_15 hw) (by decide) (by decide) (allS ⟨(Or.inr sz_cp), (List.mem_of_getElem? (i := 1) rfl)⟩ all0) rfl (Nat.le_of_eq rfl) rfl (by decide) (by decide) (pc' := 261) rfl ?_
              intro w83 h83 q83 Kc83
              have C0 := q83
              refine g_astore at_261 rfl (L' := #[.val (.int p0), .val (.int p1), .val (.int p2), .val (.int p3), .val (.int p4), .val (.ref ca), .val (.int 1), .val (.int 1), .val (.int 1), .val (.ref bs), .val (.int 5), .val (.int 4), .val (.int (Int32.ofNat o1)), .val (.int (Int32.ofNat (o1 + r2))), .val (.int (Int32.ofNat (o1 + r2 + r3))), .val (.ref cp), .unset, .unset, .unset]) rfl (pc' := 263) rfl ?_
              refine g_aload at_263 rfl rfl (pc' := 265) rfl ?_
              refine g_iload at_265 rfl (pc' := 267) rfl ?_
              refine g_virt (W := 0) (argsL := [(.int (Int32.ofNat o1))]) (rest := []) at_267 (w_70 hw) (w_71 hw) (nf_self (w_73 hw)) (w_73 hw) (w_72 hw) (by decide) (lenOf pd_0 rfl) C0.1 (c_ix hw cp x ts [c0, c1, c2, c3] 0 0 o1 z sf _ hC hz hA hH hL hF rsf C0 (Ss.keep Kc83 (ninS (Ne.symm (Nat.ne_of_lt (Nat.lt_of_lt_of_le (E_cp).lt (Nat.le_of_eq g81.symm)))) nin0) (ninS (Ne.symm (Nat.ne_of_lt (Nat.lt_of_lt_of_le ((E_cp.keep Kn81)).lt hts))) nin0)) (by omega) (by omega) (Nat.zero_le _) (fun j hj => by exact hlt4 j (by omega))) (w_74 hw) (w_15 hw) (by decide) (by decide) (allS ⟨(Or.inr sz_cp), (List.mem_of_getElem? (i := 1) rfl)⟩ all0) rfl (Nat.le_of_eq rfl) rfl (by decide) (by decide) (pc' := 270) rfl ?_
              intro w84 h84 q84 Kc84
              obtain ⟨rfl, C1⟩ := q84
              rw [Nat.sub_zero] at C1
              refine g_istore at_270 (L' := #[.val (.int p0), .val (.int p1), .val (.int p2), .val (.int p3), .val (.int p4), .val (.ref ca), .val (.int 1), .val (.int 1), .val (.int 1), .val (.ref bs), .val (.int 5), .val (.int 4), .val (.int (Int32.ofNat o1)), .val (.int (Int32.ofNat (o1 + r2))), .val (.int (Int32.ofNat (o1 + r2 + r3))), .val (.ref cp), .val (.int (Int32.ofNat (advN [c0, c1, c2, c3] (o1 - 0) 0))), .unset, .unset]) rfl (pc' := 272) rfl ?_
              refine g_aload at_272 rfl rfl (pc' := 274) rfl ?_
              refine g_iload at_274 rfl (pc' := 276) rfl ?_
              refine g_virt (W := 0) (argsL := [(.int (Int32.ofNat (o1 + r2)))]) (rest := []) at_276 (w_70 hw) (w_71 hw) (nf_self (w_73 hw)) (w_73 hw) (w_72 hw) (by decide) (lenOf pd_0 rfl) C1.1 (c_ix hw cp x ts [c0, c1, c2, c3] (advN [c0, c1, c2, c3] o1 0) o1 (o1 + r2) z sf _ hC hz hA hH hL hF rsf C1 ((Ss.keep Kc83 (ninS (Ne.symm (Nat.ne_of_lt (Nat.lt_of_lt_of_le (E_cp).lt (Nat.le_of_eq g81.symm)))) nin0) (ninS (Ne.symm (Nat.ne_of_lt (Nat.lt_of_lt_of_le ((E_cp.keep Kn81)).lt hts))) nin0)).keep Kc84 (ninS (Ne.symm (Nat.ne_of_lt (Nat.lt_of_lt_of_le (E_cp).lt (Nat.le_of_eq g81.symm)))) nin0) (ninS (Ne.symm (Nat.ne_of_lt (Nat.lt_of_lt_of_le ((E_cp.keep Kn81)).lt hts))) nin0)) (by omega) (by omega) (hle4 o1 (by omega)) (fun j hj => by rw [advN_add]; exact hlt4 _ (by omega))) (w_74 hw) (w_15 hw) (by decide) (by decide) (allS ⟨(Or.inr sz_cp), (List.mem_of_getElem? (i := 1) rfl)⟩ all0) rfl (Nat.le_of_eq rfl) rfl (by decide) (by decide) (pc' := 279) rfl ?_
              intro w85 h85 q85 Kc85
              obtain ⟨rfl, C2⟩ := q85
              rw [advN_add, show o1 + (o1 + r2 - o1) = o1 + r2 by omega] at C2
              refine g_istore at_279 (L' := #[.val (.int p0), .val (.int p1), .val (.int p2), .val (.int p3), .val (.int p4), .val (.ref ca), .val (.int 1), .val (.int 1), .val (.int 1), .val (.ref bs), .val (.int 5), .val (.int 4), .val (.int (Int32.ofNat o1)), .val (.int (Int32.ofNat (o1 + r2))), .val (.int (Int32.ofNat (o1 + r2 + r3))), .val (.ref cp), .val (.int (Int32.ofNat (advN [c0, c1, c2, c3] (o1 - 0) 0))), .val (.int (Int32.ofNat (advN [c0, c1, c2, c3] (o1 + r2 - o1) (advN [c0, c1, c2, c3] o1 0)))), .unset]) rfl (pc' := 281) rfl ?_
              refine g_aload at_281 rfl rfl (pc' := 283) rfl ?_
              refine g_iload at_283 rfl (pc' := 285) rfl ?_
              refine g_virt (W := 0) (argsL := [(.int (Int32.ofNat (o1 + r2 + r3)))]) (rest := []) at_285 (w_70 hw) (w_71 hw) (nf_self (w_73 hw)) (w_73 hw) (w_72 hw) (by decide) (lenOf pd_0 rfl) C2.1 (c_ix hw cp x ts [c0, c1, c2, c3] (advN [c0, c1, c2, c3] (o1 + r2) 0) (o1 + r2) (o1 + r2 + r3) z sf _ hC hz hA hH hL hF rsf C2 (((Ss.keep Kc83 (ninS (Ne.symm (Nat.ne_of_lt (Nat.lt_of_lt_of_le (E_cp).lt (Nat.le_of_eq g81.symm)))) nin0) (ninS (Ne.symm (Nat.ne_of_lt (Nat.lt_of_lt_of_le ((E_cp.keep Kn81)).lt hts))) nin0)).keep Kc84 (ninS (Ne.symm (Nat.ne_of_lt (Nat.lt_of_lt_of_le (E_cp).lt (Nat.le_of_eq g81.symm)))) nin0) (ninS (Ne.symm (Nat.ne_of_lt (Nat.lt_of_lt_of_le ((E_cp.keep Kn81)).lt hts))) nin0)).keep Kc85 (ninS (Ne.symm (Nat.ne_of_lt (Nat.lt_of_lt_of_le (E_cp).lt (Nat.le_of_eq g81.symm)))) nin0) (ninS (Ne.symm (Nat.ne_of_lt (Nat.lt_of_lt_of_le ((E_cp.keep Kn81)).lt hts))) nin0)) (by omega) (by omega) (hle4 (o1 + r2) (by omega)) (fun j hj => by rw [advN_add]; exact hlt4 _ (by omega))) (w_74 hw) (w_15 hw) (by decide) (by decide) (allS ⟨(Or.inr sz_cp), (List.mem_of_getElem? (i := 1) rfl)⟩ all0) rfl (Nat.le_of_eq rfl) rfl (by decide) (by decide) (pc' := 288) rfl ?_
              intro w86 h86 q86 Kc86
              obtain ⟨rfl, C3⟩ := q86
              rw [advN_add, show o1 + r2 + (o1 + r2 + r3 - (o1 + r2)) = o1 + r2 + r3 by omega] at C3
              refine g_istore at_288 (L' := #[.val (.int p0), .val (.int p1), .val (.int p2), .val (.int p3), .val (.int p4), .val (.ref ca), .val (.int 1), .val (.int 1), .val (.int 1), .val (.ref bs), .val (.int 5), .val (.int 4), .val (.int (Int32.ofNat o1)), .val (.int (Int32.ofNat (o1 + r2))), .val (.int (Int32.ofNat (o1 + r2 + r3))), .val (.ref cp), .val (.int (Int32.ofNat (advN [c0, c1, c2, c3] (o1 - 0) 0))), .val (.int (Int32.ofNat (advN [c0, c1, c2, c3] (o1 + r2 - o1) (advN [c0, c1, c2, c3] o1 0)))), .val (.int (Int32.ofNat (advN [c0, c1, c2, c3] (o1 + r2 + r3 - (o1 + r2)) (advN [c0, c1, c2, c3] (o1 + r2) 0))))]) rfl (pc' := 290) rfl ?_
              refine g_iload at_290 rfl (pc' := 292) rfl ?_
              refine g_aload at_292 rfl rfl (pc' := 294) rfl ?_
              refine g_iload at_294 rfl (pc' := 296) rfl ?_
              refine g_iaload at_296 (((((((A_bs_79.keep Kn80 nin0).keep Kn81 nin0).keep Kc82 (ninS (Nat.ne_of_lt (Nat.lt_of_lt_of_le ((A_bs_79.keep Kn80 nin0)).lt (Nat.le_of_eq g81.symm))) nin0)).keep Kc83 (ninS (Nat.ne_of_lt (Nat.lt_of_lt_of_le (A_bs_79).lt (Nat.le_of_eq g80.symm))) nin0)).keep Kc84 (ninS (Nat.ne_of_lt (Nat.lt_of_lt_of_le (A_bs_79).lt (Nat.le_of_eq g80.symm))) nin0)).keep Kc85 (ninS (Nat.ne_of_lt (Nat.lt_of_lt_of_le (A_bs_79).lt (Nat.le_of_eq g80.symm))) nin0)).keep Kc86 (ninS (Nat.ne_of_lt (Nat.lt_of_lt_of_le (A_bs_79).lt (Nat.le_of_eq g80.symm))) nin0)) (ofNat_le (a := o1) (Nat.le_refl _) (by omega)).1 (nat32 (by omega)) (hbs o1 (by omega)) (pc' := 297) rfl ?_
              refine g_icmp_ne_f at_297 (by rw [Nat.sub_zero]) (pc' := 300) rfl ?_
              refine g_iload at_300 rfl (pc' := 302) rfl ?_
              refine g_aload at_302 rfl rfl (pc' := 304) rfl ?_
              refine g_iload at_304 rfl (pc' := 306) rfl ?_
              refine g_iaload at_306 (((((((A_bs_79.keep Kn80 nin0).keep Kn81 nin0).keep Kc82 (ninS (Nat.ne_of_lt (Nat.lt_of_lt_of_le ((A_bs_79.keep Kn80 nin0)).lt (Nat.le_of_eq g81.symm))) nin0)).keep Kc83 (ninS (Nat.ne_of_lt (Nat.lt_of_lt_of_le (A_bs_79).lt (Nat.le_of_eq g80.symm))) nin0)).keep Kc84 (ninS (Nat.ne_of_lt (Nat.lt_of_lt_of_le (A_bs_79).lt (Nat.le_of_eq g80.symm))) nin0)).keep Kc85 (ninS (Nat.ne_of_lt (Nat.lt_of_lt_of_le (A_bs_79).lt (Nat.le_of_eq g80.symm))) nin0)).keep Kc86 (ninS (Nat.ne_of_lt (Nat.lt_of_lt_of_le (A_bs_79).lt (Nat.le_of_eq g80.symm))) nin0)) (ofNat_le (a := (o1 + r2)) (Nat.le_refl _) (by omega)).1 (nat32 (by omega)) (hbs (o1 + r2) (by omega)) (pc' := 307) rfl ?_
              refine g_icmp_ne_f at_307 (by rw [advN_add, show o1 + (o1 + r2 - o1) = o1 + r2 by omega]) (pc' := 310) rfl ?_
              refine g_iload at_310 rfl (pc' := 312) rfl ?_
              refine g_aload at_312 rfl rfl (pc' := 314) rfl ?_
              refine g_iload at_314 rfl (pc' := 316) rfl ?_
              refine g_iaload at_316 (((((((A_bs_79.keep Kn80 nin0).keep Kn81 nin0).keep Kc82 (ninS (Nat.ne_of_lt (Nat.lt_of_lt_of_le ((A_bs_79.keep Kn80 nin0)).lt (Nat.le_of_eq g81.symm))) nin0)).keep Kc83 (ninS (Nat.ne_of_lt (Nat.lt_of_lt_of_le (A_bs_79).lt (Nat.le_of_eq g80.symm))) nin0)).keep Kc84 (ninS (Nat.ne_of_lt (Nat.lt_of_lt_of_le (A_bs_79).lt (Nat.le_of_eq g80.symm))) nin0)).keep Kc85 (ninS (Nat.ne_of_lt (Nat.lt_of_lt_of_le (A_bs_79).lt (Nat.le_of_eq g80.symm))) nin0)).keep Kc86 (ninS (Nat.ne_of_lt (Nat.lt_of_lt_of_le (A_bs_79).lt (Nat.le_of_eq g80.symm))) nin0)) (ofNat_le (a := (o1 + r2 + r3)) (Nat.le_refl _) (by omega)).1 (nat32 (by omega)) (hbs (o1 + r2 + r3) (by omega)) (pc' := 317) rfl ?_
              refine g_icmp_ne_f at_317 (by rw [advN_add, show o1 + r2 + (o1 + r2 + r3 - (o1 + r2)) = o1 + r2 + r3 by omega]) (pc' := 320) rfl ?_
              refine g_iconst at_320 (v := 1) rfl (pc' := 321) rfl ?_
              refine g_goto at_321 (pc' := 325) (by decide) rfl ?_
              exact g_ireturnN at_325 rfl (by simp) (z := 1) rfl rfl (by decide) (by decide)
            by_cases q : isHi c2 = true
            ·
              refine g_aload at_91 rfl rfl (pc' := 93) rfl ?_
              refine g_iconst at_93 (v := 2) rfl (pc' := 94) rfl ?_
              refine g_caload at_94 A_ca_9 (by decide) (i := 2) rfl rfl (pc' := 95) rfl ?_
              refine g_static (W := 0) (argsL := [(.int c2)]) (rest := []) at_95 (w_8 hw) (w_9 hw) (by decide) (lenOf pd_16 rfl) (c_ih hw c2 _) (w_10 hw) (w_3 hw) (by decide) (by decide) (fun _ q => nomatch q) rfl (Nat.le_of_eq rfl) rfl (by decide) (by decide) (pc' := 98) rfl ?_
              intro w87 h87 q87 Kc87
              obtain ⟨rfl, rfl⟩ := q87
              refine g_if_eq_f at_98 (by rw [if_pos q]; decide) (pc' := 101) rfl ?_
              refine g_aload at_101 rfl rfl (pc' := 103) rfl ?_
              refine g_iconst at_103 (v := 3) rfl (pc' := 104) rfl ?_
              refine g_caload at_104 A_ca_9 (by decide) (i := 3) rfl rfl (pc' := 105) rfl ?_
              refine g_static (W := 0) (argsL := [(.int c3)]) (rest := []) at_105 (w_136 hw) (w_137 hw) (by decide) (lenOf pd_16 rfl) (c_il hw c3 _) (w_138 hw) (w_3 hw) (by decide) (by decide) (fun _ q => nomatch q) rfl (Nat.le_of_eq rfl) rfl (by decide) (by decide) (pc' := 108) rfl ?_
              intro w88 h88 q88 Kc88
              obtain ⟨rfl, rfl⟩ := q88
              refine g_if_ne_f at_108 (if_neg (fun z => P2 (by rw [q, z]; rfl))) (pc' := 111) rfl ?_
              refine g_iconst at_111 (v := 1) rfl (pc' := 112) rfl ?_
              refine g_goto at_112 (pc' := 116) (by decide) rfl ?_
              exact J
            ·
              refine g_aload at_91 rfl rfl (pc' := 93) rfl ?_
              refine g_iconst at_93 (v := 2) rfl (pc' := 94) rfl ?_
              refine g_caload at_94 A_ca_9 (by decide) (i := 2) rfl rfl (pc' := 95) rfl ?_
              refine g_static (W := 0) (argsL := [(.int c2)]) (rest := []) at_95 (w_8 hw) (w_9 hw) (by decide) (lenOf pd_16 rfl) (c_ih hw c2 _) (w_10 hw) (w_3 hw) (by decide) (by decide) (fun _ q => nomatch q) rfl (Nat.le_of_eq rfl) rfl (by decide) (by decide) (pc' := 98) rfl ?_
              intro w89 h89 q89 Kc89
              obtain ⟨rfl, rfl⟩ := q89
              refine g_if_eq_t at_98 (if_neg q) (pc' := 111) (by decide) rfl ?_
              refine g_iconst at_111 (v := 1) rfl (pc' := 112) rfl ?_
              refine g_goto at_112 (pc' := 116) (by decide) rfl ?_
              exact J
        by_cases q : isHi c1 = true
        ·
          refine g_aload at_64 rfl rfl (pc' := 66) rfl ?_
          refine g_iconst at_66 (v := 1) rfl (pc' := 67) rfl ?_
          refine g_caload at_67 A_ca_9 (by decide) (i := 1) rfl rfl (pc' := 68) rfl ?_
          refine g_static (W := 0) (argsL := [(.int c1)]) (rest := []) at_68 (w_8 hw) (w_9 hw) (by decide) (lenOf pd_16 rfl) (c_ih hw c1 _) (w_10 hw) (w_3 hw) (by decide) (by decide) (fun _ q => nomatch q) rfl (Nat.le_of_eq rfl) rfl (by decide) (by decide) (pc' := 71) rfl ?_
          intro w90 h90 q90 Kc90
          obtain ⟨rfl, rfl⟩ := q90
          refine g_if_eq_f at_71 (by rw [if_pos q]; decide) (pc' := 74) rfl ?_
          refine g_aload at_74 rfl rfl (pc' := 76) rfl ?_
          refine g_iconst at_76 (v := 2) rfl (pc' := 77) rfl ?_
          refine g_caload at_77 A_ca_9 (by decide) (i := 2) rfl rfl (pc' := 78) rfl ?_
          refine g_static (W := 0) (argsL := [(.int c2)]) (rest := []) at_78 (w_136 hw) (w_137 hw) (by decide) (lenOf pd_16 rfl) (c_il hw c2 _) (w_138 hw) (w_3 hw) (by decide) (by decide) (fun _ q => nomatch q) rfl (Nat.le_of_eq rfl) rfl (by decide) (by decide) (pc' := 81) rfl ?_
          intro w91 h91 q91 Kc91
          obtain ⟨rfl, rfl⟩ := q91
          refine g_if_ne_f at_81 (if_neg (fun z => P1 (by rw [q, z]; rfl))) (pc' := 84) rfl ?_
          refine g_iconst at_84 (v := 1) rfl (pc' := 85) rfl ?_
          refine g_goto at_85 (pc' := 89) (by decide) rfl ?_
          exact J
        ·
          refine g_aload at_64 rfl rfl (pc' := 66) rfl ?_
          refine g_iconst at_66 (v := 1) rfl (pc' := 67) rfl ?_
          refine g_caload at_67 A_ca_9 (by decide) (i := 1) rfl rfl (pc' := 68) rfl ?_
          refine g_static (W := 0) (argsL := [(.int c1)]) (rest := []) at_68 (w_8 hw) (w_9 hw) (by decide) (lenOf pd_16 rfl) (c_ih hw c1 _) (w_10 hw) (w_3 hw) (by decide) (by decide) (fun _ q => nomatch q) rfl (Nat.le_of_eq rfl) rfl (by decide) (by decide) (pc' := 71) rfl ?_
          intro w92 h92 q92 Kc92
          obtain ⟨rfl, rfl⟩ := q92
          refine g_if_eq_t at_71 (if_neg q) (pc' := 84) (by decide) rfl ?_
          refine g_iconst at_84 (v := 1) rfl (pc' := 85) rfl ?_
          refine g_goto at_85 (pc' := 89) (by decide) rfl ?_
          exact J
    by_cases q : isHi c0 = true
    ·
      refine g_aload at_37 rfl rfl (pc' := 39) rfl ?_
      refine g_iconst at_39 (v := 0) rfl (pc' := 40) rfl ?_
      refine g_caload at_40 A_ca_9 (by decide) (i := 0) rfl rfl (pc' := 41) rfl ?_
      refine g_static (W := 0) (argsL := [(.int c0)]) (rest := []) at_41 (w_8 hw) (w_9 hw) (by decide) (lenOf pd_16 rfl) (c_ih hw c0 _) (w_10 hw) (w_3 hw) (by decide) (by decide) (fun _ q => nomatch q) rfl (Nat.le_of_eq rfl) rfl (by decide) (by decide) (pc' := 44) rfl ?_
      intro w93 h93 q93 Kc93
      obtain ⟨rfl, rfl⟩ := q93
      refine g_if_eq_f at_44 (by rw [if_pos q]; decide) (pc' := 47) rfl ?_
      refine g_aload at_47 rfl rfl (pc' := 49) rfl ?_
      refine g_iconst at_49 (v := 1) rfl (pc' := 50) rfl ?_
      refine g_caload at_50 A_ca_9 (by decide) (i := 1) rfl rfl (pc' := 51) rfl ?_
      refine g_static (W := 0) (argsL := [(.int c1)]) (rest := []) at_51 (w_136 hw) (w_137 hw) (by decide) (lenOf pd_16 rfl) (c_il hw c1 _) (w_138 hw) (w_3 hw) (by decide) (by decide) (fun _ q => nomatch q) rfl (Nat.le_of_eq rfl) rfl (by decide) (by decide) (pc' := 54) rfl ?_
      intro w94 h94 q94 Kc94
      obtain ⟨rfl, rfl⟩ := q94
      refine g_if_ne_f at_54 (if_neg (fun z => P0 (by rw [q, z]; rfl))) (pc' := 57) rfl ?_
      refine g_iconst at_57 (v := 1) rfl (pc' := 58) rfl ?_
      refine g_goto at_58 (pc' := 62) (by decide) rfl ?_
      exact J
    ·
      refine g_aload at_37 rfl rfl (pc' := 39) rfl ?_
      refine g_iconst at_39 (v := 0) rfl (pc' := 40) rfl ?_
      refine g_caload at_40 A_ca_9 (by decide) (i := 0) rfl rfl (pc' := 41) rfl ?_
      refine g_static (W := 0) (argsL := [(.int c0)]) (rest := []) at_41 (w_8 hw) (w_9 hw) (by decide) (lenOf pd_16 rfl) (c_ih hw c0 _) (w_10 hw) (w_3 hw) (by decide) (by decide) (fun _ q => nomatch q) rfl (Nat.le_of_eq rfl) rfl (by decide) (by decide) (pc' := 44) rfl ?_
      intro w95 h95 q95 Kc95
      obtain ⟨rfl, rfl⟩ := q95
      refine g_if_eq_t at_44 (if_neg q) (pc' := 57) (by decide) rfl ?_
      refine g_iconst at_57 (v := 1) rfl (pc' := 58) rfl ?_
      refine g_goto at_58 (pc' := 62) (by decide) rfl ?_
      exact J
set_option maxRecDepth 65536 in
set_option maxHeartbeats 40000000 in
theorem comes_1 {Post : Tables → Env → Array Value → State → Outcome → State → Prop} (hpost : ∀ tb e args s v u, (limb_1_1.after args s (.returned v) u = true ∧ limb_1_2.after args s (.returned v) u = true ∧ True) → FrameEnd s (.returned v) u (Jvm.fieldLocs frame_1_writes args s ++ Jvm.arrayLocs frame_1_arrays args s ++ Jvm.staticLocs frame_1_statics s) 24 128 → Post tb e args s (.returned v) u) :
    ArmFor flags0 classFile x code maxLocals ret World_1 tables_1 room_1 Calls_1 rest_1 Pre_1 Post := by
  intro l hfl _ _ p e ha hc hk s m args below hf hArg hHeap happ hP
  obtain ⟨hcalls, hrest, hpre⟩ := hP
  obtain ⟨-, -, -, hnamed, -, -, -, hat⟩ := (Spec.applies_iff hf).mp happ
  obtain ⟨hg, hn⟩ := and_e (Cond.before_iff.mp (show (Jvm.Cond.and given_1 narrow_1).before args s = true from hpre))
  obtain ⟨g1, g2⟩ := and_e hg
  obtain ⟨g3, g4⟩ := and_e g2
  obtain ⟨g5, g6⟩ := and_e g4
  obtain ⟨g7, g8⟩ := and_e g6
  obtain ⟨g9, g10⟩ := and_e g8
  obtain ⟨w0, w1, w2, w3, w4, rfl⟩ : ∃ w0 w1 w2 w3 w4 : Value, args = #[w0, w1, w2, w3, w4] := by
    have hs : args.size = 5 := by simpa [Cond.value, given_1] using g1
    obtain ⟨L⟩ := args
    match L, hs with
    | [w0, w1, w2, w3, w4], _ => exact ⟨w0, w1, w2, w3, w4, rfl⟩
  have hw : Hw #[w0, w1, w2, w3, w4] s := fun d (hd : d ∈ tables_1) => atoms_spec (ws := Jvm.Cond.code x code maxLocals ret :: tables_1) hat d (List.mem_cons_of_mem _ hd)
  have hfit : Fit s := fun {y c} hc i hi => by
    obtain ⟨ha, rfl⟩ := Array.getElem?_eq_some_iff.mp hc
    have q := List.all_eq_true.mp ((Array.all_eq_true_iff_forall_mem.mp hHeap) _ (Array.getElem_mem ha)) i (List.mem_range.mpr hi)
    simpa [Array.getElem?_eq_getElem hi] using q
  obtain ⟨hsets, hown0⟩ := atoms_of _ (rest_1_c_eq ▸ (show rest_1_c.before _ s = true from hrest))
  have hr0 := Cond.before_iff.mp hown0
  obtain ⟨zz, e_zz⟩ := is_v (Cond.before_iff.mp (hsets _ (List.mem_of_getElem? (i := 1) rfl)))
  have hC : Sta s s.heap "java/lang/String" "COMPACT_STRINGS" "Z" (.int zz) := Sta.start e_zz (Or.inl (hsets _ (List.mem_of_getElem? (i := 0) rfl)))
  have hz : ¬ zz = 0 := gotF (Cond.eq_ints e_zz (Term.int_eval (0))) (not_v (Cond.before_iff.mp (hsets _ (List.mem_of_getElem? (i := 2) rfl))))
  obtain ⟨sf, e_sf, rsf⟩ := isR_v (Cond.before_iff.mp (hsets _ (List.mem_of_getElem? (i := 8) rfl)))
  have hSF : Sta s s.heap "jdk/internal/util/Preconditions" "SIOOBE_FORMATTER" "Ljava/util/function/BiFunction;" sf := Sta.start e_sf (Or.inl (hsets _ (List.mem_of_getElem? (i := 7) rfl)))
  have hA : Sta s s.heap "java/lang/StringUTF16" "$assertionsDisabled" "Z" (.int 1) := sta_eq (hsets _ (List.mem_of_getElem? (i := 12) rfl)) (hsets _ (List.mem_of_getElem? (i := 11) rfl))
  have hH : Sta s s.heap "java/lang/StringUTF16" "HI_BYTE_SHIFT" "I" (.int 0) := sta_eq (hsets _ (List.mem_of_getElem? (i := 15) rfl)) (hsets _ (List.mem_of_getElem? (i := 14) rfl))
  have hL : Sta s s.heap "java/lang/StringUTF16" "LO_BYTE_SHIFT" "I" (.int 8) := sta_eq (hsets _ (List.mem_of_getElem? (i := 18) rfl)) (hsets _ (List.mem_of_getElem? (i := 17) rfl))
  obtain ⟨i0, ei0⟩ := is_v g3
  obtain rfl : w0 = (.int i0) := Option.some.inj ei0
  obtain ⟨i1, ei1⟩ := is_v g5
  obtain rfl : w1 = (.int i1) := Option.some.inj ei1
  obtain ⟨i2, ei2⟩ := is_v g7
  obtain rfl : w2 = (.int i2) := Option.some.inj ei2
  obtain ⟨i3, ei3⟩ := is_v g9
  obtain rfl : w3 = (.int i3) := Option.some.inj ei3
  obtain ⟨i4, ei4⟩ := is_v g10
  obtain rfl : w4 = (.int i4) := Option.some.inj ei4
  have C := c_law (l := l) (n0 := s.heap.size) hw i0 i1 i2 i3 i4 zz sf s.heap hC hz hA hH hL hSF rsf
  obtain ⟨n, o, h1, h2, h3, v, L, rfl, ⟨⟨w, rfl, rfl, -⟩, N⟩, hq⟩ := C (Old.start s) (fun _ q => nomatch q) p e ha hc hk s m _ below hf ((Spec.applies_iff_loose hf).mp happ).1 ⟨rfl, State.Warmed39.refl s, rfl⟩ trivial
  refine ⟨n, _, h1, h2, h3, hpost _ _ _ _ (some (.int 1)) _ ⟨Cond.after_iff.mpr rfl, Cond.after_iff.mpr (eq_i res_at (Term.int_eval (1)) rfl), trivial⟩ ⟨hq.1, hq.2.1, (hq.2.2.sift fun y hy => Or.inr ((N y hy).elim (fun q => nomatch q) id)).mono (by decide) (by decide)⟩⟩
theorem main_1_1 : Claimed_1_1 := comes_1 fun _ _ _ _ _ _ h hF => ⟨h.1, hF⟩
theorem main_1_2 : Claimed_1_2 := comes_1 fun _ _ _ _ _ _ h hF => ⟨h.2.1, hF⟩
end Jvm.Pilot.@@N@@
namespace Jvm.Pilot.@@N@@
open Jvm Jvm.ClassFile Sem Op Lib Jvm.Free Jvm.Stand Jvm.Pilot.@@N@@.Jvm.D
/-! MADE BY PROGRAM (witnessworld.py) out of the Statement's table words and the real class files: 21 classes; the members and pool entries that the words name. The judged class is class 1, her method 4. -/
namespace start1
open Jvm.ClassFile
def u (s : String) : CpInfo := .utf8 (stringToUtf16 s)
/-- a pool by its gaps: so many unusable entries, then the entry; so many at the end -/
def gap : Nat → List CpInfo → List CpInfo
  | 0, r => r
  | n + 1, r => .unusable :: gap n r
def poolList (es : List (Nat × CpInfo)) (last : Nat) : List CpInfo := es.foldr (fun e r => gap e.1 (e.2 :: r)) (gap last [])
def pool (es : List (Nat × CpInfo)) (last : Nat) : Array CpInfo := ⟨poolList es last⟩
def fileOf (pool : Array CpInfo) (this : Nat) (attrs : Array Attribute := #[]) (ms : Array MethodInfo := #[]) (fl : Nat := 33) (sup : Nat := 0) (ifs : Array Nat := #[]) (fds : Array FieldInfo := #[]) : ClassFile where
  minorVersion := 0
  majorVersion := 65
  constantPool := pool
  accessFlags := fl
  thisClass := this
  superClass := sup
  interfaces := ifs
  fields := fds
  methods := ms
  attributes := attrs
def plain (name : String) (sup : Option ClassId) : Class where
  name := name
  kind := .ordinary
  loader := none
  accessFlags := 33
  super := sup
  interfaces := #[]
  cf := none
  fields := #[]
  methods := #[]
  instanceTypes := #[]
  staticTypes := #[]
  resolved := #[]
  callSites := []
  init := .initialized
  statics := none
  mirror := none

def pool0 : Array CpInfo := pool [(5, u "<init>"), (0, u "()V"), (1, .class_ 10), (1, u "java/lang/Object")] 113

def k0c0 : Code := { maxStack := 0, maxLocals := 1, code := object_method_1_code, exceptionTable := #[], attributes := #[] }
def k0m0 : Method := { name := "<init>", desc := "()V", sig := { parameters := [], returnType := none }, accessFlags := 1, code := some k0c0 }
/-- java/lang/Object -/
def k0 : Class := { plain "java/lang/Object" none with
  accessFlags := 33
  interfaces := #[]
  cf := some (fileOf pool0 8 #[] #[{ accessFlags := 1, nameIndex := 5, descriptorIndex := 6, attributes := #[] }] 33 0 #[] #[])
  fields := #[]
  methods := #[k0m0]
  instanceTypes := #[]
  staticTypes := #[]
  resolved := Array.replicate 124 none
  statics := none }

def pool1 : Array CpInfo := pool [(2, .class_ 4), (1, u "java/lang/Object"), (0, u "<init>"), (0, u "()V"), (0, .integer 65535), (0, .integer 55296), (0, .integer 56320), (0, .integer 56319), (0, .integer 57343), (0, .methodref 13 14), (0, .class_ 15), (0, .nameAndType 16 17), (0, u "com/example/passagework/passagework/CodePointsIndexOfPinLaw"), (0, u "ch"), (0, u "(I)C"), (0, .methodref 13 19), (0, .nameAndType 20 21), (0, u "isHigh"), (0, u "(C)Z"), (0, .methodref 13 23), (0, .nameAndType 24 21), (0, u "isLow"), (0, .class_ 26), (0, u "com/example/passagework/passagework/CodePoints"), (0, .class_ 28), (0, u "java/lang/String"), (0, .methodref 27 30), (0, .nameAndType 5 31), (0, u "([C)V"), (0, .methodref 25 33), (0, .nameAndType 5 34), (0, u "(Ljava/lang/String;)V"), (0, .methodref 25 36), (0, .nameAndType 37 38), (0, u "indexOf"), (0, u "(I)I"), (3, u "law"), (0, u "(IIIII)Z")] 6

def k1m0 : Method := { name := "<init>", desc := "()V", sig := { parameters := [], returnType := none }, accessFlags := 1, code := none }
def k1c1 : Code := { maxStack := 3, maxLocals := 3, code := method_2_code, exceptionTable := #[], attributes := #[] }
def k1m1 : Method := { name := "ch", desc := "(I)C", sig := { parameters := [.int], returnType := some .char }, accessFlags := 10, code := some k1c1 }
def k1c2 : Code := { maxStack := 2, maxLocals := 1, code := method_3_code, exceptionTable := #[], attributes := #[] }
def k1m2 : Method := { name := "isHigh", desc := "(C)Z", sig := { parameters := [.char], returnType := some .boolean }, accessFlags := 10, code := some k1c2 }
def k1c3 : Code := { maxStack := 2, maxLocals := 1, code := method_4_code, exceptionTable := #[], attributes := #[] }
def k1m3 : Method := { name := "isLow", desc := "(C)Z", sig := { parameters := [.char], returnType := some .boolean }, accessFlags := 10, code := some k1c3 }
def k1c4 : Code := { maxStack := 5, maxLocals := 19, code := code, exceptionTable := #[], attributes := #[] }
def k1m4 : Method := { name := "law", desc := "(IIIII)Z", sig := { parameters := [.int, .int, .int, .int, .int], returnType := some .boolean }, accessFlags := 9, code := some k1c4 }
/-- com/example/passagework/passagework/CodePointsIndexOfPinLaw -/
def k1 : Class := { plain "com/example/passagework/passagework/CodePointsIndexOfPinLaw" (some 0) with
  accessFlags := 49
  interfaces := #[]
  cf := some (fileOf pool1 13 #[] #[{ accessFlags := 1, nameIndex := 5, descriptorIndex := 6, attributes := #[] }, { accessFlags := 10, nameIndex := 16, descriptorIndex := 17, attributes := #[] }, { accessFlags := 10, nameIndex := 20, descriptorIndex := 21, attributes := #[] }, { accessFlags := 10, nameIndex := 24, descriptorIndex := 21, attributes := #[] }, { accessFlags := 9, nameIndex := 42, descriptorIndex := 43, attributes := #[] }] 49 2 #[] #[])
  fields := #[]
  methods := #[k1m0, k1m1, k1m2, k1m3, k1m4]
  instanceTypes := #[]
  staticTypes := #[]
  resolved := Array.replicate 50 none
  statics := none }

def pool2 : Array CpInfo := pool [(1, .methodref 2 3), (0, .class_ 4), (0, .nameAndType 5 6), (0, u "java/lang/Object"), (0, u "<init>"), (0, u "()V"), (0, .fieldref 8 9), (0, .class_ 10), (0, .nameAndType 11 12), (0, u "com/example/passagework/passagework/CodePoints"), (0, u "text"), (0, u "Ljava/lang/String;"), (0, .fieldref 8 14), (0, .nameAndType 15 16), (0, u "codePointOffset"), (0, u "I"), (0, .fieldref 8 18), (0, .nameAndType 19 16), (0, u "charIndex"), (1, .class_ 23), (1, u "java/lang/String"), (1, u "(II)I"), (7, u "(I)I"), (18, u "(Ljava/lang/String;)V"), (2, u "indexOf"), (4, .methodref 21 61), (0, .nameAndType 62 25), (0, u "offsetByCodePoints")] 35

def k2c0 : Code := { maxStack := 2, maxLocals := 2, code := prog_5_method_1_code, exceptionTable := #[], attributes := #[] }
def k2m0 : Method := { name := "<init>", desc := "(Ljava/lang/String;)V", sig := { parameters := [(.object "java/lang/String")], returnType := none }, accessFlags := 0, code := some k2c0 }
def k2c1 : Code := { maxStack := 5, maxLocals := 2, code := prog_5_method_5_code, exceptionTable := #[], attributes := #[] }
def k2m1 : Method := { name := "indexOf", desc := "(I)I", sig := { parameters := [.int], returnType := some .int }, accessFlags := 0, code := some k2c1 }
/-- com/example/passagework/passagework/CodePoints -/
def k2 : Class := { plain "com/example/passagework/passagework/CodePoints" (some 0) with
  accessFlags := 48
  interfaces := #[]
  cf := some (fileOf pool2 8 #[] #[{ accessFlags := 0, nameIndex := 5, descriptorIndex := 52, attributes := #[] }, { accessFlags := 0, nameIndex := 55, descriptorIndex := 33, attributes := #[] }] 48 2 #[] #[{ accessFlags := 18, nameIndex := 11, descriptorIndex := 12, attributes := #[] }, { accessFlags := 2, nameIndex := 19, descriptorIndex := 16, attributes := #[] }, { accessFlags := 2, nameIndex := 15, descriptorIndex := 16, attributes := #[] }])
  fields := #[{ name := "text", type := (.object "java/lang/String"), accessFlags := 18, slot := 0, constantValue := 0 }, { name := "charIndex", type := .int, accessFlags := 2, slot := 1, constantValue := 0 }, { name := "codePointOffset", type := .int, accessFlags := 2, slot := 2, constantValue := 0 }]
  methods := #[k2m0, k2m1]
  instanceTypes := #[(.object "java/lang/String"), .int, .int]
  staticTypes := #[]
  resolved := Array.replicate 98 none
  statics := none }

def pool3 : Array CpInfo := pool [(1, .class_ 2), (0, u "java/io/Serializable"), (0, .class_ 4), (0, u "java/lang/Object")] 2

/-- java/io/Serializable -/
def k3 : Class := { plain "java/io/Serializable" (some 0) with
  accessFlags := 1537
  interfaces := #[]
  cf := some (fileOf pool3 1 #[] #[] 1537 3 #[] #[])
  fields := #[]
  methods := #[]
  instanceTypes := #[]
  staticTypes := #[]
  resolved := Array.replicate 7 none
  statics := none }

def pool4 : Array CpInfo := pool [(1, .class_ 2), (0, u "java/lang/Comparable"), (0, .class_ 4), (0, u "java/lang/Object")] 7

/-- java/lang/Comparable -/
def k4 : Class := { plain "java/lang/Comparable" (some 0) with
  accessFlags := 1537
  interfaces := #[]
  cf := some (fileOf pool4 1 #[] #[] 1537 3 #[] #[])
  fields := #[]
  methods := #[]
  instanceTypes := #[]
  staticTypes := #[]
  resolved := Array.replicate 12 none
  statics := none }

def pool5 : Array CpInfo := pool [(2, .class_ 4), (1, u "java/lang/CharSequence"), (0, u "length"), (0, u "()I"), (38, u "charAt"), (0, u "(I)C"), (0, .class_ 48), (0, u "java/lang/CharSequence$1CodePointIterator"), (10, .class_ 60), (0, u "java/lang/CharSequence$1CharIterator"), (5, .class_ 67), (0, u "java/lang/Object")] 63

def k5m0 : Method := { name := "length", desc := "()I", sig := { parameters := [], returnType := some .int }, accessFlags := 1025, code := none }
def k5m1 : Method := { name := "charAt", desc := "(I)C", sig := { parameters := [.int], returnType := some .char }, accessFlags := 1025, code := none }
/-- java/lang/CharSequence -/
def k5 : Class := { plain "java/lang/CharSequence" (some 0) with
  accessFlags := 1537
  interfaces := #[]
  cf := some (fileOf pool5 2 #[.nestMembers #[47, 59]] #[{ accessFlags := 1025, nameIndex := 5, descriptorIndex := 6, attributes := #[] }, { accessFlags := 1025, nameIndex := 45, descriptorIndex := 46, attributes := #[] }] 1537 66 #[] #[])
  fields := #[]
  methods := #[k5m0, k5m1]
  instanceTypes := #[]
  staticTypes := #[]
  resolved := Array.replicate 131 none
  statics := none }

def pool6 : Array CpInfo := pool [(1, .class_ 2), (0, u "java/lang/constant/Constable"), (0, .class_ 4), (0, u "java/lang/Object")] 6

/-- java/lang/constant/Constable -/
def k6 : Class := { plain "java/lang/constant/Constable" (some 0) with
  accessFlags := 1537
  interfaces := #[]
  cf := some (fileOf pool6 1 #[] #[] 1537 3 #[] #[])
  fields := #[]
  methods := #[]
  instanceTypes := #[]
  staticTypes := #[]
  resolved := Array.replicate 11 none
  statics := none }

def pool7 : Array CpInfo := pool [(1, .class_ 2), (0, u "java/lang/constant/ConstantDesc"), (0, .class_ 4), (0, u "java/lang/Object")] 32

/-- java/lang/constant/ConstantDesc -/
def k7 : Class := { plain "java/lang/constant/ConstantDesc" (some 0) with
  accessFlags := 1537
  interfaces := #[]
  cf := some (fileOf pool7 1 #[] #[] 1537 3 #[] #[])
  fields := #[]
  methods := #[]
  instanceTypes := #[]
  staticTypes := #[]
  resolved := Array.replicate 37 none
  statics := none }

def pool8 : Array CpInfo := pool [(1, .methodref 2 3), (0, .class_ 4), (0, .nameAndType 5 6), (0, u "java/lang/Object"), (0, u "<init>"), (0, u "()V"), (2, .fieldref 10 11), (0, .class_ 12), (0, .nameAndType 13 14), (0, u "java/lang/String"), (0, u "value"), (0, u "[B"), (0, .fieldref 10 16), (0, .nameAndType 17 18), (0, u "coder"), (0, u "B"), (2, u "hash"), (0, u "I"), (2, u "hashIsZero"), (0, u "Z"), (0, .methodref 10 28), (0, .nameAndType 5 29), (0, u "([CIILjava/lang/Void;)V"), (8, .fieldref 10 39), (0, .nameAndType 40 26), (0, u "COMPACT_STRINGS"), (1, .class_ 44), (1, u "java/lang/StringUTF16"), (0, u "compress"), (1, .methodref 42 48), (0, .nameAndType 49 50), (0, u "coderFromArrayLen"), (0, u "([BI)B"), (56, .class_ 109), (1, u "java/lang/StringLatin1"), (32, u "()Z"), (34, .methodref 42 178), (0, .nameAndType 45 179), (0, u "([CII)[B"), (154, u "()I"), (0, .methodref 10 336), (0, .nameAndType 17 337), (0, u "()B"), (25, u "([BI)C"), (1, .class_ 367), (1, u "java/lang/Character"), (23, u "(II)V"), (35, u "(I)C"), (64, .methodref 10 493), (0, .nameAndType 494 142), (0, u "isLatin1"), (0, .methodref 107 496), (0, .nameAndType 497 363), (0, u "charAt"), (0, .methodref 42 496), (2, u "checkIndex"), (5, u "length"), (9, .methodref 365 518), (0, .nameAndType 519 520), (0, u "offsetByCodePoints"), (0, u "(Ljava/lang/CharSequence;II)I"), (54, .class_ 576), (0, u "java/lang/CharSequence"), (22, u "CASE_INSENSITIVE_ORDER"), (0, u "Ljava/util/Comparator;"), (35, u "(II)I"), (373, u "([C)V"), (42, .fieldref 1054 1055), (0, .class_ 1056), (0, .nameAndType 1057 1058), (0, u "jdk/internal/util/Preconditions"), (0, u "SIOOBE_FORMATTER"), (0, u "Ljava/util/function/BiFunction;"), (0, .methodref 1054 1060), (0, .nameAndType 501 1061), (0, u "(IILjava/util/function/BiFunction;)I"), (39, u "serialPersistentFields"), (0, u "[Ljava/io/ObjectStreamField;"), (0, .class_ 1104), (0, u "java/lang/String$CaseInsensitiveComparator"), (1, .class_ 1107), (0, u "java/io/Serializable"), (0, .class_ 1109), (0, u "java/lang/Comparable"), (0, .class_ 1111), (0, u "java/lang/constant/Constable"), (0, .class_ 1113), (0, u "java/lang/constant/ConstantDesc"), (2, u "serialVersionUID"), (0, u "J"), (3, u "REPL"), (0, u "C"), (2, u "LATIN1"), (1, u "UTF16")] 323

def k8m0 : Method := { name := "<init>", desc := "()V", sig := { parameters := [], returnType := none }, accessFlags := 1, code := none }
def k8c1 : Code := { maxStack := 5, maxLocals := 2, code := jdk_42_method_3_code, exceptionTable := #[], attributes := #[] }
def k8m1 : Method := { name := "<init>", desc := "([C)V", sig := { parameters := [(.array .char)], returnType := none }, accessFlags := 1, code := some k8c1 }
def k8c2 : Code := { maxStack := 2, maxLocals := 1, code := jdk_42_method_54_code, exceptionTable := #[], attributes := #[] }
def k8m2 : Method := { name := "length", desc := "()I", sig := { parameters := [], returnType := some .int }, accessFlags := 1, code := some k8c2 }
def k8c3 : Code := { maxStack := 2, maxLocals := 2, code := jdk_42_method_56_code, exceptionTable := #[], attributes := #[] }
def k8m3 : Method := { name := "charAt", desc := "(I)C", sig := { parameters := [.int], returnType := some .char }, accessFlags := 1, code := some k8c3 }
def k8c4 : Code := { maxStack := 3, maxLocals := 3, code := jdk_42_method_60_code, exceptionTable := #[], attributes := #[] }
def k8m4 : Method := { name := "offsetByCodePoints", desc := "(II)I", sig := { parameters := [.int, .int], returnType := some .int }, accessFlags := 1, code := some k8c4 }
def k8c5 : Code := { maxStack := 4, maxLocals := 6, code := jdk_42_method_149_code, exceptionTable := #[], attributes := #[] }
def k8m5 : Method := { name := "<init>", desc := "([CIILjava/lang/Void;)V", sig := { parameters := [(.array .char), .int, .int, (.object "java/lang/Void")], returnType := none }, accessFlags := 2, code := some k8c5 }
def k8c6 : Code := { maxStack := 1, maxLocals := 1, code := jdk_42_method_152_code, exceptionTable := #[], attributes := #[] }
def k8m6 : Method := { name := "coder", desc := "()B", sig := { parameters := [], returnType := some .byte }, accessFlags := 0, code := some k8c6 }
def k8c7 : Code := { maxStack := 1, maxLocals := 1, code := jdk_42_method_154_code, exceptionTable := #[], attributes := #[] }
def k8m7 : Method := { name := "isLatin1", desc := "()Z", sig := { parameters := [], returnType := some .boolean }, accessFlags := 0, code := some k8c7 }
def k8c8 : Code := { maxStack := 3, maxLocals := 2, code := jdk_42_method_155_code, exceptionTable := #[], attributes := #[] }
def k8m8 : Method := { name := "checkIndex", desc := "(II)V", sig := { parameters := [.int, .int], returnType := none }, accessFlags := 8, code := some k8c8 }
/-- java/lang/String -/
def k8 : Class := { plain "java/lang/String" (some 0) with
  accessFlags := 49
  interfaces := #[3, 4, 5, 6, 7]
  cf := some (fileOf pool8 10 #[.nestMembers #[1103]] #[{ accessFlags := 1, nameIndex := 5, descriptorIndex := 6, attributes := #[] }, { accessFlags := 1, nameIndex := 5, descriptorIndex := 1010, attributes := #[] }, { accessFlags := 1, nameIndex := 507, descriptorIndex := 334, attributes := #[] }, { accessFlags := 1, nameIndex := 497, descriptorIndex := 427, attributes := #[] }, { accessFlags := 1, nameIndex := 519, descriptorIndex := 636, attributes := #[] }, { accessFlags := 2, nameIndex := 5, descriptorIndex := 29, attributes := #[] }, { accessFlags := 0, nameIndex := 17, descriptorIndex := 337, attributes := #[] }, { accessFlags := 0, nameIndex := 494, descriptorIndex := 142, attributes := #[] }, { accessFlags := 8, nameIndex := 501, descriptorIndex := 391, attributes := #[] }] 49 2 #[1106, 1108, 575, 1110, 1112] #[{ accessFlags := 18, nameIndex := 13, descriptorIndex := 14, attributes := #[] }, { accessFlags := 18, nameIndex := 17, descriptorIndex := 18, attributes := #[] }, { accessFlags := 2, nameIndex := 21, descriptorIndex := 22, attributes := #[] }, { accessFlags := 2, nameIndex := 25, descriptorIndex := 26, attributes := #[] }, { accessFlags := 26, nameIndex := 1116, descriptorIndex := 1117, attributes := #[] }, { accessFlags := 24, nameIndex := 40, descriptorIndex := 26, attributes := #[] }, { accessFlags := 26, nameIndex := 1101, descriptorIndex := 1102, attributes := #[] }, { accessFlags := 26, nameIndex := 1121, descriptorIndex := 1122, attributes := #[] }, { accessFlags := 25, nameIndex := 599, descriptorIndex := 600, attributes := #[] }, { accessFlags := 24, nameIndex := 1125, descriptorIndex := 18, attributes := #[] }, { accessFlags := 24, nameIndex := 1127, descriptorIndex := 18, attributes := #[] }])
  fields := #[{ name := "value", type := (.array .byte), accessFlags := 18, slot := 0, constantValue := 0 }, { name := "coder", type := .byte, accessFlags := 18, slot := 1, constantValue := 0 }, { name := "hash", type := .int, accessFlags := 2, slot := 2, constantValue := 0 }, { name := "hashIsZero", type := .boolean, accessFlags := 2, slot := 3, constantValue := 0 }, { name := "serialVersionUID", type := .long, accessFlags := 26, slot := 0, constantValue := 0 }, { name := "COMPACT_STRINGS", type := .boolean, accessFlags := 24, slot := 1, constantValue := 0 }, { name := "serialPersistentFields", type := (.array (.object "java/io/ObjectStreamField")), accessFlags := 26, slot := 2, constantValue := 0 }, { name := "REPL", type := .char, accessFlags := 26, slot := 3, constantValue := 0 }, { name := "CASE_INSENSITIVE_ORDER", type := (.object "java/util/Comparator"), accessFlags := 25, slot := 4, constantValue := 0 }, { name := "LATIN1", type := .byte, accessFlags := 24, slot := 5, constantValue := 0 }, { name := "UTF16", type := .byte, accessFlags := 24, slot := 6, constantValue := 0 }]
  methods := #[k8m0, k8m1, k8m2, k8m3, k8m4, k8m5, k8m6, k8m7, k8m8]
  instanceTypes := #[(.array .byte), .byte, .int, .boolean]
  staticTypes := #[.long, .boolean, (.array (.object "java/io/ObjectStreamField")), .char, (.object "java/util/Comparator"), .byte, .byte]
  resolved := Array.replicate 1451 none
  statics := some 0 }

def pool9 : Array CpInfo := pool [(3, .class_ 4), (0, u "java/lang/String"), (1, .class_ 8), (1, u "java/lang/Object"), (0, u "<init>"), (0, u "()V"), (0, .methodref 12 13), (0, .class_ 14), (0, .nameAndType 15 16), (0, u "java/lang/StringUTF16"), (0, u "newBytesLength"), (0, u "(I)I"), (3, .integer 1073741823), (23, .fieldref 12 45), (0, .nameAndType 46 47), (0, u "$assertionsDisabled"), (0, u "Z"), (0, .methodref 12 49), (0, .nameAndType 50 51), (0, u "length"), (0, u "([B)I"), (7, .fieldref 12 60), (0, .nameAndType 61 62), (0, u "HI_BYTE_SHIFT"), (0, u "I"), (0, .fieldref 12 64), (0, .nameAndType 65 62), (0, u "LO_BYTE_SHIFT"), (1, .methodref 12 68), (0, .nameAndType 69 70), (0, u "checkIndex"), (0, u "(I[B)V"), (0, .methodref 12 72), (0, .nameAndType 73 74), (0, u "getChar"), (0, u "([BI)C"), (32, .methodref 12 108), (0, .nameAndType 109 110), (0, u "newBytesFor"), (0, u "(I)[B"), (0, .methodref 12 112), (0, .nameAndType 113 114), (0, u "putChar"), (0, u "([BII)V"), (0, .methodref 12 116), (0, .nameAndType 117 118), (0, u "compress"), (0, u "([CI[BII)I"), (0, .methodref 12 120), (0, .nameAndType 121 122), (0, u "toBytes"), (0, u "([CII)[B"), (138, u "coderFromArrayLen"), (0, u "([BI)B"), (106, .class_ 371), (1, u "java/lang/StringUTF16$LinesSpliterator"), (20, u "charAt"), (21, .methodref 3 415), (0, .nameAndType 69 416), (0, u "(II)V"), (13, u "MAX_LENGTH"), (196, .class_ 628), (0, u "java/lang/StringUTF16$CodePointsSpliterator"), (0, .class_ 630), (0, u "java/lang/StringUTF16$CharsSpliterator")] 4

def k9m0 : Method := { name := "<init>", desc := "()V", sig := { parameters := [], returnType := none }, accessFlags := 0, code := none }
def k9c1 : Code := { maxStack := 1, maxLocals := 1, code := jdk_52_method_2_code, exceptionTable := #[], attributes := #[] }
def k9m1 : Method := { name := "newBytesFor", desc := "(I)[B", sig := { parameters := [.int], returnType := some (.array .byte) }, accessFlags := 9, code := some k9c1 }
def k9c2 : Code := { maxStack := 4, maxLocals := 1, code := jdk_52_method_3_code, exceptionTable := #[], attributes := #[] }
def k9m2 : Method := { name := "newBytesLength", desc := "(I)I", sig := { parameters := [.int], returnType := some .int }, accessFlags := 9, code := some k9c2 }
def k9c3 : Code := { maxStack := 4, maxLocals := 3, code := jdk_52_method_4_code, exceptionTable := #[], attributes := #[] }
def k9m3 : Method := { name := "putChar", desc := "([BII)V", sig := { parameters := [(.array .byte), .int, .int], returnType := none }, accessFlags := 8, code := some k9c3 }
def k9c4 : Code := { maxStack := 3, maxLocals := 2, code := jdk_52_method_5_code, exceptionTable := #[], attributes := #[] }
def k9m4 : Method := { name := "getChar", desc := "([BI)C", sig := { parameters := [(.array .byte), .int], returnType := some .char }, accessFlags := 8, code := some k9c4 }
def k9c5 : Code := { maxStack := 2, maxLocals := 1, code := jdk_52_method_6_code, exceptionTable := #[], attributes := #[] }
def k9m5 : Method := { name := "length", desc := "([B)I", sig := { parameters := [(.array .byte)], returnType := some .int }, accessFlags := 9, code := some k9c5 }
def k9c6 : Code := { maxStack := 4, maxLocals := 5, code := jdk_52_method_14_code, exceptionTable := #[], attributes := #[] }
def k9m6 : Method := { name := "toBytes", desc := "([CII)[B", sig := { parameters := [(.array .char), .int, .int], returnType := some (.array .byte) }, accessFlags := 9, code := some k9c6 }
def k9c7 : Code := { maxStack := 2, maxLocals := 2, code := jdk_52_method_15_code, exceptionTable := #[], attributes := #[] }
def k9m7 : Method := { name := "coderFromArrayLen", desc := "([BI)B", sig := { parameters := [(.array .byte), .int], returnType := some .byte }, accessFlags := 8, code := some k9c7 }
def k9c8 : Code := { maxStack := 5, maxLocals := 6, code := jdk_52_method_16_code, exceptionTable := #[], attributes := #[] }
def k9m8 : Method := { name := "compress", desc := "([CII)[B", sig := { parameters := [(.array .char), .int, .int], returnType := some (.array .byte) }, accessFlags := 9, code := some k9c8 }
def k9c9 : Code := { maxStack := 3, maxLocals := 7, code := jdk_52_method_21_code, exceptionTable := #[], attributes := #[] }
def k9m9 : Method := { name := "compress", desc := "([CI[BII)I", sig := { parameters := [(.array .char), .int, (.array .byte), .int, .int], returnType := some .int }, accessFlags := 9, code := some k9c9 }
def k9c10 : Code := { maxStack := 2, maxLocals := 2, code := jdk_52_method_83_code, exceptionTable := #[], attributes := #[] }
def k9m10 : Method := { name := "charAt", desc := "([BI)C", sig := { parameters := [(.array .byte), .int], returnType := some .char }, accessFlags := 9, code := some k9c10 }
def k9c11 : Code := { maxStack := 2, maxLocals := 2, code := jdk_52_method_91_code, exceptionTable := #[], attributes := #[] }
def k9m11 : Method := { name := "checkIndex", desc := "(I[B)V", sig := { parameters := [.int, (.array .byte)], returnType := none }, accessFlags := 9, code := some k9c11 }
/-- java/lang/StringUTF16 -/
def k9 : Class := { plain "java/lang/StringUTF16" (some 0) with
  accessFlags := 48
  interfaces := #[]
  cf := some (fileOf pool9 12 #[.nestMembers #[627, 629, 369]] #[{ accessFlags := 0, nameIndex := 9, descriptorIndex := 10, attributes := #[] }, { accessFlags := 9, nameIndex := 109, descriptorIndex := 110, attributes := #[] }, { accessFlags := 9, nameIndex := 15, descriptorIndex := 16, attributes := #[] }, { accessFlags := 8, nameIndex := 113, descriptorIndex := 114, attributes := #[] }, { accessFlags := 8, nameIndex := 73, descriptorIndex := 74, attributes := #[] }, { accessFlags := 9, nameIndex := 50, descriptorIndex := 51, attributes := #[] }, { accessFlags := 9, nameIndex := 121, descriptorIndex := 122, attributes := #[] }, { accessFlags := 8, nameIndex := 261, descriptorIndex := 262, attributes := #[] }, { accessFlags := 9, nameIndex := 117, descriptorIndex := 122, attributes := #[] }, { accessFlags := 9, nameIndex := 117, descriptorIndex := 118, attributes := #[] }, { accessFlags := 9, nameIndex := 392, descriptorIndex := 74, attributes := #[] }, { accessFlags := 9, nameIndex := 69, descriptorIndex := 70, attributes := #[] }] 48 6 #[] #[{ accessFlags := 26, nameIndex := 61, descriptorIndex := 62, attributes := #[] }, { accessFlags := 26, nameIndex := 65, descriptorIndex := 62, attributes := #[] }, { accessFlags := 24, nameIndex := 430, descriptorIndex := 62, attributes := #[] }, { accessFlags := 4120, nameIndex := 46, descriptorIndex := 47, attributes := #[] }])
  fields := #[{ name := "HI_BYTE_SHIFT", type := .int, accessFlags := 26, slot := 0, constantValue := 0 }, { name := "LO_BYTE_SHIFT", type := .int, accessFlags := 26, slot := 1, constantValue := 0 }, { name := "MAX_LENGTH", type := .int, accessFlags := 24, slot := 2, constantValue := 0 }, { name := "$assertionsDisabled", type := .boolean, accessFlags := 4120, slot := 3, constantValue := 0 }]
  methods := #[k9m0, k9m1, k9m2, k9m3, k9m4, k9m5, k9m6, k9m7, k9m8, k9m9, k9m10, k9m11]
  instanceTypes := #[]
  staticTypes := #[.int, .int, .int, .boolean]
  resolved := Array.replicate 635 none
  statics := some 1 }

def pool10 : Array CpInfo := pool [(1, .class_ 2), (0, u "java/lang/Character"), (18, u "value"), (0, u "C"), (19, .class_ 44), (1, u "java/lang/Object"), (3, .class_ 50), (1, u "java/lang/Character$CharacterCache"), (24, .integer 55296), (0, .integer 56320), (0, .integer 57344), (0, .methodref 1 79), (0, .nameAndType 80 81), (0, u "isHighSurrogate"), (0, u "(C)Z"), (0, .methodref 1 83), (0, .nameAndType 84 81), (0, u "isLowSurrogate"), (1, .interfaceMethodref 87 88), (0, .class_ 89), (0, .nameAndType 90 91), (0, u "java/lang/CharSequence"), (0, u "charAt"), (0, u "(I)C"), (0, .interfaceMethodref 87 93), (0, .nameAndType 94 95), (0, u "length"), (0, u "()I"), (188, u "$assertionsDisabled"), (0, u "Z"), (21, .class_ 309), (1, u "java/lang/Character$UnicodeBlock"), (73, u "TYPE"), (0, u "Ljava/lang/Class;"), (0, .class_ 386), (0, u "java/io/Serializable"), (0, .class_ 388), (0, u "java/lang/Comparable"), (0, .class_ 390), (0, u "java/lang/constant/Constable"), (0, u "MIN_RADIX"), (0, u "I"), (2, u "MAX_RADIX"), (1, u "MIN_VALUE"), (1, u "MAX_VALUE"), (3, u "UNASSIGNED"), (0, u "B"), (0, u "UPPERCASE_LETTER"), (1, u "LOWERCASE_LETTER"), (0, u "TITLECASE_LETTER"), (1, u "MODIFIER_LETTER"), (1, u "OTHER_LETTER"), (1, u "NON_SPACING_MARK"), (1, u "ENCLOSING_MARK"), (1, u "COMBINING_SPACING_MARK"), (1, u "DECIMAL_DIGIT_NUMBER"), (1, u "LETTER_NUMBER"), (1, u "OTHER_NUMBER"), (1, u "SPACE_SEPARATOR"), (1, u "LINE_SEPARATOR"), (1, u "PARAGRAPH_SEPARATOR"), (1, u "CONTROL"), (1, u "FORMAT"), (1, u "PRIVATE_USE"), (1, u "SURROGATE"), (1, u "DASH_PUNCTUATION"), (1, u "START_PUNCTUATION"), (1, u "END_PUNCTUATION"), (1, u "CONNECTOR_PUNCTUATION"), (1, u "OTHER_PUNCTUATION"), (1, u "MATH_SYMBOL"), (1, u "CURRENCY_SYMBOL"), (1, u "MODIFIER_SYMBOL"), (1, u "OTHER_SYMBOL"), (1, u "INITIAL_QUOTE_PUNCTUATION"), (1, u "FINAL_QUOTE_PUNCTUATION"), (1, u "ERROR"), (1, u "DIRECTIONALITY_UNDEFINED"), (0, u "DIRECTIONALITY_LEFT_TO_RIGHT"), (0, u "DIRECTIONALITY_RIGHT_TO_LEFT"), (0, u "DIRECTIONALITY_RIGHT_TO_LEFT_ARABIC"), (0, u "DIRECTIONALITY_EUROPEAN_NUMBER"), (0, u "DIRECTIONALITY_EUROPEAN_NUMBER_SEPARATOR"), (0, u "DIRECTIONALITY_EUROPEAN_NUMBER_TERMINATOR"), (0, u "DIRECTIONALITY_ARABIC_NUMBER"), (0, u "DIRECTIONALITY_COMMON_NUMBER_SEPARATOR"), (0, u "DIRECTIONALITY_NONSPACING_MARK"), (0, u "DIRECTIONALITY_BOUNDARY_NEUTRAL"), (0, u "DIRECTIONALITY_PARAGRAPH_SEPARATOR"), (0, u "DIRECTIONALITY_SEGMENT_SEPARATOR"), (0, u "DIRECTIONALITY_WHITESPACE"), (0, u "DIRECTIONALITY_OTHER_NEUTRALS"), (0, u "DIRECTIONALITY_LEFT_TO_RIGHT_EMBEDDING"), (0, u "DIRECTIONALITY_LEFT_TO_RIGHT_OVERRIDE"), (0, u "DIRECTIONALITY_RIGHT_TO_LEFT_EMBEDDING"), (0, u "DIRECTIONALITY_RIGHT_TO_LEFT_OVERRIDE"), (1, u "DIRECTIONALITY_POP_DIRECTIONAL_FORMAT"), (0, u "DIRECTIONALITY_LEFT_TO_RIGHT_ISOLATE"), (0, u "DIRECTIONALITY_RIGHT_TO_LEFT_ISOLATE"), (0, u "DIRECTIONALITY_FIRST_STRONG_ISOLATE"), (0, u "DIRECTIONALITY_POP_DIRECTIONAL_ISOLATE"), (0, u "MIN_HIGH_SURROGATE"), (0, u "MAX_HIGH_SURROGATE"), (1, u "MIN_LOW_SURROGATE"), (0, u "MAX_LOW_SURROGATE"), (1, u "MIN_SURROGATE"), (0, u "MAX_SURROGATE"), (0, u "MIN_SUPPLEMENTARY_CODE_POINT"), (0, u "MIN_CODE_POINT"), (0, u "MAX_CODE_POINT"), (1, u "serialVersionUID"), (0, u "J"), (2, u "SIZE"), (0, u "BYTES"), (49, u "(Ljava/lang/CharSequence;II)I"), (6, u "offsetByCodePoints"), (31, .class_ 596), (0, u "java/lang/Character$UnicodeScript"), (0, .class_ 598), (0, u "java/lang/Character$Subset")] 5

def k10c0 : Code := { maxStack := 2, maxLocals := 1, code := jdk_89_method_14_code, exceptionTable := #[], attributes := #[] }
def k10m0 : Method := { name := "isHighSurrogate", desc := "(C)Z", sig := { parameters := [.char], returnType := some .boolean }, accessFlags := 9, code := some k10c0 }
def k10c1 : Code := { maxStack := 2, maxLocals := 1, code := jdk_89_method_15_code, exceptionTable := #[], attributes := #[] }
def k10m1 : Method := { name := "isLowSurrogate", desc := "(C)Z", sig := { parameters := [.char], returnType := some .boolean }, accessFlags := 9, code := some k10c1 }
def k10c2 : Code := { maxStack := 3, maxLocals := 6, code := jdk_89_method_36_code, exceptionTable := #[], attributes := #[] }
def k10m2 : Method := { name := "offsetByCodePoints", desc := "(Ljava/lang/CharSequence;II)I", sig := { parameters := [(.object "java/lang/CharSequence"), .int, .int], returnType := some .int }, accessFlags := 9, code := some k10c2 }
/-- java/lang/Character -/
def k10 : Class := { plain "java/lang/Character" (some 0) with
  accessFlags := 49
  interfaces := #[3, 4, 6]
  cf := some (fileOf pool10 1 #[.nestMembers #[48, 595, 307, 597]] #[{ accessFlags := 9, nameIndex := 80, descriptorIndex := 81, attributes := #[] }, { accessFlags := 9, nameIndex := 84, descriptorIndex := 81, attributes := #[] }, { accessFlags := 9, nameIndex := 563, descriptorIndex := 556, attributes := #[] }] 49 42 #[385, 387, 389] #[{ accessFlags := 25, nameIndex := 391, descriptorIndex := 392, attributes := #[] }, { accessFlags := 25, nameIndex := 395, descriptorIndex := 392, attributes := #[] }, { accessFlags := 25, nameIndex := 397, descriptorIndex := 22, attributes := #[] }, { accessFlags := 25, nameIndex := 399, descriptorIndex := 22, attributes := #[] }, { accessFlags := 25, nameIndex := 383, descriptorIndex := 384, attributes := #[] }, { accessFlags := 25, nameIndex := 403, descriptorIndex := 404, attributes := #[] }, { accessFlags := 25, nameIndex := 405, descriptorIndex := 404, attributes := #[] }, { accessFlags := 25, nameIndex := 407, descriptorIndex := 404, attributes := #[] }, { accessFlags := 25, nameIndex := 408, descriptorIndex := 404, attributes := #[] }, { accessFlags := 25, nameIndex := 410, descriptorIndex := 404, attributes := #[] }, { accessFlags := 25, nameIndex := 412, descriptorIndex := 404, attributes := #[] }, { accessFlags := 25, nameIndex := 414, descriptorIndex := 404, attributes := #[] }, { accessFlags := 25, nameIndex := 416, descriptorIndex := 404, attributes := #[] }, { accessFlags := 25, nameIndex := 418, descriptorIndex := 404, attributes := #[] }, { accessFlags := 25, nameIndex := 420, descriptorIndex := 404, attributes := #[] }, { accessFlags := 25, nameIndex := 422, descriptorIndex := 404, attributes := #[] }, { accessFlags := 25, nameIndex := 424, descriptorIndex := 404, attributes := #[] }, { accessFlags := 25, nameIndex := 426, descriptorIndex := 404, attributes := #[] }, { accessFlags := 25, nameIndex := 428, descriptorIndex := 404, attributes := #[] }, { accessFlags := 25, nameIndex := 430, descriptorIndex := 404, attributes := #[] }, { accessFlags := 25, nameIndex := 432, descriptorIndex := 404, attributes := #[] }, { accessFlags := 25, nameIndex := 434, descriptorIndex := 404, attributes := #[] }, { accessFlags := 25, nameIndex := 436, descriptorIndex := 404, attributes := #[] }, { accessFlags := 25, nameIndex := 438, descriptorIndex := 404, attributes := #[] }, { accessFlags := 25, nameIndex := 440, descriptorIndex := 404, attributes := #[] }, { accessFlags := 25, nameIndex := 442, descriptorIndex := 404, attributes := #[] }, { accessFlags := 25, nameIndex := 444, descriptorIndex := 404, attributes := #[] }, { accessFlags := 25, nameIndex := 446, descriptorIndex := 404, attributes := #[] }, { accessFlags := 25, nameIndex := 448, descriptorIndex := 404, attributes := #[] }, { accessFlags := 25, nameIndex := 450, descriptorIndex := 404, attributes := #[] }, { accessFlags := 25, nameIndex := 452, descriptorIndex := 404, attributes := #[] }, { accessFlags := 25, nameIndex := 454, descriptorIndex := 404, attributes := #[] }, { accessFlags := 25, nameIndex := 456, descriptorIndex := 404, attributes := #[] }, { accessFlags := 25, nameIndex := 458, descriptorIndex := 404, attributes := #[] }, { accessFlags := 25, nameIndex := 460, descriptorIndex := 404, attributes := #[] }, { accessFlags := 24, nameIndex := 462, descriptorIndex := 392, attributes := #[] }, { accessFlags := 25, nameIndex := 464, descriptorIndex := 404, attributes := #[] }, { accessFlags := 25, nameIndex := 465, descriptorIndex := 404, attributes := #[] }, { accessFlags := 25, nameIndex := 466, descriptorIndex := 404, attributes := #[] }, { accessFlags := 25, nameIndex := 467, descriptorIndex := 404, attributes := #[] }, { accessFlags := 25, nameIndex := 468, descriptorIndex := 404, attributes := #[] }, { accessFlags := 25, nameIndex := 469, descriptorIndex := 404, attributes := #[] }, { accessFlags := 25, nameIndex := 470, descriptorIndex := 404, attributes := #[] }, { accessFlags := 25, nameIndex := 471, descriptorIndex := 404, attributes := #[] }, { accessFlags := 25, nameIndex := 472, descriptorIndex := 404, attributes := #[] }, { accessFlags := 25, nameIndex := 473, descriptorIndex := 404, attributes := #[] }, { accessFlags := 25, nameIndex := 474, descriptorIndex := 404, attributes := #[] }, { accessFlags := 25, nameIndex := 475, descriptorIndex := 404, attributes := #[] }, { accessFlags := 25, nameIndex := 476, descriptorIndex := 404, attributes := #[] }, { accessFlags := 25, nameIndex := 477, descriptorIndex := 404, attributes := #[] }, { accessFlags := 25, nameIndex := 478, descriptorIndex := 404, attributes := #[] }, { accessFlags := 25, nameIndex := 479, descriptorIndex := 404, attributes := #[] }, { accessFlags := 25, nameIndex := 480, descriptorIndex := 404, attributes := #[] }, { accessFlags := 25, nameIndex := 481, descriptorIndex := 404, attributes := #[] }, { accessFlags := 25, nameIndex := 482, descriptorIndex := 404, attributes := #[] }, { accessFlags := 25, nameIndex := 484, descriptorIndex := 404, attributes := #[] }, { accessFlags := 25, nameIndex := 485, descriptorIndex := 404, attributes := #[] }, { accessFlags := 25, nameIndex := 486, descriptorIndex := 404, attributes := #[] }, { accessFlags := 25, nameIndex := 487, descriptorIndex := 404, attributes := #[] }, { accessFlags := 25, nameIndex := 488, descriptorIndex := 404, attributes := #[] }, { accessFlags := 25, nameIndex := 489, descriptorIndex := 22, attributes := #[] }, { accessFlags := 25, nameIndex := 490, descriptorIndex := 22, attributes := #[] }, { accessFlags := 25, nameIndex := 492, descriptorIndex := 22, attributes := #[] }, { accessFlags := 25, nameIndex := 493, descriptorIndex := 22, attributes := #[] }, { accessFlags := 25, nameIndex := 495, descriptorIndex := 22, attributes := #[] }, { accessFlags := 25, nameIndex := 496, descriptorIndex := 22, attributes := #[] }, { accessFlags := 25, nameIndex := 497, descriptorIndex := 392, attributes := #[] }, { accessFlags := 25, nameIndex := 498, descriptorIndex := 392, attributes := #[] }, { accessFlags := 25, nameIndex := 499, descriptorIndex := 392, attributes := #[] }, { accessFlags := 18, nameIndex := 21, descriptorIndex := 22, attributes := #[] }, { accessFlags := 26, nameIndex := 501, descriptorIndex := 502, attributes := #[] }, { accessFlags := 25, nameIndex := 505, descriptorIndex := 392, attributes := #[] }, { accessFlags := 25, nameIndex := 506, descriptorIndex := 392, attributes := #[] }, { accessFlags := 4120, nameIndex := 284, descriptorIndex := 285, attributes := #[] }])
  fields := #[{ name := "MIN_RADIX", type := .int, accessFlags := 25, slot := 0, constantValue := 0 }, { name := "MAX_RADIX", type := .int, accessFlags := 25, slot := 1, constantValue := 0 }, { name := "MIN_VALUE", type := .char, accessFlags := 25, slot := 2, constantValue := 0 }, { name := "MAX_VALUE", type := .char, accessFlags := 25, slot := 3, constantValue := 0 }, { name := "TYPE", type := (.object "java/lang/Class"), accessFlags := 25, slot := 4, constantValue := 0 }, { name := "UNASSIGNED", type := .byte, accessFlags := 25, slot := 5, constantValue := 0 }, { name := "UPPERCASE_LETTER", type := .byte, accessFlags := 25, slot := 6, constantValue := 0 }, { name := "LOWERCASE_LETTER", type := .byte, accessFlags := 25, slot := 7, constantValue := 0 }, { name := "TITLECASE_LETTER", type := .byte, accessFlags := 25, slot := 8, constantValue := 0 }, { name := "MODIFIER_LETTER", type := .byte, accessFlags := 25, slot := 9, constantValue := 0 }, { name := "OTHER_LETTER", type := .byte, accessFlags := 25, slot := 10, constantValue := 0 }, { name := "NON_SPACING_MARK", type := .byte, accessFlags := 25, slot := 11, constantValue := 0 }, { name := "ENCLOSING_MARK", type := .byte, accessFlags := 25, slot := 12, constantValue := 0 }, { name := "COMBINING_SPACING_MARK", type := .byte, accessFlags := 25, slot := 13, constantValue := 0 }, { name := "DECIMAL_DIGIT_NUMBER", type := .byte, accessFlags := 25, slot := 14, constantValue := 0 }, { name := "LETTER_NUMBER", type := .byte, accessFlags := 25, slot := 15, constantValue := 0 }, { name := "OTHER_NUMBER", type := .byte, accessFlags := 25, slot := 16, constantValue := 0 }, { name := "SPACE_SEPARATOR", type := .byte, accessFlags := 25, slot := 17, constantValue := 0 }, { name := "LINE_SEPARATOR", type := .byte, accessFlags := 25, slot := 18, constantValue := 0 }, { name := "PARAGRAPH_SEPARATOR", type := .byte, accessFlags := 25, slot := 19, constantValue := 0 }, { name := "CONTROL", type := .byte, accessFlags := 25, slot := 20, constantValue := 0 }, { name := "FORMAT", type := .byte, accessFlags := 25, slot := 21, constantValue := 0 }, { name := "PRIVATE_USE", type := .byte, accessFlags := 25, slot := 22, constantValue := 0 }, { name := "SURROGATE", type := .byte, accessFlags := 25, slot := 23, constantValue := 0 }, { name := "DASH_PUNCTUATION", type := .byte, accessFlags := 25, slot := 24, constantValue := 0 }, { name := "START_PUNCTUATION", type := .byte, accessFlags := 25, slot := 25, constantValue := 0 }, { name := "END_PUNCTUATION", type := .byte, accessFlags := 25, slot := 26, constantValue := 0 }, { name := "CONNECTOR_PUNCTUATION", type := .byte, accessFlags := 25, slot := 27, constantValue := 0 }, { name := "OTHER_PUNCTUATION", type := .byte, accessFlags := 25, slot := 28, constantValue := 0 }, { name := "MATH_SYMBOL", type := .byte, accessFlags := 25, slot := 29, constantValue := 0 }, { name := "CURRENCY_SYMBOL", type := .byte, accessFlags := 25, slot := 30, constantValue := 0 }, { name := "MODIFIER_SYMBOL", type := .byte, accessFlags := 25, slot := 31, constantValue := 0 }, { name := "OTHER_SYMBOL", type := .byte, accessFlags := 25, slot := 32, constantValue := 0 }, { name := "INITIAL_QUOTE_PUNCTUATION", type := .byte, accessFlags := 25, slot := 33, constantValue := 0 }, { name := "FINAL_QUOTE_PUNCTUATION", type := .byte, accessFlags := 25, slot := 34, constantValue := 0 }, { name := "ERROR", type := .int, accessFlags := 24, slot := 35, constantValue := 0 }, { name := "DIRECTIONALITY_UNDEFINED", type := .byte, accessFlags := 25, slot := 36, constantValue := 0 }, { name := "DIRECTIONALITY_LEFT_TO_RIGHT", type := .byte, accessFlags := 25, slot := 37, constantValue := 0 }, { name := "DIRECTIONALITY_RIGHT_TO_LEFT", type := .byte, accessFlags := 25, slot := 38, constantValue := 0 }, { name := "DIRECTIONALITY_RIGHT_TO_LEFT_ARABIC", type := .byte, accessFlags := 25, slot := 39, constantValue := 0 }, { name := "DIRECTIONALITY_EUROPEAN_NUMBER", type := .byte, accessFlags := 25, slot := 40, constantValue := 0 }, { name := "DIRECTIONALITY_EUROPEAN_NUMBER_SEPARATOR", type := .byte, accessFlags := 25, slot := 41, constantValue := 0 }, { name := "DIRECTIONALITY_EUROPEAN_NUMBER_TERMINATOR", type := .byte, accessFlags := 25, slot := 42, constantValue := 0 }, { name := "DIRECTIONALITY_ARABIC_NUMBER", type := .byte, accessFlags := 25, slot := 43, constantValue := 0 }, { name := "DIRECTIONALITY_COMMON_NUMBER_SEPARATOR", type := .byte, accessFlags := 25, slot := 44, constantValue := 0 }, { name := "DIRECTIONALITY_NONSPACING_MARK", type := .byte, accessFlags := 25, slot := 45, constantValue := 0 }, { name := "DIRECTIONALITY_BOUNDARY_NEUTRAL", type := .byte, accessFlags := 25, slot := 46, constantValue := 0 }, { name := "DIRECTIONALITY_PARAGRAPH_SEPARATOR", type := .byte, accessFlags := 25, slot := 47, constantValue := 0 }, { name := "DIRECTIONALITY_SEGMENT_SEPARATOR", type := .byte, accessFlags := 25, slot := 48, constantValue := 0 }, { name := "DIRECTIONALITY_WHITESPACE", type := .byte, accessFlags := 25, slot := 49, constantValue := 0 }, { name := "DIRECTIONALITY_OTHER_NEUTRALS", type := .byte, accessFlags := 25, slot := 50, constantValue := 0 }, { name := "DIRECTIONALITY_LEFT_TO_RIGHT_EMBEDDING", type := .byte, accessFlags := 25, slot := 51, constantValue := 0 }, { name := "DIRECTIONALITY_LEFT_TO_RIGHT_OVERRIDE", type := .byte, accessFlags := 25, slot := 52, constantValue := 0 }, { name := "DIRECTIONALITY_RIGHT_TO_LEFT_EMBEDDING", type := .byte, accessFlags := 25, slot := 53, constantValue := 0 }, { name := "DIRECTIONALITY_RIGHT_TO_LEFT_OVERRIDE", type := .byte, accessFlags := 25, slot := 54, constantValue := 0 }, { name := "DIRECTIONALITY_POP_DIRECTIONAL_FORMAT", type := .byte, accessFlags := 25, slot := 55, constantValue := 0 }, { name := "DIRECTIONALITY_LEFT_TO_RIGHT_ISOLATE", type := .byte, accessFlags := 25, slot := 56, constantValue := 0 }, { name := "DIRECTIONALITY_RIGHT_TO_LEFT_ISOLATE", type := .byte, accessFlags := 25, slot := 57, constantValue := 0 }, { name := "DIRECTIONALITY_FIRST_STRONG_ISOLATE", type := .byte, accessFlags := 25, slot := 58, constantValue := 0 }, { name := "DIRECTIONALITY_POP_DIRECTIONAL_ISOLATE", type := .byte, accessFlags := 25, slot := 59, constantValue := 0 }, { name := "MIN_HIGH_SURROGATE", type := .char, accessFlags := 25, slot := 60, constantValue := 0 }, { name := "MAX_HIGH_SURROGATE", type := .char, accessFlags := 25, slot := 61, constantValue := 0 }, { name := "MIN_LOW_SURROGATE", type := .char, accessFlags := 25, slot := 62, constantValue := 0 }, { name := "MAX_LOW_SURROGATE", type := .char, accessFlags := 25, slot := 63, constantValue := 0 }, { name := "MIN_SURROGATE", type := .char, accessFlags := 25, slot := 64, constantValue := 0 }, { name := "MAX_SURROGATE", type := .char, accessFlags := 25, slot := 65, constantValue := 0 }, { name := "MIN_SUPPLEMENTARY_CODE_POINT", type := .int, accessFlags := 25, slot := 66, constantValue := 0 }, { name := "MIN_CODE_POINT", type := .int, accessFlags := 25, slot := 67, constantValue := 0 }, { name := "MAX_CODE_POINT", type := .int, accessFlags := 25, slot := 68, constantValue := 0 }, { name := "value", type := .char, accessFlags := 18, slot := 0, constantValue := 0 }, { name := "serialVersionUID", type := .long, accessFlags := 26, slot := 69, constantValue := 0 }, { name := "SIZE", type := .int, accessFlags := 25, slot := 70, constantValue := 0 }, { name := "BYTES", type := .int, accessFlags := 25, slot := 71, constantValue := 0 }, { name := "$assertionsDisabled", type := .boolean, accessFlags := 4120, slot := 72, constantValue := 0 }]
  methods := #[k10m0, k10m1, k10m2]
  instanceTypes := #[.char]
  staticTypes := #[.int, .int, .char, .char, (.object "java/lang/Class"), .byte, .byte, .byte, .byte, .byte, .byte, .byte, .byte, .byte, .byte, .byte, .byte, .byte, .byte, .byte, .byte, .byte, .byte, .byte, .byte, .byte, .byte, .byte, .byte, .byte, .byte, .byte, .byte, .byte, .byte, .int, .byte, .byte, .byte, .byte, .byte, .byte, .byte, .byte, .byte, .byte, .byte, .byte, .byte, .byte, .byte, .byte, .byte, .byte, .byte, .byte, .byte, .byte, .byte, .byte, .char, .char, .char, .char, .char, .char, .int, .int, .int, .long, .int, .int, .boolean]
  resolved := Array.replicate 604 none
  statics := none }

def pool11 : Array CpInfo := pool [(2, .class_ 4), (1, u "java/lang/Object"), (0, u "<init>"), (0, u "()V"), (17, .class_ 26), (1, u "jdk/internal/util/Preconditions"), (6, u "checkIndex"), (21, .class_ 56), (0, u "jdk/internal/util/Preconditions$4"), (57, .class_ 115), (0, u "jdk/internal/util/Preconditions$1"), (7, u "SIOOBE_FORMATTER"), (0, u "Ljava/util/function/BiFunction;"), (0, .class_ 126), (0, u "jdk/internal/util/Preconditions$2"), (3, u "AIOOBE_FORMATTER"), (0, .class_ 132), (0, u "jdk/internal/util/Preconditions$3"), (3, u "IOOBE_FORMATTER"), (41, u "(IILjava/util/function/BiFunction;)I")] 15

def k11m0 : Method := { name := "<init>", desc := "()V", sig := { parameters := [], returnType := none }, accessFlags := 1, code := none }
def k11c1 : Code := { maxStack := 3, maxLocals := 3, code := jdk_41_method_11_code, exceptionTable := #[], attributes := #[] }
def k11m1 : Method := { name := "checkIndex", desc := "(IILjava/util/function/BiFunction;)I", sig := { parameters := [.int, .int, (.object "java/util/function/BiFunction")], returnType := some .int }, accessFlags := 9, code := some k11c1 }
/-- jdk/internal/util/Preconditions -/
def k11 : Class := { plain "jdk/internal/util/Preconditions" (some 0) with
  accessFlags := 33
  interfaces := #[]
  cf := some (fileOf pool11 24 #[.nestMembers #[55, 131, 125, 114]] #[{ accessFlags := 1, nameIndex := 5, descriptorIndex := 6, attributes := #[] }, { accessFlags := 9, nameIndex := 33, descriptorIndex := 178, attributes := #[] }] 33 2 #[] #[{ accessFlags := 25, nameIndex := 123, descriptorIndex := 124, attributes := #[] }, { accessFlags := 25, nameIndex := 130, descriptorIndex := 124, attributes := #[] }, { accessFlags := 25, nameIndex := 136, descriptorIndex := 124, attributes := #[] }])
  fields := #[{ name := "SIOOBE_FORMATTER", type := (.object "java/util/function/BiFunction"), accessFlags := 25, slot := 0, constantValue := 0 }, { name := "AIOOBE_FORMATTER", type := (.object "java/util/function/BiFunction"), accessFlags := 25, slot := 1, constantValue := 0 }, { name := "IOOBE_FORMATTER", type := (.object "java/util/function/BiFunction"), accessFlags := 25, slot := 2, constantValue := 0 }]
  methods := #[k11m0, k11m1]
  instanceTypes := #[]
  staticTypes := #[(.object "java/util/function/BiFunction"), (.object "java/util/function/BiFunction"), (.object "java/util/function/BiFunction")]
  resolved := Array.replicate 194 none
  statics := some 2 }

def pool12 : Array CpInfo := pool [(1, .class_ 2), (0, u "java/lang/String"), (1, .class_ 6), (1, u "java/lang/Object"), (0, u "<init>"), (0, u "()V"), (0, .methodref 1 10), (0, .nameAndType 11 12), (0, u "checkIndex"), (0, u "(II)V"), (1, .class_ 16), (1, u "java/lang/StringLatin1"), (36, u "([BI)C"), (67, u "$assertionsDisabled"), (0, u "Z"), (98, .class_ 223), (1, u "java/lang/StringLatin1$LinesSpliterator"), (28, u "charAt"), (137, .class_ 391), (0, u "java/lang/StringLatin1$CharsSpliterator")] 3

def k12m0 : Method := { name := "<init>", desc := "()V", sig := { parameters := [], returnType := none }, accessFlags := 0, code := none }
def k12c1 : Code := { maxStack := 2, maxLocals := 2, code := jdk_43_method_2_code, exceptionTable := #[], attributes := #[] }
def k12m1 : Method := { name := "charAt", desc := "([BI)C", sig := { parameters := [(.array .byte), .int], returnType := some .char }, accessFlags := 9, code := some k12c1 }
/-- java/lang/StringLatin1 -/
def k12 : Class := { plain "java/lang/StringLatin1" (some 0) with
  accessFlags := 48
  interfaces := #[]
  cf := some (fileOf pool12 14 #[.nestMembers #[390, 221]] #[{ accessFlags := 0, nameIndex := 7, descriptorIndex := 8, attributes := #[] }, { accessFlags := 9, nameIndex := 252, descriptorIndex := 53, attributes := #[] }] 48 4 #[] #[{ accessFlags := 4120, nameIndex := 121, descriptorIndex := 122, attributes := #[] }])
  fields := #[{ name := "$assertionsDisabled", type := .boolean, accessFlags := 4120, slot := 0, constantValue := 0 }]
  methods := #[k12m0, k12m1]
  instanceTypes := #[]
  staticTypes := #[.boolean]
  resolved := Array.replicate 395 none
  statics := none }

def pool13 : Array CpInfo := pool [(9, u "<init>"), (6, .class_ 18), (1, u "java/lang/Object"), (0, u "()V"), (1, .class_ 23), (1, u "jdk/internal/util/ArraysSupport"), (0, u "LOG2_ARRAY_LONG_INDEX_SCALE"), (0, u "I"), (2, u "U"), (0, u "Ljdk/internal/misc/Unsafe;"), (8, u "BIG_ENDIAN"), (0, u "Z"), (8, u "LOG2_BYTE_BIT_SIZE"), (4, u "LOG2_ARRAY_INT_INDEX_SCALE"), (54, u "JLA"), (0, u "Ljdk/internal/access/JavaLangAccess;"), (11, u "LOG2_ARRAY_BOOLEAN_INDEX_SCALE"), (9, u "LOG2_ARRAY_BYTE_INDEX_SCALE"), (5, u "LOG2_ARRAY_CHAR_INDEX_SCALE"), (5, u "LOG2_ARRAY_SHORT_INDEX_SCALE"), (18, u "LOG2_ARRAY_FLOAT_INDEX_SCALE"), (24, u "LOG2_ARRAY_DOUBLE_INDEX_SCALE"), (89, u "T_BOOLEAN"), (2, u "T_CHAR"), (1, u "T_FLOAT"), (1, u "T_DOUBLE"), (1, u "T_BYTE"), (1, u "T_SHORT"), (1, u "T_INT"), (1, u "T_LONG"), (1, u "SOFT_MAX_ARRAY_LENGTH")] 83

def k13m0 : Method := { name := "<init>", desc := "()V", sig := { parameters := [], returnType := none }, accessFlags := 2, code := none }
/-- jdk/internal/util/ArraysSupport -/
def k13 : Class := { plain "jdk/internal/util/ArraysSupport" (some 0) with
  accessFlags := 33
  interfaces := #[]
  cf := some (fileOf pool13 21 #[] #[{ accessFlags := 2, nameIndex := 9, descriptorIndex := 19, attributes := #[] }] 33 16 #[] #[{ accessFlags := 24, nameIndex := 28, descriptorIndex := 29, attributes := #[] }, { accessFlags := 26, nameIndex := 38, descriptorIndex := 39, attributes := #[] }, { accessFlags := 25, nameIndex := 121, descriptorIndex := 25, attributes := #[] }, { accessFlags := 25, nameIndex := 131, descriptorIndex := 25, attributes := #[] }, { accessFlags := 25, nameIndex := 137, descriptorIndex := 25, attributes := #[] }, { accessFlags := 25, nameIndex := 143, descriptorIndex := 25, attributes := #[] }, { accessFlags := 25, nameIndex := 53, descriptorIndex := 25, attributes := #[] }, { accessFlags := 25, nameIndex := 24, descriptorIndex := 25, attributes := #[] }, { accessFlags := 25, nameIndex := 162, descriptorIndex := 25, attributes := #[] }, { accessFlags := 25, nameIndex := 187, descriptorIndex := 25, attributes := #[] }, { accessFlags := 26, nameIndex := 48, descriptorIndex := 25, attributes := #[] }, { accessFlags := 25, nameIndex := 277, descriptorIndex := 25, attributes := #[] }, { accessFlags := 25, nameIndex := 280, descriptorIndex := 25, attributes := #[] }, { accessFlags := 25, nameIndex := 282, descriptorIndex := 25, attributes := #[] }, { accessFlags := 25, nameIndex := 284, descriptorIndex := 25, attributes := #[] }, { accessFlags := 25, nameIndex := 286, descriptorIndex := 25, attributes := #[] }, { accessFlags := 25, nameIndex := 288, descriptorIndex := 25, attributes := #[] }, { accessFlags := 25, nameIndex := 290, descriptorIndex := 25, attributes := #[] }, { accessFlags := 25, nameIndex := 292, descriptorIndex := 25, attributes := #[] }, { accessFlags := 26, nameIndex := 108, descriptorIndex := 109, attributes := #[] }, { accessFlags := 25, nameIndex := 294, descriptorIndex := 25, attributes := #[] }])
  fields := #[{ name := "U", type := (.object "jdk/internal/misc/Unsafe"), accessFlags := 24, slot := 0, constantValue := 0 }, { name := "BIG_ENDIAN", type := .boolean, accessFlags := 26, slot := 1, constantValue := 0 }, { name := "LOG2_ARRAY_BOOLEAN_INDEX_SCALE", type := .int, accessFlags := 25, slot := 2, constantValue := 0 }, { name := "LOG2_ARRAY_BYTE_INDEX_SCALE", type := .int, accessFlags := 25, slot := 3, constantValue := 0 }, { name := "LOG2_ARRAY_CHAR_INDEX_SCALE", type := .int, accessFlags := 25, slot := 4, constantValue := 0 }, { name := "LOG2_ARRAY_SHORT_INDEX_SCALE", type := .int, accessFlags := 25, slot := 5, constantValue := 0 }, { name := "LOG2_ARRAY_INT_INDEX_SCALE", type := .int, accessFlags := 25, slot := 6, constantValue := 0 }, { name := "LOG2_ARRAY_LONG_INDEX_SCALE", type := .int, accessFlags := 25, slot := 7, constantValue := 0 }, { name := "LOG2_ARRAY_FLOAT_INDEX_SCALE", type := .int, accessFlags := 25, slot := 8, constantValue := 0 }, { name := "LOG2_ARRAY_DOUBLE_INDEX_SCALE", type := .int, accessFlags := 25, slot := 9, constantValue := 0 }, { name := "LOG2_BYTE_BIT_SIZE", type := .int, accessFlags := 26, slot := 10, constantValue := 0 }, { name := "T_BOOLEAN", type := .int, accessFlags := 25, slot := 11, constantValue := 0 }, { name := "T_CHAR", type := .int, accessFlags := 25, slot := 12, constantValue := 0 }, { name := "T_FLOAT", type := .int, accessFlags := 25, slot := 13, constantValue := 0 }, { name := "T_DOUBLE", type := .int, accessFlags := 25, slot := 14, constantValue := 0 }, { name := "T_BYTE", type := .int, accessFlags := 25, slot := 15, constantValue := 0 }, { name := "T_SHORT", type := .int, accessFlags := 25, slot := 16, constantValue := 0 }, { name := "T_INT", type := .int, accessFlags := 25, slot := 17, constantValue := 0 }, { name := "T_LONG", type := .int, accessFlags := 25, slot := 18, constantValue := 0 }, { name := "JLA", type := (.object "jdk/internal/access/JavaLangAccess"), accessFlags := 26, slot := 19, constantValue := 0 }, { name := "SOFT_MAX_ARRAY_LENGTH", type := .int, accessFlags := 25, slot := 20, constantValue := 0 }]
  methods := #[k13m0]
  instanceTypes := #[]
  staticTypes := #[(.object "jdk/internal/misc/Unsafe"), .boolean, .int, .int, .int, .int, .int, .int, .int, .int, .int, .int, .int, .int, .int, .int, .int, .int, .int, (.object "jdk/internal/access/JavaLangAccess"), .int]
  resolved := Array.replicate 378 none
  statics := none }

def pool14 : Array CpInfo := pool [(1, u "java/lang/Cloneable"), (0, .class_ 1), (0, u "java/lang/Object"), (0, .class_ 3)] 3

/-- java/lang/Cloneable -/
def k14 : Class := { plain "java/lang/Cloneable" (some 0) with
  accessFlags := 1537
  interfaces := #[]
  cf := some (fileOf pool14 2 #[] #[] 1537 4 #[] #[])
  fields := #[]
  methods := #[]
  instanceTypes := #[]
  staticTypes := #[]
  resolved := Array.replicate 8 none
  statics := none }

/-- the primitive byte -/
def k15 : Class := { plain "byte" none with kind := .primitive 'B', accessFlags := 0x411 }
/-- [B -/
def k16 : Class := { plain "[B" (some 0) with kind := .array 15 .byte, interfaces := #[14, 3], accessFlags := 1041 }

/-- the primitive char -/
def k17 : Class := { plain "char" none with kind := .primitive 'C', accessFlags := 0x411 }
/-- [C -/
def k18 : Class := { plain "[C" (some 0) with kind := .array 17 .char, interfaces := #[14, 3], accessFlags := 1041 }

/-- the primitive int -/
def k19 : Class := { plain "int" none with kind := .primitive 'I', accessFlags := 0x411 }
/-- [I -/
def k20 : Class := { plain "[I" (some 0) with kind := .array 19 .int, interfaces := #[14, 3], accessFlags := 1041 }

def heap : Heap := #[{ cls := 8, slots := #[.long 0, .int 1, .null, .int 0, .null, .int 0, .int 0], vm := .statics 8 },
  { cls := 9, slots := #[.int 0, .int 8, .int 0, .int 1], vm := .statics 9 },
  { cls := 11, slots := #[.null, .null, .null], vm := .statics 11 }]
def classes : Array Class := #[k0, k1, k2, k3, k4, k5, k6, k7, k8, k9, k10, k11, k12, k13, k14, k15, k16, k17, k18, k19, k20]
def interned : List (Array UInt16 × Addr) := []
def slotsUsed : Nat := 14
def theMethod : MethodId := ⟨1, 4⟩
def args0 : Array Value := #[.int 4, .int 8, .int 12, .int 16, .int 0]
def aboutOver (below : List Frame) : State where
  vm := { classes := classes, interned := interned.toArray }
  heap := heap
  slotsUsed := slotsUsed
  threads := #[{ frames := .invoking theMethod args0 :: below }]
def below0 : List Frame := [.native { method := ⟨0, 0⟩, args := #[] }]
def about1 : State := aboutOver below0
def p0 : Program := .bare "" "" ""
def e0 : Env := launch0.env 0 0 0
theorem w_frames : about1.frames = Frame.invoking theMethod args0 :: below0 := rfl
set_option maxRecDepth 65536 in
theorem w_args : argsFit about1.vm theMethod args0 = true := by decide +kernel
set_option maxRecDepth 65536 in
theorem w_heap : heapFits about1 = true := by decide +kernel
set_option maxRecDepth 65536 in
theorem w_runnable : about1.curStatus? = some .runnable := by decide +kernel
set_option maxRecDepth 65536 in
theorem w_alone : about1.alone = true := by decide +kernel
set_option maxRecDepth 65536 in
theorem w_named : about1.methodNamed? x = some theMethod := by decide +kernel
set_option maxRecDepth 65536 in
theorem w_hears : about1.hears theMethod below0 = true := by decide +kernel
set_option maxRecDepth 65536 in
theorem w_ripe : about1.ripe theMethod args0 below0 = true := by decide +kernel
theorem w_running : about1.status = .running := rfl
set_option maxRecDepth 65536 in
theorem w_room : about1.hasRoom e0.platform room_1 = true :=
  launch0.hasRoom_least _ room_1 (by decide +kernel) (by decide +kernel) (by decide +kernel) (by decide +kernel) (by decide +kernel) (by decide +kernel)
theorem allAtoms_all (ts : List Jvm.Cond) (a : Array Jvm.Value) (st : Jvm.State) : (allAtoms ts).before a st = ts.all (fun c => c.before a st) := by
  induction ts with
  | nil => rfl
  | cons c t ih =>
    show (Jvm.Cond.and c (allAtoms t)).before a st = _
    rw [Jvm.Cond.before_and, ih, List.all_cons]
def words1 : List Jvm.Cond := Jvm.Cond.code x code maxLocals ret :: tables_1
/-- a 'code' word, met by the world's own term for the bytes: nothing is compared byte by byte -/
theorem code_word {y : MethodName} {bytes : ByteArray} {mx : Nat} {rt : Option FieldType} {a : Array Value} {s : State} {m : MethodId} {meth : Method} {c : Code} (h1 : s.methodNamed? y = some m) (h2 : s.vm.method? m = some meth) (h3 : meth.code = some c) (h4 : c.code = bytes)
    (h5 : (c.maxLocals == mx && c.exceptionTable.isEmpty && decide (c.maxStack ≤ mostOperands) && decide (meth.sig.returnType = rt) && !meth.locks && decide (parseMethodDescriptor y.desc = some meth.sig)) = true) : (Jvm.Cond.code y bytes mx rt).before a s = true := by
  simp only [Bool.and_eq_true, beq_iff_eq, Bool.not_eq_true', decide_eq_true_eq] at h5
  obtain ⟨⟨⟨⟨⟨g1, g2⟩, g3⟩, g4⟩, g5⟩, g6⟩ := h5
  simp [Cond.before, Cond.holds, Cond.value, h1, h2, h3, h4, g1, g2, g3, g4, g5, g6]
def isCode : Jvm.Cond → Bool
  | .code _ _ _ _ => true
  | _ => false
theorem all_split {L : List Jvm.Cond} {P : Jvm.Cond → Bool} (h1 : L.all (fun c => isCode c || P c) = true) (h2 : ∀ c ∈ L.filter isCode, P c = true) : L.all P = true := by
  refine List.all_eq_true.mpr fun c hc => ?_
  have h := List.all_eq_true.mp h1 c hc
  rcases Bool.eq_false_or_eq_true (isCode c) with hi | hi
  · exact h2 c (List.mem_filter.mpr ⟨hc, hi⟩)
  · simpa [hi] using h
set_option maxRecDepth 65536 in
theorem w_c0 : (Jvm.Cond.code x code maxLocals ret).before args0 about1 = true := code_word (m := ⟨1, 4⟩) (meth := k1m4) (c := k1c4) (by decide +kernel) rfl rfl rfl (by decide +kernel)
set_option maxRecDepth 65536 in
theorem w_c1 : (Jvm.Cond.code ({ cls := "com/example/passagework/passagework/CodePointsIndexOfPinLaw", name := "ch", desc := "(I)C" } : Jvm.MethodName) method_2_code (3 : Nat) (Option.some Jvm.ClassFile.FieldType.char)).before args0 about1 = true := code_word (m := ⟨1, 1⟩) (meth := k1m1) (c := k1c1) (by decide +kernel) rfl rfl rfl (by decide +kernel)
set_option maxRecDepth 65536 in
theorem w_c2 : (Jvm.Cond.code ({ cls := "com/example/passagework/passagework/CodePointsIndexOfPinLaw", name := "isHigh", desc := "(C)Z" } : Jvm.MethodName) method_3_code (1 : Nat) (Option.some Jvm.ClassFile.FieldType.boolean)).before args0 about1 = true := code_word (m := ⟨1, 2⟩) (meth := k1m2) (c := k1c2) (by decide +kernel) rfl rfl rfl (by decide +kernel)
set_option maxRecDepth 65536 in
theorem w_c3 : (Jvm.Cond.code ({ cls := "java/lang/String", name := "<init>", desc := "([C)V" } : Jvm.MethodName) jdk_42_method_3_code (2 : Nat) (Option.none : Option Jvm.ClassFile.FieldType)).before args0 about1 = true := code_word (m := ⟨8, 1⟩) (meth := k8m1) (c := k8c1) (by decide +kernel) rfl rfl rfl (by decide +kernel)
set_option maxRecDepth 65536 in
theorem w_c4 : (Jvm.Cond.code ({ cls := "java/lang/String", name := "<init>", desc := "([CIILjava/lang/Void;)V" } : Jvm.MethodName) jdk_42_method_149_code (6 : Nat) (Option.none : Option Jvm.ClassFile.FieldType)).before args0 about1 = true := code_word (m := ⟨8, 5⟩) (meth := k8m5) (c := k8c5) (by decide +kernel) rfl rfl rfl (by decide +kernel)
set_option maxRecDepth 65536 in
theorem w_c5 : (Jvm.Cond.code ({ cls := "java/lang/Object", name := "<init>", desc := "()V" } : Jvm.MethodName) object_method_1_code (1 : Nat) (Option.none : Option Jvm.ClassFile.FieldType)).before args0 about1 = true := code_word (m := ⟨0, 0⟩) (meth := k0m0) (c := k0c0) (by decide +kernel) rfl rfl rfl (by decide +kernel)
set_option maxRecDepth 65536 in
theorem w_c6 : (Jvm.Cond.code ({ cls := "java/lang/StringUTF16", name := "compress", desc := "([CII)[B" } : Jvm.MethodName) jdk_52_method_16_code (6 : Nat) (Option.some (Jvm.ClassFile.FieldType.array Jvm.ClassFile.FieldType.byte))).before args0 about1 = true := code_word (m := ⟨9, 8⟩) (meth := k9m8) (c := k9c8) (by decide +kernel) rfl rfl rfl (by decide +kernel)
set_option maxRecDepth 65536 in
theorem w_c7 : (Jvm.Cond.code ({ cls := "java/lang/StringUTF16", name := "compress", desc := "([CI[BII)I" } : Jvm.MethodName) jdk_52_method_21_code (7 : Nat) (Option.some Jvm.ClassFile.FieldType.int)).before args0 about1 = true := code_word (m := ⟨9, 9⟩) (meth := k9m9) (c := k9c9) (by decide +kernel) rfl rfl rfl (by decide +kernel)
set_option maxRecDepth 65536 in
theorem w_c8 : (Jvm.Cond.code ({ cls := "java/lang/StringUTF16", name := "toBytes", desc := "([CII)[B" } : Jvm.MethodName) jdk_52_method_14_code (5 : Nat) (Option.some (Jvm.ClassFile.FieldType.array Jvm.ClassFile.FieldType.byte))).before args0 about1 = true := code_word (m := ⟨9, 6⟩) (meth := k9m6) (c := k9c6) (by decide +kernel) rfl rfl rfl (by decide +kernel)
set_option maxRecDepth 65536 in
theorem w_c9 : (Jvm.Cond.code ({ cls := "java/lang/StringUTF16", name := "newBytesFor", desc := "(I)[B" } : Jvm.MethodName) jdk_52_method_2_code (1 : Nat) (Option.some (Jvm.ClassFile.FieldType.array Jvm.ClassFile.FieldType.byte))).before args0 about1 = true := code_word (m := ⟨9, 1⟩) (meth := k9m1) (c := k9c1) (by decide +kernel) rfl rfl rfl (by decide +kernel)
set_option maxRecDepth 65536 in
theorem w_c10 : (Jvm.Cond.code ({ cls := "java/lang/StringUTF16", name := "newBytesLength", desc := "(I)I" } : Jvm.MethodName) jdk_52_method_3_code (1 : Nat) (Option.some Jvm.ClassFile.FieldType.int)).before args0 about1 = true := code_word (m := ⟨9, 2⟩) (meth := k9m2) (c := k9c2) (by decide +kernel) rfl rfl rfl (by decide +kernel)
set_option maxRecDepth 65536 in
theorem w_c11 : (Jvm.Cond.code ({ cls := "java/lang/StringUTF16", name := "putChar", desc := "([BII)V" } : Jvm.MethodName) jdk_52_method_4_code (3 : Nat) (Option.none : Option Jvm.ClassFile.FieldType)).before args0 about1 = true := code_word (m := ⟨9, 3⟩) (meth := k9m3) (c := k9c3) (by decide +kernel) rfl rfl rfl (by decide +kernel)
set_option maxRecDepth 65536 in
theorem w_c12 : (Jvm.Cond.code ({ cls := "java/lang/StringUTF16", name := "getChar", desc := "([BI)C" } : Jvm.MethodName) jdk_52_method_5_code (2 : Nat) (Option.some Jvm.ClassFile.FieldType.char)).before args0 about1 = true := code_word (m := ⟨9, 4⟩) (meth := k9m4) (c := k9c4) (by decide +kernel) rfl rfl rfl (by decide +kernel)
set_option maxRecDepth 65536 in
theorem w_c13 : (Jvm.Cond.code ({ cls := "java/lang/StringUTF16", name := "coderFromArrayLen", desc := "([BI)B" } : Jvm.MethodName) jdk_52_method_15_code (2 : Nat) (Option.some Jvm.ClassFile.FieldType.byte)).before args0 about1 = true := code_word (m := ⟨9, 7⟩) (meth := k9m7) (c := k9c7) (by decide +kernel) rfl rfl rfl (by decide +kernel)
set_option maxRecDepth 65536 in
theorem w_c14 : (Jvm.Cond.code ({ cls := "com/example/passagework/passagework/CodePoints", name := "<init>", desc := "(Ljava/lang/String;)V" } : Jvm.MethodName) prog_5_method_1_code (2 : Nat) (Option.none : Option Jvm.ClassFile.FieldType)).before args0 about1 = true := code_word (m := ⟨2, 0⟩) (meth := k2m0) (c := k2c0) (by decide +kernel) rfl rfl rfl (by decide +kernel)
set_option maxRecDepth 65536 in
theorem w_c15 : (Jvm.Cond.code ({ cls := "com/example/passagework/passagework/CodePoints", name := "indexOf", desc := "(I)I" } : Jvm.MethodName) prog_5_method_5_code (2 : Nat) (Option.some Jvm.ClassFile.FieldType.int)).before args0 about1 = true := code_word (m := ⟨2, 1⟩) (meth := k2m1) (c := k2c1) (by decide +kernel) rfl rfl rfl (by decide +kernel)
set_option maxRecDepth 65536 in
theorem w_c16 : (Jvm.Cond.code ({ cls := "java/lang/String", name := "offsetByCodePoints", desc := "(II)I" } : Jvm.MethodName) jdk_42_method_60_code (3 : Nat) (Option.some Jvm.ClassFile.FieldType.int)).before args0 about1 = true := code_word (m := ⟨8, 4⟩) (meth := k8m4) (c := k8c4) (by decide +kernel) rfl rfl rfl (by decide +kernel)
set_option maxRecDepth 65536 in
theorem w_c17 : (Jvm.Cond.code ({ cls := "java/lang/Character", name := "offsetByCodePoints", desc := "(Ljava/lang/CharSequence;II)I" } : Jvm.MethodName) jdk_89_method_36_code (6 : Nat) (Option.some Jvm.ClassFile.FieldType.int)).before args0 about1 = true := code_word (m := ⟨10, 2⟩) (meth := k10m2) (c := k10c2) (by decide +kernel) rfl rfl rfl (by decide +kernel)
set_option maxRecDepth 65536 in
theorem w_c18 : (Jvm.Cond.code ({ cls := "java/lang/String", name := "length", desc := "()I" } : Jvm.MethodName) jdk_42_method_54_code (1 : Nat) (Option.some Jvm.ClassFile.FieldType.int)).before args0 about1 = true := code_word (m := ⟨8, 2⟩) (meth := k8m2) (c := k8c2) (by decide +kernel) rfl rfl rfl (by decide +kernel)
set_option maxRecDepth 65536 in
theorem w_c19 : (Jvm.Cond.code ({ cls := "java/lang/String", name := "coder", desc := "()B" } : Jvm.MethodName) jdk_42_method_152_code (1 : Nat) (Option.some Jvm.ClassFile.FieldType.byte)).before args0 about1 = true := code_word (m := ⟨8, 6⟩) (meth := k8m6) (c := k8c6) (by decide +kernel) rfl rfl rfl (by decide +kernel)
set_option maxRecDepth 65536 in
theorem w_c20 : (Jvm.Cond.code ({ cls := "java/lang/String", name := "charAt", desc := "(I)C" } : Jvm.MethodName) jdk_42_method_56_code (2 : Nat) (Option.some Jvm.ClassFile.FieldType.char)).before args0 about1 = true := code_word (m := ⟨8, 3⟩) (meth := k8m3) (c := k8c3) (by decide +kernel) rfl rfl rfl (by decide +kernel)
set_option maxRecDepth 65536 in
theorem w_c21 : (Jvm.Cond.code ({ cls := "java/lang/String", name := "isLatin1", desc := "()Z" } : Jvm.MethodName) jdk_42_method_154_code (1 : Nat) (Option.some Jvm.ClassFile.FieldType.boolean)).before args0 about1 = true := code_word (m := ⟨8, 7⟩) (meth := k8m7) (c := k8c7) (by decide +kernel) rfl rfl rfl (by decide +kernel)
set_option maxRecDepth 65536 in
theorem w_c22 : (Jvm.Cond.code ({ cls := "java/lang/StringUTF16", name := "charAt", desc := "([BI)C" } : Jvm.MethodName) jdk_52_method_83_code (2 : Nat) (Option.some Jvm.ClassFile.FieldType.char)).before args0 about1 = true := code_word (m := ⟨9, 10⟩) (meth := k9m10) (c := k9c10) (by decide +kernel) rfl rfl rfl (by decide +kernel)
set_option maxRecDepth 65536 in
theorem w_c23 : (Jvm.Cond.code ({ cls := "java/lang/StringUTF16", name := "checkIndex", desc := "(I[B)V" } : Jvm.MethodName) jdk_52_method_91_code (2 : Nat) (Option.none : Option Jvm.ClassFile.FieldType)).before args0 about1 = true := code_word (m := ⟨9, 11⟩) (meth := k9m11) (c := k9c11) (by decide +kernel) rfl rfl rfl (by decide +kernel)
set_option maxRecDepth 65536 in
theorem w_c24 : (Jvm.Cond.code ({ cls := "java/lang/StringUTF16", name := "length", desc := "([B)I" } : Jvm.MethodName) jdk_52_method_6_code (1 : Nat) (Option.some Jvm.ClassFile.FieldType.int)).before args0 about1 = true := code_word (m := ⟨9, 5⟩) (meth := k9m5) (c := k9c5) (by decide +kernel) rfl rfl rfl (by decide +kernel)
set_option maxRecDepth 65536 in
theorem w_c25 : (Jvm.Cond.code ({ cls := "java/lang/String", name := "checkIndex", desc := "(II)V" } : Jvm.MethodName) jdk_42_method_155_code (2 : Nat) (Option.none : Option Jvm.ClassFile.FieldType)).before args0 about1 = true := code_word (m := ⟨8, 8⟩) (meth := k8m8) (c := k8c8) (by decide +kernel) rfl rfl rfl (by decide +kernel)
set_option maxRecDepth 65536 in
theorem w_c26 : (Jvm.Cond.code ({ cls := "jdk/internal/util/Preconditions", name := "checkIndex", desc := "(IILjava/util/function/BiFunction;)I" } : Jvm.MethodName) jdk_41_method_11_code (3 : Nat) (Option.some Jvm.ClassFile.FieldType.int)).before args0 about1 = true := code_word (m := ⟨11, 1⟩) (meth := k11m1) (c := k11c1) (by decide +kernel) rfl rfl rfl (by decide +kernel)
set_option maxRecDepth 65536 in
theorem w_c27 : (Jvm.Cond.code ({ cls := "java/lang/Character", name := "isHighSurrogate", desc := "(C)Z" } : Jvm.MethodName) jdk_89_method_14_code (1 : Nat) (Option.some Jvm.ClassFile.FieldType.boolean)).before args0 about1 = true := code_word (m := ⟨10, 0⟩) (meth := k10m0) (c := k10c0) (by decide +kernel) rfl rfl rfl (by decide +kernel)
set_option maxRecDepth 65536 in
theorem w_c28 : (Jvm.Cond.code ({ cls := "com/example/passagework/passagework/CodePointsIndexOfPinLaw", name := "isLow", desc := "(C)Z" } : Jvm.MethodName) method_4_code (1 : Nat) (Option.some Jvm.ClassFile.FieldType.boolean)).before args0 about1 = true := code_word (m := ⟨1, 3⟩) (meth := k1m3) (c := k1c3) (by decide +kernel) rfl rfl rfl (by decide +kernel)
set_option maxRecDepth 65536 in
theorem w_c29 : (Jvm.Cond.code ({ cls := "java/lang/Character", name := "isLowSurrogate", desc := "(C)Z" } : Jvm.MethodName) jdk_89_method_15_code (1 : Nat) (Option.some Jvm.ClassFile.FieldType.boolean)).before args0 about1 = true := code_word (m := ⟨10, 1⟩) (meth := k10m1) (c := k10c1) (by decide +kernel) rfl rfl rfl (by decide +kernel)
set_option maxRecDepth 65536 in
theorem w_c30 : (Jvm.Cond.code ({ cls := "java/lang/StringLatin1", name := "charAt", desc := "([BI)C" } : Jvm.MethodName) jdk_43_method_2_code (2 : Nat) (Option.some Jvm.ClassFile.FieldType.char)).before args0 about1 = true := code_word (m := ⟨12, 1⟩) (meth := k12m1) (c := k12c1) (by decide +kernel) rfl rfl rfl (by decide +kernel)
def codes1 : List Jvm.Cond := [Jvm.Cond.code x code maxLocals ret, Jvm.Cond.code ({ cls := "com/example/passagework/passagework/CodePointsIndexOfPinLaw", name := "ch", desc := "(I)C" } : Jvm.MethodName) method_2_code (3 : Nat) (Option.some Jvm.ClassFile.FieldType.char), Jvm.Cond.code ({ cls := "com/example/passagework/passagework/CodePointsIndexOfPinLaw", name := "isHigh", desc := "(C)Z" } : Jvm.MethodName) method_3_code (1 : Nat) (Option.some Jvm.ClassFile.FieldType.boolean), Jvm.Cond.code ({ cls := "java/lang/String", name := "<init>", desc := "([C)V" } : Jvm.MethodName) jdk_42_method_3_code (2 : Nat) (Option.none : Option Jvm.ClassFile.FieldType), Jvm.Cond.code ({ cls := "java/lang/String", name := "<init>", desc := "([CIILjava/lang/Void;)V" } : Jvm.MethodName) jdk_42_method_149_code (6 : Nat) (Option.none : Option Jvm.ClassFile.FieldType), Jvm.Cond.code ({ cls := "java/lang/Object", name := "<init>", desc := "()V" } : Jvm.MethodName) object_method_1_code (1 : Nat) (Option.none : Option Jvm.ClassFile.FieldType), Jvm.Cond.code ({ cls := "java/lang/StringUTF16", name := "compress", desc := "([CII)[B" } : Jvm.MethodName) jdk_52_method_16_code (6 : Nat) (Option.some (Jvm.ClassFile.FieldType.array Jvm.ClassFile.FieldType.byte)), Jvm.Cond.code ({ cls := "java/lang/StringUTF16", name := "compress", desc := "([CI[BII)I" } : Jvm.MethodName) jdk_52_method_21_code (7 : Nat) (Option.some Jvm.ClassFile.FieldType.int), Jvm.Cond.code ({ cls := "java/lang/StringUTF16", name := "toBytes", desc := "([CII)[B" } : Jvm.MethodName) jdk_52_method_14_code (5 : Nat) (Option.some (Jvm.ClassFile.FieldType.array Jvm.ClassFile.FieldType.byte)), Jvm.Cond.code ({ cls := "java/lang/StringUTF16", name := "newBytesFor", desc := "(I)[B" } : Jvm.MethodName) jdk_52_method_2_code (1 : Nat) (Option.some (Jvm.ClassFile.FieldType.array Jvm.ClassFile.FieldType.byte)), Jvm.Cond.code ({ cls := "java/lang/StringUTF16", name := "newBytesLength", desc := "(I)I" } : Jvm.MethodName) jdk_52_method_3_code (1 : Nat) (Option.some Jvm.ClassFile.FieldType.int), Jvm.Cond.code ({ cls := "java/lang/StringUTF16", name := "putChar", desc := "([BII)V" } : Jvm.MethodName) jdk_52_method_4_code (3 : Nat) (Option.none : Option Jvm.ClassFile.FieldType), Jvm.Cond.code ({ cls := "java/lang/StringUTF16", name := "getChar", desc := "([BI)C" } : Jvm.MethodName) jdk_52_method_5_code (2 : Nat) (Option.some Jvm.ClassFile.FieldType.char), Jvm.Cond.code ({ cls := "java/lang/StringUTF16", name := "coderFromArrayLen", desc := "([BI)B" } : Jvm.MethodName) jdk_52_method_15_code (2 : Nat) (Option.some Jvm.ClassFile.FieldType.byte), Jvm.Cond.code ({ cls := "com/example/passagework/passagework/CodePoints", name := "<init>", desc := "(Ljava/lang/String;)V" } : Jvm.MethodName) prog_5_method_1_code (2 : Nat) (Option.none : Option Jvm.ClassFile.FieldType), Jvm.Cond.code ({ cls := "com/example/passagework/passagework/CodePoints", name := "indexOf", desc := "(I)I" } : Jvm.MethodName) prog_5_method_5_code (2 : Nat) (Option.some Jvm.ClassFile.FieldType.int), Jvm.Cond.code ({ cls := "java/lang/String", name := "offsetByCodePoints", desc := "(II)I" } : Jvm.MethodName) jdk_42_method_60_code (3 : Nat) (Option.some Jvm.ClassFile.FieldType.int), Jvm.Cond.code ({ cls := "java/lang/Character", name := "offsetByCodePoints", desc := "(Ljava/lang/CharSequence;II)I" } : Jvm.MethodName) jdk_89_method_36_code (6 : Nat) (Option.some Jvm.ClassFile.FieldType.int), Jvm.Cond.code ({ cls := "java/lang/String", name := "length", desc := "()I" } : Jvm.MethodName) jdk_42_method_54_code (1 : Nat) (Option.some Jvm.ClassFile.FieldType.int), Jvm.Cond.code ({ cls := "java/lang/String", name := "coder", desc := "()B" } : Jvm.MethodName) jdk_42_method_152_code (1 : Nat) (Option.some Jvm.ClassFile.FieldType.byte), Jvm.Cond.code ({ cls := "java/lang/String", name := "charAt", desc := "(I)C" } : Jvm.MethodName) jdk_42_method_56_code (2 : Nat) (Option.some Jvm.ClassFile.FieldType.char), Jvm.Cond.code ({ cls := "java/lang/String", name := "isLatin1", desc := "()Z" } : Jvm.MethodName) jdk_42_method_154_code (1 : Nat) (Option.some Jvm.ClassFile.FieldType.boolean), Jvm.Cond.code ({ cls := "java/lang/StringUTF16", name := "charAt", desc := "([BI)C" } : Jvm.MethodName) jdk_52_method_83_code (2 : Nat) (Option.some Jvm.ClassFile.FieldType.char), Jvm.Cond.code ({ cls := "java/lang/StringUTF16", name := "checkIndex", desc := "(I[B)V" } : Jvm.MethodName) jdk_52_method_91_code (2 : Nat) (Option.none : Option Jvm.ClassFile.FieldType), Jvm.Cond.code ({ cls := "java/lang/StringUTF16", name := "length", desc := "([B)I" } : Jvm.MethodName) jdk_52_method_6_code (1 : Nat) (Option.some Jvm.ClassFile.FieldType.int), Jvm.Cond.code ({ cls := "java/lang/String", name := "checkIndex", desc := "(II)V" } : Jvm.MethodName) jdk_42_method_155_code (2 : Nat) (Option.none : Option Jvm.ClassFile.FieldType), Jvm.Cond.code ({ cls := "jdk/internal/util/Preconditions", name := "checkIndex", desc := "(IILjava/util/function/BiFunction;)I" } : Jvm.MethodName) jdk_41_method_11_code (3 : Nat) (Option.some Jvm.ClassFile.FieldType.int), Jvm.Cond.code ({ cls := "java/lang/Character", name := "isHighSurrogate", desc := "(C)Z" } : Jvm.MethodName) jdk_89_method_14_code (1 : Nat) (Option.some Jvm.ClassFile.FieldType.boolean), Jvm.Cond.code ({ cls := "com/example/passagework/passagework/CodePointsIndexOfPinLaw", name := "isLow", desc := "(C)Z" } : Jvm.MethodName) method_4_code (1 : Nat) (Option.some Jvm.ClassFile.FieldType.boolean), Jvm.Cond.code ({ cls := "java/lang/Character", name := "isLowSurrogate", desc := "(C)Z" } : Jvm.MethodName) jdk_89_method_15_code (1 : Nat) (Option.some Jvm.ClassFile.FieldType.boolean), Jvm.Cond.code ({ cls := "java/lang/StringLatin1", name := "charAt", desc := "([BI)C" } : Jvm.MethodName) jdk_43_method_2_code (2 : Nat) (Option.some Jvm.ClassFile.FieldType.char)]
set_option maxRecDepth 65536 in
theorem codes_eq : words1.filter isCode = codes1 := rfl
theorem w_codes : ∀ c ∈ words1.filter isCode, c.before args0 about1 = true := by
  rw [codes_eq]
  intro c hc
  simp only [codes1, List.mem_cons, List.not_mem_nil, or_false] at hc
  rcases hc with rfl | rfl | rfl | rfl | rfl | rfl | rfl | rfl | rfl | rfl | rfl | rfl | rfl | rfl | rfl | rfl | rfl | rfl | rfl | rfl | rfl | rfl | rfl | rfl | rfl | rfl | rfl | rfl | rfl | rfl | rfl
  · exact w_c0
  · exact w_c1
  · exact w_c2
  · exact w_c3
  · exact w_c4
  · exact w_c5
  · exact w_c6
  · exact w_c7
  · exact w_c8
  · exact w_c9
  · exact w_c10
  · exact w_c11
  · exact w_c12
  · exact w_c13
  · exact w_c14
  · exact w_c15
  · exact w_c16
  · exact w_c17
  · exact w_c18
  · exact w_c19
  · exact w_c20
  · exact w_c21
  · exact w_c22
  · exact w_c23
  · exact w_c24
  · exact w_c25
  · exact w_c26
  · exact w_c27
  · exact w_c28
  · exact w_c29
  · exact w_c30
set_option maxRecDepth 65536 in
theorem w_t1 : (words1.take 24).all (fun c => isCode c || c.before args0 about1) = true := by decide +kernel
set_option maxRecDepth 65536 in
theorem w_t2 : ((words1.drop 24).take 24).all (fun c => isCode c || c.before args0 about1) = true := by decide +kernel
set_option maxRecDepth 65536 in
theorem w_t3 : (((words1.drop 24).drop 24).take 24).all (fun c => isCode c || c.before args0 about1) = true := by decide +kernel
set_option maxRecDepth 65536 in
theorem w_t4 : ((((words1.drop 24).drop 24).drop 24).take 24).all (fun c => isCode c || c.before args0 about1) = true := by decide +kernel
set_option maxRecDepth 65536 in
theorem w_t5 : (((((words1.drop 24).drop 24).drop 24).drop 24).take 24).all (fun c => isCode c || c.before args0 about1) = true := by decide +kernel
set_option maxRecDepth 65536 in
theorem w_t6 : ((((((words1.drop 24).drop 24).drop 24).drop 24).drop 24).take 24).all (fun c => isCode c || c.before args0 about1) = true := by decide +kernel
set_option maxRecDepth 65536 in
theorem w_t7 : ((((((words1.drop 24).drop 24).drop 24).drop 24).drop 24).drop 24).all (fun c => isCode c || c.before args0 about1) = true := by decide +kernel
theorem w_tables : (allAtoms (Jvm.Cond.code x code maxLocals ret :: tables_1)).before args0 about1 = true := by
  rw [allAtoms_all]
  show words1.all (fun c => c.before args0 about1) = true
  refine all_split ?_ w_codes
  rw [← List.take_append_drop 24 words1, List.all_append, w_t1, ← List.take_append_drop 24 (words1.drop 24), List.all_append, w_t2, ← List.take_append_drop 24 ((words1.drop 24).drop 24), List.all_append, w_t3, ← List.take_append_drop 24 (((words1.drop 24).drop 24).drop 24), List.all_append, w_t4, ← List.take_append_drop 24 ((((words1.drop 24).drop 24).drop 24).drop 24), List.all_append, w_t5, ← List.take_append_drop 24 (((((words1.drop 24).drop 24).drop 24).drop 24).drop 24), List.all_append, w_t6, w_t7]
  rfl
set_option maxRecDepth 65536 in
theorem w_rest : rest_1_c.before args0 about1 = true := by decide +kernel
set_option maxRecDepth 65536 in
theorem w_case : (Jvm.Cond.and given_1 narrow_1).before args0 about1 = true := by decide +kernel
theorem w_applies : (headSpec (Jvm.Cond.code x code maxLocals ret :: tables_1) room_1).applies x e0.platform about1 = true :=
  (Spec.applies_iff w_frames).mpr ⟨w_running, w_runnable, w_alone, w_named, w_hears, w_ripe, w_room, w_tables⟩
theorem atStart : AtStart classFile x code maxLocals ret World_1 tables_1 room_1 Calls_1 rest_1 Pre_1 launch0 p0 e0 about1 theMethod args0 below0 :=
  ⟨lists_1, trivial, launch0.admits_env _ _ _, launch0.least_env, fairChoices_fair.cas, fairChoices_fair.clock, w_frames, w_args, w_heap, w_applies, trivial, w_rest, w_case⟩
end start1
theorem witness_1 : WitnessClaimed_1 := ⟨start1.p0, start1.e0, start1.about1, start1.theMethod, start1.args0, start1.below0, start1.atStart⟩
end Jvm.Pilot.@@N@@
