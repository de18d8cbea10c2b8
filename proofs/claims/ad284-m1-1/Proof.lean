import JvmDerived
import JvmDerived.Pilot.@@N@@Statement
import JvmDerived.Pilot.@@N@@Code
set_option linter.unusedVariables false
set_option linter.unusedSimpArgs false
namespace Jvm.Pilot.@@N@@
open Jvm Jvm.ClassFile Sem Op Lib Jvm.Free Jvm.Stand Jvm.LawKit Jvm.RoadKit Bundle Jvm.Pilot.@@N@@.Jvm.D
/-! the run of one body: Cx holds what is fixed while it runs -/
abbrev Cx : Type := Program × Env × State × MethodId × Array Value × List Frame × Method × Code
abbrev kp (K : Cx) : Program := K.1
abbrev ke (K : Cx) : Env := K.2.1
abbrev ks (K : Cx) : State := K.2.2.1
abbrev km (K : Cx) : MethodId := K.2.2.2.1
abbrev ka (K : Cx) : Array Value := K.2.2.2.2.1
abbrev kb (K : Cx) : List Frame := K.2.2.2.2.2.1
abbrev kt (K : Cx) : Method := K.2.2.2.2.2.2.1
abbrev kc (K : Cx) : Code := K.2.2.2.2.2.2.2
/-- what is returned: nothing where the method is void -/
def Rv (ret : Option FieldType) (w : Value) : Option Value := match ret with
  | none => none
  | some _ => some w
/-- the places written lie in 'ws' or are new -/
def Nw (h0 : Heap) (ws : List Addr) (L : List Loc) : Prop := ∀ x ∈ L, x.base ∈ ws ∨ h0.size ≤ x.base
theorem Nw.nil {h0 : Heap} {ws : List Addr} : Nw h0 ws [] := fun _ q => nomatch q
theorem Nw.app {h0 : Heap} {ws : List Addr} {L L' : List Loc} (a : Nw h0 ws L) (b : Nw h0 ws L') : Nw h0 ws (L ++ L') := fun x q => (List.mem_append.mp q).elim (a x) (b x)
theorem Nw.one {h0 : Heap} {ws : List Addr} {L : List Loc} {a : Addr} {i : Nat} (p : Nw h0 ws L) (q : a ∈ ws ∨ h0.size ≤ a) : Nw h0 ws (L ++ [⟨a, i⟩]) := p.app fun x hx => by cases List.mem_singleton.mp hx; exact q
theorem st_any {l L' : Array Slot} {i : Nat} {v : Value} {o : Slot} (h1 : l[i]? = some o) (ho : One o) (hv : v.category = 1) (e : l.setIfInBounds i (.val v) = L') : storeLocals l i v = some L' := e ▸ XS.store1 h1 ho hv
theorem keep_same {s t : State} {L : List Loc} {k n : Nat} {h0 : Heap} {ws : List Addr} (F : s.sameButNew t L k n) (e : s.heap = h0) (N : Nw h0 ws L) : Keep h0 t.heap ws := by
  subst e
  obtain ⟨-, h2, -, -, -, h3⟩ := F
  refine ⟨h2, fun x c hc hx => ?_, fun x c hc => ?_⟩
  · obtain ⟨c', q1, q2, q3, q4⟩ := h3 x c hc
    have lt := (Array.getElem?_eq_some_iff.mp hc).1
    have : c'.slots = c.slots := Array.ext_getElem? fun i => q4 i fun hm => (N _ hm).elim hx fun q => Nat.not_lt.mpr q lt
    rw [q1, q2, this]
  · obtain ⟨c', q1, q2, q3, -⟩ := h3 x c hc
    exact ⟨c', q1, by rw [q2], by rw [q2], q3⟩
def Ok (Z : State) (n0 : Nat) (EL : List (String × Nat)) (mn : MethodName) (bytes : ByteArray) (ml : Nat) (ret : Option FieldType) (h0 : Heap) (ws : List Addr) (K : Cx) : Prop :=
  (kp K).tables.exec = Jvm.exec ∧ (kc K).code = bytes ∧ (kc K).maxLocals = ml ∧ (ks K).vm.findClass mn.cls = some (km K).cls ∧ (kt K).name = mn.name ∧ Z.Warmed39 (ks K).vm ∧ (kt K).sig.returnType = ret ∧ (kt K).locks = false ∧ (ks K).heap = h0 ∧ Old Z n0 h0 ∧ (∀ x ∈ ws, n0 ≤ x) ∧ ∃ a0, EW Z a0 EL
/-- where the run stands: over the true start with the tables vm0 (a constant may have been interned since) -/
def Sd (l : Launch) (Z : State) (EL : List (String × Nat)) (mn : MethodName) (R : Room) (h0 : Heap) (ws : List Addr) (K : Cx) (sf : List Addr) (h : Heap) (k n : Nat) (T : State) (locs : List Loc) (vm0 : Vm) (k0 : Nat) : Prop :=
  Stand (kp K) l (ke K) R ((ks K).setVm vm0) (km K) (ka K) (kb K) (kt K) (kc K) T locs k n ∧ T.heap = h ∧ Nw h0 ws locs ∧ (ks K).Since vm0 k0 ∧ k0 ≤ h.size ∧ Z.Warmed39 vm0 ∧ vm0.findClass mn.cls = some (km K).cls ∧ CHr Z EL (ks K).vm h0 vm0 h ∧ ∀ x ∈ sf, x < h.size ∧ Safe Z EL vm0 h x
/-- from the frame (pc, Ls, st), with the heap h, k cells and n slots made, the body's run ends, and Q holds of what it returns and of its last heap; sf: objects that are no constant's String nor its bytes -/
def Go (l : Launch) (Z : State) (n0 : Nat) (EL : List (String × Nat)) (mn : MethodName) (bytes : ByteArray) (ml : Nat) (ret : Option FieldType) (R : Room) (h0 : Heap) (ws : List Addr) (fr : Bool) (Q : Value → Heap → Prop) (K : Cx) (sf : List Addr) (h : Heap) (k n pc : Nat) (Ls : Array Slot) (st : List Value) : Prop :=
  Ok Z n0 EL mn bytes ml ret h0 ws K → ∀ (T : State) (locs : List Loc) (vm0 : Vm) (k0 : Nat), Sd l Z EL mn R h0 ws K sf h k n T locs vm0 k0 →
    ∃ s₂ w L, Steps (kp K).tables (ke K) (kb K) (T.setTop (mkF (km K) pc Ls st)) s₂ ∧ s₂.status = .running ∧ Ended s₂ (kb K) (.returned (Rv ret w)) ∧ Q w s₂.heap ∧ Nw h0 ws L ∧ (fr = true → ∀ a, w = .ref a → a < s₂.heap.size ∧ Safe Z EL s₂.vm s₂.heap a) ∧ CHr Z EL (ks K).vm h0 s₂.vm s₂.heap ∧ ReturnedEndW (ks K) (.returned (Rv ret w)) s₂ L R.cells R.slots
/-- what a contract leaves, beside the frame -/
def Qe (Z : State) (EL : List (String × Nat)) (ret : Option FieldType) (h0 : Heap) (ws : List Addr) (fr : Bool) (Q : Value → Heap → Prop) (v : Option Value) (vm' : Vm) (h' : Heap) (L : List Loc) : Prop :=
  (∃ w, v = Rv ret w ∧ Q w h' ∧ Keep h0 h' ws ∧ (fr = true → ∀ a, w = .ref a → a < h'.size ∧ Safe Z EL vm' h' a)) ∧ Nw h0 ws L
/-- a body's contract: called with 'as' at the heap h0 it returns, Q holds, and it writes none of the old cells but those in ws -/
def Con (l : Launch) (Z : State) (n0 : Nat) (EL : List (String × Nat)) (mn : MethodName) (bytes : ByteArray) (ml : Nat) (ret : Option FieldType) (wl : List Jvm.Cond) (R : Room) (as : Array Value) (h0 : Heap) (ws : List Addr) (fr : Bool) (Q : Value → Heap → Prop) : Prop :=
  Old Z n0 h0 → (∀ x ∈ ws, n0 ≤ x) → (∃ a0, EW Z a0 EL) → MetFree l mn (head1 (Jvm.Cond.code mn bytes ml ret :: wl) R) (fun a U => a = as ∧ Z.Warmed39 U.vm ∧ U.heap = h0 ∧ CHv Z EL U.vm h0 ∧ ∀ x ∈ ws, x < h0.size ∧ Safe Z EL U.vm h0 x) (fun _ _ _ _ _ => True)
    (fun _ U o U' => ∃ v L, o = .returned v ∧ Qe Z EL ret h0 ws fr Q v U'.vm U'.heap L ∧ CHr Z EL U.vm U.heap U'.vm U'.heap ∧ ReturnedEndW U o U' L R.cells R.slots)
section Base
variable {l : Launch} {Z : State} {n0 : Nat} {EL : List (String × Nat)} {mn : MethodName} {bytes : ByteArray} {ml : Nat} {ret : Option FieldType} {R : Room} {h0 : Heap} {ws : List Addr} {fr : Bool} {Q : Value → Heap → Prop} {K : Cx} {sf : List Addr} {h : Heap} {k n pc pc' : Nat} {Ls : Array Slot} {st : List Value} {a0 : Array Value}
theorem con_of {wl : List Jvm.Cond} {as : Array Value} (hp : plainFor mn = true) (hef : ∀ m, entryFrame m as ml = mkF m 0 Ls []) (G : ∀ K, Go l Z n0 EL mn bytes ml ret R h0 ws fr Q K ws h0 0 0 0 Ls []) : Con l Z n0 EL mn bytes ml ret wl R as h0 ws fr Q := by
  intro ho hws hEL
  refine MetFree.of_bodySF hp hisR ?_
  intro p e s m args below meth c s₁ Bd hml0 hP hK
  obtain ⟨rfl, hZ, hh, hC, hSf⟩ := hP
  have X0 := Stand.of_body Bd
  have hown := findClass_of_methodNamed Bd.named
  obtain ⟨s₂, w, L, h1, h2, h3, h4, h5, h6, h7, h8⟩ := G (p, e, s, m, args, below, meth, c) ⟨Bd.exec, Bd.bytes, hml0, hown, (name_of_methodNamed Bd.named Bd.method).1, hZ, Bd.returns, Bd.notSynchronized, hh, ho, hws, hEL⟩ s₁ [] s.vm 0 ⟨X0, by rw [← hh, Bd.state]; rfl, Nw.nil, (State.WarmedH.refl s).since 0, Nat.zero_le _, hZ, hown, CHr.refl hC, hSf⟩
  exact ⟨s₂, _, castTop (hef m) h1, h2, h3, _, L, rfl, ⟨⟨w, rfl, h4, (keep_same h8.2.2.2 hh h5 :), h6⟩, h5⟩, by rw [show s.heap = h0 from hh]; exact h7, h8⟩
theorem con_mono {wl : List Jvm.Cond} {as : Array Value} {Q' : Value → Heap → Prop} (C : Con l Z n0 EL mn bytes ml ret wl R as h0 ws fr Q) (H : ∀ w h', Keep h0 h' ws → Q w h' → Q' w h') : Con l Z n0 EL mn bytes ml ret wl R as h0 ws fr Q' := by
  intro ho hws hEL p e ha hc hk s m args below hf happ hP hK
  obtain ⟨n, o, h1, h2, h3, v, L, q1, ⟨⟨w, q2, q3, q4, q4'⟩, q5⟩, q6⟩ := C ho hws hEL p e ha hc hk s m args below hf happ hP hK
  exact ⟨n, o, h1, h2, h3, v, L, q1, ⟨⟨w, q2, H w _ q4 q3, q4, q4'⟩, q5⟩, q6⟩
theorem old_at (ok : Ok Z n0 EL mn bytes ml ret h0 ws K) {T : State} {locs : List Loc} {vm0 : Vm} {k0 : Nat} (X : Sd l Z EL mn R h0 ws K sf h k n T locs vm0 k0) : Old Z n0 h ∧ Keep h0 h ws := by
  obtain ⟨-, -, -, -, -, -, -, -, eh, ho, hws, -⟩ := ok
  have Kp : Keep h0 T.heap ws := (keep_same X.1.same eh X.2.2.1 :)
  exact ⟨X.2.1 ▸ ho.keep Kp hws, X.2.1 ▸ Kp⟩
theorem go_old (G : Old Z n0 h → Keep h0 h ws → Go l Z n0 EL mn bytes ml ret R h0 ws fr Q K sf h k n pc Ls st) : Go l Z n0 EL mn bytes ml ret R h0 ws fr Q K sf h k n pc Ls st := fun ok T locs vm0 k0 X =>
  G (old_at ok X).1 (old_at ok X).2 ok T locs vm0 k0 X
theorem go_mono {k' n' : Nat} (hk : k ≤ k') (hn : n ≤ n') (G : Go l Z n0 EL mn bytes ml ret R h0 ws fr Q K sf h k' n' pc Ls st) : Go l Z n0 EL mn bytes ml ret R h0 ws fr Q K sf h k n pc Ls st := fun ok T locs vm0 k0 X =>
  G ok T locs vm0 k0 ⟨{ X.1 with same := X.1.same.mono hk hn }, X.2⟩
theorem go_sf {sf' : List Addr} (hs : ∀ x ∈ sf', x ∈ sf) (G : Go l Z n0 EL mn bytes ml ret R h0 ws fr Q K sf' h k n pc Ls st) : Go l Z n0 EL mn bytes ml ret R h0 ws fr Q K sf h k n pc Ls st := fun ok T locs vm0 k0 ⟨a1, a2, a3, a4, a5, a6, a7, a8, a9⟩ =>
  G ok T locs vm0 k0 ⟨a1, a2, a3, a4, a5, a6, a7, a8, fun x hx => a9 x (hs x hx)⟩
theorem go_add {a : Addr} (hE : EL = []) (ha : a < h.size) (G : Go l Z n0 EL mn bytes ml ret R h0 ws fr Q K (a :: sf) h k n pc Ls st) : Go l Z n0 EL mn bytes ml ret R h0 ws fr Q K sf h k n pc Ls st := fun ok T locs vm0 k0 ⟨a1, a2, a3, a4, a5, a6, a7, a8, a9⟩ =>
  G ok T locs vm0 k0 ⟨a1, a2, a3, a4, a5, a6, a7, a8, fun x hx => (List.mem_cons.mp hx).elim (fun q => by subst q hE; exact ⟨ha, fun ⟨p, hp, _⟩ => nomatch hp⟩) (a9 x)⟩
theorem g_pure {Ls' : Array Slot} {st' : List Value} (S : ∀ T t, At T (km K) (kc K) (kb K) → (kp K).tables.exec = Jvm.exec → Steps (kp K).tables (ke K) (kb K) (T.setTop (mkF (km K) pc' Ls' st')) t → (kc K).code = bytes → Steps (kp K).tables (ke K) (kb K) (T.setTop (mkF (km K) pc Ls st)) t)
    (G : Go l Z n0 EL mn bytes ml ret R h0 ws fr Q K sf h k n pc' Ls' st') : Go l Z n0 EL mn bytes ml ret R h0 ws fr Q K sf h k n pc Ls st := fun ok T locs vm0 k0 X => by
  obtain ⟨s₂, w, L, h1, r⟩ := G ok T locs vm0 k0 X
  exact ⟨s₂, w, L, S T _ X.1.here ok.1 h1 ok.2.1, r⟩
theorem g_law {Ls' : Array Slot} {st' : List Value} (S : ∀ (s' T : State) (locs : List Loc), (kp K).tables.exec = Jvm.exec → (kc K).code = bytes → (kc K).maxLocals = ml → s'.vm.findClass mn.cls = some (km K).cls → (kt K).name = mn.name → Z.Warmed39 s'.vm → Stand (kp K) l (ke K) R s' (km K) (ka K) (kb K) (kt K) (kc K) T locs k n → T.heap = h → Old Z n0 h → ∃ T', Stand (kp K) l (ke K) R s' (km K) (ka K) (kb K) (kt K) (kc K) T' locs k n ∧ T'.heap = h ∧ ∀ t, Steps (kp K).tables (ke K) (kb K) (T'.setTop (mkF (km K) pc' Ls' st')) t → Steps (kp K).tables (ke K) (kb K) (T.setTop (mkF (km K) pc Ls st)) t)
    (G : Go l Z n0 EL mn bytes ml ret R h0 ws fr Q K sf h k n pc' Ls' st') : Go l Z n0 EL mn bytes ml ret R h0 ws fr Q K sf h k n pc Ls st := fun ok T locs vm0 k0 X => by
  have ho := (old_at ok X).1
  obtain ⟨a1, a2, a3, a4, a5, a6, a7, a8, a9⟩ := X
  obtain ⟨T', X', e', S'⟩ := S ((ks K).setVm vm0) T locs ok.1 ok.2.1 ok.2.2.1 a7 ok.2.2.2.2.1 a6 a1 a2 ho
  obtain ⟨s₂, w, L, h1, r⟩ := G ok T' locs vm0 k0 ⟨X', e', a3, a4, a5, a6, a7, a8, a9⟩
  exact ⟨s₂, w, L, S' _ h1, r⟩
theorem g_wr {a : Addr} {i : Nat} {v : Value} {Ls' : Array Slot} {st' : List Value} (S : ∀ (s' T : State) (locs : List Loc), (kp K).tables.exec = Jvm.exec → (kc K).code = bytes → (kc K).maxLocals = ml → s'.vm.findClass mn.cls = some (km K).cls → (kt K).name = mn.name → Z.Warmed39 s'.vm → Stand (kp K) l (ke K) R s' (km K) (ka K) (kb K) (kt K) (kc K) T locs k n → T.heap = h → Old Z n0 h → ∃ T' h', Stand (kp K) l (ke K) R s' (km K) (ka K) (kb K) (kt K) (kc K) T' (locs ++ [⟨a, i⟩]) k n ∧ T'.heap = h' ∧ Wr h h' a i v ∧ ∀ t, Steps (kp K).tables (ke K) (kb K) (T'.setTop (mkF (km K) pc' Ls' st')) t → Steps (kp K).tables (ke K) (kb K) (T.setTop (mkF (km K) pc Ls st)) t)
    (hin : a ∈ ws ∨ h0.size ≤ a) (hsf : a ∈ sf) (G : ∀ h', Wr h h' a i v → Go l Z n0 EL mn bytes ml ret R h0 ws fr Q K sf h' k n pc' Ls' st') : Go l Z n0 EL mn bytes ml ret R h0 ws fr Q K sf h k n pc Ls st := fun ok T locs vm0 k0 X => by
  have ho := (old_at ok X).1
  obtain ⟨a1, a2, a3, a4, a5, a6, a7, a8, a9⟩ := X
  obtain ⟨T', h', X', e', W, S'⟩ := S ((ks K).setVm vm0) T locs ok.1 ok.2.1 ok.2.2.1 a7 ok.2.2.2.2.1 a6 a1 a2 ho
  have Sa := (a9 a hsf).2
  obtain ⟨s₂, w, L, h1, r⟩ := G h' W ok T' _ vm0 k0 ⟨X', e', a3.one hin, a4, by rw [W.size]; exact a5, a6, a7, a8.trans (CHr.wr W Sa a8.1), fun x hx => ⟨by rw [W.size]; exact (a9 x hx).1, Safe.wr W Sa a8.1 (a9 x hx).2⟩⟩
  exact ⟨s₂, w, L, S' _ h1, r⟩
theorem g_ext {P : Heap → Prop} {k' n' : Nat} {Ls' : Array Slot} {st' : List Value} (S : ∀ (s' T : State) (locs : List Loc), (kp K).tables.exec = Jvm.exec → (kc K).code = bytes → (kc K).maxLocals = ml → s'.vm.findClass mn.cls = some (km K).cls → (kt K).name = mn.name → Z.Warmed39 s'.vm → Stand (kp K) l (ke K) R s' (km K) (ka K) (kb K) (kt K) (kc K) T locs k n → T.heap = h → Old Z n0 h → ∃ T' h', Stand (kp K) l (ke K) R s' (km K) (ka K) (kb K) (kt K) (kc K) T' locs k' n' ∧ T'.heap = h' ∧ Ext h h' ∧ h.size < h'.size ∧ P h' ∧ ∀ t, Steps (kp K).tables (ke K) (kb K) (T'.setTop (mkF (km K) pc' Ls' st')) t → Steps (kp K).tables (ke K) (kb K) (T.setTop (mkF (km K) pc Ls st)) t)
    (G : ∀ h', Ext h h' → P h' → h0.size ≤ h.size → Go l Z n0 EL mn bytes ml ret R h0 ws fr Q K (h.size :: sf) h' k' n' pc' Ls' st') : Go l Z n0 EL mn bytes ml ret R h0 ws fr Q K sf h k n pc Ls st := fun ok T locs vm0 k0 X => by
  obtain ⟨ho, hKp⟩ := old_at ok X
  obtain ⟨a1, a2, a3, a4, a5, a6, a7, a8, a9⟩ := X
  obtain ⟨T', h', X', e', E, hlt, p, S'⟩ := S ((ks K).setVm vm0) T locs ok.1 ok.2.1 ok.2.2.1 a7 ok.2.2.2.2.1 a6 a1 a2 ho
  obtain ⟨s₂, w, L, h1, r⟩ := G h' E p hKp.1 ok T' _ vm0 k0 ⟨X', e', a3, a4, Nat.le_trans a5 E.1, a6, a7, a8.trans (CHr.ext E a8.1), fun x hx => (List.mem_cons.mp hx).elim (fun q => by subst q; exact ⟨hlt, Safe.ext E a8.1 (Safe.new (Nat.le_refl _))⟩) fun q => ⟨Nat.lt_of_lt_of_le (a9 x q).1 E.1, Safe.ext E a8.1 (a9 x q).2⟩⟩
  exact ⟨s₂, w, L, S' _ h1, r⟩
theorem g_ret {w : Value} (S : ∀ (s' T : State) (locs : List Loc), (kp K).tables.exec = Jvm.exec → (kc K).code = bytes → Stand (kp K) l (ke K) R s' (km K) (ka K) (kb K) (kt K) (kc K) T locs k n → (kt K).sig.returnType = ret → ∀ fs, (∀ (f : JFrame) (acts : List Action), f.method = km K → f.locked = none → f.entered = [] → (doReturn (ke K) (T.setTop f) acts (Rv ret w)).1 = T.setFrames fs) → Steps (kp K).tables (ke K) (kb K) (T.setTop (mkF (km K) pc Ls st)) (T.setFrames fs))
    (hq : Q w h) (hfr : fr = true → ∀ a, w = .ref a → a ∈ sf) (hk : k ≤ R.cells) (hn : n ≤ R.slots) : Go l Z n0 EL mn bytes ml ret R h0 ws fr Q K sf h k n pc Ls st := fun ok T locs vm0 k0 X => by
  obtain ⟨hx, hb, -, -, -, -, hret, hlk, -, -, -, _, hEL⟩ := ok
  obtain ⟨a1, a2, a3, a4, a5, a6, a7, a8, a9⟩ := X
  obtain ⟨fs, hl, hrun, hended, r1, r2, r3, r4⟩ := a1.leaveW a4 (by rw [a2]; exact a5) (v := Rv ret w) (fun q => by rw [hret] at q; subst q; rfl) hlk
  have A := CHv.at a1 a6 hEL a8.1
  subst a2
  exact ⟨_, w, locs, S _ T locs hx hb a1 hret fs hl, hrun, hended, hq, a3, fun e a hw => ⟨(a9 a (hfr e a hw)).1, A.safe (a9 a (hfr e a hw)).1 (a9 a (hfr e a hw)).2⟩, a8.trans A, r1, r2, r3, r4.mono hk hn⟩
theorem g_fr {P : Heap → Prop} {b : Addr} {Ls' : Array Slot} {st' : List Value} (S : ∀ (s' T : State) (locs : List Loc), (kp K).tables.exec = Jvm.exec → (kc K).code = bytes → (kc K).maxLocals = ml → s'.vm.findClass mn.cls = some (km K).cls → (kt K).name = mn.name → Z.Warmed39 s'.vm → Stand (kp K) l (ke K) R s' (km K) (ka K) (kb K) (kt K) (kc K) T locs k n → T.heap = h → Old Z n0 h → Fr h0.size locs → ∃ T' h' L, Stand (kp K) l (ke K) R s' (km K) (ka K) (kb K) (kt K) (kc K) T' L k n ∧ T'.heap = h' ∧ Fr h0.size L ∧ Keep h h' [b] ∧ P h' ∧ ∀ t, Steps (kp K).tables (ke K) (kb K) (T'.setTop (mkF (km K) pc' Ls' st')) t → Steps (kp K).tables (ke K) (kb K) (T.setTop (mkF (km K) pc Ls st)) t)
    (hsf : b ∈ sf) (G : ∀ h', Keep h h' [b] → P h' → Go l Z n0 EL mn bytes ml ret R h0 [] fr Q K sf h' k n pc' Ls' st') : Go l Z n0 EL mn bytes ml ret R h0 [] fr Q K sf h k n pc Ls st := fun ok T locs vm0 k0 X => by
  have ho := (old_at ok X).1
  obtain ⟨a1, a2, a3, a4, a5, a6, a7, a8, a9⟩ := X
  obtain ⟨T', h', L, X', e', F, Kp, p, S'⟩ := S ((ks K).setVm vm0) T locs ok.1 ok.2.1 ok.2.2.1 a7 ok.2.2.2.2.1 a6 a1 a2 ho (fun y hy => (a3 y hy).elim (fun q => nomatch q) id)
  have hs : ∀ x ∈ [b], Safe Z EL vm0 h x := fun x hx => by cases List.mem_singleton.mp hx; exact (a9 b hsf).2
  obtain ⟨s₂, w, L2, h1, r⟩ := G h' Kp p ok T' L vm0 k0 ⟨X', e', fun y hy => Or.inr (F y hy), a4, Nat.le_trans a5 Kp.1, a6, a7, a8.trans (CHr.keep Kp hs a8.1), fun x hx => ⟨Nat.lt_of_lt_of_le (a9 x hx).1 Kp.1, Safe.keep Kp hs a8.1 (a9 x hx).2⟩⟩
  exact ⟨s₂, w, L2, S' _ h1, r⟩
theorem g_call {kc' nc : Nat} {rest : List Value} {wsb : List Addr} {Qc : Option Value → Heap → List Loc → Prop} (S : ∀ (s' T : State) (locs : List Loc), (kp K).tables.exec = Jvm.exec → (kc K).code = bytes → (kc K).maxLocals = ml → s'.vm.findClass mn.cls = some (km K).cls → (kt K).name = mn.name → Z.Warmed39 s'.vm → Stand (kp K) l (ke K) R s' (km K) (ka K) (kb K) (kt K) (kc K) T locs k n → T.heap = h → Old Z n0 h → Keep h0 h ws → ∃ v T' L, Stand (kp K) l (ke K) R s' (km K) (ka K) (kb K) (kt K) (kc K) T' (locs ++ L) (k + kc') (n + nc) ∧ Qc v T'.heap L ∧ ∀ t, Steps (kp K).tables (ke K) (kb K) (T'.setTop (mkF (km K) pc' Ls (v.toList ++ rest))) t → Steps (kp K).tables (ke K) (kb K) (T.setTop (mkF (km K) pc Ls st)) t)
    (hQ : Keep h0 h ws → ∀ v h' L, Qc v h' L → Nw h0 ws L ∧ Keep h h' wsb) (hsf : ∀ x ∈ wsb, x ∈ sf) (G : ∀ v h' L, Qc v h' L → Go l Z n0 EL mn bytes ml ret R h0 ws fr Q K sf h' (k + kc') (n + nc) pc' Ls (v.toList ++ rest)) : Go l Z n0 EL mn bytes ml ret R h0 ws fr Q K sf h k n pc Ls st := fun ok T locs vm0 k0 X => by
  obtain ⟨ho, hKp⟩ := old_at ok X
  obtain ⟨a1, a2, a3, a4, a5, a6, a7, a8, a9⟩ := X
  obtain ⟨v, T', L, X', hq, S'⟩ := S ((ks K).setVm vm0) T locs ok.1 ok.2.1 ok.2.2.1 a7 ok.2.2.2.2.1 a6 a1 a2 ho hKp
  obtain ⟨q1, q2⟩ := hQ hKp _ _ _ hq
  have hs : ∀ x ∈ wsb, Safe Z EL vm0 h x := fun x hx => (a9 x (hsf x hx)).2
  obtain ⟨s₂, w, L2, h1, r⟩ := G v _ L hq ok T' _ vm0 k0 ⟨X', rfl, a3.app q1, a4, Nat.le_trans a5 q2.1, a6, a7, a8.trans (CHr.keep q2 hs a8.1), fun x hx => ⟨Nat.lt_of_lt_of_le (a9 x hx).1 q2.1, Safe.keep q2 hs a8.1 (a9 x hx).2⟩⟩
  exact ⟨s₂, w, L2, S' _ h1, r⟩
theorem backOfX {p : Program} {e : Env} {s : State} {args : Array Value} {below : List Frame} {vm0 : Vm} {y : MethodName} {bytes : ByteArray} {maxL : Nat} {ret : Option FieldType} {rm : Room} {len W : Nat} {as' : Array Value} {Qv : Option Value → Vm → Heap → List Loc → Prop}
    (hM : MetFree l y (head1 [Jvm.Cond.code y bytes maxL ret] rm) (fun a U => a = as' ∧ Z.Warmed39 U.vm ∧ U.heap = h ∧ CHv Z EL U.vm h ∧ ∀ x ∈ ws, x < h.size ∧ Safe Z EL U.vm h x) (fun _ _ _ _ _ => True) (fun _ U o U' => ∃ v L, o = .returned v ∧ Qv v U'.vm U'.heap L ∧ CHr Z EL U.vm U.heap U'.vm U'.heap ∧ ReturnedEndW U o U' L rm.cells rm.slots))
    (hZ : Z.Warmed39 vm0) (wc : (Jvm.Cond.code y bytes maxL ret).before a0 Z = true) (wz : (Jvm.Cond.initialized y.cls).before a0 Z = true) (hf : rm.frames + 1 ≤ R.frames) (hl : W + (maxL + 11) + rm.locals ≤ R.locals) {a1 : Array Value} (hEL : EW Z a1 EL) (H : CHv Z EL vm0 h) (Sf : ∀ x ∈ ws, x < h.size ∧ Safe Z EL vm0 h x) :
    BackS l R p e below (s.setVm vm0) args y len W (fun A a => a = as' ∧ A.U.heap = h ∧ A.cells + rm.cells ≤ R.cells ∧ A.slots + rm.slots ≤ R.slots)
      (fun A _ v B => ∃ L, Qv v B.U.vm B.U.heap L ∧ B.locs = A.locs ++ L ∧ B.cells = A.cells + rm.cells ∧ B.slots = A.slots + rm.slots ∧ CHr Z EL vm0 h B.U.vm B.U.heap) :=
  BackS.of_freeW (bytes := bytes) (maxL := maxL) (ret := ret) (E := fun _ first o t L k n => k = rm.cells ∧ n = rm.slots ∧ (∃ v, o = .returned v ∧ Qv v t.vm t.heap L) ∧ CHr Z EL first.vm first.heap t.vm t.heap) hM hf hl
    (fun m meth c A a Y hp => have hU : Z.Warmed39 A.U.vm := wtrans (s := s.setVm vm0) hZ Y.warmed
      ⟨by show (Jvm.Cond.and _ .tt).before a A.U = true; rw [Cond.before_and, mv hU wc]; rfl, mv hU wc, mv hU wz, hp.2.2.1, hp.2.2.2⟩)
    (fun m meth c A a g mk Y hp => ⟨hp.1, wtrans (s := s.setVm vm0) hZ Y.warmed, hp.2.1, (CHv.at Y hZ hEL H).1, fun x hx => ⟨(Sf x hx).1, (CHv.at Y hZ hEL H).safe (Sf x hx).1 (Sf x hx).2⟩⟩) (fun _ _ _ _ _ _ _ _ _ => trivial)
    (fun _ _ _ _ ⟨v, L, h1, h2, h3, h4⟩ => ⟨L, _, _, h4, rfl, rfl, ⟨v, h1, h2⟩, h3⟩)
    (fun m meth c A a g mk v t L k n Y hp _ _ ⟨e1, e2, ⟨v', e3, e4⟩, e5⟩ => by
      cases e3; subst e1 e2
      refine ⟨L, e4, rfl, rfl, rfl, (CHv.at Y hZ hEL H).trans ?_⟩
      rw [← hp.2.1]; exact e5)
end Base
section Rules
variable {l : Launch} {Z : State} {n0 : Nat} {EL : List (String × Nat)} {mn : MethodName} {bytes : ByteArray} {ml : Nat} {ret : Option FieldType} {R : Room} {h0 : Heap} {ws : List Addr} {fr : Bool} {Q : Value → Heap → Prop} {K : Cx} {sf : List Addr} {h : Heap} {k n pc pc' : Nat} {Ls : Array Slot} {st : List Value} {a0 : Array Value}
theorem g_iadd {x y v : Int32} (hd : decode bytes pc = .ok (.iadd, 1)) (hv : x + y = v) (hp : pc + 1 = pc') (G : Go l Z n0 EL mn bytes ml ret R h0 ws fr Q K sf h k n pc' Ls (.int v :: st)) : Go l Z n0 EL mn bytes ml ret R h0 ws fr Q K sf h k n pc Ls (.int y :: .int x :: st) :=
  g_pure (fun T t H hx k e => by subst hp e hv; exact XS.iadd H hx rfl hd rfl k) G
theorem g_isub {x y v : Int32} (hd : decode bytes pc = .ok (.isub, 1)) (hv : x - y = v) (hp : pc + 1 = pc') (G : Go l Z n0 EL mn bytes ml ret R h0 ws fr Q K sf h k n pc' Ls (.int v :: st)) : Go l Z n0 EL mn bytes ml ret R h0 ws fr Q K sf h k n pc Ls (.int y :: .int x :: st) :=
  g_pure (fun T t H hx k e => by subst hp e hv; exact XS.isub H hx rfl hd rfl k) G
theorem g_imul {x y v : Int32} (hd : decode bytes pc = .ok (.imul, 1)) (hv : x * y = v) (hp : pc + 1 = pc') (G : Go l Z n0 EL mn bytes ml ret R h0 ws fr Q K sf h k n pc' Ls (.int v :: st)) : Go l Z n0 EL mn bytes ml ret R h0 ws fr Q K sf h k n pc Ls (.int y :: .int x :: st) :=
  g_pure (fun T t H hx k e => by subst hp e hv; exact XS.imul H hx rfl hd rfl k) G
theorem g_iand {x y v : Int32} (hd : decode bytes pc = .ok (.iand, 1)) (hv : x &&& y = v) (hp : pc + 1 = pc') (G : Go l Z n0 EL mn bytes ml ret R h0 ws fr Q K sf h k n pc' Ls (.int v :: st)) : Go l Z n0 EL mn bytes ml ret R h0 ws fr Q K sf h k n pc Ls (.int y :: .int x :: st) :=
  g_pure (fun T t H hx k e => by subst hp e hv; exact XS.iand H hx rfl hd rfl k) G
theorem g_ior {x y v : Int32} (hd : decode bytes pc = .ok (.ior, 1)) (hv : x ||| y = v) (hp : pc + 1 = pc') (G : Go l Z n0 EL mn bytes ml ret R h0 ws fr Q K sf h k n pc' Ls (.int v :: st)) : Go l Z n0 EL mn bytes ml ret R h0 ws fr Q K sf h k n pc Ls (.int y :: .int x :: st) :=
  g_pure (fun T t H hx k e => by subst hp e hv; exact XS.ior H hx rfl hd rfl k) G
theorem g_ixor {x y v : Int32} (hd : decode bytes pc = .ok (.ixor, 1)) (hv : x ^^^ y = v) (hp : pc + 1 = pc') (G : Go l Z n0 EL mn bytes ml ret R h0 ws fr Q K sf h k n pc' Ls (.int v :: st)) : Go l Z n0 EL mn bytes ml ret R h0 ws fr Q K sf h k n pc Ls (.int y :: .int x :: st) :=
  g_pure (fun T t H hx k e => by subst hp e hv; exact XS.ixor H hx rfl hd rfl k) G
theorem g_ishl {x y v : Int32} (hd : decode bytes pc = .ok (.ishl, 1)) (hv : x <<< (y &&& 31) = v) (hp : pc + 1 = pc') (G : Go l Z n0 EL mn bytes ml ret R h0 ws fr Q K sf h k n pc' Ls (.int v :: st)) : Go l Z n0 EL mn bytes ml ret R h0 ws fr Q K sf h k n pc Ls (.int y :: .int x :: st) :=
  g_pure (fun T t H hx k e => by subst hp e hv; exact XS.ishl H hx rfl hd rfl k) G
theorem g_ishr {x y v : Int32} (hd : decode bytes pc = .ok (.ishr, 1)) (hv : x >>> (y &&& 31) = v) (hp : pc + 1 = pc') (G : Go l Z n0 EL mn bytes ml ret R h0 ws fr Q K sf h k n pc' Ls (.int v :: st)) : Go l Z n0 EL mn bytes ml ret R h0 ws fr Q K sf h k n pc Ls (.int y :: .int x :: st) :=
  g_pure (fun T t H hx k e => by subst hp e hv; exact XS.ishr H hx rfl hd rfl k) G
theorem g_iushr {x y v : Int32} (hd : decode bytes pc = .ok (.iushr, 1)) (hv : (x.toUInt32 >>> (y &&& 31).toUInt32).toInt32 = v) (hp : pc + 1 = pc') (G : Go l Z n0 EL mn bytes ml ret R h0 ws fr Q K sf h k n pc' Ls (.int v :: st)) : Go l Z n0 EL mn bytes ml ret R h0 ws fr Q K sf h k n pc Ls (.int y :: .int x :: st) :=
  g_pure (fun T t H hx k e => by subst hp e hv; exact XS.iushr H hx rfl hd rfl k) G
theorem g_ladd {x y v : Int64} (hd : decode bytes pc = .ok (.ladd, 1)) (hv : x + y = v) (hp : pc + 1 = pc') (G : Go l Z n0 EL mn bytes ml ret R h0 ws fr Q K sf h k n pc' Ls (.long v :: st)) : Go l Z n0 EL mn bytes ml ret R h0 ws fr Q K sf h k n pc Ls (.long y :: .long x :: st) :=
  g_pure (fun T t H hx k e => by subst hp e hv; exact XS.ladd H hx rfl hd rfl k) G
theorem g_lsub {x y v : Int64} (hd : decode bytes pc = .ok (.lsub, 1)) (hv : x - y = v) (hp : pc + 1 = pc') (G : Go l Z n0 EL mn bytes ml ret R h0 ws fr Q K sf h k n pc' Ls (.long v :: st)) : Go l Z n0 EL mn bytes ml ret R h0 ws fr Q K sf h k n pc Ls (.long y :: .long x :: st) :=
  g_pure (fun T t H hx k e => by subst hp e hv; exact XS.lsub H hx rfl hd rfl k) G
theorem g_lmul {x y v : Int64} (hd : decode bytes pc = .ok (.lmul, 1)) (hv : x * y = v) (hp : pc + 1 = pc') (G : Go l Z n0 EL mn bytes ml ret R h0 ws fr Q K sf h k n pc' Ls (.long v :: st)) : Go l Z n0 EL mn bytes ml ret R h0 ws fr Q K sf h k n pc Ls (.long y :: .long x :: st) :=
  g_pure (fun T t H hx k e => by subst hp e hv; exact XS.lmul H hx rfl hd rfl k) G
theorem g_land {x y v : Int64} (hd : decode bytes pc = .ok (.land, 1)) (hv : x &&& y = v) (hp : pc + 1 = pc') (G : Go l Z n0 EL mn bytes ml ret R h0 ws fr Q K sf h k n pc' Ls (.long v :: st)) : Go l Z n0 EL mn bytes ml ret R h0 ws fr Q K sf h k n pc Ls (.long y :: .long x :: st) :=
  g_pure (fun T t H hx k e => by subst hp e hv; exact XS.land H hx rfl hd rfl k) G
theorem g_irem {x y v : Int32} (hd : decode bytes pc = .ok (.irem, 1)) (hy : y ≠ 0) (hv : x % y = v) (hp : pc + 1 = pc') (G : Go l Z n0 EL mn bytes ml ret R h0 ws fr Q K sf h k n pc' Ls (.int v :: st)) : Go l Z n0 EL mn bytes ml ret R h0 ws fr Q K sf h k n pc Ls (.int y :: .int x :: st) :=
  g_pure (fun T t H hx k e => by subst hp e hv; exact XS.irem H hx rfl hd rfl hy (by rw [irem_eq_mod]; exact k)) G
theorem g_idiv {x y v : Int32} (hd : decode bytes pc = .ok (.idiv, 1)) (hy : y ≠ 0) (hv : x / y = v) (hp : pc + 1 = pc') (G : Go l Z n0 EL mn bytes ml ret R h0 ws fr Q K sf h k n pc' Ls (.int v :: st)) : Go l Z n0 EL mn bytes ml ret R h0 ws fr Q K sf h k n pc Ls (.int y :: .int x :: st) :=
  g_pure (fun T t H hx k e => by subst hp e hv; exact XS.idiv H hx rfl hd rfl hy k) G
theorem g_lrem {x y v : Int64} (hd : decode bytes pc = .ok (.lrem, 1)) (hy : y ≠ 0) (hv : x % y = v) (hp : pc + 1 = pc') (G : Go l Z n0 EL mn bytes ml ret R h0 ws fr Q K sf h k n pc' Ls (.long v :: st)) : Go l Z n0 EL mn bytes ml ret R h0 ws fr Q K sf h k n pc Ls (.long y :: .long x :: st) :=
  g_pure (fun T t H hx k e => by subst hp e hv; exact XS.lrem H hx rfl hd rfl hy (by rw [lrem_mod]; exact k)) G
theorem g_lcmp {x y : Int64} {v : Int32} (hd : decode bytes pc = .ok (.lcmp, 1)) (hv : lcmpW x y = v) (hp : pc + 1 = pc') (G : Go l Z n0 EL mn bytes ml ret R h0 ws fr Q K sf h k n pc' Ls (.int v :: st)) : Go l Z n0 EL mn bytes ml ret R h0 ws fr Q K sf h k n pc Ls (.long y :: .long x :: st) :=
  g_pure (fun T t H hx k e => by subst hp e hv; exact XS.lcmp H hx rfl hd rfl k) G
theorem g_ineg {x : Int32} {v : Int32} (hd : decode bytes pc = .ok (.ineg, 1)) (hv : -x = v) (hp : pc + 1 = pc') (G : Go l Z n0 EL mn bytes ml ret R h0 ws fr Q K sf h k n pc' Ls (.int v :: st)) : Go l Z n0 EL mn bytes ml ret R h0 ws fr Q K sf h k n pc Ls (.int x :: st) :=
  g_pure (fun T t H hx k e => by subst hp e hv; exact XS.ineg H hx rfl hd rfl k) G
theorem g_i2c {x : Int32} {v : Int32} (hd : decode bytes pc = .ok (.i2c, 1)) (hv : x.toUInt32.toUInt16.toUInt32.toInt32 = v) (hp : pc + 1 = pc') (G : Go l Z n0 EL mn bytes ml ret R h0 ws fr Q K sf h k n pc' Ls (.int v :: st)) : Go l Z n0 EL mn bytes ml ret R h0 ws fr Q K sf h k n pc Ls (.int x :: st) :=
  g_pure (fun T t H hx k e => by subst hp e hv; exact XS.i2c H hx rfl hd rfl k) G
theorem g_i2b {x : Int32} {v : Int32} (hd : decode bytes pc = .ok (.i2b, 1)) (hv : x.toInt8.toInt32 = v) (hp : pc + 1 = pc') (G : Go l Z n0 EL mn bytes ml ret R h0 ws fr Q K sf h k n pc' Ls (.int v :: st)) : Go l Z n0 EL mn bytes ml ret R h0 ws fr Q K sf h k n pc Ls (.int x :: st) :=
  g_pure (fun T t H hx k e => by subst hp e hv; exact XS.i2b H hx rfl hd rfl k) G
theorem g_i2s {x : Int32} {v : Int32} (hd : decode bytes pc = .ok (.i2s, 1)) (hv : x.toInt16.toInt32 = v) (hp : pc + 1 = pc') (G : Go l Z n0 EL mn bytes ml ret R h0 ws fr Q K sf h k n pc' Ls (.int v :: st)) : Go l Z n0 EL mn bytes ml ret R h0 ws fr Q K sf h k n pc Ls (.int x :: st) :=
  g_pure (fun T t H hx k e => by subst hp e hv; exact XS.i2s H hx rfl hd rfl k) G
theorem g_i2l {x : Int32} {v : Int64} (hd : decode bytes pc = .ok (.i2l, 1)) (hv : x.toInt64 = v) (hp : pc + 1 = pc') (G : Go l Z n0 EL mn bytes ml ret R h0 ws fr Q K sf h k n pc' Ls (.long v :: st)) : Go l Z n0 EL mn bytes ml ret R h0 ws fr Q K sf h k n pc Ls (.int x :: st) :=
  g_pure (fun T t H hx k e => by subst hp e hv; exact XS.i2l H hx rfl hd rfl k) G
theorem g_l2i {x : Int64} {v : Int32} (hd : decode bytes pc = .ok (.l2i, 1)) (hv : x.toInt32 = v) (hp : pc + 1 = pc') (G : Go l Z n0 EL mn bytes ml ret R h0 ws fr Q K sf h k n pc' Ls (.int v :: st)) : Go l Z n0 EL mn bytes ml ret R h0 ws fr Q K sf h k n pc Ls (.long x :: st) :=
  g_pure (fun T t H hx k e => by subst hp e hv; exact XS.l2i H hx rfl hd rfl k) G
theorem g_iload {i : Nat} {x : Int32} (hd : decode bytes pc = .ok (.iload i, 2)) (hl : Ls[i]? = some (.val (.int x))) (hp : pc + 2 = pc') (G : Go l Z n0 EL mn bytes ml ret R h0 ws fr Q K sf h k n pc' Ls (.int x :: st)) : Go l Z n0 EL mn bytes ml ret R h0 ws fr Q K sf h k n pc Ls st :=
  g_pure (fun T t H hx k e => by subst hp e; exact XS.iload H hx rfl hd hl k) G
theorem g_iloadN {i : Fin 4} {x : Int32} (hd : decode bytes pc = .ok (.iload_n i, 1)) (hl : Ls[i.val]? = some (.val (.int x))) (hp : pc + 1 = pc') (G : Go l Z n0 EL mn bytes ml ret R h0 ws fr Q K sf h k n pc' Ls (.int x :: st)) : Go l Z n0 EL mn bytes ml ret R h0 ws fr Q K sf h k n pc Ls st :=
  g_pure (fun T t H hx k e => by subst hp e; exact XS.iloadN H hx rfl hd hl k) G
theorem g_lload {i : Nat} {x : Int64} (hd : decode bytes pc = .ok (.lload i, 2)) (hl : Ls[i]? = some (.val (.long x))) (hp : pc + 2 = pc') (G : Go l Z n0 EL mn bytes ml ret R h0 ws fr Q K sf h k n pc' Ls (.long x :: st)) : Go l Z n0 EL mn bytes ml ret R h0 ws fr Q K sf h k n pc Ls st :=
  g_pure (fun T t H hx k e => by subst hp e; exact XS.lload H hx rfl hd hl k) G
theorem g_lloadN {i : Fin 4} {x : Int64} (hd : decode bytes pc = .ok (.lload_n i, 1)) (hl : Ls[i.val]? = some (.val (.long x))) (hp : pc + 1 = pc') (G : Go l Z n0 EL mn bytes ml ret R h0 ws fr Q K sf h k n pc' Ls (.long x :: st)) : Go l Z n0 EL mn bytes ml ret R h0 ws fr Q K sf h k n pc Ls st :=
  g_pure (fun T t H hx k e => by subst hp e; exact XS.lloadN H hx rfl hd hl k) G
theorem g_aload {i : Nat} {x : Value} (hd : decode bytes pc = .ok (.aload i, 2)) (hl : Ls[i]? = some (.val (x))) (hv : x.isRef = true) (hp : pc + 2 = pc') (G : Go l Z n0 EL mn bytes ml ret R h0 ws fr Q K sf h k n pc' Ls (x :: st)) : Go l Z n0 EL mn bytes ml ret R h0 ws fr Q K sf h k n pc Ls st :=
  g_pure (fun T t H hx k e => by subst hp e; exact XS.aload H hx rfl hd hl hv k) G
theorem g_aloadN {i : Fin 4} {x : Value} (hd : decode bytes pc = .ok (.aload_n i, 1)) (hl : Ls[i.val]? = some (.val (x))) (hv : x.isRef = true) (hp : pc + 1 = pc') (G : Go l Z n0 EL mn bytes ml ret R h0 ws fr Q K sf h k n pc' Ls (x :: st)) : Go l Z n0 EL mn bytes ml ret R h0 ws fr Q K sf h k n pc Ls st :=
  g_pure (fun T t H hx k e => by subst hp e; exact XS.aloadN H hx rfl hd hl hv k) G
theorem g_istore {i : Nat} {x : Int32} {L' : Array Slot} (hd : decode bytes pc = .ok (.istore i, 2)) (hl : storeLocals Ls i (.int x) = some L') (hp : pc + 2 = pc') (G : Go l Z n0 EL mn bytes ml ret R h0 ws fr Q K sf h k n pc' L' st) : Go l Z n0 EL mn bytes ml ret R h0 ws fr Q K sf h k n pc Ls (.int x :: st) :=
  g_pure (fun T t H hx k e => by subst hp e; exact XS.istore H hx rfl hd rfl hl k) G
theorem g_istoreN {i : Fin 4} {x : Int32} {L' : Array Slot} (hd : decode bytes pc = .ok (.istore_n i, 1)) (hl : storeLocals Ls i.val (.int x) = some L') (hp : pc + 1 = pc') (G : Go l Z n0 EL mn bytes ml ret R h0 ws fr Q K sf h k n pc' L' st) : Go l Z n0 EL mn bytes ml ret R h0 ws fr Q K sf h k n pc Ls (.int x :: st) :=
  g_pure (fun T t H hx k e => by subst hp e; exact XS.istoreN H hx rfl hd rfl hl k) G
theorem g_lstore {i : Nat} {x : Int64} {L' : Array Slot} (hd : decode bytes pc = .ok (.lstore i, 2)) (hl : storeLocals Ls i (.long x) = some L') (hp : pc + 2 = pc') (G : Go l Z n0 EL mn bytes ml ret R h0 ws fr Q K sf h k n pc' L' st) : Go l Z n0 EL mn bytes ml ret R h0 ws fr Q K sf h k n pc Ls (.long x :: st) :=
  g_pure (fun T t H hx k e => by subst hp e; exact XS.lstore H hx rfl hd rfl hl k) G
theorem g_lstoreN {i : Fin 4} {x : Int64} {L' : Array Slot} (hd : decode bytes pc = .ok (.lstore_n i, 1)) (hl : storeLocals Ls i.val (.long x) = some L') (hp : pc + 1 = pc') (G : Go l Z n0 EL mn bytes ml ret R h0 ws fr Q K sf h k n pc' L' st) : Go l Z n0 EL mn bytes ml ret R h0 ws fr Q K sf h k n pc Ls (.long x :: st) :=
  g_pure (fun T t H hx k e => by subst hp e; exact XS.lstoreN H hx rfl hd rfl hl k) G
theorem g_astore {i : Nat} {x : Value} {L' : Array Slot} (hd : decode bytes pc = .ok (.astore i, 2)) (hv : x.isRef = true) (hl : storeLocals Ls i (x) = some L') (hp : pc + 2 = pc') (G : Go l Z n0 EL mn bytes ml ret R h0 ws fr Q K sf h k n pc' L' st) : Go l Z n0 EL mn bytes ml ret R h0 ws fr Q K sf h k n pc Ls (x :: st) :=
  g_pure (fun T t H hx k e => by subst hp e; exact XS.astore H hx rfl hd rfl hv hl k) G
theorem g_astoreN {i : Fin 4} {x : Value} {L' : Array Slot} (hd : decode bytes pc = .ok (.astore_n i, 1)) (hv : x.isRef = true) (hl : storeLocals Ls i.val (x) = some L') (hp : pc + 1 = pc') (G : Go l Z n0 EL mn bytes ml ret R h0 ws fr Q K sf h k n pc' L' st) : Go l Z n0 EL mn bytes ml ret R h0 ws fr Q K sf h k n pc Ls (x :: st) :=
  g_pure (fun T t H hx k e => by subst hp e; exact XS.astoreN H hx rfl hd rfl hv hl k) G
theorem g_iinc {i : Nat} {x v y : Int32} {cst : Int} {L' : Array Slot} (hd : decode bytes pc = .ok (.iinc i cst, 3)) (hv : Int32.ofInt cst = v) (hl : Ls[i]? = some (.val (.int x))) (hy : x + v = y) (hl' : storeLocals Ls i (.int y) = some L') (hp : pc + 3 = pc') (G : Go l Z n0 EL mn bytes ml ret R h0 ws fr Q K sf h k n pc' L' st) : Go l Z n0 EL mn bytes ml ret R h0 ws fr Q K sf h k n pc Ls st :=
  g_pure (fun T t H hx k e => by subst hp e hv hy; exact XS.iinc H hx rfl hd hl hl' k) G
theorem g_iconst {i : Int} {v : Int32} (hd : decode bytes pc = .ok (.iconst i, 1)) (hv : Int32.ofInt i = v) (hp : pc + 1 = pc') (G : Go l Z n0 EL mn bytes ml ret R h0 ws fr Q K sf h k n pc' Ls (.int v :: st)) : Go l Z n0 EL mn bytes ml ret R h0 ws fr Q K sf h k n pc Ls st :=
  g_pure (fun T t H hx k e => by subst hp e hv; exact XS.iconst H hx rfl hd k) G
theorem g_bipush {i : Int} {v : Int32} (hd : decode bytes pc = .ok (.bipush i, 2)) (hv : (Int8.ofInt i).toInt32 = v) (hp : pc + 2 = pc') (G : Go l Z n0 EL mn bytes ml ret R h0 ws fr Q K sf h k n pc' Ls (.int v :: st)) : Go l Z n0 EL mn bytes ml ret R h0 ws fr Q K sf h k n pc Ls st :=
  g_pure (fun T t H hx k e => by subst hp e hv; exact XS.bipush H hx rfl hd k) G
theorem g_sipush {i : Int} {v : Int32} (hd : decode bytes pc = .ok (.sipush i, 3)) (hv : (Int16.ofInt i).toInt32 = v) (hp : pc + 3 = pc') (G : Go l Z n0 EL mn bytes ml ret R h0 ws fr Q K sf h k n pc' Ls (.int v :: st)) : Go l Z n0 EL mn bytes ml ret R h0 ws fr Q K sf h k n pc Ls st :=
  g_pure (fun T t H hx k e => by subst hp e hv; exact XS.sipush H hx rfl hd k) G
theorem g_lconst {i : Fin 2} {v : Int64} (hd : decode bytes pc = .ok (.lconst i, 1)) (hv : Int64.ofNat i = v) (hp : pc + 1 = pc') (G : Go l Z n0 EL mn bytes ml ret R h0 ws fr Q K sf h k n pc' Ls (.long v :: st)) : Go l Z n0 EL mn bytes ml ret R h0 ws fr Q K sf h k n pc Ls st :=
  g_pure (fun T t H hx k e => by subst hp e hv; exact XS.lconst H hx rfl hd k) G
theorem g_null (hd : decode bytes pc = .ok (.aconst_null, 1)) (hp : pc + 1 = pc') (G : Go l Z n0 EL mn bytes ml ret R h0 ws fr Q K sf h k n pc' Ls (.null :: st)) : Go l Z n0 EL mn bytes ml ret R h0 ws fr Q K sf h k n pc Ls st :=
  g_pure (fun T t H hx k e => by subst hp e; exact XS.aconstNull H hx rfl hd k) G
theorem g_dup {x : Value} (hd : decode bytes pc = .ok (.dup, 1)) (hc : x.category = 1) (hp : pc + 1 = pc') (G : Go l Z n0 EL mn bytes ml ret R h0 ws fr Q K sf h k n pc' Ls (x :: x :: st)) : Go l Z n0 EL mn bytes ml ret R h0 ws fr Q K sf h k n pc Ls (x :: st) :=
  g_pure (fun T t H hx k e => by subst hp e; exact XS.dup H hx rfl hd rfl hc k) G
theorem g_pop {x : Value} (hd : decode bytes pc = .ok (.pop, 1)) (hc : x.category = 1) (hp : pc + 1 = pc') (G : Go l Z n0 EL mn bytes ml ret R h0 ws fr Q K sf h k n pc' Ls st) : Go l Z n0 EL mn bytes ml ret R h0 ws fr Q K sf h k n pc Ls (x :: st) :=
  g_pure (fun T t H hx k e => by subst hp e; exact XS.pop H hx rfl hd rfl hc k) G
theorem g_dupx1 {x y : Value} (hd : decode bytes pc = .ok (.dup_x1, 1)) (hc : x.category = 1) (hc' : y.category = 1) (hp : pc + 1 = pc') (G : Go l Z n0 EL mn bytes ml ret R h0 ws fr Q K sf h k n pc' Ls (x :: y :: x :: st)) : Go l Z n0 EL mn bytes ml ret R h0 ws fr Q K sf h k n pc Ls (x :: y :: st) :=
  g_pure (fun T t H hx k e => by subst hp e; exact XT.dupX1 H hx rfl hd rfl hc hc' k) G
theorem g_icmp_eq_t {x y : Int32} {o : Int} (hd : decode bytes pc = .ok (.if_icmp .eq o, 3)) (hc : x = y) (ho : 0 ≤ (pc : Int) + o) (hp : ((pc : Int) + o).toNat = pc') (G : Go l Z n0 EL mn bytes ml ret R h0 ws fr Q K sf h k n pc' Ls st) : Go l Z n0 EL mn bytes ml ret R h0 ws fr Q K sf h k n pc Ls (.int y :: .int x :: st) :=
  g_pure (fun T t H hx k e => by subst e; exact XS.icmpYes H hx rfl rfl hd rfl (XT.ii_eq_t hc) ho hp k) G
theorem g_icmp_eq_f {x y : Int32} {o : Int} (hd : decode bytes pc = .ok (.if_icmp .eq o, 3)) (hc : ¬ x = y) (hp : pc + 3 = pc') (G : Go l Z n0 EL mn bytes ml ret R h0 ws fr Q K sf h k n pc' Ls st) : Go l Z n0 EL mn bytes ml ret R h0 ws fr Q K sf h k n pc Ls (.int y :: .int x :: st) :=
  g_pure (fun T t H hx k e => by subst hp e; exact XS.icmpNo H hx rfl hd rfl (XT.ii_eq_f hc) k) G
theorem g_if_eq_t {x : Int32} {o : Int} (hd : decode bytes pc = .ok (.ifCond .eq o, 3)) (hc : x = 0) (ho : 0 ≤ (pc : Int) + o) (hp : ((pc : Int) + o).toNat = pc') (G : Go l Z n0 EL mn bytes ml ret R h0 ws fr Q K sf h k n pc' Ls st) : Go l Z n0 EL mn bytes ml ret R h0 ws fr Q K sf h k n pc Ls (.int x :: st) :=
  g_pure (fun T t H hx k e => by subst e; exact XS.ifYes H hx rfl rfl hd rfl (XT.i0_eq_t hc) ho hp k) G
theorem g_if_eq_f {x : Int32} {o : Int} (hd : decode bytes pc = .ok (.ifCond .eq o, 3)) (hc : ¬ x = 0) (hp : pc + 3 = pc') (G : Go l Z n0 EL mn bytes ml ret R h0 ws fr Q K sf h k n pc' Ls st) : Go l Z n0 EL mn bytes ml ret R h0 ws fr Q K sf h k n pc Ls (.int x :: st) :=
  g_pure (fun T t H hx k e => by subst hp e; exact XS.ifNo H hx rfl hd rfl (XT.i0_eq_f hc) k) G
theorem g_icmp_ne_t {x y : Int32} {o : Int} (hd : decode bytes pc = .ok (.if_icmp .ne o, 3)) (hc : ¬ x = y) (ho : 0 ≤ (pc : Int) + o) (hp : ((pc : Int) + o).toNat = pc') (G : Go l Z n0 EL mn bytes ml ret R h0 ws fr Q K sf h k n pc' Ls st) : Go l Z n0 EL mn bytes ml ret R h0 ws fr Q K sf h k n pc Ls (.int y :: .int x :: st) :=
  g_pure (fun T t H hx k e => by subst e; exact XS.icmpYes H hx rfl rfl hd rfl (XT.ii_ne_t hc) ho hp k) G
theorem g_icmp_ne_f {x y : Int32} {o : Int} (hd : decode bytes pc = .ok (.if_icmp .ne o, 3)) (hc : x = y) (hp : pc + 3 = pc') (G : Go l Z n0 EL mn bytes ml ret R h0 ws fr Q K sf h k n pc' Ls st) : Go l Z n0 EL mn bytes ml ret R h0 ws fr Q K sf h k n pc Ls (.int y :: .int x :: st) :=
  g_pure (fun T t H hx k e => by subst hp e; exact XS.icmpNo H hx rfl hd rfl (XT.ii_ne_f hc) k) G
theorem g_if_ne_t {x : Int32} {o : Int} (hd : decode bytes pc = .ok (.ifCond .ne o, 3)) (hc : ¬ x = 0) (ho : 0 ≤ (pc : Int) + o) (hp : ((pc : Int) + o).toNat = pc') (G : Go l Z n0 EL mn bytes ml ret R h0 ws fr Q K sf h k n pc' Ls st) : Go l Z n0 EL mn bytes ml ret R h0 ws fr Q K sf h k n pc Ls (.int x :: st) :=
  g_pure (fun T t H hx k e => by subst e; exact XS.ifYes H hx rfl rfl hd rfl (XT.i0_ne_t hc) ho hp k) G
theorem g_if_ne_f {x : Int32} {o : Int} (hd : decode bytes pc = .ok (.ifCond .ne o, 3)) (hc : x = 0) (hp : pc + 3 = pc') (G : Go l Z n0 EL mn bytes ml ret R h0 ws fr Q K sf h k n pc' Ls st) : Go l Z n0 EL mn bytes ml ret R h0 ws fr Q K sf h k n pc Ls (.int x :: st) :=
  g_pure (fun T t H hx k e => by subst hp e; exact XS.ifNo H hx rfl hd rfl (XT.i0_ne_f hc) k) G
theorem g_icmp_lt_t {x y : Int32} {o : Int} (hd : decode bytes pc = .ok (.if_icmp .lt o, 3)) (hc : x < y) (ho : 0 ≤ (pc : Int) + o) (hp : ((pc : Int) + o).toNat = pc') (G : Go l Z n0 EL mn bytes ml ret R h0 ws fr Q K sf h k n pc' Ls st) : Go l Z n0 EL mn bytes ml ret R h0 ws fr Q K sf h k n pc Ls (.int y :: .int x :: st) :=
  g_pure (fun T t H hx k e => by subst e; exact XS.icmpYes H hx rfl rfl hd rfl (XT.ii_lt_t hc) ho hp k) G
theorem g_icmp_lt_f {x y : Int32} {o : Int} (hd : decode bytes pc = .ok (.if_icmp .lt o, 3)) (hc : ¬ x < y) (hp : pc + 3 = pc') (G : Go l Z n0 EL mn bytes ml ret R h0 ws fr Q K sf h k n pc' Ls st) : Go l Z n0 EL mn bytes ml ret R h0 ws fr Q K sf h k n pc Ls (.int y :: .int x :: st) :=
  g_pure (fun T t H hx k e => by subst hp e; exact XS.icmpNo H hx rfl hd rfl (XT.ii_lt_f hc) k) G
theorem g_if_lt_t {x : Int32} {o : Int} (hd : decode bytes pc = .ok (.ifCond .lt o, 3)) (hc : x < 0) (ho : 0 ≤ (pc : Int) + o) (hp : ((pc : Int) + o).toNat = pc') (G : Go l Z n0 EL mn bytes ml ret R h0 ws fr Q K sf h k n pc' Ls st) : Go l Z n0 EL mn bytes ml ret R h0 ws fr Q K sf h k n pc Ls (.int x :: st) :=
  g_pure (fun T t H hx k e => by subst e; exact XS.ifYes H hx rfl rfl hd rfl (XT.i0_lt_t hc) ho hp k) G
theorem g_if_lt_f {x : Int32} {o : Int} (hd : decode bytes pc = .ok (.ifCond .lt o, 3)) (hc : ¬ x < 0) (hp : pc + 3 = pc') (G : Go l Z n0 EL mn bytes ml ret R h0 ws fr Q K sf h k n pc' Ls st) : Go l Z n0 EL mn bytes ml ret R h0 ws fr Q K sf h k n pc Ls (.int x :: st) :=
  g_pure (fun T t H hx k e => by subst hp e; exact XS.ifNo H hx rfl hd rfl (XT.i0_lt_f hc) k) G
theorem g_icmp_ge_t {x y : Int32} {o : Int} (hd : decode bytes pc = .ok (.if_icmp .ge o, 3)) (hc : ¬ x < y) (ho : 0 ≤ (pc : Int) + o) (hp : ((pc : Int) + o).toNat = pc') (G : Go l Z n0 EL mn bytes ml ret R h0 ws fr Q K sf h k n pc' Ls st) : Go l Z n0 EL mn bytes ml ret R h0 ws fr Q K sf h k n pc Ls (.int y :: .int x :: st) :=
  g_pure (fun T t H hx k e => by subst e; exact XS.icmpYes H hx rfl rfl hd rfl (XT.ii_ge_t hc) ho hp k) G
theorem g_icmp_ge_f {x y : Int32} {o : Int} (hd : decode bytes pc = .ok (.if_icmp .ge o, 3)) (hc : x < y) (hp : pc + 3 = pc') (G : Go l Z n0 EL mn bytes ml ret R h0 ws fr Q K sf h k n pc' Ls st) : Go l Z n0 EL mn bytes ml ret R h0 ws fr Q K sf h k n pc Ls (.int y :: .int x :: st) :=
  g_pure (fun T t H hx k e => by subst hp e; exact XS.icmpNo H hx rfl hd rfl (XT.ii_ge_f hc) k) G
theorem g_if_ge_t {x : Int32} {o : Int} (hd : decode bytes pc = .ok (.ifCond .ge o, 3)) (hc : ¬ x < 0) (ho : 0 ≤ (pc : Int) + o) (hp : ((pc : Int) + o).toNat = pc') (G : Go l Z n0 EL mn bytes ml ret R h0 ws fr Q K sf h k n pc' Ls st) : Go l Z n0 EL mn bytes ml ret R h0 ws fr Q K sf h k n pc Ls (.int x :: st) :=
  g_pure (fun T t H hx k e => by subst e; exact XS.ifYes H hx rfl rfl hd rfl (XT.i0_ge_t hc) ho hp k) G
theorem g_if_ge_f {x : Int32} {o : Int} (hd : decode bytes pc = .ok (.ifCond .ge o, 3)) (hc : x < 0) (hp : pc + 3 = pc') (G : Go l Z n0 EL mn bytes ml ret R h0 ws fr Q K sf h k n pc' Ls st) : Go l Z n0 EL mn bytes ml ret R h0 ws fr Q K sf h k n pc Ls (.int x :: st) :=
  g_pure (fun T t H hx k e => by subst hp e; exact XS.ifNo H hx rfl hd rfl (XT.i0_ge_f hc) k) G
theorem g_icmp_gt_t {x y : Int32} {o : Int} (hd : decode bytes pc = .ok (.if_icmp .gt o, 3)) (hc : y < x) (ho : 0 ≤ (pc : Int) + o) (hp : ((pc : Int) + o).toNat = pc') (G : Go l Z n0 EL mn bytes ml ret R h0 ws fr Q K sf h k n pc' Ls st) : Go l Z n0 EL mn bytes ml ret R h0 ws fr Q K sf h k n pc Ls (.int y :: .int x :: st) :=
  g_pure (fun T t H hx k e => by subst e; exact XS.icmpYes H hx rfl rfl hd rfl (XT.ii_gt_t hc) ho hp k) G
theorem g_icmp_gt_f {x y : Int32} {o : Int} (hd : decode bytes pc = .ok (.if_icmp .gt o, 3)) (hc : ¬ y < x) (hp : pc + 3 = pc') (G : Go l Z n0 EL mn bytes ml ret R h0 ws fr Q K sf h k n pc' Ls st) : Go l Z n0 EL mn bytes ml ret R h0 ws fr Q K sf h k n pc Ls (.int y :: .int x :: st) :=
  g_pure (fun T t H hx k e => by subst hp e; exact XS.icmpNo H hx rfl hd rfl (XT.ii_gt_f hc) k) G
theorem g_if_gt_t {x : Int32} {o : Int} (hd : decode bytes pc = .ok (.ifCond .gt o, 3)) (hc : 0 < x) (ho : 0 ≤ (pc : Int) + o) (hp : ((pc : Int) + o).toNat = pc') (G : Go l Z n0 EL mn bytes ml ret R h0 ws fr Q K sf h k n pc' Ls st) : Go l Z n0 EL mn bytes ml ret R h0 ws fr Q K sf h k n pc Ls (.int x :: st) :=
  g_pure (fun T t H hx k e => by subst e; exact XS.ifYes H hx rfl rfl hd rfl (XT.i0_gt_t hc) ho hp k) G
theorem g_if_gt_f {x : Int32} {o : Int} (hd : decode bytes pc = .ok (.ifCond .gt o, 3)) (hc : ¬ 0 < x) (hp : pc + 3 = pc') (G : Go l Z n0 EL mn bytes ml ret R h0 ws fr Q K sf h k n pc' Ls st) : Go l Z n0 EL mn bytes ml ret R h0 ws fr Q K sf h k n pc Ls (.int x :: st) :=
  g_pure (fun T t H hx k e => by subst hp e; exact XS.ifNo H hx rfl hd rfl (XT.i0_gt_f hc) k) G
theorem g_icmp_le_t {x y : Int32} {o : Int} (hd : decode bytes pc = .ok (.if_icmp .le o, 3)) (hc : ¬ y < x) (ho : 0 ≤ (pc : Int) + o) (hp : ((pc : Int) + o).toNat = pc') (G : Go l Z n0 EL mn bytes ml ret R h0 ws fr Q K sf h k n pc' Ls st) : Go l Z n0 EL mn bytes ml ret R h0 ws fr Q K sf h k n pc Ls (.int y :: .int x :: st) :=
  g_pure (fun T t H hx k e => by subst e; exact XS.icmpYes H hx rfl rfl hd rfl (XT.ii_le_t hc) ho hp k) G
theorem g_icmp_le_f {x y : Int32} {o : Int} (hd : decode bytes pc = .ok (.if_icmp .le o, 3)) (hc : y < x) (hp : pc + 3 = pc') (G : Go l Z n0 EL mn bytes ml ret R h0 ws fr Q K sf h k n pc' Ls st) : Go l Z n0 EL mn bytes ml ret R h0 ws fr Q K sf h k n pc Ls (.int y :: .int x :: st) :=
  g_pure (fun T t H hx k e => by subst hp e; exact XS.icmpNo H hx rfl hd rfl (XT.ii_le_f hc) k) G
theorem g_if_le_t {x : Int32} {o : Int} (hd : decode bytes pc = .ok (.ifCond .le o, 3)) (hc : ¬ 0 < x) (ho : 0 ≤ (pc : Int) + o) (hp : ((pc : Int) + o).toNat = pc') (G : Go l Z n0 EL mn bytes ml ret R h0 ws fr Q K sf h k n pc' Ls st) : Go l Z n0 EL mn bytes ml ret R h0 ws fr Q K sf h k n pc Ls (.int x :: st) :=
  g_pure (fun T t H hx k e => by subst e; exact XS.ifYes H hx rfl rfl hd rfl (XT.i0_le_t hc) ho hp k) G
theorem g_if_le_f {x : Int32} {o : Int} (hd : decode bytes pc = .ok (.ifCond .le o, 3)) (hc : 0 < x) (hp : pc + 3 = pc') (G : Go l Z n0 EL mn bytes ml ret R h0 ws fr Q K sf h k n pc' Ls st) : Go l Z n0 EL mn bytes ml ret R h0 ws fr Q K sf h k n pc Ls (.int x :: st) :=
  g_pure (fun T t H hx k e => by subst hp e; exact XS.ifNo H hx rfl hd rfl (XT.i0_le_f hc) k) G
theorem g_acmp_eq_t {x y : Value} {o : Int} (hd : decode bytes pc = .ok (.if_acmp .eq o, 3)) (hx' : x.isRef = true) (hy' : y.isRef = true) (hc : x = y) (ho : 0 ≤ (pc : Int) + o) (hp : ((pc : Int) + o).toNat = pc') (G : Go l Z n0 EL mn bytes ml ret R h0 ws fr Q K sf h k n pc' Ls st) : Go l Z n0 EL mn bytes ml ret R h0 ws fr Q K sf h k n pc Ls (y :: x :: st) :=
  g_pure (fun T t H hx k e => by subst e; exact XT.acmpYes H hx rfl rfl hd rfl hx' hy' (XT.aa_eq_t hc) ho hp k) G
theorem g_acmp_eq_f {x y : Value} {o : Int} (hd : decode bytes pc = .ok (.if_acmp .eq o, 3)) (hx' : x.isRef = true) (hy' : y.isRef = true) (hc : ¬ x = y) (hp : pc + 3 = pc') (G : Go l Z n0 EL mn bytes ml ret R h0 ws fr Q K sf h k n pc' Ls st) : Go l Z n0 EL mn bytes ml ret R h0 ws fr Q K sf h k n pc Ls (y :: x :: st) :=
  g_pure (fun T t H hx k e => by subst hp e; exact XT.acmpNo H hx rfl hd rfl hx' hy' (XT.aa_eq_f hc) k) G
theorem g_acmp_ne_t {x y : Value} {o : Int} (hd : decode bytes pc = .ok (.if_acmp .ne o, 3)) (hx' : x.isRef = true) (hy' : y.isRef = true) (hc : ¬ x = y) (ho : 0 ≤ (pc : Int) + o) (hp : ((pc : Int) + o).toNat = pc') (G : Go l Z n0 EL mn bytes ml ret R h0 ws fr Q K sf h k n pc' Ls st) : Go l Z n0 EL mn bytes ml ret R h0 ws fr Q K sf h k n pc Ls (y :: x :: st) :=
  g_pure (fun T t H hx k e => by subst e; exact XT.acmpYes H hx rfl rfl hd rfl hx' hy' (XT.aa_ne_t hc) ho hp k) G
theorem g_acmp_ne_f {x y : Value} {o : Int} (hd : decode bytes pc = .ok (.if_acmp .ne o, 3)) (hx' : x.isRef = true) (hy' : y.isRef = true) (hc : x = y) (hp : pc + 3 = pc') (G : Go l Z n0 EL mn bytes ml ret R h0 ws fr Q K sf h k n pc' Ls st) : Go l Z n0 EL mn bytes ml ret R h0 ws fr Q K sf h k n pc Ls (y :: x :: st) :=
  g_pure (fun T t H hx k e => by subst hp e; exact XT.acmpNo H hx rfl hd rfl hx' hy' (XT.aa_ne_f hc) k) G
theorem g_ifnull_t {o : Int} (hd : decode bytes pc = .ok (.ifnull o, 3)) (ho : 0 ≤ (pc : Int) + o) (hp : ((pc : Int) + o).toNat = pc') (G : Go l Z n0 EL mn bytes ml ret R h0 ws fr Q K sf h k n pc' Ls st) : Go l Z n0 EL mn bytes ml ret R h0 ws fr Q K sf h k n pc Ls (.null :: st) :=
  g_pure (fun T t H hx k e => by subst e; exact XS.ifnullYes H hx rfl rfl hd rfl ho hp k) G
theorem g_ifnull_f {b : Addr} {o : Int} (hd : decode bytes pc = .ok (.ifnull o, 3)) (hp : pc + 3 = pc') (G : Go l Z n0 EL mn bytes ml ret R h0 ws fr Q K sf h k n pc' Ls st) : Go l Z n0 EL mn bytes ml ret R h0 ws fr Q K sf h k n pc Ls (.ref b :: st) :=
  g_pure (fun T t H hx k e => by subst hp e; exact XS.ifnullNo H hx rfl hd rfl k) G
theorem g_ifnonnull_t {b : Addr} {o : Int} (hd : decode bytes pc = .ok (.ifnonnull o, 3)) (ho : 0 ≤ (pc : Int) + o) (hp : ((pc : Int) + o).toNat = pc') (G : Go l Z n0 EL mn bytes ml ret R h0 ws fr Q K sf h k n pc' Ls st) : Go l Z n0 EL mn bytes ml ret R h0 ws fr Q K sf h k n pc Ls (.ref b :: st) :=
  g_pure (fun T t H hx k e => by subst e; exact XS.ifnonnullYes H hx rfl rfl hd rfl ho hp k) G
theorem g_ifnonnull_f {o : Int} (hd : decode bytes pc = .ok (.ifnonnull o, 3)) (hp : pc + 3 = pc') (G : Go l Z n0 EL mn bytes ml ret R h0 ws fr Q K sf h k n pc' Ls st) : Go l Z n0 EL mn bytes ml ret R h0 ws fr Q K sf h k n pc Ls (.null :: st) :=
  g_pure (fun T t H hx k e => by subst hp e; exact XS.ifnonnullNo H hx rfl hd rfl k) G
theorem g_goto {o : Int} (hd : decode bytes pc = .ok (.goto o, 3)) (ho : 0 ≤ (pc : Int) + o) (hp : ((pc : Int) + o).toNat = pc') (G : Go l Z n0 EL mn bytes ml ret R h0 ws fr Q K sf h k n pc' Ls st) : Go l Z n0 EL mn bytes ml ret R h0 ws fr Q K sf h k n pc Ls st :=
  g_pure (fun T t H hx k e => by subst e; exact XS.goto H hx rfl rfl hd ho hp k) G
theorem g_ldcI {idx : Nat} {v : Int32} (hd : decode bytes pc = .ok (.ldc idx, 2)) (w : (Jvm.Cond.constant mn.cls idx v).before a0 Z = true) (hp : pc + 2 = pc') (G : Go l Z n0 EL mn bytes ml ret R h0 ws fr Q K sf h k n pc' Ls (.int v :: st)) : Go l Z n0 EL mn bytes ml ret R h0 ws fr Q K sf h k n pc Ls st :=
  g_law (fun s' T locs hx hb hml hown hnm hZ X e ho => ⟨T, X, e, fun t s => by subst hb hp; exact X.ldcInt hx hown (mvT hZ w) (g := mkF (km K) pc Ls st) rfl hd t s⟩) G
theorem g_ldcwI {idx : Nat} {v : Int32} (hd : decode bytes pc = .ok (.ldc_w idx, 3)) (w : (Jvm.Cond.constant mn.cls idx v).before a0 Z = true) (hp : pc + 3 = pc') (G : Go l Z n0 EL mn bytes ml ret R h0 ws fr Q K sf h k n pc' Ls (.int v :: st)) : Go l Z n0 EL mn bytes ml ret R h0 ws fr Q K sf h k n pc Ls st :=
  g_law (fun s' T locs hx hb hml hown hnm hZ X e ho => ⟨T, X, e, fun t s => by subst hb hp; exact X.ldcwInt hx hown (mvT hZ w) (g := mkF (km K) pc Ls st) rfl hd t s⟩) G
theorem g_ldcJ {idx : Nat} {v : Int64} (hd : decode bytes pc = .ok (.ldc2_w idx, 3)) (w : (Jvm.Cond.constantLong mn.cls idx v).before a0 Z = true) (hp : pc + 3 = pc') (G : Go l Z n0 EL mn bytes ml ret R h0 ws fr Q K sf h k n pc' Ls (.long v :: st)) : Go l Z n0 EL mn bytes ml ret R h0 ws fr Q K sf h k n pc Ls st :=
  g_law (fun s' T locs hx hb hml hown hnm hZ X e ho => ⟨T, X, e, fun t s => by subst hb hp; exact X.ldc2Long hx hown (mvT hZ w) (g := mkF (km K) pc Ls st) rfl hd t s⟩) G
theorem g_getF {idx : Nat} {R0 O nm d : String} {a : Addr} {v : Value} (hd : decode bytes pc = .ok (.getfield idx, 3)) (w : (Jvm.Cond.fieldLink mn.cls idx R0 nm d).before a0 Z = true) (via : Via Z R0 O nm d) (F : Fld Z h a O nm d v) (hp : pc + 3 = pc') (G : Go l Z n0 EL mn bytes ml ret R h0 ws fr Q K sf h k n pc' Ls (v :: st)) : Go l Z n0 EL mn bytes ml ret R h0 ws fr Q K sf h k n pc Ls (.ref a :: st) :=
  g_law (fun s' T locs hx hb hml hown hnm hZ X e ho => by
    subst hb hp
    exact getF X hx hZ hown (host := "") (Or.inl w) via e F (g := mkF (km K) pc Ls (.ref a :: st)) rfl rfl hd) G
theorem g_getS {idx : Nat} {R0 O nm d : String} {v : Value} (hd : decode bytes pc = .ok (.getstatic idx, 3)) (w : (Jvm.Cond.fieldLink mn.cls idx R0 nm d).before a0 Z = true) (via : Via Z R0 O nm d) (F : Sta Z Z.heap O nm d v) (hp : pc + 3 = pc') (G : Go l Z n0 EL mn bytes ml ret R h0 ws fr Q K sf h k n pc' Ls (v :: st)) : Go l Z n0 EL mn bytes ml ret R h0 ws fr Q K sf h k n pc Ls st :=
  g_law (fun s' T locs hx hb hml hown hnm hZ X e ho => by
    subst hb hp
    exact getS X hx hZ hown (host := "") w via e (F.ext ho.2) (g := mkF (km K) pc Ls st) rfl hd) G
theorem g_putF {idx kk : Nat} {R0 O nm d C : String} {ty : FieldType} {a : Addr} {v v' old : Value} (hd : decode bytes pc = .ok (.putfield idx, 3)) (w : (Jvm.Cond.fieldLink mn.cls idx R0 nm d).before a0 Z = true) (via : Via Z R0 O nm d) (F : Fld Z h a O nm d old) (E : Exa Z h a C)
    (L : (Jvm.Cond.lays C O nm d).before a0 Z = true ∨ ((Jvm.Cond.laysFinal C O nm d).before a0 Z = true ∧ mn.cls = O ∧ mn.name = "<init>")) (wi : (Jvm.Cond.instantiable C kk).before a0 Z = true) (hty : parseFieldDescriptor d = some ty) (hn : narrow ty v = v') (hf : fits ty v' = true)
    (hin : a ∈ ws ∨ h0.size ≤ a) (hsf : a ∈ sf) (hp : pc + 3 = pc') (G : ∀ h', Wr h h' a (Jvm.RoadKit.slotOf Z O nm d) v' → Go l Z n0 EL mn bytes ml ret R h0 ws fr Q K sf h' k n pc' Ls st) : Go l Z n0 EL mn bytes ml ret R h0 ws fr Q K sf h k n pc Ls (v :: .ref a :: st) :=
  g_wr (fun s' T locs hx hb hml hown hnm hZ X e ho => by
    subst hb hp
    exact putFN X hx hZ hown w via e F E (L.imp id fun q => ⟨q.1, q.2.1, hnm.trans q.2.2⟩) wi hty hn hf (g := mkF (km K) pc Ls (v :: .ref a :: st)) rfl rfl hd) hin hsf G
theorem g_new {idx c : Nat} {C : String} (hd : decode bytes pc = .ok (.new idx, 3)) (w : (Jvm.Cond.classLink mn.cls idx C).before a0 Z = true) (wi : (Jvm.Cond.instantiable C c).before a0 Z = true) (wz : (Jvm.Cond.initialized C).before a0 Z = true) (hk : k + 1 ≤ R.cells) (hl : n + c ≤ R.slots) (hp : pc + 3 = pc')
    (G : ∀ a h', a = h.size → Keep h h' [] → Exa Z h' a C → (∀ {O nm d : String} {ty : FieldType}, Laid Z a0 C O nm d → parseFieldDescriptor d = some ty → Fld Z h' a O nm d (defaultValue ty)) → h0.size ≤ a → Go l Z n0 EL mn bytes ml ret R h0 ws fr Q K (a :: sf) h' (k + 1) (n + c) pc' Ls (.ref a :: st)) : Go l Z n0 EL mn bytes ml ret R h0 ws fr Q K sf h k n pc Ls st :=
  g_ext (P := fun h' => Exa Z h' h.size C ∧ ∀ {O nm d : String} {ty : FieldType}, Laid Z a0 C O nm d → parseFieldDescriptor d = some ty → Fld Z h' h.size O nm d (defaultValue ty)) (fun s' T locs hx hb hml hown hnm hZ X e ho => by
    subst hb hp
    obtain ⟨T', h', X', e', E, A, D, -, S⟩ := newO X hx hZ hown w wi wz e (g := mkF (km K) pc Ls st) rfl hd hk hl
    exact ⟨T', h', X', e', E, A.lt, ⟨A, D⟩, S⟩) (fun h' E q hsz => G _ h' rfl ((Keep.refl _ _).ext E) q.1 q.2 hsz)
theorem g_initO {idx W : Nat} {a : Addr} (hd : decode bytes pc = .ok (.invokespecial idx, 3)) (w1 : (Jvm.Cond.methodLink mn.cls idx Lib.objectInit).before a0 Z = true) (w2 : (Jvm.Cond.instanceMethod Lib.objectInit).before a0 Z = true) (w3 : (Jvm.Cond.code Lib.objectInit ⟨#[0xb1]⟩ 1 none).before a0 Z = true)
    (hsz : Ls.size = ml) (hf : 1 ≤ R.frames) (hW : (st.map fun v => v.category).sum ≤ W) (hl : W + 12 ≤ R.locals) (hp : pc + 3 = pc') (G : Go l Z n0 EL mn bytes ml ret R h0 ws fr Q K sf h k n pc' Ls st) : Go l Z n0 EL mn bytes ml ret R h0 ws fr Q K sf h k n pc Ls (.ref a :: st) :=
  g_law (fun s' T locs hx hb hml hown hnm hZ X e ho => by
    subst hb hp
    exact initO X hx hZ hown w1 w2 w3 e (g := mkF (km K) pc Ls (.ref a :: st)) rfl (hsz.trans hml.symm) rfl hd hf (W := W) (by show 2 * 0 + _ ≤ _; omega) hl) G
theorem g_cast {idx : Nat} {C : String} {a : Addr} (hd : decode bytes pc = .ok (.checkcast idx, 3)) (w : (Jvm.Cond.classLink mn.cls idx C).before a0 Z = true) (F : Ins Z h a C true) (hp : pc + 3 = pc') (G : Go l Z n0 EL mn bytes ml ret R h0 ws fr Q K sf h k n pc' Ls (.ref a :: st)) : Go l Z n0 EL mn bytes ml ret R h0 ws fr Q K sf h k n pc Ls (.ref a :: st) :=
  g_law (fun s' T locs hx hb hml hown hnm hZ X e ho => by
    subst hb hp
    exact castY X hx hZ hown w e F (g := mkF (km K) pc Ls (.ref a :: st)) rfl rfl hd) G
theorem g_instY {idx : Nat} {C : String} {a : Addr} (hd : decode bytes pc = .ok (.instanceof idx, 3)) (w : (Jvm.Cond.classLink mn.cls idx C).before a0 Z = true) (F : Ins Z h a C true) (hp : pc + 3 = pc') (G : Go l Z n0 EL mn bytes ml ret R h0 ws fr Q K sf h k n pc' Ls (.int 1 :: st)) : Go l Z n0 EL mn bytes ml ret R h0 ws fr Q K sf h k n pc Ls (.ref a :: st) :=
  g_law (fun s' T locs hx hb hml hown hnm hZ X e ho => by
    subst hb hp
    exact instY X hx hZ hown w e F (g := mkF (km K) pc Ls (.ref a :: st)) rfl rfl hd) G
theorem g_instN {idx : Nat} {C C' : String} {a : Addr} (hd : decode bytes pc = .ok (.instanceof idx, 3)) (w : (Jvm.Cond.classLink mn.cls idx C).before a0 Z = true) (E : Exa Z h a C') (F : ∃ c t, Z.vm.findClass C' = some c ∧ Z.vm.findClass C = some t ∧ Z.vm.assignable c t = false) (hp : pc + 3 = pc') (G : Go l Z n0 EL mn bytes ml ret R h0 ws fr Q K sf h k n pc' Ls (.int 0 :: st)) : Go l Z n0 EL mn bytes ml ret R h0 ws fr Q K sf h k n pc Ls (.ref a :: st) :=
  g_law (fun s' T locs hx hb hml hown hnm hZ X e ho => by
    subst hb hp
    exact instNo X hx hZ hown w e E F (g := mkF (km K) pc Ls (.ref a :: st)) rfl rfl hd) G
/-- an array of kind ty that holds the list vs -/
def Ia (Z : State) (h : Heap) (a : Addr) (ty : FieldType) (vs : List Int32) : Prop := ∃ c : Cell, Arr Z h a c ty ∧ c.slots.toList = vs.map Value.int ∧ vs.length < 2 ^ 31 ∧ ∀ v ∈ vs, fits ty (.int v) = true
theorem Ia.keep {h' : Heap} {a : Addr} {ty : FieldType} {vs : List Int32} (A : Ia Z h a ty vs) (Kp : Keep h h' ws) (q : a ∉ ws) : Ia Z h' a ty vs := by obtain ⟨c, A, r⟩ := A; exact ⟨c, ⟨Kp.2.1 a c A.1 q, A.2⟩, r⟩
theorem Ia.lt {a : Addr} {ty : FieldType} {vs : List Int32} (A : Ia Z h a ty vs) : a < h.size := by obtain ⟨c, A, r⟩ := A; exact A.lt
theorem Ia.arv {a : Addr} {ty : FieldType} {vs : List Int32} (A : Ia Z h a ty vs) : ∃ k, Arv Z h a k ty (Int32.ofNat vs.length) (vs.map Value.int) (.int 0) := by
  obtain ⟨c, A, e, hl, hf⟩ := A
  have es : c.slots.size = vs.length := by rw [← Array.length_toList, e, List.length_map]
  have ei : (Int32.ofNat vs.length).toInt = vs.length := Int32.toInt_ofNat_of_lt hl
  refine ⟨c.cls, c, A, rfl, ?_, ?_, fun i hi => ?_, fun i hi => ?_⟩
  · rw [es, Int32.toNatClampNeg, ei]; rfl
  · rw [Int32.lt_iff_toInt_lt, ei]; exact fun q => by have : (0 : Int32).toInt = 0 := rfl; omega
  · have hi' : i < vs.length := es ▸ hi
    rw [← Array.getElem?_toList, e]; simp [List.getD_eq_getElem?_getD, hi']
  · have hi' : i < vs.length := es ▸ hi
    simp only [List.getD_eq_getElem?_getD, List.getElem?_map, List.getElem?_eq_getElem hi', Option.map_some, Option.getD_some]
    exact hf _ (List.getElem_mem hi')
theorem ia_of {a : Addr} {kk : ClassId} {ty : FieldType} {z : Int32} {vs : List Int32} {us : List Value} {d : Value} (A : Arv Z h a kk ty z us d) (e : us = vs.map Value.int) (hz : z.toNatClampNeg = vs.length) : Ia Z h a ty vs := by
  obtain ⟨c, A, -, hs, h0', H, F⟩ := A
  have es : c.slots.size = vs.length := hs.trans hz
  subst e
  have hl : vs.length < 2 ^ 31 := by have := z.toInt_lt; rw [← hz, Int32.toNatClampNeg]; omega
  refine ⟨c, A, ?_, hl, fun v hv => ?_⟩
  · refine List.ext_getElem? fun i => ?_
    rw [Array.getElem?_toList]
    by_cases q : i < vs.length
    · rw [H i (es ▸ q)]; simp [List.getD_eq_getElem?_getD, q]
    · rw [Array.getElem?_eq_none (by omega)]; simp [q]
  · obtain ⟨i, hi, rfl⟩ := List.mem_iff_getElem.mp hv
    have := F i (es ▸ hi)
    simpa [List.getD_eq_getElem?_getD, hi] using this
theorem Ia.fits {a : Addr} {ty : FieldType} {vs : List Int32} (A : Ia Z h a ty vs) : ∀ v ∈ vs, Jvm.fits ty (.int v) = true := by obtain ⟨c, A, r⟩ := A; exact r.2.2
theorem Ia.short {a : Addr} {ty : FieldType} {vs : List Int32} (A : Ia Z h a ty vs) : vs.length < 2 ^ 31 := by obtain ⟨c, A, r⟩ := A; exact r.2.1
theorem g_newA {aty : ArrayType} {x : Int32} {cap : Nat} (hd : decode bytes pc = .ok (.newarray aty, 2)) (w : (Jvm.Cond.arrayClass (newarray.typeOf aty)).before a0 Z = true) (hz : defaultValue (newarray.typeOf aty) = .int 0) (hx0 : ¬ x < 0) (hcap : x.toNatClampNeg ≤ cap) (hb8 : cap * 8 ≤ 536870912) (hk : k + 1 ≤ R.cells) (hl : n + cap ≤ R.slots) (hp : pc + 2 = pc')
    (G : ∀ a h', a = h.size → Keep h h' [] → Ia Z h' a (newarray.typeOf aty) (List.replicate x.toNatClampNeg 0) → h0.size ≤ a → Go l Z n0 EL mn bytes ml ret R h0 ws fr Q K (a :: sf) h' (k + 1) (n + cap) pc' Ls (.ref a :: st)) : Go l Z n0 EL mn bytes ml ret R h0 ws fr Q K sf h k n pc Ls (.int x :: st) :=
  g_ext (P := fun h' => Ia Z h' h.size (newarray.typeOf aty) (List.replicate x.toNatClampNeg 0)) (fun s' T locs hx hb hml hown hnm hZ X e ho => by
    subst hb hp
    obtain ⟨T', h', cA, X', e', E, A, S⟩ := newP X hx hZ w e (g := mkF (km K) pc Ls (.int x :: st)) rfl hd rfl hx0 hcap hb8 hk hl
    have V := Arv.new A hx0
    rw [hz] at V
    exact ⟨T', h', X', e', E, A.lt, ia_of (vs := List.replicate x.toNatClampNeg 0) (V.pad (pad_rep [] (.int 0) x.toNatClampNeg)) (by simp) (by simp), S⟩) (fun h' E q hsz => G _ h' rfl ((Keep.refl _ _).ext E) q hsz)
theorem ia_inb {vs : List Int32} {j : Int32} {i : Nat} {c : Cell} (e : c.slots.toList = vs.map Value.int) (h0 : ¬ j < 0) (hj : j.toNatClampNeg = i) (hi : i < vs.length) : ¬ (j < 0 ∨ c.slots.size ≤ j.toNatClampNeg) := by
  have es : c.slots.size = vs.length := by rw [← Array.length_toList, e, List.length_map]
  rintro (q | q)
  · exact h0 q
  · omega
theorem ia_get {vs : List Int32} {i : Nat} {x : Int32} {c : Cell} (e : c.slots.toList = vs.map Value.int) (hi : vs[i]? = some x) : c.slots[i]? = some (.int x) := by
  rw [← Array.getElem?_toList, e, List.getElem?_map, hi]; rfl
theorem ia_put {h' : Heap} {a : Addr} {ty : FieldType} {vs : List Int32} {i : Nat} {x : Int32} (A : Ia Z h a ty vs) (W : Wr h h' a i (.int x)) (hx : Jvm.fits ty (.int x) = true) : Ia Z h' a ty (vs.set i x) := by
  obtain ⟨c, A, e, hs, hf⟩ := A
  refine ⟨_, A.same W, ?_, by simpa using hs, fun v hv => ?_⟩
  · rw [Cell.setSlot, Array.toList_setIfInBounds, e, List.map_set]
  · rcases List.mem_or_eq_of_mem_set hv with q | rfl
    · exact hf v q
    · exact hx
theorem g_caload {a : Addr} {vs : List Int32} {j x : Int32} {i : Nat} (hd : decode bytes pc = .ok (.caload, 1)) (A : Ia Z h a .char vs) (hj0 : ¬ j < 0) (hj : j.toNatClampNeg = i) (hi : vs[i]? = some x) (hp : pc + 1 = pc') (G : Go l Z n0 EL mn bytes ml ret R h0 ws fr Q K sf h k n pc' Ls (.int x :: st)) : Go l Z n0 EL mn bytes ml ret R h0 ws fr Q K sf h k n pc Ls (.int j :: .ref a :: st) :=
  g_law (fun s' T locs hx hb hml hown hnm hZ X e ho => ⟨T, X, e, fun t s => by
    subst hb hp
    obtain ⟨c, A1, A2, A3, A4⟩ := A
    exact X.caload hx (j := j) (v := .int x) (by rw [e]; exact A1.1) (State.isArrayOf_alike hZ.alike A1.2.1) A1.2.2 (ia_inb A2 hj0 hj (List.getElem?_eq_some_iff.mp hi).1) (by rw [hj]; exact ia_get A2 hi) (g := mkF (km K) pc Ls (.int j :: .ref a :: st)) rfl rfl hd t s⟩) G
theorem g_baload {a : Addr} {vs : List Int32} {j x : Int32} {i : Nat} (hd : decode bytes pc = .ok (.baload, 1)) (A : Ia Z h a .byte vs) (hj0 : ¬ j < 0) (hj : j.toNatClampNeg = i) (hi : vs[i]? = some x) (hp : pc + 1 = pc') (G : Go l Z n0 EL mn bytes ml ret R h0 ws fr Q K sf h k n pc' Ls (.int x :: st)) : Go l Z n0 EL mn bytes ml ret R h0 ws fr Q K sf h k n pc Ls (.int j :: .ref a :: st) :=
  g_law (fun s' T locs hx hb hml hown hnm hZ X e ho => ⟨T, X, e, fun t s => by
    subst hb hp
    obtain ⟨c, A1, A2, A3, A4⟩ := A
    exact X.baloadBytes hx (j := j) (v := .int x) (by rw [e]; exact A1.1) (State.isArrayOf_alike hZ.alike A1.2.1) A1.2.2 (ia_inb A2 hj0 hj (List.getElem?_eq_some_iff.mp hi).1) (by rw [hj]; exact ia_get A2 hi) (g := mkF (km K) pc Ls (.int j :: .ref a :: st)) rfl rfl hd t s⟩) G
theorem g_iaload {a : Addr} {vs : List Int32} {j x : Int32} {i : Nat} (hd : decode bytes pc = .ok (.iaload, 1)) (A : Ia Z h a .int vs) (hj0 : ¬ j < 0) (hj : j.toNatClampNeg = i) (hi : vs[i]? = some x) (hp : pc + 1 = pc') (G : Go l Z n0 EL mn bytes ml ret R h0 ws fr Q K sf h k n pc' Ls (.int x :: st)) : Go l Z n0 EL mn bytes ml ret R h0 ws fr Q K sf h k n pc Ls (.int j :: .ref a :: st) :=
  g_law (fun s' T locs hx hb hml hown hnm hZ X e ho => ⟨T, X, e, fun t s => by
    subst hb hp
    obtain ⟨c, A1, A2, A3, A4⟩ := A
    exact X.iaload hx (j := j) (v := .int x) (by rw [e]; exact A1.1) (State.isArrayOf_alike hZ.alike A1.2.1) A1.2.2 (ia_inb A2 hj0 hj (List.getElem?_eq_some_iff.mp hi).1) (by rw [hj]; exact ia_get A2 hi) (g := mkF (km K) pc Ls (.int j :: .ref a :: st)) rfl rfl hd t s⟩) G
theorem g_castore {a : Addr} {vs : List Int32} {j x : Int32} {i : Nat} (hd : decode bytes pc = .ok (.castore, 1)) (A : Ia Z h a .char vs) (hj0 : ¬ j < 0) (hj : j.toNatClampNeg = i) (hi : i < vs.length) (hin : a ∈ ws ∨ h0.size ≤ a) (hsf : a ∈ sf) (hp : pc + 1 = pc') (G : ∀ h', Keep h h' [a] → Ia Z h' a .char (vs.set i (nar .char x)) → Go l Z n0 EL mn bytes ml ret R h0 ws fr Q K sf h' k n pc' Ls st) : Go l Z n0 EL mn bytes ml ret R h0 ws fr Q K sf h k n pc Ls (.int x :: .int j :: .ref a :: st) :=
  g_wr (i := i) (v := .int (nar .char x)) (fun s' T locs hx hb hml hown hnm hZ X e ho => by
    subst hb hp hj
    obtain ⟨c, A1, A2, A3, A4⟩ := A
    exact stC X hx hZ e A1 (j := j) (ia_inb A2 hj0 rfl hi) (g := mkF (km K) pc Ls (.int x :: .int j :: .ref a :: st)) rfl rfl hd) hin hsf (fun h' W => G h' (Keep.of_wr W) (ia_put A W (fits_nar_char _)))
theorem g_bastore {a : Addr} {vs : List Int32} {j x : Int32} {i : Nat} (hd : decode bytes pc = .ok (.bastore, 1)) (A : Ia Z h a .byte vs) (hj0 : ¬ j < 0) (hj : j.toNatClampNeg = i) (hi : i < vs.length) (hin : a ∈ ws ∨ h0.size ≤ a) (hsf : a ∈ sf) (hp : pc + 1 = pc') (G : ∀ h', Keep h h' [a] → Ia Z h' a .byte (vs.set i (nar .byte x)) → Go l Z n0 EL mn bytes ml ret R h0 ws fr Q K sf h' k n pc' Ls st) : Go l Z n0 EL mn bytes ml ret R h0 ws fr Q K sf h k n pc Ls (.int x :: .int j :: .ref a :: st) :=
  g_wr (i := i) (v := .int (nar .byte x)) (fun s' T locs hx hb hml hown hnm hZ X e ho => by
    subst hb hp hj
    obtain ⟨c, A1, A2, A3, A4⟩ := A
    exact stB X hx hZ e A1 (j := j) (ia_inb A2 hj0 rfl hi) (g := mkF (km K) pc Ls (.int x :: .int j :: .ref a :: st)) rfl rfl hd) hin hsf (fun h' W => G h' (Keep.of_wr W) (ia_put A W (fits_nar_byte _)))
theorem g_iastore {a : Addr} {vs : List Int32} {j x : Int32} {i : Nat} (hd : decode bytes pc = .ok (.iastore, 1)) (A : Ia Z h a .int vs) (hj0 : ¬ j < 0) (hj : j.toNatClampNeg = i) (hi : i < vs.length) (hin : a ∈ ws ∨ h0.size ≤ a) (hsf : a ∈ sf) (hp : pc + 1 = pc') (G : ∀ h', Keep h h' [a] → Ia Z h' a .int (vs.set i x) → Go l Z n0 EL mn bytes ml ret R h0 ws fr Q K sf h' k n pc' Ls st) : Go l Z n0 EL mn bytes ml ret R h0 ws fr Q K sf h k n pc Ls (.int x :: .int j :: .ref a :: st) :=
  g_wr (i := i) (v := .int x) (fun s' T locs hx hb hml hown hnm hZ X e ho => by
    subst hb hp hj
    obtain ⟨c, A1, A2, A3, A4⟩ := A
    exact stI X hx hZ e A1 (j := j) (ia_inb A2 hj0 rfl hi) (g := mkF (km K) pc Ls (.int x :: .int j :: .ref a :: st)) rfl rfl hd) hin hsf (fun h' W => G h' (Keep.of_wr W) (ia_put A W rfl))
theorem nat_i32 {n : Nat} (h : n < 2 ^ 31) : (Int32.ofNat n).toNatClampNeg = n := by rw [Int32.toNatClampNeg, Int32.toInt_ofNat_of_lt h]; rfl
theorem g_acopy {idx W : Nat} {a b : Addr} {vs vd : List Int32} {sp dp nn : Int32} {i j m : Nat} (hd : decode bytes pc = .ok (.invokestatic idx, 3)) (w1 : (Jvm.Cond.methodLink mn.cls idx Jvm.Stand.acN).before a0 Z = true) (w2 : (Jvm.Cond.native Jvm.Stand.acN).before a0 Z = true) (w3 : (Jvm.Cond.static Jvm.Stand.acN).before a0 Z = true) (w4 : (Jvm.Cond.initialized "java/lang/System").before a0 Z = true)
    (A : Ia Z h a .byte vs) (B : Ia Z h b .byte vd) (h1 : ¬ sp < 0) (e1 : sp.toNatClampNeg = i) (h2 : ¬ dp < 0) (e2 : dp.toNatClampNeg = j) (h3 : ¬ nn < 0) (e3 : nn.toNatClampNeg = m) (h4 : i + m ≤ vs.length) (h5 : j + m ≤ vd.length)
    (hsz : Ls.size = ml) (hf : 1 ≤ R.frames) (hW : (st.map fun v => v.category).sum ≤ W) (hlo : W + (nativeFrameWords "java/lang/System" "arraycopy" 5 + 11) ≤ R.locals) (hin : h0.size ≤ b) (hsf : b ∈ sf) (hp : pc + 3 = pc')
    (G : ∀ h', Keep h h' [b] → Ia Z h' b .byte (vd.take j ++ (vs.drop i).take m ++ vd.drop (j + m)) → Go l Z n0 EL mn bytes ml ret R h0 [] fr Q K sf h' k n pc' Ls st) : Go l Z n0 EL mn bytes ml ret R h0 [] fr Q K sf h k n pc Ls (.int nn :: .int dp :: .ref b :: .int sp :: .ref a :: st) :=
  g_fr (P := fun h' => Ia Z h' b .byte (vd.take j ++ (vs.drop i).take m ++ vd.drop (j + m))) (b := b) (fun s' T locs hx hb hml hown hnm hZ X e ho N => by
    subst hb hp e1 e2 e3
    obtain ⟨kA, Av⟩ := A.arv
    obtain ⟨kB, Bv⟩ := B.arv
    obtain ⟨T', h', L, X', e', F, Kp, V, S⟩ := cpA X hx hZ hown w1 w2 w3 w4 e Av Bv (us := ((vs.drop sp.toNatClampNeg).take nn.toNatClampNeg).map Value.int) (Or.inl ⟨rfl, rfl⟩) h1 h2 h3 (by rw [nat_i32 A.short]; exact h4) (by rw [nat_i32 B.short]; exact h5)
      (by
        refine List.ext_getElem? fun q => ?_
        by_cases c1 : q < nn.toNatClampNeg
        · have c2 : sp.toNatClampNeg + q < vs.length := by omega
          simp [List.getElem?_take, c1, c2, List.getD_eq_getElem?_getD]
        · simp [List.getElem?_take, c1]) (by rw [List.length_map]; exact h5) N hin (g := mkF (km K) pc Ls (.int nn :: .int dp :: .ref b :: .int sp :: .ref a :: st)) rfl (hsz.trans hml.symm) rfl hd hf (W := W) (by show 2 * 0 + _ ≤ _; omega) hlo
    refine ⟨T', h', L, X', e', F, Kp, ia_of V (by simp [List.map_take, List.map_drop]) (by rw [nat_i32 B.short]; simp only [List.length_append, List.length_take, List.length_drop]; omega), S⟩) hsf G
theorem g_alen {a : Addr} {ty : FieldType} {vs : List Int32} {x : Int32} (hd : decode bytes pc = .ok (.arraylength, 1)) (A : Ia Z h a ty vs) (hv : Int32.ofNat vs.length = x) (hp : pc + 1 = pc') (G : Go l Z n0 EL mn bytes ml ret R h0 ws fr Q K sf h k n pc' Ls (.int x :: st)) : Go l Z n0 EL mn bytes ml ret R h0 ws fr Q K sf h k n pc Ls (.ref a :: st) :=
  g_law (fun s' T locs hx hb hml hown hnm hZ X e ho => ⟨T, X, e, fun t s => by
    subst hb hp hv
    obtain ⟨c, A1, A2, A3, A4⟩ := A
    have es : c.slots.size = vs.length := by rw [← Array.length_toList, A2, List.length_map]
    refine X.arraylength hx (by rw [e]; exact A1.1) (State.isArrayOf_alike hZ.alike A1.2.1) (g := mkF (km K) pc Ls (.ref a :: st)) rfl rfl hd t ?_
    rw [es]; exact s⟩) G
-- returns
theorem g_ireturn {x : Int32} (hd : decode bytes pc = .ok (.ireturn, 1)) (hr : ret = some .int) (hq : Q (.int x) h) (hk : k ≤ R.cells) (hn : n ≤ R.slots) : Go l Z n0 EL mn bytes ml ret R h0 ws fr Q K sf h k n pc Ls (.int x :: st) :=
  g_ret (w := .int x) (fun s' T locs hx hb X hret fs hl => by subst hb hr; exact retOut X hx hret rfl (Or.inl ⟨rfl, Or.inl rfl, x, rfl⟩) hd hl) hq (fun _ _ e => nomatch e) hk hn
theorem g_ireturnN {x z : Int32} {t : FieldType} (hd : decode bytes pc = .ok (.ireturn, 1)) (hr : ret = some t) (ht : t = .boolean ∨ t = .byte ∨ t = .char ∨ t = .short) (hz : nar t x = z) (hq : Q (.int z) h) (hk : k ≤ R.cells) (hn : n ≤ R.slots) : Go l Z n0 EL mn bytes ml ret R h0 ws fr Q K sf h k n pc Ls (.int x :: st) :=
  g_ret (w := .int z) (fun s' T locs hx hb X hret fs hl => by subst hb hr hz; exact retN X hx hret ht hd hl) hq (fun _ _ e => nomatch e) hk hn
theorem g_lreturn {x : Int64} (hd : decode bytes pc = .ok (.lreturn, 1)) (hr : ret = some .long) (hq : Q (.long x) h) (hk : k ≤ R.cells) (hn : n ≤ R.slots) : Go l Z n0 EL mn bytes ml ret R h0 ws fr Q K sf h k n pc Ls (.long x :: st) :=
  g_ret (w := .long x) (fun s' T locs hx hb X hret fs hl => by subst hb hr; exact retOut X hx hret rfl (Or.inr (Or.inl ⟨rfl, rfl, x, rfl⟩)) hd hl) hq (fun _ _ e => nomatch e) hk hn
theorem g_areturnF {x : Value} {t : FieldType} (hd : decode bytes pc = .ok (.areturn, 1)) (hr : ret = some t) (ht : t.isReference = true) (hv : x.isRef = true) (hq : Q x h) (hfr : fr = true → ∀ a, x = .ref a → a ∈ sf) (hk : k ≤ R.cells) (hn : n ≤ R.slots) : Go l Z n0 EL mn bytes ml ret R h0 ws fr Q K sf h k n pc Ls (x :: st) :=
  g_ret (w := x) (fun s' T locs hx hb X hret fs hl => by
    subst hb hr
    have hnw : narrow t x = x := by rcases ref_cases hv with rfl | ⟨b, rfl⟩ <;> cases t <;> first | rfl | cases ht
    exact retOut X hx hret hnw (Or.inr (Or.inr (Or.inr (Or.inr ⟨rfl, ht, hv⟩)))) hd hl) hq hfr hk hn
theorem g_areturn {x : Value} {t : FieldType} (hd : decode bytes pc = .ok (.areturn, 1)) (hr : ret = some t) (ht : t.isReference = true) (hv : x.isRef = true) (hq : Q x h) (hk : k ≤ R.cells) (hn : n ≤ R.slots) (hfr : fr = false := by rfl) : Go l Z n0 EL mn bytes ml ret R h0 ws fr Q K sf h k n pc Ls (x :: st) :=
  g_areturnF hd hr ht hv hq (fun q => by rw [hfr] at q; cases q) hk hn
theorem g_return (hd : decode bytes pc = .ok (.return_, 1)) (hr : ret = none) (hq : Q .null h) (hk : k ≤ R.cells) (hn : n ≤ R.slots) : Go l Z n0 EL mn bytes ml ret R h0 ws fr Q K sf h k n pc Ls [] :=
  g_ret (w := .null) (fun s' T locs hx hb X hret fs hl => by subst hb hr; exact X.returnOut hx hret hd hl) hq (fun _ _ e => nomatch e) hk hn
-- calls by a Back form
def Bk (l : Launch) (Z : State) (n0 : Nat) (R : Room) (h0 : Heap) (ws : List Addr) (h : Heap) (y : MethodName) (W kc' nc : Nat) (as : Array Value) (Qc : Option Value → Heap → List Loc → Prop) : Prop :=
  ∀ (p : Program) (e : Env) (below : List Frame) (s : State) (args : Array Value), Z.Warmed39 s.vm → Old Z n0 h → Keep h0 h ws → Back l R p e below s args y 3 W (fun A a => a = as ∧ A.U.heap = h ∧ A.cells + kc' ≤ R.cells ∧ A.slots + nc ≤ R.slots) (fun A _ v B => ∃ L, Qc v B.U.heap L ∧ B.locs = A.locs ++ L ∧ B.cells = A.cells + kc' ∧ B.slots = A.slots + nc)
theorem nf_self {y : MethodName} {C : String} (w : (Jvm.Cond.selects C y y).before a0 Z = true) : ∀ s : State, Z.Warmed39 s.vm → NotFace s y := fun s hZ => notFace_of_selects (args := #[]) (mvT hZ w)
theorem g_staticB {idx W kc' nc : Nat} {y : MethodName} {ret' : Option FieldType} {bytes' : ByteArray} {maxL : Nat} {argsL rest : List Value} {wsb : List Addr} {Qc : Option Value → Heap → List Loc → Prop} (hd : decode bytes pc = .ok (.invokestatic idx, 3)) (wl : (Jvm.Cond.methodLink mn.cls idx y).before a0 Z = true) (wst : (Jvm.Cond.static y).before a0 Z = true) (wz : (Jvm.Cond.initialized y.cls).before a0 Z = true) (wc : (Jvm.Cond.code y bytes' maxL ret').before a0 Z = true) (hy : y.cls ≠ "java/lang/invoke/MethodHandle" ∧ y.cls ≠ "java/lang/invoke/VarHandle") (hlen : ∀ sig, parseMethodDescriptor y.desc = some sig → argsL.length = sig.parameters.length)
    (B : Bk l Z n0 R h0 ws h y W kc' nc argsL.toArray Qc) (hQ : Keep h0 h ws → ∀ v h' L, Qc v h' L → Nw h0 ws L ∧ Keep h h' wsb) (hsf : ∀ x ∈ wsb, x ∈ sf)
    (hs : st = argsL.reverse ++ rest) (hW : (rest.map fun v => v.category).sum ≤ W) (hsz : Ls.size = ml) (hk : k + kc' ≤ R.cells) (hn : n + nc ≤ R.slots) (hp : pc + 3 = pc')
    (G : ∀ v h' L, Qc v h' L → Go l Z n0 EL mn bytes ml ret R h0 ws fr Q K sf h' (k + kc') (n + nc) pc' Ls (v.toList ++ rest)) : Go l Z n0 EL mn bytes ml ret R h0 ws fr Q K sf h k n pc Ls st :=
  g_call (fun s' T locs hx hb hml hown hnm hZ X e ho hKp => by
    subst hb hp
    obtain ⟨v, vm₁, ⟨T', L', c', s''⟩, -, X', ⟨Lc, hQ', e1, e2, e3⟩, S⟩ := Jvm.LawKit.callS X hx (y := y) hown (mvT hZ wl) (mvT hZ wst) (mvT hZ wz) (mvT hZ wc) hy (B _ _ _ _ _ hZ ho hKp) (g := mkF (km K) pc Ls st) rfl (hsz.trans hml.symm) (argsL := argsL) (rest := rest) hlen hs (by show 2 * 0 + _ ≤ _; omega) hd (fun _ _ => ⟨rfl, e, hk, hn⟩)
    dsimp only [Pt.U, Pt.locs, Pt.cells, Pt.slots] at X' e1 e2 e3 S hQ'
    subst e1 e2 e3
    exact ⟨v, T', Lc, X', hQ', S⟩) hQ hsf G
theorem g_initB {idx W kc' nc : Nat} {y : MethodName} {bytes' : ByteArray} {maxL : Nat} {a : Addr} {argsL rest : List Value} {wsb : List Addr} {Qc : Option Value → Heap → List Loc → Prop} (hd : decode bytes pc = .ok (.invokespecial idx, 3)) (hy1 : y.name = "<init>") (wl : (Jvm.Cond.methodLink mn.cls idx y).before a0 Z = true) (wst : (Jvm.Cond.instanceMethod y).before a0 Z = true) (wc : (Jvm.Cond.code y bytes' maxL none).before a0 Z = true) (hy : y.cls ≠ "java/lang/invoke/MethodHandle" ∧ y.cls ≠ "java/lang/invoke/VarHandle") (hlen : ∀ sig, parseMethodDescriptor y.desc = some sig → argsL.length = sig.parameters.length)
    (B : Bk l Z n0 R h0 ws h y W kc' nc (.ref a :: argsL).toArray Qc) (hQ : Keep h0 h ws → ∀ v h' L, Qc v h' L → Nw h0 ws L ∧ Keep h h' wsb) (hsf : ∀ x ∈ wsb, x ∈ sf)
    (hs : st = argsL.reverse ++ .ref a :: rest) (hW : (rest.map fun v => v.category).sum ≤ W) (hsz : Ls.size = ml) (hk : k + kc' ≤ R.cells) (hn : n + nc ≤ R.slots) (hp : pc + 3 = pc')
    (G : ∀ v h' L, Qc v h' L → Go l Z n0 EL mn bytes ml ret R h0 ws fr Q K sf h' (k + kc') (n + nc) pc' Ls (v.toList ++ rest)) : Go l Z n0 EL mn bytes ml ret R h0 ws fr Q K sf h k n pc Ls st :=
  g_call (fun s' T locs hx hb hml hown hnm hZ X e ho hKp => by
    subst hb hp
    obtain ⟨v, vm₁, ⟨T', L', c', s''⟩, -, X', ⟨Lc, hQ', e1, e2, e3⟩, S⟩ := X.specialBack hx (y := y) hy1 hown (mvT hZ wl) (mvT hZ wst) (mvT hZ wc) hy (B _ _ _ _ _ hZ ho hKp) (g := mkF (km K) pc Ls st) rfl (hsz.trans hml.symm) (Steps.refl _) (a := a) (argsL := argsL) (rest := rest) hlen hs (by show 2 * 0 + _ ≤ _; omega) hd (fun _ _ => ⟨rfl, e, hk, hn⟩)
    dsimp only [Pt.U, Pt.locs, Pt.cells, Pt.slots] at X' e1 e2 e3 S hQ'
    subst e1 e2 e3
    exact ⟨v, T', Lc, X', hQ', fun t u => S.trans u⟩) hQ hsf G
theorem g_virtB {idx W kc' nc : Nat} {y : MethodName} {a : Addr} {z : MethodName} {C : String} {argsL rest : List Value} {wsb : List Addr} {Qc : Option Value → Heap → List Loc → Prop} (hd : decode bytes pc = .ok (.invokevirtual idx, 3)) (wl : (Jvm.Cond.methodLink mn.cls idx y).before a0 Z = true) (wd : (Jvm.Cond.declares y).before a0 Z = true) (hnf : ∀ s : State, Z.Warmed39 s.vm → NotFace s y) (wsel : (Jvm.Cond.selects C y z).before a0 Z = true) (wst : (Jvm.Cond.instanceMethod z).before a0 Z = true) (hy : y.cls ≠ "java/lang/invoke/MethodHandle" ∧ y.cls ≠ "java/lang/invoke/VarHandle") (hlen : ∀ sig, parseMethodDescriptor y.desc = some sig → argsL.length = sig.parameters.length) (E : Exa Z h a C)
    (B : Bk l Z n0 R h0 ws h z W kc' nc (.ref a :: argsL).toArray Qc) (hQ : Keep h0 h ws → ∀ v h' L, Qc v h' L → Nw h0 ws L ∧ Keep h h' wsb) (hsf : ∀ x ∈ wsb, x ∈ sf)
    (hs : st = argsL.reverse ++ .ref a :: rest) (hW : (rest.map fun v => v.category).sum ≤ W) (hsz : Ls.size = ml) (hk : k + kc' ≤ R.cells) (hn : n + nc ≤ R.slots) (hp : pc + 3 = pc')
    (G : ∀ v h' L, Qc v h' L → Go l Z n0 EL mn bytes ml ret R h0 ws fr Q K sf h' (k + kc') (n + nc) pc' Ls (v.toList ++ rest)) : Go l Z n0 EL mn bytes ml ret R h0 ws fr Q K sf h k n pc Ls st :=
  g_call (fun s' T locs hx hb hml hown hnm hZ X e ho hKp => by
    subst hb hp
    obtain ⟨cq, kq, q1, q2, q3⟩ := isOf hZ e E
    obtain ⟨v, vm₁, ⟨T', L', c', s''⟩, -, X', ⟨Lc, hQ', e1, e2, e3⟩, S⟩ := X.virtualBack hx (y := y) (z := z) hown (mvT hZ wl) (mvT hZ wd) (hnf _ hZ) (mvT hZ wsel) (mvT hZ wst) hy (B _ _ _ _ _ hZ ho hKp) q1 q3 (g := mkF (km K) pc Ls st) rfl (hsz.trans hml.symm) (Steps.refl _) (argsL := argsL) (rest := rest) hlen hs (by show 2 * 0 + _ ≤ _; omega) hd (fun _ _ => ⟨rfl, e, hk, hn⟩)
    dsimp only [Pt.U, Pt.locs, Pt.cells, Pt.slots] at X' e1 e2 e3 S hQ'
    subst e1 e2 e3
    exact ⟨v, T', Lc, X', hQ', fun t u => S.trans u⟩) hQ hsf G
/-- the object that a callee hands back as one of its own making -/
def frs (fr : Bool) (w : Value) : List Addr := match fr, w with
  | true, .ref a => [a]
  | _, _ => []
theorem frs_safe {fr' : Bool} {w : Value} {P : Addr → Prop} (q : fr' = true → ∀ a, w = .ref a → P a) (r : ∀ x ∈ sf, P x) : ∀ x ∈ frs fr' w ++ sf, P x := fun x hx => by
  rcases List.mem_append.mp hx with hx | hx
  · cases fr' with
    | false => cases hx
    | true => cases w <;> first | (cases List.mem_singleton.mp hx; exact q rfl _ rfl) | cases hx
  · exact r x hx
theorem g_static {idx W maxL : Nat} {y : MethodName} {bytes' : ByteArray} {t : FieldType} {argsL rest : List Value} {rm : Room} {ws' : List Addr} {fr' : Bool} {Q' : Value → Heap → Prop} (hd : decode bytes pc = .ok (.invokestatic idx, 3)) (wl : (Jvm.Cond.methodLink mn.cls idx y).before a0 Z = true) (wst : (Jvm.Cond.static y).before a0 Z = true) (hy : y.cls ≠ "java/lang/invoke/MethodHandle" ∧ y.cls ≠ "java/lang/invoke/VarHandle") (hlen : ∀ sig, parseMethodDescriptor y.desc = some sig → argsL.length = sig.parameters.length)
    (C' : Con l Z n0 EL y bytes' maxL (some t) [] rm argsL.toArray h ws' fr' Q') (wc : (Jvm.Cond.code y bytes' maxL (some t)).before a0 Z = true) (wz : (Jvm.Cond.initialized y.cls).before a0 Z = true) (hf : rm.frames + 1 ≤ R.frames) (hl : W + (maxL + 11) + rm.locals ≤ R.locals) (hws : ∀ x ∈ ws', (x ∈ ws ∨ h0.size ≤ x) ∧ x ∈ sf)
    (hs : st = argsL.reverse ++ rest) (hW : (rest.map fun v => v.category).sum ≤ W) (hsz : Ls.size = ml) (hk : k + rm.cells ≤ R.cells) (hn : n + rm.slots ≤ R.slots) (hp : pc + 3 = pc')
    (G : ∀ w h', Q' w h' → Keep h h' ws' → Go l Z n0 EL mn bytes ml ret R h0 ws fr Q K (frs fr' w ++ sf) h' (k + rm.cells) (n + rm.slots) pc' Ls (w :: rest)) : Go l Z n0 EL mn bytes ml ret R h0 ws fr Q K sf h k n pc Ls st :=
  fun ok T locs vm0 k0 Xs => by
  obtain ⟨ho, hKp⟩ := old_at ok Xs
  have ok' := ok
  obtain ⟨X, e, a3, a4, a5, hZ0, hown0, a8, a9⟩ := Xs
  obtain ⟨hx, hb, hml, -, hnm, -, -, -, -, ho0, hn1, a1, hEL⟩ := ok
  have hZ : Z.Warmed39 ((ks K).setVm vm0).vm := hZ0
  have hown : ((ks K).setVm vm0).vm.findClass mn.cls = some (km K).cls := hown0
  have B := backOfX (R := R) (p := kp K) (e := ke K) (s := ks K) (args := ka K) (below := kb K) (len := 3) (W := W) (C' ho (fun x hx => (hws x hx).1.elim (hn1 x) fun q => Nat.le_trans (ho0.1 ▸ ho0.2.1) q) ⟨a1, hEL⟩) hZ0 wc wz hf hl hEL a8.1 (fun x hx => a9 x (hws x hx).2)
  subst hb hp
  obtain ⟨v, vm₁, ⟨T', L', c', s''⟩, -, X', hS, hgr, ⟨Lc, ⟨⟨w, rfl, q5, q6, q7⟩, q8⟩, e1, e2, e3, q4⟩, S⟩ := callSS X hx (y := y) hown (mvT hZ wl) (mvT hZ wst) (mvT hZ wz) (mvT hZ wc) hy B (g := mkF (km K) pc Ls st) rfl (hsz.trans hml.symm) (argsL := argsL) (rest := rest) hlen hs (by show 2 * 0 + _ ≤ _; omega) hd (fun _ _ => ⟨rfl, e, hk, hn⟩)
  dsimp only [Pt.U, Pt.locs, Pt.cells, Pt.slots] at X' e1 e2 e3 S hS hgr q4 q5 q6 q7
  subst e1 e2 e3
  have nw : Nw h0 ws Lc := fun x hx => (q8 x hx).elim (fun q => (hws _ q).1) fun q => Or.inr (Nat.le_trans hKp.1 q)
  obtain ⟨s₂, u, L2, h1, r⟩ := G w _ q5 q6 ok' T' _ T'.vm T'.heap.size ⟨X', rfl, a3.app nw, a4.trans hS (Nat.le_trans (by rw [← e] at a5; exact a5) hgr), Nat.le_refl _, State.Warmed39.trans hZ hS.1, (hS.1.alike.findClass _ _).trans hown, a8.trans q4, frs_safe q7 fun x hx => ⟨Nat.lt_of_lt_of_le (a9 x hx).1 q6.1, q4.safe (a9 x hx).1 (a9 x hx).2⟩⟩
  exact ⟨s₂, u, L2, S.trans h1, r⟩
theorem g_staticN {idx W maxL : Nat} {y : MethodName} {bytes' : ByteArray} {argsL rest : List Value} {rm : Room} {ws' : List Addr} {fr' : Bool} {Q' : Value → Heap → Prop} (hd : decode bytes pc = .ok (.invokestatic idx, 3)) (wl : (Jvm.Cond.methodLink mn.cls idx y).before a0 Z = true) (wst : (Jvm.Cond.static y).before a0 Z = true) (hy : y.cls ≠ "java/lang/invoke/MethodHandle" ∧ y.cls ≠ "java/lang/invoke/VarHandle") (hlen : ∀ sig, parseMethodDescriptor y.desc = some sig → argsL.length = sig.parameters.length)
    (C' : Con l Z n0 EL y bytes' maxL none [] rm argsL.toArray h ws' fr' Q') (wc : (Jvm.Cond.code y bytes' maxL none).before a0 Z = true) (wz : (Jvm.Cond.initialized y.cls).before a0 Z = true) (hf : rm.frames + 1 ≤ R.frames) (hl : W + (maxL + 11) + rm.locals ≤ R.locals) (hws : ∀ x ∈ ws', (x ∈ ws ∨ h0.size ≤ x) ∧ x ∈ sf)
    (hs : st = argsL.reverse ++ rest) (hW : (rest.map fun v => v.category).sum ≤ W) (hsz : Ls.size = ml) (hk : k + rm.cells ≤ R.cells) (hn : n + rm.slots ≤ R.slots) (hp : pc + 3 = pc')
    (G : ∀ w h', Q' w h' → Keep h h' ws' → Go l Z n0 EL mn bytes ml ret R h0 ws fr Q K sf h' (k + rm.cells) (n + rm.slots) pc' Ls rest) : Go l Z n0 EL mn bytes ml ret R h0 ws fr Q K sf h k n pc Ls st :=
  fun ok T locs vm0 k0 Xs => by
  obtain ⟨ho, hKp⟩ := old_at ok Xs
  have ok' := ok
  obtain ⟨X, e, a3, a4, a5, hZ0, hown0, a8, a9⟩ := Xs
  obtain ⟨hx, hb, hml, -, hnm, -, -, -, -, ho0, hn1, a1, hEL⟩ := ok
  have hZ : Z.Warmed39 ((ks K).setVm vm0).vm := hZ0
  have hown : ((ks K).setVm vm0).vm.findClass mn.cls = some (km K).cls := hown0
  have B := backOfX (R := R) (p := kp K) (e := ke K) (s := ks K) (args := ka K) (below := kb K) (len := 3) (W := W) (C' ho (fun x hx => (hws x hx).1.elim (hn1 x) fun q => Nat.le_trans (ho0.1 ▸ ho0.2.1) q) ⟨a1, hEL⟩) hZ0 wc wz hf hl hEL a8.1 (fun x hx => a9 x (hws x hx).2)
  subst hb hp
  obtain ⟨v, vm₁, ⟨T', L', c', s''⟩, -, X', hS, hgr, ⟨Lc, ⟨⟨w, rfl, q5, q6, q7⟩, q8⟩, e1, e2, e3, q4⟩, S⟩ := callSS X hx (y := y) hown (mvT hZ wl) (mvT hZ wst) (mvT hZ wz) (mvT hZ wc) hy B (g := mkF (km K) pc Ls st) rfl (hsz.trans hml.symm) (argsL := argsL) (rest := rest) hlen hs (by show 2 * 0 + _ ≤ _; omega) hd (fun _ _ => ⟨rfl, e, hk, hn⟩)
  dsimp only [Pt.U, Pt.locs, Pt.cells, Pt.slots] at X' e1 e2 e3 S hS hgr q4 q5 q6 q7
  subst e1 e2 e3
  have nw : Nw h0 ws Lc := fun x hx => (q8 x hx).elim (fun q => (hws _ q).1) fun q => Or.inr (Nat.le_trans hKp.1 q)
  obtain ⟨s₂, u, L2, h1, r⟩ := G w _ q5 q6 ok' T' _ T'.vm T'.heap.size ⟨X', rfl, a3.app nw, a4.trans hS (Nat.le_trans (by rw [← e] at a5; exact a5) hgr), Nat.le_refl _, State.Warmed39.trans hZ hS.1, (hS.1.alike.findClass _ _).trans hown, a8.trans q4, fun x hx => ⟨Nat.lt_of_lt_of_le (a9 x hx).1 q6.1, q4.safe (a9 x hx).1 (a9 x hx).2⟩⟩
  exact ⟨s₂, u, L2, S.trans h1, r⟩
theorem g_init {idx W maxL : Nat} {y : MethodName} {bytes' : ByteArray} {a : Addr} {argsL rest : List Value} {rm : Room} {ws' : List Addr} {fr' : Bool} {Q' : Value → Heap → Prop} (hd : decode bytes pc = .ok (.invokespecial idx, 3)) (hy1 : y.name = "<init>") (wl : (Jvm.Cond.methodLink mn.cls idx y).before a0 Z = true) (wst : (Jvm.Cond.instanceMethod y).before a0 Z = true) (hy : y.cls ≠ "java/lang/invoke/MethodHandle" ∧ y.cls ≠ "java/lang/invoke/VarHandle") (hlen : ∀ sig, parseMethodDescriptor y.desc = some sig → argsL.length = sig.parameters.length)
    (C' : Con l Z n0 EL y bytes' maxL none [] rm (.ref a :: argsL).toArray h ws' fr' Q') (wc : (Jvm.Cond.code y bytes' maxL none).before a0 Z = true) (wz : (Jvm.Cond.initialized y.cls).before a0 Z = true) (hf : rm.frames + 1 ≤ R.frames) (hl : W + (maxL + 11) + rm.locals ≤ R.locals) (hws : ∀ x ∈ ws', (x ∈ ws ∨ h0.size ≤ x) ∧ x ∈ sf)
    (hs : st = argsL.reverse ++ .ref a :: rest) (hW : (rest.map fun v => v.category).sum ≤ W) (hsz : Ls.size = ml) (hk : k + rm.cells ≤ R.cells) (hn : n + rm.slots ≤ R.slots) (hp : pc + 3 = pc')
    (G : ∀ w h', Q' w h' → Keep h h' ws' → Go l Z n0 EL mn bytes ml ret R h0 ws fr Q K sf h' (k + rm.cells) (n + rm.slots) pc' Ls rest) : Go l Z n0 EL mn bytes ml ret R h0 ws fr Q K sf h k n pc Ls st :=
  fun ok T locs vm0 k0 Xs => by
  obtain ⟨ho, hKp⟩ := old_at ok Xs
  have ok' := ok
  obtain ⟨X, e, a3, a4, a5, hZ0, hown0, a8, a9⟩ := Xs
  obtain ⟨hx, hb, hml, -, hnm, -, -, -, -, ho0, hn1, a1, hEL⟩ := ok
  have hZ : Z.Warmed39 ((ks K).setVm vm0).vm := hZ0
  have hown : ((ks K).setVm vm0).vm.findClass mn.cls = some (km K).cls := hown0
  have B := backOfX (R := R) (p := kp K) (e := ke K) (s := ks K) (args := ka K) (below := kb K) (len := 3) (W := W) (C' ho (fun x hx => (hws x hx).1.elim (hn1 x) fun q => Nat.le_trans (ho0.1 ▸ ho0.2.1) q) ⟨a1, hEL⟩) hZ0 wc wz hf hl hEL a8.1 (fun x hx => a9 x (hws x hx).2)
  subst hb hp
  obtain ⟨v, vm₁, ⟨T', L', c', s''⟩, -, X', hS, hgr, ⟨Lc, ⟨⟨w, rfl, q5, q6, q7⟩, q8⟩, e1, e2, e3, q4⟩, S⟩ := X.specialBackS hx (y := y) hy1 hown (mvT hZ wl) (mvT hZ wst) (mvT hZ wc) hy B (g := mkF (km K) pc Ls st) rfl (hsz.trans hml.symm) (Steps.refl _) (a := a) (argsL := argsL) (rest := rest) hlen hs (by show 2 * 0 + _ ≤ _; omega) hd (fun _ _ => ⟨rfl, e, hk, hn⟩)
  dsimp only [Pt.U, Pt.locs, Pt.cells, Pt.slots] at X' e1 e2 e3 S hS hgr q4 q5 q6 q7
  subst e1 e2 e3
  have nw : Nw h0 ws Lc := fun x hx => (q8 x hx).elim (fun q => (hws _ q).1) fun q => Or.inr (Nat.le_trans hKp.1 q)
  obtain ⟨s₂, u, L2, h1, r⟩ := G w _ q5 q6 ok' T' _ T'.vm T'.heap.size ⟨X', rfl, a3.app nw, a4.trans hS (Nat.le_trans (by rw [← e] at a5; exact a5) hgr), Nat.le_refl _, State.Warmed39.trans hZ hS.1, (hS.1.alike.findClass _ _).trans hown, a8.trans q4, fun x hx => ⟨Nat.lt_of_lt_of_le (a9 x hx).1 q6.1, q4.safe (a9 x hx).1 (a9 x hx).2⟩⟩
  exact ⟨s₂, u, L2, S.trans h1, r⟩
theorem g_virt {idx W maxL : Nat} {y : MethodName} {bytes' : ByteArray} {t : FieldType} {a : Addr} {z : MethodName} {C : String} {argsL rest : List Value} {rm : Room} {ws' : List Addr} {fr' : Bool} {Q' : Value → Heap → Prop} (hd : decode bytes pc = .ok (.invokevirtual idx, 3)) (wl : (Jvm.Cond.methodLink mn.cls idx y).before a0 Z = true) (wd : (Jvm.Cond.declares y).before a0 Z = true) (hnf : ∀ s : State, Z.Warmed39 s.vm → NotFace s y) (wsel : (Jvm.Cond.selects C y z).before a0 Z = true) (wst : (Jvm.Cond.instanceMethod z).before a0 Z = true) (hy : y.cls ≠ "java/lang/invoke/MethodHandle" ∧ y.cls ≠ "java/lang/invoke/VarHandle") (hlen : ∀ sig, parseMethodDescriptor y.desc = some sig → argsL.length = sig.parameters.length) (E : Exa Z h a C)
    (C' : Con l Z n0 EL z bytes' maxL (some t) [] rm (.ref a :: argsL).toArray h ws' fr' Q') (wc : (Jvm.Cond.code z bytes' maxL (some t)).before a0 Z = true) (wz : (Jvm.Cond.initialized z.cls).before a0 Z = true) (hf : rm.frames + 1 ≤ R.frames) (hl : W + (maxL + 11) + rm.locals ≤ R.locals) (hws : ∀ x ∈ ws', (x ∈ ws ∨ h0.size ≤ x) ∧ x ∈ sf)
    (hs : st = argsL.reverse ++ .ref a :: rest) (hW : (rest.map fun v => v.category).sum ≤ W) (hsz : Ls.size = ml) (hk : k + rm.cells ≤ R.cells) (hn : n + rm.slots ≤ R.slots) (hp : pc + 3 = pc')
    (G : ∀ w h', Q' w h' → Keep h h' ws' → Go l Z n0 EL mn bytes ml ret R h0 ws fr Q K (frs fr' w ++ sf) h' (k + rm.cells) (n + rm.slots) pc' Ls (w :: rest)) : Go l Z n0 EL mn bytes ml ret R h0 ws fr Q K sf h k n pc Ls st :=
  fun ok T locs vm0 k0 Xs => by
  obtain ⟨ho, hKp⟩ := old_at ok Xs
  have ok' := ok
  obtain ⟨X, e, a3, a4, a5, hZ0, hown0, a8, a9⟩ := Xs
  obtain ⟨hx, hb, hml, -, hnm, -, -, -, -, ho0, hn1, a1, hEL⟩ := ok
  have hZ : Z.Warmed39 ((ks K).setVm vm0).vm := hZ0
  have hown : ((ks K).setVm vm0).vm.findClass mn.cls = some (km K).cls := hown0
  have B := backOfX (R := R) (p := kp K) (e := ke K) (s := ks K) (args := ka K) (below := kb K) (len := 3) (W := W) (C' ho (fun x hx => (hws x hx).1.elim (hn1 x) fun q => Nat.le_trans (ho0.1 ▸ ho0.2.1) q) ⟨a1, hEL⟩) hZ0 wc wz hf hl hEL a8.1 (fun x hx => a9 x (hws x hx).2)
  subst hb hp
  obtain ⟨cq, kq, q1, q2, q3⟩ := isOf hZ e E
  obtain ⟨v, vm₁, ⟨T', L', c', s''⟩, -, X', hS, hgr, ⟨Lc, ⟨⟨w, rfl, q5, q6, q7⟩, q8⟩, e1, e2, e3, q4⟩, S⟩ := X.virtualBackS hx (y := y) (z := z) hown (mvT hZ wl) (mvT hZ wd) (hnf _ hZ) (mvT hZ wsel) (mvT hZ wst) hy B q1 q3 (g := mkF (km K) pc Ls st) rfl (hsz.trans hml.symm) (Steps.refl _) (argsL := argsL) (rest := rest) hlen hs (by show 2 * 0 + _ ≤ _; omega) hd (fun _ _ => ⟨rfl, e, hk, hn⟩)
  dsimp only [Pt.U, Pt.locs, Pt.cells, Pt.slots] at X' e1 e2 e3 S hS hgr q4 q5 q6 q7
  subst e1 e2 e3
  have nw : Nw h0 ws Lc := fun x hx => (q8 x hx).elim (fun q => (hws _ q).1) fun q => Or.inr (Nat.le_trans hKp.1 q)
  obtain ⟨s₂, u, L2, h1, r⟩ := G w _ q5 q6 ok' T' _ T'.vm T'.heap.size ⟨X', rfl, a3.app nw, a4.trans hS (Nat.le_trans (by rw [← e] at a5; exact a5) hgr), Nat.le_refl _, State.Warmed39.trans hZ hS.1, (hS.1.alike.findClass _ _).trans hown, a8.trans q4, frs_safe q7 fun x hx => ⟨Nat.lt_of_lt_of_le (a9 x hx).1 q6.1, q4.safe (a9 x hx).1 (a9 x hx).2⟩⟩
  exact ⟨s₂, u, L2, S.trans h1, r⟩
theorem g_virtN {idx W maxL : Nat} {y : MethodName} {bytes' : ByteArray} {a : Addr} {z : MethodName} {C : String} {argsL rest : List Value} {rm : Room} {ws' : List Addr} {fr' : Bool} {Q' : Value → Heap → Prop} (hd : decode bytes pc = .ok (.invokevirtual idx, 3)) (wl : (Jvm.Cond.methodLink mn.cls idx y).before a0 Z = true) (wd : (Jvm.Cond.declares y).before a0 Z = true) (hnf : ∀ s : State, Z.Warmed39 s.vm → NotFace s y) (wsel : (Jvm.Cond.selects C y z).before a0 Z = true) (wst : (Jvm.Cond.instanceMethod z).before a0 Z = true) (hy : y.cls ≠ "java/lang/invoke/MethodHandle" ∧ y.cls ≠ "java/lang/invoke/VarHandle") (hlen : ∀ sig, parseMethodDescriptor y.desc = some sig → argsL.length = sig.parameters.length) (E : Exa Z h a C)
    (C' : Con l Z n0 EL z bytes' maxL none [] rm (.ref a :: argsL).toArray h ws' fr' Q') (wc : (Jvm.Cond.code z bytes' maxL none).before a0 Z = true) (wz : (Jvm.Cond.initialized z.cls).before a0 Z = true) (hf : rm.frames + 1 ≤ R.frames) (hl : W + (maxL + 11) + rm.locals ≤ R.locals) (hws : ∀ x ∈ ws', (x ∈ ws ∨ h0.size ≤ x) ∧ x ∈ sf)
    (hs : st = argsL.reverse ++ .ref a :: rest) (hW : (rest.map fun v => v.category).sum ≤ W) (hsz : Ls.size = ml) (hk : k + rm.cells ≤ R.cells) (hn : n + rm.slots ≤ R.slots) (hp : pc + 3 = pc')
    (G : ∀ w h', Q' w h' → Keep h h' ws' → Go l Z n0 EL mn bytes ml ret R h0 ws fr Q K sf h' (k + rm.cells) (n + rm.slots) pc' Ls rest) : Go l Z n0 EL mn bytes ml ret R h0 ws fr Q K sf h k n pc Ls st :=
  fun ok T locs vm0 k0 Xs => by
  obtain ⟨ho, hKp⟩ := old_at ok Xs
  have ok' := ok
  obtain ⟨X, e, a3, a4, a5, hZ0, hown0, a8, a9⟩ := Xs
  obtain ⟨hx, hb, hml, -, hnm, -, -, -, -, ho0, hn1, a1, hEL⟩ := ok
  have hZ : Z.Warmed39 ((ks K).setVm vm0).vm := hZ0
  have hown : ((ks K).setVm vm0).vm.findClass mn.cls = some (km K).cls := hown0
  have B := backOfX (R := R) (p := kp K) (e := ke K) (s := ks K) (args := ka K) (below := kb K) (len := 3) (W := W) (C' ho (fun x hx => (hws x hx).1.elim (hn1 x) fun q => Nat.le_trans (ho0.1 ▸ ho0.2.1) q) ⟨a1, hEL⟩) hZ0 wc wz hf hl hEL a8.1 (fun x hx => a9 x (hws x hx).2)
  subst hb hp
  obtain ⟨cq, kq, q1, q2, q3⟩ := isOf hZ e E
  obtain ⟨v, vm₁, ⟨T', L', c', s''⟩, -, X', hS, hgr, ⟨Lc, ⟨⟨w, rfl, q5, q6, q7⟩, q8⟩, e1, e2, e3, q4⟩, S⟩ := X.virtualBackS hx (y := y) (z := z) hown (mvT hZ wl) (mvT hZ wd) (hnf _ hZ) (mvT hZ wsel) (mvT hZ wst) hy B q1 q3 (g := mkF (km K) pc Ls st) rfl (hsz.trans hml.symm) (Steps.refl _) (argsL := argsL) (rest := rest) hlen hs (by show 2 * 0 + _ ≤ _; omega) hd (fun _ _ => ⟨rfl, e, hk, hn⟩)
  dsimp only [Pt.U, Pt.locs, Pt.cells, Pt.slots] at X' e1 e2 e3 S hS hgr q4 q5 q6 q7
  subst e1 e2 e3
  have nw : Nw h0 ws Lc := fun x hx => (q8 x hx).elim (fun q => (hws _ q).1) fun q => Or.inr (Nat.le_trans hKp.1 q)
  obtain ⟨s₂, u, L2, h1, r⟩ := G w _ q5 q6 ok' T' _ T'.vm T'.heap.size ⟨X', rfl, a3.app nw, a4.trans hS (Nat.le_trans (by rw [← e] at a5; exact a5) hgr), Nat.le_refl _, State.Warmed39.trans hZ hS.1, (hS.1.alike.findClass _ _).trans hown, a8.trans q4, fun x hx => ⟨Nat.lt_of_lt_of_le (a9 x hx).1 q6.1, q4.safe (a9 x hx).1 (a9 x hx).2⟩⟩
  exact ⟨s₂, u, L2, S.trans h1, r⟩
theorem bytes_lit {text : String} : text.toList.map (fun c => Value.int (Jvm.Lit.byteI c.toNat.toUInt16)) = (text.toList.map fun c => Jvm.Lit.byteI c.toNat.toUInt16).map Value.int := by rw [List.map_map]; rfl
/-- ldc of a constant of EL: its text is read -/
theorem g_ldcC {idx m : Nat} {text : String} (hd : decode bytes pc = .ok (.ldc idx, 2)) (w : (Jvm.Cond.stringLink mn.cls idx text).before a0 Z = true) (wS : ∀ a ∈ Bundle.stringAtoms, a.before a0 Z = true) (hmem : (mn.cls, idx) ∈ EL) (ht : ∀ c ∈ text.toList, c.toNat < 256) (hl31 : text.toList.length < 2 ^ 31) (hm : 4 * text.toList.length ≤ m) (hbig : m ≤ 536870912) (hk : k + 2 ≤ R.cells) (hn : n + (m + 4) ≤ R.slots) (hp : pc + 2 = pc')
    (G : ∀ a b h', Keep h h' [] → Exa Z h' a "java/lang/String" → Fld Z h' a "java/lang/String" "coder" "B" (.int 0) → Fld Z h' a "java/lang/String" "value" "[B" (.ref b) → Ia Z h' b .byte (text.toList.map fun c => Jvm.Lit.byteI c.toNat.toUInt16) → (∀ x ∈ sf, x ≠ a ∧ x ≠ b) → Go l Z n0 EL mn bytes ml ret R h0 ws fr Q K sf h' (k + 2) (n + (m + 4)) pc' Ls (.ref a :: st)) : Go l Z n0 EL mn bytes ml ret R h0 ws fr Q K sf h k n pc Ls st := fun ok T locs vm0 k0 X => by
  have ok' := ok
  obtain ⟨hx, hb, hml, -, hnm, -, -, -, -, -, -, a1, hEL⟩ := ok
  obtain ⟨X, e, a3, a4, a5, hZ, hown, a8, a9⟩ := X
  subst hb hp
  obtain ⟨a, T', h', k1, b, kk, X', e', E, hS, hk1, hZ', hown', E1, F1, F2, V, -, -, hC, -, hne, S⟩ := ldcCH X hx hZ hown w wS e a4 a5 hEL hmem a8.1 (z := Int32.ofNat text.toList.length) ⟨ht, bytes_lit⟩ (by rw [Int32.lt_iff_toInt_lt, Int32.toInt_ofNat_of_lt hl31]; have : (0 : Int32).toInt = 0 := rfl; omega) (by rw [Int32.toNatClampNeg, Int32.toInt_ofNat_of_lt hl31]; simp) (g := mkF (km K) pc Ls st) rfl hd hm hbig hk hn
  have V' := ia_of V rfl (by rw [Int32.toNatClampNeg, Int32.toInt_ofNat_of_lt hl31]; simp)
  have sf' : ∀ x ∈ sf, x < h'.size ∧ Safe Z EL T'.vm h' x := fun x hx => ⟨Nat.lt_of_lt_of_le (a9 x hx).1 E.1, hC.safe (a9 x hx).1 (a9 x hx).2⟩
  obtain ⟨s₂, u, L2, h1, r⟩ := G a b h' ((Keep.refl _ _).ext E) E1 F1 F2 V' (fun x hx => hne x (sf' x hx).2) ok' T' _ T'.vm k1 ⟨X', e', a3, hS, hk1, hZ', hown', a8.trans hC, sf'⟩
  exact ⟨s₂, u, L2, S _ h1, r⟩
/-- ldc of any constant, opaque -/
theorem g_ldcO {idx m : Nat} {text : String} (hd : decode bytes pc = .ok (.ldc idx, 2)) (w : (Jvm.Cond.stringLink mn.cls idx text).before a0 Z = true) (wS : ∀ a ∈ Bundle.stringAtoms, a.before a0 Z = true) (hm : 4 * text.toList.length ≤ m) (hbig : m ≤ 536870912) (hk : k + 2 ≤ R.cells) (hn : n + (m + 4) ≤ R.slots) (hp : pc + 2 = pc')
    (G : ∀ a h', Keep h h' [] → Go l Z n0 EL mn bytes ml ret R h0 ws fr Q K sf h' (k + 2) (n + (m + 4)) pc' Ls (.ref a :: st)) : Go l Z n0 EL mn bytes ml ret R h0 ws fr Q K sf h k n pc Ls st := fun ok T locs vm0 k0 X => by
  have ok' := ok
  obtain ⟨hx, hb, hml, -, hnm, -, -, -, -, -, -, a1, hEL⟩ := ok
  obtain ⟨X, e, a3, a4, a5, hZ, hown, a8, a9⟩ := X
  subst hb hp
  obtain ⟨a, T', h', k1, X', e', E, hS, hk1, hZ', hown', hC, -, S⟩ := ldcOH X hx hZ hown w wS e a4 a5 hEL a8.1 (g := mkF (km K) pc Ls st) rfl hd hm hbig hk hn
  obtain ⟨s₂, u, L2, h1, r⟩ := G a h' ((Keep.refl _ _).ext E) ok' T' _ T'.vm k1 ⟨X', e', a3, hS, hk1, hZ', hown', a8.trans hC, fun x hx => ⟨Nat.lt_of_lt_of_le (a9 x hx).1 E.1, hC.safe (a9 x hx).1 (a9 x hx).2⟩⟩
  exact ⟨s₂, u, L2, S _ h1, r⟩
end Rules
end Jvm.Pilot.@@N@@
namespace Jvm.Pilot.@@N@@
open Jvm Jvm.ClassFile Sem Op Lib Jvm.Free Jvm.Stand Jvm.LawKit Jvm.RoadKit Bundle Jvm.Pilot.@@N@@.Jvm.D
def Hw (a0 : Array Value) (Z : State) : Prop := ∀ d ∈ tables_1, d.before a0 Z = true
theorem hSA {a0 : Array Value} {Z : State} (hw : Hw a0 Z) : ∀ d ∈ Bundle.stringAtoms, d.before a0 Z = true := fun d hd => hw d ((by decide +kernel : ∀ d ∈ Bundle.stringAtoms, d ∈ tables_1) d hd)
def ELs : List (String × Nat) := [("java/lang/String", 7)]
/-- a Latin-1 String of the chars cs: its bytes lie at t -/
def St (Z : State) (h : Heap) (x t : Addr) (cs : List Int32) : Prop := Exa Z h x "java/lang/String" ∧ Fld Z h x "java/lang/String" "coder" "B" (.int 0) ∧ Fld Z h x "java/lang/String" "value" "[B" (.ref t) ∧ Ia Z h t .byte (cs.map fun c => c.toInt8.toInt32) ∧ ∀ c ∈ cs, ¬ c < 0 ∧ ¬ (255 : Int32) < c
theorem St.keep {Z : State} {h h' : Heap} {x t : Addr} {cs : List Int32} {ws : List Addr} (S : St Z h x t cs) (K : Keep h h' ws) (q : x ∉ ws) (q' : t ∉ ws) : St Z h' x t cs := ⟨S.1.keep K, S.2.1.keep K q, S.2.2.1.keep K q, S.2.2.2.1.keep K q', S.2.2.2.2⟩
theorem St.keep0 {Z : State} {h h' : Heap} {x t : Addr} {cs : List Int32} (S : St Z h x t cs) (K : Keep h h' []) : St Z h' x t cs := S.keep K nin0 nin0
theorem St.lt {Z : State} {h : Heap} {x t : Addr} {cs : List Int32} (S : St Z h x t cs) : x < h.size := S.1.lt
theorem low8 (x : Int32) : ¬ nar .char ((x &&& (255 : Int32)).toUInt32.toUInt16.toUInt32.toInt32) < 0 ∧ ¬ (255 : Int32) < nar .char ((x &&& (255 : Int32)).toUInt32.toUInt16.toUInt32.toInt32) := by
  have h1 := c_mask x 255 8 (by decide) (by decide)
  have h2 := c_i2c (x &&& 255)
  have h3 := c_i2c ((x &&& 255).toUInt32.toUInt16.toUInt32.toInt32)
  have e1 : (255 : Int32).toInt = 255 := by decide
  have e2 : (0 : Int32).toInt = 0 := by decide
  show ¬ ((x &&& (255 : Int32)).toUInt32.toUInt16.toUInt32.toInt32).toUInt32.toUInt16.toUInt32.toInt32 < 0 ∧ ¬ (255 : Int32) < ((x &&& (255 : Int32)).toUInt32.toUInt16.toUInt32.toInt32).toUInt32.toUInt16.toUInt32.toInt32
  rw [Int32.lt_iff_toInt_lt, Int32.lt_iff_toInt_lt, e1, e2]
  omega
theorem low8' (x : Int32) : ¬ (x &&& (255 : Int32)).toUInt32.toUInt16.toUInt32.toInt32 < 0 ∧ ¬ (255 : Int32) < (x &&& (255 : Int32)).toUInt32.toUInt16.toUInt32.toInt32 := by
  have h1 := c_mask x 255 8 (by decide) (by decide)
  have h2 := c_i2c (x &&& 255)
  have e1 : (255 : Int32).toInt = 255 := by decide
  have e2 : (0 : Int32).toInt = 0 := by decide
  rw [Int32.lt_iff_toInt_lt, Int32.lt_iff_toInt_lt, e1, e2]
  omega
theorem shr0 (x : Int32) : x >>> (0 &&& 31) = x := by
  rw [← Int32.toInt_inj, c_ishr x 0 0 (by decide)]; simp
/-- a byte read back is the char -/
theorem lo8 (c : Int32) (h : ¬ c < 0 ∧ ¬ (255 : Int32) < c) : (c.toInt8.toInt32 &&& 255).toUInt32.toUInt16.toUInt32.toInt32 = c ∧ nar .char c = c ∧ c.toUInt32.toUInt16.toUInt32.toInt32 = c := by
  have e1 : (255 : Int32).toInt = 255 := by decide
  have e2 : (0 : Int32).toInt = 0 := by decide
  have h1 := c_i2b c
  have h2 := c_mask c.toInt8.toInt32 255 8 (by decide) (by decide)
  have h3 := c_i2c (c.toInt8.toInt32 &&& 255)
  have h4 := c_i2c c
  rw [Int32.lt_iff_toInt_lt, Int32.lt_iff_toInt_lt, e1, e2] at h
  refine ⟨Int32.toInt_inj.mp (by omega), Int32.toInt_inj.mp ?_, Int32.toInt_inj.mp (by omega)⟩
  show c.toUInt32.toUInt16.toUInt32.toInt32.toInt = _
  omega
theorem ofNat_lt {i n : Nat} (h : i < n) (hn : n < 2 ^ 31) : ¬ Int32.ofNat i < 0 ∧ Int32.ofNat i < Int32.ofNat n ∧ (Int32.ofNat i).toNatClampNeg = i := by
  have e2 : (0 : Int32).toInt = 0 := by decide
  rw [Int32.lt_iff_toInt_lt, Int32.lt_iff_toInt_lt, Int32.toInt_ofNat_of_lt (by omega), Int32.toInt_ofNat_of_lt hn, Int32.toNatClampNeg, Int32.toInt_ofNat_of_lt (by omega), e2]
  omega
theorem ofNat_toInt {n : Nat} (h : n < 2 ^ 31) : (Int32.ofNat n).toInt = n := Int32.toInt_ofNat_of_lt h
theorem ofNat_le {a b : Nat} (h : a ≤ b) (hb : b < 2 ^ 31) : ¬ Int32.ofNat a < 0 ∧ ¬ Int32.ofNat b < Int32.ofNat a := by
  have e2 : (0 : Int32).toInt = 0 := by decide
  rw [Int32.lt_iff_toInt_lt, Int32.lt_iff_toInt_lt, ofNat_toInt hb, ofNat_toInt (by omega), e2]
  omega
theorem ofNat_inj {a b : Nat} (ha : a < 2 ^ 31) (hb : b < 2 ^ 31) : Int32.ofNat a = Int32.ofNat b ↔ a = b := by
  rw [← Int32.toInt_inj, ofNat_toInt ha, ofNat_toInt hb]; omega
theorem ofNat_sub {a b : Nat} (h : b ≤ a) (ha : a < 2 ^ 31) : Int32.ofNat a - Int32.ofNat b = Int32.ofNat (a - b) := by
  rw [← Int32.toInt_inj, ofNat_toInt (by omega)]
  have q := c_isub (Int32.ofNat a) (Int32.ofNat b); have r := rng32 (Int32.ofNat a - Int32.ofNat b)
  rw [ofNat_toInt ha, ofNat_toInt (by omega)] at q; omega
theorem ofNat_add {a b : Nat} (h : a + b < 2 ^ 31) : Int32.ofNat a + Int32.ofNat b = Int32.ofNat (a + b) := by
  rw [← Int32.toInt_inj, ofNat_toInt h]
  have q := c_iadd (Int32.ofNat a) (Int32.ofNat b); have r := rng32 (Int32.ofNat a + Int32.ofNat b)
  rw [ofNat_toInt (by omega), ofNat_toInt (by omega)] at q; omega
theorem ofNat_succ {a : Nat} (h : a + 1 < 2 ^ 31) : Int32.ofNat a + 1 = Int32.ofNat (a + 1) := ofNat_add (b := 1) h
theorem ofNat_pred {a : Nat} (h : 0 < a) (ha : a < 2 ^ 31) : Int32.ofNat a - 1 = Int32.ofNat (a - 1) := ofNat_sub (b := 1) h ha
theorem ofNat_pred' {a : Nat} (h : 0 < a) (ha : a < 2 ^ 31) : Int32.ofNat a + (-1) = Int32.ofNat (a - 1) := by
  rw [← ofNat_pred h ha]
  rw [← Int32.toInt_inj]
  have q := c_isub (Int32.ofNat a) 1; have r := rng32 (Int32.ofNat a - 1); have q' := c_iadd (Int32.ofNat a) (-1); have r' := rng32 (Int32.ofNat a + (-1))
  have e1 : (1 : Int32).toInt = 1 := by decide
  have e2 : (-1 : Int32).toInt = -1 := by decide
  omega
def bLo (c : Int32) : Int32 := c.toInt8.toInt32
def bHi (c : Int32) : Int32 := (c >>> (8 &&& 31)).toInt8.toInt32
/-- the bytes of UTF-16, the low one first -/
def b16 : List Int32 → List Int32
  | [] => []
  | c :: cs => bLo c :: bHi c :: b16 cs
def lat (cs : List Int32) : Bool := cs.all fun c => decide (¬ (255 : Int32) < c)
def enc (cs : List Int32) : List Int32 := if lat cs = true then cs.map bLo else b16 cs
theorem b16_len : ∀ cs : List Int32, (b16 cs).length = 2 * cs.length
  | [] => rfl
  | c :: cs => by simp only [b16, List.length_cons, b16_len cs]; omega
theorem b16_get : ∀ (cs : List Int32) (i : Nat) (c : Int32), cs[i]? = some c → (b16 cs)[2 * i]? = some (bLo c) ∧ (b16 cs)[2 * i + 1]? = some (bHi c)
  | [], i, c, h => by simp at h
  | a :: cs, 0, c, h => by
    simp only [List.getElem?_cons_zero, Option.some.injEq] at h; subst h; exact ⟨rfl, rfl⟩
  | a :: cs, i + 1, c, h => by
    have := b16_get cs i c (by simpa using h)
    rw [show 2 * (i + 1) = 2 * i + 1 + 1 by omega]
    exact ⟨by simpa [b16] using this.1, by simpa [b16] using this.2⟩
theorem b16_app : ∀ (a b : List Int32), b16 (a ++ b) = b16 a ++ b16 b
  | [], b => rfl
  | c :: a, b => by simp [b16, b16_app a b]
theorem b16_put (cs : List Int32) (i r : Nat) (c : Int32) (hc : cs[i]? = some c) : ((b16 (cs.take i) ++ List.replicate (2 * (r + 1)) 0).set (2 * i) (bLo c)).set (2 * i + 1) (bHi c) = b16 (cs.take (i + 1)) ++ List.replicate (2 * r) 0 := by
  have hi := (List.getElem?_eq_some_iff.mp hc).1
  have l1 : (b16 (cs.take i)).length = 2 * i := by rw [b16_len, List.length_take]; omega
  have e1 : cs.take (i + 1) = cs.take i ++ [c] := by rw [List.take_add_one, hc]; rfl
  rw [e1, b16_app, List.set_append, if_neg (by omega), l1, List.set_append, if_neg (by omega), l1]
  rw [show 2 * i - 2 * i = 0 by omega, show 2 * i + 1 - 2 * i = 1 by omega, show 2 * (r + 1) = 2 * r + 1 + 1 by omega, List.replicate_succ, List.replicate_succ]
  simp [b16]
theorem lat_map (cs : List Int32) (h : ∀ c ∈ cs, ¬ (255 : Int32) < c) : lat cs = true := by simp only [lat, List.all_eq_true, decide_eq_true_eq]; exact h
theorem lat_not (cs : List Int32) (i : Nat) (c : Int32) (hc : cs[i]? = some c) (h : 255 < c) : lat cs = false := by
  rw [Bool.eq_false_iff]; intro q
  simp only [lat, List.all_eq_true, decide_eq_true_eq] at q
  exact q c (List.mem_of_getElem? hc) h
theorem nar_b (x : Int32) : nar .byte x.toInt8.toInt32 = x.toInt8.toInt32 := by simp [nar]
theorem shl1 {i : Nat} (h : i < 2 ^ 30) : Int32.ofNat i <<< (1 &&& 31) = Int32.ofNat (2 * i) := by
  rw [← Int32.toInt_inj, Int32.toInt_ofNat_of_lt (by omega)]
  have q := c_ishl (Int32.ofNat i) 1 1 (by decide)
  have r := rng32 (Int32.ofNat i <<< (1 &&& 31))
  rw [Int32.toInt_ofNat_of_lt (by omega)] at q
  omega
theorem shr1 {i : Nat} (h : i < 2 ^ 30) : Int32.ofNat (2 * i) >>> (1 &&& 31) = Int32.ofNat i := by
  rw [← Int32.toInt_inj, Int32.toInt_ofNat_of_lt (by omega), c_ishr (Int32.ofNat (2 * i)) 1 1 (by decide), Int32.toInt_ofNat_of_lt (by omega)]
  omega
theorem get16 (c : Int32) (h : ¬ c < 0 ∧ ¬ (65535 : Int32) < c) : (((bLo c &&& 255) <<< (0 &&& 31)) ||| ((bHi c &&& 255) <<< (8 &&& 31))).toUInt32.toUInt16.toUInt32.toInt32 = c ∧ nar .char c = c := by
  have e1 : (65535 : Int32).toInt = 65535 := by decide
  have e2 : (0 : Int32).toInt = 0 := by decide
  rw [Int32.lt_iff_toInt_lt, Int32.lt_iff_toInt_lt, e1, e2] at h
  have h1 := c_i2b c
  have h2 := c_i2b (c >>> (8 &&& 31))
  have h3 := c_ishr c 8 8 (by decide)
  have h4 := c_mask (bLo c) 255 8 (by decide) (by decide)
  have h5 := c_mask (bHi c) 255 8 (by decide) (by decide)
  have h6 := c_ishl (bLo c &&& 255) 0 0 (by decide)
  have h7 := c_ishl (bHi c &&& 255) 8 8 (by decide)
  have r6 := rng32 ((bLo c &&& 255) <<< (0 &&& 31)); have r7 := rng32 ((bHi c &&& 255) <<< (8 &&& 31))
  have h8 := c_or ((bHi c &&& 255) <<< (8 &&& 31)) ((bLo c &&& 255) <<< (0 &&& 31)) 8 (by decide) 256 (by decide)
  have r8 := rng32 (((bHi c &&& 255) <<< (8 &&& 31)) ||| ((bLo c &&& 255) <<< (0 &&& 31)))
  have h9 := c_i2c (((bHi c &&& 255) <<< (8 &&& 31)) ||| ((bLo c &&& 255) <<< (0 &&& 31)))
  have h10 := c_i2c c
  have b1 : (bLo c).toInt = c.toInt8.toInt32.toInt := rfl
  have b2 : (bHi c).toInt = (c >>> (8 &&& 31)).toInt8.toInt32.toInt := rfl
  refine ⟨?_, ?_⟩
  · rw [Int32.or_comm, ← Int32.toInt_inj]
    have q1 : ((bLo c &&& 255) <<< (0 &&& 31)).toInt = c.toInt % 256 := by omega
    have q2 : ((bHi c &&& 255) <<< (8 &&& 31)).toInt = (c.toInt / 256) * 256 := by omega
    have := h8 (by omega) (by omega) (by omega)
    omega
  · show c.toUInt32.toUInt16.toUInt32.toInt32 = c
    rw [← Int32.toInt_inj]; omega
theorem cfa_lat (n : Int32) : ((n - n).toUInt32 >>> ((31 : Int32) &&& 31).toUInt32).toInt32.toInt8.toInt32 = 0 ∧ nar .byte 0 = 0 := by
  have : n - n = 0 := by rw [← Int32.toInt_inj]; have := c_isub n n; have r := rng32 (n - n); have e : (0 : Int32).toInt = 0 := by decide
                         omega
  rw [this]; decide
theorem cfa_u16 {n : Nat} (h0 : 0 < n) (h : n < 2 ^ 30) : ((Int32.ofNat n - Int32.ofNat (2 * n)).toUInt32 >>> ((31 : Int32) &&& 31).toUInt32).toInt32.toInt8.toInt32 = 1 := by
  have q := c_isub (Int32.ofNat n) (Int32.ofNat (2 * n)); have r := rng32 (Int32.ofNat n - Int32.ofNat (2 * n))
  rw [Int32.toInt_ofNat_of_lt (by omega), Int32.toInt_ofNat_of_lt (by omega)] at q
  have u := c_iushr (Int32.ofNat n - Int32.ofNat (2 * n)) 31 31 (by decide) (by decide)
  have e : ((Int32.ofNat n - Int32.ofNat (2 * n)).toUInt32 >>> ((31 : Int32) &&& 31).toUInt32).toInt32 = 1 := by
    rw [← Int32.toInt_inj, u]; have e : (1 : Int32).toInt = 1 := by decide
    omega
  rw [e]; decide
/-- a String of the chars cs, of either kind: its bytes lie at t -/
def Su (Z : State) (h : Heap) (x t : Addr) (cs : List Int32) : Prop := Exa Z h x "java/lang/String" ∧ Fld Z h x "java/lang/String" "coder" "B" (.int (if lat cs = true then 0 else 1)) ∧ Fld Z h x "java/lang/String" "value" "[B" (.ref t) ∧ Ia Z h t .byte (enc cs) ∧ (∀ c ∈ cs, ¬ c < 0 ∧ ¬ (65535 : Int32) < c) ∧ cs.length ≤ 8
theorem Su.keep {Z : State} {h h' : Heap} {x t : Addr} {cs : List Int32} {ws : List Addr} (S : Su Z h x t cs) (K : Keep h h' ws) (q : x ∉ ws) (q' : t ∉ ws) : Su Z h' x t cs := ⟨S.1.keep K, S.2.1.keep K q, S.2.2.1.keep K q, S.2.2.2.1.keep K q', S.2.2.2.2⟩
theorem Su.keep0 {Z : State} {h h' : Heap} {x t : Addr} {cs : List Int32} (S : Su Z h x t cs) (K : Keep h h' []) : Su Z h' x t cs := S.keep K nin0 nin0
theorem Su.lt {Z : State} {h : Heap} {x t : Addr} {cs : List Int32} (S : Su Z h x t cs) : x < h.size := S.1.lt
theorem nat32 {n : Nat} (h : n < 2 ^ 31) : (Int32.ofNat n).toNatClampNeg = n := nat_i32 h
def isHi (c : Int32) : Bool := decide (¬ c < 55296 ∧ c < 56320)
def isLo (c : Int32) : Bool := decide (¬ c < 56320 ∧ c < 57344)
theorem hi_lo (c : Int32) (h : isHi c = true) : isLo c = false := by
  simp only [isHi, decide_eq_true_eq] at h
  simp only [isLo, decide_eq_false_iff_not]; exact fun q => q.1 h.2
def ps (cs : List Int32) (x : Nat) : Bool := match cs[x]?, cs[x + 1]? with
  | some a, some b => isHi a && isLo b
  | _, _ => false
def adv (cs : List Int32) (x : Nat) : Nat := if ps cs x = true then x + 2 else x + 1
def advN (cs : List Int32) : Nat → Nat → Nat
  | 0, a => a
  | k + 1, a => adv cs (advN cs k a)
theorem advN_add (cs : List Int32) (a : Nat) (p : Nat) : ∀ k, advN cs k (advN cs p a) = advN cs (p + k) a
  | 0 => rfl
  | k + 1 => by rw [advN, advN_add cs a p k, ← Nat.add_assoc, advN]
theorem c16 (x : Int32) : (¬ x.toUInt32.toUInt16.toUInt32.toInt32 < 0 ∧ ¬ (65535 : Int32) < x.toUInt32.toUInt16.toUInt32.toInt32) ∧ nar .char x.toUInt32.toUInt16.toUInt32.toInt32 = x.toUInt32.toUInt16.toUInt32.toInt32 := by
  have h := c_i2c x
  have e1 : (65535 : Int32).toInt = 65535 := by decide
  have e2 : (0 : Int32).toInt = 0 := by decide
  have r : ¬ x.toUInt32.toUInt16.toUInt32.toInt32 < 0 ∧ ¬ (65535 : Int32) < x.toUInt32.toUInt16.toUInt32.toInt32 := by
    rw [Int32.lt_iff_toInt_lt, Int32.lt_iff_toInt_lt, e1, e2]; omega
  exact ⟨r, (get16 _ r).2⟩
theorem modN (x : Int32) (d : Nat) (h0 : 0 < d) (hd : d ≤ 8) : ∃ r, r < d ∧ (x &&& 7) % Int32.ofNat d = Int32.ofNat r := by
  have h1 := c_mask x 7 3 (by decide) (by decide)
  have h2 := (c_irem (x &&& 7) (Int32.ofNat d) d (ofNat_toInt (by omega))).1 (by rw [h1]; omega)
  have h3 := Int.emod_nonneg (x &&& 7).toInt (b := (d : Int)) (by omega)
  have h4 := Int.emod_lt_of_pos (x &&& 7).toInt (b := (d : Int)) (by omega)
  rw [← h2] at h3 h4
  refine ⟨((x &&& 7) % Int32.ofNat d).toInt.toNat, by omega, ?_⟩
  rw [← Int32.toInt_inj, ofNat_toInt (by omega)]; omega
theorem ofNat_ne {n : Nat} (h : 0 < n) (h' : n < 2 ^ 31) : Int32.ofNat n ≠ 0 := fun z => absurd ((ofNat_inj (b := 0) h' (by omega)).mp z) (by omega)
theorem sta_eq {Z : State} {args : Array Value} {C n d : String} {v : Int32} (h : (Jvm.Cond.eq (Jvm.Term.static C n d) (Jvm.Term.int v)).before args Z = true) (hi : (Jvm.Cond.initializedFor C n d).before args Z = true) : Sta Z Z.heap C n d (.int v) := by
  have h' := Cond.before_iff.mp h
  obtain ⟨x, y, hx, hy, k1, k2⟩ := cmp_v (Or.inl h')
  have ey : y = .int v := by
    have q := Term.int_eval (args := args) (first := Z) (o := none) (idx := []) (s := Z) v
    exact Option.some.inj (hy.symm.trans q)
  subst ey
  obtain ⟨w, rfl⟩ := k2
  have := gotT (Cond.eq_ints hx (Term.int_eval v)) h'
  subst this
  exact Sta.start hx (Or.inl hi)
/-- how many pairs lie from i on -/
def cpc (cs : List Int32) : Nat → Nat → Nat
  | 0, _ => 0
  | m + 1, i => if i + 1 < cs.length then (if ps cs i = true then cpc cs m (i + 2) + 1 else cpc cs m (i + 1)) else 0
theorem ps_lat (cs : List Int32) (h : lat cs = true) (i : Nat) : ps cs i = false := by
  unfold ps
  split
  · rename_i a b ha hb
    have q := List.all_eq_true.mp h a (List.mem_of_getElem? ha)
    simp only [decide_eq_true_eq, Int32.lt_iff_toInt_lt] at q
    have e1 : (255 : Int32).toInt = 255 := by decide
    have e2 : (55296 : Int32).toInt = 55296 := by decide
    have : isHi a = false := by
      simp only [isHi, decide_eq_false_iff_not, Int32.lt_iff_toInt_lt]; omega
    rw [this]; rfl
  · rfl
theorem cpc_lat (cs : List Int32) (h : lat cs = true) : ∀ m i, cpc cs m i = 0
  | 0, _ => rfl
  | m + 1, i => by rw [cpc, ps_lat cs h i, if_neg (by decide : ¬ (false = true)), cpc_lat cs h m]; split <;> rfl
theorem cpc_le (cs : List Int32) : ∀ m i, cpc cs m i + i ≤ max cs.length i
  | 0, i => by simp only [cpc]; omega
  | m + 1, i => by
    have h1 := cpc_le cs m (i + 2); have h2 := cpc_le cs m (i + 1)
    rw [cpc]
    split
    · split <;> omega
    · omega
theorem su_of_st {Z : State} {h : Heap} {x t : Addr} (S : St Z h x t []) : Su Z h x t [] := ⟨S.1, S.2.1, S.2.2.1, S.2.2.2.1, (fun c hc => by cases hc), Nat.zero_le _⟩
theorem and3 (p : Int32) : p &&& 3 = 0 ∨ p &&& 3 = 1 ∨ p &&& 3 = 2 ∨ p &&& 3 = 3 := by
  have h := c_mask p 3 2 (by decide) (by decide)
  have e0 : (0 : Int32).toInt = 0 := by decide
  have e1 : (1 : Int32).toInt = 1 := by decide
  have e2 : (2 : Int32).toInt = 2 := by decide
  have e3 : (3 : Int32).toInt = 3 := by decide
  simp only [← Int32.toInt_inj, e0, e1, e2, e3]
  omega
theorem all1 {c0 c1 c2 : Int32} (b0 : (¬ c0 < 0 ∧ ¬ (65535 : Int32) < c0)) (b1 : (¬ c1 < 0 ∧ ¬ (65535 : Int32) < c1)) (b2 : (¬ c2 < 0 ∧ ¬ (65535 : Int32) < c2)) : ∀ c ∈ ([c0] : List Int32), ¬ c < 0 ∧ ¬ (65535 : Int32) < c := fun c hc => by
  simp only [List.mem_cons, List.not_mem_nil, or_false] at hc
  subst hc
  exact b0
theorem all2 {c0 c1 c2 : Int32} (b0 : (¬ c0 < 0 ∧ ¬ (65535 : Int32) < c0)) (b1 : (¬ c1 < 0 ∧ ¬ (65535 : Int32) < c1)) (b2 : (¬ c2 < 0 ∧ ¬ (65535 : Int32) < c2)) : ∀ c ∈ ([c0, c1] : List Int32), ¬ c < 0 ∧ ¬ (65535 : Int32) < c := fun c hc => by
  simp only [List.mem_cons, List.not_mem_nil, or_false] at hc
  rcases hc with rfl | rfl
  · exact b0
  · exact b1
theorem all3 {c0 c1 c2 : Int32} (b0 : (¬ c0 < 0 ∧ ¬ (65535 : Int32) < c0)) (b1 : (¬ c1 < 0 ∧ ¬ (65535 : Int32) < c1)) (b2 : (¬ c2 < 0 ∧ ¬ (65535 : Int32) < c2)) : ∀ c ∈ ([c0, c1, c2] : List Int32), ¬ c < 0 ∧ ¬ (65535 : Int32) < c := fun c hc => by
  simp only [List.mem_cons, List.not_mem_nil, or_false] at hc
  rcases hc with rfl | rfl | rfl
  · exact b0
  · exact b1
  · exact b2
theorem w_0 {a0 : Array Value} {Z : State} (hw : Hw a0 Z) : (Jvm.Cond.methodLink "com/example/saale/saale/protocol/LengthsAtMostPinLaw" (13 : Nat) ({ cls := "com/example/saale/saale/protocol/LengthsAtMostPinLaw", name := "draw", desc := "(I)C" } : Jvm.MethodName)).before a0 Z = true := hw _ (List.mem_of_getElem? (i := 0) rfl)
theorem w_1 {a0 : Array Value} {Z : State} (hw : Hw a0 Z) : (Jvm.Cond.static ({ cls := "com/example/saale/saale/protocol/LengthsAtMostPinLaw", name := "draw", desc := "(I)C" } : Jvm.MethodName)).before a0 Z = true := hw _ (List.mem_of_getElem? (i := 1) rfl)
theorem w_2 {a0 : Array Value} {Z : State} (hw : Hw a0 Z) : (Jvm.Cond.initialized "com/example/saale/saale/protocol/LengthsAtMostPinLaw").before a0 Z = true := hw _ (List.mem_of_getElem? (i := 2) rfl)
theorem w_3 {a0 : Array Value} {Z : State} (hw : Hw a0 Z) : (Jvm.Cond.code ({ cls := "com/example/saale/saale/protocol/LengthsAtMostPinLaw", name := "draw", desc := "(I)C" } : Jvm.MethodName) method_2_code (1 : Nat) (Option.some Jvm.ClassFile.FieldType.char)).before a0 Z = true := hw _ (List.mem_of_getElem? (i := 3) rfl)
theorem w_4 {a0 : Array Value} {Z : State} (hw : Hw a0 Z) : (Jvm.Cond.constant "com/example/saale/saale/protocol/LengthsAtMostPinLaw" (7 : Nat) (65536 : Int32)).before a0 Z = true := hw _ (List.mem_of_getElem? (i := 4) rfl)
theorem w_5 {a0 : Array Value} {Z : State} (hw : Hw a0 Z) : (Jvm.Cond.constant "com/example/saale/saale/protocol/LengthsAtMostPinLaw" (9 : Nat) (65535 : Int32)).before a0 Z = true := hw _ (List.mem_of_getElem? (i := 5) rfl)
theorem w_6 {a0 : Array Value} {Z : State} (hw : Hw a0 Z) : (Jvm.Cond.methodLink "com/example/saale/saale/protocol/LengthsAtMostPinLaw" (19 : Nat) ({ cls := "java/lang/String", name := "valueOf", desc := "(C)Ljava/lang/String;" } : Jvm.MethodName)).before a0 Z = true := hw _ (List.mem_of_getElem? (i := 6) rfl)
theorem w_7 {a0 : Array Value} {Z : State} (hw : Hw a0 Z) : (Jvm.Cond.static ({ cls := "java/lang/String", name := "valueOf", desc := "(C)Ljava/lang/String;" } : Jvm.MethodName)).before a0 Z = true := hw _ (List.mem_of_getElem? (i := 7) rfl)
theorem w_8 {a0 : Array Value} {Z : State} (hw : Hw a0 Z) : (Jvm.Cond.initialized "java/lang/String").before a0 Z = true := hw _ (List.mem_of_getElem? (i := 8) rfl)
theorem w_9 {a0 : Array Value} {Z : State} (hw : Hw a0 Z) : (Jvm.Cond.code ({ cls := "java/lang/String", name := "valueOf", desc := "(C)Ljava/lang/String;" } : Jvm.MethodName) jdk_42_method_139_code (1 : Nat) (Option.some (Jvm.ClassFile.FieldType.object "java/lang/String"))).before a0 Z = true := hw _ (List.mem_of_getElem? (i := 9) rfl)
theorem w_10 {a0 : Array Value} {Z : State} (hw : Hw a0 Z) : (Jvm.Cond.fieldLink "java/lang/String" (38 : Nat) "java/lang/String" "COMPACT_STRINGS" "Z").before a0 Z = true := hw _ (List.mem_of_getElem? (i := 10) rfl)
theorem w_11 {a0 : Array Value} {Z : State} (hw : Hw a0 Z) : (Jvm.Cond.methodLink "java/lang/String" (1015 : Nat) ({ cls := "java/lang/StringLatin1", name := "canEncode", desc := "(C)Z" } : Jvm.MethodName)).before a0 Z = true := hw _ (List.mem_of_getElem? (i := 11) rfl)
theorem w_12 {a0 : Array Value} {Z : State} (hw : Hw a0 Z) : (Jvm.Cond.static ({ cls := "java/lang/StringLatin1", name := "canEncode", desc := "(C)Z" } : Jvm.MethodName)).before a0 Z = true := hw _ (List.mem_of_getElem? (i := 12) rfl)
theorem w_13 {a0 : Array Value} {Z : State} (hw : Hw a0 Z) : (Jvm.Cond.initialized "java/lang/StringLatin1").before a0 Z = true := hw _ (List.mem_of_getElem? (i := 13) rfl)
theorem w_14 {a0 : Array Value} {Z : State} (hw : Hw a0 Z) : (Jvm.Cond.code ({ cls := "java/lang/StringLatin1", name := "canEncode", desc := "(C)Z" } : Jvm.MethodName) jdk_43_method_3_code (1 : Nat) (Option.some Jvm.ClassFile.FieldType.boolean)).before a0 Z = true := hw _ (List.mem_of_getElem? (i := 14) rfl)
theorem w_15 {a0 : Array Value} {Z : State} (hw : Hw a0 Z) : (Jvm.Cond.classLink "java/lang/String" (10 : Nat) "java/lang/String").before a0 Z = true := hw _ (List.mem_of_getElem? (i := 15) rfl)
theorem w_16 {a0 : Array Value} {Z : State} (hw : Hw a0 Z) : (Jvm.Cond.instantiable "java/lang/String" (4 : Nat)).before a0 Z = true := hw _ (List.mem_of_getElem? (i := 16) rfl)
theorem w_17 {a0 : Array Value} {Z : State} (hw : Hw a0 Z) : (Jvm.Cond.methodLink "java/lang/String" (1018 : Nat) ({ cls := "java/lang/StringLatin1", name := "toBytes", desc := "(C)[B" } : Jvm.MethodName)).before a0 Z = true := hw _ (List.mem_of_getElem? (i := 17) rfl)
theorem w_18 {a0 : Array Value} {Z : State} (hw : Hw a0 Z) : (Jvm.Cond.static ({ cls := "java/lang/StringLatin1", name := "toBytes", desc := "(C)[B" } : Jvm.MethodName)).before a0 Z = true := hw _ (List.mem_of_getElem? (i := 18) rfl)
theorem w_19 {a0 : Array Value} {Z : State} (hw : Hw a0 Z) : (Jvm.Cond.code ({ cls := "java/lang/StringLatin1", name := "toBytes", desc := "(C)[B" } : Jvm.MethodName) jdk_43_method_46_code (1 : Nat) (Option.some (Jvm.ClassFile.FieldType.array Jvm.ClassFile.FieldType.byte))).before a0 Z = true := hw _ (List.mem_of_getElem? (i := 19) rfl)
theorem w_20 {a0 : Array Value} {Z : State} (hw : Hw a0 Z) : (Jvm.Cond.arrayClass Jvm.ClassFile.FieldType.byte).before a0 Z = true := hw _ (List.mem_of_getElem? (i := 20) rfl)
theorem w_21 {a0 : Array Value} {Z : State} (hw : Hw a0 Z) : (Jvm.Cond.methodLink "java/lang/String" (209 : Nat) ({ cls := "java/lang/String", name := "<init>", desc := "([BB)V" } : Jvm.MethodName)).before a0 Z = true := hw _ (List.mem_of_getElem? (i := 21) rfl)
theorem w_22 {a0 : Array Value} {Z : State} (hw : Hw a0 Z) : (Jvm.Cond.instanceMethod ({ cls := "java/lang/String", name := "<init>", desc := "([BB)V" } : Jvm.MethodName)).before a0 Z = true := hw _ (List.mem_of_getElem? (i := 22) rfl)
theorem w_24 {a0 : Array Value} {Z : State} (hw : Hw a0 Z) : (Jvm.Cond.code ({ cls := "java/lang/String", name := "<init>", desc := "([BB)V" } : Jvm.MethodName) jdk_42_method_151_code (3 : Nat) (Option.none : Option Jvm.ClassFile.FieldType)).before a0 Z = true := hw _ (List.mem_of_getElem? (i := 24) rfl)
theorem w_25 {a0 : Array Value} {Z : State} (hw : Hw a0 Z) : (Jvm.Cond.methodLink "java/lang/String" (1 : Nat) ({ cls := "java/lang/Object", name := "<init>", desc := "()V" } : Jvm.MethodName)).before a0 Z = true := hw _ (List.mem_of_getElem? (i := 25) rfl)
theorem w_26 {a0 : Array Value} {Z : State} (hw : Hw a0 Z) : (Jvm.Cond.instanceMethod ({ cls := "java/lang/Object", name := "<init>", desc := "()V" } : Jvm.MethodName)).before a0 Z = true := hw _ (List.mem_of_getElem? (i := 26) rfl)
theorem w_27 {a0 : Array Value} {Z : State} (hw : Hw a0 Z) : (Jvm.Cond.code ({ cls := "java/lang/Object", name := "<init>", desc := "()V" } : Jvm.MethodName) object_method_1_code (1 : Nat) (Option.none : Option Jvm.ClassFile.FieldType)).before a0 Z = true := hw _ (List.mem_of_getElem? (i := 27) rfl)
theorem w_28 {a0 : Array Value} {Z : State} (hw : Hw a0 Z) : (Jvm.Cond.fieldLink "java/lang/String" (9 : Nat) "java/lang/String" "value" "[B").before a0 Z = true := hw _ (List.mem_of_getElem? (i := 28) rfl)
theorem w_29 {a0 : Array Value} {Z : State} (hw : Hw a0 Z) : (Jvm.Cond.laysFinal "java/lang/String" "java/lang/String" "value" "[B").before a0 Z = true := hw _ (List.mem_of_getElem? (i := 29) rfl)
theorem w_30 {a0 : Array Value} {Z : State} (hw : Hw a0 Z) : (Jvm.Cond.fieldLink "java/lang/String" (15 : Nat) "java/lang/String" "coder" "B").before a0 Z = true := hw _ (List.mem_of_getElem? (i := 30) rfl)
theorem w_31 {a0 : Array Value} {Z : State} (hw : Hw a0 Z) : (Jvm.Cond.laysFinal "java/lang/String" "java/lang/String" "coder" "B").before a0 Z = true := hw _ (List.mem_of_getElem? (i := 31) rfl)
theorem w_32 {a0 : Array Value} {Z : State} (hw : Hw a0 Z) : (Jvm.Cond.classLink "com/example/saale/saale/protocol/LengthsAtMostPinLaw" (20 : Nat) "java/lang/String").before a0 Z = true := hw _ (List.mem_of_getElem? (i := 32) rfl)
theorem w_33 {a0 : Array Value} {Z : State} (hw : Hw a0 Z) : (Jvm.Cond.arrayClass Jvm.ClassFile.FieldType.char).before a0 Z = true := hw _ (List.mem_of_getElem? (i := 33) rfl)
theorem w_34 {a0 : Array Value} {Z : State} (hw : Hw a0 Z) : (Jvm.Cond.methodLink "com/example/saale/saale/protocol/LengthsAtMostPinLaw" (31 : Nat) ({ cls := "java/lang/String", name := "<init>", desc := "([C)V" } : Jvm.MethodName)).before a0 Z = true := hw _ (List.mem_of_getElem? (i := 34) rfl)
theorem w_35 {a0 : Array Value} {Z : State} (hw : Hw a0 Z) : (Jvm.Cond.instanceMethod ({ cls := "java/lang/String", name := "<init>", desc := "([C)V" } : Jvm.MethodName)).before a0 Z = true := hw _ (List.mem_of_getElem? (i := 35) rfl)
theorem w_36 {a0 : Array Value} {Z : State} (hw : Hw a0 Z) : (Jvm.Cond.code ({ cls := "java/lang/String", name := "<init>", desc := "([C)V" } : Jvm.MethodName) jdk_42_method_3_code (2 : Nat) (Option.none : Option Jvm.ClassFile.FieldType)).before a0 Z = true := hw _ (List.mem_of_getElem? (i := 36) rfl)
theorem w_37 {a0 : Array Value} {Z : State} (hw : Hw a0 Z) : (Jvm.Cond.methodLink "java/lang/String" (27 : Nat) ({ cls := "java/lang/String", name := "<init>", desc := "([CIILjava/lang/Void;)V" } : Jvm.MethodName)).before a0 Z = true := hw _ (List.mem_of_getElem? (i := 37) rfl)
theorem w_38 {a0 : Array Value} {Z : State} (hw : Hw a0 Z) : (Jvm.Cond.instanceMethod ({ cls := "java/lang/String", name := "<init>", desc := "([CIILjava/lang/Void;)V" } : Jvm.MethodName)).before a0 Z = true := hw _ (List.mem_of_getElem? (i := 38) rfl)
theorem w_39 {a0 : Array Value} {Z : State} (hw : Hw a0 Z) : (Jvm.Cond.code ({ cls := "java/lang/String", name := "<init>", desc := "([CIILjava/lang/Void;)V" } : Jvm.MethodName) jdk_42_method_149_code (6 : Nat) (Option.none : Option Jvm.ClassFile.FieldType)).before a0 Z = true := hw _ (List.mem_of_getElem? (i := 39) rfl)
theorem w_40 {a0 : Array Value} {Z : State} (hw : Hw a0 Z) : (Jvm.Cond.stringLink "java/lang/String" (7 : Nat) "").before a0 Z = true := hw _ (List.mem_of_getElem? (i := 40) rfl)
theorem w_43 {a0 : Array Value} {Z : State} (hw : Hw a0 Z) : (Jvm.Cond.methodLink "com/example/saale/saale/protocol/LengthsAtMostPinLaw" (41 : Nat) ({ cls := "java/lang/Math", name := "max", desc := "(II)I" } : Jvm.MethodName)).before a0 Z = true := hw _ (List.mem_of_getElem? (i := 43) rfl)
theorem w_44 {a0 : Array Value} {Z : State} (hw : Hw a0 Z) : (Jvm.Cond.static ({ cls := "java/lang/Math", name := "max", desc := "(II)I" } : Jvm.MethodName)).before a0 Z = true := hw _ (List.mem_of_getElem? (i := 44) rfl)
theorem w_45 {a0 : Array Value} {Z : State} (hw : Hw a0 Z) : (Jvm.Cond.initialized "java/lang/Math").before a0 Z = true := hw _ (List.mem_of_getElem? (i := 45) rfl)
theorem w_46 {a0 : Array Value} {Z : State} (hw : Hw a0 Z) : (Jvm.Cond.code ({ cls := "java/lang/Math", name := "max", desc := "(II)I" } : Jvm.MethodName) jdk_29_method_65_code (2 : Nat) (Option.some Jvm.ClassFile.FieldType.int)).before a0 Z = true := hw _ (List.mem_of_getElem? (i := 46) rfl)
theorem w_47 {a0 : Array Value} {Z : State} (hw : Hw a0 Z) : (Jvm.Cond.methodLink "com/example/saale/saale/protocol/LengthsAtMostPinLaw" (25 : Nat) ({ cls := "com/example/saale/saale/protocol/Lengths", name := "atMost", desc := "(Ljava/lang/String;Ljava/lang/String;I)Ljava/lang/String;" } : Jvm.MethodName)).before a0 Z = true := hw _ (List.mem_of_getElem? (i := 47) rfl)
theorem w_48 {a0 : Array Value} {Z : State} (hw : Hw a0 Z) : (Jvm.Cond.static ({ cls := "com/example/saale/saale/protocol/Lengths", name := "atMost", desc := "(Ljava/lang/String;Ljava/lang/String;I)Ljava/lang/String;" } : Jvm.MethodName)).before a0 Z = true := hw _ (List.mem_of_getElem? (i := 48) rfl)
theorem w_49 {a0 : Array Value} {Z : State} (hw : Hw a0 Z) : (Jvm.Cond.initialized "com/example/saale/saale/protocol/Lengths").before a0 Z = true := hw _ (List.mem_of_getElem? (i := 49) rfl)
theorem w_50 {a0 : Array Value} {Z : State} (hw : Hw a0 Z) : (Jvm.Cond.code ({ cls := "com/example/saale/saale/protocol/Lengths", name := "atMost", desc := "(Ljava/lang/String;Ljava/lang/String;I)Ljava/lang/String;" } : Jvm.MethodName) prog_8_method_2_code (3 : Nat) (Option.some (Jvm.ClassFile.FieldType.object "java/lang/String"))).before a0 Z = true := hw _ (List.mem_of_getElem? (i := 50) rfl)
theorem w_51 {a0 : Array Value} {Z : State} (hw : Hw a0 Z) : (Jvm.Cond.methodLink "com/example/saale/saale/protocol/Lengths" (7 : Nat) ({ cls := "java/lang/String", name := "length", desc := "()I" } : Jvm.MethodName)).before a0 Z = true := hw _ (List.mem_of_getElem? (i := 51) rfl)
theorem w_52 {a0 : Array Value} {Z : State} (hw : Hw a0 Z) : (Jvm.Cond.declares ({ cls := "java/lang/String", name := "length", desc := "()I" } : Jvm.MethodName)).before a0 Z = true := hw _ (List.mem_of_getElem? (i := 52) rfl)
theorem w_53 {a0 : Array Value} {Z : State} (hw : Hw a0 Z) : (Jvm.Cond.instanceMethod ({ cls := "java/lang/String", name := "length", desc := "()I" } : Jvm.MethodName)).before a0 Z = true := hw _ (List.mem_of_getElem? (i := 53) rfl)
theorem w_54 {a0 : Array Value} {Z : State} (hw : Hw a0 Z) : (Jvm.Cond.selects "java/lang/String" ({ cls := "java/lang/String", name := "length", desc := "()I" } : Jvm.MethodName) ({ cls := "java/lang/String", name := "length", desc := "()I" } : Jvm.MethodName)).before a0 Z = true := hw _ (List.mem_of_getElem? (i := 54) rfl)
theorem w_55 {a0 : Array Value} {Z : State} (hw : Hw a0 Z) : (Jvm.Cond.code ({ cls := "java/lang/String", name := "length", desc := "()I" } : Jvm.MethodName) jdk_42_method_54_code (1 : Nat) (Option.some Jvm.ClassFile.FieldType.int)).before a0 Z = true := hw _ (List.mem_of_getElem? (i := 55) rfl)
theorem w_56 {a0 : Array Value} {Z : State} (hw : Hw a0 Z) : (Jvm.Cond.methodLink "java/lang/String" (335 : Nat) ({ cls := "java/lang/String", name := "coder", desc := "()B" } : Jvm.MethodName)).before a0 Z = true := hw _ (List.mem_of_getElem? (i := 56) rfl)
theorem w_57 {a0 : Array Value} {Z : State} (hw : Hw a0 Z) : (Jvm.Cond.declares ({ cls := "java/lang/String", name := "coder", desc := "()B" } : Jvm.MethodName)).before a0 Z = true := hw _ (List.mem_of_getElem? (i := 57) rfl)
theorem w_58 {a0 : Array Value} {Z : State} (hw : Hw a0 Z) : (Jvm.Cond.instanceMethod ({ cls := "java/lang/String", name := "coder", desc := "()B" } : Jvm.MethodName)).before a0 Z = true := hw _ (List.mem_of_getElem? (i := 58) rfl)
theorem w_59 {a0 : Array Value} {Z : State} (hw : Hw a0 Z) : (Jvm.Cond.selects "java/lang/String" ({ cls := "java/lang/String", name := "coder", desc := "()B" } : Jvm.MethodName) ({ cls := "java/lang/String", name := "coder", desc := "()B" } : Jvm.MethodName)).before a0 Z = true := hw _ (List.mem_of_getElem? (i := 59) rfl)
theorem w_60 {a0 : Array Value} {Z : State} (hw : Hw a0 Z) : (Jvm.Cond.code ({ cls := "java/lang/String", name := "coder", desc := "()B" } : Jvm.MethodName) jdk_42_method_152_code (1 : Nat) (Option.some Jvm.ClassFile.FieldType.byte)).before a0 Z = true := hw _ (List.mem_of_getElem? (i := 60) rfl)
theorem w_61 {a0 : Array Value} {Z : State} (hw : Hw a0 Z) : (Jvm.Cond.methodLink "com/example/saale/saale/protocol/Lengths" (13 : Nat) ({ cls := "java/lang/String", name := "codePointCount", desc := "(II)I" } : Jvm.MethodName)).before a0 Z = true := hw _ (List.mem_of_getElem? (i := 61) rfl)
theorem w_62 {a0 : Array Value} {Z : State} (hw : Hw a0 Z) : (Jvm.Cond.declares ({ cls := "java/lang/String", name := "codePointCount", desc := "(II)I" } : Jvm.MethodName)).before a0 Z = true := hw _ (List.mem_of_getElem? (i := 62) rfl)
theorem w_63 {a0 : Array Value} {Z : State} (hw : Hw a0 Z) : (Jvm.Cond.instanceMethod ({ cls := "java/lang/String", name := "codePointCount", desc := "(II)I" } : Jvm.MethodName)).before a0 Z = true := hw _ (List.mem_of_getElem? (i := 63) rfl)
theorem w_64 {a0 : Array Value} {Z : State} (hw : Hw a0 Z) : (Jvm.Cond.selects "java/lang/String" ({ cls := "java/lang/String", name := "codePointCount", desc := "(II)I" } : Jvm.MethodName) ({ cls := "java/lang/String", name := "codePointCount", desc := "(II)I" } : Jvm.MethodName)).before a0 Z = true := hw _ (List.mem_of_getElem? (i := 64) rfl)
theorem w_65 {a0 : Array Value} {Z : State} (hw : Hw a0 Z) : (Jvm.Cond.code ({ cls := "java/lang/String", name := "codePointCount", desc := "(II)I" } : Jvm.MethodName) jdk_42_method_59_code (3 : Nat) (Option.some Jvm.ClassFile.FieldType.int)).before a0 Z = true := hw _ (List.mem_of_getElem? (i := 65) rfl)
theorem w_66 {a0 : Array Value} {Z : State} (hw : Hw a0 Z) : (Jvm.Cond.methodLink "java/lang/String" (505 : Nat) ({ cls := "java/lang/String", name := "length", desc := "()I" } : Jvm.MethodName)).before a0 Z = true := hw _ (List.mem_of_getElem? (i := 66) rfl)
theorem w_67 {a0 : Array Value} {Z : State} (hw : Hw a0 Z) : (Jvm.Cond.methodLink "java/lang/String" (511 : Nat) ({ cls := "java/util/Objects", name := "checkFromToIndex", desc := "(III)I" } : Jvm.MethodName)).before a0 Z = true := hw _ (List.mem_of_getElem? (i := 67) rfl)
theorem w_68 {a0 : Array Value} {Z : State} (hw : Hw a0 Z) : (Jvm.Cond.static ({ cls := "java/util/Objects", name := "checkFromToIndex", desc := "(III)I" } : Jvm.MethodName)).before a0 Z = true := hw _ (List.mem_of_getElem? (i := 68) rfl)
theorem w_69 {a0 : Array Value} {Z : State} (hw : Hw a0 Z) : (Jvm.Cond.initialized "java/util/Objects").before a0 Z = true := hw _ (List.mem_of_getElem? (i := 69) rfl)
theorem w_70 {a0 : Array Value} {Z : State} (hw : Hw a0 Z) : (Jvm.Cond.code ({ cls := "java/util/Objects", name := "checkFromToIndex", desc := "(III)I" } : Jvm.MethodName) jdk_31_method_18_code (3 : Nat) (Option.some Jvm.ClassFile.FieldType.int)).before a0 Z = true := hw _ (List.mem_of_getElem? (i := 70) rfl)
theorem w_71 {a0 : Array Value} {Z : State} (hw : Hw a0 Z) : (Jvm.Cond.methodLink "java/util/Objects" (111 : Nat) ({ cls := "jdk/internal/util/Preconditions", name := "checkFromToIndex", desc := "(IIILjava/util/function/BiFunction;)I" } : Jvm.MethodName)).before a0 Z = true := hw _ (List.mem_of_getElem? (i := 71) rfl)
theorem w_72 {a0 : Array Value} {Z : State} (hw : Hw a0 Z) : (Jvm.Cond.static ({ cls := "jdk/internal/util/Preconditions", name := "checkFromToIndex", desc := "(IIILjava/util/function/BiFunction;)I" } : Jvm.MethodName)).before a0 Z = true := hw _ (List.mem_of_getElem? (i := 72) rfl)
theorem w_73 {a0 : Array Value} {Z : State} (hw : Hw a0 Z) : (Jvm.Cond.initialized "jdk/internal/util/Preconditions").before a0 Z = true := hw _ (List.mem_of_getElem? (i := 73) rfl)
theorem w_74 {a0 : Array Value} {Z : State} (hw : Hw a0 Z) : (Jvm.Cond.code ({ cls := "jdk/internal/util/Preconditions", name := "checkFromToIndex", desc := "(IIILjava/util/function/BiFunction;)I" } : Jvm.MethodName) jdk_41_method_12_code (4 : Nat) (Option.some Jvm.ClassFile.FieldType.int)).before a0 Z = true := hw _ (List.mem_of_getElem? (i := 74) rfl)
theorem w_75 {a0 : Array Value} {Z : State} (hw : Hw a0 Z) : (Jvm.Cond.methodLink "java/lang/String" (492 : Nat) ({ cls := "java/lang/String", name := "isLatin1", desc := "()Z" } : Jvm.MethodName)).before a0 Z = true := hw _ (List.mem_of_getElem? (i := 75) rfl)
theorem w_76 {a0 : Array Value} {Z : State} (hw : Hw a0 Z) : (Jvm.Cond.declares ({ cls := "java/lang/String", name := "isLatin1", desc := "()Z" } : Jvm.MethodName)).before a0 Z = true := hw _ (List.mem_of_getElem? (i := 76) rfl)
theorem w_77 {a0 : Array Value} {Z : State} (hw : Hw a0 Z) : (Jvm.Cond.instanceMethod ({ cls := "java/lang/String", name := "isLatin1", desc := "()Z" } : Jvm.MethodName)).before a0 Z = true := hw _ (List.mem_of_getElem? (i := 77) rfl)
theorem w_78 {a0 : Array Value} {Z : State} (hw : Hw a0 Z) : (Jvm.Cond.selects "java/lang/String" ({ cls := "java/lang/String", name := "isLatin1", desc := "()Z" } : Jvm.MethodName) ({ cls := "java/lang/String", name := "isLatin1", desc := "()Z" } : Jvm.MethodName)).before a0 Z = true := hw _ (List.mem_of_getElem? (i := 78) rfl)
theorem w_79 {a0 : Array Value} {Z : State} (hw : Hw a0 Z) : (Jvm.Cond.code ({ cls := "java/lang/String", name := "isLatin1", desc := "()Z" } : Jvm.MethodName) jdk_42_method_154_code (1 : Nat) (Option.some Jvm.ClassFile.FieldType.boolean)).before a0 Z = true := hw _ (List.mem_of_getElem? (i := 79) rfl)
theorem w_80 {a0 : Array Value} {Z : State} (hw : Hw a0 Z) : (Jvm.Cond.methodLink "java/lang/String" (177 : Nat) ({ cls := "java/lang/StringUTF16", name := "compress", desc := "([CII)[B" } : Jvm.MethodName)).before a0 Z = true := hw _ (List.mem_of_getElem? (i := 80) rfl)
theorem w_81 {a0 : Array Value} {Z : State} (hw : Hw a0 Z) : (Jvm.Cond.static ({ cls := "java/lang/StringUTF16", name := "compress", desc := "([CII)[B" } : Jvm.MethodName)).before a0 Z = true := hw _ (List.mem_of_getElem? (i := 81) rfl)
theorem w_82 {a0 : Array Value} {Z : State} (hw : Hw a0 Z) : (Jvm.Cond.initialized "java/lang/StringUTF16").before a0 Z = true := hw _ (List.mem_of_getElem? (i := 82) rfl)
theorem w_83 {a0 : Array Value} {Z : State} (hw : Hw a0 Z) : (Jvm.Cond.code ({ cls := "java/lang/StringUTF16", name := "compress", desc := "([CII)[B" } : Jvm.MethodName) jdk_52_method_16_code (6 : Nat) (Option.some (Jvm.ClassFile.FieldType.array Jvm.ClassFile.FieldType.byte))).before a0 Z = true := hw _ (List.mem_of_getElem? (i := 83) rfl)
theorem w_84 {a0 : Array Value} {Z : State} (hw : Hw a0 Z) : (Jvm.Cond.methodLink "java/lang/StringUTF16" (115 : Nat) ({ cls := "java/lang/StringUTF16", name := "compress", desc := "([CI[BII)I" } : Jvm.MethodName)).before a0 Z = true := hw _ (List.mem_of_getElem? (i := 84) rfl)
theorem w_85 {a0 : Array Value} {Z : State} (hw : Hw a0 Z) : (Jvm.Cond.static ({ cls := "java/lang/StringUTF16", name := "compress", desc := "([CI[BII)I" } : Jvm.MethodName)).before a0 Z = true := hw _ (List.mem_of_getElem? (i := 85) rfl)
theorem w_86 {a0 : Array Value} {Z : State} (hw : Hw a0 Z) : (Jvm.Cond.code ({ cls := "java/lang/StringUTF16", name := "compress", desc := "([CI[BII)I" } : Jvm.MethodName) jdk_52_method_21_code (7 : Nat) (Option.some Jvm.ClassFile.FieldType.int)).before a0 Z = true := hw _ (List.mem_of_getElem? (i := 86) rfl)
theorem w_87 {a0 : Array Value} {Z : State} (hw : Hw a0 Z) : (Jvm.Cond.methodLink "java/lang/String" (47 : Nat) ({ cls := "java/lang/StringUTF16", name := "coderFromArrayLen", desc := "([BI)B" } : Jvm.MethodName)).before a0 Z = true := hw _ (List.mem_of_getElem? (i := 87) rfl)
theorem w_88 {a0 : Array Value} {Z : State} (hw : Hw a0 Z) : (Jvm.Cond.static ({ cls := "java/lang/StringUTF16", name := "coderFromArrayLen", desc := "([BI)B" } : Jvm.MethodName)).before a0 Z = true := hw _ (List.mem_of_getElem? (i := 88) rfl)
theorem w_89 {a0 : Array Value} {Z : State} (hw : Hw a0 Z) : (Jvm.Cond.code ({ cls := "java/lang/StringUTF16", name := "coderFromArrayLen", desc := "([BI)B" } : Jvm.MethodName) jdk_52_method_15_code (2 : Nat) (Option.some Jvm.ClassFile.FieldType.byte)).before a0 Z = true := hw _ (List.mem_of_getElem? (i := 89) rfl)
theorem w_90 {a0 : Array Value} {Z : State} (hw : Hw a0 Z) : (Jvm.Cond.constant "com/example/saale/saale/protocol/LengthsAtMostPinLaw" (8 : Nat) (55296 : Int32)).before a0 Z = true := hw _ (List.mem_of_getElem? (i := 90) rfl)
theorem w_91 {a0 : Array Value} {Z : State} (hw : Hw a0 Z) : (Jvm.Cond.methodLink "java/lang/StringUTF16" (119 : Nat) ({ cls := "java/lang/StringUTF16", name := "toBytes", desc := "([CII)[B" } : Jvm.MethodName)).before a0 Z = true := hw _ (List.mem_of_getElem? (i := 91) rfl)
theorem w_92 {a0 : Array Value} {Z : State} (hw : Hw a0 Z) : (Jvm.Cond.static ({ cls := "java/lang/StringUTF16", name := "toBytes", desc := "([CII)[B" } : Jvm.MethodName)).before a0 Z = true := hw _ (List.mem_of_getElem? (i := 92) rfl)
theorem w_93 {a0 : Array Value} {Z : State} (hw : Hw a0 Z) : (Jvm.Cond.code ({ cls := "java/lang/StringUTF16", name := "toBytes", desc := "([CII)[B" } : Jvm.MethodName) jdk_52_method_14_code (5 : Nat) (Option.some (Jvm.ClassFile.FieldType.array Jvm.ClassFile.FieldType.byte))).before a0 Z = true := hw _ (List.mem_of_getElem? (i := 93) rfl)
theorem w_94 {a0 : Array Value} {Z : State} (hw : Hw a0 Z) : (Jvm.Cond.methodLink "java/lang/StringUTF16" (107 : Nat) ({ cls := "java/lang/StringUTF16", name := "newBytesFor", desc := "(I)[B" } : Jvm.MethodName)).before a0 Z = true := hw _ (List.mem_of_getElem? (i := 94) rfl)
theorem w_95 {a0 : Array Value} {Z : State} (hw : Hw a0 Z) : (Jvm.Cond.static ({ cls := "java/lang/StringUTF16", name := "newBytesFor", desc := "(I)[B" } : Jvm.MethodName)).before a0 Z = true := hw _ (List.mem_of_getElem? (i := 95) rfl)
theorem w_96 {a0 : Array Value} {Z : State} (hw : Hw a0 Z) : (Jvm.Cond.code ({ cls := "java/lang/StringUTF16", name := "newBytesFor", desc := "(I)[B" } : Jvm.MethodName) jdk_52_method_2_code (1 : Nat) (Option.some (Jvm.ClassFile.FieldType.array Jvm.ClassFile.FieldType.byte))).before a0 Z = true := hw _ (List.mem_of_getElem? (i := 96) rfl)
theorem w_97 {a0 : Array Value} {Z : State} (hw : Hw a0 Z) : (Jvm.Cond.methodLink "java/lang/StringUTF16" (11 : Nat) ({ cls := "java/lang/StringUTF16", name := "newBytesLength", desc := "(I)I" } : Jvm.MethodName)).before a0 Z = true := hw _ (List.mem_of_getElem? (i := 97) rfl)
theorem w_98 {a0 : Array Value} {Z : State} (hw : Hw a0 Z) : (Jvm.Cond.static ({ cls := "java/lang/StringUTF16", name := "newBytesLength", desc := "(I)I" } : Jvm.MethodName)).before a0 Z = true := hw _ (List.mem_of_getElem? (i := 98) rfl)
theorem w_99 {a0 : Array Value} {Z : State} (hw : Hw a0 Z) : (Jvm.Cond.code ({ cls := "java/lang/StringUTF16", name := "newBytesLength", desc := "(I)I" } : Jvm.MethodName) jdk_52_method_3_code (1 : Nat) (Option.some Jvm.ClassFile.FieldType.int)).before a0 Z = true := hw _ (List.mem_of_getElem? (i := 99) rfl)
theorem w_100 {a0 : Array Value} {Z : State} (hw : Hw a0 Z) : (Jvm.Cond.constant "java/lang/StringUTF16" (20 : Nat) (1073741823 : Int32)).before a0 Z = true := hw _ (List.mem_of_getElem? (i := 100) rfl)
theorem w_101 {a0 : Array Value} {Z : State} (hw : Hw a0 Z) : (Jvm.Cond.methodLink "java/lang/StringUTF16" (111 : Nat) ({ cls := "java/lang/StringUTF16", name := "putChar", desc := "([BII)V" } : Jvm.MethodName)).before a0 Z = true := hw _ (List.mem_of_getElem? (i := 101) rfl)
theorem w_102 {a0 : Array Value} {Z : State} (hw : Hw a0 Z) : (Jvm.Cond.static ({ cls := "java/lang/StringUTF16", name := "putChar", desc := "([BII)V" } : Jvm.MethodName)).before a0 Z = true := hw _ (List.mem_of_getElem? (i := 102) rfl)
theorem w_103 {a0 : Array Value} {Z : State} (hw : Hw a0 Z) : (Jvm.Cond.code ({ cls := "java/lang/StringUTF16", name := "putChar", desc := "([BII)V" } : Jvm.MethodName) jdk_52_method_4_code (3 : Nat) (Option.none : Option Jvm.ClassFile.FieldType)).before a0 Z = true := hw _ (List.mem_of_getElem? (i := 103) rfl)
theorem w_104 {a0 : Array Value} {Z : State} (hw : Hw a0 Z) : (Jvm.Cond.fieldLink "java/lang/StringUTF16" (44 : Nat) "java/lang/StringUTF16" "$assertionsDisabled" "Z").before a0 Z = true := hw _ (List.mem_of_getElem? (i := 104) rfl)
theorem w_105 {a0 : Array Value} {Z : State} (hw : Hw a0 Z) : (Jvm.Cond.fieldLink "java/lang/StringUTF16" (59 : Nat) "java/lang/StringUTF16" "HI_BYTE_SHIFT" "I").before a0 Z = true := hw _ (List.mem_of_getElem? (i := 105) rfl)
theorem w_106 {a0 : Array Value} {Z : State} (hw : Hw a0 Z) : (Jvm.Cond.fieldLink "java/lang/StringUTF16" (63 : Nat) "java/lang/StringUTF16" "LO_BYTE_SHIFT" "I").before a0 Z = true := hw _ (List.mem_of_getElem? (i := 106) rfl)
theorem w_107 {a0 : Array Value} {Z : State} (hw : Hw a0 Z) : (Jvm.Cond.methodLink "java/lang/StringUTF16" (71 : Nat) ({ cls := "java/lang/StringUTF16", name := "getChar", desc := "([BI)C" } : Jvm.MethodName)).before a0 Z = true := hw _ (List.mem_of_getElem? (i := 107) rfl)
theorem w_108 {a0 : Array Value} {Z : State} (hw : Hw a0 Z) : (Jvm.Cond.static ({ cls := "java/lang/StringUTF16", name := "getChar", desc := "([BI)C" } : Jvm.MethodName)).before a0 Z = true := hw _ (List.mem_of_getElem? (i := 108) rfl)
theorem w_109 {a0 : Array Value} {Z : State} (hw : Hw a0 Z) : (Jvm.Cond.code ({ cls := "java/lang/StringUTF16", name := "getChar", desc := "([BI)C" } : Jvm.MethodName) jdk_52_method_5_code (2 : Nat) (Option.some Jvm.ClassFile.FieldType.char)).before a0 Z = true := hw _ (List.mem_of_getElem? (i := 109) rfl)
theorem w_110 {a0 : Array Value} {Z : State} (hw : Hw a0 Z) : (Jvm.Cond.methodLink "com/example/saale/saale/protocol/LengthsAtMostPinLaw" (34 : Nat) ({ cls := "com/example/saale/saale/protocol/LengthsAtMostPinLaw", name := "high", desc := "(C)Z" } : Jvm.MethodName)).before a0 Z = true := hw _ (List.mem_of_getElem? (i := 110) rfl)
theorem w_111 {a0 : Array Value} {Z : State} (hw : Hw a0 Z) : (Jvm.Cond.static ({ cls := "com/example/saale/saale/protocol/LengthsAtMostPinLaw", name := "high", desc := "(C)Z" } : Jvm.MethodName)).before a0 Z = true := hw _ (List.mem_of_getElem? (i := 111) rfl)
theorem w_112 {a0 : Array Value} {Z : State} (hw : Hw a0 Z) : (Jvm.Cond.code ({ cls := "com/example/saale/saale/protocol/LengthsAtMostPinLaw", name := "high", desc := "(C)Z" } : Jvm.MethodName) method_3_code (1 : Nat) (Option.some Jvm.ClassFile.FieldType.boolean)).before a0 Z = true := hw _ (List.mem_of_getElem? (i := 112) rfl)
theorem w_113 {a0 : Array Value} {Z : State} (hw : Hw a0 Z) : (Jvm.Cond.constant "com/example/saale/saale/protocol/LengthsAtMostPinLaw" (10 : Nat) (56319 : Int32)).before a0 Z = true := hw _ (List.mem_of_getElem? (i := 113) rfl)
theorem w_114 {a0 : Array Value} {Z : State} (hw : Hw a0 Z) : (Jvm.Cond.methodLink "com/example/saale/saale/protocol/LengthsAtMostPinLaw" (38 : Nat) ({ cls := "com/example/saale/saale/protocol/LengthsAtMostPinLaw", name := "low", desc := "(C)Z" } : Jvm.MethodName)).before a0 Z = true := hw _ (List.mem_of_getElem? (i := 114) rfl)
theorem w_115 {a0 : Array Value} {Z : State} (hw : Hw a0 Z) : (Jvm.Cond.static ({ cls := "com/example/saale/saale/protocol/LengthsAtMostPinLaw", name := "low", desc := "(C)Z" } : Jvm.MethodName)).before a0 Z = true := hw _ (List.mem_of_getElem? (i := 115) rfl)
theorem w_116 {a0 : Array Value} {Z : State} (hw : Hw a0 Z) : (Jvm.Cond.code ({ cls := "com/example/saale/saale/protocol/LengthsAtMostPinLaw", name := "low", desc := "(C)Z" } : Jvm.MethodName) method_4_code (1 : Nat) (Option.some Jvm.ClassFile.FieldType.boolean)).before a0 Z = true := hw _ (List.mem_of_getElem? (i := 116) rfl)
theorem w_117 {a0 : Array Value} {Z : State} (hw : Hw a0 Z) : (Jvm.Cond.constant "com/example/saale/saale/protocol/LengthsAtMostPinLaw" (11 : Nat) (56320 : Int32)).before a0 Z = true := hw _ (List.mem_of_getElem? (i := 117) rfl)
theorem w_118 {a0 : Array Value} {Z : State} (hw : Hw a0 Z) : (Jvm.Cond.methodLink "java/lang/String" (514 : Nat) ({ cls := "java/lang/StringUTF16", name := "codePointCount", desc := "([BII)I" } : Jvm.MethodName)).before a0 Z = true := hw _ (List.mem_of_getElem? (i := 118) rfl)
theorem w_119 {a0 : Array Value} {Z : State} (hw : Hw a0 Z) : (Jvm.Cond.static ({ cls := "java/lang/StringUTF16", name := "codePointCount", desc := "([BII)I" } : Jvm.MethodName)).before a0 Z = true := hw _ (List.mem_of_getElem? (i := 119) rfl)
theorem w_120 {a0 : Array Value} {Z : State} (hw : Hw a0 Z) : (Jvm.Cond.code ({ cls := "java/lang/StringUTF16", name := "codePointCount", desc := "([BII)I" } : Jvm.MethodName) jdk_52_method_12_code (3 : Nat) (Option.some Jvm.ClassFile.FieldType.int)).before a0 Z = true := hw _ (List.mem_of_getElem? (i := 120) rfl)
theorem w_121 {a0 : Array Value} {Z : State} (hw : Hw a0 Z) : (Jvm.Cond.methodLink "java/lang/StringUTF16" (100 : Nat) ({ cls := "java/lang/StringUTF16", name := "codePointCount", desc := "([BIIZ)I" } : Jvm.MethodName)).before a0 Z = true := hw _ (List.mem_of_getElem? (i := 121) rfl)
theorem w_122 {a0 : Array Value} {Z : State} (hw : Hw a0 Z) : (Jvm.Cond.static ({ cls := "java/lang/StringUTF16", name := "codePointCount", desc := "([BIIZ)I" } : Jvm.MethodName)).before a0 Z = true := hw _ (List.mem_of_getElem? (i := 122) rfl)
theorem w_123 {a0 : Array Value} {Z : State} (hw : Hw a0 Z) : (Jvm.Cond.code ({ cls := "java/lang/StringUTF16", name := "codePointCount", desc := "([BIIZ)I" } : Jvm.MethodName) jdk_52_method_11_code (6 : Nat) (Option.some Jvm.ClassFile.FieldType.int)).before a0 Z = true := hw _ (List.mem_of_getElem? (i := 123) rfl)
theorem w_124 {a0 : Array Value} {Z : State} (hw : Hw a0 Z) : (Jvm.Cond.methodLink "java/lang/StringUTF16" (75 : Nat) ({ cls := "java/lang/Character", name := "isHighSurrogate", desc := "(C)Z" } : Jvm.MethodName)).before a0 Z = true := hw _ (List.mem_of_getElem? (i := 124) rfl)
theorem w_125 {a0 : Array Value} {Z : State} (hw : Hw a0 Z) : (Jvm.Cond.static ({ cls := "java/lang/Character", name := "isHighSurrogate", desc := "(C)Z" } : Jvm.MethodName)).before a0 Z = true := hw _ (List.mem_of_getElem? (i := 125) rfl)
theorem w_126 {a0 : Array Value} {Z : State} (hw : Hw a0 Z) : (Jvm.Cond.initialized "java/lang/Character").before a0 Z = true := hw _ (List.mem_of_getElem? (i := 126) rfl)
theorem w_127 {a0 : Array Value} {Z : State} (hw : Hw a0 Z) : (Jvm.Cond.code ({ cls := "java/lang/Character", name := "isHighSurrogate", desc := "(C)Z" } : Jvm.MethodName) jdk_89_method_14_code (1 : Nat) (Option.some Jvm.ClassFile.FieldType.boolean)).before a0 Z = true := hw _ (List.mem_of_getElem? (i := 127) rfl)
theorem w_128 {a0 : Array Value} {Z : State} (hw : Hw a0 Z) : (Jvm.Cond.constant "java/lang/Character" (75 : Nat) (55296 : Int32)).before a0 Z = true := hw _ (List.mem_of_getElem? (i := 128) rfl)
theorem w_129 {a0 : Array Value} {Z : State} (hw : Hw a0 Z) : (Jvm.Cond.constant "java/lang/Character" (76 : Nat) (56320 : Int32)).before a0 Z = true := hw _ (List.mem_of_getElem? (i := 129) rfl)
theorem w_130 {a0 : Array Value} {Z : State} (hw : Hw a0 Z) : (Jvm.Cond.methodLink "java/lang/StringUTF16" (81 : Nat) ({ cls := "java/lang/Character", name := "isLowSurrogate", desc := "(C)Z" } : Jvm.MethodName)).before a0 Z = true := hw _ (List.mem_of_getElem? (i := 130) rfl)
theorem w_131 {a0 : Array Value} {Z : State} (hw : Hw a0 Z) : (Jvm.Cond.static ({ cls := "java/lang/Character", name := "isLowSurrogate", desc := "(C)Z" } : Jvm.MethodName)).before a0 Z = true := hw _ (List.mem_of_getElem? (i := 131) rfl)
theorem w_132 {a0 : Array Value} {Z : State} (hw : Hw a0 Z) : (Jvm.Cond.code ({ cls := "java/lang/Character", name := "isLowSurrogate", desc := "(C)Z" } : Jvm.MethodName) jdk_89_method_15_code (1 : Nat) (Option.some Jvm.ClassFile.FieldType.boolean)).before a0 Z = true := hw _ (List.mem_of_getElem? (i := 132) rfl)
theorem w_133 {a0 : Array Value} {Z : State} (hw : Hw a0 Z) : (Jvm.Cond.constant "com/example/saale/saale/protocol/LengthsAtMostPinLaw" (12 : Nat) (57343 : Int32)).before a0 Z = true := hw _ (List.mem_of_getElem? (i := 133) rfl)
theorem w_134 {a0 : Array Value} {Z : State} (hw : Hw a0 Z) : (Jvm.Cond.constant "java/lang/Character" (77 : Nat) (57344 : Int32)).before a0 Z = true := hw _ (List.mem_of_getElem? (i := 134) rfl)
theorem d9_0 : decode jdk_29_method_65_code 0 = .ok (.iload_n 0, 1) := by decide +kernel
theorem d9_1 : decode jdk_29_method_65_code 1 = .ok (.iload_n 1, 1) := by decide +kernel
theorem d9_2 : decode jdk_29_method_65_code 2 = .ok (.if_icmp .lt 7, 3) := by decide +kernel
theorem d9_5 : decode jdk_29_method_65_code 5 = .ok (.iload_n 0, 1) := by decide +kernel
theorem d9_6 : decode jdk_29_method_65_code 6 = .ok (.goto 4, 3) := by decide +kernel
theorem d9_9 : decode jdk_29_method_65_code 9 = .ok (.iload_n 1, 1) := by decide +kernel
theorem d9_10 : decode jdk_29_method_65_code 10 = .ok (.ireturn, 1) := by decide +kernel
theorem d14_0 : decode jdk_31_method_18_code 0 = .ok (.iload_n 0, 1) := by decide +kernel
theorem d14_1 : decode jdk_31_method_18_code 1 = .ok (.iload_n 1, 1) := by decide +kernel
theorem d14_2 : decode jdk_31_method_18_code 2 = .ok (.iload_n 2, 1) := by decide +kernel
theorem d14_3 : decode jdk_31_method_18_code 3 = .ok (.aconst_null, 1) := by decide +kernel
theorem d14_4 : decode jdk_31_method_18_code 4 = .ok (.invokestatic 111, 3) := by decide +kernel
theorem d14_7 : decode jdk_31_method_18_code 7 = .ok (.ireturn, 1) := by decide +kernel
theorem d15_0 : decode jdk_41_method_12_code 0 = .ok (.iload_n 0, 1) := by decide +kernel
theorem d15_1 : decode jdk_41_method_12_code 1 = .ok (.ifCond .lt 13, 3) := by decide +kernel
theorem d15_4 : decode jdk_41_method_12_code 4 = .ok (.iload_n 0, 1) := by decide +kernel
theorem d15_5 : decode jdk_41_method_12_code 5 = .ok (.iload_n 1, 1) := by decide +kernel
theorem d15_6 : decode jdk_41_method_12_code 6 = .ok (.if_icmp .gt 8, 3) := by decide +kernel
theorem d15_9 : decode jdk_41_method_12_code 9 = .ok (.iload_n 1, 1) := by decide +kernel
theorem d15_10 : decode jdk_41_method_12_code 10 = .ok (.iload_n 2, 1) := by decide +kernel
theorem d15_11 : decode jdk_41_method_12_code 11 = .ok (.if_icmp .le 11, 3) := by decide +kernel
theorem d15_22 : decode jdk_41_method_12_code 22 = .ok (.iload_n 0, 1) := by decide +kernel
theorem d15_23 : decode jdk_41_method_12_code 23 = .ok (.ireturn, 1) := by decide +kernel
theorem d2_0 : decode jdk_42_method_139_code 0 = .ok (.getstatic 38, 3) := by decide +kernel
theorem d2_3 : decode jdk_42_method_139_code 3 = .ok (.ifCond .eq 23, 3) := by decide +kernel
theorem d2_6 : decode jdk_42_method_139_code 6 = .ok (.iload_n 0, 1) := by decide +kernel
theorem d2_7 : decode jdk_42_method_139_code 7 = .ok (.invokestatic 1015, 3) := by decide +kernel
theorem d2_10 : decode jdk_42_method_139_code 10 = .ok (.ifCond .eq 16, 3) := by decide +kernel
theorem d2_13 : decode jdk_42_method_139_code 13 = .ok (.new 10, 3) := by decide +kernel
theorem d2_16 : decode jdk_42_method_139_code 16 = .ok (.dup, 1) := by decide +kernel
theorem d2_17 : decode jdk_42_method_139_code 17 = .ok (.iload_n 0, 1) := by decide +kernel
theorem d2_18 : decode jdk_42_method_139_code 18 = .ok (.invokestatic 1018, 3) := by decide +kernel
theorem d2_21 : decode jdk_42_method_139_code 21 = .ok (.iconst 0, 1) := by decide +kernel
theorem d2_22 : decode jdk_42_method_139_code 22 = .ok (.invokespecial 209, 3) := by decide +kernel
theorem d2_25 : decode jdk_42_method_139_code 25 = .ok (.areturn, 1) := by decide +kernel
theorem d8_0 : decode jdk_42_method_149_code 0 = .ok (.aload_n 0, 1) := by decide +kernel
theorem d8_1 : decode jdk_42_method_149_code 1 = .ok (.invokespecial 1, 3) := by decide +kernel
theorem d8_4 : decode jdk_42_method_149_code 4 = .ok (.iload_n 3, 1) := by decide +kernel
theorem d8_5 : decode jdk_42_method_149_code 5 = .ok (.ifCond .ne 22, 3) := by decide +kernel
theorem d8_8 : decode jdk_42_method_149_code 8 = .ok (.aload_n 0, 1) := by decide +kernel
theorem d8_9 : decode jdk_42_method_149_code 9 = .ok (.ldc 7, 2) := by decide +kernel
theorem d8_11 : decode jdk_42_method_149_code 11 = .ok (.getfield 9, 3) := by decide +kernel
theorem d8_14 : decode jdk_42_method_149_code 14 = .ok (.putfield 9, 3) := by decide +kernel
theorem d8_17 : decode jdk_42_method_149_code 17 = .ok (.aload_n 0, 1) := by decide +kernel
theorem d8_18 : decode jdk_42_method_149_code 18 = .ok (.ldc 7, 2) := by decide +kernel
theorem d8_20 : decode jdk_42_method_149_code 20 = .ok (.getfield 15, 3) := by decide +kernel
theorem d8_23 : decode jdk_42_method_149_code 23 = .ok (.putfield 15, 3) := by decide +kernel
theorem d8_26 : decode jdk_42_method_149_code 26 = .ok (.return_, 1) := by decide +kernel
theorem d8_27 : decode jdk_42_method_149_code 27 = .ok (.getstatic 38, 3) := by decide +kernel
theorem d8_30 : decode jdk_42_method_149_code 30 = .ok (.ifCond .eq 28, 3) := by decide +kernel
theorem d8_33 : decode jdk_42_method_149_code 33 = .ok (.aload_n 1, 1) := by decide +kernel
theorem d8_34 : decode jdk_42_method_149_code 34 = .ok (.iload_n 2, 1) := by decide +kernel
theorem d8_35 : decode jdk_42_method_149_code 35 = .ok (.iload_n 3, 1) := by decide +kernel
theorem d8_36 : decode jdk_42_method_149_code 36 = .ok (.invokestatic 177, 3) := by decide +kernel
theorem d8_39 : decode jdk_42_method_149_code 39 = .ok (.astore 5, 2) := by decide +kernel
theorem d8_41 : decode jdk_42_method_149_code 41 = .ok (.aload_n 0, 1) := by decide +kernel
theorem d8_42 : decode jdk_42_method_149_code 42 = .ok (.aload 5, 2) := by decide +kernel
theorem d8_44 : decode jdk_42_method_149_code 44 = .ok (.iload_n 3, 1) := by decide +kernel
theorem d8_45 : decode jdk_42_method_149_code 45 = .ok (.invokestatic 47, 3) := by decide +kernel
theorem d8_48 : decode jdk_42_method_149_code 48 = .ok (.putfield 15, 3) := by decide +kernel
theorem d8_51 : decode jdk_42_method_149_code 51 = .ok (.aload_n 0, 1) := by decide +kernel
theorem d8_52 : decode jdk_42_method_149_code 52 = .ok (.aload 5, 2) := by decide +kernel
theorem d8_54 : decode jdk_42_method_149_code 54 = .ok (.putfield 9, 3) := by decide +kernel
theorem d8_57 : decode jdk_42_method_149_code 57 = .ok (.return_, 1) := by decide +kernel
theorem d5_0 : decode jdk_42_method_151_code 0 = .ok (.aload_n 0, 1) := by decide +kernel
theorem d5_1 : decode jdk_42_method_151_code 1 = .ok (.invokespecial 1, 3) := by decide +kernel
theorem d5_4 : decode jdk_42_method_151_code 4 = .ok (.aload_n 0, 1) := by decide +kernel
theorem d5_5 : decode jdk_42_method_151_code 5 = .ok (.aload_n 1, 1) := by decide +kernel
theorem d5_6 : decode jdk_42_method_151_code 6 = .ok (.putfield 9, 3) := by decide +kernel
theorem d5_9 : decode jdk_42_method_151_code 9 = .ok (.aload_n 0, 1) := by decide +kernel
theorem d5_10 : decode jdk_42_method_151_code 10 = .ok (.iload_n 2, 1) := by decide +kernel
theorem d5_11 : decode jdk_42_method_151_code 11 = .ok (.putfield 15, 3) := by decide +kernel
theorem d5_14 : decode jdk_42_method_151_code 14 = .ok (.return_, 1) := by decide +kernel
theorem d12_0 : decode jdk_42_method_152_code 0 = .ok (.getstatic 38, 3) := by decide +kernel
theorem d12_3 : decode jdk_42_method_152_code 3 = .ok (.ifCond .eq 10, 3) := by decide +kernel
theorem d12_6 : decode jdk_42_method_152_code 6 = .ok (.aload_n 0, 1) := by decide +kernel
theorem d12_7 : decode jdk_42_method_152_code 7 = .ok (.getfield 15, 3) := by decide +kernel
theorem d12_10 : decode jdk_42_method_152_code 10 = .ok (.goto 4, 3) := by decide +kernel
theorem d12_14 : decode jdk_42_method_152_code 14 = .ok (.ireturn, 1) := by decide +kernel
theorem d16_0 : decode jdk_42_method_154_code 0 = .ok (.getstatic 38, 3) := by decide +kernel
theorem d16_3 : decode jdk_42_method_154_code 3 = .ok (.ifCond .eq 14, 3) := by decide +kernel
theorem d16_6 : decode jdk_42_method_154_code 6 = .ok (.aload_n 0, 1) := by decide +kernel
theorem d16_7 : decode jdk_42_method_154_code 7 = .ok (.getfield 15, 3) := by decide +kernel
theorem d16_10 : decode jdk_42_method_154_code 10 = .ok (.ifCond .ne 7, 3) := by decide +kernel
theorem d16_13 : decode jdk_42_method_154_code 13 = .ok (.iconst 1, 1) := by decide +kernel
theorem d16_14 : decode jdk_42_method_154_code 14 = .ok (.goto 4, 3) := by decide +kernel
theorem d16_17 : decode jdk_42_method_154_code 17 = .ok (.iconst 0, 1) := by decide +kernel
theorem d16_18 : decode jdk_42_method_154_code 18 = .ok (.ireturn, 1) := by decide +kernel
theorem d7_0 : decode jdk_42_method_3_code 0 = .ok (.aload_n 0, 1) := by decide +kernel
theorem d7_1 : decode jdk_42_method_3_code 1 = .ok (.aload_n 1, 1) := by decide +kernel
theorem d7_2 : decode jdk_42_method_3_code 2 = .ok (.iconst 0, 1) := by decide +kernel
theorem d7_3 : decode jdk_42_method_3_code 3 = .ok (.aload_n 1, 1) := by decide +kernel
theorem d7_4 : decode jdk_42_method_3_code 4 = .ok (.arraylength, 1) := by decide +kernel
theorem d7_5 : decode jdk_42_method_3_code 5 = .ok (.aconst_null, 1) := by decide +kernel
theorem d7_6 : decode jdk_42_method_3_code 6 = .ok (.invokespecial 27, 3) := by decide +kernel
theorem d7_9 : decode jdk_42_method_3_code 9 = .ok (.return_, 1) := by decide +kernel
theorem d11_0 : decode jdk_42_method_54_code 0 = .ok (.aload_n 0, 1) := by decide +kernel
theorem d11_1 : decode jdk_42_method_54_code 1 = .ok (.getfield 9, 3) := by decide +kernel
theorem d11_4 : decode jdk_42_method_54_code 4 = .ok (.arraylength, 1) := by decide +kernel
theorem d11_5 : decode jdk_42_method_54_code 5 = .ok (.aload_n 0, 1) := by decide +kernel
theorem d11_6 : decode jdk_42_method_54_code 6 = .ok (.invokevirtual 335, 3) := by decide +kernel
theorem d11_9 : decode jdk_42_method_54_code 9 = .ok (.ishr, 1) := by decide +kernel
theorem d11_10 : decode jdk_42_method_54_code 10 = .ok (.ireturn, 1) := by decide +kernel
theorem d13_0 : decode jdk_42_method_59_code 0 = .ok (.iload_n 1, 1) := by decide +kernel
theorem d13_1 : decode jdk_42_method_59_code 1 = .ok (.iload_n 2, 1) := by decide +kernel
theorem d13_2 : decode jdk_42_method_59_code 2 = .ok (.aload_n 0, 1) := by decide +kernel
theorem d13_3 : decode jdk_42_method_59_code 3 = .ok (.invokevirtual 505, 3) := by decide +kernel
theorem d13_6 : decode jdk_42_method_59_code 6 = .ok (.invokestatic 511, 3) := by decide +kernel
theorem d13_9 : decode jdk_42_method_59_code 9 = .ok (.pop, 1) := by decide +kernel
theorem d13_10 : decode jdk_42_method_59_code 10 = .ok (.aload_n 0, 1) := by decide +kernel
theorem d13_11 : decode jdk_42_method_59_code 11 = .ok (.invokevirtual 492, 3) := by decide +kernel
theorem d13_14 : decode jdk_42_method_59_code 14 = .ok (.ifCond .eq 7, 3) := by decide +kernel
theorem d13_17 : decode jdk_42_method_59_code 17 = .ok (.iload_n 2, 1) := by decide +kernel
theorem d13_18 : decode jdk_42_method_59_code 18 = .ok (.iload_n 1, 1) := by decide +kernel
theorem d13_19 : decode jdk_42_method_59_code 19 = .ok (.isub, 1) := by decide +kernel
theorem d13_20 : decode jdk_42_method_59_code 20 = .ok (.ireturn, 1) := by decide +kernel
theorem d13_21 : decode jdk_42_method_59_code 21 = .ok (.aload_n 0, 1) := by decide +kernel
theorem d13_22 : decode jdk_42_method_59_code 22 = .ok (.getfield 9, 3) := by decide +kernel
theorem d13_25 : decode jdk_42_method_59_code 25 = .ok (.iload_n 1, 1) := by decide +kernel
theorem d13_26 : decode jdk_42_method_59_code 26 = .ok (.iload_n 2, 1) := by decide +kernel
theorem d13_27 : decode jdk_42_method_59_code 27 = .ok (.invokestatic 514, 3) := by decide +kernel
theorem d13_30 : decode jdk_42_method_59_code 30 = .ok (.ireturn, 1) := by decide +kernel
theorem d3_0 : decode jdk_43_method_3_code 0 = .ok (.iload_n 0, 1) := by decide +kernel
theorem d3_1 : decode jdk_43_method_3_code 1 = .ok (.sipush 255, 3) := by decide +kernel
theorem d3_4 : decode jdk_43_method_3_code 4 = .ok (.if_icmp .gt 7, 3) := by decide +kernel
theorem d3_7 : decode jdk_43_method_3_code 7 = .ok (.iconst 1, 1) := by decide +kernel
theorem d3_8 : decode jdk_43_method_3_code 8 = .ok (.goto 4, 3) := by decide +kernel
theorem d3_12 : decode jdk_43_method_3_code 12 = .ok (.ireturn, 1) := by decide +kernel
theorem d4_0 : decode jdk_43_method_46_code 0 = .ok (.iconst 1, 1) := by decide +kernel
theorem d4_1 : decode jdk_43_method_46_code 1 = .ok (.newarray .byte, 2) := by decide +kernel
theorem d4_3 : decode jdk_43_method_46_code 3 = .ok (.dup, 1) := by decide +kernel
theorem d4_4 : decode jdk_43_method_46_code 4 = .ok (.iconst 0, 1) := by decide +kernel
theorem d4_5 : decode jdk_43_method_46_code 5 = .ok (.iload_n 0, 1) := by decide +kernel
theorem d4_6 : decode jdk_43_method_46_code 6 = .ok (.i2b, 1) := by decide +kernel
theorem d4_7 : decode jdk_43_method_46_code 7 = .ok (.bastore, 1) := by decide +kernel
theorem d4_8 : decode jdk_43_method_46_code 8 = .ok (.areturn, 1) := by decide +kernel
theorem d28_0 : decode jdk_52_method_11_code 0 = .ok (.getstatic 44, 3) := by decide +kernel
theorem d28_3 : decode jdk_52_method_11_code 3 = .ok (.ifCond .ne 16, 3) := by decide +kernel
theorem d28_19 : decode jdk_52_method_11_code 19 = .ok (.iload_n 2, 1) := by decide +kernel
theorem d28_20 : decode jdk_52_method_11_code 20 = .ok (.iload_n 1, 1) := by decide +kernel
theorem d28_21 : decode jdk_52_method_11_code 21 = .ok (.isub, 1) := by decide +kernel
theorem d28_22 : decode jdk_52_method_11_code 22 = .ok (.istore 4, 2) := by decide +kernel
theorem d28_24 : decode jdk_52_method_11_code 24 = .ok (.iload_n 1, 1) := by decide +kernel
theorem d28_25 : decode jdk_52_method_11_code 25 = .ok (.istore 5, 2) := by decide +kernel
theorem d28_27 : decode jdk_52_method_11_code 27 = .ok (.iload_n 3, 1) := by decide +kernel
theorem d28_28 : decode jdk_52_method_11_code 28 = .ok (.ifCond .eq 16, 3) := by decide +kernel
theorem d28_44 : decode jdk_52_method_11_code 44 = .ok (.iload 5, 2) := by decide +kernel
theorem d28_46 : decode jdk_52_method_11_code 46 = .ok (.iload_n 2, 1) := by decide +kernel
theorem d28_47 : decode jdk_52_method_11_code 47 = .ok (.iconst 1, 1) := by decide +kernel
theorem d28_48 : decode jdk_52_method_11_code 48 = .ok (.isub, 1) := by decide +kernel
theorem d28_49 : decode jdk_52_method_11_code 49 = .ok (.if_icmp .ge 39, 3) := by decide +kernel
theorem d28_52 : decode jdk_52_method_11_code 52 = .ok (.aload_n 0, 1) := by decide +kernel
theorem d28_53 : decode jdk_52_method_11_code 53 = .ok (.iload 5, 2) := by decide +kernel
theorem d28_55 : decode jdk_52_method_11_code 55 = .ok (.iinc 5 1, 3) := by decide +kernel
theorem d28_58 : decode jdk_52_method_11_code 58 = .ok (.invokestatic 71, 3) := by decide +kernel
theorem d28_61 : decode jdk_52_method_11_code 61 = .ok (.invokestatic 75, 3) := by decide +kernel
theorem d28_64 : decode jdk_52_method_11_code 64 = .ok (.ifCond .eq (-20), 3) := by decide +kernel
theorem d28_67 : decode jdk_52_method_11_code 67 = .ok (.aload_n 0, 1) := by decide +kernel
theorem d28_68 : decode jdk_52_method_11_code 68 = .ok (.iload 5, 2) := by decide +kernel
theorem d28_70 : decode jdk_52_method_11_code 70 = .ok (.invokestatic 71, 3) := by decide +kernel
theorem d28_73 : decode jdk_52_method_11_code 73 = .ok (.invokestatic 81, 3) := by decide +kernel
theorem d28_76 : decode jdk_52_method_11_code 76 = .ok (.ifCond .eq (-32), 3) := by decide +kernel
theorem d28_79 : decode jdk_52_method_11_code 79 = .ok (.iinc 4 (-1), 3) := by decide +kernel
theorem d28_82 : decode jdk_52_method_11_code 82 = .ok (.iinc 5 1, 3) := by decide +kernel
theorem d28_85 : decode jdk_52_method_11_code 85 = .ok (.goto (-41), 3) := by decide +kernel
theorem d28_88 : decode jdk_52_method_11_code 88 = .ok (.iload 4, 2) := by decide +kernel
theorem d28_90 : decode jdk_52_method_11_code 90 = .ok (.ireturn, 1) := by decide +kernel
theorem d27_0 : decode jdk_52_method_12_code 0 = .ok (.aload_n 0, 1) := by decide +kernel
theorem d27_1 : decode jdk_52_method_12_code 1 = .ok (.iload_n 1, 1) := by decide +kernel
theorem d27_2 : decode jdk_52_method_12_code 2 = .ok (.iload_n 2, 1) := by decide +kernel
theorem d27_3 : decode jdk_52_method_12_code 3 = .ok (.iconst 0, 1) := by decide +kernel
theorem d27_4 : decode jdk_52_method_12_code 4 = .ok (.invokestatic 100, 3) := by decide +kernel
theorem d27_7 : decode jdk_52_method_12_code 7 = .ok (.ireturn, 1) := by decide +kernel
theorem d20_0 : decode jdk_52_method_14_code 0 = .ok (.iload_n 2, 1) := by decide +kernel
theorem d20_1 : decode jdk_52_method_14_code 1 = .ok (.invokestatic 107, 3) := by decide +kernel
theorem d20_4 : decode jdk_52_method_14_code 4 = .ok (.astore_n 3, 1) := by decide +kernel
theorem d20_5 : decode jdk_52_method_14_code 5 = .ok (.iconst 0, 1) := by decide +kernel
theorem d20_6 : decode jdk_52_method_14_code 6 = .ok (.istore 4, 2) := by decide +kernel
theorem d20_8 : decode jdk_52_method_14_code 8 = .ok (.iload 4, 2) := by decide +kernel
theorem d20_10 : decode jdk_52_method_14_code 10 = .ok (.iload_n 2, 1) := by decide +kernel
theorem d20_11 : decode jdk_52_method_14_code 11 = .ok (.if_icmp .ge 21, 3) := by decide +kernel
theorem d20_14 : decode jdk_52_method_14_code 14 = .ok (.aload_n 3, 1) := by decide +kernel
theorem d20_15 : decode jdk_52_method_14_code 15 = .ok (.iload 4, 2) := by decide +kernel
theorem d20_17 : decode jdk_52_method_14_code 17 = .ok (.aload_n 0, 1) := by decide +kernel
theorem d20_18 : decode jdk_52_method_14_code 18 = .ok (.iload_n 1, 1) := by decide +kernel
theorem d20_19 : decode jdk_52_method_14_code 19 = .ok (.caload, 1) := by decide +kernel
theorem d20_20 : decode jdk_52_method_14_code 20 = .ok (.invokestatic 111, 3) := by decide +kernel
theorem d20_23 : decode jdk_52_method_14_code 23 = .ok (.iinc 1 1, 3) := by decide +kernel
theorem d20_26 : decode jdk_52_method_14_code 26 = .ok (.iinc 4 1, 3) := by decide +kernel
theorem d20_29 : decode jdk_52_method_14_code 29 = .ok (.goto (-21), 3) := by decide +kernel
theorem d20_32 : decode jdk_52_method_14_code 32 = .ok (.aload_n 3, 1) := by decide +kernel
theorem d20_33 : decode jdk_52_method_14_code 33 = .ok (.areturn, 1) := by decide +kernel
theorem d19_0 : decode jdk_52_method_15_code 0 = .ok (.iload_n 1, 1) := by decide +kernel
theorem d19_1 : decode jdk_52_method_15_code 1 = .ok (.aload_n 0, 1) := by decide +kernel
theorem d19_2 : decode jdk_52_method_15_code 2 = .ok (.arraylength, 1) := by decide +kernel
theorem d19_3 : decode jdk_52_method_15_code 3 = .ok (.isub, 1) := by decide +kernel
theorem d19_4 : decode jdk_52_method_15_code 4 = .ok (.bipush 31, 2) := by decide +kernel
theorem d19_6 : decode jdk_52_method_15_code 6 = .ok (.iushr, 1) := by decide +kernel
theorem d19_7 : decode jdk_52_method_15_code 7 = .ok (.i2b, 1) := by decide +kernel
theorem d19_8 : decode jdk_52_method_15_code 8 = .ok (.ireturn, 1) := by decide +kernel
theorem d17_0 : decode jdk_52_method_16_code 0 = .ok (.iload_n 2, 1) := by decide +kernel
theorem d17_1 : decode jdk_52_method_16_code 1 = .ok (.newarray .byte, 2) := by decide +kernel
theorem d17_3 : decode jdk_52_method_16_code 3 = .ok (.astore_n 3, 1) := by decide +kernel
theorem d17_4 : decode jdk_52_method_16_code 4 = .ok (.aload_n 0, 1) := by decide +kernel
theorem d17_5 : decode jdk_52_method_16_code 5 = .ok (.iload_n 1, 1) := by decide +kernel
theorem d17_6 : decode jdk_52_method_16_code 6 = .ok (.aload_n 3, 1) := by decide +kernel
theorem d17_7 : decode jdk_52_method_16_code 7 = .ok (.iconst 0, 1) := by decide +kernel
theorem d17_8 : decode jdk_52_method_16_code 8 = .ok (.iload_n 2, 1) := by decide +kernel
theorem d17_9 : decode jdk_52_method_16_code 9 = .ok (.invokestatic 115, 3) := by decide +kernel
theorem d17_12 : decode jdk_52_method_16_code 12 = .ok (.istore 4, 2) := by decide +kernel
theorem d17_14 : decode jdk_52_method_16_code 14 = .ok (.iload 4, 2) := by decide +kernel
theorem d17_16 : decode jdk_52_method_16_code 16 = .ok (.iload_n 2, 1) := by decide +kernel
theorem d17_17 : decode jdk_52_method_16_code 17 = .ok (.if_icmp .eq 40, 3) := by decide +kernel
theorem d17_20 : decode jdk_52_method_16_code 20 = .ok (.aload_n 0, 1) := by decide +kernel
theorem d17_21 : decode jdk_52_method_16_code 21 = .ok (.iload_n 1, 1) := by decide +kernel
theorem d17_22 : decode jdk_52_method_16_code 22 = .ok (.iload_n 2, 1) := by decide +kernel
theorem d17_23 : decode jdk_52_method_16_code 23 = .ok (.invokestatic 119, 3) := by decide +kernel
theorem d17_26 : decode jdk_52_method_16_code 26 = .ok (.astore 5, 2) := by decide +kernel
theorem d17_28 : decode jdk_52_method_16_code 28 = .ok (.aload 5, 2) := by decide +kernel
theorem d17_30 : decode jdk_52_method_16_code 30 = .ok (.iload 4, 2) := by decide +kernel
theorem d17_32 : decode jdk_52_method_16_code 32 = .ok (.invokestatic 71, 3) := by decide +kernel
theorem d17_35 : decode jdk_52_method_16_code 35 = .ok (.sipush 255, 3) := by decide +kernel
theorem d17_38 : decode jdk_52_method_16_code 38 = .ok (.if_icmp .gt 16, 3) := by decide +kernel
theorem d17_54 : decode jdk_52_method_16_code 54 = .ok (.aload 5, 2) := by decide +kernel
theorem d17_56 : decode jdk_52_method_16_code 56 = .ok (.areturn, 1) := by decide +kernel
theorem d17_57 : decode jdk_52_method_16_code 57 = .ok (.aload_n 3, 1) := by decide +kernel
theorem d17_58 : decode jdk_52_method_16_code 58 = .ok (.areturn, 1) := by decide +kernel
theorem d18_0 : decode jdk_52_method_21_code 0 = .ok (.iconst 0, 1) := by decide +kernel
theorem d18_1 : decode jdk_52_method_21_code 1 = .ok (.istore 5, 2) := by decide +kernel
theorem d18_3 : decode jdk_52_method_21_code 3 = .ok (.iload 5, 2) := by decide +kernel
theorem d18_5 : decode jdk_52_method_21_code 5 = .ok (.iload 4, 2) := by decide +kernel
theorem d18_7 : decode jdk_52_method_21_code 7 = .ok (.if_icmp .ge 37, 3) := by decide +kernel
theorem d18_10 : decode jdk_52_method_21_code 10 = .ok (.aload_n 0, 1) := by decide +kernel
theorem d18_11 : decode jdk_52_method_21_code 11 = .ok (.iload_n 1, 1) := by decide +kernel
theorem d18_12 : decode jdk_52_method_21_code 12 = .ok (.caload, 1) := by decide +kernel
theorem d18_13 : decode jdk_52_method_21_code 13 = .ok (.istore 6, 2) := by decide +kernel
theorem d18_15 : decode jdk_52_method_21_code 15 = .ok (.iload 6, 2) := by decide +kernel
theorem d18_17 : decode jdk_52_method_21_code 17 = .ok (.sipush 255, 3) := by decide +kernel
theorem d18_20 : decode jdk_52_method_21_code 20 = .ok (.if_icmp .le 6, 3) := by decide +kernel
theorem d18_23 : decode jdk_52_method_21_code 23 = .ok (.iload 5, 2) := by decide +kernel
theorem d18_25 : decode jdk_52_method_21_code 25 = .ok (.ireturn, 1) := by decide +kernel
theorem d18_26 : decode jdk_52_method_21_code 26 = .ok (.aload_n 2, 1) := by decide +kernel
theorem d18_27 : decode jdk_52_method_21_code 27 = .ok (.iload_n 3, 1) := by decide +kernel
theorem d18_28 : decode jdk_52_method_21_code 28 = .ok (.iload 6, 2) := by decide +kernel
theorem d18_30 : decode jdk_52_method_21_code 30 = .ok (.i2b, 1) := by decide +kernel
theorem d18_31 : decode jdk_52_method_21_code 31 = .ok (.bastore, 1) := by decide +kernel
theorem d18_32 : decode jdk_52_method_21_code 32 = .ok (.iinc 1 1, 3) := by decide +kernel
theorem d18_35 : decode jdk_52_method_21_code 35 = .ok (.iinc 3 1, 3) := by decide +kernel
theorem d18_38 : decode jdk_52_method_21_code 38 = .ok (.iinc 5 1, 3) := by decide +kernel
theorem d18_41 : decode jdk_52_method_21_code 41 = .ok (.goto (-38), 3) := by decide +kernel
theorem d18_44 : decode jdk_52_method_21_code 44 = .ok (.iload 4, 2) := by decide +kernel
theorem d18_46 : decode jdk_52_method_21_code 46 = .ok (.ireturn, 1) := by decide +kernel
theorem d21_0 : decode jdk_52_method_2_code 0 = .ok (.iload_n 0, 1) := by decide +kernel
theorem d21_1 : decode jdk_52_method_2_code 1 = .ok (.invokestatic 11, 3) := by decide +kernel
theorem d21_4 : decode jdk_52_method_2_code 4 = .ok (.newarray .byte, 2) := by decide +kernel
theorem d21_6 : decode jdk_52_method_2_code 6 = .ok (.areturn, 1) := by decide +kernel
theorem d22_0 : decode jdk_52_method_3_code 0 = .ok (.iload_n 0, 1) := by decide +kernel
theorem d22_1 : decode jdk_52_method_3_code 1 = .ok (.ifCond .ge 11, 3) := by decide +kernel
theorem d22_12 : decode jdk_52_method_3_code 12 = .ok (.iload_n 0, 1) := by decide +kernel
theorem d22_13 : decode jdk_52_method_3_code 13 = .ok (.ldc 20, 2) := by decide +kernel
theorem d22_15 : decode jdk_52_method_3_code 15 = .ok (.if_icmp .lt 40, 3) := by decide +kernel
theorem d22_55 : decode jdk_52_method_3_code 55 = .ok (.iload_n 0, 1) := by decide +kernel
theorem d22_56 : decode jdk_52_method_3_code 56 = .ok (.iconst 1, 1) := by decide +kernel
theorem d22_57 : decode jdk_52_method_3_code 57 = .ok (.ishl, 1) := by decide +kernel
theorem d22_58 : decode jdk_52_method_3_code 58 = .ok (.ireturn, 1) := by decide +kernel
theorem d23_0 : decode jdk_52_method_4_code 0 = .ok (.getstatic 44, 3) := by decide +kernel
theorem d23_3 : decode jdk_52_method_4_code 3 = .ok (.ifCond .ne 25, 3) := by decide +kernel
theorem d23_28 : decode jdk_52_method_4_code 28 = .ok (.iload_n 1, 1) := by decide +kernel
theorem d23_29 : decode jdk_52_method_4_code 29 = .ok (.iconst 1, 1) := by decide +kernel
theorem d23_30 : decode jdk_52_method_4_code 30 = .ok (.ishl, 1) := by decide +kernel
theorem d23_31 : decode jdk_52_method_4_code 31 = .ok (.istore_n 1, 1) := by decide +kernel
theorem d23_32 : decode jdk_52_method_4_code 32 = .ok (.aload_n 0, 1) := by decide +kernel
theorem d23_33 : decode jdk_52_method_4_code 33 = .ok (.iload_n 1, 1) := by decide +kernel
theorem d23_34 : decode jdk_52_method_4_code 34 = .ok (.iinc 1 1, 3) := by decide +kernel
theorem d23_37 : decode jdk_52_method_4_code 37 = .ok (.iload_n 2, 1) := by decide +kernel
theorem d23_38 : decode jdk_52_method_4_code 38 = .ok (.getstatic 59, 3) := by decide +kernel
theorem d23_41 : decode jdk_52_method_4_code 41 = .ok (.ishr, 1) := by decide +kernel
theorem d23_42 : decode jdk_52_method_4_code 42 = .ok (.i2b, 1) := by decide +kernel
theorem d23_43 : decode jdk_52_method_4_code 43 = .ok (.bastore, 1) := by decide +kernel
theorem d23_44 : decode jdk_52_method_4_code 44 = .ok (.aload_n 0, 1) := by decide +kernel
theorem d23_45 : decode jdk_52_method_4_code 45 = .ok (.iload_n 1, 1) := by decide +kernel
theorem d23_46 : decode jdk_52_method_4_code 46 = .ok (.iload_n 2, 1) := by decide +kernel
theorem d23_47 : decode jdk_52_method_4_code 47 = .ok (.getstatic 63, 3) := by decide +kernel
theorem d23_50 : decode jdk_52_method_4_code 50 = .ok (.ishr, 1) := by decide +kernel
theorem d23_51 : decode jdk_52_method_4_code 51 = .ok (.i2b, 1) := by decide +kernel
theorem d23_52 : decode jdk_52_method_4_code 52 = .ok (.bastore, 1) := by decide +kernel
theorem d23_53 : decode jdk_52_method_4_code 53 = .ok (.return_, 1) := by decide +kernel
theorem d24_0 : decode jdk_52_method_5_code 0 = .ok (.getstatic 44, 3) := by decide +kernel
theorem d24_3 : decode jdk_52_method_5_code 3 = .ok (.ifCond .ne 25, 3) := by decide +kernel
theorem d24_28 : decode jdk_52_method_5_code 28 = .ok (.iload_n 1, 1) := by decide +kernel
theorem d24_29 : decode jdk_52_method_5_code 29 = .ok (.iconst 1, 1) := by decide +kernel
theorem d24_30 : decode jdk_52_method_5_code 30 = .ok (.ishl, 1) := by decide +kernel
theorem d24_31 : decode jdk_52_method_5_code 31 = .ok (.istore_n 1, 1) := by decide +kernel
theorem d24_32 : decode jdk_52_method_5_code 32 = .ok (.aload_n 0, 1) := by decide +kernel
theorem d24_33 : decode jdk_52_method_5_code 33 = .ok (.iload_n 1, 1) := by decide +kernel
theorem d24_34 : decode jdk_52_method_5_code 34 = .ok (.iinc 1 1, 3) := by decide +kernel
theorem d24_37 : decode jdk_52_method_5_code 37 = .ok (.baload, 1) := by decide +kernel
theorem d24_38 : decode jdk_52_method_5_code 38 = .ok (.sipush 255, 3) := by decide +kernel
theorem d24_41 : decode jdk_52_method_5_code 41 = .ok (.iand, 1) := by decide +kernel
theorem d24_42 : decode jdk_52_method_5_code 42 = .ok (.getstatic 59, 3) := by decide +kernel
theorem d24_45 : decode jdk_52_method_5_code 45 = .ok (.ishl, 1) := by decide +kernel
theorem d24_46 : decode jdk_52_method_5_code 46 = .ok (.aload_n 0, 1) := by decide +kernel
theorem d24_47 : decode jdk_52_method_5_code 47 = .ok (.iload_n 1, 1) := by decide +kernel
theorem d24_48 : decode jdk_52_method_5_code 48 = .ok (.baload, 1) := by decide +kernel
theorem d24_49 : decode jdk_52_method_5_code 49 = .ok (.sipush 255, 3) := by decide +kernel
theorem d24_52 : decode jdk_52_method_5_code 52 = .ok (.iand, 1) := by decide +kernel
theorem d24_53 : decode jdk_52_method_5_code 53 = .ok (.getstatic 63, 3) := by decide +kernel
theorem d24_56 : decode jdk_52_method_5_code 56 = .ok (.ishl, 1) := by decide +kernel
theorem d24_57 : decode jdk_52_method_5_code 57 = .ok (.ior, 1) := by decide +kernel
theorem d24_58 : decode jdk_52_method_5_code 58 = .ok (.i2c, 1) := by decide +kernel
theorem d24_59 : decode jdk_52_method_5_code 59 = .ok (.ireturn, 1) := by decide +kernel
theorem d29_0 : decode jdk_89_method_14_code 0 = .ok (.iload_n 0, 1) := by decide +kernel
theorem d29_1 : decode jdk_89_method_14_code 1 = .ok (.ldc 75, 2) := by decide +kernel
theorem d29_3 : decode jdk_89_method_14_code 3 = .ok (.if_icmp .lt 13, 3) := by decide +kernel
theorem d29_6 : decode jdk_89_method_14_code 6 = .ok (.iload_n 0, 1) := by decide +kernel
theorem d29_7 : decode jdk_89_method_14_code 7 = .ok (.ldc 76, 2) := by decide +kernel
theorem d29_9 : decode jdk_89_method_14_code 9 = .ok (.if_icmp .ge 7, 3) := by decide +kernel
theorem d29_12 : decode jdk_89_method_14_code 12 = .ok (.iconst 1, 1) := by decide +kernel
theorem d29_13 : decode jdk_89_method_14_code 13 = .ok (.goto 4, 3) := by decide +kernel
theorem d29_16 : decode jdk_89_method_14_code 16 = .ok (.iconst 0, 1) := by decide +kernel
theorem d29_17 : decode jdk_89_method_14_code 17 = .ok (.ireturn, 1) := by decide +kernel
theorem d30_0 : decode jdk_89_method_15_code 0 = .ok (.iload_n 0, 1) := by decide +kernel
theorem d30_1 : decode jdk_89_method_15_code 1 = .ok (.ldc 76, 2) := by decide +kernel
theorem d30_3 : decode jdk_89_method_15_code 3 = .ok (.if_icmp .lt 13, 3) := by decide +kernel
theorem d30_6 : decode jdk_89_method_15_code 6 = .ok (.iload_n 0, 1) := by decide +kernel
theorem d30_7 : decode jdk_89_method_15_code 7 = .ok (.ldc 77, 2) := by decide +kernel
theorem d30_9 : decode jdk_89_method_15_code 9 = .ok (.if_icmp .ge 7, 3) := by decide +kernel
theorem d30_12 : decode jdk_89_method_15_code 12 = .ok (.iconst 1, 1) := by decide +kernel
theorem d30_13 : decode jdk_89_method_15_code 13 = .ok (.goto 4, 3) := by decide +kernel
theorem d30_16 : decode jdk_89_method_15_code 16 = .ok (.iconst 0, 1) := by decide +kernel
theorem d30_17 : decode jdk_89_method_15_code 17 = .ok (.ireturn, 1) := by decide +kernel
theorem d1_0 : decode method_2_code 0 = .ok (.iload_n 0, 1) := by decide +kernel
theorem d1_1 : decode method_2_code 1 = .ok (.ldc 7, 2) := by decide +kernel
theorem d1_3 : decode method_2_code 3 = .ok (.iand, 1) := by decide +kernel
theorem d1_4 : decode method_2_code 4 = .ok (.ifCond .eq 13, 3) := by decide +kernel
theorem d1_7 : decode method_2_code 7 = .ok (.ldc 8, 2) := by decide +kernel
theorem d1_9 : decode method_2_code 9 = .ok (.iload_n 0, 1) := by decide +kernel
theorem d1_10 : decode method_2_code 10 = .ok (.sipush 2047, 3) := by decide +kernel
theorem d1_13 : decode method_2_code 13 = .ok (.iand, 1) := by decide +kernel
theorem d1_14 : decode method_2_code 14 = .ok (.iadd, 1) := by decide +kernel
theorem d1_15 : decode method_2_code 15 = .ok (.i2c, 1) := by decide +kernel
theorem d1_16 : decode method_2_code 16 = .ok (.ireturn, 1) := by decide +kernel
theorem d1_17 : decode method_2_code 17 = .ok (.iload_n 0, 1) := by decide +kernel
theorem d1_18 : decode method_2_code 18 = .ok (.ldc 9, 2) := by decide +kernel
theorem d1_20 : decode method_2_code 20 = .ok (.iand, 1) := by decide +kernel
theorem d1_21 : decode method_2_code 21 = .ok (.i2c, 1) := by decide +kernel
theorem d1_22 : decode method_2_code 22 = .ok (.ireturn, 1) := by decide +kernel
theorem d25_0 : decode method_3_code 0 = .ok (.iload_n 0, 1) := by decide +kernel
theorem d25_1 : decode method_3_code 1 = .ok (.ldc 8, 2) := by decide +kernel
theorem d25_3 : decode method_3_code 3 = .ok (.if_icmp .lt 13, 3) := by decide +kernel
theorem d25_6 : decode method_3_code 6 = .ok (.iload_n 0, 1) := by decide +kernel
theorem d25_7 : decode method_3_code 7 = .ok (.ldc 10, 2) := by decide +kernel
theorem d25_9 : decode method_3_code 9 = .ok (.if_icmp .gt 7, 3) := by decide +kernel
theorem d25_12 : decode method_3_code 12 = .ok (.iconst 1, 1) := by decide +kernel
theorem d25_13 : decode method_3_code 13 = .ok (.goto 4, 3) := by decide +kernel
theorem d25_16 : decode method_3_code 16 = .ok (.iconst 0, 1) := by decide +kernel
theorem d25_17 : decode method_3_code 17 = .ok (.ireturn, 1) := by decide +kernel
theorem d26_0 : decode method_4_code 0 = .ok (.iload_n 0, 1) := by decide +kernel
theorem d26_1 : decode method_4_code 1 = .ok (.ldc 11, 2) := by decide +kernel
theorem d26_3 : decode method_4_code 3 = .ok (.if_icmp .lt 13, 3) := by decide +kernel
theorem d26_6 : decode method_4_code 6 = .ok (.iload_n 0, 1) := by decide +kernel
theorem d26_7 : decode method_4_code 7 = .ok (.ldc 12, 2) := by decide +kernel
theorem d26_9 : decode method_4_code 9 = .ok (.if_icmp .gt 7, 3) := by decide +kernel
theorem d26_12 : decode method_4_code 12 = .ok (.iconst 1, 1) := by decide +kernel
theorem d26_13 : decode method_4_code 13 = .ok (.goto 4, 3) := by decide +kernel
theorem d26_16 : decode method_4_code 16 = .ok (.iconst 0, 1) := by decide +kernel
theorem d26_17 : decode method_4_code 17 = .ok (.ireturn, 1) := by decide +kernel
theorem d10_0 : decode prog_8_method_2_code 0 = .ok (.aload_n 1, 1) := by decide +kernel
theorem d10_1 : decode prog_8_method_2_code 1 = .ok (.ifnull 31, 3) := by decide +kernel
theorem d10_4 : decode prog_8_method_2_code 4 = .ok (.aload_n 1, 1) := by decide +kernel
theorem d10_5 : decode prog_8_method_2_code 5 = .ok (.iconst 0, 1) := by decide +kernel
theorem d10_6 : decode prog_8_method_2_code 6 = .ok (.aload_n 1, 1) := by decide +kernel
theorem d10_7 : decode prog_8_method_2_code 7 = .ok (.invokevirtual 7, 3) := by decide +kernel
theorem d10_10 : decode prog_8_method_2_code 10 = .ok (.invokevirtual 13, 3) := by decide +kernel
theorem d10_13 : decode prog_8_method_2_code 13 = .ok (.iload_n 2, 1) := by decide +kernel
theorem d10_14 : decode prog_8_method_2_code 14 = .ok (.if_icmp .le 18, 3) := by decide +kernel
theorem d10_32 : decode prog_8_method_2_code 32 = .ok (.aload_n 1, 1) := by decide +kernel
theorem d10_33 : decode prog_8_method_2_code 33 = .ok (.areturn, 1) := by decide +kernel
theorem pd_0 : parseMethodDescriptor "(C)Z" = some ⟨[.char], some .boolean⟩ := by decide +kernel
theorem pd_1 : parseMethodDescriptor "(C)[B" = some ⟨[.char], some (.array .byte)⟩ := by decide +kernel
theorem pd_2 : parseMethodDescriptor "([BB)V" = some ⟨[(.array .byte), .byte], none⟩ := by decide +kernel
theorem pd_3 : parseMethodDescriptor "([CIILjava/lang/Void;)V" = some ⟨[(.array .char), .int, .int, (.object "java/lang/Void")], none⟩ := by decide +kernel
theorem pd_4 : parseMethodDescriptor "(I)I" = some ⟨[.int], some .int⟩ := by decide +kernel
theorem pd_5 : parseMethodDescriptor "(I)[B" = some ⟨[.int], some (.array .byte)⟩ := by decide +kernel
theorem pd_6 : parseMethodDescriptor "([BII)V" = some ⟨[(.array .byte), .int, .int], none⟩ := by decide +kernel
theorem pd_7 : parseMethodDescriptor "([CI[BII)I" = some ⟨[(.array .char), .int, (.array .byte), .int, .int], some .int⟩ := by decide +kernel
theorem pd_8 : parseMethodDescriptor "([CII)[B" = some ⟨[(.array .char), .int, .int], some (.array .byte)⟩ := by decide +kernel
theorem pd_9 : parseMethodDescriptor "([BI)C" = some ⟨[(.array .byte), .int], some .char⟩ := by decide +kernel
theorem pd_10 : parseMethodDescriptor "([BI)B" = some ⟨[(.array .byte), .int], some .byte⟩ := by decide +kernel
theorem pd_11 : parseMethodDescriptor "()B" = some ⟨[], some .byte⟩ := by decide +kernel
theorem pd_12 : parseMethodDescriptor "([BIIZ)I" = some ⟨[(.array .byte), .int, .int, .boolean], some .int⟩ := by decide +kernel
theorem pd_13 : parseMethodDescriptor "(IIILjava/util/function/BiFunction;)I" = some ⟨[.int, .int, .int, (.object "java/util/function/BiFunction")], some .int⟩ := by decide +kernel
theorem pd_14 : parseMethodDescriptor "()I" = some ⟨[], some .int⟩ := by decide +kernel
theorem pd_15 : parseMethodDescriptor "(III)I" = some ⟨[.int, .int, .int], some .int⟩ := by decide +kernel
theorem pd_16 : parseMethodDescriptor "()Z" = some ⟨[], some .boolean⟩ := by decide +kernel
theorem pd_17 : parseMethodDescriptor "([BII)I" = some ⟨[(.array .byte), .int, .int], some .int⟩ := by decide +kernel
theorem pd_18 : parseMethodDescriptor "(II)I" = some ⟨[.int, .int], some .int⟩ := by decide +kernel
theorem pd_19 : parseMethodDescriptor "(I)C" = some ⟨[.int], some .char⟩ := by decide +kernel
theorem pd_20 : parseMethodDescriptor "(C)Ljava/lang/String;" = some ⟨[.char], some (.object "java/lang/String")⟩ := by decide +kernel
theorem pd_21 : parseMethodDescriptor "(Ljava/lang/String;Ljava/lang/String;I)Ljava/lang/String;" = some ⟨[(.object "java/lang/String"), (.object "java/lang/String"), .int], some (.object "java/lang/String")⟩ := by decide +kernel
theorem pd_22 : parseMethodDescriptor "([C)V" = some ⟨[(.array .char)], none⟩ := by decide +kernel
theorem pn_0 : plainName "java/lang/String" = true := by first | (simp [plainName, overriddenIn]; done) | decide +kernel
theorem pn_1 : plainName "java/lang/StringLatin1" = true := by first | (simp [plainName, overriddenIn]; done) | decide +kernel
theorem pn_2 : plainName "java/lang/StringUTF16" = true := by first | (simp [plainName, overriddenIn]; done) | decide +kernel
theorem pn_3 : plainName "java/lang/Character" = true := by first | (simp [plainName, overriddenIn]; done) | decide +kernel
theorem pn_4 : plainName "com/example/saale/saale/protocol/LengthsAtMostPinLaw" = true := by first | (simp [plainName, overriddenIn]; done) | decide +kernel
theorem pn_5 : plainName "jdk/internal/util/Preconditions" = true := by first | (simp [plainName, overriddenIn]; done) | decide +kernel
theorem pn_6 : plainName "java/util/Objects" = true := by first | (simp [plainName, overriddenIn]; done) | decide +kernel
theorem pn_7 : plainName "com/example/saale/saale/protocol/Lengths" = true := by first | (simp [plainName, overriddenIn]; done) | decide +kernel
theorem pn_8 : plainFor (⟨"java/lang/Math", "max", "(II)I"⟩ : MethodName) = true := Jvm.Free.JP.mathPlain rfl (by decide +kernel)
theorem ef_c_strbb (m : MethodId) (x0 : Addr) (x1 : Addr) (x2 : Int32)  : entryFrame m #[(.ref x0), (.ref x1), (.int x2)] 3 = mkF m 0 #[.val (.ref x0), .val (.ref x1), .val (.int x2)] [] := by first | (simp [entryFrame, mkF, argsToLocals, Value.category]; done) | rfl
set_option maxRecDepth 65536 in
set_option maxHeartbeats 40000000 in
theorem c_strbb {l : Launch} {Z : State} {n0 : Nat} {a0 : Array Value} (hw : Hw a0 Z) (x : Addr) (t : Addr) (cd : Int32) (u_value : Value) (u_coder : Value)  (h0 : Heap) (E0 : Exa Z h0 x "java/lang/String") (F_value : Fld Z h0 x "java/lang/String" "value" "[B" u_value) (F_coder : Fld Z h0 x "java/lang/String" "coder" "B" u_coder)  :
    Con l Z n0 ELs (⟨"java/lang/String", "<init>", "([BB)V"⟩ : MethodName) jdk_42_method_151_code 3 none [] ({ frames := 1, cells := 0, slots := 0, locals := 12 } : Room) #[(.ref x), (.ref t), (.int cd)] h0 [x] false (fun w h => Exa Z h x "java/lang/String" ∧ Fld Z h x "java/lang/String" "value" "[B" (.ref t) ∧ Fld Z h x "java/lang/String" "coder" "B" (.int (nar .byte cd))) := by
  refine con_of (plainFor_of_name pn_0) (fun mt => ef_c_strbb mt x t cd ) ?_
  intro K
  refine g_aloadN d5_0 rfl rfl (pc' := 1) rfl ?_
  refine g_initO (W := 0) d5_1 (w_25 hw) (w_26 hw) (w_27 hw) rfl (by decide) (Nat.le_of_eq rfl) (by decide) (pc' := 4) rfl ?_
  refine g_aloadN d5_4 rfl rfl (pc' := 5) rfl ?_
  refine g_aloadN d5_5 rfl rfl (pc' := 6) rfl ?_
  refine g_putF (ty := (.array .byte)) d5_6 (w_28 hw) Via.refl F_value E0 (Or.inr ⟨(w_29 hw), rfl, rfl⟩) (w_16 hw) (by decide) rfl rfl (Or.inl (List.mem_of_getElem? (i := 0) rfl)) (List.mem_of_getElem? (i := 0) rfl) (pc' := 9) rfl ?_
  intro h1 W1
  have Kw1 := Keep.of_wr W1
  have G1_value := F_value.same W1
  have G1_coder := F_coder.other W1 (Or.inr (slot_ne (Or.inr (w_31 hw)) (Or.inr (w_29 hw)) (by decide) (t := .byte) (t' := (.array .byte)) (by decide) (by decide)))
  refine g_aloadN d5_9 rfl rfl (pc' := 10) rfl ?_
  refine g_iloadN d5_10 rfl (pc' := 11) rfl ?_
  refine g_putF (ty := .byte) d5_11 (w_30 hw) Via.refl G1_coder (E0.keep Kw1) (Or.inr ⟨(w_31 hw), rfl, rfl⟩) (w_16 hw) (by decide) (v' := (.int (nar .byte cd))) rfl (fits_nar_byte _) (Or.inl (List.mem_of_getElem? (i := 0) rfl)) (List.mem_of_getElem? (i := 0) rfl) (pc' := 14) rfl ?_
  intro h2 W2
  have Kw2 := Keep.of_wr W2
  have G2_coder := G1_coder.same W2
  have G2_value := G1_value.other W2 (Or.inr (slot_ne (Or.inr (w_29 hw)) (Or.inr (w_31 hw)) (by decide) (t := (.array .byte)) (t' := .byte) (by decide) (by decide)))
  exact g_return d5_14 rfl ⟨((E0.keep Kw1).keep Kw2), G2_value, G2_coder⟩ (by decide) (by decide)
theorem ef_c_canenc (m : MethodId) (x0 : Int32)  : entryFrame m #[(.int x0)] 1 = mkF m 0 #[.val (.int x0)] [] := by first | (simp [entryFrame, mkF, argsToLocals, Value.category]; done) | rfl
set_option maxRecDepth 65536 in
set_option maxHeartbeats 40000000 in
theorem c_canenc {l : Launch} {Z : State} {n0 : Nat} {a0 : Array Value} (hw : Hw a0 Z) (ch : Int32) (h0 : Heap) (hc : ¬ 255 < ch) :
    Con l Z n0 ELs (⟨"java/lang/StringLatin1", "canEncode", "(C)Z"⟩ : MethodName) jdk_43_method_3_code 1 (some .boolean) [] ({ frames := 0, cells := 0, slots := 0, locals := 0 } : Room) #[(.int ch)] h0 [] false (fun w h => w = .int 1 ∧ h0 = h) := by
  refine con_of (plainFor_of_name pn_1) (fun mt => ef_c_canenc mt ch ) ?_
  intro K
  refine g_iloadN d3_0 rfl (pc' := 1) rfl ?_
  refine g_sipush d3_1 (v := 255) rfl (pc' := 4) rfl ?_
  refine g_icmp_gt_f d3_4 hc (pc' := 7) rfl ?_
  refine g_iconst d3_7 (v := 1) rfl (pc' := 8) rfl ?_
  refine g_goto d3_8 (pc' := 12) (by decide) rfl ?_
  exact g_ireturnN d3_12 rfl (by simp) (z := 1) rfl ⟨rfl, rfl⟩ (by decide) (by decide)
theorem ef_c_tobytes (m : MethodId) (x0 : Int32)  : entryFrame m #[(.int x0)] 1 = mkF m 0 #[.val (.int x0)] [] := by first | (simp [entryFrame, mkF, argsToLocals, Value.category]; done) | rfl
set_option maxRecDepth 65536 in
set_option maxHeartbeats 40000000 in
theorem c_tobytes {l : Launch} {Z : State} {n0 : Nat} {a0 : Array Value} (hw : Hw a0 Z) (ch : Int32) (h0 : Heap)  :
    Con l Z n0 ELs (⟨"java/lang/StringLatin1", "toBytes", "(C)[B"⟩ : MethodName) jdk_43_method_46_code 1 (some (.array .byte)) [] ({ frames := 0, cells := 1, slots := 1, locals := 0 } : Room) #[(.int ch)] h0 [] false (fun w h => ∃ t, w = .ref t ∧ h0.size ≤ t ∧ Ia Z h t .byte [nar .byte ch.toInt8.toInt32]) := by
  refine con_of (plainFor_of_name pn_1) (fun mt => ef_c_tobytes mt ch ) ?_
  intro K
  refine g_iconst d4_0 (v := 1) rfl (pc' := 1) rfl ?_
  refine g_newA d4_1 (w_20 hw) rfl (by decide) (cap := 1) (by decide) (by decide) (by decide) (by decide) (pc' := 3) rfl ?_
  intro t h1 g1 Kn1 A_t sz_t
  replace A_t : Ia Z h1 t .byte [0] := A_t
  refine g_dup d4_3 rfl (pc' := 4) rfl ?_
  refine g_iconst d4_4 (v := 0) rfl (pc' := 5) rfl ?_
  refine g_iloadN d4_5 rfl (pc' := 6) rfl ?_
  refine g_i2b d4_6 rfl (pc' := 7) rfl ?_
  refine g_bastore d4_7 A_t (by decide) (i := 0) rfl (Nat.le_of_ble_eq_true rfl) (Or.inr sz_t) (List.mem_of_getElem? (i := 0) rfl) (pc' := 8) rfl ?_
  intro h2 Kw2 A_t_2
  replace A_t_2 : Ia Z h2 t .byte [nar .byte ch.toInt8.toInt32] := A_t_2
  exact g_areturn d4_8 rfl rfl rfl ⟨t, rfl, sz_t, A_t_2⟩ (by decide) (by decide)
theorem ef_c_valueof (m : MethodId) (x0 : Int32)  : entryFrame m #[(.int x0)] 1 = mkF m 0 #[.val (.int x0)] [] := by first | (simp [entryFrame, mkF, argsToLocals, Value.category]; done) | rfl
set_option maxRecDepth 65536 in
set_option maxHeartbeats 40000000 in
theorem c_valueof {l : Launch} {Z : State} {n0 : Nat} {a0 : Array Value} (hw : Hw a0 Z) (ch : Int32) (z : Int32) (h0 : Heap) (hC : Sta Z Z.heap "java/lang/String" "COMPACT_STRINGS" "Z" (.int z)) (hz : ¬ z = 0) (hc : ¬ ch < 0 ∧ ¬ 255 < ch) :
    Con l Z n0 ELs (⟨"java/lang/String", "valueOf", "(C)Ljava/lang/String;"⟩ : MethodName) jdk_42_method_139_code 1 (some (.object "java/lang/String")) [] ({ frames := 2, cells := 2, slots := 5, locals := 28 } : Room) #[(.int ch)] h0 [] false (fun w h => ∃ x t, w = .ref x ∧ h0.size ≤ x ∧ h0.size ≤ t ∧ St Z h x t [ch]) := by
  refine con_of (plainFor_of_name pn_0) (fun mt => ef_c_valueof mt ch ) ?_
  intro K
  refine g_getS d2_0 (w_10 hw) Via.refl hC (pc' := 3) rfl ?_
  refine g_if_eq_f d2_3 hz (pc' := 6) rfl ?_
  refine g_iloadN d2_6 rfl (pc' := 7) rfl ?_
  refine g_static (W := 0) (argsL := [(.int ch)]) (rest := []) d2_7 (w_11 hw) (w_12 hw) (by decide) (lenOf pd_0 rfl) (c_canenc hw ch _ hc.2) (w_14 hw) (w_13 hw) (by decide) (by decide) (fun _ q => nomatch q) rfl (Nat.le_of_eq rfl) rfl (by decide) (by decide) (pc' := 10) rfl ?_
  intro w1 h1 q1 Kc1
  obtain ⟨rfl, rfl⟩ := q1
  refine g_if_eq_f d2_10 (by decide) (pc' := 13) rfl ?_
  refine g_new d2_13 (w_15 hw) (w_16 hw) (w_8 hw) (by decide) (by decide) (pc' := 16) rfl ?_
  intro x h2 g2 Kn2 E_x D2 sz_x
  have F_value_x : Fld Z h2 x "java/lang/String" "value" "[B" .null := D2 (Or.inr (w_29 hw)) (ty := (.array .byte)) (by decide)
  have F_coder_x : Fld Z h2 x "java/lang/String" "coder" "B" (.int 0) := D2 (Or.inr (w_31 hw)) (ty := .byte) (by decide)
  refine g_dup d2_16 rfl (pc' := 17) rfl ?_
  refine g_iloadN d2_17 rfl (pc' := 18) rfl ?_
  refine g_static (W := 2) (argsL := [(.int ch)]) (rest := [(.ref x), (.ref x)]) d2_18 (w_17 hw) (w_18 hw) (by decide) (lenOf pd_1 rfl) (c_tobytes hw ch _) (w_19 hw) (w_13 hw) (by decide) (by decide) (fun _ q => nomatch q) rfl (Nat.le_of_eq rfl) rfl (by decide) (by decide) (pc' := 21) rfl ?_
  intro w3 h3 q3 Kc3
  obtain ⟨t, rfl, ht, A_t⟩ := q3
  refine g_iconst d2_21 (v := 0) rfl (pc' := 22) rfl ?_
  refine g_init (W := 1) (argsL := [(.ref t), (.int 0)]) (rest := [(.ref x)]) d2_22 rfl (w_21 hw) (w_22 hw) (by decide) (lenOf pd_2 rfl) (c_strbb hw x t 0 _ _ _ (E_x.keep Kc3) (F_value_x.keep Kc3 nin0) (F_coder_x.keep Kc3 nin0)) (w_24 hw) (w_8 hw) (by decide) (by decide) (allS ⟨(Or.inr sz_x), (List.mem_of_getElem? (i := 0) rfl)⟩ all0) rfl (Nat.le_of_eq rfl) rfl (by decide) (by decide) (pc' := 25) rfl ?_
  intro w4 h4 q4 Kc4
  obtain ⟨E1, V1, C1⟩ := q4
  have A1 := (A_t.keep Kc4 (ninS (Ne.symm (Nat.ne_of_lt (Nat.lt_of_lt_of_le (E_x).lt ht))) nin0))
  exact g_areturn d2_25 rfl rfl rfl ⟨x, t, rfl, sz_x, Nat.le_trans (Nat.le_trans sz_x (Nat.le_of_lt E_x.lt)) ht, E1, C1, V1, by simpa [nar] using A1, by simpa using hc⟩ (by decide) (by decide)
theorem ef_c_strv0 (m : MethodId) (x0 : Addr) (x1 : Addr) (x2 : Int32) (x3 : Int32)  : entryFrame m #[(.ref x0), (.ref x1), (.int x2), (.int x3), .null] 6 = mkF m 0 #[.val (.ref x0), .val (.ref x1), .val (.int x2), .val (.int x3), .val .null, .unset] [] := by first | (simp [entryFrame, mkF, argsToLocals, Value.category]; done) | rfl
set_option maxRecDepth 65536 in
set_option maxHeartbeats 40000000 in
theorem c_strv0 {l : Launch} {Z : State} {n0 : Nat} {a0 : Array Value} (hw : Hw a0 Z) (x b : Addr) (u_value u_coder : Value) (h0 : Heap) (E0 : Exa Z h0 x "java/lang/String") (F_value : Fld Z h0 x "java/lang/String" "value" "[B" u_value) (F_coder : Fld Z h0 x "java/lang/String" "coder" "B" u_coder) :
    Con l Z n0 ELs (⟨"java/lang/String", "<init>", "([CIILjava/lang/Void;)V"⟩ : MethodName) jdk_42_method_149_code 6 none [] ({ frames := 1, cells := 4, slots := 8, locals := 12 } : Room) #[(.ref x), (.ref b), (.int 0), (.int 0), .null] h0 [x] false (fun w h => ∃ t, St Z h x t []) := by
  refine con_of (plainFor_of_name pn_0) (fun mt => ef_c_strv0 mt x b 0 0 ) ?_
  intro K
  refine g_aloadN d8_0 rfl rfl (pc' := 1) rfl ?_
  refine g_initO (W := 0) d8_1 (w_25 hw) (w_26 hw) (w_27 hw) rfl (by decide) (Nat.le_of_eq rfl) (by decide) (pc' := 4) rfl ?_
  refine g_iloadN d8_4 rfl (pc' := 5) rfl ?_
  refine g_if_ne_f d8_5 rfl (pc' := 8) rfl ?_
  refine g_aloadN d8_8 rfl rfl (pc' := 9) rfl ?_
  refine g_ldcC (m := 0) d8_9 (w_40 hw) (hSA hw) (by decide) (by decide) (by decide) (by decide) (by decide) (by decide) (by decide) (pc' := 11) rfl ?_
  intro la t_la h1 Kl1 E_la C_la V_la A_la ne_la
  refine g_getF d8_11 (w_28 hw) Via.refl V_la (pc' := 14) rfl ?_
  refine g_putF (ty := (.array .byte)) d8_14 (w_28 hw) Via.refl (F_value.keep Kl1 nin0) (E0.keep Kl1) (Or.inr ⟨(w_29 hw), rfl, rfl⟩) (w_16 hw) (by decide) rfl rfl (Or.inl (List.mem_of_getElem? (i := 0) rfl)) (List.mem_of_getElem? (i := 0) rfl) (pc' := 17) rfl ?_
  intro h2 W2
  have Kw2 := Keep.of_wr W2
  have G2_value := (F_value.keep Kl1 nin0).same W2
  have G2_coder := (F_coder.keep Kl1 nin0).other W2 (Or.inr (slot_ne (Or.inr (w_31 hw)) (Or.inr (w_29 hw)) (by decide) (t := .byte) (t' := (.array .byte)) (by decide) (by decide)))
  refine g_aloadN d8_17 rfl rfl (pc' := 18) rfl ?_
  refine g_ldcC (m := 0) d8_18 (w_40 hw) (hSA hw) (by decide) (by decide) (by decide) (by decide) (by decide) (by decide) (by decide) (pc' := 20) rfl ?_
  intro lb t_lb h3 Kl3 E_lb C_lb V_lb A_lb ne_lb
  refine g_getF d8_20 (w_30 hw) Via.refl C_lb (pc' := 23) rfl ?_
  refine g_putF (ty := .byte) d8_23 (w_30 hw) Via.refl (G2_coder.keep Kl3 nin0) (((E0.keep Kl1).keep Kw2).keep Kl3) (Or.inr ⟨(w_31 hw), rfl, rfl⟩) (w_16 hw) (by decide) (v' := (.int (nar .byte 0))) rfl (fits_nar_byte _) (Or.inl (List.mem_of_getElem? (i := 0) rfl)) (List.mem_of_getElem? (i := 0) rfl) (pc' := 26) rfl ?_
  intro h4 W4
  have Kw4 := Keep.of_wr W4
  have G4_coder := (G2_coder.keep Kl3 nin0).same W4
  have G4_value := (G2_value.keep Kl3 nin0).other W4 (Or.inr (slot_ne (Or.inr (w_29 hw)) (Or.inr (w_31 hw)) (by decide) (t := (.array .byte)) (t' := .byte) (by decide) (by decide)))
  exact g_return d8_26 rfl ⟨t_la, ((((E0.keep Kl1).keep Kw2).keep Kl3).keep Kw4), G4_coder, G4_value, (((A_la.keep Kw2 (ninS (Ne.symm (ne_la _ (List.mem_of_getElem? (i := 0) rfl)).2) nin0)).keep Kl3 nin0).keep Kw4 (ninS (Ne.symm (ne_la _ (List.mem_of_getElem? (i := 0) rfl)).2) nin0)), by simp⟩ (by decide) (by decide)
theorem ef_c_str0 (m : MethodId) (x0 : Addr) (x1 : Addr)  : entryFrame m #[(.ref x0), (.ref x1)] 2 = mkF m 0 #[.val (.ref x0), .val (.ref x1)] [] := by first | (simp [entryFrame, mkF, argsToLocals, Value.category]; done) | rfl
set_option maxRecDepth 65536 in
set_option maxHeartbeats 40000000 in
theorem c_str0 {l : Launch} {Z : State} {n0 : Nat} {a0 : Array Value} (hw : Hw a0 Z) (x b : Addr) (u_value u_coder : Value) (h0 : Heap) (E0 : Exa Z h0 x "java/lang/String") (F_value : Fld Z h0 x "java/lang/String" "value" "[B" u_value) (F_coder : Fld Z h0 x "java/lang/String" "coder" "B" u_coder) (Ab : Ia Z h0 b .char []) :
    Con l Z n0 ELs (⟨"java/lang/String", "<init>", "([C)V"⟩ : MethodName) jdk_42_method_3_code 2 none [] ({ frames := 2, cells := 4, slots := 8, locals := 40 } : Room) #[(.ref x), (.ref b)] h0 [x] false (fun w h => ∃ t, St Z h x t []) := by
  refine con_of (plainFor_of_name pn_0) (fun mt => ef_c_str0 mt x b ) ?_
  intro K
  refine g_aloadN d7_0 rfl rfl (pc' := 1) rfl ?_
  refine g_aloadN d7_1 rfl rfl (pc' := 2) rfl ?_
  refine g_iconst d7_2 (v := 0) rfl (pc' := 3) rfl ?_
  refine g_aloadN d7_3 rfl rfl (pc' := 4) rfl ?_
  refine g_alen d7_4 Ab (x := 0) rfl (pc' := 5) rfl ?_
  refine g_null d7_5 (pc' := 6) rfl ?_
  refine g_init (W := 0) (argsL := [(.ref b), (.int 0), (.int 0), .null]) (rest := []) d7_6 rfl (w_37 hw) (w_38 hw) (by decide) (lenOf pd_3 rfl) (c_strv0 hw x b _ _ _ E0 F_value F_coder) (w_39 hw) (w_8 hw) (by decide) (by decide) (allS ⟨(Or.inl (List.mem_of_getElem? (i := 0) rfl)), (List.mem_of_getElem? (i := 0) rfl)⟩ all0) rfl (Nat.le_of_eq rfl) rfl (by decide) (by decide) (pc' := 9) rfl ?_
  intro w1 h1 q1 Kc1
  exact g_return d7_9 rfl q1 (by decide) (by decide)
theorem ef_c_put (m : MethodId) (x0 : Addr) (x1 : Int32) (x2 : Int32)  : entryFrame m #[(.ref x0), (.int x1), (.int x2)] 3 = mkF m 0 #[.val (.ref x0), .val (.int x1), .val (.int x2)] [] := by first | (simp [entryFrame, mkF, argsToLocals, Value.category]; done) | rfl
set_option maxRecDepth 65536 in
set_option maxHeartbeats 40000000 in
theorem c_put {l : Launch} {Z : State} {n0 : Nat} {a0 : Array Value} (hw : Hw a0 Z) (t : Addr) (vs : List Int32) (i : Nat) (ch : Int32) (h0 : Heap) (hA : Sta Z Z.heap "java/lang/StringUTF16" "$assertionsDisabled" "Z" (.int 1)) (hH : Sta Z Z.heap "java/lang/StringUTF16" "HI_BYTE_SHIFT" "I" (.int 0)) (hL : Sta Z Z.heap "java/lang/StringUTF16" "LO_BYTE_SHIFT" "I" (.int 8)) (A : Ia Z h0 t .byte vs) (hi : 2 * i + 1 < vs.length) (hi30 : i < 2 ^ 29) :
    Con l Z n0 ELs (⟨"java/lang/StringUTF16", "putChar", "([BII)V"⟩ : MethodName) jdk_52_method_4_code 3 none [] ({ frames := 0, cells := 0, slots := 0, locals := 0 } : Room) #[(.ref t), (.int (Int32.ofNat i)), (.int ch)] h0 [t] false (fun w h => Ia Z h t .byte ((vs.set (2 * i) (bLo ch)).set (2 * i + 1) (bHi ch))) := by
  refine con_of (plainFor_of_name pn_2) (fun mt => ef_c_put mt t ((Int32.ofNat i)) ch ) ?_
  intro K
  refine g_getS d23_0 (w_104 hw) Via.refl hA (pc' := 3) rfl ?_
  refine g_if_ne_t d23_3 (by decide) (pc' := 28) (by decide) rfl ?_
  refine g_iloadN d23_28 rfl (pc' := 29) rfl ?_
  refine g_iconst d23_29 (v := 1) rfl (pc' := 30) rfl ?_
  refine g_ishl d23_30 (v := (Int32.ofNat (2 * i))) (shl1 (by omega)) (pc' := 31) rfl ?_
  refine g_istoreN d23_31 (L' := #[.val (.ref t), .val (.int (Int32.ofNat (2 * i))), .val (.int ch)]) rfl (pc' := 32) rfl ?_
  refine g_aloadN d23_32 rfl rfl (pc' := 33) rfl ?_
  refine g_iloadN d23_33 rfl (pc' := 34) rfl ?_
  refine g_iinc d23_34 (v := 1) rfl rfl (y := (Int32.ofNat (2 * i + 1))) (ofNat_succ (by omega)) (L' := #[.val (.ref t), .val (.int (Int32.ofNat (2 * i + 1))), .val (.int ch)]) rfl (pc' := 37) rfl ?_
  refine g_iloadN d23_37 rfl (pc' := 38) rfl ?_
  refine g_getS d23_38 (w_105 hw) Via.refl hH (pc' := 41) rfl ?_
  refine g_ishr d23_41 (v := ch) (shr0 ch) (pc' := 42) rfl ?_
  refine g_i2b d23_42 rfl (pc' := 43) rfl ?_
  refine g_bastore d23_43 A (ofNat_lt (n := 2 * i + 1) (by omega) (by omega)).1 (nat32 (by omega)) (by omega) (Or.inl (List.mem_of_getElem? (i := 0) rfl)) (List.mem_of_getElem? (i := 0) rfl) (pc' := 44) rfl ?_
  intro h1 Kw1 A_t_1
  refine g_aloadN d23_44 rfl rfl (pc' := 45) rfl ?_
  refine g_iloadN d23_45 rfl (pc' := 46) rfl ?_
  refine g_iloadN d23_46 rfl (pc' := 47) rfl ?_
  refine g_getS d23_47 (w_106 hw) Via.refl hL (pc' := 50) rfl ?_
  refine g_ishr d23_50 rfl (pc' := 51) rfl ?_
  refine g_i2b d23_51 rfl (pc' := 52) rfl ?_
  refine g_bastore d23_52 A_t_1 (ofNat_lt (n := 2 * i + 2) (by omega) (by omega)).1 (nat32 (by omega)) (by simp only [List.length_set]; omega) (Or.inl (List.mem_of_getElem? (i := 0) rfl)) (List.mem_of_getElem? (i := 0) rfl) (pc' := 53) rfl ?_
  intro h2 Kw2 A_t_2
  rw [nar_b, nar_b] at A_t_2
  exact g_return d23_53 rfl A_t_2 (by decide) (by decide)
theorem ef_c_get (m : MethodId) (x0 : Addr) (x1 : Int32)  : entryFrame m #[(.ref x0), (.int x1)] 2 = mkF m 0 #[.val (.ref x0), .val (.int x1)] [] := by first | (simp [entryFrame, mkF, argsToLocals, Value.category]; done) | rfl
set_option maxRecDepth 65536 in
set_option maxHeartbeats 40000000 in
theorem c_get {l : Launch} {Z : State} {n0 : Nat} {a0 : Array Value} (hw : Hw a0 Z) (t : Addr) (cs : List Int32) (i : Nat) (ch : Int32) (h0 : Heap) (hA : Sta Z Z.heap "java/lang/StringUTF16" "$assertionsDisabled" "Z" (.int 1)) (hH : Sta Z Z.heap "java/lang/StringUTF16" "HI_BYTE_SHIFT" "I" (.int 0)) (hL : Sta Z Z.heap "java/lang/StringUTF16" "LO_BYTE_SHIFT" "I" (.int 8)) (A : Ia Z h0 t .byte (b16 cs)) (hi : cs[i]? = some ch) (hc : ¬ ch < 0 ∧ ¬ (65535 : Int32) < ch) (h8 : cs.length ≤ 8) :
    Con l Z n0 ELs (⟨"java/lang/StringUTF16", "getChar", "([BI)C"⟩ : MethodName) jdk_52_method_5_code 2 (some .char) [] ({ frames := 0, cells := 0, slots := 0, locals := 0 } : Room) #[(.ref t), (.int (Int32.ofNat i))] h0 [] false (fun w h => w = .int ch ∧ h0 = h) := by
  refine con_of (plainFor_of_name pn_2) (fun mt => ef_c_get mt t ((Int32.ofNat i)) ) ?_
  intro K
  have g := b16_get cs i ch hi
  have hlt := (List.getElem?_eq_some_iff.mp hi).1
  refine g_getS d24_0 (w_104 hw) Via.refl hA (pc' := 3) rfl ?_
  refine g_if_ne_t d24_3 (by decide) (pc' := 28) (by decide) rfl ?_
  refine g_iloadN d24_28 rfl (pc' := 29) rfl ?_
  refine g_iconst d24_29 (v := 1) rfl (pc' := 30) rfl ?_
  refine g_ishl d24_30 (v := (Int32.ofNat (2 * i))) (shl1 (by omega)) (pc' := 31) rfl ?_
  refine g_istoreN d24_31 (L' := #[.val (.ref t), .val (.int (Int32.ofNat (2 * i)))]) rfl (pc' := 32) rfl ?_
  refine g_aloadN d24_32 rfl rfl (pc' := 33) rfl ?_
  refine g_iloadN d24_33 rfl (pc' := 34) rfl ?_
  refine g_iinc d24_34 (v := 1) rfl rfl (y := (Int32.ofNat (2 * i + 1))) (ofNat_succ (by omega)) (L' := #[.val (.ref t), .val (.int (Int32.ofNat (2 * i + 1)))]) rfl (pc' := 37) rfl ?_
  refine g_baload d24_37 A (ofNat_lt (n := 2 * i + 1) (by omega) (by omega)).1 (nat32 (by omega)) g.1 (pc' := 38) rfl ?_
  refine g_sipush d24_38 (v := 255) rfl (pc' := 41) rfl ?_
  refine g_iand d24_41 rfl (pc' := 42) rfl ?_
  refine g_getS d24_42 (w_105 hw) Via.refl hH (pc' := 45) rfl ?_
  refine g_ishl d24_45 rfl (pc' := 46) rfl ?_
  refine g_aloadN d24_46 rfl rfl (pc' := 47) rfl ?_
  refine g_iloadN d24_47 rfl (pc' := 48) rfl ?_
  refine g_baload d24_48 A (ofNat_lt (n := 2 * i + 2) (by omega) (by omega)).1 (nat32 (by omega)) g.2 (pc' := 49) rfl ?_
  refine g_sipush d24_49 (v := 255) rfl (pc' := 52) rfl ?_
  refine g_iand d24_52 rfl (pc' := 53) rfl ?_
  refine g_getS d24_53 (w_106 hw) Via.refl hL (pc' := 56) rfl ?_
  refine g_ishl d24_56 rfl (pc' := 57) rfl ?_
  refine g_ior d24_57 rfl (pc' := 58) rfl ?_
  refine g_i2c d24_58 (v := ch) (get16 ch hc).1 (pc' := 59) rfl ?_
  exact g_ireturnN d24_59 rfl (by simp) (get16 ch hc).2 ⟨rfl, rfl⟩ (by decide) (by decide)
theorem ef_c_nbl (m : MethodId) (x0 : Int32)  : entryFrame m #[(.int x0)] 1 = mkF m 0 #[.val (.int x0)] [] := by first | (simp [entryFrame, mkF, argsToLocals, Value.category]; done) | rfl
set_option maxRecDepth 65536 in
set_option maxHeartbeats 40000000 in
theorem c_nbl {l : Launch} {Z : State} {n0 : Nat} {a0 : Array Value} (hw : Hw a0 Z) (n : Nat) (h0 : Heap) (h8 : n ≤ 8) :
    Con l Z n0 ELs (⟨"java/lang/StringUTF16", "newBytesLength", "(I)I"⟩ : MethodName) jdk_52_method_3_code 1 (some .int) [] ({ frames := 0, cells := 0, slots := 0, locals := 0 } : Room) #[(.int (Int32.ofNat n))] h0 [] false (fun w h => w = .int (Int32.ofNat (2 * n)) ∧ h0 = h) := by
  refine con_of (plainFor_of_name pn_2) (fun mt => ef_c_nbl mt ((Int32.ofNat n)) ) ?_
  intro K
  refine g_iloadN d22_0 rfl (pc' := 1) rfl ?_
  refine g_if_ge_t d22_1 (ofNat_le (Nat.le_refl _) (by omega)).1 (pc' := 12) (by decide) rfl ?_
  refine g_iloadN d22_12 rfl (pc' := 13) rfl ?_
  refine g_ldcI d22_13 (w_100 hw) (pc' := 15) rfl ?_
  refine g_icmp_lt_t d22_15 (by rw [Int32.lt_iff_toInt_lt, ofNat_toInt (by omega), show (1073741823 : Int32).toInt = 1073741823 from by decide]; omega) (pc' := 55) (by decide) rfl ?_
  refine g_iloadN d22_55 rfl (pc' := 56) rfl ?_
  refine g_iconst d22_56 (v := 1) rfl (pc' := 57) rfl ?_
  refine g_ishl d22_57 (v := (Int32.ofNat (2 * n))) (shl1 (by omega)) (pc' := 58) rfl ?_
  exact g_ireturn d22_58 rfl ⟨rfl, rfl⟩ (by decide) (by decide)
theorem ef_c_nbf (m : MethodId) (x0 : Int32)  : entryFrame m #[(.int x0)] 1 = mkF m 0 #[.val (.int x0)] [] := by first | (simp [entryFrame, mkF, argsToLocals, Value.category]; done) | rfl
set_option maxRecDepth 65536 in
set_option maxHeartbeats 40000000 in
theorem c_nbf {l : Launch} {Z : State} {n0 : Nat} {a0 : Array Value} (hw : Hw a0 Z) (n : Nat) (h0 : Heap) (h8 : n ≤ 8) :
    Con l Z n0 ELs (⟨"java/lang/StringUTF16", "newBytesFor", "(I)[B"⟩ : MethodName) jdk_52_method_2_code 1 (some (.array .byte)) [] ({ frames := 1, cells := 1, slots := 16, locals := 12 } : Room) #[(.int (Int32.ofNat n))] h0 [] true (fun w h => ∃ t, w = .ref t ∧ h0.size ≤ t ∧ Ia Z h t .byte (List.replicate (2 * n) 0)) := by
  refine con_of (plainFor_of_name pn_2) (fun mt => ef_c_nbf mt ((Int32.ofNat n)) ) ?_
  intro K
  refine g_iloadN d21_0 rfl (pc' := 1) rfl ?_
  refine g_static (W := 0) (argsL := [(.int (Int32.ofNat n))]) (rest := []) d21_1 (w_97 hw) (w_98 hw) (by decide) (lenOf pd_4 rfl) (c_nbl hw n _ h8) (w_99 hw) (w_82 hw) (by decide) (by decide) (fun _ q => nomatch q) rfl (Nat.le_of_eq rfl) rfl (by decide) (by decide) (pc' := 4) rfl ?_
  intro w1 h1 q1 Kc1
  obtain ⟨rfl, rfl⟩ := q1
  refine g_newA d21_4 (w_20 hw) rfl (ofNat_le (Nat.le_refl _) (by omega)).1 (cap := 16) (by rw [nat32 (by omega)]; omega) (by decide) (by decide) (by decide) (pc' := 6) rfl ?_
  intro t h2 g2 Kn2 A_t sz_t
  exact g_areturnF d21_6 rfl rfl rfl ⟨t, rfl, sz_t, by rw [nat32 (by omega)] at A_t; exact A_t⟩ (fun _ _ e => by cases e; exact (List.mem_of_getElem? (i := 0) rfl)) (by decide) (by decide)
theorem ef_c_tob (m : MethodId) (x0 : Addr) (x1 : Int32) (x2 : Int32)  : entryFrame m #[(.ref x0), (.int x1), (.int x2)] 5 = mkF m 0 #[.val (.ref x0), .val (.int x1), .val (.int x2), .unset, .unset] [] := by first | (simp [entryFrame, mkF, argsToLocals, Value.category]; done) | rfl
set_option maxRecDepth 65536 in
set_option maxHeartbeats 40000000 in
theorem c_tob {l : Launch} {Z : State} {n0 : Nat} {a0 : Array Value} (hw : Hw a0 Z) (b : Addr) (cs : List Int32) (h0 : Heap) (hA : Sta Z Z.heap "java/lang/StringUTF16" "$assertionsDisabled" "Z" (.int 1)) (hH : Sta Z Z.heap "java/lang/StringUTF16" "HI_BYTE_SHIFT" "I" (.int 0)) (hL : Sta Z Z.heap "java/lang/StringUTF16" "LO_BYTE_SHIFT" "I" (.int 8)) (A : Ia Z h0 b .char cs) (h8 : cs.length ≤ 8) :
    Con l Z n0 ELs (⟨"java/lang/StringUTF16", "toBytes", "([CII)[B"⟩ : MethodName) jdk_52_method_14_code 5 (some (.array .byte)) [] ({ frames := 2, cells := 1, slots := 16, locals := 30 } : Room) #[(.ref b), (.int 0), (.int (Int32.ofNat cs.length))] h0 [] true (fun w h => ∃ t, w = .ref t ∧ h0.size ≤ t ∧ Ia Z h t .byte (b16 cs)) := by
  refine con_of (plainFor_of_name pn_2) (fun mt => ef_c_tob mt b 0 ((Int32.ofNat cs.length)) ) ?_
  intro K
  refine g_iloadN d20_0 rfl (pc' := 1) rfl ?_
  refine g_static (W := 0) (argsL := [(.int (Int32.ofNat cs.length))]) (rest := []) d20_1 (w_94 hw) (w_95 hw) (by decide) (lenOf pd_5 rfl) (c_nbf hw cs.length _ h8) (w_96 hw) (w_82 hw) (by decide) (by decide) (fun _ q => nomatch q) rfl (Nat.le_of_eq rfl) rfl (by decide) (by decide) (pc' := 4) rfl ?_
  intro w1 h1 q1 Kc1
  obtain ⟨t, rfl, ht, At⟩ := q1
  refine g_astoreN d20_4 rfl (L' := #[.val (.ref b), .val (.int 0), .val (.int (Int32.ofNat cs.length)), .val (.ref t), .unset]) rfl (pc' := 5) rfl ?_
  refine g_iconst d20_5 (v := 0) rfl (pc' := 6) rfl ?_
  refine g_istore d20_6 (L' := #[.val (.ref b), .val (.int 0), .val (.int (Int32.ofNat cs.length)), .val (.ref t), .val (.int 0)]) rfl (pc' := 8) rfl ?_
  have A' := (A.keep Kc1 nin0)
  have hne : b ≠ t := Nat.ne_of_lt (Nat.lt_of_lt_of_le A.lt ht)
  have lp : ∀ (m i : Nat) (h : Heap), i + m = cs.length → Ia Z h b .char cs → Ia Z h t .byte (b16 (cs.take i) ++ List.replicate (2 * m) 0) → Go l Z n0 ELs (⟨"java/lang/StringUTF16", "toBytes", "([CII)[B"⟩ : MethodName) jdk_52_method_14_code 5 (some (.array .byte)) ({ frames := 2, cells := 1, slots := 16, locals := 30 } : Room) h0 [] true (fun w h => ∃ t, w = .ref t ∧ h0.size ≤ t ∧ Ia Z h t .byte (b16 cs)) K [t] h (0 + 1) (0 + 16) 8 #[.val (.ref b), .val (.int (Int32.ofNat i)), .val (.int (Int32.ofNat cs.length)), .val (.ref t), .val (.int (Int32.ofNat i))] [] := by
    intro m
    induction m with
    | zero =>
      intro i h him Ab At
      refine g_iload d20_8 rfl (pc' := 10) rfl ?_
      refine g_iloadN d20_10 rfl (pc' := 11) rfl ?_
      refine g_icmp_ge_t d20_11 (by rw [show i = cs.length by omega]; exact (ofNat_le (Nat.le_refl _) (by omega)).2) (pc' := 32) (by decide) rfl ?_
      refine g_aloadN d20_32 rfl rfl (pc' := 33) rfl ?_
      exact g_areturnF d20_33 rfl rfl rfl ⟨t, rfl, ht, by simpa [show cs.take i = cs from List.take_of_length_le (by omega)] using At⟩ (fun _ _ e => by cases e; exact (List.mem_of_getElem? (i := 0) rfl)) (by decide) (by decide)
    | succ m ih =>
      intro i h him Ab At
      have hlt := ofNat_lt (i := i) (n := cs.length) (by omega) (by omega)
      obtain ⟨ch, hch⟩ : ∃ ch, cs[i]? = some ch := ⟨_, List.getElem?_eq_getElem (by omega)⟩
      refine g_iload d20_8 rfl (pc' := 10) rfl ?_
      refine g_iloadN d20_10 rfl (pc' := 11) rfl ?_
      refine g_icmp_ge_f d20_11 hlt.2.1 (pc' := 14) rfl ?_
      refine g_aloadN d20_14 rfl rfl (pc' := 15) rfl ?_
      refine g_iload d20_15 rfl (pc' := 17) rfl ?_
      refine g_aloadN d20_17 rfl rfl (pc' := 18) rfl ?_
      refine g_iloadN d20_18 rfl (pc' := 19) rfl ?_
      refine g_caload d20_19 Ab hlt.1 hlt.2.2 hch (pc' := 20) rfl ?_
      refine g_staticN (W := 0) (argsL := [(.ref t), (.int (Int32.ofNat i)), (.int ch)]) (rest := []) d20_20 (w_101 hw) (w_102 hw) (by decide) (lenOf pd_6 rfl) (c_put hw t _ i ch _ hA hH hL At (by simp only [List.length_append, List.length_replicate, b16_len, List.length_take]; omega) (by omega)) (w_103 hw) (w_82 hw) (by decide) (by decide) (allS ⟨Or.inr ht, List.mem_of_getElem? (i := 0) rfl⟩ all0) rfl (Nat.le_of_eq rfl) rfl (by decide) (by decide) (pc' := 23) rfl ?_
      intro w1 h1 q1 Kc1
      have At2 := q1
      refine g_iinc d20_23 (v := 1) rfl rfl (y := (Int32.ofNat (i + 1))) (ofNat_succ (by omega)) (L' := #[.val (.ref b), .val (.int (Int32.ofNat (i + 1))), .val (.int (Int32.ofNat cs.length)), .val (.ref t), .val (.int (Int32.ofNat i))]) rfl (pc' := 26) rfl ?_
      refine g_iinc d20_26 (v := 1) rfl rfl (y := (Int32.ofNat (i + 1))) (ofNat_succ (by omega)) (L' := #[.val (.ref b), .val (.int (Int32.ofNat (i + 1))), .val (.int (Int32.ofNat cs.length)), .val (.ref t), .val (.int (Int32.ofNat (i + 1)))]) rfl (pc' := 29) rfl ?_
      refine g_goto d20_29 (pc' := 8) (by decide) rfl ?_
      refine ih (i + 1) _ (by omega) (Ab.keep Kc1 (ninS hne nin0)) ?_
      rw [b16_put cs i m ch hch] at At2; exact At2
  exact lp cs.length 0 _ (by omega) A' (by simpa [b16] using At)
theorem ef_c_cpl (m : MethodId) (x0 : Addr) (x1 : Int32) (x2 : Addr) (x3 : Int32) (x4 : Int32)  : entryFrame m #[(.ref x0), (.int x1), (.ref x2), (.int x3), (.int x4)] 7 = mkF m 0 #[.val (.ref x0), .val (.int x1), .val (.ref x2), .val (.int x3), .val (.int x4), .unset, .unset] [] := by first | (simp [entryFrame, mkF, argsToLocals, Value.category]; done) | rfl
set_option maxRecDepth 65536 in
set_option maxHeartbeats 40000000 in
theorem c_cpl {l : Launch} {Z : State} {n0 : Nat} {a0 : Array Value} (hw : Hw a0 Z) (b d : Addr) (cs : List Int32) (h0 : Heap) (A : Ia Z h0 b .char cs) (Ad : Ia Z h0 d .byte (List.replicate cs.length 0)) (hne : b ≠ d) (h8 : cs.length ≤ 8) :
    Con l Z n0 ELs (⟨"java/lang/StringUTF16", "compress", "([CI[BII)I"⟩ : MethodName) jdk_52_method_21_code 7 (some .int) [] ({ frames := 0, cells := 0, slots := 0, locals := 0 } : Room) #[(.ref b), (.int 0), (.ref d), (.int 0), (.int (Int32.ofNat cs.length))] h0 [d] false (fun w h => (w = .int (Int32.ofNat cs.length) ∧ (∀ c ∈ cs, ¬ (255 : Int32) < c) ∧ Ia Z h d .byte (cs.map bLo)) ∨ ∃ k ch, k < cs.length ∧ w = .int (Int32.ofNat k) ∧ cs[k]? = some ch ∧ 255 < ch) := by
  refine con_of (plainFor_of_name pn_2) (fun mt => ef_c_cpl mt b 0 d 0 ((Int32.ofNat cs.length)) ) ?_
  intro K
  have lp : ∀ (m i : Nat) (h : Heap) (s6 : Slot), One s6 → i + m = cs.length → Ia Z h b .char cs → Ia Z h d .byte ((cs.take i).map bLo ++ List.replicate m 0) → (∀ c ∈ cs.take i, ¬ (255 : Int32) < c) → Go l Z n0 ELs (⟨"java/lang/StringUTF16", "compress", "([CI[BII)I"⟩ : MethodName) jdk_52_method_21_code 7 (some .int) ({ frames := 0, cells := 0, slots := 0, locals := 0 } : Room) h0 [d] false (fun w h => (w = .int (Int32.ofNat cs.length) ∧ (∀ c ∈ cs, ¬ (255 : Int32) < c) ∧ Ia Z h d .byte (cs.map bLo)) ∨ ∃ k ch, k < cs.length ∧ w = .int (Int32.ofNat k) ∧ cs[k]? = some ch ∧ 255 < ch) K [d] h 0 0 3 #[.val (.ref b), .val (.int (Int32.ofNat i)), .val (.ref d), .val (.int (Int32.ofNat i)), .val (.int (Int32.ofNat cs.length)), .val (.int (Int32.ofNat i)), s6] [] := by
    intro m
    induction m with
    | zero =>
      intro i h s6 hs6 him Ab Ad hall
      have ei : cs.take i = cs := List.take_of_length_le (by omega)
      rw [ei] at Ad hall
      refine g_iload d18_3 rfl (pc' := 5) rfl ?_
      refine g_iload d18_5 rfl (pc' := 7) rfl ?_
      refine g_icmp_ge_t d18_7 (by rw [show i = cs.length by omega]; exact (ofNat_le (Nat.le_refl _) (by omega)).2) (pc' := 44) (by decide) rfl ?_
      refine g_iload d18_44 rfl (pc' := 46) rfl ?_
      exact g_ireturn d18_46 rfl (Or.inl ⟨rfl, hall, by simpa using Ad⟩) (by decide) (by decide)
    | succ m ih =>
      intro i h s6 hs6 him Ab Ad hall
      have hlt := ofNat_lt (i := i) (n := cs.length) (by omega) (by omega)
      obtain ⟨ch, hch⟩ : ∃ ch, cs[i]? = some ch := ⟨_, List.getElem?_eq_getElem (by omega)⟩
      refine g_iload d18_3 rfl (pc' := 5) rfl ?_
      refine g_iload d18_5 rfl (pc' := 7) rfl ?_
      refine g_icmp_ge_f d18_7 hlt.2.1 (pc' := 10) rfl ?_
      refine g_aloadN d18_10 rfl rfl (pc' := 11) rfl ?_
      refine g_iloadN d18_11 rfl (pc' := 12) rfl ?_
      refine g_caload d18_12 Ab hlt.1 hlt.2.2 hch (pc' := 13) rfl ?_
      refine g_istore d18_13 (L' := #[.val (.ref b), .val (.int (Int32.ofNat i)), .val (.ref d), .val (.int (Int32.ofNat i)), .val (.int (Int32.ofNat cs.length)), .val (.int (Int32.ofNat i)), .val (.int ch)]) (st_any rfl hs6 rfl rfl) (pc' := 15) rfl ?_
      refine g_iload d18_15 rfl (pc' := 17) rfl ?_
      refine g_sipush d18_17 (v := 255) rfl (pc' := 20) rfl ?_
      by_cases q : 255 < ch
      ·
        refine g_icmp_le_f d18_20 q (pc' := 23) rfl ?_
        refine g_iload d18_23 rfl (pc' := 25) rfl ?_
        exact g_ireturn d18_25 rfl (Or.inr ⟨i, ch, by omega, rfl, hch, q⟩) (by decide) (by decide)
      ·
        refine g_icmp_le_t d18_20 q (pc' := 26) (by decide) rfl ?_
        refine g_aloadN d18_26 rfl rfl (pc' := 27) rfl ?_
        refine g_iloadN d18_27 rfl (pc' := 28) rfl ?_
        refine g_iload d18_28 rfl (pc' := 30) rfl ?_
        refine g_i2b d18_30 rfl (pc' := 31) rfl ?_
        refine g_bastore d18_31 Ad hlt.1 hlt.2.2 (by simp only [List.length_append, List.length_map, List.length_take, List.length_replicate]; omega) (Or.inl (List.mem_of_getElem? (i := 0) rfl)) (List.mem_of_getElem? (i := 0) rfl) (pc' := 32) rfl ?_
        intro h1 Kw1 A_d_1
        refine g_iinc d18_32 (v := 1) rfl rfl (y := (Int32.ofNat (i + 1))) (ofNat_succ (by omega)) (L' := #[.val (.ref b), .val (.int (Int32.ofNat (i + 1))), .val (.ref d), .val (.int (Int32.ofNat i)), .val (.int (Int32.ofNat cs.length)), .val (.int (Int32.ofNat i)), .val (.int ch)]) rfl (pc' := 35) rfl ?_
        refine g_iinc d18_35 (v := 1) rfl rfl (y := (Int32.ofNat (i + 1))) (ofNat_succ (by omega)) (L' := #[.val (.ref b), .val (.int (Int32.ofNat (i + 1))), .val (.ref d), .val (.int (Int32.ofNat (i + 1))), .val (.int (Int32.ofNat cs.length)), .val (.int (Int32.ofNat i)), .val (.int ch)]) rfl (pc' := 38) rfl ?_
        refine g_iinc d18_38 (v := 1) rfl rfl (y := (Int32.ofNat (i + 1))) (ofNat_succ (by omega)) (L' := #[.val (.ref b), .val (.int (Int32.ofNat (i + 1))), .val (.ref d), .val (.int (Int32.ofNat (i + 1))), .val (.int (Int32.ofNat cs.length)), .val (.int (Int32.ofNat (i + 1))), .val (.int ch)]) rfl (pc' := 41) rfl ?_
        refine g_goto d18_41 (pc' := 3) (by decide) rfl ?_
        have et : cs.take (i + 1) = cs.take i ++ [ch] := by rw [List.take_add_one, hch]; rfl
        refine ih (i + 1) _ _ (One.val rfl) (by omega) (Ab.keep Kw1 (ninS hne nin0)) ?_ ?_
        · rw [nar_b] at A_d_1
          have e : ((cs.take i).map bLo ++ List.replicate (m + 1) 0).set i (bLo ch) = (cs.take (i + 1)).map bLo ++ List.replicate m 0 := by
            rw [List.set_append, if_neg (by simp; omega), et]
            simp only [List.length_map, List.length_take, show i - min i cs.length = 0 by omega, List.replicate_succ, List.set_cons_zero, List.map_append, List.map_cons, List.map_nil, List.append_assoc, List.cons_append, List.nil_append]
          exact e ▸ A_d_1
        · intro z hz
          rw [et] at hz
          rcases List.mem_append.mp hz with hz | hz
          · exact hall z hz
          · cases List.mem_singleton.mp hz; exact q
  refine g_iconst d18_0 (v := 0) rfl (pc' := 1) rfl ?_
  refine g_istore d18_1 (L' := #[.val (.ref b), .val (.int 0), .val (.ref d), .val (.int 0), .val (.int (Int32.ofNat cs.length)), .val (.int 0), .unset]) rfl (pc' := 3) rfl ?_
  exact lp cs.length 0 _ _ One.u (by omega) A (by simpa using Ad) (by simp)
theorem ef_c_cpa (m : MethodId) (x0 : Addr) (x1 : Int32) (x2 : Int32)  : entryFrame m #[(.ref x0), (.int x1), (.int x2)] 6 = mkF m 0 #[.val (.ref x0), .val (.int x1), .val (.int x2), .unset, .unset, .unset] [] := by first | (simp [entryFrame, mkF, argsToLocals, Value.category]; done) | rfl
set_option maxRecDepth 65536 in
set_option maxHeartbeats 40000000 in
theorem c_cpa {l : Launch} {Z : State} {n0 : Nat} {a0 : Array Value} (hw : Hw a0 Z) (b : Addr) (cs : List Int32) (h0 : Heap) (hA : Sta Z Z.heap "java/lang/StringUTF16" "$assertionsDisabled" "Z" (.int 1)) (hH : Sta Z Z.heap "java/lang/StringUTF16" "HI_BYTE_SHIFT" "I" (.int 0)) (hL : Sta Z Z.heap "java/lang/StringUTF16" "LO_BYTE_SHIFT" "I" (.int 8)) (A : Ia Z h0 b .char cs) (hcs : ∀ c ∈ cs, ¬ c < 0 ∧ ¬ (65535 : Int32) < c) (h8 : cs.length ≤ 8) :
    Con l Z n0 ELs (⟨"java/lang/StringUTF16", "compress", "([CII)[B"⟩ : MethodName) jdk_52_method_16_code 6 (some (.array .byte)) [] ({ frames := 3, cells := 2, slots := 24, locals := 50 } : Room) #[(.ref b), (.int 0), (.int (Int32.ofNat cs.length))] h0 [] true (fun w h => ∃ t, w = .ref t ∧ h0.size ≤ t ∧ Ia Z h t .byte (enc cs)) := by
  refine con_of (plainFor_of_name pn_2) (fun mt => ef_c_cpa mt b 0 ((Int32.ofNat cs.length)) ) ?_
  intro K
  refine g_iloadN d17_0 rfl (pc' := 1) rfl ?_
  refine g_newA d17_1 (w_20 hw) rfl (ofNat_le (Nat.le_refl _) (by omega)).1 (cap := 8) (by rw [nat32 (by omega)]; omega) (by decide) (by decide) (by decide) (pc' := 3) rfl ?_
  intro d h1 g1 Kn1 A_d sz_d
  rw [nat32 (by omega)] at A_d
  refine g_astoreN d17_3 rfl (L' := #[.val (.ref b), .val (.int 0), .val (.int (Int32.ofNat cs.length)), .val (.ref d), .unset, .unset]) rfl (pc' := 4) rfl ?_
  refine g_aloadN d17_4 rfl rfl (pc' := 5) rfl ?_
  refine g_iloadN d17_5 rfl (pc' := 6) rfl ?_
  refine g_aloadN d17_6 rfl rfl (pc' := 7) rfl ?_
  refine g_iconst d17_7 (v := 0) rfl (pc' := 8) rfl ?_
  refine g_iloadN d17_8 rfl (pc' := 9) rfl ?_
  refine g_static (W := 0) (argsL := [(.ref b), (.int 0), (.ref d), (.int 0), (.int (Int32.ofNat cs.length))]) (rest := []) d17_9 (w_84 hw) (w_85 hw) (by decide) (lenOf pd_7 rfl) (c_cpl hw b d cs _ (A.keep Kn1 nin0) A_d (Nat.ne_of_lt (Nat.lt_of_lt_of_le (A).lt (Nat.le_of_eq g1.symm))) h8) (w_86 hw) (w_82 hw) (by decide) (by decide) (allS ⟨(Or.inr sz_d), (List.mem_of_getElem? (i := 0) rfl)⟩ all0) rfl (Nat.le_of_eq rfl) rfl (by decide) (by decide) (pc' := 12) rfl ?_
  intro w2 h2 q2 Kc2
  rcases q2 with ⟨rfl, hall, Ad⟩ | ⟨k, ch, hk, rfl, hch, h255⟩
  ·
    refine g_istore d17_12 (L' := #[.val (.ref b), .val (.int 0), .val (.int (Int32.ofNat cs.length)), .val (.ref d), .val (.int (Int32.ofNat cs.length)), .unset]) rfl (pc' := 14) rfl ?_
    refine g_iload d17_14 rfl (pc' := 16) rfl ?_
    refine g_iloadN d17_16 rfl (pc' := 17) rfl ?_
    refine g_icmp_eq_t d17_17 rfl (pc' := 57) (by decide) rfl ?_
    refine g_aloadN d17_57 rfl rfl (pc' := 58) rfl ?_
    exact g_areturnF d17_58 rfl rfl rfl ⟨d, rfl, sz_d, by rw [enc, if_pos (lat_map cs hall)]; exact Ad⟩ (fun _ _ e => by cases e; exact (List.mem_of_getElem? (i := 0) rfl)) (by decide) (by decide)
  · refine go_old fun _ hKo => ?_
    have hsz := hKo.1
    refine g_istore d17_12 (L' := #[.val (.ref b), .val (.int 0), .val (.int (Int32.ofNat cs.length)), .val (.ref d), .val (.int (Int32.ofNat k)), .unset]) rfl (pc' := 14) rfl ?_
    refine g_iload d17_14 rfl (pc' := 16) rfl ?_
    refine g_iloadN d17_16 rfl (pc' := 17) rfl ?_
    refine g_icmp_eq_f d17_17 (fun z => absurd ((ofNat_inj (by omega) (by omega)).mp z) (by omega)) (pc' := 20) rfl ?_
    refine g_aloadN d17_20 rfl rfl (pc' := 21) rfl ?_
    refine g_iloadN d17_21 rfl (pc' := 22) rfl ?_
    refine g_iloadN d17_22 rfl (pc' := 23) rfl ?_
    refine g_static (W := 0) (argsL := [(.ref b), (.int 0), (.int (Int32.ofNat cs.length))]) (rest := []) d17_23 (w_91 hw) (w_92 hw) (by decide) (lenOf pd_8 rfl) (c_tob hw b cs _ hA hH hL ((A.keep Kn1 nin0).keep Kc2 (ninS (Nat.ne_of_lt (Nat.lt_of_lt_of_le (A).lt (Nat.le_of_eq g1.symm))) nin0)) h8) (w_93 hw) (w_82 hw) (by decide) (by decide) (fun _ q => nomatch q) rfl (Nat.le_of_eq rfl) rfl (by decide) (by decide) (pc' := 26) rfl ?_
    intro w3 h3 q3 Kc3
    obtain ⟨u, rfl, hu, Au⟩ := q3
    refine g_astore d17_26 rfl (L' := #[.val (.ref b), .val (.int 0), .val (.int (Int32.ofNat cs.length)), .val (.ref d), .val (.int (Int32.ofNat k)), .val (.ref u)]) rfl (pc' := 28) rfl ?_
    refine g_aload d17_28 rfl rfl (pc' := 30) rfl ?_
    refine g_iload d17_30 rfl (pc' := 32) rfl ?_
    refine g_static (W := 0) (argsL := [(.ref u), (.int (Int32.ofNat k))]) (rest := []) d17_32 (w_107 hw) (w_108 hw) (by decide) (lenOf pd_9 rfl) (c_get hw u cs k ch _ hA hH hL Au hch (hcs ch (List.mem_of_getElem? hch)) h8) (w_109 hw) (w_82 hw) (by decide) (by decide) (fun _ q => nomatch q) rfl (Nat.le_of_eq rfl) rfl (by decide) (by decide) (pc' := 35) rfl ?_
    intro w4 h4 q4 Kc4
    obtain ⟨rfl, rfl⟩ := q4
    refine g_sipush d17_35 (v := 255) rfl (pc' := 38) rfl ?_
    refine g_icmp_gt_t d17_38 h255 (pc' := 54) (by decide) rfl ?_
    refine g_aload d17_54 rfl rfl (pc' := 56) rfl ?_
    exact g_areturnF d17_56 rfl rfl rfl ⟨u, rfl, Nat.le_trans hsz hu, by rw [enc, lat_not cs k ch hch h255, if_neg (by decide)]; exact Au⟩ (fun _ _ e => by cases e; exact (List.mem_of_getElem? (i := 0) rfl)) (by decide) (by decide)
theorem ef_c_cfa (m : MethodId) (x0 : Addr) (x1 : Int32)  : entryFrame m #[(.ref x0), (.int x1)] 2 = mkF m 0 #[.val (.ref x0), .val (.int x1)] [] := by first | (simp [entryFrame, mkF, argsToLocals, Value.category]; done) | rfl
set_option maxRecDepth 65536 in
set_option maxHeartbeats 40000000 in
theorem c_cfa {l : Launch} {Z : State} {n0 : Nat} {a0 : Array Value} (hw : Hw a0 Z) (t : Addr) (cs : List Int32) (h0 : Heap) (A : Ia Z h0 t .byte (enc cs)) (hpos : 0 < cs.length) (h8 : cs.length ≤ 8) :
    Con l Z n0 ELs (⟨"java/lang/StringUTF16", "coderFromArrayLen", "([BI)B"⟩ : MethodName) jdk_52_method_15_code 2 (some .byte) [] ({ frames := 0, cells := 0, slots := 0, locals := 0 } : Room) #[(.ref t), (.int (Int32.ofNat cs.length))] h0 [] false (fun w h => w = .int (if lat cs = true then 0 else 1) ∧ h0 = h) := by
  refine con_of (plainFor_of_name pn_2) (fun mt => ef_c_cfa mt t ((Int32.ofNat cs.length)) ) ?_
  intro K
  by_cases q : lat cs = true
  ·
    refine g_iloadN d19_0 rfl (pc' := 1) rfl ?_
    refine g_aloadN d19_1 rfl rfl (pc' := 2) rfl ?_
    refine g_alen d19_2 A (x := (Int32.ofNat cs.length)) (by rw [enc, if_pos q, List.length_map]) (pc' := 3) rfl ?_
    refine g_isub d19_3 rfl (pc' := 4) rfl ?_
    refine g_bipush d19_4 (v := 31) rfl (pc' := 6) rfl ?_
    refine g_iushr d19_6 rfl (pc' := 7) rfl ?_
    refine g_i2b d19_7 (v := 0) (cfa_lat _).1 (pc' := 8) rfl ?_
    exact g_ireturnN d19_8 rfl (by simp) (z := 0) rfl ⟨by rw [if_pos q], rfl⟩ (by decide) (by decide)
  ·
    refine g_iloadN d19_0 rfl (pc' := 1) rfl ?_
    refine g_aloadN d19_1 rfl rfl (pc' := 2) rfl ?_
    refine g_alen d19_2 A (x := (Int32.ofNat (2 * cs.length))) (by rw [enc, if_neg q, b16_len]) (pc' := 3) rfl ?_
    refine g_isub d19_3 rfl (pc' := 4) rfl ?_
    refine g_bipush d19_4 (v := 31) rfl (pc' := 6) rfl ?_
    refine g_iushr d19_6 rfl (pc' := 7) rfl ?_
    refine g_i2b d19_7 (v := 1) (cfa_u16 hpos (by omega)) (pc' := 8) rfl ?_
    exact g_ireturnN d19_8 rfl (by simp) (z := 1) rfl ⟨by rw [if_neg q], rfl⟩ (by decide) (by decide)
theorem ef_c_iv (m : MethodId) (x0 : Addr) (x1 : Addr) (x2 : Int32) (x3 : Int32)  : entryFrame m #[(.ref x0), (.ref x1), (.int x2), (.int x3), .null] 6 = mkF m 0 #[.val (.ref x0), .val (.ref x1), .val (.int x2), .val (.int x3), .val .null, .unset] [] := by first | (simp [entryFrame, mkF, argsToLocals, Value.category]; done) | rfl
set_option maxRecDepth 65536 in
set_option maxHeartbeats 40000000 in
theorem c_iv {l : Launch} {Z : State} {n0 : Nat} {a0 : Array Value} (hw : Hw a0 Z) (x b : Addr) (cs : List Int32) (z : Int32) (u_value u_coder : Value) (h0 : Heap) (hC : Sta Z Z.heap "java/lang/String" "COMPACT_STRINGS" "Z" (.int z)) (hz : ¬ z = 0) (hA : Sta Z Z.heap "java/lang/StringUTF16" "$assertionsDisabled" "Z" (.int 1)) (hH : Sta Z Z.heap "java/lang/StringUTF16" "HI_BYTE_SHIFT" "I" (.int 0)) (hL : Sta Z Z.heap "java/lang/StringUTF16" "LO_BYTE_SHIFT" "I" (.int 8)) (E0 : Exa Z h0 x "java/lang/String") (F_value : Fld Z h0 x "java/lang/String" "value" "[B" u_value) (F_coder : Fld Z h0 x "java/lang/String" "coder" "B" u_coder) (A : Ia Z h0 b .char cs) (hcs : ∀ c ∈ cs, ¬ c < 0 ∧ ¬ (65535 : Int32) < c) (hpos : 0 < cs.length) (h8 : cs.length ≤ 8) :
    Con l Z n0 ELs (⟨"java/lang/String", "<init>", "([CIILjava/lang/Void;)V"⟩ : MethodName) jdk_42_method_149_code 6 none [] ({ frames := 4, cells := 2, slots := 24, locals := 75 } : Room) #[(.ref x), (.ref b), (.int 0), (.int (Int32.ofNat cs.length)), .null] h0 [x] false (fun w h => ∃ t, h0.size ≤ t ∧ Su Z h x t cs) := by
  refine con_of (plainFor_of_name pn_0) (fun mt => ef_c_iv mt x b 0 ((Int32.ofNat cs.length)) ) ?_
  intro K
  refine g_aloadN d8_0 rfl rfl (pc' := 1) rfl ?_
  refine g_initO (W := 0) d8_1 (w_25 hw) (w_26 hw) (w_27 hw) rfl (by decide) (Nat.le_of_eq rfl) (by decide) (pc' := 4) rfl ?_
  refine g_iloadN d8_4 rfl (pc' := 5) rfl ?_
  refine g_if_ne_t d8_5 (fun z => absurd ((ofNat_inj (b := 0) (by omega) (by omega)).mp z) (by omega)) (pc' := 27) (by decide) rfl ?_
  refine g_getS d8_27 (w_10 hw) Via.refl hC (pc' := 30) rfl ?_
  refine g_if_eq_f d8_30 hz (pc' := 33) rfl ?_
  refine g_aloadN d8_33 rfl rfl (pc' := 34) rfl ?_
  refine g_iloadN d8_34 rfl (pc' := 35) rfl ?_
  refine g_iloadN d8_35 rfl (pc' := 36) rfl ?_
  refine g_static (W := 0) (argsL := [(.ref b), (.int 0), (.int (Int32.ofNat cs.length))]) (rest := []) d8_36 (w_80 hw) (w_81 hw) (by decide) (lenOf pd_8 rfl) (c_cpa hw b cs _ hA hH hL A hcs h8) (w_83 hw) (w_82 hw) (by decide) (by decide) (fun _ q => nomatch q) rfl (Nat.le_of_eq rfl) rfl (by decide) (by decide) (pc' := 39) rfl ?_
  intro w1 h1 q1 Kc1
  obtain ⟨t, rfl, ht, At⟩ := q1
  refine g_astore d8_39 rfl (L' := #[.val (.ref x), .val (.ref b), .val (.int 0), .val (.int (Int32.ofNat cs.length)), .val .null, .val (.ref t)]) rfl (pc' := 41) rfl ?_
  refine g_aloadN d8_41 rfl rfl (pc' := 42) rfl ?_
  refine g_aload d8_42 rfl rfl (pc' := 44) rfl ?_
  refine g_iloadN d8_44 rfl (pc' := 45) rfl ?_
  refine g_static (W := 1) (argsL := [(.ref t), (.int (Int32.ofNat cs.length))]) (rest := [(.ref x)]) d8_45 (w_87 hw) (w_88 hw) (by decide) (lenOf pd_10 rfl) (c_cfa hw t cs _ At hpos h8) (w_89 hw) (w_82 hw) (by decide) (by decide) (fun _ q => nomatch q) rfl (Nat.le_of_eq rfl) rfl (by decide) (by decide) (pc' := 48) rfl ?_
  intro w2 h2 q2 Kc2
  obtain ⟨rfl, rfl⟩ := q2
  refine g_putF (ty := .byte) d8_48 (w_30 hw) Via.refl (F_coder.keep Kc1 nin0) (E0.keep Kc1) (Or.inr ⟨(w_31 hw), rfl, rfl⟩) (w_16 hw) (by decide) (v' := (.int (if lat cs = true then 0 else 1))) (by simp only [narrow]; split <;> rfl) (by split <;> rfl) (Or.inl (List.mem_of_getElem? (i := 0) rfl)) (List.mem_of_getElem? (i := 1) rfl) (pc' := 51) rfl ?_
  intro h3 W3
  have Kw3 := Keep.of_wr W3
  have G3_coder := (F_coder.keep Kc1 nin0).same W3
  have G3_value := (F_value.keep Kc1 nin0).other W3 (Or.inr (slot_ne (Or.inr (w_29 hw)) (Or.inr (w_31 hw)) (by decide) (t := (.array .byte)) (t' := .byte) (by decide) (by decide)))
  refine g_aloadN d8_51 rfl rfl (pc' := 52) rfl ?_
  refine g_aload d8_52 rfl rfl (pc' := 54) rfl ?_
  refine g_putF (ty := (.array .byte)) d8_54 (w_28 hw) Via.refl G3_value ((E0.keep Kc1).keep Kw3) (Or.inr ⟨(w_29 hw), rfl, rfl⟩) (w_16 hw) (by decide) rfl rfl (Or.inl (List.mem_of_getElem? (i := 0) rfl)) (List.mem_of_getElem? (i := 1) rfl) (pc' := 57) rfl ?_
  intro h4 W4
  have Kw4 := Keep.of_wr W4
  have G4_value := G3_value.same W4
  have G4_coder := G3_coder.other W4 (Or.inr (slot_ne (Or.inr (w_31 hw)) (Or.inr (w_29 hw)) (by decide) (t := .byte) (t' := (.array .byte)) (by decide) (by decide)))
  exact g_return d8_57 rfl ⟨t, ht, (((E0.keep Kc1).keep Kw3).keep Kw4), G4_coder, G4_value, ((At.keep Kw3 (ninS (Ne.symm (Nat.ne_of_lt (Nat.lt_of_lt_of_le (E0).lt ht))) nin0)).keep Kw4 (ninS (Ne.symm (Nat.ne_of_lt (Nat.lt_of_lt_of_le (E0).lt ht))) nin0)), hcs, h8⟩ (by decide) (by decide)
theorem ef_c_ic (m : MethodId) (x0 : Addr) (x1 : Addr)  : entryFrame m #[(.ref x0), (.ref x1)] 2 = mkF m 0 #[.val (.ref x0), .val (.ref x1)] [] := by first | (simp [entryFrame, mkF, argsToLocals, Value.category]; done) | rfl
set_option maxRecDepth 65536 in
set_option maxHeartbeats 40000000 in
theorem c_ic {l : Launch} {Z : State} {n0 : Nat} {a0 : Array Value} (hw : Hw a0 Z) (x b : Addr) (cs : List Int32) (z : Int32) (u_value u_coder : Value) (h0 : Heap) (hC : Sta Z Z.heap "java/lang/String" "COMPACT_STRINGS" "Z" (.int z)) (hz : ¬ z = 0) (hA : Sta Z Z.heap "java/lang/StringUTF16" "$assertionsDisabled" "Z" (.int 1)) (hH : Sta Z Z.heap "java/lang/StringUTF16" "HI_BYTE_SHIFT" "I" (.int 0)) (hL : Sta Z Z.heap "java/lang/StringUTF16" "LO_BYTE_SHIFT" "I" (.int 8)) (E0 : Exa Z h0 x "java/lang/String") (F_value : Fld Z h0 x "java/lang/String" "value" "[B" u_value) (F_coder : Fld Z h0 x "java/lang/String" "coder" "B" u_coder) (A : Ia Z h0 b .char cs) (hcs : ∀ c ∈ cs, ¬ c < 0 ∧ ¬ (65535 : Int32) < c) (hpos : 0 < cs.length) (h8 : cs.length ≤ 8) :
    Con l Z n0 ELs (⟨"java/lang/String", "<init>", "([C)V"⟩ : MethodName) jdk_42_method_3_code 2 none [] ({ frames := 5, cells := 2, slots := 24, locals := 95 } : Room) #[(.ref x), (.ref b)] h0 [x] false (fun w h => ∃ t, h0.size ≤ t ∧ Su Z h x t cs) := by
  refine con_of (plainFor_of_name pn_0) (fun mt => ef_c_ic mt x b ) ?_
  intro K
  refine g_aloadN d7_0 rfl rfl (pc' := 1) rfl ?_
  refine g_aloadN d7_1 rfl rfl (pc' := 2) rfl ?_
  refine g_iconst d7_2 (v := 0) rfl (pc' := 3) rfl ?_
  refine g_aloadN d7_3 rfl rfl (pc' := 4) rfl ?_
  refine g_alen d7_4 A (x := (Int32.ofNat cs.length)) rfl (pc' := 5) rfl ?_
  refine g_null d7_5 (pc' := 6) rfl ?_
  refine g_init (W := 0) (argsL := [(.ref b), (.int 0), (.int (Int32.ofNat cs.length)), .null]) (rest := []) d7_6 rfl (w_37 hw) (w_38 hw) (by decide) (lenOf pd_3 rfl) (c_iv hw x b cs z _ _ _ hC hz hA hH hL E0 F_value F_coder A hcs hpos h8) (w_39 hw) (w_8 hw) (by decide) (by decide) (allS ⟨(Or.inl (List.mem_of_getElem? (i := 0) rfl)), (List.mem_of_getElem? (i := 0) rfl)⟩ all0) rfl (Nat.le_of_eq rfl) rfl (by decide) (by decide) (pc' := 9) rfl ?_
  intro w1 h1 q1 Kc1
  exact g_return d7_9 rfl q1 (by decide) (by decide)
theorem ef_c_coder (m : MethodId) (x0 : Addr)  : entryFrame m #[(.ref x0)] 1 = mkF m 0 #[.val (.ref x0)] [] := by first | (simp [entryFrame, mkF, argsToLocals, Value.category]; done) | rfl
set_option maxRecDepth 65536 in
set_option maxHeartbeats 40000000 in
theorem c_coder {l : Launch} {Z : State} {n0 : Nat} {a0 : Array Value} (hw : Hw a0 Z) (x : Addr) (cd z : Int32) (h0 : Heap) (hC : Sta Z Z.heap "java/lang/String" "COMPACT_STRINGS" "Z" (.int z)) (hz : ¬ z = 0) (F : Fld Z h0 x "java/lang/String" "coder" "B" (.int cd)) (hcd : nar .byte cd = cd) :
    Con l Z n0 ELs (⟨"java/lang/String", "coder", "()B"⟩ : MethodName) jdk_42_method_152_code 1 (some .byte) [] ({ frames := 0, cells := 0, slots := 0, locals := 0 } : Room) #[(.ref x)] h0 [] false (fun w h => w = .int cd ∧ h0 = h) := by
  refine con_of (plainFor_of_name pn_0) (fun mt => ef_c_coder mt x ) ?_
  intro K
  refine g_getS d12_0 (w_10 hw) Via.refl hC (pc' := 3) rfl ?_
  refine g_if_eq_f d12_3 hz (pc' := 6) rfl ?_
  refine g_aloadN d12_6 rfl rfl (pc' := 7) rfl ?_
  refine g_getF d12_7 (w_30 hw) Via.refl F (pc' := 10) rfl ?_
  refine g_goto d12_10 (pc' := 14) (by decide) rfl ?_
  exact g_ireturnN d12_14 rfl (by simp) hcd ⟨rfl, rfl⟩ (by decide) (by decide)
theorem ef_c_hs (m : MethodId) (x0 : Int32)  : entryFrame m #[(.int x0)] 1 = mkF m 0 #[.val (.int x0)] [] := by first | (simp [entryFrame, mkF, argsToLocals, Value.category]; done) | rfl
set_option maxRecDepth 65536 in
set_option maxHeartbeats 40000000 in
theorem c_hs {l : Launch} {Z : State} {n0 : Nat} {a0 : Array Value} (hw : Hw a0 Z) (ch : Int32) (h0 : Heap)  :
    Con l Z n0 ELs (⟨"java/lang/Character", "isHighSurrogate", "(C)Z"⟩ : MethodName) jdk_89_method_14_code 1 (some .boolean) [] ({ frames := 0, cells := 0, slots := 0, locals := 0 } : Room) #[(.int ch)] h0 [] false (fun w h => w = .int (if isHi ch = true then 1 else 0) ∧ h0 = h) := by
  refine con_of (plainFor_of_name pn_3) (fun mt => ef_c_hs mt ch ) ?_
  intro K
  by_cases q1 : ch < 55296
  ·
    refine g_iloadN d29_0 rfl (pc' := 1) rfl ?_
    refine g_ldcI d29_1 (w_128 hw) (pc' := 3) rfl ?_
    refine g_icmp_lt_t d29_3 q1 (pc' := 16) (by decide) rfl ?_
    refine g_iconst d29_16 (v := 0) rfl (pc' := 17) rfl ?_
    exact g_ireturnN d29_17 rfl (by simp) (z := 0) rfl ⟨by rw [if_neg (by simp [isHi, q1])], rfl⟩ (by decide) (by decide)
  · by_cases q2 : ch < 56320
    · have hb1 : ch < 56320 := q2
      refine g_iloadN d29_0 rfl (pc' := 1) rfl ?_
      refine g_ldcI d29_1 (w_128 hw) (pc' := 3) rfl ?_
      refine g_icmp_lt_f d29_3 q1 (pc' := 6) rfl ?_
      refine g_iloadN d29_6 rfl (pc' := 7) rfl ?_
      refine g_ldcI d29_7 (w_129 hw) (pc' := 9) rfl ?_
      refine g_icmp_ge_f d29_9 (hb1) (pc' := 12) rfl ?_
      refine g_iconst d29_12 (v := 1) rfl (pc' := 13) rfl ?_
      refine g_goto d29_13 (pc' := 17) (by decide) rfl ?_
      exact g_ireturnN d29_17 rfl (by simp) (z := 1) rfl ⟨by rw [if_pos (by simp only [isHi, decide_eq_true_eq]; exact ⟨q1, q2⟩)], rfl⟩ (by decide) (by decide)
    · have hb2 : ¬ ch < 56320 := q2
      refine g_iloadN d29_0 rfl (pc' := 1) rfl ?_
      refine g_ldcI d29_1 (w_128 hw) (pc' := 3) rfl ?_
      refine g_icmp_lt_f d29_3 q1 (pc' := 6) rfl ?_
      refine g_iloadN d29_6 rfl (pc' := 7) rfl ?_
      refine g_ldcI d29_7 (w_129 hw) (pc' := 9) rfl ?_
      refine g_icmp_ge_t d29_9 hb2 (pc' := 16) (by decide) rfl ?_
      refine g_iconst d29_16 (v := 0) rfl (pc' := 17) rfl ?_
      exact g_ireturnN d29_17 rfl (by simp) (z := 0) rfl ⟨by rw [if_neg (by simp only [isHi, decide_eq_true_eq]; exact fun z => q2 z.2)], rfl⟩ (by decide) (by decide)
theorem ef_c_ls (m : MethodId) (x0 : Int32)  : entryFrame m #[(.int x0)] 1 = mkF m 0 #[.val (.int x0)] [] := by first | (simp [entryFrame, mkF, argsToLocals, Value.category]; done) | rfl
set_option maxRecDepth 65536 in
set_option maxHeartbeats 40000000 in
theorem c_ls {l : Launch} {Z : State} {n0 : Nat} {a0 : Array Value} (hw : Hw a0 Z) (ch : Int32) (h0 : Heap)  :
    Con l Z n0 ELs (⟨"java/lang/Character", "isLowSurrogate", "(C)Z"⟩ : MethodName) jdk_89_method_15_code 1 (some .boolean) [] ({ frames := 0, cells := 0, slots := 0, locals := 0 } : Room) #[(.int ch)] h0 [] false (fun w h => w = .int (if isLo ch = true then 1 else 0) ∧ h0 = h) := by
  refine con_of (plainFor_of_name pn_3) (fun mt => ef_c_ls mt ch ) ?_
  intro K
  by_cases q1 : ch < 56320
  ·
    refine g_iloadN d30_0 rfl (pc' := 1) rfl ?_
    refine g_ldcI d30_1 (w_129 hw) (pc' := 3) rfl ?_
    refine g_icmp_lt_t d30_3 q1 (pc' := 16) (by decide) rfl ?_
    refine g_iconst d30_16 (v := 0) rfl (pc' := 17) rfl ?_
    exact g_ireturnN d30_17 rfl (by simp) (z := 0) rfl ⟨by rw [if_neg (by simp [isLo, q1])], rfl⟩ (by decide) (by decide)
  · by_cases q2 : ch < 57344
    · have hb1 : ch < 57344 := q2
      refine g_iloadN d30_0 rfl (pc' := 1) rfl ?_
      refine g_ldcI d30_1 (w_129 hw) (pc' := 3) rfl ?_
      refine g_icmp_lt_f d30_3 q1 (pc' := 6) rfl ?_
      refine g_iloadN d30_6 rfl (pc' := 7) rfl ?_
      refine g_ldcI d30_7 (w_134 hw) (pc' := 9) rfl ?_
      refine g_icmp_ge_f d30_9 (hb1) (pc' := 12) rfl ?_
      refine g_iconst d30_12 (v := 1) rfl (pc' := 13) rfl ?_
      refine g_goto d30_13 (pc' := 17) (by decide) rfl ?_
      exact g_ireturnN d30_17 rfl (by simp) (z := 1) rfl ⟨by rw [if_pos (by simp only [isLo, decide_eq_true_eq]; exact ⟨q1, q2⟩)], rfl⟩ (by decide) (by decide)
    · have hb2 : ¬ ch < 57344 := q2
      refine g_iloadN d30_0 rfl (pc' := 1) rfl ?_
      refine g_ldcI d30_1 (w_129 hw) (pc' := 3) rfl ?_
      refine g_icmp_lt_f d30_3 q1 (pc' := 6) rfl ?_
      refine g_iloadN d30_6 rfl (pc' := 7) rfl ?_
      refine g_ldcI d30_7 (w_134 hw) (pc' := 9) rfl ?_
      refine g_icmp_ge_t d30_9 hb2 (pc' := 16) (by decide) rfl ?_
      refine g_iconst d30_16 (v := 0) rfl (pc' := 17) rfl ?_
      exact g_ireturnN d30_17 rfl (by simp) (z := 0) rfl ⟨by rw [if_neg (by simp only [isLo, decide_eq_true_eq]; exact fun z => q2 z.2)], rfl⟩ (by decide) (by decide)
theorem ef_c_ih (m : MethodId) (x0 : Int32)  : entryFrame m #[(.int x0)] 1 = mkF m 0 #[.val (.int x0)] [] := by first | (simp [entryFrame, mkF, argsToLocals, Value.category]; done) | rfl
set_option maxRecDepth 65536 in
set_option maxHeartbeats 40000000 in
theorem c_ih {l : Launch} {Z : State} {n0 : Nat} {a0 : Array Value} (hw : Hw a0 Z) (ch : Int32) (h0 : Heap)  :
    Con l Z n0 ELs (⟨"com/example/saale/saale/protocol/LengthsAtMostPinLaw", "high", "(C)Z"⟩ : MethodName) method_3_code 1 (some .boolean) [] ({ frames := 0, cells := 0, slots := 0, locals := 0 } : Room) #[(.int ch)] h0 [] false (fun w h => w = .int (if isHi ch = true then 1 else 0) ∧ h0 = h) := by
  refine con_of (plainFor_of_name pn_4) (fun mt => ef_c_ih mt ch ) ?_
  intro K
  by_cases q1 : ch < 55296
  ·
    refine g_iloadN d25_0 rfl (pc' := 1) rfl ?_
    refine g_ldcI d25_1 (w_90 hw) (pc' := 3) rfl ?_
    refine g_icmp_lt_t d25_3 q1 (pc' := 16) (by decide) rfl ?_
    refine g_iconst d25_16 (v := 0) rfl (pc' := 17) rfl ?_
    exact g_ireturnN d25_17 rfl (by simp) (z := 0) rfl ⟨by rw [if_neg (by simp [isHi, q1])], rfl⟩ (by decide) (by decide)
  · by_cases q2 : ch < 56320
    · have hb1 : ¬ (56319 : Int32) < ch := by
        rw [Int32.lt_iff_toInt_lt] at q2 ⊢
        have e1 : (56319 : Int32).toInt = 56319 := by decide
        have e2 : (56320 : Int32).toInt = 56320 := by decide
        omega
      refine g_iloadN d25_0 rfl (pc' := 1) rfl ?_
      refine g_ldcI d25_1 (w_90 hw) (pc' := 3) rfl ?_
      refine g_icmp_lt_f d25_3 q1 (pc' := 6) rfl ?_
      refine g_iloadN d25_6 rfl (pc' := 7) rfl ?_
      refine g_ldcI d25_7 (w_113 hw) (pc' := 9) rfl ?_
      refine g_icmp_gt_f d25_9 (hb1) (pc' := 12) rfl ?_
      refine g_iconst d25_12 (v := 1) rfl (pc' := 13) rfl ?_
      refine g_goto d25_13 (pc' := 17) (by decide) rfl ?_
      exact g_ireturnN d25_17 rfl (by simp) (z := 1) rfl ⟨by rw [if_pos (by simp only [isHi, decide_eq_true_eq]; exact ⟨q1, q2⟩)], rfl⟩ (by decide) (by decide)
    · have hb2 : (56319 : Int32) < ch := by
        rw [Int32.lt_iff_toInt_lt] at q2 ⊢
        have e1 : (56319 : Int32).toInt = 56319 := by decide
        have e2 : (56320 : Int32).toInt = 56320 := by decide
        omega
      refine g_iloadN d25_0 rfl (pc' := 1) rfl ?_
      refine g_ldcI d25_1 (w_90 hw) (pc' := 3) rfl ?_
      refine g_icmp_lt_f d25_3 q1 (pc' := 6) rfl ?_
      refine g_iloadN d25_6 rfl (pc' := 7) rfl ?_
      refine g_ldcI d25_7 (w_113 hw) (pc' := 9) rfl ?_
      refine g_icmp_gt_t d25_9 hb2 (pc' := 16) (by decide) rfl ?_
      refine g_iconst d25_16 (v := 0) rfl (pc' := 17) rfl ?_
      exact g_ireturnN d25_17 rfl (by simp) (z := 0) rfl ⟨by rw [if_neg (by simp only [isHi, decide_eq_true_eq]; exact fun z => q2 z.2)], rfl⟩ (by decide) (by decide)
theorem ef_c_il (m : MethodId) (x0 : Int32)  : entryFrame m #[(.int x0)] 1 = mkF m 0 #[.val (.int x0)] [] := by first | (simp [entryFrame, mkF, argsToLocals, Value.category]; done) | rfl
set_option maxRecDepth 65536 in
set_option maxHeartbeats 40000000 in
theorem c_il {l : Launch} {Z : State} {n0 : Nat} {a0 : Array Value} (hw : Hw a0 Z) (ch : Int32) (h0 : Heap)  :
    Con l Z n0 ELs (⟨"com/example/saale/saale/protocol/LengthsAtMostPinLaw", "low", "(C)Z"⟩ : MethodName) method_4_code 1 (some .boolean) [] ({ frames := 0, cells := 0, slots := 0, locals := 0 } : Room) #[(.int ch)] h0 [] false (fun w h => w = .int (if isLo ch = true then 1 else 0) ∧ h0 = h) := by
  refine con_of (plainFor_of_name pn_4) (fun mt => ef_c_il mt ch ) ?_
  intro K
  by_cases q1 : ch < 56320
  ·
    refine g_iloadN d26_0 rfl (pc' := 1) rfl ?_
    refine g_ldcI d26_1 (w_117 hw) (pc' := 3) rfl ?_
    refine g_icmp_lt_t d26_3 q1 (pc' := 16) (by decide) rfl ?_
    refine g_iconst d26_16 (v := 0) rfl (pc' := 17) rfl ?_
    exact g_ireturnN d26_17 rfl (by simp) (z := 0) rfl ⟨by rw [if_neg (by simp [isLo, q1])], rfl⟩ (by decide) (by decide)
  · by_cases q2 : ch < 57344
    · have hb1 : ¬ (57343 : Int32) < ch := by
        rw [Int32.lt_iff_toInt_lt] at q2 ⊢
        have e1 : (57343 : Int32).toInt = 57343 := by decide
        have e2 : (57344 : Int32).toInt = 57344 := by decide
        omega
      refine g_iloadN d26_0 rfl (pc' := 1) rfl ?_
      refine g_ldcI d26_1 (w_117 hw) (pc' := 3) rfl ?_
      refine g_icmp_lt_f d26_3 q1 (pc' := 6) rfl ?_
      refine g_iloadN d26_6 rfl (pc' := 7) rfl ?_
      refine g_ldcI d26_7 (w_133 hw) (pc' := 9) rfl ?_
      refine g_icmp_gt_f d26_9 (hb1) (pc' := 12) rfl ?_
      refine g_iconst d26_12 (v := 1) rfl (pc' := 13) rfl ?_
      refine g_goto d26_13 (pc' := 17) (by decide) rfl ?_
      exact g_ireturnN d26_17 rfl (by simp) (z := 1) rfl ⟨by rw [if_pos (by simp only [isLo, decide_eq_true_eq]; exact ⟨q1, q2⟩)], rfl⟩ (by decide) (by decide)
    · have hb2 : (57343 : Int32) < ch := by
        rw [Int32.lt_iff_toInt_lt] at q2 ⊢
        have e1 : (57343 : Int32).toInt = 57343 := by decide
        have e2 : (57344 : Int32).toInt = 57344 := by decide
        omega
      refine g_iloadN d26_0 rfl (pc' := 1) rfl ?_
      refine g_ldcI d26_1 (w_117 hw) (pc' := 3) rfl ?_
      refine g_icmp_lt_f d26_3 q1 (pc' := 6) rfl ?_
      refine g_iloadN d26_6 rfl (pc' := 7) rfl ?_
      refine g_ldcI d26_7 (w_133 hw) (pc' := 9) rfl ?_
      refine g_icmp_gt_t d26_9 hb2 (pc' := 16) (by decide) rfl ?_
      refine g_iconst d26_16 (v := 0) rfl (pc' := 17) rfl ?_
      exact g_ireturnN d26_17 rfl (by simp) (z := 0) rfl ⟨by rw [if_neg (by simp only [isLo, decide_eq_true_eq]; exact fun z => q2 z.2)], rfl⟩ (by decide) (by decide)
theorem ef_c_ulen (m : MethodId) (x0 : Addr)  : entryFrame m #[(.ref x0)] 1 = mkF m 0 #[.val (.ref x0)] [] := by first | (simp [entryFrame, mkF, argsToLocals, Value.category]; done) | rfl
set_option maxRecDepth 65536 in
set_option maxHeartbeats 40000000 in
theorem c_ulen {l : Launch} {Z : State} {n0 : Nat} {a0 : Array Value} (hw : Hw a0 Z) (x t : Addr) (cs : List Int32) (z : Int32) (h0 : Heap) (hC : Sta Z Z.heap "java/lang/String" "COMPACT_STRINGS" "Z" (.int z)) (hz : ¬ z = 0) (S : Su Z h0 x t cs) :
    Con l Z n0 ELs (⟨"java/lang/String", "length", "()I"⟩ : MethodName) jdk_42_method_54_code 1 (some .int) [] ({ frames := 1, cells := 0, slots := 0, locals := 13 } : Room) #[(.ref x)] h0 [] false (fun w h => w = .int (Int32.ofNat cs.length) ∧ h0 = h) := by
  refine con_of (plainFor_of_name pn_0) (fun mt => ef_c_ulen mt x ) ?_
  intro K
  have h8 := S.2.2.2.2.2
  by_cases q : lat cs = true
  ·
    refine g_aloadN d11_0 rfl rfl (pc' := 1) rfl ?_
    refine g_getF d11_1 (w_28 hw) Via.refl S.2.2.1 (pc' := 4) rfl ?_
    refine g_alen d11_4 S.2.2.2.1 (x := (Int32.ofNat cs.length)) (by rw [enc, if_pos q, List.length_map]) (pc' := 5) rfl ?_
    refine g_aloadN d11_5 rfl rfl (pc' := 6) rfl ?_
    refine g_virt (W := 1) (argsL := []) (rest := [(.int (Int32.ofNat cs.length))]) d11_6 (w_56 hw) (w_57 hw) (nf_self (w_59 hw)) (w_59 hw) (w_58 hw) (by decide) (lenOf pd_11 rfl) S.1 (c_coder hw x 0 z _ hC hz (by have q2 := S.2.1; rw [if_pos q] at q2; exact q2) rfl) (w_60 hw) (w_8 hw) (by decide) (by decide) (fun _ q => nomatch q) rfl (Nat.le_of_eq rfl) rfl (by decide) (by decide) (pc' := 9) rfl ?_
    intro w1 h1 q1 Kc1
    obtain ⟨rfl, rfl⟩ := q1
    refine g_ishr d11_9 (v := (Int32.ofNat cs.length)) (shr0 _) (pc' := 10) rfl ?_
    exact g_ireturn d11_10 rfl ⟨rfl, rfl⟩ (by decide) (by decide)
  ·
    refine g_aloadN d11_0 rfl rfl (pc' := 1) rfl ?_
    refine g_getF d11_1 (w_28 hw) Via.refl S.2.2.1 (pc' := 4) rfl ?_
    refine g_alen d11_4 S.2.2.2.1 (x := (Int32.ofNat (2 * cs.length))) (by rw [enc, if_neg q, b16_len]) (pc' := 5) rfl ?_
    refine g_aloadN d11_5 rfl rfl (pc' := 6) rfl ?_
    refine g_virt (W := 1) (argsL := []) (rest := [(.int (Int32.ofNat (2 * cs.length)))]) d11_6 (w_56 hw) (w_57 hw) (nf_self (w_59 hw)) (w_59 hw) (w_58 hw) (by decide) (lenOf pd_11 rfl) S.1 (c_coder hw x 1 z _ hC hz (by have q2 := S.2.1; rw [if_neg q] at q2; exact q2) rfl) (w_60 hw) (w_8 hw) (by decide) (by decide) (fun _ q => nomatch q) rfl (Nat.le_of_eq rfl) rfl (by decide) (by decide) (pc' := 9) rfl ?_
    intro w2 h2 q2 Kc2
    obtain ⟨rfl, rfl⟩ := q2
    refine g_ishr d11_9 (v := (Int32.ofNat cs.length)) (shr1 (by omega)) (pc' := 10) rfl ?_
    exact g_ireturn d11_10 rfl ⟨rfl, rfl⟩ (by decide) (by decide)
theorem ef_c_ulat (m : MethodId) (x0 : Addr)  : entryFrame m #[(.ref x0)] 1 = mkF m 0 #[.val (.ref x0)] [] := by first | (simp [entryFrame, mkF, argsToLocals, Value.category]; done) | rfl
set_option maxRecDepth 65536 in
set_option maxHeartbeats 40000000 in
theorem c_ulat {l : Launch} {Z : State} {n0 : Nat} {a0 : Array Value} (hw : Hw a0 Z) (x : Addr) (cs : List Int32) (z : Int32) (h0 : Heap) (hC : Sta Z Z.heap "java/lang/String" "COMPACT_STRINGS" "Z" (.int z)) (hz : ¬ z = 0) (F : Fld Z h0 x "java/lang/String" "coder" "B" (.int (if lat cs = true then 0 else 1))) :
    Con l Z n0 ELs (⟨"java/lang/String", "isLatin1", "()Z"⟩ : MethodName) jdk_42_method_154_code 1 (some .boolean) [] ({ frames := 0, cells := 0, slots := 0, locals := 0 } : Room) #[(.ref x)] h0 [] false (fun w h => w = .int (if lat cs = true then 1 else 0) ∧ h0 = h) := by
  refine con_of (plainFor_of_name pn_0) (fun mt => ef_c_ulat mt x ) ?_
  intro K
  by_cases q : lat cs = true
  ·
    refine g_getS d16_0 (w_10 hw) Via.refl hC (pc' := 3) rfl ?_
    refine g_if_eq_f d16_3 hz (pc' := 6) rfl ?_
    refine g_aloadN d16_6 rfl rfl (pc' := 7) rfl ?_
    refine g_getF d16_7 (w_30 hw) Via.refl F (pc' := 10) rfl ?_
    refine g_if_ne_f d16_10 (if_pos q) (pc' := 13) rfl ?_
    refine g_iconst d16_13 (v := 1) rfl (pc' := 14) rfl ?_
    refine g_goto d16_14 (pc' := 18) (by decide) rfl ?_
    exact g_ireturnN d16_18 rfl (by simp) (z := 1) rfl ⟨by rw [if_pos q], rfl⟩ (by decide) (by decide)
  ·
    refine g_getS d16_0 (w_10 hw) Via.refl hC (pc' := 3) rfl ?_
    refine g_if_eq_f d16_3 hz (pc' := 6) rfl ?_
    refine g_aloadN d16_6 rfl rfl (pc' := 7) rfl ?_
    refine g_getF d16_7 (w_30 hw) Via.refl F (pc' := 10) rfl ?_
    refine g_if_ne_t d16_10 (by rw [if_neg q]; decide) (pc' := 17) (by decide) rfl ?_
    refine g_iconst d16_17 (v := 0) rfl (pc' := 18) rfl ?_
    exact g_ireturnN d16_18 rfl (by simp) (z := 0) rfl ⟨by rw [if_neg q], rfl⟩ (by decide) (by decide)
theorem ef_c_cp4 (m : MethodId) (x0 : Addr) (x1 : Int32) (x2 : Int32) (x3 : Int32)  : entryFrame m #[(.ref x0), (.int x1), (.int x2), (.int x3)] 6 = mkF m 0 #[.val (.ref x0), .val (.int x1), .val (.int x2), .val (.int x3), .unset, .unset] [] := by first | (simp [entryFrame, mkF, argsToLocals, Value.category]; done) | rfl
set_option maxRecDepth 65536 in
set_option maxHeartbeats 40000000 in
theorem c_cp4 {l : Launch} {Z : State} {n0 : Nat} {a0 : Array Value} (hw : Hw a0 Z) (t : Addr) (cs : List Int32) (h0 : Heap) (hA : Sta Z Z.heap "java/lang/StringUTF16" "$assertionsDisabled" "Z" (.int 1)) (hH : Sta Z Z.heap "java/lang/StringUTF16" "HI_BYTE_SHIFT" "I" (.int 0)) (hL : Sta Z Z.heap "java/lang/StringUTF16" "LO_BYTE_SHIFT" "I" (.int 8)) (A : Ia Z h0 t .byte (b16 cs)) (hcs : ∀ c ∈ cs, ¬ c < 0 ∧ ¬ (65535 : Int32) < c) (hpos : 0 < cs.length) (h8 : cs.length ≤ 8) :
    Con l Z n0 ELs (⟨"java/lang/StringUTF16", "codePointCount", "([BIIZ)I"⟩ : MethodName) jdk_52_method_11_code 6 (some .int) [] ({ frames := 1, cells := 0, slots := 0, locals := 20 } : Room) #[(.ref t), (.int 0), (.int (Int32.ofNat cs.length)), (.int 0)] h0 [] false (fun w h => w = .int (Int32.ofNat (cs.length - cpc cs cs.length 0)) ∧ h0 = h) := by
  refine con_of (plainFor_of_name pn_2) (fun mt => ef_c_cp4 mt t 0 ((Int32.ofNat cs.length)) 0 ) ?_
  intro K
  have lp : ∀ (m i n : Nat), cs.length ≤ i + m → i ≤ cs.length → n ≤ cs.length → cpc cs m i ≤ n → n - cpc cs m i = cs.length - cpc cs cs.length 0 → Go l Z n0 ELs (⟨"java/lang/StringUTF16", "codePointCount", "([BIIZ)I"⟩ : MethodName) jdk_52_method_11_code 6 (some .int) ({ frames := 1, cells := 0, slots := 0, locals := 20 } : Room) h0 [] false (fun w h => w = .int (Int32.ofNat (cs.length - cpc cs cs.length 0)) ∧ h0 = h) K [] h0 0 0 44 #[.val (.ref t), .val (.int 0), .val (.int (Int32.ofNat cs.length)), .val (.int 0), .val (.int (Int32.ofNat n)), .val (.int (Int32.ofNat i))] [] := by
    intro m
    induction m with
    | zero =>
      intro i n him hil hnl hle hN
      refine g_iload d28_44 rfl (pc' := 46) rfl ?_
      refine g_iloadN d28_46 rfl (pc' := 47) rfl ?_
      refine g_iconst d28_47 (v := 1) rfl (pc' := 48) rfl ?_
      refine g_isub d28_48 (v := (Int32.ofNat (cs.length - 1))) (ofNat_pred hpos (by omega)) (pc' := 49) rfl ?_
      refine g_icmp_ge_t d28_49 (by rw [Int32.lt_iff_toInt_lt, ofNat_toInt (by omega), ofNat_toInt (by omega)]; omega) (pc' := 88) (by decide) rfl ?_
      refine g_iload d28_88 rfl (pc' := 90) rfl ?_
      exact g_ireturn d28_90 rfl ⟨by rw [← hN]; simp [cpc], rfl⟩ (by decide) (by decide)
    | succ m ih =>
      intro i n him hil hnl hle hN
      rw [cpc] at hle hN
      refine g_iload d28_44 rfl (pc' := 46) rfl ?_
      refine g_iloadN d28_46 rfl (pc' := 47) rfl ?_
      refine g_iconst d28_47 (v := 1) rfl (pc' := 48) rfl ?_
      refine g_isub d28_48 (v := (Int32.ofNat (cs.length - 1))) (ofNat_pred hpos (by omega)) (pc' := 49) rfl ?_
      by_cases q : i + 1 < cs.length
      · rw [if_pos q] at hle hN
        obtain ⟨c1, hc1⟩ : ∃ ch, cs[i]? = some ch := ⟨_, List.getElem?_eq_getElem (by omega)⟩
        obtain ⟨c2, hc2⟩ : ∃ ch, cs[i + 1]? = some ch := ⟨_, List.getElem?_eq_getElem (by omega)⟩
        refine g_icmp_ge_f d28_49 (by rw [Int32.lt_iff_toInt_lt, ofNat_toInt (by omega), ofNat_toInt (by omega)]; omega) (pc' := 52) rfl ?_
        refine g_aloadN d28_52 rfl rfl (pc' := 53) rfl ?_
        refine g_iload d28_53 rfl (pc' := 55) rfl ?_
        refine g_iinc d28_55 (v := 1) rfl rfl (y := (Int32.ofNat (i + 1))) (ofNat_succ (by omega)) (L' := #[.val (.ref t), .val (.int 0), .val (.int (Int32.ofNat cs.length)), .val (.int 0), .val (.int (Int32.ofNat n)), .val (.int (Int32.ofNat (i + 1)))]) rfl (pc' := 58) rfl ?_
        refine g_static (W := 0) (argsL := [(.ref t), (.int (Int32.ofNat i))]) (rest := []) d28_58 (w_107 hw) (w_108 hw) (by decide) (lenOf pd_9 rfl) (c_get hw t cs i c1 _ hA hH hL A hc1 (hcs c1 (List.mem_of_getElem? hc1)) h8) (w_109 hw) (w_82 hw) (by decide) (by decide) (fun _ q => nomatch q) rfl (Nat.le_of_eq rfl) rfl (by decide) (by decide) (pc' := 61) rfl ?_
        intro w1 h1 q1 Kc1
        obtain ⟨rfl, rfl⟩ := q1
        refine g_static (W := 0) (argsL := [(.int c1)]) (rest := []) d28_61 (w_124 hw) (w_125 hw) (by decide) (lenOf pd_0 rfl) (c_hs hw c1 _) (w_127 hw) (w_126 hw) (by decide) (by decide) (fun _ q => nomatch q) rfl (Nat.le_of_eq rfl) rfl (by decide) (by decide) (pc' := 64) rfl ?_
        intro w2 h2 q2 Kc2
        obtain ⟨rfl, rfl⟩ := q2
        by_cases q1 : isHi c1 = true
        ·
          refine g_if_eq_f d28_64 (by rw [if_pos q1]; decide) (pc' := 67) rfl ?_
          refine g_aloadN d28_67 rfl rfl (pc' := 68) rfl ?_
          refine g_iload d28_68 rfl (pc' := 70) rfl ?_
          refine g_static (W := 0) (argsL := [(.ref t), (.int (Int32.ofNat (i + 1)))]) (rest := []) d28_70 (w_107 hw) (w_108 hw) (by decide) (lenOf pd_9 rfl) (c_get hw t cs (i + 1) c2 _ hA hH hL A hc2 (hcs c2 (List.mem_of_getElem? hc2)) h8) (w_109 hw) (w_82 hw) (by decide) (by decide) (fun _ q => nomatch q) rfl (Nat.le_of_eq rfl) rfl (by decide) (by decide) (pc' := 73) rfl ?_
          intro w3 h3 q3 Kc3
          obtain ⟨rfl, rfl⟩ := q3
          refine g_static (W := 0) (argsL := [(.int c2)]) (rest := []) d28_73 (w_130 hw) (w_131 hw) (by decide) (lenOf pd_0 rfl) (c_ls hw c2 _) (w_132 hw) (w_126 hw) (by decide) (by decide) (fun _ q => nomatch q) rfl (Nat.le_of_eq rfl) rfl (by decide) (by decide) (pc' := 76) rfl ?_
          intro w4 h4 q4 Kc4
          obtain ⟨rfl, rfl⟩ := q4
          by_cases q2 : isLo c2 = true
          · have hps : ps cs i = true := by simp only [ps, hc1, hc2, q1, q2]; rfl
            rw [if_pos hps] at hle hN
            refine g_if_eq_f d28_76 (by rw [if_pos q2]; decide) (pc' := 79) rfl ?_
            refine g_iinc d28_79 (v := (-1)) rfl rfl (y := (Int32.ofNat (n - 1))) (ofNat_pred' (by omega) (by omega)) (L' := #[.val (.ref t), .val (.int 0), .val (.int (Int32.ofNat cs.length)), .val (.int 0), .val (.int (Int32.ofNat (n - 1))), .val (.int (Int32.ofNat (i + 1)))]) rfl (pc' := 82) rfl ?_
            refine g_iinc d28_82 (v := 1) rfl rfl (y := (Int32.ofNat (i + 2))) (ofNat_succ (by omega)) (L' := #[.val (.ref t), .val (.int 0), .val (.int (Int32.ofNat cs.length)), .val (.int 0), .val (.int (Int32.ofNat (n - 1))), .val (.int (Int32.ofNat (i + 2)))]) rfl (pc' := 85) rfl ?_
            refine g_goto d28_85 (pc' := 44) (by decide) rfl ?_
            exact ih (i + 2) (n - 1) (by omega) (by omega) (by omega) (by omega) (by omega)
          ·
            refine g_if_eq_t d28_76 (if_neg q2) (pc' := 44) (by decide) rfl ?_
            have hps : ¬ ps cs i = true := by simp only [ps, hc1, hc2, q1, Bool.true_and]; exact q2
            rw [if_neg hps] at hle hN
            exact ih (i + 1) n (by omega) (by omega) hnl hle hN
        ·
          refine g_if_eq_t d28_64 (if_neg q1) (pc' := 44) (by decide) rfl ?_
          have hps : ¬ ps cs i = true := by simp only [ps, hc1, hc2]; simp [q1]
          rw [if_neg hps] at hle hN
          exact ih (i + 1) n (by omega) (by omega) hnl hle hN
      ·
        refine g_icmp_ge_t d28_49 (by rw [Int32.lt_iff_toInt_lt, ofNat_toInt (by omega), ofNat_toInt (by omega)]; omega) (pc' := 88) (by decide) rfl ?_
        refine g_iload d28_88 rfl (pc' := 90) rfl ?_
        exact g_ireturn d28_90 rfl ⟨by rw [if_neg q] at hN; rw [← hN]; simp, rfl⟩ (by decide) (by decide)
  refine g_getS d28_0 (w_104 hw) Via.refl hA (pc' := 3) rfl ?_
  refine g_if_ne_t d28_3 (by decide) (pc' := 19) (by decide) rfl ?_
  refine g_iloadN d28_19 rfl (pc' := 20) rfl ?_
  refine g_iloadN d28_20 rfl (pc' := 21) rfl ?_
  refine g_isub d28_21 (v := (Int32.ofNat cs.length)) (ofNat_sub (b := 0) (Nat.zero_le _) (by omega)) (pc' := 22) rfl ?_
  refine g_istore d28_22 (L' := #[.val (.ref t), .val (.int 0), .val (.int (Int32.ofNat cs.length)), .val (.int 0), .val (.int (Int32.ofNat cs.length)), .unset]) rfl (pc' := 24) rfl ?_
  refine g_iloadN d28_24 rfl (pc' := 25) rfl ?_
  refine g_istore d28_25 (L' := #[.val (.ref t), .val (.int 0), .val (.int (Int32.ofNat cs.length)), .val (.int 0), .val (.int (Int32.ofNat cs.length)), .val (.int 0)]) rfl (pc' := 27) rfl ?_
  refine g_iloadN d28_27 rfl (pc' := 28) rfl ?_
  refine g_if_eq_t d28_28 rfl (pc' := 44) (by decide) rfl ?_
  have hcl := cpc_le cs cs.length 0
  exact lp cs.length 0 cs.length (by omega) (by omega) (Nat.le_refl _) (by omega) rfl
theorem ef_c_cp3 (m : MethodId) (x0 : Addr) (x1 : Int32) (x2 : Int32)  : entryFrame m #[(.ref x0), (.int x1), (.int x2)] 3 = mkF m 0 #[.val (.ref x0), .val (.int x1), .val (.int x2)] [] := by first | (simp [entryFrame, mkF, argsToLocals, Value.category]; done) | rfl
set_option maxRecDepth 65536 in
set_option maxHeartbeats 40000000 in
theorem c_cp3 {l : Launch} {Z : State} {n0 : Nat} {a0 : Array Value} (hw : Hw a0 Z) (t : Addr) (cs : List Int32) (h0 : Heap) (hA : Sta Z Z.heap "java/lang/StringUTF16" "$assertionsDisabled" "Z" (.int 1)) (hH : Sta Z Z.heap "java/lang/StringUTF16" "HI_BYTE_SHIFT" "I" (.int 0)) (hL : Sta Z Z.heap "java/lang/StringUTF16" "LO_BYTE_SHIFT" "I" (.int 8)) (A : Ia Z h0 t .byte (b16 cs)) (hcs : ∀ c ∈ cs, ¬ c < 0 ∧ ¬ (65535 : Int32) < c) (hpos : 0 < cs.length) (h8 : cs.length ≤ 8) :
    Con l Z n0 ELs (⟨"java/lang/StringUTF16", "codePointCount", "([BII)I"⟩ : MethodName) jdk_52_method_12_code 3 (some .int) [] ({ frames := 2, cells := 0, slots := 0, locals := 45 } : Room) #[(.ref t), (.int 0), (.int (Int32.ofNat cs.length))] h0 [] false (fun w h => w = .int (Int32.ofNat (cs.length - cpc cs cs.length 0)) ∧ h0 = h) := by
  refine con_of (plainFor_of_name pn_2) (fun mt => ef_c_cp3 mt t 0 ((Int32.ofNat cs.length)) ) ?_
  intro K
  refine g_aloadN d27_0 rfl rfl (pc' := 1) rfl ?_
  refine g_iloadN d27_1 rfl (pc' := 2) rfl ?_
  refine g_iloadN d27_2 rfl (pc' := 3) rfl ?_
  refine g_iconst d27_3 (v := 0) rfl (pc' := 4) rfl ?_
  refine g_static (W := 0) (argsL := [(.ref t), (.int 0), (.int (Int32.ofNat cs.length)), (.int 0)]) (rest := []) d27_4 (w_121 hw) (w_122 hw) (by decide) (lenOf pd_12 rfl) (c_cp4 hw t cs _ hA hH hL A hcs hpos h8) (w_123 hw) (w_82 hw) (by decide) (by decide) (fun _ q => nomatch q) rfl (Nat.le_of_eq rfl) rfl (by decide) (by decide) (pc' := 7) rfl ?_
  intro w1 h1 q1 Kc1
  obtain ⟨rfl, rfl⟩ := q1
  exact g_ireturn d27_7 rfl ⟨rfl, rfl⟩ (by decide) (by decide)
theorem ef_c_pft0 (m : MethodId) (x0 : Int32) (x1 : Int32) (x2 : Int32)  : entryFrame m #[(.int x0), (.int x1), (.int x2), .null] 4 = mkF m 0 #[.val (.int x0), .val (.int x1), .val (.int x2), .val .null] [] := by first | (simp [entryFrame, mkF, argsToLocals, Value.category]; done) | rfl
set_option maxRecDepth 65536 in
set_option maxHeartbeats 40000000 in
theorem c_pft0 {l : Launch} {Z : State} {n0 : Nat} {a0 : Array Value} (hw : Hw a0 Z) (i j n : Int32) (h0 : Heap) (hi : ¬ i < 0 ∧ ¬ j < i ∧ ¬ n < j) :
    Con l Z n0 ELs (⟨"jdk/internal/util/Preconditions", "checkFromToIndex", "(IIILjava/util/function/BiFunction;)I"⟩ : MethodName) jdk_41_method_12_code 4 (some .int) [] ({ frames := 0, cells := 0, slots := 0, locals := 0 } : Room) #[(.int i), (.int j), (.int n), .null] h0 [] false (fun w h => w = .int i ∧ h0 = h) := by
  refine con_of (plainFor_of_name pn_5) (fun mt => ef_c_pft0 mt i j n ) ?_
  intro K
  refine g_iloadN d15_0 rfl (pc' := 1) rfl ?_
  refine g_if_lt_f d15_1 hi.1 (pc' := 4) rfl ?_
  refine g_iloadN d15_4 rfl (pc' := 5) rfl ?_
  refine g_iloadN d15_5 rfl (pc' := 6) rfl ?_
  refine g_icmp_gt_f d15_6 hi.2.1 (pc' := 9) rfl ?_
  refine g_iloadN d15_9 rfl (pc' := 10) rfl ?_
  refine g_iloadN d15_10 rfl (pc' := 11) rfl ?_
  refine g_icmp_le_t d15_11 hi.2.2 (pc' := 22) (by decide) rfl ?_
  refine g_iloadN d15_22 rfl (pc' := 23) rfl ?_
  exact g_ireturn d15_23 rfl ⟨rfl, rfl⟩ (by decide) (by decide)
theorem ef_c_oft (m : MethodId) (x0 : Int32) (x1 : Int32) (x2 : Int32)  : entryFrame m #[(.int x0), (.int x1), (.int x2)] 3 = mkF m 0 #[.val (.int x0), .val (.int x1), .val (.int x2)] [] := by first | (simp [entryFrame, mkF, argsToLocals, Value.category]; done) | rfl
set_option maxRecDepth 65536 in
set_option maxHeartbeats 40000000 in
theorem c_oft {l : Launch} {Z : State} {n0 : Nat} {a0 : Array Value} (hw : Hw a0 Z) (i j n : Int32) (h0 : Heap) (hi : ¬ i < 0 ∧ ¬ j < i ∧ ¬ n < j) :
    Con l Z n0 ELs (⟨"java/util/Objects", "checkFromToIndex", "(III)I"⟩ : MethodName) jdk_31_method_18_code 3 (some .int) [] ({ frames := 1, cells := 0, slots := 0, locals := 15 } : Room) #[(.int i), (.int j), (.int n)] h0 [] false (fun w h => w = .int i ∧ h0 = h) := by
  refine con_of (plainFor_of_name pn_6) (fun mt => ef_c_oft mt i j n ) ?_
  intro K
  refine g_iloadN d14_0 rfl (pc' := 1) rfl ?_
  refine g_iloadN d14_1 rfl (pc' := 2) rfl ?_
  refine g_iloadN d14_2 rfl (pc' := 3) rfl ?_
  refine g_null d14_3 (pc' := 4) rfl ?_
  refine g_static (W := 0) (argsL := [(.int i), (.int j), (.int n), .null]) (rest := []) d14_4 (w_71 hw) (w_72 hw) (by decide) (lenOf pd_13 rfl) (c_pft0 hw i j n _ hi) (w_74 hw) (w_73 hw) (by decide) (by decide) (fun _ q => nomatch q) rfl (Nat.le_of_eq rfl) rfl (by decide) (by decide) (pc' := 7) rfl ?_
  intro w1 h1 q1 Kc1
  obtain ⟨rfl, rfl⟩ := q1
  exact g_ireturn d14_7 rfl ⟨rfl, rfl⟩ (by decide) (by decide)
theorem ef_c_scp (m : MethodId) (x0 : Addr) (x1 : Int32) (x2 : Int32)  : entryFrame m #[(.ref x0), (.int x1), (.int x2)] 3 = mkF m 0 #[.val (.ref x0), .val (.int x1), .val (.int x2)] [] := by first | (simp [entryFrame, mkF, argsToLocals, Value.category]; done) | rfl
set_option maxRecDepth 65536 in
set_option maxHeartbeats 40000000 in
theorem c_scp {l : Launch} {Z : State} {n0 : Nat} {a0 : Array Value} (hw : Hw a0 Z) (x t : Addr) (cs : List Int32) (z : Int32) (h0 : Heap) (hC : Sta Z Z.heap "java/lang/String" "COMPACT_STRINGS" "Z" (.int z)) (hz : ¬ z = 0) (hA : Sta Z Z.heap "java/lang/StringUTF16" "$assertionsDisabled" "Z" (.int 1)) (hH : Sta Z Z.heap "java/lang/StringUTF16" "HI_BYTE_SHIFT" "I" (.int 0)) (hL : Sta Z Z.heap "java/lang/StringUTF16" "LO_BYTE_SHIFT" "I" (.int 8)) (S : Su Z h0 x t cs) :
    Con l Z n0 ELs (⟨"java/lang/String", "codePointCount", "(II)I"⟩ : MethodName) jdk_42_method_59_code 3 (some .int) [] ({ frames := 3, cells := 0, slots := 0, locals := 65 } : Room) #[(.ref x), (.int 0), (.int (Int32.ofNat cs.length))] h0 [] false (fun w h => w = .int (Int32.ofNat (cs.length - cpc cs cs.length 0)) ∧ h0 = h) := by
  refine con_of (plainFor_of_name pn_0) (fun mt => ef_c_scp mt x 0 ((Int32.ofNat cs.length)) ) ?_
  intro K
  have h8 := S.2.2.2.2.2
  refine g_iloadN d13_0 rfl (pc' := 1) rfl ?_
  refine g_iloadN d13_1 rfl (pc' := 2) rfl ?_
  refine g_aloadN d13_2 rfl rfl (pc' := 3) rfl ?_
  refine g_virt (W := 2) (argsL := []) (rest := [(.int (Int32.ofNat cs.length)), (.int 0)]) d13_3 (w_66 hw) (w_52 hw) (nf_self (w_54 hw)) (w_54 hw) (w_53 hw) (by decide) (lenOf pd_14 rfl) S.1 (c_ulen hw x t cs z _ hC hz S) (w_55 hw) (w_8 hw) (by decide) (by decide) (fun _ q => nomatch q) rfl (Nat.le_of_eq rfl) rfl (by decide) (by decide) (pc' := 6) rfl ?_
  intro w1 h1 q1 Kc1
  obtain ⟨rfl, rfl⟩ := q1
  refine g_static (W := 0) (argsL := [(.int 0), (.int (Int32.ofNat cs.length)), (.int (Int32.ofNat cs.length))]) (rest := []) d13_6 (w_67 hw) (w_68 hw) (by decide) (lenOf pd_15 rfl) (c_oft hw 0 _ _ _ ⟨by decide, (ofNat_le (a := 0) (Nat.zero_le _) (by omega)).2, (ofNat_le (Nat.le_refl _) (by omega)).2⟩) (w_70 hw) (w_69 hw) (by decide) (by decide) (fun _ q => nomatch q) rfl (Nat.le_of_eq rfl) rfl (by decide) (by decide) (pc' := 9) rfl ?_
  intro w2 h2 q2 Kc2
  obtain ⟨rfl, rfl⟩ := q2
  refine g_pop d13_9 rfl (pc' := 10) rfl ?_
  refine g_aloadN d13_10 rfl rfl (pc' := 11) rfl ?_
  refine g_virt (W := 0) (argsL := []) (rest := []) d13_11 (w_75 hw) (w_76 hw) (nf_self (w_78 hw)) (w_78 hw) (w_77 hw) (by decide) (lenOf pd_16 rfl) S.1 (c_ulat hw x cs z _ hC hz S.2.1) (w_79 hw) (w_8 hw) (by decide) (by decide) (fun _ q => nomatch q) rfl (Nat.le_of_eq rfl) rfl (by decide) (by decide) (pc' := 14) rfl ?_
  intro w3 h3 q3 Kc3
  obtain ⟨rfl, rfl⟩ := q3
  by_cases q : lat cs = true
  ·
    refine g_if_eq_f d13_14 (by rw [if_pos q]; decide) (pc' := 17) rfl ?_
    refine g_iloadN d13_17 rfl (pc' := 18) rfl ?_
    refine g_iloadN d13_18 rfl (pc' := 19) rfl ?_
    refine g_isub d13_19 (v := (Int32.ofNat cs.length)) (ofNat_sub (b := 0) (Nat.zero_le _) (by omega)) (pc' := 20) rfl ?_
    exact g_ireturn d13_20 rfl ⟨by rw [cpc_lat cs q, Nat.sub_zero], rfl⟩ (by decide) (by decide)
  · have hpos : 0 < cs.length := by
      cases cs with
      | nil => exact absurd rfl q
      | cons a l => exact Nat.succ_pos _
    refine g_if_eq_t d13_14 (if_neg q) (pc' := 21) (by decide) rfl ?_
    refine g_aloadN d13_21 rfl rfl (pc' := 22) rfl ?_
    refine g_getF d13_22 (w_28 hw) Via.refl S.2.2.1 (pc' := 25) rfl ?_
    refine g_iloadN d13_25 rfl (pc' := 26) rfl ?_
    refine g_iloadN d13_26 rfl (pc' := 27) rfl ?_
    refine g_static (W := 0) (argsL := [(.ref t), (.int 0), (.int (Int32.ofNat cs.length))]) (rest := []) d13_27 (w_118 hw) (w_119 hw) (by decide) (lenOf pd_17 rfl) (c_cp3 hw t cs _ hA hH hL (by have q2 := S.2.2.2.1; rw [enc, if_neg q] at q2; exact q2) S.2.2.2.2.1 hpos h8) (w_120 hw) (w_82 hw) (by decide) (by decide) (fun _ q => nomatch q) rfl (Nat.le_of_eq rfl) rfl (by decide) (by decide) (pc' := 30) rfl ?_
    intro w4 h4 q4 Kc4
    obtain ⟨rfl, rfl⟩ := q4
    exact g_ireturn d13_30 rfl ⟨rfl, rfl⟩ (by decide) (by decide)
theorem ef_c_am0 (m : MethodId) (x0 : Addr) (x2 : Int32)  : entryFrame m #[(.ref x0), .null, (.int x2)] 3 = mkF m 0 #[.val (.ref x0), .val .null, .val (.int x2)] [] := by first | (simp [entryFrame, mkF, argsToLocals, Value.category]; done) | rfl
set_option maxRecDepth 65536 in
set_option maxHeartbeats 40000000 in
theorem c_am0 {l : Launch} {Z : State} {n0 : Nat} {a0 : Array Value} (hw : Hw a0 Z) (f : Addr) (b : Int32) (h0 : Heap)  :
    Con l Z n0 ELs (⟨"com/example/saale/saale/protocol/Lengths", "atMost", "(Ljava/lang/String;Ljava/lang/String;I)Ljava/lang/String;"⟩ : MethodName) prog_8_method_2_code 3 (some (.object "java/lang/String")) [] ({ frames := 0, cells := 0, slots := 0, locals := 0 } : Room) #[(.ref f), .null, (.int b)] h0 [] false (fun w h => w = .null ∧ h0 = h) := by
  refine con_of (plainFor_of_name pn_7) (fun mt => ef_c_am0 mt f b ) ?_
  intro K
  refine g_aloadN d10_0 rfl rfl (pc' := 1) rfl ?_
  refine g_ifnull_t d10_1  (pc' := 32) (by decide) rfl ?_
  refine g_aloadN d10_32 rfl rfl (pc' := 33) rfl ?_
  exact g_areturn d10_33 rfl rfl rfl ⟨rfl, rfl⟩ (by decide) (by decide)
theorem ef_c_am (m : MethodId) (x0 : Addr) (x1 : Addr) (x2 : Int32)  : entryFrame m #[(.ref x0), (.ref x1), (.int x2)] 3 = mkF m 0 #[.val (.ref x0), .val (.ref x1), .val (.int x2)] [] := by first | (simp [entryFrame, mkF, argsToLocals, Value.category]; done) | rfl
set_option maxRecDepth 65536 in
set_option maxHeartbeats 40000000 in
theorem c_am {l : Launch} {Z : State} {n0 : Nat} {a0 : Array Value} (hw : Hw a0 Z) (f x t : Addr) (b : Int32) (cs : List Int32) (z : Int32) (h0 : Heap) (hC : Sta Z Z.heap "java/lang/String" "COMPACT_STRINGS" "Z" (.int z)) (hz : ¬ z = 0) (hA : Sta Z Z.heap "java/lang/StringUTF16" "$assertionsDisabled" "Z" (.int 1)) (hH : Sta Z Z.heap "java/lang/StringUTF16" "HI_BYTE_SHIFT" "I" (.int 0)) (hL : Sta Z Z.heap "java/lang/StringUTF16" "LO_BYTE_SHIFT" "I" (.int 8)) (S : Su Z h0 x t cs) (hb : ¬ b < (Int32.ofNat (cs.length - cpc cs cs.length 0))) :
    Con l Z n0 ELs (⟨"com/example/saale/saale/protocol/Lengths", "atMost", "(Ljava/lang/String;Ljava/lang/String;I)Ljava/lang/String;"⟩ : MethodName) prog_8_method_2_code 3 (some (.object "java/lang/String")) [] ({ frames := 4, cells := 0, slots := 0, locals := 90 } : Room) #[(.ref f), (.ref x), (.int b)] h0 [] false (fun w h => w = .ref x ∧ h0 = h) := by
  refine con_of (plainFor_of_name pn_7) (fun mt => ef_c_am mt f x b ) ?_
  intro K
  refine g_aloadN d10_0 rfl rfl (pc' := 1) rfl ?_
  refine g_ifnull_f d10_1  (pc' := 4) rfl ?_
  refine g_aloadN d10_4 rfl rfl (pc' := 5) rfl ?_
  refine g_iconst d10_5 (v := 0) rfl (pc' := 6) rfl ?_
  refine g_aloadN d10_6 rfl rfl (pc' := 7) rfl ?_
  refine g_virt (W := 2) (argsL := []) (rest := [(.int 0), (.ref x)]) d10_7 (w_51 hw) (w_52 hw) (nf_self (w_54 hw)) (w_54 hw) (w_53 hw) (by decide) (lenOf pd_14 rfl) S.1 (c_ulen hw x t cs z _ hC hz S) (w_55 hw) (w_8 hw) (by decide) (by decide) (fun _ q => nomatch q) rfl (Nat.le_of_eq rfl) rfl (by decide) (by decide) (pc' := 10) rfl ?_
  intro w1 h1 q1 Kc1
  obtain ⟨rfl, rfl⟩ := q1
  refine g_virt (W := 0) (argsL := [(.int 0), (.int (Int32.ofNat cs.length))]) (rest := []) d10_10 (w_61 hw) (w_62 hw) (nf_self (w_64 hw)) (w_64 hw) (w_63 hw) (by decide) (lenOf pd_18 rfl) S.1 (c_scp hw x t cs z _ hC hz hA hH hL S) (w_65 hw) (w_8 hw) (by decide) (by decide) (fun _ q => nomatch q) rfl (Nat.le_of_eq rfl) rfl (by decide) (by decide) (pc' := 13) rfl ?_
  intro w2 h2 q2 Kc2
  obtain ⟨rfl, rfl⟩ := q2
  refine g_iloadN d10_13 rfl (pc' := 14) rfl ?_
  refine g_icmp_le_t d10_14 hb (pc' := 32) (by decide) rfl ?_
  refine g_aloadN d10_32 rfl rfl (pc' := 33) rfl ?_
  exact g_areturn d10_33 rfl rfl rfl ⟨rfl, rfl⟩ (by decide) (by decide)
theorem ef_c_max (m : MethodId) (x0 : Int32) (x1 : Int32)  : entryFrame m #[(.int x0), (.int x1)] 2 = mkF m 0 #[.val (.int x0), .val (.int x1)] [] := by first | (simp [entryFrame, mkF, argsToLocals, Value.category]; done) | rfl
set_option maxRecDepth 65536 in
set_option maxHeartbeats 40000000 in
theorem c_max {l : Launch} {Z : State} {n0 : Nat} {a0 : Array Value} (hw : Hw a0 Z) (i j : Int32) (h0 : Heap)  :
    Con l Z n0 ELs (⟨"java/lang/Math", "max", "(II)I"⟩ : MethodName) jdk_29_method_65_code 2 (some .int) [] ({ frames := 0, cells := 0, slots := 0, locals := 0 } : Room) #[(.int i), (.int j)] h0 [] false (fun w h => ∃ m, w = .int m ∧ ¬ m < i ∧ h0 = h) := by
  refine con_of pn_8 (fun mt => ef_c_max mt i j ) ?_
  intro K
  by_cases q : i < j
  ·
    refine g_iloadN d9_0 rfl (pc' := 1) rfl ?_
    refine g_iloadN d9_1 rfl (pc' := 2) rfl ?_
    refine g_icmp_lt_t d9_2 q (pc' := 9) (by decide) rfl ?_
    refine g_iloadN d9_9 rfl (pc' := 10) rfl ?_
    exact g_ireturn d9_10 rfl ⟨j, rfl, fun z => absurd q (by rw [Int32.lt_iff_toInt_lt] at z ⊢; omega), rfl⟩ (by decide) (by decide)
  ·
    refine g_iloadN d9_0 rfl (pc' := 1) rfl ?_
    refine g_iloadN d9_1 rfl (pc' := 2) rfl ?_
    refine g_icmp_lt_f d9_2 q (pc' := 5) rfl ?_
    refine g_iloadN d9_5 rfl (pc' := 6) rfl ?_
    refine g_goto d9_6 (pc' := 10) (by decide) rfl ?_
    exact g_ireturn d9_10 rfl ⟨i, rfl, fun z => absurd z (by rw [Int32.lt_iff_toInt_lt]; omega), rfl⟩ (by decide) (by decide)
theorem ef_c_draw (m : MethodId) (x0 : Int32)  : entryFrame m #[(.int x0)] 1 = mkF m 0 #[.val (.int x0)] [] := by first | (simp [entryFrame, mkF, argsToLocals, Value.category]; done) | rfl
set_option maxRecDepth 65536 in
set_option maxHeartbeats 40000000 in
theorem c_draw {l : Launch} {Z : State} {n0 : Nat} {a0 : Array Value} (hw : Hw a0 Z) (p : Int32) (h0 : Heap)  :
    Con l Z n0 ELs (⟨"com/example/saale/saale/protocol/LengthsAtMostPinLaw", "draw", "(I)C"⟩ : MethodName) method_2_code 1 (some .char) [] ({ frames := 0, cells := 0, slots := 0, locals := 0 } : Room) #[(.int p)] h0 [] false (fun w h => ∃ v, w = .int v ∧ (¬ v < 0 ∧ ¬ (65535 : Int32) < v) ∧ h0 = h) := by
  refine con_of (plainFor_of_name pn_4) (fun mt => ef_c_draw mt p ) ?_
  intro K
  obtain ⟨s, hs⟩ : ∃ s, p &&& 65536 = s := ⟨_, rfl⟩
  refine g_iloadN d1_0 rfl (pc' := 1) rfl ?_
  refine g_ldcI d1_1 (w_4 hw) (pc' := 3) rfl ?_
  refine g_iand d1_3 (v := s) hs (pc' := 4) rfl ?_
  by_cases q : s = 0
  ·
    refine g_if_eq_t d1_4 q (pc' := 17) (by decide) rfl ?_
    refine g_iloadN d1_17 rfl (pc' := 18) rfl ?_
    refine g_ldcI d1_18 (w_5 hw) (pc' := 20) rfl ?_
    refine g_iand d1_20 rfl (pc' := 21) rfl ?_
    refine g_i2c d1_21 rfl (pc' := 22) rfl ?_
    exact g_ireturnN d1_22 rfl (by simp) (c16 _).2 ⟨_, rfl, (c16 _).1, rfl⟩ (by decide) (by decide)
  ·
    refine g_if_eq_f d1_4 q (pc' := 7) rfl ?_
    refine g_ldcI d1_7 (w_90 hw) (pc' := 9) rfl ?_
    refine g_iloadN d1_9 rfl (pc' := 10) rfl ?_
    refine g_sipush d1_10 (v := 2047) rfl (pc' := 13) rfl ?_
    refine g_iand d1_13 rfl (pc' := 14) rfl ?_
    refine g_iadd d1_14 rfl (pc' := 15) rfl ?_
    refine g_i2c d1_15 rfl (pc' := 16) rfl ?_
    exact g_ireturnN d1_16 rfl (by simp) (c16 _).2 ⟨_, rfl, (c16 _).1, rfl⟩ (by decide) (by decide)
theorem ef_c_law (m : MethodId) (x0 : Int32) (x1 : Int32) (x2 : Int32) (x3 : Int32) (x4 : Int32)  : entryFrame m #[(.int x0), (.int x1), (.int x2), (.int x3), (.int x4)] maxLocals = mkF m 0 #[.val (.int x0), .val (.int x1), .val (.int x2), .val (.int x3), .val (.int x4), .unset, .unset, .unset, .unset, .unset, .unset, .unset, .unset, .unset, .unset] [] := by first | (simp [entryFrame, mkF, argsToLocals, Value.category, maxLocals]; done) | rfl
set_option maxRecDepth 65536 in
set_option maxHeartbeats 40000000 in
theorem c_law {l : Launch} {Z : State} {n0 : Nat} {a0 : Array Value} (hw : Hw a0 Z) (p0 p1 p2 p3 p4 z : Int32) (h0 : Heap) (hC : Sta Z Z.heap "java/lang/String" "COMPACT_STRINGS" "Z" (.int z)) (hz : ¬ z = 0) (hA : Sta Z Z.heap "java/lang/StringUTF16" "$assertionsDisabled" "Z" (.int 1)) (hH : Sta Z Z.heap "java/lang/StringUTF16" "HI_BYTE_SHIFT" "I" (.int 0)) (hL : Sta Z Z.heap "java/lang/StringUTF16" "LO_BYTE_SHIFT" "I" (.int 8)) :
    Con l Z n0 ELs x code maxLocals ret tables_1 room_1 #[(.int p0), (.int p1), (.int p2), (.int p3), (.int p4)] h0 [] false (fun w h => w = .int 1) := by
  refine con_of (plainFor_of_name pn_4) (fun mt => ef_c_law mt p0 p1 p2 p3 p4 ) ?_
  intro K
  obtain ⟨nn, hnn⟩ : ∃ c, p4 &&& 3 = c := ⟨_, rfl⟩
  have hn4 := and3 p4; rw [hnn] at hn4
  obtain ⟨fl, hfl⟩ : ∃ c, (p4 >>> (2 &&& 31)) &&& 1 = c := ⟨_, rfl⟩
  obtain ⟨cf, hcf⟩ : ∃ c, ((p4 >>> (3 &&& 31)) &&& 255).toUInt32.toUInt16.toUInt32.toInt32 = c := ⟨_, rfl⟩
  have bcf := low8' (p4 >>> (3 &&& 31)); rw [hcf] at bcf
  refine g_iloadN at_0 rfl (pc' := 1) rfl ?_
  refine g_static (W := 0) (argsL := [(.int p0)]) (rest := []) at_1 (w_0 hw) (w_1 hw) (by decide) (lenOf pd_19 rfl) (c_draw hw p0 _) (w_3 hw) (w_2 hw) (by decide) (by decide) (fun _ q => nomatch q) rfl (Nat.le_of_eq rfl) rfl (by decide) (by decide) (pc' := 4) rfl ?_
  intro w1 h1 q1 Kc1
  obtain ⟨c0, rfl, b0, rfl⟩ := q1
  refine g_istore at_4 (L' := #[.val (.int p0), .val (.int p1), .val (.int p2), .val (.int p3), .val (.int p4), .val (.int c0), .unset, .unset, .unset, .unset, .unset, .unset, .unset, .unset, .unset]) rfl (pc' := 6) rfl ?_
  refine g_iloadN at_6 rfl (pc' := 7) rfl ?_
  refine g_static (W := 0) (argsL := [(.int p1)]) (rest := []) at_7 (w_0 hw) (w_1 hw) (by decide) (lenOf pd_19 rfl) (c_draw hw p1 _) (w_3 hw) (w_2 hw) (by decide) (by decide) (fun _ q => nomatch q) rfl (Nat.le_of_eq rfl) rfl (by decide) (by decide) (pc' := 10) rfl ?_
  intro w2 h2 q2 Kc2
  obtain ⟨c1, rfl, b1, rfl⟩ := q2
  refine g_istore at_10 (L' := #[.val (.int p0), .val (.int p1), .val (.int p2), .val (.int p3), .val (.int p4), .val (.int c0), .val (.int c1), .unset, .unset, .unset, .unset, .unset, .unset, .unset, .unset]) rfl (pc' := 12) rfl ?_
  refine g_iloadN at_12 rfl (pc' := 13) rfl ?_
  refine g_static (W := 0) (argsL := [(.int p2)]) (rest := []) at_13 (w_0 hw) (w_1 hw) (by decide) (lenOf pd_19 rfl) (c_draw hw p2 _) (w_3 hw) (w_2 hw) (by decide) (by decide) (fun _ q => nomatch q) rfl (Nat.le_of_eq rfl) rfl (by decide) (by decide) (pc' := 16) rfl ?_
  intro w3 h3 q3 Kc3
  obtain ⟨c2, rfl, b2, rfl⟩ := q3
  refine g_istore at_16 (L' := #[.val (.int p0), .val (.int p1), .val (.int p2), .val (.int p3), .val (.int p4), .val (.int c0), .val (.int c1), .val (.int c2), .unset, .unset, .unset, .unset, .unset, .unset, .unset]) rfl (pc' := 18) rfl ?_
  refine g_iload at_18 rfl (pc' := 20) rfl ?_
  refine g_iconst at_20 (v := 3) rfl (pc' := 21) rfl ?_
  refine g_iand at_21 (v := nn) hnn (pc' := 22) rfl ?_
  refine g_istore at_22 (L' := #[.val (.int p0), .val (.int p1), .val (.int p2), .val (.int p3), .val (.int p4), .val (.int c0), .val (.int c1), .val (.int c2), .val (.int nn), .unset, .unset, .unset, .unset, .unset, .unset]) rfl (pc' := 24) rfl ?_
  refine g_iload at_24 rfl (pc' := 26) rfl ?_
  refine g_iconst at_26 (v := 2) rfl (pc' := 27) rfl ?_
  refine g_ishr at_27 rfl (pc' := 28) rfl ?_
  refine g_iconst at_28 (v := 1) rfl (pc' := 29) rfl ?_
  refine g_iand at_29 (v := fl) hfl (pc' := 30) rfl ?_
  by_cases q : fl = 0
  ·
    refine g_if_eq_t at_30 q (pc' := 37) (by decide) rfl ?_
    refine g_iconst at_37 (v := 0) rfl (pc' := 38) rfl ?_
    refine g_istore at_38 (L' := #[.val (.int p0), .val (.int p1), .val (.int p2), .val (.int p3), .val (.int p4), .val (.int c0), .val (.int c1), .val (.int c2), .val (.int nn), .val (.int 0), .unset, .unset, .unset, .unset, .unset]) rfl (pc' := 40) rfl ?_
    refine g_iload at_40 rfl (pc' := 42) rfl ?_
    refine g_iconst at_42 (v := 3) rfl (pc' := 43) rfl ?_
    refine g_ishr at_43 rfl (pc' := 44) rfl ?_
    refine g_sipush at_44 (v := 255) rfl (pc' := 47) rfl ?_
    refine g_iand at_47 rfl (pc' := 48) rfl ?_
    refine g_i2c at_48 (v := cf) hcf (pc' := 49) rfl ?_
    refine g_static (W := 0) (argsL := [(.int cf)]) (rest := []) at_49 (w_6 hw) (w_7 hw) (by decide) (lenOf pd_20 rfl) (c_valueof hw cf z _ hC hz bcf) (w_9 hw) (w_8 hw) (by decide) (by decide) (fun _ q => nomatch q) rfl (Nat.le_of_eq rfl) rfl (by decide) (by decide) (pc' := 52) rfl ?_
    intro w6 h6 q6 Kc6
    obtain ⟨sf', tf, rfl, hxf, htf, Sf⟩ := q6
    refine g_astore at_52 rfl (L' := #[.val (.int p0), .val (.int p1), .val (.int p2), .val (.int p3), .val (.int p4), .val (.int c0), .val (.int c1), .val (.int c2), .val (.int nn), .val (.int 0), .val (.ref sf'), .unset, .unset, .unset, .unset]) rfl (pc' := 54) rfl ?_
    refine g_iload at_54 rfl (pc' := 56) rfl ?_
    refine g_if_eq_t at_56 rfl (pc' := 79) (by decide) rfl ?_
    rcases hn4 with rfl | rfl | rfl | rfl
    ·
      refine g_iload at_79 rfl (pc' := 81) rfl ?_
      refine g_if_ne_f at_81 rfl (pc' := 84) rfl ?_
      refine g_new at_84 (w_32 hw) (w_16 hw) (w_8 hw) (by decide) (by decide) (pc' := 87) rfl ?_
      intro xs h7 g7 Kn7 E_xs D7 sz_xs
      have F_value_xs : Fld Z h7 xs "java/lang/String" "value" "[B" .null := D7 (Or.inr (w_29 hw)) (ty := (.array .byte)) (by decide)
      have F_coder_xs : Fld Z h7 xs "java/lang/String" "coder" "B" (.int 0) := D7 (Or.inr (w_31 hw)) (ty := .byte) (by decide)
      refine g_dup at_87 rfl (pc' := 88) rfl ?_
      refine g_iconst at_88 (v := 0) rfl (pc' := 89) rfl ?_
      refine g_newA at_89 (w_33 hw) rfl (by decide) (cap := 0) (by decide) (by decide) (by decide) (by decide) (pc' := 91) rfl ?_
      intro cb h8 g8 Kn8 A_cb sz_cb
      replace A_cb : Ia Z h8 cb .char [] := A_cb
      refine g_init (W := 1) (argsL := [(.ref cb)]) (rest := [(.ref xs)]) at_91 rfl (w_34 hw) (w_35 hw) (by decide) (lenOf pd_22 rfl) (c_str0 hw xs cb _ _ _ (E_xs.keep Kn8) (F_value_xs.keep Kn8 nin0) (F_coder_xs.keep Kn8 nin0) A_cb) (w_36 hw) (w_8 hw) (by decide) (by decide) (allS ⟨(Or.inr sz_xs), (List.mem_of_getElem? (i := 1) rfl)⟩ all0) rfl (Nat.le_of_eq rfl) rfl (by decide) (by decide) (pc' := 94) rfl ?_
      intro w9 h9 q9 Kc9
      obtain ⟨ts, S0⟩ := q9
      have Ss := su_of_st S0
      refine g_astore at_94 rfl (L' := #[.val (.int p0), .val (.int p1), .val (.int p2), .val (.int p3), .val (.int p4), .val (.int c0), .val (.int c1), .val (.int c2), .val (.int 0), .val (.int 0), .val (.ref sf'), .val (.ref xs), .unset, .unset, .unset]) rfl (pc' := 96) rfl ?_
      refine g_goto at_96 (pc' := 183) (by decide) rfl ?_
      refine g_iload at_183 rfl (pc' := 185) rfl ?_
      refine g_istore at_185 (L' := #[.val (.int p0), .val (.int p1), .val (.int p2), .val (.int p3), .val (.int p4), .val (.int c0), .val (.int c1), .val (.int c2), .val (.int 0), .val (.int 0), .val (.ref sf'), .val (.ref xs), .val (.int 0), .unset, .unset]) rfl (pc' := 187) rfl ?_
      refine g_iload at_187 rfl (pc' := 189) rfl ?_
      refine g_iconst at_189 (v := 2) rfl (pc' := 190) rfl ?_
      refine g_icmp_lt_t at_190 (by decide) (pc' := 215) (by decide) rfl ?_
      refine g_iload at_215 rfl (pc' := 217) rfl ?_
      refine g_iconst at_217 (v := 3) rfl (pc' := 218) rfl ?_
      refine g_icmp_ne_t at_218 (by decide) (pc' := 243) (by decide) rfl ?_
      have hct : Int32.ofNat (([] : List Int32).length - cpc [] ([] : List Int32).length 0) = 0 := by simp [cpc]
      refine g_iload at_243 rfl (pc' := 245) rfl ?_
      refine g_iloadN at_245 rfl (pc' := 246) rfl ?_
      refine g_static (W := 0) (argsL := [(.int 0), (.int p3)]) (rest := []) at_246 (w_43 hw) (w_44 hw) (by decide) (lenOf pd_18 rfl) (c_max hw 0 p3 _) (w_46 hw) (w_45 hw) (by decide) (by decide) (fun _ q => nomatch q) rfl (Nat.le_of_eq rfl) rfl (by decide) (by decide) (pc' := 249) rfl ?_
      intro w10 h10 q10 Kc10
      obtain ⟨mx, rfl, hmx, rfl⟩ := q10
      refine g_istore at_249 (L' := #[.val (.int p0), .val (.int p1), .val (.int p2), .val (.int p3), .val (.int p4), .val (.int c0), .val (.int c1), .val (.int c2), .val (.int 0), .val (.int 0), .val (.ref sf'), .val (.ref xs), .val (.int 0), .val (.int mx), .unset]) rfl (pc' := 251) rfl ?_
      refine g_aload at_251 rfl rfl (pc' := 253) rfl ?_
      refine g_aload at_253 rfl rfl (pc' := 255) rfl ?_
      refine g_iload at_255 rfl (pc' := 257) rfl ?_
      refine g_static (W := 0) (argsL := [(.ref sf'), (.ref xs), (.int mx)]) (rest := []) at_257 (w_47 hw) (w_48 hw) (by decide) (lenOf pd_21 rfl) (c_am hw sf' xs ts mx [] z _ hC hz hA hH hL Ss (by rw [hct]; exact hmx)) (w_50 hw) (w_49 hw) (by decide) (by decide) (fun _ q => nomatch q) rfl (Nat.le_of_eq rfl) rfl (by decide) (by decide) (pc' := 260) rfl ?_
      intro w11 h11 q11 Kc11
      obtain ⟨rfl, rfl⟩ := q11
      refine g_astore at_260 rfl (L' := #[.val (.int p0), .val (.int p1), .val (.int p2), .val (.int p3), .val (.int p4), .val (.int c0), .val (.int c1), .val (.int c2), .val (.int 0), .val (.int 0), .val (.ref sf'), .val (.ref xs), .val (.int 0), .val (.int mx), .val (.ref xs)]) rfl (pc' := 262) rfl ?_
      refine g_aload at_262 rfl rfl (pc' := 264) rfl ?_
      refine g_aload at_264 rfl rfl (pc' := 266) rfl ?_
      refine g_acmp_ne_f at_266 rfl rfl rfl (pc' := 269) rfl ?_
      refine g_iconst at_269 (v := 1) rfl (pc' := 270) rfl ?_
      refine g_goto at_270 (pc' := 274) (by decide) rfl ?_
      exact g_ireturnN at_274 rfl (by simp) (z := 1) rfl rfl (by decide) (by decide)
    ·
      refine g_iload at_79 rfl (pc' := 81) rfl ?_
      refine g_if_ne_t at_81 (by decide) (pc' := 99) (by decide) rfl ?_
      refine g_iload at_99 rfl (pc' := 101) rfl ?_
      refine g_iconst at_101 (v := 1) rfl (pc' := 102) rfl ?_
      refine g_icmp_ne_f at_102 rfl (pc' := 105) rfl ?_
      refine g_new at_105 (w_32 hw) (w_16 hw) (w_8 hw) (by decide) (by decide) (pc' := 108) rfl ?_
      intro xs h12 g12 Kn12 E_xs D12 sz_xs
      have F_value_xs : Fld Z h12 xs "java/lang/String" "value" "[B" .null := D12 (Or.inr (w_29 hw)) (ty := (.array .byte)) (by decide)
      have F_coder_xs : Fld Z h12 xs "java/lang/String" "coder" "B" (.int 0) := D12 (Or.inr (w_31 hw)) (ty := .byte) (by decide)
      refine g_dup at_108 rfl (pc' := 109) rfl ?_
      refine g_iconst at_109 (v := 1) rfl (pc' := 110) rfl ?_
      refine g_newA at_110 (w_33 hw) rfl (by decide) (cap := 1) (by decide) (by decide) (by decide) (by decide) (pc' := 112) rfl ?_
      intro cb h13 g13 Kn13 A_cb sz_cb
      replace A_cb : Ia Z h13 cb .char [0] := A_cb
      refine g_dup at_112 rfl (pc' := 113) rfl ?_
      refine g_iconst at_113 (v := 0) rfl (pc' := 114) rfl ?_
      refine g_iload at_114 rfl (pc' := 116) rfl ?_
      refine g_castore at_116 A_cb (by decide) (i := 0) rfl (Nat.le_of_ble_eq_true rfl) (Or.inr sz_cb) (List.mem_of_getElem? (i := 0) rfl) (pc' := 117) rfl ?_
      intro h14 Kw14 A_cb_14
      replace A_cb_14 : Ia Z h14 cb .char [c0] := (by rw [(get16 c0 b0).2] at A_cb_14; exact A_cb_14)
      refine g_init (W := 1) (argsL := [(.ref cb)]) (rest := [(.ref xs)]) at_117 rfl (w_34 hw) (w_35 hw) (by decide) (lenOf pd_22 rfl) (c_ic hw xs cb [c0] z _ _ _ hC hz hA hH hL ((E_xs.keep Kn13).keep Kw14) ((F_value_xs.keep Kn13 nin0).keep Kw14 (ninS (Nat.ne_of_lt (Nat.lt_of_lt_of_le (E_xs).lt (Nat.le_of_eq g13.symm))) nin0)) ((F_coder_xs.keep Kn13 nin0).keep Kw14 (ninS (Nat.ne_of_lt (Nat.lt_of_lt_of_le (E_xs).lt (Nat.le_of_eq g13.symm))) nin0)) A_cb_14 (all1 b0 b1 b2) (Nat.le_of_ble_eq_true rfl) (Nat.le_of_ble_eq_true rfl)) (w_36 hw) (w_8 hw) (by decide) (by decide) (allS ⟨(Or.inr sz_xs), (List.mem_of_getElem? (i := 1) rfl)⟩ all0) rfl (Nat.le_of_eq rfl) rfl (by decide) (by decide) (pc' := 120) rfl ?_
      intro w15 h15 q15 Kc15
      obtain ⟨ts, hts, Ss⟩ := q15
      refine g_astore at_120 rfl (L' := #[.val (.int p0), .val (.int p1), .val (.int p2), .val (.int p3), .val (.int p4), .val (.int c0), .val (.int c1), .val (.int c2), .val (.int 1), .val (.int 0), .val (.ref sf'), .val (.ref xs), .unset, .unset, .unset]) rfl (pc' := 122) rfl ?_
      refine g_goto at_122 (pc' := 183) (by decide) rfl ?_
      refine g_iload at_183 rfl (pc' := 185) rfl ?_
      refine g_istore at_185 (L' := #[.val (.int p0), .val (.int p1), .val (.int p2), .val (.int p3), .val (.int p4), .val (.int c0), .val (.int c1), .val (.int c2), .val (.int 1), .val (.int 0), .val (.ref sf'), .val (.ref xs), .val (.int 1), .unset, .unset]) rfl (pc' := 187) rfl ?_
      refine g_iload at_187 rfl (pc' := 189) rfl ?_
      refine g_iconst at_189 (v := 2) rfl (pc' := 190) rfl ?_
      refine g_icmp_lt_t at_190 (by decide) (pc' := 215) (by decide) rfl ?_
      refine g_iload at_215 rfl (pc' := 217) rfl ?_
      refine g_iconst at_217 (v := 3) rfl (pc' := 218) rfl ?_
      refine g_icmp_ne_t at_218 (by decide) (pc' := 243) (by decide) rfl ?_
      have hct : Int32.ofNat (([c0] : List Int32).length - cpc [c0] ([c0] : List Int32).length 0) = 1 := by simp [cpc] <;> rfl
      refine g_iload at_243 rfl (pc' := 245) rfl ?_
      refine g_iloadN at_245 rfl (pc' := 246) rfl ?_
      refine g_static (W := 0) (argsL := [(.int 1), (.int p3)]) (rest := []) at_246 (w_43 hw) (w_44 hw) (by decide) (lenOf pd_18 rfl) (c_max hw 1 p3 _) (w_46 hw) (w_45 hw) (by decide) (by decide) (fun _ q => nomatch q) rfl (Nat.le_of_eq rfl) rfl (by decide) (by decide) (pc' := 249) rfl ?_
      intro w16 h16 q16 Kc16
      obtain ⟨mx, rfl, hmx, rfl⟩ := q16
      refine g_istore at_249 (L' := #[.val (.int p0), .val (.int p1), .val (.int p2), .val (.int p3), .val (.int p4), .val (.int c0), .val (.int c1), .val (.int c2), .val (.int 1), .val (.int 0), .val (.ref sf'), .val (.ref xs), .val (.int 1), .val (.int mx), .unset]) rfl (pc' := 251) rfl ?_
      refine g_aload at_251 rfl rfl (pc' := 253) rfl ?_
      refine g_aload at_253 rfl rfl (pc' := 255) rfl ?_
      refine g_iload at_255 rfl (pc' := 257) rfl ?_
      refine g_static (W := 0) (argsL := [(.ref sf'), (.ref xs), (.int mx)]) (rest := []) at_257 (w_47 hw) (w_48 hw) (by decide) (lenOf pd_21 rfl) (c_am hw sf' xs ts mx [c0] z _ hC hz hA hH hL Ss (by rw [hct]; exact hmx)) (w_50 hw) (w_49 hw) (by decide) (by decide) (fun _ q => nomatch q) rfl (Nat.le_of_eq rfl) rfl (by decide) (by decide) (pc' := 260) rfl ?_
      intro w17 h17 q17 Kc17
      obtain ⟨rfl, rfl⟩ := q17
      refine g_astore at_260 rfl (L' := #[.val (.int p0), .val (.int p1), .val (.int p2), .val (.int p3), .val (.int p4), .val (.int c0), .val (.int c1), .val (.int c2), .val (.int 1), .val (.int 0), .val (.ref sf'), .val (.ref xs), .val (.int 1), .val (.int mx), .val (.ref xs)]) rfl (pc' := 262) rfl ?_
      refine g_aload at_262 rfl rfl (pc' := 264) rfl ?_
      refine g_aload at_264 rfl rfl (pc' := 266) rfl ?_
      refine g_acmp_ne_f at_266 rfl rfl rfl (pc' := 269) rfl ?_
      refine g_iconst at_269 (v := 1) rfl (pc' := 270) rfl ?_
      refine g_goto at_270 (pc' := 274) (by decide) rfl ?_
      exact g_ireturnN at_274 rfl (by simp) (z := 1) rfl rfl (by decide) (by decide)
    ·
      refine g_iload at_79 rfl (pc' := 81) rfl ?_
      refine g_if_ne_t at_81 (by decide) (pc' := 99) (by decide) rfl ?_
      refine g_iload at_99 rfl (pc' := 101) rfl ?_
      refine g_iconst at_101 (v := 1) rfl (pc' := 102) rfl ?_
      refine g_icmp_ne_t at_102 (by decide) (pc' := 125) (by decide) rfl ?_
      refine g_iload at_125 rfl (pc' := 127) rfl ?_
      refine g_iconst at_127 (v := 2) rfl (pc' := 128) rfl ?_
      refine g_icmp_ne_f at_128 rfl (pc' := 131) rfl ?_
      refine g_new at_131 (w_32 hw) (w_16 hw) (w_8 hw) (by decide) (by decide) (pc' := 134) rfl ?_
      intro xs h18 g18 Kn18 E_xs D18 sz_xs
      have F_value_xs : Fld Z h18 xs "java/lang/String" "value" "[B" .null := D18 (Or.inr (w_29 hw)) (ty := (.array .byte)) (by decide)
      have F_coder_xs : Fld Z h18 xs "java/lang/String" "coder" "B" (.int 0) := D18 (Or.inr (w_31 hw)) (ty := .byte) (by decide)
      refine g_dup at_134 rfl (pc' := 135) rfl ?_
      refine g_iconst at_135 (v := 2) rfl (pc' := 136) rfl ?_
      refine g_newA at_136 (w_33 hw) rfl (by decide) (cap := 2) (by decide) (by decide) (by decide) (by decide) (pc' := 138) rfl ?_
      intro cb h19 g19 Kn19 A_cb sz_cb
      replace A_cb : Ia Z h19 cb .char [0, 0] := A_cb
      refine g_dup at_138 rfl (pc' := 139) rfl ?_
      refine g_iconst at_139 (v := 0) rfl (pc' := 140) rfl ?_
      refine g_iload at_140 rfl (pc' := 142) rfl ?_
      refine g_castore at_142 A_cb (by decide) (i := 0) rfl (Nat.le_of_ble_eq_true rfl) (Or.inr sz_cb) (List.mem_of_getElem? (i := 0) rfl) (pc' := 143) rfl ?_
      intro h20 Kw20 A_cb_20
      replace A_cb_20 : Ia Z h20 cb .char [c0, 0] := (by rw [(get16 c0 b0).2] at A_cb_20; exact A_cb_20)
      refine g_dup at_143 rfl (pc' := 144) rfl ?_
      refine g_iconst at_144 (v := 1) rfl (pc' := 145) rfl ?_
      refine g_iload at_145 rfl (pc' := 147) rfl ?_
      refine g_castore at_147 A_cb_20 (by decide) (i := 1) rfl (Nat.le_of_ble_eq_true rfl) (Or.inr sz_cb) (List.mem_of_getElem? (i := 0) rfl) (pc' := 148) rfl ?_
      intro h21 Kw21 A_cb_21
      replace A_cb_21 : Ia Z h21 cb .char [c0, c1] := (by rw [(get16 c1 b1).2] at A_cb_21; exact A_cb_21)
      refine g_init (W := 1) (argsL := [(.ref cb)]) (rest := [(.ref xs)]) at_148 rfl (w_34 hw) (w_35 hw) (by decide) (lenOf pd_22 rfl) (c_ic hw xs cb [c0, c1] z _ _ _ hC hz hA hH hL (((E_xs.keep Kn19).keep Kw20).keep Kw21) (((F_value_xs.keep Kn19 nin0).keep Kw20 (ninS (Nat.ne_of_lt (Nat.lt_of_lt_of_le (E_xs).lt (Nat.le_of_eq g19.symm))) nin0)).keep Kw21 (ninS (Nat.ne_of_lt (Nat.lt_of_lt_of_le (E_xs).lt (Nat.le_of_eq g19.symm))) nin0)) (((F_coder_xs.keep Kn19 nin0).keep Kw20 (ninS (Nat.ne_of_lt (Nat.lt_of_lt_of_le (E_xs).lt (Nat.le_of_eq g19.symm))) nin0)).keep Kw21 (ninS (Nat.ne_of_lt (Nat.lt_of_lt_of_le (E_xs).lt (Nat.le_of_eq g19.symm))) nin0)) A_cb_21 (all2 b0 b1 b2) (Nat.le_of_ble_eq_true rfl) (Nat.le_of_ble_eq_true rfl)) (w_36 hw) (w_8 hw) (by decide) (by decide) (allS ⟨(Or.inr sz_xs), (List.mem_of_getElem? (i := 1) rfl)⟩ all0) rfl (Nat.le_of_eq rfl) rfl (by decide) (by decide) (pc' := 151) rfl ?_
      intro w22 h22 q22 Kc22
      obtain ⟨ts, hts, Ss⟩ := q22
      refine g_astore at_151 rfl (L' := #[.val (.int p0), .val (.int p1), .val (.int p2), .val (.int p3), .val (.int p4), .val (.int c0), .val (.int c1), .val (.int c2), .val (.int 2), .val (.int 0), .val (.ref sf'), .val (.ref xs), .unset, .unset, .unset]) rfl (pc' := 153) rfl ?_
      refine g_goto at_153 (pc' := 183) (by decide) rfl ?_
      refine g_iload at_183 rfl (pc' := 185) rfl ?_
      refine g_istore at_185 (L' := #[.val (.int p0), .val (.int p1), .val (.int p2), .val (.int p3), .val (.int p4), .val (.int c0), .val (.int c1), .val (.int c2), .val (.int 2), .val (.int 0), .val (.ref sf'), .val (.ref xs), .val (.int 2), .unset, .unset]) rfl (pc' := 187) rfl ?_
      refine g_iload at_187 rfl (pc' := 189) rfl ?_
      refine g_iconst at_189 (v := 2) rfl (pc' := 190) rfl ?_
      refine g_icmp_lt_f at_190 (by decide) (pc' := 193) rfl ?_
      refine g_iload at_193 rfl (pc' := 195) rfl ?_
      refine g_static (W := 0) (argsL := [(.int c0)]) (rest := []) at_195 (w_110 hw) (w_111 hw) (by decide) (lenOf pd_0 rfl) (c_ih hw c0 _) (w_112 hw) (w_2 hw) (by decide) (by decide) (fun _ q => nomatch q) rfl (Nat.le_of_eq rfl) rfl (by decide) (by decide) (pc' := 198) rfl ?_
      intro w23 h23 q23 Kc23
      obtain ⟨rfl, rfl⟩ := q23
      by_cases P0 : (isHi c0 && isLo c1) = true
      · obtain ⟨hh0, ll0⟩ := Bool.and_eq_true_iff.mp P0
        refine g_if_eq_f at_198 (by rw [if_pos hh0]; decide) (pc' := 201) rfl ?_
        refine g_iload at_201 rfl (pc' := 203) rfl ?_
        refine g_static (W := 0) (argsL := [(.int c1)]) (rest := []) at_203 (w_114 hw) (w_115 hw) (by decide) (lenOf pd_0 rfl) (c_il hw c1 _) (w_116 hw) (w_2 hw) (by decide) (by decide) (fun _ q => nomatch q) rfl (Nat.le_of_eq rfl) rfl (by decide) (by decide) (pc' := 206) rfl ?_
        intro w24 h24 q24 Kc24
        obtain ⟨rfl, rfl⟩ := q24
        refine g_if_eq_f at_206 (by rw [if_pos ll0]; decide) (pc' := 209) rfl ?_
        refine g_iload at_209 rfl (pc' := 211) rfl ?_
        refine g_iconst at_211 (v := 1) rfl (pc' := 212) rfl ?_
        refine g_isub at_212 (v := 1) rfl (pc' := 213) rfl ?_
        refine g_istore at_213 (L' := #[.val (.int p0), .val (.int p1), .val (.int p2), .val (.int p3), .val (.int p4), .val (.int c0), .val (.int c1), .val (.int c2), .val (.int 2), .val (.int 0), .val (.ref sf'), .val (.ref xs), .val (.int 1), .unset, .unset]) rfl (pc' := 215) rfl ?_
        refine g_iload at_215 rfl (pc' := 217) rfl ?_
        refine g_iconst at_217 (v := 3) rfl (pc' := 218) rfl ?_
        refine g_icmp_ne_t at_218 (by decide) (pc' := 243) (by decide) rfl ?_
        have e0 : ps [c0, c1] 0 = true := P0
        have hct : Int32.ofNat (([c0, c1] : List Int32).length - cpc [c0, c1] ([c0, c1] : List Int32).length 0) = 1 := by simp [cpc, e0] <;> rfl
        refine g_iload at_243 rfl (pc' := 245) rfl ?_
        refine g_iloadN at_245 rfl (pc' := 246) rfl ?_
        refine g_static (W := 0) (argsL := [(.int 1), (.int p3)]) (rest := []) at_246 (w_43 hw) (w_44 hw) (by decide) (lenOf pd_18 rfl) (c_max hw 1 p3 _) (w_46 hw) (w_45 hw) (by decide) (by decide) (fun _ q => nomatch q) rfl (Nat.le_of_eq rfl) rfl (by decide) (by decide) (pc' := 249) rfl ?_
        intro w25 h25 q25 Kc25
        obtain ⟨mx, rfl, hmx, rfl⟩ := q25
        refine g_istore at_249 (L' := #[.val (.int p0), .val (.int p1), .val (.int p2), .val (.int p3), .val (.int p4), .val (.int c0), .val (.int c1), .val (.int c2), .val (.int 2), .val (.int 0), .val (.ref sf'), .val (.ref xs), .val (.int 1), .val (.int mx), .unset]) rfl (pc' := 251) rfl ?_
        refine g_aload at_251 rfl rfl (pc' := 253) rfl ?_
        refine g_aload at_253 rfl rfl (pc' := 255) rfl ?_
        refine g_iload at_255 rfl (pc' := 257) rfl ?_
        refine g_static (W := 0) (argsL := [(.ref sf'), (.ref xs), (.int mx)]) (rest := []) at_257 (w_47 hw) (w_48 hw) (by decide) (lenOf pd_21 rfl) (c_am hw sf' xs ts mx [c0, c1] z _ hC hz hA hH hL Ss (by rw [hct]; exact hmx)) (w_50 hw) (w_49 hw) (by decide) (by decide) (fun _ q => nomatch q) rfl (Nat.le_of_eq rfl) rfl (by decide) (by decide) (pc' := 260) rfl ?_
        intro w26 h26 q26 Kc26
        obtain ⟨rfl, rfl⟩ := q26
        refine g_astore at_260 rfl (L' := #[.val (.int p0), .val (.int p1), .val (.int p2), .val (.int p3), .val (.int p4), .val (.int c0), .val (.int c1), .val (.int c2), .val (.int 2), .val (.int 0), .val (.ref sf'), .val (.ref xs), .val (.int 1), .val (.int mx), .val (.ref xs)]) rfl (pc' := 262) rfl ?_
        refine g_aload at_262 rfl rfl (pc' := 264) rfl ?_
        refine g_aload at_264 rfl rfl (pc' := 266) rfl ?_
        refine g_acmp_ne_f at_266 rfl rfl rfl (pc' := 269) rfl ?_
        refine g_iconst at_269 (v := 1) rfl (pc' := 270) rfl ?_
        refine g_goto at_270 (pc' := 274) (by decide) rfl ?_
        exact g_ireturnN at_274 rfl (by simp) (z := 1) rfl rfl (by decide) (by decide)
      · have J : Go l Z n0 ELs x code maxLocals ret room_1 h0 [] false (fun w h => w = .int 1) K [cb, xs] h22 6 35 215 #[.val (.int p0), .val (.int p1), .val (.int p2), .val (.int p3), .val (.int p4), .val (.int c0), .val (.int c1), .val (.int c2), .val (.int 2), .val (.int 0), .val (.ref sf'), .val (.ref xs), .val (.int 2), .unset, .unset] [] := by
          refine g_iload at_215 rfl (pc' := 217) rfl ?_
          refine g_iconst at_217 (v := 3) rfl (pc' := 218) rfl ?_
          refine g_icmp_ne_t at_218 (by decide) (pc' := 243) (by decide) rfl ?_
          have e0 : ps [c0, c1] 0 = false := Bool.eq_false_iff.mpr P0
          have hct : Int32.ofNat (([c0, c1] : List Int32).length - cpc [c0, c1] ([c0, c1] : List Int32).length 0) = 2 := by simp [cpc, e0] <;> rfl
          refine g_iload at_243 rfl (pc' := 245) rfl ?_
          refine g_iloadN at_245 rfl (pc' := 246) rfl ?_
          refine g_static (W := 0) (argsL := [(.int 2), (.int p3)]) (rest := []) at_246 (w_43 hw) (w_44 hw) (by decide) (lenOf pd_18 rfl) (c_max hw 2 p3 _) (w_46 hw) (w_45 hw) (by decide) (by decide) (fun _ q => nomatch q) rfl (Nat.le_of_eq rfl) rfl (by decide) (by decide) (pc' := 249) rfl ?_
          intro w27 h27 q27 Kc27
          obtain ⟨mx, rfl, hmx, rfl⟩ := q27
          refine g_istore at_249 (L' := #[.val (.int p0), .val (.int p1), .val (.int p2), .val (.int p3), .val (.int p4), .val (.int c0), .val (.int c1), .val (.int c2), .val (.int 2), .val (.int 0), .val (.ref sf'), .val (.ref xs), .val (.int 2), .val (.int mx), .unset]) rfl (pc' := 251) rfl ?_
          refine g_aload at_251 rfl rfl (pc' := 253) rfl ?_
          refine g_aload at_253 rfl rfl (pc' := 255) rfl ?_
          refine g_iload at_255 rfl (pc' := 257) rfl ?_
          refine g_static (W := 0) (argsL := [(.ref sf'), (.ref xs), (.int mx)]) (rest := []) at_257 (w_47 hw) (w_48 hw) (by decide) (lenOf pd_21 rfl) (c_am hw sf' xs ts mx [c0, c1] z _ hC hz hA hH hL Ss (by rw [hct]; exact hmx)) (w_50 hw) (w_49 hw) (by decide) (by decide) (fun _ q => nomatch q) rfl (Nat.le_of_eq rfl) rfl (by decide) (by decide) (pc' := 260) rfl ?_
          intro w28 h28 q28 Kc28
          obtain ⟨rfl, rfl⟩ := q28
          refine g_astore at_260 rfl (L' := #[.val (.int p0), .val (.int p1), .val (.int p2), .val (.int p3), .val (.int p4), .val (.int c0), .val (.int c1), .val (.int c2), .val (.int 2), .val (.int 0), .val (.ref sf'), .val (.ref xs), .val (.int 2), .val (.int mx), .val (.ref xs)]) rfl (pc' := 262) rfl ?_
          refine g_aload at_262 rfl rfl (pc' := 264) rfl ?_
          refine g_aload at_264 rfl rfl (pc' := 266) rfl ?_
          refine g_acmp_ne_f at_266 rfl rfl rfl (pc' := 269) rfl ?_
          refine g_iconst at_269 (v := 1) rfl (pc' := 270) rfl ?_
          refine g_goto at_270 (pc' := 274) (by decide) rfl ?_
          exact g_ireturnN at_274 rfl (by simp) (z := 1) rfl rfl (by decide) (by decide)
        by_cases q : isHi c0 = true
        ·
          refine g_if_eq_f at_198 (by rw [if_pos q]; decide) (pc' := 201) rfl ?_
          refine g_iload at_201 rfl (pc' := 203) rfl ?_
          refine g_static (W := 0) (argsL := [(.int c1)]) (rest := []) at_203 (w_114 hw) (w_115 hw) (by decide) (lenOf pd_0 rfl) (c_il hw c1 _) (w_116 hw) (w_2 hw) (by decide) (by decide) (fun _ q => nomatch q) rfl (Nat.le_of_eq rfl) rfl (by decide) (by decide) (pc' := 206) rfl ?_
          intro w29 h29 q29 Kc29
          obtain ⟨rfl, rfl⟩ := q29
          refine g_if_eq_t at_206 (if_neg (fun z => P0 (by rw [q, z]; rfl))) (pc' := 215) (by decide) rfl ?_
          exact J
        ·
          refine g_if_eq_t at_198 (if_neg q) (pc' := 215) (by decide) rfl ?_
          exact J
    ·
      refine g_iload at_79 rfl (pc' := 81) rfl ?_
      refine g_if_ne_t at_81 (by decide) (pc' := 99) (by decide) rfl ?_
      refine g_iload at_99 rfl (pc' := 101) rfl ?_
      refine g_iconst at_101 (v := 1) rfl (pc' := 102) rfl ?_
      refine g_icmp_ne_t at_102 (by decide) (pc' := 125) (by decide) rfl ?_
      refine g_iload at_125 rfl (pc' := 127) rfl ?_
      refine g_iconst at_127 (v := 2) rfl (pc' := 128) rfl ?_
      refine g_icmp_ne_t at_128 (by decide) (pc' := 156) (by decide) rfl ?_
      refine g_new at_156 (w_32 hw) (w_16 hw) (w_8 hw) (by decide) (by decide) (pc' := 159) rfl ?_
      intro xs h30 g30 Kn30 E_xs D30 sz_xs
      have F_value_xs : Fld Z h30 xs "java/lang/String" "value" "[B" .null := D30 (Or.inr (w_29 hw)) (ty := (.array .byte)) (by decide)
      have F_coder_xs : Fld Z h30 xs "java/lang/String" "coder" "B" (.int 0) := D30 (Or.inr (w_31 hw)) (ty := .byte) (by decide)
      refine g_dup at_159 rfl (pc' := 160) rfl ?_
      refine g_iconst at_160 (v := 3) rfl (pc' := 161) rfl ?_
      refine g_newA at_161 (w_33 hw) rfl (by decide) (cap := 3) (by decide) (by decide) (by decide) (by decide) (pc' := 163) rfl ?_
      intro cb h31 g31 Kn31 A_cb sz_cb
      replace A_cb : Ia Z h31 cb .char [0, 0, 0] := A_cb
      refine g_dup at_163 rfl (pc' := 164) rfl ?_
      refine g_iconst at_164 (v := 0) rfl (pc' := 165) rfl ?_
      refine g_iload at_165 rfl (pc' := 167) rfl ?_
      refine g_castore at_167 A_cb (by decide) (i := 0) rfl (Nat.le_of_ble_eq_true rfl) (Or.inr sz_cb) (List.mem_of_getElem? (i := 0) rfl) (pc' := 168) rfl ?_
      intro h32 Kw32 A_cb_32
      replace A_cb_32 : Ia Z h32 cb .char [c0, 0, 0] := (by rw [(get16 c0 b0).2] at A_cb_32; exact A_cb_32)
      refine g_dup at_168 rfl (pc' := 169) rfl ?_
      refine g_iconst at_169 (v := 1) rfl (pc' := 170) rfl ?_
      refine g_iload at_170 rfl (pc' := 172) rfl ?_
      refine g_castore at_172 A_cb_32 (by decide) (i := 1) rfl (Nat.le_of_ble_eq_true rfl) (Or.inr sz_cb) (List.mem_of_getElem? (i := 0) rfl) (pc' := 173) rfl ?_
      intro h33 Kw33 A_cb_33
      replace A_cb_33 : Ia Z h33 cb .char [c0, c1, 0] := (by rw [(get16 c1 b1).2] at A_cb_33; exact A_cb_33)
      refine g_dup at_173 rfl (pc' := 174) rfl ?_
      refine g_iconst at_174 (v := 2) rfl (pc' := 175) rfl ?_
      refine g_iload at_175 rfl (pc' := 177) rfl ?_
      refine g_castore at_177 A_cb_33 (by decide) (i := 2) rfl (Nat.le_of_ble_eq_true rfl) (Or.inr sz_cb) (List.mem_of_getElem? (i := 0) rfl) (pc' := 178) rfl ?_
      intro h34 Kw34 A_cb_34
      replace A_cb_34 : Ia Z h34 cb .char [c0, c1, c2] := (by rw [(get16 c2 b2).2] at A_cb_34; exact A_cb_34)
      refine g_init (W := 1) (argsL := [(.ref cb)]) (rest := [(.ref xs)]) at_178 rfl (w_34 hw) (w_35 hw) (by decide) (lenOf pd_22 rfl) (c_ic hw xs cb [c0, c1, c2] z _ _ _ hC hz hA hH hL ((((E_xs.keep Kn31).keep Kw32).keep Kw33).keep Kw34) ((((F_value_xs.keep Kn31 nin0).keep Kw32 (ninS (Nat.ne_of_lt (Nat.lt_of_lt_of_le (E_xs).lt (Nat.le_of_eq g31.symm))) nin0)).keep Kw33 (ninS (Nat.ne_of_lt (Nat.lt_of_lt_of_le (E_xs).lt (Nat.le_of_eq g31.symm))) nin0)).keep Kw34 (ninS (Nat.ne_of_lt (Nat.lt_of_lt_of_le (E_xs).lt (Nat.le_of_eq g31.symm))) nin0)) ((((F_coder_xs.keep Kn31 nin0).keep Kw32 (ninS (Nat.ne_of_lt (Nat.lt_of_lt_of_le (E_xs).lt (Nat.le_of_eq g31.symm))) nin0)).keep Kw33 (ninS (Nat.ne_of_lt (Nat.lt_of_lt_of_le (E_xs).lt (Nat.le_of_eq g31.symm))) nin0)).keep Kw34 (ninS (Nat.ne_of_lt (Nat.lt_of_lt_of_le (E_xs).lt (Nat.le_of_eq g31.symm))) nin0)) A_cb_34 (all3 b0 b1 b2) (Nat.le_of_ble_eq_true rfl) (Nat.le_of_ble_eq_true rfl)) (w_36 hw) (w_8 hw) (by decide) (by decide) (allS ⟨(Or.inr sz_xs), (List.mem_of_getElem? (i := 1) rfl)⟩ all0) rfl (Nat.le_of_eq rfl) rfl (by decide) (by decide) (pc' := 181) rfl ?_
      intro w35 h35 q35 Kc35
      obtain ⟨ts, hts, Ss⟩ := q35
      refine g_astore at_181 rfl (L' := #[.val (.int p0), .val (.int p1), .val (.int p2), .val (.int p3), .val (.int p4), .val (.int c0), .val (.int c1), .val (.int c2), .val (.int 3), .val (.int 0), .val (.ref sf'), .val (.ref xs), .unset, .unset, .unset]) rfl (pc' := 183) rfl ?_
      refine g_iload at_183 rfl (pc' := 185) rfl ?_
      refine g_istore at_185 (L' := #[.val (.int p0), .val (.int p1), .val (.int p2), .val (.int p3), .val (.int p4), .val (.int c0), .val (.int c1), .val (.int c2), .val (.int 3), .val (.int 0), .val (.ref sf'), .val (.ref xs), .val (.int 3), .unset, .unset]) rfl (pc' := 187) rfl ?_
      refine g_iload at_187 rfl (pc' := 189) rfl ?_
      refine g_iconst at_189 (v := 2) rfl (pc' := 190) rfl ?_
      refine g_icmp_lt_f at_190 (by decide) (pc' := 193) rfl ?_
      refine g_iload at_193 rfl (pc' := 195) rfl ?_
      refine g_static (W := 0) (argsL := [(.int c0)]) (rest := []) at_195 (w_110 hw) (w_111 hw) (by decide) (lenOf pd_0 rfl) (c_ih hw c0 _) (w_112 hw) (w_2 hw) (by decide) (by decide) (fun _ q => nomatch q) rfl (Nat.le_of_eq rfl) rfl (by decide) (by decide) (pc' := 198) rfl ?_
      intro w36 h36 q36 Kc36
      obtain ⟨rfl, rfl⟩ := q36
      by_cases P0 : (isHi c0 && isLo c1) = true
      · obtain ⟨hh0, ll0⟩ := Bool.and_eq_true_iff.mp P0
        refine g_if_eq_f at_198 (by rw [if_pos hh0]; decide) (pc' := 201) rfl ?_
        refine g_iload at_201 rfl (pc' := 203) rfl ?_
        refine g_static (W := 0) (argsL := [(.int c1)]) (rest := []) at_203 (w_114 hw) (w_115 hw) (by decide) (lenOf pd_0 rfl) (c_il hw c1 _) (w_116 hw) (w_2 hw) (by decide) (by decide) (fun _ q => nomatch q) rfl (Nat.le_of_eq rfl) rfl (by decide) (by decide) (pc' := 206) rfl ?_
        intro w37 h37 q37 Kc37
        obtain ⟨rfl, rfl⟩ := q37
        refine g_if_eq_f at_206 (by rw [if_pos ll0]; decide) (pc' := 209) rfl ?_
        refine g_iload at_209 rfl (pc' := 211) rfl ?_
        refine g_iconst at_211 (v := 1) rfl (pc' := 212) rfl ?_
        refine g_isub at_212 (v := 2) rfl (pc' := 213) rfl ?_
        refine g_istore at_213 (L' := #[.val (.int p0), .val (.int p1), .val (.int p2), .val (.int p3), .val (.int p4), .val (.int c0), .val (.int c1), .val (.int c2), .val (.int 3), .val (.int 0), .val (.ref sf'), .val (.ref xs), .val (.int 2), .unset, .unset]) rfl (pc' := 215) rfl ?_
        refine g_iload at_215 rfl (pc' := 217) rfl ?_
        refine g_iconst at_217 (v := 3) rfl (pc' := 218) rfl ?_
        refine g_icmp_ne_f at_218 rfl (pc' := 221) rfl ?_
        refine g_iload at_221 rfl (pc' := 223) rfl ?_
        refine g_static (W := 0) (argsL := [(.int c1)]) (rest := []) at_223 (w_110 hw) (w_111 hw) (by decide) (lenOf pd_0 rfl) (c_ih hw c1 _) (w_112 hw) (w_2 hw) (by decide) (by decide) (fun _ q => nomatch q) rfl (Nat.le_of_eq rfl) rfl (by decide) (by decide) (pc' := 226) rfl ?_
        intro w38 h38 q38 Kc38
        obtain ⟨rfl, rfl⟩ := q38
        by_cases P1 : (isHi c1 && isLo c2) = true
        · obtain ⟨hh1, ll1⟩ := Bool.and_eq_true_iff.mp P1
          exact absurd ll0 (by rw [hi_lo c1 hh1]; decide)
        · have J : Go l Z n0 ELs x code maxLocals ret room_1 h0 [] false (fun w h => w = .int 1) K [cb, xs] h35 6 36 243 #[.val (.int p0), .val (.int p1), .val (.int p2), .val (.int p3), .val (.int p4), .val (.int c0), .val (.int c1), .val (.int c2), .val (.int 3), .val (.int 0), .val (.ref sf'), .val (.ref xs), .val (.int 2), .unset, .unset] [] := by
            have e0 : ps [c0, c1, c2] 0 = true := P0
            have e1 : ps [c0, c1, c2] 1 = false := Bool.eq_false_iff.mpr P1
            have hct : Int32.ofNat (([c0, c1, c2] : List Int32).length - cpc [c0, c1, c2] ([c0, c1, c2] : List Int32).length 0) = 2 := by simp [cpc, e0, e1] <;> rfl
            refine g_iload at_243 rfl (pc' := 245) rfl ?_
            refine g_iloadN at_245 rfl (pc' := 246) rfl ?_
            refine g_static (W := 0) (argsL := [(.int 2), (.int p3)]) (rest := []) at_246 (w_43 hw) (w_44 hw) (by decide) (lenOf pd_18 rfl) (c_max hw 2 p3 _) (w_46 hw) (w_45 hw) (by decide) (by decide) (fun _ q => nomatch q) rfl (Nat.le_of_eq rfl) rfl (by decide) (by decide) (pc' := 249) rfl ?_
            intro w39 h39 q39 Kc39
            obtain ⟨mx, rfl, hmx, rfl⟩ := q39
            refine g_istore at_249 (L' := #[.val (.int p0), .val (.int p1), .val (.int p2), .val (.int p3), .val (.int p4), .val (.int c0), .val (.int c1), .val (.int c2), .val (.int 3), .val (.int 0), .val (.ref sf'), .val (.ref xs), .val (.int 2), .val (.int mx), .unset]) rfl (pc' := 251) rfl ?_
            refine g_aload at_251 rfl rfl (pc' := 253) rfl ?_
            refine g_aload at_253 rfl rfl (pc' := 255) rfl ?_
            refine g_iload at_255 rfl (pc' := 257) rfl ?_
            refine g_static (W := 0) (argsL := [(.ref sf'), (.ref xs), (.int mx)]) (rest := []) at_257 (w_47 hw) (w_48 hw) (by decide) (lenOf pd_21 rfl) (c_am hw sf' xs ts mx [c0, c1, c2] z _ hC hz hA hH hL Ss (by rw [hct]; exact hmx)) (w_50 hw) (w_49 hw) (by decide) (by decide) (fun _ q => nomatch q) rfl (Nat.le_of_eq rfl) rfl (by decide) (by decide) (pc' := 260) rfl ?_
            intro w40 h40 q40 Kc40
            obtain ⟨rfl, rfl⟩ := q40
            refine g_astore at_260 rfl (L' := #[.val (.int p0), .val (.int p1), .val (.int p2), .val (.int p3), .val (.int p4), .val (.int c0), .val (.int c1), .val (.int c2), .val (.int 3), .val (.int 0), .val (.ref sf'), .val (.ref xs), .val (.int 2), .val (.int mx), .val (.ref xs)]) rfl (pc' := 262) rfl ?_
            refine g_aload at_262 rfl rfl (pc' := 264) rfl ?_
            refine g_aload at_264 rfl rfl (pc' := 266) rfl ?_
            refine g_acmp_ne_f at_266 rfl rfl rfl (pc' := 269) rfl ?_
            refine g_iconst at_269 (v := 1) rfl (pc' := 270) rfl ?_
            refine g_goto at_270 (pc' := 274) (by decide) rfl ?_
            exact g_ireturnN at_274 rfl (by simp) (z := 1) rfl rfl (by decide) (by decide)
          by_cases q : isHi c1 = true
          ·
            refine g_if_eq_f at_226 (by rw [if_pos q]; decide) (pc' := 229) rfl ?_
            refine g_iload at_229 rfl (pc' := 231) rfl ?_
            refine g_static (W := 0) (argsL := [(.int c2)]) (rest := []) at_231 (w_114 hw) (w_115 hw) (by decide) (lenOf pd_0 rfl) (c_il hw c2 _) (w_116 hw) (w_2 hw) (by decide) (by decide) (fun _ q => nomatch q) rfl (Nat.le_of_eq rfl) rfl (by decide) (by decide) (pc' := 234) rfl ?_
            intro w41 h41 q41 Kc41
            obtain ⟨rfl, rfl⟩ := q41
            refine g_if_eq_t at_234 (if_neg (fun z => P1 (by rw [q, z]; rfl))) (pc' := 243) (by decide) rfl ?_
            exact J
          ·
            refine g_if_eq_t at_226 (if_neg q) (pc' := 243) (by decide) rfl ?_
            exact J
      · have J : Go l Z n0 ELs x code maxLocals ret room_1 h0 [] false (fun w h => w = .int 1) K [cb, xs] h35 6 36 215 #[.val (.int p0), .val (.int p1), .val (.int p2), .val (.int p3), .val (.int p4), .val (.int c0), .val (.int c1), .val (.int c2), .val (.int 3), .val (.int 0), .val (.ref sf'), .val (.ref xs), .val (.int 3), .unset, .unset] [] := by
          refine g_iload at_215 rfl (pc' := 217) rfl ?_
          refine g_iconst at_217 (v := 3) rfl (pc' := 218) rfl ?_
          refine g_icmp_ne_f at_218 rfl (pc' := 221) rfl ?_
          refine g_iload at_221 rfl (pc' := 223) rfl ?_
          refine g_static (W := 0) (argsL := [(.int c1)]) (rest := []) at_223 (w_110 hw) (w_111 hw) (by decide) (lenOf pd_0 rfl) (c_ih hw c1 _) (w_112 hw) (w_2 hw) (by decide) (by decide) (fun _ q => nomatch q) rfl (Nat.le_of_eq rfl) rfl (by decide) (by decide) (pc' := 226) rfl ?_
          intro w42 h42 q42 Kc42
          obtain ⟨rfl, rfl⟩ := q42
          by_cases P1 : (isHi c1 && isLo c2) = true
          · obtain ⟨hh1, ll1⟩ := Bool.and_eq_true_iff.mp P1
            refine g_if_eq_f at_226 (by rw [if_pos hh1]; decide) (pc' := 229) rfl ?_
            refine g_iload at_229 rfl (pc' := 231) rfl ?_
            refine g_static (W := 0) (argsL := [(.int c2)]) (rest := []) at_231 (w_114 hw) (w_115 hw) (by decide) (lenOf pd_0 rfl) (c_il hw c2 _) (w_116 hw) (w_2 hw) (by decide) (by decide) (fun _ q => nomatch q) rfl (Nat.le_of_eq rfl) rfl (by decide) (by decide) (pc' := 234) rfl ?_
            intro w43 h43 q43 Kc43
            obtain ⟨rfl, rfl⟩ := q43
            refine g_if_eq_f at_234 (by rw [if_pos ll1]; decide) (pc' := 237) rfl ?_
            refine g_iload at_237 rfl (pc' := 239) rfl ?_
            refine g_iconst at_239 (v := 1) rfl (pc' := 240) rfl ?_
            refine g_isub at_240 (v := 2) rfl (pc' := 241) rfl ?_
            refine g_istore at_241 (L' := #[.val (.int p0), .val (.int p1), .val (.int p2), .val (.int p3), .val (.int p4), .val (.int c0), .val (.int c1), .val (.int c2), .val (.int 3), .val (.int 0), .val (.ref sf'), .val (.ref xs), .val (.int 2), .unset, .unset]) rfl (pc' := 243) rfl ?_
            have e0 : ps [c0, c1, c2] 0 = false := Bool.eq_false_iff.mpr P0
            have e1 : ps [c0, c1, c2] 1 = true := P1
            have hct : Int32.ofNat (([c0, c1, c2] : List Int32).length - cpc [c0, c1, c2] ([c0, c1, c2] : List Int32).length 0) = 2 := by simp [cpc, e0, e1] <;> rfl
            refine g_iload at_243 rfl (pc' := 245) rfl ?_
            refine g_iloadN at_245 rfl (pc' := 246) rfl ?_
            refine g_static (W := 0) (argsL := [(.int 2), (.int p3)]) (rest := []) at_246 (w_43 hw) (w_44 hw) (by decide) (lenOf pd_18 rfl) (c_max hw 2 p3 _) (w_46 hw) (w_45 hw) (by decide) (by decide) (fun _ q => nomatch q) rfl (Nat.le_of_eq rfl) rfl (by decide) (by decide) (pc' := 249) rfl ?_
            intro w44 h44 q44 Kc44
            obtain ⟨mx, rfl, hmx, rfl⟩ := q44
            refine g_istore at_249 (L' := #[.val (.int p0), .val (.int p1), .val (.int p2), .val (.int p3), .val (.int p4), .val (.int c0), .val (.int c1), .val (.int c2), .val (.int 3), .val (.int 0), .val (.ref sf'), .val (.ref xs), .val (.int 2), .val (.int mx), .unset]) rfl (pc' := 251) rfl ?_
            refine g_aload at_251 rfl rfl (pc' := 253) rfl ?_
            refine g_aload at_253 rfl rfl (pc' := 255) rfl ?_
            refine g_iload at_255 rfl (pc' := 257) rfl ?_
            refine g_static (W := 0) (argsL := [(.ref sf'), (.ref xs), (.int mx)]) (rest := []) at_257 (w_47 hw) (w_48 hw) (by decide) (lenOf pd_21 rfl) (c_am hw sf' xs ts mx [c0, c1, c2] z _ hC hz hA hH hL Ss (by rw [hct]; exact hmx)) (w_50 hw) (w_49 hw) (by decide) (by decide) (fun _ q => nomatch q) rfl (Nat.le_of_eq rfl) rfl (by decide) (by decide) (pc' := 260) rfl ?_
            intro w45 h45 q45 Kc45
            obtain ⟨rfl, rfl⟩ := q45
            refine g_astore at_260 rfl (L' := #[.val (.int p0), .val (.int p1), .val (.int p2), .val (.int p3), .val (.int p4), .val (.int c0), .val (.int c1), .val (.int c2), .val (.int 3), .val (.int 0), .val (.ref sf'), .val (.ref xs), .val (.int 2), .val (.int mx), .val (.ref xs)]) rfl (pc' := 262) rfl ?_
            refine g_aload at_262 rfl rfl (pc' := 264) rfl ?_
            refine g_aload at_264 rfl rfl (pc' := 266) rfl ?_
            refine g_acmp_ne_f at_266 rfl rfl rfl (pc' := 269) rfl ?_
            refine g_iconst at_269 (v := 1) rfl (pc' := 270) rfl ?_
            refine g_goto at_270 (pc' := 274) (by decide) rfl ?_
            exact g_ireturnN at_274 rfl (by simp) (z := 1) rfl rfl (by decide) (by decide)
          · have J : Go l Z n0 ELs x code maxLocals ret room_1 h0 [] false (fun w h => w = .int 1) K [cb, xs] h35 6 36 243 #[.val (.int p0), .val (.int p1), .val (.int p2), .val (.int p3), .val (.int p4), .val (.int c0), .val (.int c1), .val (.int c2), .val (.int 3), .val (.int 0), .val (.ref sf'), .val (.ref xs), .val (.int 3), .unset, .unset] [] := by
              have e0 : ps [c0, c1, c2] 0 = false := Bool.eq_false_iff.mpr P0
              have e1 : ps [c0, c1, c2] 1 = false := Bool.eq_false_iff.mpr P1
              have hct : Int32.ofNat (([c0, c1, c2] : List Int32).length - cpc [c0, c1, c2] ([c0, c1, c2] : List Int32).length 0) = 3 := by simp [cpc, e0, e1] <;> rfl
              refine g_iload at_243 rfl (pc' := 245) rfl ?_
              refine g_iloadN at_245 rfl (pc' := 246) rfl ?_
              refine g_static (W := 0) (argsL := [(.int 3), (.int p3)]) (rest := []) at_246 (w_43 hw) (w_44 hw) (by decide) (lenOf pd_18 rfl) (c_max hw 3 p3 _) (w_46 hw) (w_45 hw) (by decide) (by decide) (fun _ q => nomatch q) rfl (Nat.le_of_eq rfl) rfl (by decide) (by decide) (pc' := 249) rfl ?_
              intro w46 h46 q46 Kc46
              obtain ⟨mx, rfl, hmx, rfl⟩ := q46
              refine g_istore at_249 (L' := #[.val (.int p0), .val (.int p1), .val (.int p2), .val (.int p3), .val (.int p4), .val (.int c0), .val (.int c1), .val (.int c2), .val (.int 3), .val (.int 0), .val (.ref sf'), .val (.ref xs), .val (.int 3), .val (.int mx), .unset]) rfl (pc' := 251) rfl ?_
              refine g_aload at_251 rfl rfl (pc' := 253) rfl ?_
              refine g_aload at_253 rfl rfl (pc' := 255) rfl ?_
              refine g_iload at_255 rfl (pc' := 257) rfl ?_
              refine g_static (W := 0) (argsL := [(.ref sf'), (.ref xs), (.int mx)]) (rest := []) at_257 (w_47 hw) (w_48 hw) (by decide) (lenOf pd_21 rfl) (c_am hw sf' xs ts mx [c0, c1, c2] z _ hC hz hA hH hL Ss (by rw [hct]; exact hmx)) (w_50 hw) (w_49 hw) (by decide) (by decide) (fun _ q => nomatch q) rfl (Nat.le_of_eq rfl) rfl (by decide) (by decide) (pc' := 260) rfl ?_
              intro w47 h47 q47 Kc47
              obtain ⟨rfl, rfl⟩ := q47
              refine g_astore at_260 rfl (L' := #[.val (.int p0), .val (.int p1), .val (.int p2), .val (.int p3), .val (.int p4), .val (.int c0), .val (.int c1), .val (.int c2), .val (.int 3), .val (.int 0), .val (.ref sf'), .val (.ref xs), .val (.int 3), .val (.int mx), .val (.ref xs)]) rfl (pc' := 262) rfl ?_
              refine g_aload at_262 rfl rfl (pc' := 264) rfl ?_
              refine g_aload at_264 rfl rfl (pc' := 266) rfl ?_
              refine g_acmp_ne_f at_266 rfl rfl rfl (pc' := 269) rfl ?_
              refine g_iconst at_269 (v := 1) rfl (pc' := 270) rfl ?_
              refine g_goto at_270 (pc' := 274) (by decide) rfl ?_
              exact g_ireturnN at_274 rfl (by simp) (z := 1) rfl rfl (by decide) (by decide)
            by_cases q : isHi c1 = true
            ·
              refine g_if_eq_f at_226 (by rw [if_pos q]; decide) (pc' := 229) rfl ?_
              refine g_iload at_229 rfl (pc' := 231) rfl ?_
              refine g_static (W := 0) (argsL := [(.int c2)]) (rest := []) at_231 (w_114 hw) (w_115 hw) (by decide) (lenOf pd_0 rfl) (c_il hw c2 _) (w_116 hw) (w_2 hw) (by decide) (by decide) (fun _ q => nomatch q) rfl (Nat.le_of_eq rfl) rfl (by decide) (by decide) (pc' := 234) rfl ?_
              intro w48 h48 q48 Kc48
              obtain ⟨rfl, rfl⟩ := q48
              refine g_if_eq_t at_234 (if_neg (fun z => P1 (by rw [q, z]; rfl))) (pc' := 243) (by decide) rfl ?_
              exact J
            ·
              refine g_if_eq_t at_226 (if_neg q) (pc' := 243) (by decide) rfl ?_
              exact J
        by_cases q : isHi c0 = true
        ·
          refine g_if_eq_f at_198 (by rw [if_pos q]; decide) (pc' := 201) rfl ?_
          refine g_iload at_201 rfl (pc' := 203) rfl ?_
          refine g_static (W := 0) (argsL := [(.int c1)]) (rest := []) at_203 (w_114 hw) (w_115 hw) (by decide) (lenOf pd_0 rfl) (c_il hw c1 _) (w_116 hw) (w_2 hw) (by decide) (by decide) (fun _ q => nomatch q) rfl (Nat.le_of_eq rfl) rfl (by decide) (by decide) (pc' := 206) rfl ?_
          intro w49 h49 q49 Kc49
          obtain ⟨rfl, rfl⟩ := q49
          refine g_if_eq_t at_206 (if_neg (fun z => P0 (by rw [q, z]; rfl))) (pc' := 215) (by decide) rfl ?_
          exact J
        ·
          refine g_if_eq_t at_198 (if_neg q) (pc' := 215) (by decide) rfl ?_
          exact J
  ·
    refine g_if_eq_f at_30 q (pc' := 33) rfl ?_
    refine g_iconst at_33 (v := 1) rfl (pc' := 34) rfl ?_
    refine g_goto at_34 (pc' := 38) (by decide) rfl ?_
    refine g_istore at_38 (L' := #[.val (.int p0), .val (.int p1), .val (.int p2), .val (.int p3), .val (.int p4), .val (.int c0), .val (.int c1), .val (.int c2), .val (.int nn), .val (.int 1), .unset, .unset, .unset, .unset, .unset]) rfl (pc' := 40) rfl ?_
    refine g_iload at_40 rfl (pc' := 42) rfl ?_
    refine g_iconst at_42 (v := 3) rfl (pc' := 43) rfl ?_
    refine g_ishr at_43 rfl (pc' := 44) rfl ?_
    refine g_sipush at_44 (v := 255) rfl (pc' := 47) rfl ?_
    refine g_iand at_47 rfl (pc' := 48) rfl ?_
    refine g_i2c at_48 (v := cf) hcf (pc' := 49) rfl ?_
    refine g_static (W := 0) (argsL := [(.int cf)]) (rest := []) at_49 (w_6 hw) (w_7 hw) (by decide) (lenOf pd_20 rfl) (c_valueof hw cf z _ hC hz bcf) (w_9 hw) (w_8 hw) (by decide) (by decide) (fun _ q => nomatch q) rfl (Nat.le_of_eq rfl) rfl (by decide) (by decide) (pc' := 52) rfl ?_
    intro w4 h4 q4 Kc4
    obtain ⟨sf', tf, rfl, hxf, htf, Sf⟩ := q4
    refine g_astore at_52 rfl (L' := #[.val (.int p0), .val (.int p1), .val (.int p2), .val (.int p3), .val (.int p4), .val (.int c0), .val (.int c1), .val (.int c2), .val (.int nn), .val (.int 1), .val (.ref sf'), .unset, .unset, .unset, .unset]) rfl (pc' := 54) rfl ?_
    refine g_iload at_54 rfl (pc' := 56) rfl ?_
    refine g_if_eq_f at_56 (by decide) (pc' := 59) rfl ?_
    refine g_aload at_59 rfl rfl (pc' := 61) rfl ?_
    refine g_null at_61 (pc' := 62) rfl ?_
    refine g_iloadN at_62 rfl (pc' := 63) rfl ?_
    refine g_static (W := 0) (argsL := [(.ref sf'), .null, (.int p3)]) (rest := []) at_63 (w_47 hw) (w_48 hw) (by decide) (lenOf pd_21 rfl) (c_am0 hw sf' p3 _) (w_50 hw) (w_49 hw) (by decide) (by decide) (fun _ q => nomatch q) rfl (Nat.le_of_eq rfl) rfl (by decide) (by decide) (pc' := 66) rfl ?_
    intro w5 h5 q5 Kc5
    obtain ⟨rfl, rfl⟩ := q5
    refine g_astore at_66 rfl (L' := #[.val (.int p0), .val (.int p1), .val (.int p2), .val (.int p3), .val (.int p4), .val (.int c0), .val (.int c1), .val (.int c2), .val (.int nn), .val (.int 1), .val (.ref sf'), .val .null, .unset, .unset, .unset]) rfl (pc' := 68) rfl ?_
    refine g_aload at_68 rfl rfl (pc' := 70) rfl ?_
    refine g_ifnonnull_f at_70  (pc' := 73) rfl ?_
    refine g_iconst at_73 (v := 1) rfl (pc' := 74) rfl ?_
    refine g_goto at_74 (pc' := 78) (by decide) rfl ?_
    exact g_ireturnN at_78 rfl (by simp) (z := 1) rfl rfl (by decide) (by decide)
set_option maxRecDepth 65536 in
set_option maxHeartbeats 40000000 in
theorem comes_1 {Post : Tables → Env → Array Value → State → Outcome → State → Prop} (hpost : ∀ tb e args s v u, (limb_1_1.after args s (.returned v) u = true ∧ limb_1_2.after args s (.returned v) u = true ∧ True) → ReturnedEndW s (.returned v) u (Jvm.fieldLocs frame_1_writes args s ++ Jvm.arrayLocs frame_1_arrays args s ++ Jvm.staticLocs frame_1_statics s) 24 1152 → Post tb e args s (.returned v) u) :
    ArmFor flags0 classFile x code maxLocals ret World_1 tables_1 room_1 Calls_1 rest_1 Pre_1 Post := by
  intro l hfl _ _ p e ha hc hk s m args below hf hArg hHeap happ hP
  obtain ⟨hcalls, hrest, hpre⟩ := hP
  obtain ⟨-, -, -, hnamed, -, -, -, hat⟩ := (Spec.applies_iff hf).mp happ
  obtain ⟨hg, hn⟩ := and_e (Cond.before_iff.mp (show (Jvm.Cond.and given_1 narrow_1).before args s = true from hpre))
  obtain ⟨g1, g2⟩ := and_e hg
  obtain ⟨g3, g4⟩ := and_e g2
  obtain ⟨g5, g6⟩ := and_e g4
  obtain ⟨g7, g8⟩ := and_e g6
  obtain ⟨g9, g10⟩ := and_e g8
  obtain ⟨w0, w1, w2, w3, w4, rfl⟩ : ∃ w0 w1 w2 w3 w4 : Value, args = #[w0, w1, w2, w3, w4] := by
    have hs : args.size = 5 := by simpa [Cond.value, given_1] using g1
    obtain ⟨L⟩ := args
    match L, hs with
    | [w0, w1, w2, w3, w4], _ => exact ⟨w0, w1, w2, w3, w4, rfl⟩
  have hw : Hw #[w0, w1, w2, w3, w4] s := fun d (hd : d ∈ tables_1) => atoms_spec (ws := Jvm.Cond.code x code maxLocals ret :: tables_1) hat d (List.mem_cons_of_mem _ hd)
  have hfit : Fit s := fun {y c} hc i hi => by
    obtain ⟨ha, rfl⟩ := Array.getElem?_eq_some_iff.mp hc
    have q := List.all_eq_true.mp ((Array.all_eq_true_iff_forall_mem.mp hHeap) _ (Array.getElem_mem ha)) i (List.mem_range.mpr hi)
    simpa [Array.getElem?_eq_getElem hi] using q
  obtain ⟨hsets, hown0⟩ := atoms_of _ (rest_1_c_eq ▸ (show rest_1_c.before _ s = true from hrest))
  have hr0 := Cond.before_iff.mp hown0
  obtain ⟨zz, e_zz⟩ := is_v (Cond.before_iff.mp (hsets _ (List.mem_of_getElem? (i := 1) rfl)))
  have hC : Sta s s.heap "java/lang/String" "COMPACT_STRINGS" "Z" (.int zz) := Sta.start e_zz (Or.inl (hsets _ (List.mem_of_getElem? (i := 0) rfl)))
  have hz : ¬ zz = 0 := gotF (Cond.eq_ints e_zz (Term.int_eval (0))) (not_v (Cond.before_iff.mp (hsets _ (List.mem_of_getElem? (i := 2) rfl))))
  have hA : Sta s s.heap "java/lang/StringUTF16" "$assertionsDisabled" "Z" (.int 1) := sta_eq (hsets _ (List.mem_of_getElem? (i := 12) rfl)) (hsets _ (List.mem_of_getElem? (i := 11) rfl))
  have hH : Sta s s.heap "java/lang/StringUTF16" "HI_BYTE_SHIFT" "I" (.int 0) := sta_eq (hsets _ (List.mem_of_getElem? (i := 15) rfl)) (hsets _ (List.mem_of_getElem? (i := 14) rfl))
  have hL : Sta s s.heap "java/lang/StringUTF16" "LO_BYTE_SHIFT" "I" (.int 8) := sta_eq (hsets _ (List.mem_of_getElem? (i := 18) rfl)) (hsets _ (List.mem_of_getElem? (i := 17) rfl))
  obtain ⟨i0, ei0⟩ := is_v g3
  obtain rfl : w0 = (.int i0) := Option.some.inj ei0
  obtain ⟨i1, ei1⟩ := is_v g5
  obtain rfl : w1 = (.int i1) := Option.some.inj ei1
  obtain ⟨i2, ei2⟩ := is_v g7
  obtain rfl : w2 = (.int i2) := Option.some.inj ei2
  obtain ⟨i3, ei3⟩ := is_v g9
  obtain rfl : w3 = (.int i3) := Option.some.inj ei3
  obtain ⟨i4, ei4⟩ := is_v g10
  obtain rfl : w4 = (.int i4) := Option.some.inj ei4
  have hEW := (EW.cons (w_40 hw) (by decide) EW.nil)
  have hCH : CHv s ELs s.vm s.heap := CHv.start hEW (fun p hp => hcalls.1 p hp) (hsets _ (List.mem_of_getElem? (i := 2) rfl)) (w_20 hw) (w_16 hw)
  have C := c_law (l := l) (n0 := s.heap.size) hw i0 i1 i2 i3 i4 zz s.heap hC hz hA hH hL
  obtain ⟨n, o, h1, h2, h3, v, L, rfl, ⟨⟨w, rfl, rfl, -, -⟩, N⟩, -, hq⟩ := C (Old.start s) (fun _ q => nomatch q) ⟨_, hEW⟩ p e ha hc hk s m _ below hf ((Spec.applies_iff_loose hf).mp happ).1 ⟨rfl, State.Warmed39.refl s, rfl, hCH, fun _ q => nomatch q⟩ trivial
  refine ⟨n, _, h1, h2, h3, hpost _ _ _ _ (some (.int 1)) _ ⟨Cond.after_iff.mpr rfl, Cond.after_iff.mpr (eq_i res_at (Term.int_eval (1)) rfl), trivial⟩ ⟨hq.1, hq.2.1, hq.2.2.1, (hq.2.2.2.sift fun y hy => Or.inr ((N y hy).elim (fun q => nomatch q) id)).mono (by decide) (by decide)⟩⟩
theorem main_1_1 : Claimed_1_1 := comes_1 fun _ _ _ _ _ _ h hF => ⟨h.1, hF⟩
theorem main_1_2 : Claimed_1_2 := comes_1 fun _ _ _ _ _ _ h hF => ⟨h.2.1, hF⟩
end Jvm.Pilot.@@N@@
namespace Jvm.Pilot.@@N@@
open Jvm Jvm.ClassFile Sem Op Lib Jvm.Free Jvm.Stand Jvm.Pilot.@@N@@.Jvm.D
/-! MADE BY PROGRAM (witnessworld.py) out of the Statement's table words and the real class files: 23 classes; the members and pool entries that the words name. The judged class is class 1, her method 4. -/
namespace start1
open Jvm.ClassFile
def u (s : String) : CpInfo := .utf8 (stringToUtf16 s)
/-- a pool by its gaps: so many unusable entries, then the entry; so many at the end -/
def gap : Nat → List CpInfo → List CpInfo
  | 0, r => r
  | n + 1, r => .unusable :: gap n r
def poolList (es : List (Nat × CpInfo)) (last : Nat) : List CpInfo := es.foldr (fun e r => gap e.1 (e.2 :: r)) (gap last [])
def pool (es : List (Nat × CpInfo)) (last : Nat) : Array CpInfo := ⟨poolList es last⟩
def fileOf (pool : Array CpInfo) (this : Nat) (attrs : Array Attribute := #[]) (ms : Array MethodInfo := #[]) (fl : Nat := 33) (sup : Nat := 0) (ifs : Array Nat := #[]) (fds : Array FieldInfo := #[]) : ClassFile where
  minorVersion := 0
  majorVersion := 65
  constantPool := pool
  accessFlags := fl
  thisClass := this
  superClass := sup
  interfaces := ifs
  fields := fds
  methods := ms
  attributes := attrs
def plain (name : String) (sup : Option ClassId) : Class where
  name := name
  kind := .ordinary
  loader := none
  accessFlags := 33
  super := sup
  interfaces := #[]
  cf := none
  fields := #[]
  methods := #[]
  instanceTypes := #[]
  staticTypes := #[]
  resolved := #[]
  callSites := []
  init := .initialized
  statics := none
  mirror := none

def pool0 : Array CpInfo := pool [(5, u "<init>"), (0, u "()V"), (1, .class_ 10), (1, u "java/lang/Object")] 113

def k0c0 : Code := { maxStack := 0, maxLocals := 1, code := object_method_1_code, exceptionTable := #[], attributes := #[] }
def k0m0 : Method := { name := "<init>", desc := "()V", sig := { parameters := [], returnType := none }, accessFlags := 1, code := some k0c0 }
/-- java/lang/Object -/
def k0 : Class := { plain "java/lang/Object" none with
  accessFlags := 33
  interfaces := #[]
  cf := some (fileOf pool0 8 #[] #[{ accessFlags := 1, nameIndex := 5, descriptorIndex := 6, attributes := #[] }] 33 0 #[] #[])
  fields := #[]
  methods := #[k0m0]
  instanceTypes := #[]
  staticTypes := #[]
  resolved := Array.replicate 124 none
  statics := none }

def pool1 : Array CpInfo := pool [(2, .class_ 4), (1, u "java/lang/Object"), (0, u "<init>"), (0, u "()V"), (0, .integer 65536), (0, .integer 55296), (0, .integer 65535), (0, .integer 56319), (0, .integer 56320), (0, .integer 57343), (0, .methodref 14 15), (0, .class_ 16), (0, .nameAndType 17 18), (0, u "com/example/saale/saale/protocol/LengthsAtMostPinLaw"), (0, u "draw"), (0, u "(I)C"), (0, .methodref 20 21), (0, .class_ 22), (0, .nameAndType 23 24), (0, u "java/lang/String"), (0, u "valueOf"), (0, u "(C)Ljava/lang/String;"), (0, .methodref 26 27), (0, .class_ 28), (0, .nameAndType 29 30), (0, u "com/example/saale/saale/protocol/Lengths"), (0, u "atMost"), (0, u "(Ljava/lang/String;Ljava/lang/String;I)Ljava/lang/String;"), (0, .methodref 20 32), (0, .nameAndType 5 33), (0, u "([C)V"), (0, .methodref 14 35), (0, .nameAndType 36 37), (0, u "high"), (0, u "(C)Z"), (0, .methodref 14 39), (0, .nameAndType 40 37), (0, u "low"), (0, .methodref 42 43), (0, .class_ 44), (0, .nameAndType 45 46), (0, u "java/lang/Math"), (0, u "max"), (0, u "(II)I"), (3, u "law"), (0, u "(IIIII)Z")] 2

def k1m0 : Method := { name := "<init>", desc := "()V", sig := { parameters := [], returnType := none }, accessFlags := 2, code := none }
def k1c1 : Code := { maxStack := 3, maxLocals := 1, code := method_2_code, exceptionTable := #[], attributes := #[] }
def k1m1 : Method := { name := "draw", desc := "(I)C", sig := { parameters := [.int], returnType := some .char }, accessFlags := 10, code := some k1c1 }
def k1c2 : Code := { maxStack := 2, maxLocals := 1, code := method_3_code, exceptionTable := #[], attributes := #[] }
def k1m2 : Method := { name := "high", desc := "(C)Z", sig := { parameters := [.char], returnType := some .boolean }, accessFlags := 10, code := some k1c2 }
def k1c3 : Code := { maxStack := 2, maxLocals := 1, code := method_4_code, exceptionTable := #[], attributes := #[] }
def k1m3 : Method := { name := "low", desc := "(C)Z", sig := { parameters := [.char], returnType := some .boolean }, accessFlags := 10, code := some k1c3 }
def k1c4 : Code := { maxStack := 6, maxLocals := 15, code := code, exceptionTable := #[], attributes := #[] }
def k1m4 : Method := { name := "law", desc := "(IIIII)Z", sig := { parameters := [.int, .int, .int, .int, .int], returnType := some .boolean }, accessFlags := 9, code := some k1c4 }
/-- com/example/saale/saale/protocol/LengthsAtMostPinLaw -/
def k1 : Class := { plain "com/example/saale/saale/protocol/LengthsAtMostPinLaw" (some 0) with
  accessFlags := 49
  interfaces := #[]
  cf := some (fileOf pool1 14 #[] #[{ accessFlags := 2, nameIndex := 5, descriptorIndex := 6, attributes := #[] }, { accessFlags := 10, nameIndex := 17, descriptorIndex := 18, attributes := #[] }, { accessFlags := 10, nameIndex := 36, descriptorIndex := 37, attributes := #[] }, { accessFlags := 10, nameIndex := 40, descriptorIndex := 37, attributes := #[] }, { accessFlags := 9, nameIndex := 50, descriptorIndex := 51, attributes := #[] }] 49 2 #[] #[])
  fields := #[]
  methods := #[k1m0, k1m1, k1m2, k1m3, k1m4]
  instanceTypes := #[]
  staticTypes := #[]
  resolved := Array.replicate 54 none
  statics := none }

def pool2 : Array CpInfo := pool [(1, .class_ 2), (0, u "java/io/Serializable"), (0, .class_ 4), (0, u "java/lang/Object")] 2

/-- java/io/Serializable -/
def k2 : Class := { plain "java/io/Serializable" (some 0) with
  accessFlags := 1537
  interfaces := #[]
  cf := some (fileOf pool2 1 #[] #[] 1537 3 #[] #[])
  fields := #[]
  methods := #[]
  instanceTypes := #[]
  staticTypes := #[]
  resolved := Array.replicate 7 none
  statics := none }

def pool3 : Array CpInfo := pool [(1, .class_ 2), (0, u "java/lang/Comparable"), (0, .class_ 4), (0, u "java/lang/Object")] 7

/-- java/lang/Comparable -/
def k3 : Class := { plain "java/lang/Comparable" (some 0) with
  accessFlags := 1537
  interfaces := #[]
  cf := some (fileOf pool3 1 #[] #[] 1537 3 #[] #[])
  fields := #[]
  methods := #[]
  instanceTypes := #[]
  staticTypes := #[]
  resolved := Array.replicate 12 none
  statics := none }

def pool4 : Array CpInfo := pool [(2, .class_ 4), (1, u "java/lang/CharSequence"), (42, .class_ 48), (0, u "java/lang/CharSequence$1CodePointIterator"), (10, .class_ 60), (0, u "java/lang/CharSequence$1CharIterator"), (5, .class_ 67), (0, u "java/lang/Object")] 63

/-- java/lang/CharSequence -/
def k4 : Class := { plain "java/lang/CharSequence" (some 0) with
  accessFlags := 1537
  interfaces := #[]
  cf := some (fileOf pool4 2 #[.nestMembers #[47, 59]] #[] 1537 66 #[] #[])
  fields := #[]
  methods := #[]
  instanceTypes := #[]
  staticTypes := #[]
  resolved := Array.replicate 131 none
  statics := none }

def pool5 : Array CpInfo := pool [(1, .class_ 2), (0, u "java/lang/constant/Constable"), (0, .class_ 4), (0, u "java/lang/Object")] 6

/-- java/lang/constant/Constable -/
def k5 : Class := { plain "java/lang/constant/Constable" (some 0) with
  accessFlags := 1537
  interfaces := #[]
  cf := some (fileOf pool5 1 #[] #[] 1537 3 #[] #[])
  fields := #[]
  methods := #[]
  instanceTypes := #[]
  staticTypes := #[]
  resolved := Array.replicate 11 none
  statics := none }

def pool6 : Array CpInfo := pool [(1, .class_ 2), (0, u "java/lang/constant/ConstantDesc"), (0, .class_ 4), (0, u "java/lang/Object")] 32

/-- java/lang/constant/ConstantDesc -/
def k6 : Class := { plain "java/lang/constant/ConstantDesc" (some 0) with
  accessFlags := 1537
  interfaces := #[]
  cf := some (fileOf pool6 1 #[] #[] 1537 3 #[] #[])
  fields := #[]
  methods := #[]
  instanceTypes := #[]
  staticTypes := #[]
  resolved := Array.replicate 37 none
  statics := none }

def pool7 : Array CpInfo := pool [(1, .methodref 2 3), (0, .class_ 4), (0, .nameAndType 5 6), (0, u "java/lang/Object"), (0, u "<init>"), (0, u "()V"), (0, .string 8), (0, u ""), (0, .fieldref 10 11), (0, .class_ 12), (0, .nameAndType 13 14), (0, u "java/lang/String"), (0, u "value"), (0, u "[B"), (0, .fieldref 10 16), (0, .nameAndType 17 18), (0, u "coder"), (0, u "B"), (2, u "hash"), (0, u "I"), (2, u "hashIsZero"), (0, u "Z"), (0, .methodref 10 28), (0, .nameAndType 5 29), (0, u "([CIILjava/lang/Void;)V"), (7, u "(III)I"), (0, .fieldref 10 39), (0, .nameAndType 40 26), (0, u "COMPACT_STRINGS"), (1, .class_ 44), (1, u "java/lang/StringUTF16"), (0, u "compress"), (1, .methodref 42 48), (0, .nameAndType 49 50), (0, u "coderFromArrayLen"), (0, u "([BI)B"), (2, u "toBytes"), (25, .class_ 81), (1, u "java/util/Objects"), (15, u "([BII)I"), (9, .class_ 109), (1, u "java/lang/StringLatin1"), (32, u "()Z"), (34, .methodref 42 178), (0, .nameAndType 45 179), (0, u "([CII)[B"), (29, .methodref 10 210), (0, .nameAndType 5 211), (0, u "([BB)V"), (122, u "()I"), (0, .methodref 10 336), (0, .nameAndType 17 337), (0, u "()B"), (31, u "(C)Z"), (122, .methodref 10 493), (0, .nameAndType 494 142), (0, u "isLatin1"), (10, .methodref 10 506), (0, .nameAndType 507 334), (0, u "length"), (3, .methodref 79 512), (0, .nameAndType 513 37), (0, u "checkFromToIndex"), (0, .methodref 42 515), (0, .nameAndType 516 97), (0, u "codePointCount"), (58, .class_ 576), (0, u "java/lang/CharSequence"), (22, u "CASE_INSENSITIVE_ORDER"), (0, u "Ljava/util/Comparator;"), (35, u "(II)I"), (145, u "valueOf"), (0, u "(C)Ljava/lang/String;"), (226, u "([C)V"), (4, .methodref 107 1016), (0, .nameAndType 1017 369), (0, u "canEncode"), (0, .methodref 107 1019), (0, .nameAndType 53 1020), (0, u "(C)[B"), (80, u "serialPersistentFields"), (0, u "[Ljava/io/ObjectStreamField;"), (0, .class_ 1104), (0, u "java/lang/String$CaseInsensitiveComparator"), (1, .class_ 1107), (0, u "java/io/Serializable"), (0, .class_ 1109), (0, u "java/lang/Comparable"), (0, .class_ 1111), (0, u "java/lang/constant/Constable"), (0, .class_ 1113), (0, u "java/lang/constant/ConstantDesc"), (2, u "serialVersionUID"), (0, u "J"), (3, u "REPL"), (0, u "C"), (2, u "LATIN1"), (1, u "UTF16")] 323

def k7m0 : Method := { name := "<init>", desc := "()V", sig := { parameters := [], returnType := none }, accessFlags := 1, code := none }
def k7c1 : Code := { maxStack := 5, maxLocals := 2, code := jdk_42_method_3_code, exceptionTable := #[], attributes := #[] }
def k7m1 : Method := { name := "<init>", desc := "([C)V", sig := { parameters := [(.array .char)], returnType := none }, accessFlags := 1, code := some k7c1 }
def k7c2 : Code := { maxStack := 2, maxLocals := 1, code := jdk_42_method_54_code, exceptionTable := #[], attributes := #[] }
def k7m2 : Method := { name := "length", desc := "()I", sig := { parameters := [], returnType := some .int }, accessFlags := 1, code := some k7c2 }
def k7c3 : Code := { maxStack := 3, maxLocals := 3, code := jdk_42_method_59_code, exceptionTable := #[], attributes := #[] }
def k7m3 : Method := { name := "codePointCount", desc := "(II)I", sig := { parameters := [.int, .int], returnType := some .int }, accessFlags := 1, code := some k7c3 }
def k7c4 : Code := { maxStack := 4, maxLocals := 1, code := jdk_42_method_139_code, exceptionTable := #[], attributes := #[] }
def k7m4 : Method := { name := "valueOf", desc := "(C)Ljava/lang/String;", sig := { parameters := [.char], returnType := some (.object "java/lang/String") }, accessFlags := 9, code := some k7c4 }
def k7c5 : Code := { maxStack := 4, maxLocals := 6, code := jdk_42_method_149_code, exceptionTable := #[], attributes := #[] }
def k7m5 : Method := { name := "<init>", desc := "([CIILjava/lang/Void;)V", sig := { parameters := [(.array .char), .int, .int, (.object "java/lang/Void")], returnType := none }, accessFlags := 2, code := some k7c5 }
def k7c6 : Code := { maxStack := 2, maxLocals := 3, code := jdk_42_method_151_code, exceptionTable := #[], attributes := #[] }
def k7m6 : Method := { name := "<init>", desc := "([BB)V", sig := { parameters := [(.array .byte), .byte], returnType := none }, accessFlags := 0, code := some k7c6 }
def k7c7 : Code := { maxStack := 1, maxLocals := 1, code := jdk_42_method_152_code, exceptionTable := #[], attributes := #[] }
def k7m7 : Method := { name := "coder", desc := "()B", sig := { parameters := [], returnType := some .byte }, accessFlags := 0, code := some k7c7 }
def k7c8 : Code := { maxStack := 1, maxLocals := 1, code := jdk_42_method_154_code, exceptionTable := #[], attributes := #[] }
def k7m8 : Method := { name := "isLatin1", desc := "()Z", sig := { parameters := [], returnType := some .boolean }, accessFlags := 0, code := some k7c8 }
/-- java/lang/String -/
def k7 : Class := { plain "java/lang/String" (some 0) with
  accessFlags := 49
  interfaces := #[2, 3, 4, 5, 6]
  cf := some (fileOf pool7 10 #[.nestMembers #[1103]] #[{ accessFlags := 1, nameIndex := 5, descriptorIndex := 6, attributes := #[] }, { accessFlags := 1, nameIndex := 5, descriptorIndex := 1010, attributes := #[] }, { accessFlags := 1, nameIndex := 507, descriptorIndex := 334, attributes := #[] }, { accessFlags := 1, nameIndex := 516, descriptorIndex := 636, attributes := #[] }, { accessFlags := 9, nameIndex := 782, descriptorIndex := 783, attributes := #[] }, { accessFlags := 2, nameIndex := 5, descriptorIndex := 29, attributes := #[] }, { accessFlags := 0, nameIndex := 5, descriptorIndex := 211, attributes := #[] }, { accessFlags := 0, nameIndex := 17, descriptorIndex := 337, attributes := #[] }, { accessFlags := 0, nameIndex := 494, descriptorIndex := 142, attributes := #[] }] 49 2 #[1106, 1108, 575, 1110, 1112] #[{ accessFlags := 18, nameIndex := 13, descriptorIndex := 14, attributes := #[] }, { accessFlags := 18, nameIndex := 17, descriptorIndex := 18, attributes := #[] }, { accessFlags := 2, nameIndex := 21, descriptorIndex := 22, attributes := #[] }, { accessFlags := 2, nameIndex := 25, descriptorIndex := 26, attributes := #[] }, { accessFlags := 26, nameIndex := 1116, descriptorIndex := 1117, attributes := #[] }, { accessFlags := 24, nameIndex := 40, descriptorIndex := 26, attributes := #[] }, { accessFlags := 26, nameIndex := 1101, descriptorIndex := 1102, attributes := #[] }, { accessFlags := 26, nameIndex := 1121, descriptorIndex := 1122, attributes := #[] }, { accessFlags := 25, nameIndex := 599, descriptorIndex := 600, attributes := #[] }, { accessFlags := 24, nameIndex := 1125, descriptorIndex := 18, attributes := #[] }, { accessFlags := 24, nameIndex := 1127, descriptorIndex := 18, attributes := #[] }])
  fields := #[{ name := "value", type := (.array .byte), accessFlags := 18, slot := 0, constantValue := 0 }, { name := "coder", type := .byte, accessFlags := 18, slot := 1, constantValue := 0 }, { name := "hash", type := .int, accessFlags := 2, slot := 2, constantValue := 0 }, { name := "hashIsZero", type := .boolean, accessFlags := 2, slot := 3, constantValue := 0 }, { name := "serialVersionUID", type := .long, accessFlags := 26, slot := 0, constantValue := 0 }, { name := "COMPACT_STRINGS", type := .boolean, accessFlags := 24, slot := 1, constantValue := 0 }, { name := "serialPersistentFields", type := (.array (.object "java/io/ObjectStreamField")), accessFlags := 26, slot := 2, constantValue := 0 }, { name := "REPL", type := .char, accessFlags := 26, slot := 3, constantValue := 0 }, { name := "CASE_INSENSITIVE_ORDER", type := (.object "java/util/Comparator"), accessFlags := 25, slot := 4, constantValue := 0 }, { name := "LATIN1", type := .byte, accessFlags := 24, slot := 5, constantValue := 0 }, { name := "UTF16", type := .byte, accessFlags := 24, slot := 6, constantValue := 0 }]
  methods := #[k7m0, k7m1, k7m2, k7m3, k7m4, k7m5, k7m6, k7m7, k7m8]
  instanceTypes := #[(.array .byte), .byte, .int, .boolean]
  staticTypes := #[.long, .boolean, (.array (.object "java/io/ObjectStreamField")), .char, (.object "java/util/Comparator"), .byte, .byte]
  resolved := Array.replicate 1451 none
  statics := some 0 }

def pool8 : Array CpInfo := pool [(4, .class_ 6), (1, u "java/lang/Object"), (0, u "<init>"), (0, u "()V"), (5, .class_ 16), (1, u "java/lang/StringLatin1"), (73, u "canEncode"), (14, u "(C)Z"), (15, u "$assertionsDisabled"), (0, u "Z"), (98, .class_ 223), (1, u "java/lang/StringLatin1$LinesSpliterator"), (156, u "toBytes"), (1, u "(C)[B"), (7, .class_ 391), (0, u "java/lang/StringLatin1$CharsSpliterator")] 3

def k8m0 : Method := { name := "<init>", desc := "()V", sig := { parameters := [], returnType := none }, accessFlags := 0, code := none }
def k8c1 : Code := { maxStack := 2, maxLocals := 1, code := jdk_43_method_3_code, exceptionTable := #[], attributes := #[] }
def k8m1 : Method := { name := "canEncode", desc := "(C)Z", sig := { parameters := [.char], returnType := some .boolean }, accessFlags := 9, code := some k8c1 }
def k8c2 : Code := { maxStack := 4, maxLocals := 1, code := jdk_43_method_46_code, exceptionTable := #[], attributes := #[] }
def k8m2 : Method := { name := "toBytes", desc := "(C)[B", sig := { parameters := [.char], returnType := some (.array .byte) }, accessFlags := 9, code := some k8c2 }
/-- java/lang/StringLatin1 -/
def k8 : Class := { plain "java/lang/StringLatin1" (some 0) with
  accessFlags := 48
  interfaces := #[]
  cf := some (fileOf pool8 14 #[.nestMembers #[390, 221]] #[{ accessFlags := 0, nameIndex := 7, descriptorIndex := 8, attributes := #[] }, { accessFlags := 9, nameIndex := 90, descriptorIndex := 105, attributes := #[] }, { accessFlags := 9, nameIndex := 380, descriptorIndex := 382, attributes := #[] }] 48 4 #[] #[{ accessFlags := 4120, nameIndex := 121, descriptorIndex := 122, attributes := #[] }])
  fields := #[{ name := "$assertionsDisabled", type := .boolean, accessFlags := 4120, slot := 0, constantValue := 0 }]
  methods := #[k8m0, k8m1, k8m2]
  instanceTypes := #[]
  staticTypes := #[.boolean]
  resolved := Array.replicate 395 none
  statics := none }

def pool9 : Array CpInfo := pool [(1, .class_ 2), (0, u "java/lang/Math"), (1, .class_ 6), (1, u "java/lang/Object"), (0, u "<init>"), (0, u "()V"), (89, .class_ 100), (1, u "java/lang/Math$RandomNumberGeneratorHolder"), (71, u "negativeZeroFloatBits"), (0, u "J"), (2, u "negativeZeroDoubleBits"), (21, u "max"), (46, u "$assertionsDisabled"), (0, u "Z"), (88, u "(II)I"), (2, u "twoToTheDoubleScaleDown"), (0, u "D"), (4, u "twoToTheDoubleScaleUp"), (9, u "E"), (3, u "PI"), (2, u "TAU"), (2, u "DEGREES_TO_RADIANS"), (0, u "RADIANS_TO_DEGREES")] 94

def k9m0 : Method := { name := "<init>", desc := "()V", sig := { parameters := [], returnType := none }, accessFlags := 2, code := none }
def k9c1 : Code := { maxStack := 2, maxLocals := 2, code := jdk_29_method_65_code, exceptionTable := #[], attributes := #[] }
def k9m1 : Method := { name := "max", desc := "(II)I", sig := { parameters := [.int, .int], returnType := some .int }, accessFlags := 9, code := some k9c1 }
/-- java/lang/Math -/
def k9 : Class := { plain "java/lang/Math" (some 0) with
  accessFlags := 49
  interfaces := #[]
  cf := some (fileOf pool9 1 #[.nestMembers #[98]] #[{ accessFlags := 2, nameIndex := 7, descriptorIndex := 8, attributes := #[] }, { accessFlags := 9, nameIndex := 198, descriptorIndex := 335, attributes := #[] }] 49 4 #[] #[{ accessFlags := 25, nameIndex := 354, descriptorIndex := 339, attributes := #[] }, { accessFlags := 25, nameIndex := 358, descriptorIndex := 339, attributes := #[] }, { accessFlags := 25, nameIndex := 361, descriptorIndex := 339, attributes := #[] }, { accessFlags := 26, nameIndex := 364, descriptorIndex := 339, attributes := #[] }, { accessFlags := 26, nameIndex := 365, descriptorIndex := 339, attributes := #[] }, { accessFlags := 26, nameIndex := 172, descriptorIndex := 173, attributes := #[] }, { accessFlags := 26, nameIndex := 176, descriptorIndex := 173, attributes := #[] }, { accessFlags := 8, nameIndex := 344, descriptorIndex := 339, attributes := #[] }, { accessFlags := 8, nameIndex := 338, descriptorIndex := 339, attributes := #[] }, { accessFlags := 4120, nameIndex := 245, descriptorIndex := 246, attributes := #[] }])
  fields := #[{ name := "E", type := .double, accessFlags := 25, slot := 0, constantValue := 0 }, { name := "PI", type := .double, accessFlags := 25, slot := 1, constantValue := 0 }, { name := "TAU", type := .double, accessFlags := 25, slot := 2, constantValue := 0 }, { name := "DEGREES_TO_RADIANS", type := .double, accessFlags := 26, slot := 3, constantValue := 0 }, { name := "RADIANS_TO_DEGREES", type := .double, accessFlags := 26, slot := 4, constantValue := 0 }, { name := "negativeZeroFloatBits", type := .long, accessFlags := 26, slot := 5, constantValue := 0 }, { name := "negativeZeroDoubleBits", type := .long, accessFlags := 26, slot := 6, constantValue := 0 }, { name := "twoToTheDoubleScaleUp", type := .double, accessFlags := 8, slot := 7, constantValue := 0 }, { name := "twoToTheDoubleScaleDown", type := .double, accessFlags := 8, slot := 8, constantValue := 0 }, { name := "$assertionsDisabled", type := .boolean, accessFlags := 4120, slot := 9, constantValue := 0 }]
  methods := #[k9m0, k9m1]
  instanceTypes := #[]
  staticTypes := #[.double, .double, .double, .double, .double, .long, .long, .double, .double, .boolean]
  resolved := Array.replicate 460 none
  statics := none }

def pool10 : Array CpInfo := pool [(2, .class_ 4), (1, u "java/lang/Object"), (0, u "<init>"), (0, u "()V"), (0, .methodref 8 9), (0, .class_ 10), (0, .nameAndType 11 12), (0, u "java/lang/String"), (0, u "length"), (0, u "()I"), (0, .methodref 8 14), (0, .nameAndType 15 16), (0, u "codePointCount"), (0, u "(II)I"), (9, .class_ 27), (0, u "com/example/saale/saale/protocol/Lengths"), (2, u "atMost"), (0, u "(Ljava/lang/String;Ljava/lang/String;I)Ljava/lang/String;")] 18

def k10m0 : Method := { name := "<init>", desc := "()V", sig := { parameters := [], returnType := none }, accessFlags := 2, code := none }
def k10c1 : Code := { maxStack := 4, maxLocals := 3, code := prog_8_method_2_code, exceptionTable := #[], attributes := #[] }
def k10m1 : Method := { name := "atMost", desc := "(Ljava/lang/String;Ljava/lang/String;I)Ljava/lang/String;", sig := { parameters := [(.object "java/lang/String"), (.object "java/lang/String"), .int], returnType := some (.object "java/lang/String") }, accessFlags := 8, code := some k10c1 }
/-- com/example/saale/saale/protocol/Lengths -/
def k10 : Class := { plain "com/example/saale/saale/protocol/Lengths" (some 0) with
  accessFlags := 48
  interfaces := #[]
  cf := some (fileOf pool10 26 #[] #[{ accessFlags := 2, nameIndex := 5, descriptorIndex := 6, attributes := #[] }, { accessFlags := 8, nameIndex := 30, descriptorIndex := 31, attributes := #[] }] 48 2 #[] #[])
  fields := #[]
  methods := #[k10m0, k10m1]
  instanceTypes := #[]
  staticTypes := #[]
  resolved := Array.replicate 50 none
  statics := none }

def pool11 : Array CpInfo := pool [(2, .class_ 4), (1, u "java/lang/Object"), (0, u "<init>"), (0, u "()V"), (35, .class_ 44), (1, u "java/util/Objects"), (61, .class_ 108), (1, u "jdk/internal/util/Preconditions"), (2, .methodref 106 112), (0, .nameAndType 113 114), (0, u "checkFromToIndex"), (0, u "(IIILjava/util/function/BiFunction;)I"), (60, u "(III)I")] 8

def k11m0 : Method := { name := "<init>", desc := "()V", sig := { parameters := [], returnType := none }, accessFlags := 2, code := none }
def k11c1 : Code := { maxStack := 4, maxLocals := 3, code := jdk_31_method_18_code, exceptionTable := #[], attributes := #[] }
def k11m1 : Method := { name := "checkFromToIndex", desc := "(III)I", sig := { parameters := [.int, .int, .int], returnType := some .int }, accessFlags := 9, code := some k11c1 }
/-- java/util/Objects -/
def k11 : Class := { plain "java/util/Objects" (some 0) with
  accessFlags := 49
  interfaces := #[]
  cf := some (fileOf pool11 42 #[] #[{ accessFlags := 2, nameIndex := 5, descriptorIndex := 6, attributes := #[] }, { accessFlags := 9, nameIndex := 113, descriptorIndex := 175, attributes := #[] }] 49 2 #[] #[])
  fields := #[]
  methods := #[k11m0, k11m1]
  instanceTypes := #[]
  staticTypes := #[]
  resolved := Array.replicate 184 none
  statics := none }

def pool12 : Array CpInfo := pool [(2, .class_ 4), (1, u "java/lang/Object"), (0, u "<init>"), (0, u "()V"), (17, .class_ 26), (1, u "jdk/internal/util/Preconditions"), (20, u "checkFromToIndex"), (7, .class_ 56), (0, u "jdk/internal/util/Preconditions$4"), (57, .class_ 115), (0, u "jdk/internal/util/Preconditions$1"), (7, u "SIOOBE_FORMATTER"), (0, u "Ljava/util/function/BiFunction;"), (0, .class_ 126), (0, u "jdk/internal/util/Preconditions$2"), (3, u "AIOOBE_FORMATTER"), (0, .class_ 132), (0, u "jdk/internal/util/Preconditions$3"), (3, u "IOOBE_FORMATTER"), (46, u "(IIILjava/util/function/BiFunction;)I")] 10

def k12m0 : Method := { name := "<init>", desc := "()V", sig := { parameters := [], returnType := none }, accessFlags := 1, code := none }
def k12c1 : Code := { maxStack := 4, maxLocals := 4, code := jdk_41_method_12_code, exceptionTable := #[], attributes := #[] }
def k12m1 : Method := { name := "checkFromToIndex", desc := "(IIILjava/util/function/BiFunction;)I", sig := { parameters := [.int, .int, .int, (.object "java/util/function/BiFunction")], returnType := some .int }, accessFlags := 9, code := some k12c1 }
/-- jdk/internal/util/Preconditions -/
def k12 : Class := { plain "jdk/internal/util/Preconditions" (some 0) with
  accessFlags := 33
  interfaces := #[]
  cf := some (fileOf pool12 24 #[.nestMembers #[55, 131, 125, 114]] #[{ accessFlags := 1, nameIndex := 5, descriptorIndex := 6, attributes := #[] }, { accessFlags := 9, nameIndex := 47, descriptorIndex := 183, attributes := #[] }] 33 2 #[] #[{ accessFlags := 25, nameIndex := 123, descriptorIndex := 124, attributes := #[] }, { accessFlags := 25, nameIndex := 130, descriptorIndex := 124, attributes := #[] }, { accessFlags := 25, nameIndex := 136, descriptorIndex := 124, attributes := #[] }])
  fields := #[{ name := "SIOOBE_FORMATTER", type := (.object "java/util/function/BiFunction"), accessFlags := 25, slot := 0, constantValue := 0 }, { name := "AIOOBE_FORMATTER", type := (.object "java/util/function/BiFunction"), accessFlags := 25, slot := 1, constantValue := 0 }, { name := "IOOBE_FORMATTER", type := (.object "java/util/function/BiFunction"), accessFlags := 25, slot := 2, constantValue := 0 }]
  methods := #[k12m0, k12m1]
  instanceTypes := #[]
  staticTypes := #[(.object "java/util/function/BiFunction"), (.object "java/util/function/BiFunction"), (.object "java/util/function/BiFunction")]
  resolved := Array.replicate 194 none
  statics := some 1 }

def pool13 : Array CpInfo := pool [(6, .class_ 8), (1, u "java/lang/Object"), (0, u "<init>"), (0, u "()V"), (0, .methodref 12 13), (0, .class_ 14), (0, .nameAndType 15 16), (0, u "java/lang/StringUTF16"), (0, u "newBytesLength"), (0, u "(I)I"), (3, .integer 1073741823), (23, .fieldref 12 45), (0, .nameAndType 46 47), (0, u "$assertionsDisabled"), (0, u "Z"), (11, .fieldref 12 60), (0, .nameAndType 61 62), (0, u "HI_BYTE_SHIFT"), (0, u "I"), (0, .fieldref 12 64), (0, .nameAndType 65 62), (0, u "LO_BYTE_SHIFT"), (5, .methodref 12 72), (0, .nameAndType 73 74), (0, u "getChar"), (0, u "([BI)C"), (0, .methodref 76 77), (0, .class_ 78), (0, .nameAndType 79 80), (0, u "java/lang/Character"), (0, u "isHighSurrogate"), (0, u "(C)Z"), (0, .methodref 76 82), (0, .nameAndType 83 80), (0, u "isLowSurrogate"), (7, u "([BIIZ)I"), (8, .methodref 12 101), (0, .nameAndType 102 91), (0, u "codePointCount"), (4, .methodref 12 108), (0, .nameAndType 109 110), (0, u "newBytesFor"), (0, u "(I)[B"), (0, .methodref 12 112), (0, .nameAndType 113 114), (0, u "putChar"), (0, u "([BII)V"), (0, .methodref 12 116), (0, .nameAndType 117 118), (0, u "compress"), (0, u "([CI[BII)I"), (0, .methodref 12 120), (0, .nameAndType 121 122), (0, u "toBytes"), (0, u "([CII)[B"), (127, u "([BII)I"), (10, u "coderFromArrayLen"), (0, u "([BI)B"), (106, .class_ 371), (1, u "java/lang/StringUTF16$LinesSpliterator"), (58, u "MAX_LENGTH"), (196, .class_ 628), (0, u "java/lang/StringUTF16$CodePointsSpliterator"), (0, .class_ 630), (0, u "java/lang/StringUTF16$CharsSpliterator")] 4

def k13m0 : Method := { name := "<init>", desc := "()V", sig := { parameters := [], returnType := none }, accessFlags := 0, code := none }
def k13c1 : Code := { maxStack := 1, maxLocals := 1, code := jdk_52_method_2_code, exceptionTable := #[], attributes := #[] }
def k13m1 : Method := { name := "newBytesFor", desc := "(I)[B", sig := { parameters := [.int], returnType := some (.array .byte) }, accessFlags := 9, code := some k13c1 }
def k13c2 : Code := { maxStack := 4, maxLocals := 1, code := jdk_52_method_3_code, exceptionTable := #[], attributes := #[] }
def k13m2 : Method := { name := "newBytesLength", desc := "(I)I", sig := { parameters := [.int], returnType := some .int }, accessFlags := 9, code := some k13c2 }
def k13c3 : Code := { maxStack := 4, maxLocals := 3, code := jdk_52_method_4_code, exceptionTable := #[], attributes := #[] }
def k13m3 : Method := { name := "putChar", desc := "([BII)V", sig := { parameters := [(.array .byte), .int, .int], returnType := none }, accessFlags := 8, code := some k13c3 }
def k13c4 : Code := { maxStack := 3, maxLocals := 2, code := jdk_52_method_5_code, exceptionTable := #[], attributes := #[] }
def k13m4 : Method := { name := "getChar", desc := "([BI)C", sig := { parameters := [(.array .byte), .int], returnType := some .char }, accessFlags := 8, code := some k13c4 }
def k13c5 : Code := { maxStack := 3, maxLocals := 6, code := jdk_52_method_11_code, exceptionTable := #[], attributes := #[] }
def k13m5 : Method := { name := "codePointCount", desc := "([BIIZ)I", sig := { parameters := [(.array .byte), .int, .int, .boolean], returnType := some .int }, accessFlags := 10, code := some k13c5 }
def k13c6 : Code := { maxStack := 4, maxLocals := 3, code := jdk_52_method_12_code, exceptionTable := #[], attributes := #[] }
def k13m6 : Method := { name := "codePointCount", desc := "([BII)I", sig := { parameters := [(.array .byte), .int, .int], returnType := some .int }, accessFlags := 9, code := some k13c6 }
def k13c7 : Code := { maxStack := 4, maxLocals := 5, code := jdk_52_method_14_code, exceptionTable := #[], attributes := #[] }
def k13m7 : Method := { name := "toBytes", desc := "([CII)[B", sig := { parameters := [(.array .char), .int, .int], returnType := some (.array .byte) }, accessFlags := 9, code := some k13c7 }
def k13c8 : Code := { maxStack := 2, maxLocals := 2, code := jdk_52_method_15_code, exceptionTable := #[], attributes := #[] }
def k13m8 : Method := { name := "coderFromArrayLen", desc := "([BI)B", sig := { parameters := [(.array .byte), .int], returnType := some .byte }, accessFlags := 8, code := some k13c8 }
def k13c9 : Code := { maxStack := 5, maxLocals := 6, code := jdk_52_method_16_code, exceptionTable := #[], attributes := #[] }
def k13m9 : Method := { name := "compress", desc := "([CII)[B", sig := { parameters := [(.array .char), .int, .int], returnType := some (.array .byte) }, accessFlags := 9, code := some k13c9 }
def k13c10 : Code := { maxStack := 3, maxLocals := 7, code := jdk_52_method_21_code, exceptionTable := #[], attributes := #[] }
def k13m10 : Method := { name := "compress", desc := "([CI[BII)I", sig := { parameters := [(.array .char), .int, (.array .byte), .int, .int], returnType := some .int }, accessFlags := 9, code := some k13c10 }
/-- java/lang/StringUTF16 -/
def k13 : Class := { plain "java/lang/StringUTF16" (some 0) with
  accessFlags := 48
  interfaces := #[]
  cf := some (fileOf pool13 12 #[.nestMembers #[627, 629, 369]] #[{ accessFlags := 0, nameIndex := 9, descriptorIndex := 10, attributes := #[] }, { accessFlags := 9, nameIndex := 109, descriptorIndex := 110, attributes := #[] }, { accessFlags := 9, nameIndex := 15, descriptorIndex := 16, attributes := #[] }, { accessFlags := 8, nameIndex := 113, descriptorIndex := 114, attributes := #[] }, { accessFlags := 8, nameIndex := 73, descriptorIndex := 74, attributes := #[] }, { accessFlags := 10, nameIndex := 102, descriptorIndex := 91, attributes := #[] }, { accessFlags := 9, nameIndex := 102, descriptorIndex := 250, attributes := #[] }, { accessFlags := 9, nameIndex := 121, descriptorIndex := 122, attributes := #[] }, { accessFlags := 8, nameIndex := 261, descriptorIndex := 262, attributes := #[] }, { accessFlags := 9, nameIndex := 117, descriptorIndex := 122, attributes := #[] }, { accessFlags := 9, nameIndex := 117, descriptorIndex := 118, attributes := #[] }] 48 6 #[] #[{ accessFlags := 26, nameIndex := 61, descriptorIndex := 62, attributes := #[] }, { accessFlags := 26, nameIndex := 65, descriptorIndex := 62, attributes := #[] }, { accessFlags := 24, nameIndex := 430, descriptorIndex := 62, attributes := #[] }, { accessFlags := 4120, nameIndex := 46, descriptorIndex := 47, attributes := #[] }])
  fields := #[{ name := "HI_BYTE_SHIFT", type := .int, accessFlags := 26, slot := 0, constantValue := 0 }, { name := "LO_BYTE_SHIFT", type := .int, accessFlags := 26, slot := 1, constantValue := 0 }, { name := "MAX_LENGTH", type := .int, accessFlags := 24, slot := 2, constantValue := 0 }, { name := "$assertionsDisabled", type := .boolean, accessFlags := 4120, slot := 3, constantValue := 0 }]
  methods := #[k13m0, k13m1, k13m2, k13m3, k13m4, k13m5, k13m6, k13m7, k13m8, k13m9, k13m10]
  instanceTypes := #[]
  staticTypes := #[.int, .int, .int, .boolean]
  resolved := Array.replicate 635 none
  statics := some 2 }

def pool14 : Array CpInfo := pool [(1, .class_ 2), (0, u "java/lang/Character"), (18, u "value"), (0, u "C"), (19, .class_ 44), (1, u "java/lang/Object"), (3, .class_ 50), (1, u "java/lang/Character$CharacterCache"), (24, .integer 55296), (0, .integer 56320), (0, .integer 57344), (2, u "isHighSurrogate"), (0, u "(C)Z"), (2, u "isLowSurrogate"), (199, u "$assertionsDisabled"), (0, u "Z"), (21, .class_ 309), (1, u "java/lang/Character$UnicodeBlock"), (73, u "TYPE"), (0, u "Ljava/lang/Class;"), (0, .class_ 386), (0, u "java/io/Serializable"), (0, .class_ 388), (0, u "java/lang/Comparable"), (0, .class_ 390), (0, u "java/lang/constant/Constable"), (0, u "MIN_RADIX"), (0, u "I"), (2, u "MAX_RADIX"), (1, u "MIN_VALUE"), (1, u "MAX_VALUE"), (3, u "UNASSIGNED"), (0, u "B"), (0, u "UPPERCASE_LETTER"), (1, u "LOWERCASE_LETTER"), (0, u "TITLECASE_LETTER"), (1, u "MODIFIER_LETTER"), (1, u "OTHER_LETTER"), (1, u "NON_SPACING_MARK"), (1, u "ENCLOSING_MARK"), (1, u "COMBINING_SPACING_MARK"), (1, u "DECIMAL_DIGIT_NUMBER"), (1, u "LETTER_NUMBER"), (1, u "OTHER_NUMBER"), (1, u "SPACE_SEPARATOR"), (1, u "LINE_SEPARATOR"), (1, u "PARAGRAPH_SEPARATOR"), (1, u "CONTROL"), (1, u "FORMAT"), (1, u "PRIVATE_USE"), (1, u "SURROGATE"), (1, u "DASH_PUNCTUATION"), (1, u "START_PUNCTUATION"), (1, u "END_PUNCTUATION"), (1, u "CONNECTOR_PUNCTUATION"), (1, u "OTHER_PUNCTUATION"), (1, u "MATH_SYMBOL"), (1, u "CURRENCY_SYMBOL"), (1, u "MODIFIER_SYMBOL"), (1, u "OTHER_SYMBOL"), (1, u "INITIAL_QUOTE_PUNCTUATION"), (1, u "FINAL_QUOTE_PUNCTUATION"), (1, u "ERROR"), (1, u "DIRECTIONALITY_UNDEFINED"), (0, u "DIRECTIONALITY_LEFT_TO_RIGHT"), (0, u "DIRECTIONALITY_RIGHT_TO_LEFT"), (0, u "DIRECTIONALITY_RIGHT_TO_LEFT_ARABIC"), (0, u "DIRECTIONALITY_EUROPEAN_NUMBER"), (0, u "DIRECTIONALITY_EUROPEAN_NUMBER_SEPARATOR"), (0, u "DIRECTIONALITY_EUROPEAN_NUMBER_TERMINATOR"), (0, u "DIRECTIONALITY_ARABIC_NUMBER"), (0, u "DIRECTIONALITY_COMMON_NUMBER_SEPARATOR"), (0, u "DIRECTIONALITY_NONSPACING_MARK"), (0, u "DIRECTIONALITY_BOUNDARY_NEUTRAL"), (0, u "DIRECTIONALITY_PARAGRAPH_SEPARATOR"), (0, u "DIRECTIONALITY_SEGMENT_SEPARATOR"), (0, u "DIRECTIONALITY_WHITESPACE"), (0, u "DIRECTIONALITY_OTHER_NEUTRALS"), (0, u "DIRECTIONALITY_LEFT_TO_RIGHT_EMBEDDING"), (0, u "DIRECTIONALITY_LEFT_TO_RIGHT_OVERRIDE"), (0, u "DIRECTIONALITY_RIGHT_TO_LEFT_EMBEDDING"), (0, u "DIRECTIONALITY_RIGHT_TO_LEFT_OVERRIDE"), (1, u "DIRECTIONALITY_POP_DIRECTIONAL_FORMAT"), (0, u "DIRECTIONALITY_LEFT_TO_RIGHT_ISOLATE"), (0, u "DIRECTIONALITY_RIGHT_TO_LEFT_ISOLATE"), (0, u "DIRECTIONALITY_FIRST_STRONG_ISOLATE"), (0, u "DIRECTIONALITY_POP_DIRECTIONAL_ISOLATE"), (0, u "MIN_HIGH_SURROGATE"), (0, u "MAX_HIGH_SURROGATE"), (1, u "MIN_LOW_SURROGATE"), (0, u "MAX_LOW_SURROGATE"), (1, u "MIN_SURROGATE"), (0, u "MAX_SURROGATE"), (0, u "MIN_SUPPLEMENTARY_CODE_POINT"), (0, u "MIN_CODE_POINT"), (0, u "MAX_CODE_POINT"), (1, u "serialVersionUID"), (0, u "J"), (2, u "SIZE"), (0, u "BYTES"), (88, .class_ 596), (0, u "java/lang/Character$UnicodeScript"), (0, .class_ 598), (0, u "java/lang/Character$Subset")] 5

def k14c0 : Code := { maxStack := 2, maxLocals := 1, code := jdk_89_method_14_code, exceptionTable := #[], attributes := #[] }
def k14m0 : Method := { name := "isHighSurrogate", desc := "(C)Z", sig := { parameters := [.char], returnType := some .boolean }, accessFlags := 9, code := some k14c0 }
def k14c1 : Code := { maxStack := 2, maxLocals := 1, code := jdk_89_method_15_code, exceptionTable := #[], attributes := #[] }
def k14m1 : Method := { name := "isLowSurrogate", desc := "(C)Z", sig := { parameters := [.char], returnType := some .boolean }, accessFlags := 9, code := some k14c1 }
/-- java/lang/Character -/
def k14 : Class := { plain "java/lang/Character" (some 0) with
  accessFlags := 49
  interfaces := #[2, 3, 5]
  cf := some (fileOf pool14 1 #[.nestMembers #[48, 595, 307, 597]] #[{ accessFlags := 9, nameIndex := 80, descriptorIndex := 81, attributes := #[] }, { accessFlags := 9, nameIndex := 84, descriptorIndex := 81, attributes := #[] }] 49 42 #[385, 387, 389] #[{ accessFlags := 25, nameIndex := 391, descriptorIndex := 392, attributes := #[] }, { accessFlags := 25, nameIndex := 395, descriptorIndex := 392, attributes := #[] }, { accessFlags := 25, nameIndex := 397, descriptorIndex := 22, attributes := #[] }, { accessFlags := 25, nameIndex := 399, descriptorIndex := 22, attributes := #[] }, { accessFlags := 25, nameIndex := 383, descriptorIndex := 384, attributes := #[] }, { accessFlags := 25, nameIndex := 403, descriptorIndex := 404, attributes := #[] }, { accessFlags := 25, nameIndex := 405, descriptorIndex := 404, attributes := #[] }, { accessFlags := 25, nameIndex := 407, descriptorIndex := 404, attributes := #[] }, { accessFlags := 25, nameIndex := 408, descriptorIndex := 404, attributes := #[] }, { accessFlags := 25, nameIndex := 410, descriptorIndex := 404, attributes := #[] }, { accessFlags := 25, nameIndex := 412, descriptorIndex := 404, attributes := #[] }, { accessFlags := 25, nameIndex := 414, descriptorIndex := 404, attributes := #[] }, { accessFlags := 25, nameIndex := 416, descriptorIndex := 404, attributes := #[] }, { accessFlags := 25, nameIndex := 418, descriptorIndex := 404, attributes := #[] }, { accessFlags := 25, nameIndex := 420, descriptorIndex := 404, attributes := #[] }, { accessFlags := 25, nameIndex := 422, descriptorIndex := 404, attributes := #[] }, { accessFlags := 25, nameIndex := 424, descriptorIndex := 404, attributes := #[] }, { accessFlags := 25, nameIndex := 426, descriptorIndex := 404, attributes := #[] }, { accessFlags := 25, nameIndex := 428, descriptorIndex := 404, attributes := #[] }, { accessFlags := 25, nameIndex := 430, descriptorIndex := 404, attributes := #[] }, { accessFlags := 25, nameIndex := 432, descriptorIndex := 404, attributes := #[] }, { accessFlags := 25, nameIndex := 434, descriptorIndex := 404, attributes := #[] }, { accessFlags := 25, nameIndex := 436, descriptorIndex := 404, attributes := #[] }, { accessFlags := 25, nameIndex := 438, descriptorIndex := 404, attributes := #[] }, { accessFlags := 25, nameIndex := 440, descriptorIndex := 404, attributes := #[] }, { accessFlags := 25, nameIndex := 442, descriptorIndex := 404, attributes := #[] }, { accessFlags := 25, nameIndex := 444, descriptorIndex := 404, attributes := #[] }, { accessFlags := 25, nameIndex := 446, descriptorIndex := 404, attributes := #[] }, { accessFlags := 25, nameIndex := 448, descriptorIndex := 404, attributes := #[] }, { accessFlags := 25, nameIndex := 450, descriptorIndex := 404, attributes := #[] }, { accessFlags := 25, nameIndex := 452, descriptorIndex := 404, attributes := #[] }, { accessFlags := 25, nameIndex := 454, descriptorIndex := 404, attributes := #[] }, { accessFlags := 25, nameIndex := 456, descriptorIndex := 404, attributes := #[] }, { accessFlags := 25, nameIndex := 458, descriptorIndex := 404, attributes := #[] }, { accessFlags := 25, nameIndex := 460, descriptorIndex := 404, attributes := #[] }, { accessFlags := 24, nameIndex := 462, descriptorIndex := 392, attributes := #[] }, { accessFlags := 25, nameIndex := 464, descriptorIndex := 404, attributes := #[] }, { accessFlags := 25, nameIndex := 465, descriptorIndex := 404, attributes := #[] }, { accessFlags := 25, nameIndex := 466, descriptorIndex := 404, attributes := #[] }, { accessFlags := 25, nameIndex := 467, descriptorIndex := 404, attributes := #[] }, { accessFlags := 25, nameIndex := 468, descriptorIndex := 404, attributes := #[] }, { accessFlags := 25, nameIndex := 469, descriptorIndex := 404, attributes := #[] }, { accessFlags := 25, nameIndex := 470, descriptorIndex := 404, attributes := #[] }, { accessFlags := 25, nameIndex := 471, descriptorIndex := 404, attributes := #[] }, { accessFlags := 25, nameIndex := 472, descriptorIndex := 404, attributes := #[] }, { accessFlags := 25, nameIndex := 473, descriptorIndex := 404, attributes := #[] }, { accessFlags := 25, nameIndex := 474, descriptorIndex := 404, attributes := #[] }, { accessFlags := 25, nameIndex := 475, descriptorIndex := 404, attributes := #[] }, { accessFlags := 25, nameIndex := 476, descriptorIndex := 404, attributes := #[] }, { accessFlags := 25, nameIndex := 477, descriptorIndex := 404, attributes := #[] }, { accessFlags := 25, nameIndex := 478, descriptorIndex := 404, attributes := #[] }, { accessFlags := 25, nameIndex := 479, descriptorIndex := 404, attributes := #[] }, { accessFlags := 25, nameIndex := 480, descriptorIndex := 404, attributes := #[] }, { accessFlags := 25, nameIndex := 481, descriptorIndex := 404, attributes := #[] }, { accessFlags := 25, nameIndex := 482, descriptorIndex := 404, attributes := #[] }, { accessFlags := 25, nameIndex := 484, descriptorIndex := 404, attributes := #[] }, { accessFlags := 25, nameIndex := 485, descriptorIndex := 404, attributes := #[] }, { accessFlags := 25, nameIndex := 486, descriptorIndex := 404, attributes := #[] }, { accessFlags := 25, nameIndex := 487, descriptorIndex := 404, attributes := #[] }, { accessFlags := 25, nameIndex := 488, descriptorIndex := 404, attributes := #[] }, { accessFlags := 25, nameIndex := 489, descriptorIndex := 22, attributes := #[] }, { accessFlags := 25, nameIndex := 490, descriptorIndex := 22, attributes := #[] }, { accessFlags := 25, nameIndex := 492, descriptorIndex := 22, attributes := #[] }, { accessFlags := 25, nameIndex := 493, descriptorIndex := 22, attributes := #[] }, { accessFlags := 25, nameIndex := 495, descriptorIndex := 22, attributes := #[] }, { accessFlags := 25, nameIndex := 496, descriptorIndex := 22, attributes := #[] }, { accessFlags := 25, nameIndex := 497, descriptorIndex := 392, attributes := #[] }, { accessFlags := 25, nameIndex := 498, descriptorIndex := 392, attributes := #[] }, { accessFlags := 25, nameIndex := 499, descriptorIndex := 392, attributes := #[] }, { accessFlags := 18, nameIndex := 21, descriptorIndex := 22, attributes := #[] }, { accessFlags := 26, nameIndex := 501, descriptorIndex := 502, attributes := #[] }, { accessFlags := 25, nameIndex := 505, descriptorIndex := 392, attributes := #[] }, { accessFlags := 25, nameIndex := 506, descriptorIndex := 392, attributes := #[] }, { accessFlags := 4120, nameIndex := 284, descriptorIndex := 285, attributes := #[] }])
  fields := #[{ name := "MIN_RADIX", type := .int, accessFlags := 25, slot := 0, constantValue := 0 }, { name := "MAX_RADIX", type := .int, accessFlags := 25, slot := 1, constantValue := 0 }, { name := "MIN_VALUE", type := .char, accessFlags := 25, slot := 2, constantValue := 0 }, { name := "MAX_VALUE", type := .char, accessFlags := 25, slot := 3, constantValue := 0 }, { name := "TYPE", type := (.object "java/lang/Class"), accessFlags := 25, slot := 4, constantValue := 0 }, { name := "UNASSIGNED", type := .byte, accessFlags := 25, slot := 5, constantValue := 0 }, { name := "UPPERCASE_LETTER", type := .byte, accessFlags := 25, slot := 6, constantValue := 0 }, { name := "LOWERCASE_LETTER", type := .byte, accessFlags := 25, slot := 7, constantValue := 0 }, { name := "TITLECASE_LETTER", type := .byte, accessFlags := 25, slot := 8, constantValue := 0 }, { name := "MODIFIER_LETTER", type := .byte, accessFlags := 25, slot := 9, constantValue := 0 }, { name := "OTHER_LETTER", type := .byte, accessFlags := 25, slot := 10, constantValue := 0 }, { name := "NON_SPACING_MARK", type := .byte, accessFlags := 25, slot := 11, constantValue := 0 }, { name := "ENCLOSING_MARK", type := .byte, accessFlags := 25, slot := 12, constantValue := 0 }, { name := "COMBINING_SPACING_MARK", type := .byte, accessFlags := 25, slot := 13, constantValue := 0 }, { name := "DECIMAL_DIGIT_NUMBER", type := .byte, accessFlags := 25, slot := 14, constantValue := 0 }, { name := "LETTER_NUMBER", type := .byte, accessFlags := 25, slot := 15, constantValue := 0 }, { name := "OTHER_NUMBER", type := .byte, accessFlags := 25, slot := 16, constantValue := 0 }, { name := "SPACE_SEPARATOR", type := .byte, accessFlags := 25, slot := 17, constantValue := 0 }, { name := "LINE_SEPARATOR", type := .byte, accessFlags := 25, slot := 18, constantValue := 0 }, { name := "PARAGRAPH_SEPARATOR", type := .byte, accessFlags := 25, slot := 19, constantValue := 0 }, { name := "CONTROL", type := .byte, accessFlags := 25, slot := 20, constantValue := 0 }, { name := "FORMAT", type := .byte, accessFlags := 25, slot := 21, constantValue := 0 }, { name := "PRIVATE_USE", type := .byte, accessFlags := 25, slot := 22, constantValue := 0 }, { name := "SURROGATE", type := .byte, accessFlags := 25, slot := 23, constantValue := 0 }, { name := "DASH_PUNCTUATION", type := .byte, accessFlags := 25, slot := 24, constantValue := 0 }, { name := "START_PUNCTUATION", type := .byte, accessFlags := 25, slot := 25, constantValue := 0 }, { name := "END_PUNCTUATION", type := .byte, accessFlags := 25, slot := 26, constantValue := 0 }, { name := "CONNECTOR_PUNCTUATION", type := .byte, accessFlags := 25, slot := 27, constantValue := 0 }, { name := "OTHER_PUNCTUATION", type := .byte, accessFlags := 25, slot := 28, constantValue := 0 }, { name := "MATH_SYMBOL", type := .byte, accessFlags := 25, slot := 29, constantValue := 0 }, { name := "CURRENCY_SYMBOL", type := .byte, accessFlags := 25, slot := 30, constantValue := 0 }, { name := "MODIFIER_SYMBOL", type := .byte, accessFlags := 25, slot := 31, constantValue := 0 }, { name := "OTHER_SYMBOL", type := .byte, accessFlags := 25, slot := 32, constantValue := 0 }, { name := "INITIAL_QUOTE_PUNCTUATION", type := .byte, accessFlags := 25, slot := 33, constantValue := 0 }, { name := "FINAL_QUOTE_PUNCTUATION", type := .byte, accessFlags := 25, slot := 34, constantValue := 0 }, { name := "ERROR", type := .int, accessFlags := 24, slot := 35, constantValue := 0 }, { name := "DIRECTIONALITY_UNDEFINED", type := .byte, accessFlags := 25, slot := 36, constantValue := 0 }, { name := "DIRECTIONALITY_LEFT_TO_RIGHT", type := .byte, accessFlags := 25, slot := 37, constantValue := 0 }, { name := "DIRECTIONALITY_RIGHT_TO_LEFT", type := .byte, accessFlags := 25, slot := 38, constantValue := 0 }, { name := "DIRECTIONALITY_RIGHT_TO_LEFT_ARABIC", type := .byte, accessFlags := 25, slot := 39, constantValue := 0 }, { name := "DIRECTIONALITY_EUROPEAN_NUMBER", type := .byte, accessFlags := 25, slot := 40, constantValue := 0 }, { name := "DIRECTIONALITY_EUROPEAN_NUMBER_SEPARATOR", type := .byte, accessFlags := 25, slot := 41, constantValue := 0 }, { name := "DIRECTIONALITY_EUROPEAN_NUMBER_TERMINATOR", type := .byte, accessFlags := 25, slot := 42, constantValue := 0 }, { name := "DIRECTIONALITY_ARABIC_NUMBER", type := .byte, accessFlags := 25, slot := 43, constantValue := 0 }, { name := "DIRECTIONALITY_COMMON_NUMBER_SEPARATOR", type := .byte, accessFlags := 25, slot := 44, constantValue := 0 }, { name := "DIRECTIONALITY_NONSPACING_MARK", type := .byte, accessFlags := 25, slot := 45, constantValue := 0 }, { name := "DIRECTIONALITY_BOUNDARY_NEUTRAL", type := .byte, accessFlags := 25, slot := 46, constantValue := 0 }, { name := "DIRECTIONALITY_PARAGRAPH_SEPARATOR", type := .byte, accessFlags := 25, slot := 47, constantValue := 0 }, { name := "DIRECTIONALITY_SEGMENT_SEPARATOR", type := .byte, accessFlags := 25, slot := 48, constantValue := 0 }, { name := "DIRECTIONALITY_WHITESPACE", type := .byte, accessFlags := 25, slot := 49, constantValue := 0 }, { name := "DIRECTIONALITY_OTHER_NEUTRALS", type := .byte, accessFlags := 25, slot := 50, constantValue := 0 }, { name := "DIRECTIONALITY_LEFT_TO_RIGHT_EMBEDDING", type := .byte, accessFlags := 25, slot := 51, constantValue := 0 }, { name := "DIRECTIONALITY_LEFT_TO_RIGHT_OVERRIDE", type := .byte, accessFlags := 25, slot := 52, constantValue := 0 }, { name := "DIRECTIONALITY_RIGHT_TO_LEFT_EMBEDDING", type := .byte, accessFlags := 25, slot := 53, constantValue := 0 }, { name := "DIRECTIONALITY_RIGHT_TO_LEFT_OVERRIDE", type := .byte, accessFlags := 25, slot := 54, constantValue := 0 }, { name := "DIRECTIONALITY_POP_DIRECTIONAL_FORMAT", type := .byte, accessFlags := 25, slot := 55, constantValue := 0 }, { name := "DIRECTIONALITY_LEFT_TO_RIGHT_ISOLATE", type := .byte, accessFlags := 25, slot := 56, constantValue := 0 }, { name := "DIRECTIONALITY_RIGHT_TO_LEFT_ISOLATE", type := .byte, accessFlags := 25, slot := 57, constantValue := 0 }, { name := "DIRECTIONALITY_FIRST_STRONG_ISOLATE", type := .byte, accessFlags := 25, slot := 58, constantValue := 0 }, { name := "DIRECTIONALITY_POP_DIRECTIONAL_ISOLATE", type := .byte, accessFlags := 25, slot := 59, constantValue := 0 }, { name := "MIN_HIGH_SURROGATE", type := .char, accessFlags := 25, slot := 60, constantValue := 0 }, { name := "MAX_HIGH_SURROGATE", type := .char, accessFlags := 25, slot := 61, constantValue := 0 }, { name := "MIN_LOW_SURROGATE", type := .char, accessFlags := 25, slot := 62, constantValue := 0 }, { name := "MAX_LOW_SURROGATE", type := .char, accessFlags := 25, slot := 63, constantValue := 0 }, { name := "MIN_SURROGATE", type := .char, accessFlags := 25, slot := 64, constantValue := 0 }, { name := "MAX_SURROGATE", type := .char, accessFlags := 25, slot := 65, constantValue := 0 }, { name := "MIN_SUPPLEMENTARY_CODE_POINT", type := .int, accessFlags := 25, slot := 66, constantValue := 0 }, { name := "MIN_CODE_POINT", type := .int, accessFlags := 25, slot := 67, constantValue := 0 }, { name := "MAX_CODE_POINT", type := .int, accessFlags := 25, slot := 68, constantValue := 0 }, { name := "value", type := .char, accessFlags := 18, slot := 0, constantValue := 0 }, { name := "serialVersionUID", type := .long, accessFlags := 26, slot := 69, constantValue := 0 }, { name := "SIZE", type := .int, accessFlags := 25, slot := 70, constantValue := 0 }, { name := "BYTES", type := .int, accessFlags := 25, slot := 71, constantValue := 0 }, { name := "$assertionsDisabled", type := .boolean, accessFlags := 4120, slot := 72, constantValue := 0 }]
  methods := #[k14m0, k14m1]
  instanceTypes := #[.char]
  staticTypes := #[.int, .int, .char, .char, (.object "java/lang/Class"), .byte, .byte, .byte, .byte, .byte, .byte, .byte, .byte, .byte, .byte, .byte, .byte, .byte, .byte, .byte, .byte, .byte, .byte, .byte, .byte, .byte, .byte, .byte, .byte, .byte, .byte, .byte, .byte, .byte, .byte, .int, .byte, .byte, .byte, .byte, .byte, .byte, .byte, .byte, .byte, .byte, .byte, .byte, .byte, .byte, .byte, .byte, .byte, .byte, .byte, .byte, .byte, .byte, .byte, .byte, .char, .char, .char, .char, .char, .char, .int, .int, .int, .long, .int, .int, .boolean]
  resolved := Array.replicate 604 none
  statics := none }

def pool15 : Array CpInfo := pool [(9, u "<init>"), (6, .class_ 18), (1, u "java/lang/Object"), (0, u "()V"), (1, .class_ 23), (1, u "jdk/internal/util/ArraysSupport"), (0, u "LOG2_ARRAY_LONG_INDEX_SCALE"), (0, u "I"), (2, u "U"), (0, u "Ljdk/internal/misc/Unsafe;"), (8, u "BIG_ENDIAN"), (0, u "Z"), (8, u "LOG2_BYTE_BIT_SIZE"), (4, u "LOG2_ARRAY_INT_INDEX_SCALE"), (54, u "JLA"), (0, u "Ljdk/internal/access/JavaLangAccess;"), (11, u "LOG2_ARRAY_BOOLEAN_INDEX_SCALE"), (9, u "LOG2_ARRAY_BYTE_INDEX_SCALE"), (5, u "LOG2_ARRAY_CHAR_INDEX_SCALE"), (5, u "LOG2_ARRAY_SHORT_INDEX_SCALE"), (18, u "LOG2_ARRAY_FLOAT_INDEX_SCALE"), (24, u "LOG2_ARRAY_DOUBLE_INDEX_SCALE"), (89, u "T_BOOLEAN"), (2, u "T_CHAR"), (1, u "T_FLOAT"), (1, u "T_DOUBLE"), (1, u "T_BYTE"), (1, u "T_SHORT"), (1, u "T_INT"), (1, u "T_LONG"), (1, u "SOFT_MAX_ARRAY_LENGTH")] 83

def k15m0 : Method := { name := "<init>", desc := "()V", sig := { parameters := [], returnType := none }, accessFlags := 2, code := none }
/-- jdk/internal/util/ArraysSupport -/
def k15 : Class := { plain "jdk/internal/util/ArraysSupport" (some 0) with
  accessFlags := 33
  interfaces := #[]
  cf := some (fileOf pool15 21 #[] #[{ accessFlags := 2, nameIndex := 9, descriptorIndex := 19, attributes := #[] }] 33 16 #[] #[{ accessFlags := 24, nameIndex := 28, descriptorIndex := 29, attributes := #[] }, { accessFlags := 26, nameIndex := 38, descriptorIndex := 39, attributes := #[] }, { accessFlags := 25, nameIndex := 121, descriptorIndex := 25, attributes := #[] }, { accessFlags := 25, nameIndex := 131, descriptorIndex := 25, attributes := #[] }, { accessFlags := 25, nameIndex := 137, descriptorIndex := 25, attributes := #[] }, { accessFlags := 25, nameIndex := 143, descriptorIndex := 25, attributes := #[] }, { accessFlags := 25, nameIndex := 53, descriptorIndex := 25, attributes := #[] }, { accessFlags := 25, nameIndex := 24, descriptorIndex := 25, attributes := #[] }, { accessFlags := 25, nameIndex := 162, descriptorIndex := 25, attributes := #[] }, { accessFlags := 25, nameIndex := 187, descriptorIndex := 25, attributes := #[] }, { accessFlags := 26, nameIndex := 48, descriptorIndex := 25, attributes := #[] }, { accessFlags := 25, nameIndex := 277, descriptorIndex := 25, attributes := #[] }, { accessFlags := 25, nameIndex := 280, descriptorIndex := 25, attributes := #[] }, { accessFlags := 25, nameIndex := 282, descriptorIndex := 25, attributes := #[] }, { accessFlags := 25, nameIndex := 284, descriptorIndex := 25, attributes := #[] }, { accessFlags := 25, nameIndex := 286, descriptorIndex := 25, attributes := #[] }, { accessFlags := 25, nameIndex := 288, descriptorIndex := 25, attributes := #[] }, { accessFlags := 25, nameIndex := 290, descriptorIndex := 25, attributes := #[] }, { accessFlags := 25, nameIndex := 292, descriptorIndex := 25, attributes := #[] }, { accessFlags := 26, nameIndex := 108, descriptorIndex := 109, attributes := #[] }, { accessFlags := 25, nameIndex := 294, descriptorIndex := 25, attributes := #[] }])
  fields := #[{ name := "U", type := (.object "jdk/internal/misc/Unsafe"), accessFlags := 24, slot := 0, constantValue := 0 }, { name := "BIG_ENDIAN", type := .boolean, accessFlags := 26, slot := 1, constantValue := 0 }, { name := "LOG2_ARRAY_BOOLEAN_INDEX_SCALE", type := .int, accessFlags := 25, slot := 2, constantValue := 0 }, { name := "LOG2_ARRAY_BYTE_INDEX_SCALE", type := .int, accessFlags := 25, slot := 3, constantValue := 0 }, { name := "LOG2_ARRAY_CHAR_INDEX_SCALE", type := .int, accessFlags := 25, slot := 4, constantValue := 0 }, { name := "LOG2_ARRAY_SHORT_INDEX_SCALE", type := .int, accessFlags := 25, slot := 5, constantValue := 0 }, { name := "LOG2_ARRAY_INT_INDEX_SCALE", type := .int, accessFlags := 25, slot := 6, constantValue := 0 }, { name := "LOG2_ARRAY_LONG_INDEX_SCALE", type := .int, accessFlags := 25, slot := 7, constantValue := 0 }, { name := "LOG2_ARRAY_FLOAT_INDEX_SCALE", type := .int, accessFlags := 25, slot := 8, constantValue := 0 }, { name := "LOG2_ARRAY_DOUBLE_INDEX_SCALE", type := .int, accessFlags := 25, slot := 9, constantValue := 0 }, { name := "LOG2_BYTE_BIT_SIZE", type := .int, accessFlags := 26, slot := 10, constantValue := 0 }, { name := "T_BOOLEAN", type := .int, accessFlags := 25, slot := 11, constantValue := 0 }, { name := "T_CHAR", type := .int, accessFlags := 25, slot := 12, constantValue := 0 }, { name := "T_FLOAT", type := .int, accessFlags := 25, slot := 13, constantValue := 0 }, { name := "T_DOUBLE", type := .int, accessFlags := 25, slot := 14, constantValue := 0 }, { name := "T_BYTE", type := .int, accessFlags := 25, slot := 15, constantValue := 0 }, { name := "T_SHORT", type := .int, accessFlags := 25, slot := 16, constantValue := 0 }, { name := "T_INT", type := .int, accessFlags := 25, slot := 17, constantValue := 0 }, { name := "T_LONG", type := .int, accessFlags := 25, slot := 18, constantValue := 0 }, { name := "JLA", type := (.object "jdk/internal/access/JavaLangAccess"), accessFlags := 26, slot := 19, constantValue := 0 }, { name := "SOFT_MAX_ARRAY_LENGTH", type := .int, accessFlags := 25, slot := 20, constantValue := 0 }]
  methods := #[k15m0]
  instanceTypes := #[]
  staticTypes := #[(.object "jdk/internal/misc/Unsafe"), .boolean, .int, .int, .int, .int, .int, .int, .int, .int, .int, .int, .int, .int, .int, .int, .int, .int, .int, (.object "jdk/internal/access/JavaLangAccess"), .int]
  resolved := Array.replicate 378 none
  statics := none }

def pool16 : Array CpInfo := pool [(1, u "java/lang/Cloneable"), (0, .class_ 1), (0, u "java/lang/Object"), (0, .class_ 3)] 3

/-- java/lang/Cloneable -/
def k16 : Class := { plain "java/lang/Cloneable" (some 0) with
  accessFlags := 1537
  interfaces := #[]
  cf := some (fileOf pool16 2 #[] #[] 1537 4 #[] #[])
  fields := #[]
  methods := #[]
  instanceTypes := #[]
  staticTypes := #[]
  resolved := Array.replicate 8 none
  statics := none }

/-- the primitive byte -/
def k17 : Class := { plain "byte" none with kind := .primitive 'B', accessFlags := 0x411 }
/-- [B -/
def k18 : Class := { plain "[B" (some 0) with kind := .array 17 .byte, interfaces := #[16, 2], accessFlags := 1041 }

/-- the primitive char -/
def k19 : Class := { plain "char" none with kind := .primitive 'C', accessFlags := 0x411 }
/-- [C -/
def k20 : Class := { plain "[C" (some 0) with kind := .array 19 .char, interfaces := #[16, 2], accessFlags := 1041 }

/-- the primitive int -/
def k21 : Class := { plain "int" none with kind := .primitive 'I', accessFlags := 0x411 }
/-- [I -/
def k22 : Class := { plain "[I" (some 0) with kind := .array 21 .int, interfaces := #[16, 2], accessFlags := 1041 }

def heap : Heap := #[{ cls := 7, slots := #[.long 0, .int 1, .null, .int 0, .null, .int 0, .int 0], vm := .statics 7 },
  { cls := 12, slots := #[.null, .null, .null], vm := .statics 12 },
  { cls := 13, slots := #[.int 0, .int 8, .int 0, .int 1], vm := .statics 13 }]
def classes : Array Class := #[k0, k1, k2, k3, k4, k5, k6, k7, k8, k9, k10, k11, k12, k13, k14, k15, k16, k17, k18, k19, k20, k21, k22]
def interned : List (Array UInt16 × Addr) := []
def slotsUsed : Nat := 14
def theMethod : MethodId := ⟨1, 4⟩
def args0 : Array Value := #[.int 65, .int 66, .int 67, .int 5, .int 3]
def aboutOver (below : List Frame) : State where
  vm := { classes := classes, interned := interned.toArray }
  heap := heap
  slotsUsed := slotsUsed
  threads := #[{ frames := .invoking theMethod args0 :: below }]
def below0 : List Frame := [.native { method := ⟨0, 0⟩, args := #[] }]
def about1 : State := aboutOver below0
def p0 : Program := .bare "" "" ""
def e0 : Env := launch0.env 0 0 0
theorem w_frames : about1.frames = Frame.invoking theMethod args0 :: below0 := rfl
set_option maxRecDepth 65536 in
theorem w_args : argsFit about1.vm theMethod args0 = true := by decide +kernel
set_option maxRecDepth 65536 in
theorem w_heap : heapFits about1 = true := by decide +kernel
set_option maxRecDepth 65536 in
theorem w_runnable : about1.curStatus? = some .runnable := by decide +kernel
set_option maxRecDepth 65536 in
theorem w_alone : about1.alone = true := by decide +kernel
set_option maxRecDepth 65536 in
theorem w_named : about1.methodNamed? x = some theMethod := by decide +kernel
set_option maxRecDepth 65536 in
theorem w_hears : about1.hears theMethod below0 = true := by decide +kernel
set_option maxRecDepth 65536 in
theorem w_ripe : about1.ripe theMethod args0 below0 = true := by decide +kernel
theorem w_running : about1.status = .running := rfl
set_option maxRecDepth 65536 in
theorem w_room : about1.hasRoom e0.platform room_1 = true :=
  launch0.hasRoom_least _ room_1 (by decide +kernel) (by decide +kernel) (by decide +kernel) (by decide +kernel) (by decide +kernel) (by decide +kernel)
theorem allAtoms_all (ts : List Jvm.Cond) (a : Array Jvm.Value) (st : Jvm.State) : (allAtoms ts).before a st = ts.all (fun c => c.before a st) := by
  induction ts with
  | nil => rfl
  | cons c t ih =>
    show (Jvm.Cond.and c (allAtoms t)).before a st = _
    rw [Jvm.Cond.before_and, ih, List.all_cons]
def words1 : List Jvm.Cond := Jvm.Cond.code x code maxLocals ret :: tables_1
/-- a 'code' word, met by the world's own term for the bytes: nothing is compared byte by byte -/
theorem code_word {y : MethodName} {bytes : ByteArray} {mx : Nat} {rt : Option FieldType} {a : Array Value} {s : State} {m : MethodId} {meth : Method} {c : Code} (h1 : s.methodNamed? y = some m) (h2 : s.vm.method? m = some meth) (h3 : meth.code = some c) (h4 : c.code = bytes)
    (h5 : (c.maxLocals == mx && c.exceptionTable.isEmpty && decide (c.maxStack ≤ mostOperands) && decide (meth.sig.returnType = rt) && !meth.locks && decide (parseMethodDescriptor y.desc = some meth.sig)) = true) : (Jvm.Cond.code y bytes mx rt).before a s = true := by
  simp only [Bool.and_eq_true, beq_iff_eq, Bool.not_eq_true', decide_eq_true_eq] at h5
  obtain ⟨⟨⟨⟨⟨g1, g2⟩, g3⟩, g4⟩, g5⟩, g6⟩ := h5
  simp [Cond.before, Cond.holds, Cond.value, h1, h2, h3, h4, g1, g2, g3, g4, g5, g6]
def isCode : Jvm.Cond → Bool
  | .code _ _ _ _ => true
  | _ => false
theorem all_split {L : List Jvm.Cond} {P : Jvm.Cond → Bool} (h1 : L.all (fun c => isCode c || P c) = true) (h2 : ∀ c ∈ L.filter isCode, P c = true) : L.all P = true := by
  refine List.all_eq_true.mpr fun c hc => ?_
  have h := List.all_eq_true.mp h1 c hc
  rcases Bool.eq_false_or_eq_true (isCode c) with hi | hi
  · exact h2 c (List.mem_filter.mpr ⟨hc, hi⟩)
  · simpa [hi] using h
set_option maxRecDepth 65536 in
theorem w_c0 : (Jvm.Cond.code x code maxLocals ret).before args0 about1 = true := code_word (m := ⟨1, 4⟩) (meth := k1m4) (c := k1c4) (by decide +kernel) rfl rfl rfl (by decide +kernel)
set_option maxRecDepth 65536 in
theorem w_c1 : (Jvm.Cond.code ({ cls := "com/example/saale/saale/protocol/LengthsAtMostPinLaw", name := "draw", desc := "(I)C" } : Jvm.MethodName) method_2_code (1 : Nat) (Option.some Jvm.ClassFile.FieldType.char)).before args0 about1 = true := code_word (m := ⟨1, 1⟩) (meth := k1m1) (c := k1c1) (by decide +kernel) rfl rfl rfl (by decide +kernel)
set_option maxRecDepth 65536 in
theorem w_c2 : (Jvm.Cond.code ({ cls := "java/lang/String", name := "valueOf", desc := "(C)Ljava/lang/String;" } : Jvm.MethodName) jdk_42_method_139_code (1 : Nat) (Option.some (Jvm.ClassFile.FieldType.object "java/lang/String"))).before args0 about1 = true := code_word (m := ⟨7, 4⟩) (meth := k7m4) (c := k7c4) (by decide +kernel) rfl rfl rfl (by decide +kernel)
set_option maxRecDepth 65536 in
theorem w_c3 : (Jvm.Cond.code ({ cls := "java/lang/StringLatin1", name := "canEncode", desc := "(C)Z" } : Jvm.MethodName) jdk_43_method_3_code (1 : Nat) (Option.some Jvm.ClassFile.FieldType.boolean)).before args0 about1 = true := code_word (m := ⟨8, 1⟩) (meth := k8m1) (c := k8c1) (by decide +kernel) rfl rfl rfl (by decide +kernel)
set_option maxRecDepth 65536 in
theorem w_c4 : (Jvm.Cond.code ({ cls := "java/lang/StringLatin1", name := "toBytes", desc := "(C)[B" } : Jvm.MethodName) jdk_43_method_46_code (1 : Nat) (Option.some (Jvm.ClassFile.FieldType.array Jvm.ClassFile.FieldType.byte))).before args0 about1 = true := code_word (m := ⟨8, 2⟩) (meth := k8m2) (c := k8c2) (by decide +kernel) rfl rfl rfl (by decide +kernel)
set_option maxRecDepth 65536 in
theorem w_c5 : (Jvm.Cond.code ({ cls := "java/lang/String", name := "<init>", desc := "([BB)V" } : Jvm.MethodName) jdk_42_method_151_code (3 : Nat) (Option.none : Option Jvm.ClassFile.FieldType)).before args0 about1 = true := code_word (m := ⟨7, 6⟩) (meth := k7m6) (c := k7c6) (by decide +kernel) rfl rfl rfl (by decide +kernel)
set_option maxRecDepth 65536 in
theorem w_c6 : (Jvm.Cond.code ({ cls := "java/lang/Object", name := "<init>", desc := "()V" } : Jvm.MethodName) object_method_1_code (1 : Nat) (Option.none : Option Jvm.ClassFile.FieldType)).before args0 about1 = true := code_word (m := ⟨0, 0⟩) (meth := k0m0) (c := k0c0) (by decide +kernel) rfl rfl rfl (by decide +kernel)
set_option maxRecDepth 65536 in
theorem w_c7 : (Jvm.Cond.code ({ cls := "java/lang/String", name := "<init>", desc := "([C)V" } : Jvm.MethodName) jdk_42_method_3_code (2 : Nat) (Option.none : Option Jvm.ClassFile.FieldType)).before args0 about1 = true := code_word (m := ⟨7, 1⟩) (meth := k7m1) (c := k7c1) (by decide +kernel) rfl rfl rfl (by decide +kernel)
set_option maxRecDepth 65536 in
theorem w_c8 : (Jvm.Cond.code ({ cls := "java/lang/String", name := "<init>", desc := "([CIILjava/lang/Void;)V" } : Jvm.MethodName) jdk_42_method_149_code (6 : Nat) (Option.none : Option Jvm.ClassFile.FieldType)).before args0 about1 = true := code_word (m := ⟨7, 5⟩) (meth := k7m5) (c := k7c5) (by decide +kernel) rfl rfl rfl (by decide +kernel)
set_option maxRecDepth 65536 in
theorem w_c9 : (Jvm.Cond.code ({ cls := "java/lang/Math", name := "max", desc := "(II)I" } : Jvm.MethodName) jdk_29_method_65_code (2 : Nat) (Option.some Jvm.ClassFile.FieldType.int)).before args0 about1 = true := code_word (m := ⟨9, 1⟩) (meth := k9m1) (c := k9c1) (by decide +kernel) rfl rfl rfl (by decide +kernel)
set_option maxRecDepth 65536 in
theorem w_c10 : (Jvm.Cond.code ({ cls := "com/example/saale/saale/protocol/Lengths", name := "atMost", desc := "(Ljava/lang/String;Ljava/lang/String;I)Ljava/lang/String;" } : Jvm.MethodName) prog_8_method_2_code (3 : Nat) (Option.some (Jvm.ClassFile.FieldType.object "java/lang/String"))).before args0 about1 = true := code_word (m := ⟨10, 1⟩) (meth := k10m1) (c := k10c1) (by decide +kernel) rfl rfl rfl (by decide +kernel)
set_option maxRecDepth 65536 in
theorem w_c11 : (Jvm.Cond.code ({ cls := "java/lang/String", name := "length", desc := "()I" } : Jvm.MethodName) jdk_42_method_54_code (1 : Nat) (Option.some Jvm.ClassFile.FieldType.int)).before args0 about1 = true := code_word (m := ⟨7, 2⟩) (meth := k7m2) (c := k7c2) (by decide +kernel) rfl rfl rfl (by decide +kernel)
set_option maxRecDepth 65536 in
theorem w_c12 : (Jvm.Cond.code ({ cls := "java/lang/String", name := "coder", desc := "()B" } : Jvm.MethodName) jdk_42_method_152_code (1 : Nat) (Option.some Jvm.ClassFile.FieldType.byte)).before args0 about1 = true := code_word (m := ⟨7, 7⟩) (meth := k7m7) (c := k7c7) (by decide +kernel) rfl rfl rfl (by decide +kernel)
set_option maxRecDepth 65536 in
theorem w_c13 : (Jvm.Cond.code ({ cls := "java/lang/String", name := "codePointCount", desc := "(II)I" } : Jvm.MethodName) jdk_42_method_59_code (3 : Nat) (Option.some Jvm.ClassFile.FieldType.int)).before args0 about1 = true := code_word (m := ⟨7, 3⟩) (meth := k7m3) (c := k7c3) (by decide +kernel) rfl rfl rfl (by decide +kernel)
set_option maxRecDepth 65536 in
theorem w_c14 : (Jvm.Cond.code ({ cls := "java/util/Objects", name := "checkFromToIndex", desc := "(III)I" } : Jvm.MethodName) jdk_31_method_18_code (3 : Nat) (Option.some Jvm.ClassFile.FieldType.int)).before args0 about1 = true := code_word (m := ⟨11, 1⟩) (meth := k11m1) (c := k11c1) (by decide +kernel) rfl rfl rfl (by decide +kernel)
set_option maxRecDepth 65536 in
theorem w_c15 : (Jvm.Cond.code ({ cls := "jdk/internal/util/Preconditions", name := "checkFromToIndex", desc := "(IIILjava/util/function/BiFunction;)I" } : Jvm.MethodName) jdk_41_method_12_code (4 : Nat) (Option.some Jvm.ClassFile.FieldType.int)).before args0 about1 = true := code_word (m := ⟨12, 1⟩) (meth := k12m1) (c := k12c1) (by decide +kernel) rfl rfl rfl (by decide +kernel)
set_option maxRecDepth 65536 in
theorem w_c16 : (Jvm.Cond.code ({ cls := "java/lang/String", name := "isLatin1", desc := "()Z" } : Jvm.MethodName) jdk_42_method_154_code (1 : Nat) (Option.some Jvm.ClassFile.FieldType.boolean)).before args0 about1 = true := code_word (m := ⟨7, 8⟩) (meth := k7m8) (c := k7c8) (by decide +kernel) rfl rfl rfl (by decide +kernel)
set_option maxRecDepth 65536 in
theorem w_c17 : (Jvm.Cond.code ({ cls := "java/lang/StringUTF16", name := "compress", desc := "([CII)[B" } : Jvm.MethodName) jdk_52_method_16_code (6 : Nat) (Option.some (Jvm.ClassFile.FieldType.array Jvm.ClassFile.FieldType.byte))).before args0 about1 = true := code_word (m := ⟨13, 9⟩) (meth := k13m9) (c := k13c9) (by decide +kernel) rfl rfl rfl (by decide +kernel)
set_option maxRecDepth 65536 in
theorem w_c18 : (Jvm.Cond.code ({ cls := "java/lang/StringUTF16", name := "compress", desc := "([CI[BII)I" } : Jvm.MethodName) jdk_52_method_21_code (7 : Nat) (Option.some Jvm.ClassFile.FieldType.int)).before args0 about1 = true := code_word (m := ⟨13, 10⟩) (meth := k13m10) (c := k13c10) (by decide +kernel) rfl rfl rfl (by decide +kernel)
set_option maxRecDepth 65536 in
theorem w_c19 : (Jvm.Cond.code ({ cls := "java/lang/StringUTF16", name := "coderFromArrayLen", desc := "([BI)B" } : Jvm.MethodName) jdk_52_method_15_code (2 : Nat) (Option.some Jvm.ClassFile.FieldType.byte)).before args0 about1 = true := code_word (m := ⟨13, 8⟩) (meth := k13m8) (c := k13c8) (by decide +kernel) rfl rfl rfl (by decide +kernel)
set_option maxRecDepth 65536 in
theorem w_c20 : (Jvm.Cond.code ({ cls := "java/lang/StringUTF16", name := "toBytes", desc := "([CII)[B" } : Jvm.MethodName) jdk_52_method_14_code (5 : Nat) (Option.some (Jvm.ClassFile.FieldType.array Jvm.ClassFile.FieldType.byte))).before args0 about1 = true := code_word (m := ⟨13, 7⟩) (meth := k13m7) (c := k13c7) (by decide +kernel) rfl rfl rfl (by decide +kernel)
set_option maxRecDepth 65536 in
theorem w_c21 : (Jvm.Cond.code ({ cls := "java/lang/StringUTF16", name := "newBytesFor", desc := "(I)[B" } : Jvm.MethodName) jdk_52_method_2_code (1 : Nat) (Option.some (Jvm.ClassFile.FieldType.array Jvm.ClassFile.FieldType.byte))).before args0 about1 = true := code_word (m := ⟨13, 1⟩) (meth := k13m1) (c := k13c1) (by decide +kernel) rfl rfl rfl (by decide +kernel)
set_option maxRecDepth 65536 in
theorem w_c22 : (Jvm.Cond.code ({ cls := "java/lang/StringUTF16", name := "newBytesLength", desc := "(I)I" } : Jvm.MethodName) jdk_52_method_3_code (1 : Nat) (Option.some Jvm.ClassFile.FieldType.int)).before args0 about1 = true := code_word (m := ⟨13, 2⟩) (meth := k13m2) (c := k13c2) (by decide +kernel) rfl rfl rfl (by decide +kernel)
set_option maxRecDepth 65536 in
theorem w_c23 : (Jvm.Cond.code ({ cls := "java/lang/StringUTF16", name := "putChar", desc := "([BII)V" } : Jvm.MethodName) jdk_52_method_4_code (3 : Nat) (Option.none : Option Jvm.ClassFile.FieldType)).before args0 about1 = true := code_word (m := ⟨13, 3⟩) (meth := k13m3) (c := k13c3) (by decide +kernel) rfl rfl rfl (by decide +kernel)
set_option maxRecDepth 65536 in
theorem w_c24 : (Jvm.Cond.code ({ cls := "java/lang/StringUTF16", name := "getChar", desc := "([BI)C" } : Jvm.MethodName) jdk_52_method_5_code (2 : Nat) (Option.some Jvm.ClassFile.FieldType.char)).before args0 about1 = true := code_word (m := ⟨13, 4⟩) (meth := k13m4) (c := k13c4) (by decide +kernel) rfl rfl rfl (by decide +kernel)
set_option maxRecDepth 65536 in
theorem w_c25 : (Jvm.Cond.code ({ cls := "com/example/saale/saale/protocol/LengthsAtMostPinLaw", name := "high", desc := "(C)Z" } : Jvm.MethodName) method_3_code (1 : Nat) (Option.some Jvm.ClassFile.FieldType.boolean)).before args0 about1 = true := code_word (m := ⟨1, 2⟩) (meth := k1m2) (c := k1c2) (by decide +kernel) rfl rfl rfl (by decide +kernel)
set_option maxRecDepth 65536 in
theorem w_c26 : (Jvm.Cond.code ({ cls := "com/example/saale/saale/protocol/LengthsAtMostPinLaw", name := "low", desc := "(C)Z" } : Jvm.MethodName) method_4_code (1 : Nat) (Option.some Jvm.ClassFile.FieldType.boolean)).before args0 about1 = true := code_word (m := ⟨1, 3⟩) (meth := k1m3) (c := k1c3) (by decide +kernel) rfl rfl rfl (by decide +kernel)
set_option maxRecDepth 65536 in
theorem w_c27 : (Jvm.Cond.code ({ cls := "java/lang/StringUTF16", name := "codePointCount", desc := "([BII)I" } : Jvm.MethodName) jdk_52_method_12_code (3 : Nat) (Option.some Jvm.ClassFile.FieldType.int)).before args0 about1 = true := code_word (m := ⟨13, 6⟩) (meth := k13m6) (c := k13c6) (by decide +kernel) rfl rfl rfl (by decide +kernel)
set_option maxRecDepth 65536 in
theorem w_c28 : (Jvm.Cond.code ({ cls := "java/lang/StringUTF16", name := "codePointCount", desc := "([BIIZ)I" } : Jvm.MethodName) jdk_52_method_11_code (6 : Nat) (Option.some Jvm.ClassFile.FieldType.int)).before args0 about1 = true := code_word (m := ⟨13, 5⟩) (meth := k13m5) (c := k13c5) (by decide +kernel) rfl rfl rfl (by decide +kernel)
set_option maxRecDepth 65536 in
theorem w_c29 : (Jvm.Cond.code ({ cls := "java/lang/Character", name := "isHighSurrogate", desc := "(C)Z" } : Jvm.MethodName) jdk_89_method_14_code (1 : Nat) (Option.some Jvm.ClassFile.FieldType.boolean)).before args0 about1 = true := code_word (m := ⟨14, 0⟩) (meth := k14m0) (c := k14c0) (by decide +kernel) rfl rfl rfl (by decide +kernel)
set_option maxRecDepth 65536 in
theorem w_c30 : (Jvm.Cond.code ({ cls := "java/lang/Character", name := "isLowSurrogate", desc := "(C)Z" } : Jvm.MethodName) jdk_89_method_15_code (1 : Nat) (Option.some Jvm.ClassFile.FieldType.boolean)).before args0 about1 = true := code_word (m := ⟨14, 1⟩) (meth := k14m1) (c := k14c1) (by decide +kernel) rfl rfl rfl (by decide +kernel)
def codes1 : List Jvm.Cond := [Jvm.Cond.code x code maxLocals ret, Jvm.Cond.code ({ cls := "com/example/saale/saale/protocol/LengthsAtMostPinLaw", name := "draw", desc := "(I)C" } : Jvm.MethodName) method_2_code (1 : Nat) (Option.some Jvm.ClassFile.FieldType.char), Jvm.Cond.code ({ cls := "java/lang/String", name := "valueOf", desc := "(C)Ljava/lang/String;" } : Jvm.MethodName) jdk_42_method_139_code (1 : Nat) (Option.some (Jvm.ClassFile.FieldType.object "java/lang/String")), Jvm.Cond.code ({ cls := "java/lang/StringLatin1", name := "canEncode", desc := "(C)Z" } : Jvm.MethodName) jdk_43_method_3_code (1 : Nat) (Option.some Jvm.ClassFile.FieldType.boolean), Jvm.Cond.code ({ cls := "java/lang/StringLatin1", name := "toBytes", desc := "(C)[B" } : Jvm.MethodName) jdk_43_method_46_code (1 : Nat) (Option.some (Jvm.ClassFile.FieldType.array Jvm.ClassFile.FieldType.byte)), Jvm.Cond.code ({ cls := "java/lang/String", name := "<init>", desc := "([BB)V" } : Jvm.MethodName) jdk_42_method_151_code (3 : Nat) (Option.none : Option Jvm.ClassFile.FieldType), Jvm.Cond.code ({ cls := "java/lang/Object", name := "<init>", desc := "()V" } : Jvm.MethodName) object_method_1_code (1 : Nat) (Option.none : Option Jvm.ClassFile.FieldType), Jvm.Cond.code ({ cls := "java/lang/String", name := "<init>", desc := "([C)V" } : Jvm.MethodName) jdk_42_method_3_code (2 : Nat) (Option.none : Option Jvm.ClassFile.FieldType), Jvm.Cond.code ({ cls := "java/lang/String", name := "<init>", desc := "([CIILjava/lang/Void;)V" } : Jvm.MethodName) jdk_42_method_149_code (6 : Nat) (Option.none : Option Jvm.ClassFile.FieldType), Jvm.Cond.code ({ cls := "java/lang/Math", name := "max", desc := "(II)I" } : Jvm.MethodName) jdk_29_method_65_code (2 : Nat) (Option.some Jvm.ClassFile.FieldType.int), Jvm.Cond.code ({ cls := "com/example/saale/saale/protocol/Lengths", name := "atMost", desc := "(Ljava/lang/String;Ljava/lang/String;I)Ljava/lang/String;" } : Jvm.MethodName) prog_8_method_2_code (3 : Nat) (Option.some (Jvm.ClassFile.FieldType.object "java/lang/String")), Jvm.Cond.code ({ cls := "java/lang/String", name := "length", desc := "()I" } : Jvm.MethodName) jdk_42_method_54_code (1 : Nat) (Option.some Jvm.ClassFile.FieldType.int), Jvm.Cond.code ({ cls := "java/lang/String", name := "coder", desc := "()B" } : Jvm.MethodName) jdk_42_method_152_code (1 : Nat) (Option.some Jvm.ClassFile.FieldType.byte), Jvm.Cond.code ({ cls := "java/lang/String", name := "codePointCount", desc := "(II)I" } : Jvm.MethodName) jdk_42_method_59_code (3 : Nat) (Option.some Jvm.ClassFile.FieldType.int), Jvm.Cond.code ({ cls := "java/util/Objects", name := "checkFromToIndex", desc := "(III)I" } : Jvm.MethodName) jdk_31_method_18_code (3 : Nat) (Option.some Jvm.ClassFile.FieldType.int), Jvm.Cond.code ({ cls := "jdk/internal/util/Preconditions", name := "checkFromToIndex", desc := "(IIILjava/util/function/BiFunction;)I" } : Jvm.MethodName) jdk_41_method_12_code (4 : Nat) (Option.some Jvm.ClassFile.FieldType.int), Jvm.Cond.code ({ cls := "java/lang/String", name := "isLatin1", desc := "()Z" } : Jvm.MethodName) jdk_42_method_154_code (1 : Nat) (Option.some Jvm.ClassFile.FieldType.boolean), Jvm.Cond.code ({ cls := "java/lang/StringUTF16", name := "compress", desc := "([CII)[B" } : Jvm.MethodName) jdk_52_method_16_code (6 : Nat) (Option.some (Jvm.ClassFile.FieldType.array Jvm.ClassFile.FieldType.byte)), Jvm.Cond.code ({ cls := "java/lang/StringUTF16", name := "compress", desc := "([CI[BII)I" } : Jvm.MethodName) jdk_52_method_21_code (7 : Nat) (Option.some Jvm.ClassFile.FieldType.int), Jvm.Cond.code ({ cls := "java/lang/StringUTF16", name := "coderFromArrayLen", desc := "([BI)B" } : Jvm.MethodName) jdk_52_method_15_code (2 : Nat) (Option.some Jvm.ClassFile.FieldType.byte), Jvm.Cond.code ({ cls := "java/lang/StringUTF16", name := "toBytes", desc := "([CII)[B" } : Jvm.MethodName) jdk_52_method_14_code (5 : Nat) (Option.some (Jvm.ClassFile.FieldType.array Jvm.ClassFile.FieldType.byte)), Jvm.Cond.code ({ cls := "java/lang/StringUTF16", name := "newBytesFor", desc := "(I)[B" } : Jvm.MethodName) jdk_52_method_2_code (1 : Nat) (Option.some (Jvm.ClassFile.FieldType.array Jvm.ClassFile.FieldType.byte)), Jvm.Cond.code ({ cls := "java/lang/StringUTF16", name := "newBytesLength", desc := "(I)I" } : Jvm.MethodName) jdk_52_method_3_code (1 : Nat) (Option.some Jvm.ClassFile.FieldType.int), Jvm.Cond.code ({ cls := "java/lang/StringUTF16", name := "putChar", desc := "([BII)V" } : Jvm.MethodName) jdk_52_method_4_code (3 : Nat) (Option.none : Option Jvm.ClassFile.FieldType), Jvm.Cond.code ({ cls := "java/lang/StringUTF16", name := "getChar", desc := "([BI)C" } : Jvm.MethodName) jdk_52_method_5_code (2 : Nat) (Option.some Jvm.ClassFile.FieldType.char), Jvm.Cond.code ({ cls := "com/example/saale/saale/protocol/LengthsAtMostPinLaw", name := "high", desc := "(C)Z" } : Jvm.MethodName) method_3_code (1 : Nat) (Option.some Jvm.ClassFile.FieldType.boolean), Jvm.Cond.code ({ cls := "com/example/saale/saale/protocol/LengthsAtMostPinLaw", name := "low", desc := "(C)Z" } : Jvm.MethodName) method_4_code (1 : Nat) (Option.some Jvm.ClassFile.FieldType.boolean), Jvm.Cond.code ({ cls := "java/lang/StringUTF16", name := "codePointCount", desc := "([BII)I" } : Jvm.MethodName) jdk_52_method_12_code (3 : Nat) (Option.some Jvm.ClassFile.FieldType.int), Jvm.Cond.code ({ cls := "java/lang/StringUTF16", name := "codePointCount", desc := "([BIIZ)I" } : Jvm.MethodName) jdk_52_method_11_code (6 : Nat) (Option.some Jvm.ClassFile.FieldType.int), Jvm.Cond.code ({ cls := "java/lang/Character", name := "isHighSurrogate", desc := "(C)Z" } : Jvm.MethodName) jdk_89_method_14_code (1 : Nat) (Option.some Jvm.ClassFile.FieldType.boolean), Jvm.Cond.code ({ cls := "java/lang/Character", name := "isLowSurrogate", desc := "(C)Z" } : Jvm.MethodName) jdk_89_method_15_code (1 : Nat) (Option.some Jvm.ClassFile.FieldType.boolean)]
set_option maxRecDepth 65536 in
theorem codes_eq : words1.filter isCode = codes1 := rfl
theorem w_codes : ∀ c ∈ words1.filter isCode, c.before args0 about1 = true := by
  rw [codes_eq]
  intro c hc
  simp only [codes1, List.mem_cons, List.not_mem_nil, or_false] at hc
  rcases hc with rfl | rfl | rfl | rfl | rfl | rfl | rfl | rfl | rfl | rfl | rfl | rfl | rfl | rfl | rfl | rfl | rfl | rfl | rfl | rfl | rfl | rfl | rfl | rfl | rfl | rfl | rfl | rfl | rfl | rfl | rfl
  · exact w_c0
  · exact w_c1
  · exact w_c2
  · exact w_c3
  · exact w_c4
  · exact w_c5
  · exact w_c6
  · exact w_c7
  · exact w_c8
  · exact w_c9
  · exact w_c10
  · exact w_c11
  · exact w_c12
  · exact w_c13
  · exact w_c14
  · exact w_c15
  · exact w_c16
  · exact w_c17
  · exact w_c18
  · exact w_c19
  · exact w_c20
  · exact w_c21
  · exact w_c22
  · exact w_c23
  · exact w_c24
  · exact w_c25
  · exact w_c26
  · exact w_c27
  · exact w_c28
  · exact w_c29
  · exact w_c30
set_option maxRecDepth 65536 in
theorem w_t1 : (words1.take 24).all (fun c => isCode c || c.before args0 about1) = true := by decide +kernel
set_option maxRecDepth 65536 in
theorem w_t2 : ((words1.drop 24).take 24).all (fun c => isCode c || c.before args0 about1) = true := by decide +kernel
set_option maxRecDepth 65536 in
theorem w_t3 : (((words1.drop 24).drop 24).take 24).all (fun c => isCode c || c.before args0 about1) = true := by decide +kernel
set_option maxRecDepth 65536 in
theorem w_t4 : ((((words1.drop 24).drop 24).drop 24).take 24).all (fun c => isCode c || c.before args0 about1) = true := by decide +kernel
set_option maxRecDepth 65536 in
theorem w_t5 : (((((words1.drop 24).drop 24).drop 24).drop 24).take 24).all (fun c => isCode c || c.before args0 about1) = true := by decide +kernel
set_option maxRecDepth 65536 in
theorem w_t6 : (((((words1.drop 24).drop 24).drop 24).drop 24).drop 24).all (fun c => isCode c || c.before args0 about1) = true := by decide +kernel
theorem w_tables : (allAtoms (Jvm.Cond.code x code maxLocals ret :: tables_1)).before args0 about1 = true := by
  rw [allAtoms_all]
  show words1.all (fun c => c.before args0 about1) = true
  refine all_split ?_ w_codes
  rw [← List.take_append_drop 24 words1, List.all_append, w_t1, ← List.take_append_drop 24 (words1.drop 24), List.all_append, w_t2, ← List.take_append_drop 24 ((words1.drop 24).drop 24), List.all_append, w_t3, ← List.take_append_drop 24 (((words1.drop 24).drop 24).drop 24), List.all_append, w_t4, ← List.take_append_drop 24 ((((words1.drop 24).drop 24).drop 24).drop 24), List.all_append, w_t5, w_t6]
  rfl
set_option maxRecDepth 65536 in
theorem w_rest : rest_1_c.before args0 about1 = true := by decide +kernel
set_option maxRecDepth 65536 in
theorem w_case : (Jvm.Cond.and given_1 narrow_1).before args0 about1 = true := by decide +kernel
set_option maxRecDepth 65536 in
theorem w_consts : constsHeld consts_1 about1 := Jvm.Lit.constsHeldB_iff.mp (by decide +kernel)
theorem w_applies : (headSpec (Jvm.Cond.code x code maxLocals ret :: tables_1) room_1).applies x e0.platform about1 = true :=
  (Spec.applies_iff w_frames).mpr ⟨w_running, w_runnable, w_alone, w_named, w_hears, w_ripe, w_room, w_tables⟩
theorem atStart : AtStart classFile x code maxLocals ret World_1 tables_1 room_1 Calls_1 rest_1 Pre_1 launch0 p0 e0 about1 theMethod args0 below0 :=
  ⟨lists_1, trivial, launch0.admits_env _ _ _, launch0.least_env, fairChoices_fair.cas, fairChoices_fair.clock, w_frames, w_args, w_heap, w_applies, ⟨w_consts, trivial⟩, w_rest, w_case⟩
end start1
theorem witness_1 : WitnessClaimed_1 := ⟨start1.p0, start1.e0, start1.about1, start1.theMethod, start1.args0, start1.below0, start1.atStart⟩
end Jvm.Pilot.@@N@@
