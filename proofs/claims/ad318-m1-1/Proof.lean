import JvmDerived
import JvmDerived.Pilot.@@N@@Statement
import JvmDerived.Pilot.@@N@@Code
set_option linter.unusedVariables false
set_option linter.unusedSimpArgs false
namespace Jvm.Pilot.@@N@@
open Jvm Jvm.ClassFile Sem Op Lib Jvm.Free Jvm.Stand Jvm.LawKit Jvm.RoadKit Bundle Jvm.Pilot.@@N@@.Jvm.D
/-! the run of one body: Cx holds what is fixed while it runs -/
abbrev Cx : Type := Program × Env × State × MethodId × Array Value × List Frame × Method × Code
abbrev kp (K : Cx) : Program := K.1
abbrev ke (K : Cx) : Env := K.2.1
abbrev ks (K : Cx) : State := K.2.2.1
abbrev km (K : Cx) : MethodId := K.2.2.2.1
abbrev ka (K : Cx) : Array Value := K.2.2.2.2.1
abbrev kb (K : Cx) : List Frame := K.2.2.2.2.2.1
abbrev kt (K : Cx) : Method := K.2.2.2.2.2.2.1
abbrev kc (K : Cx) : Code := K.2.2.2.2.2.2.2
/-- what is returned: nothing where the method is void -/
def Rv (ret : Option FieldType) (w : Value) : Option Value := match ret with
  | none => none
  | some _ => some w
/-- the places written lie in 'ws' or are new -/
def Nw (h0 : Heap) (ws : List Addr) (L : List Loc) : Prop := ∀ x ∈ L, x.base ∈ ws ∨ h0.size ≤ x.base
theorem Nw.nil {h0 : Heap} {ws : List Addr} : Nw h0 ws [] := fun _ q => nomatch q
theorem Nw.app {h0 : Heap} {ws : List Addr} {L L' : List Loc} (a : Nw h0 ws L) (b : Nw h0 ws L') : Nw h0 ws (L ++ L') := fun x q => (List.mem_append.mp q).elim (a x) (b x)
theorem Nw.one {h0 : Heap} {ws : List Addr} {L : List Loc} {a : Addr} {i : Nat} (p : Nw h0 ws L) (q : a ∈ ws ∨ h0.size ≤ a) : Nw h0 ws (L ++ [⟨a, i⟩]) := p.app fun x hx => by cases List.mem_singleton.mp hx; exact q
theorem st_any {l L' : Array Slot} {i : Nat} {v : Value} {o : Slot} (h1 : l[i]? = some o) (ho : One o) (hv : v.category = 1) (e : l.setIfInBounds i (.val v) = L') : storeLocals l i v = some L' := e ▸ XS.store1 h1 ho hv
theorem keep_same {s t : State} {L : List Loc} {k n : Nat} {h0 : Heap} {ws : List Addr} (F : s.sameButNew t L k n) (e : s.heap = h0) (N : Nw h0 ws L) : Keep h0 t.heap ws := by
  subst e
  obtain ⟨-, h2, -, -, -, h3⟩ := F
  refine ⟨h2, fun x c hc hx => ?_, fun x c hc => ?_⟩
  · obtain ⟨c', q1, q2, q3, q4⟩ := h3 x c hc
    have lt := (Array.getElem?_eq_some_iff.mp hc).1
    have : c'.slots = c.slots := Array.ext_getElem? fun i => q4 i fun hm => (N _ hm).elim hx fun q => Nat.not_lt.mpr q lt
    rw [q1, q2, this]
  · obtain ⟨c', q1, q2, q3, -⟩ := h3 x c hc
    exact ⟨c', q1, by rw [q2], by rw [q2], q3⟩
def Ok (Z : State) (n0 : Nat) (EL : List (String × Nat)) (mn : MethodName) (bytes : ByteArray) (ml : Nat) (ret : Option FieldType) (h0 : Heap) (ws : List Addr) (K : Cx) : Prop :=
  (kp K).tables.exec = Jvm.exec ∧ (kc K).code = bytes ∧ (kc K).maxLocals = ml ∧ (ks K).vm.findClass mn.cls = some (km K).cls ∧ (kt K).name = mn.name ∧ Z.Warmed39 (ks K).vm ∧ (kt K).sig.returnType = ret ∧ (kt K).locks = false ∧ (ks K).heap = h0 ∧ Old Z n0 h0 ∧ (∀ x ∈ ws, n0 ≤ x) ∧ ∃ a0, EW Z a0 EL
/-- where the run stands: over the true start with the tables vm0 (a constant may have been interned since) -/
def Sd (l : Launch) (Z : State) (EL : List (String × Nat)) (mn : MethodName) (R : Room) (h0 : Heap) (ws : List Addr) (K : Cx) (sf : List Addr) (h : Heap) (k n : Nat) (T : State) (locs : List Loc) (vm0 : Vm) (k0 : Nat) : Prop :=
  Stand (kp K) l (ke K) R ((ks K).setVm vm0) (km K) (ka K) (kb K) (kt K) (kc K) T locs k n ∧ T.heap = h ∧ Nw h0 ws locs ∧ (ks K).Since vm0 k0 ∧ k0 ≤ h.size ∧ Z.Warmed39 vm0 ∧ vm0.findClass mn.cls = some (km K).cls ∧ CHr Z EL (ks K).vm h0 vm0 h ∧ ∀ x ∈ sf, x < h.size ∧ Safe Z EL vm0 h x
/-- from the frame (pc, Ls, st), with the heap h, k cells and n slots made, the body's run ends, and Q holds of what it returns and of its last heap; sf: objects that are no constant's String nor its bytes -/
def Go (l : Launch) (Z : State) (n0 : Nat) (EL : List (String × Nat)) (mn : MethodName) (bytes : ByteArray) (ml : Nat) (ret : Option FieldType) (R : Room) (h0 : Heap) (ws : List Addr) (fr : Bool) (Q : Value → Heap → Prop) (K : Cx) (sf : List Addr) (h : Heap) (k n pc : Nat) (Ls : Array Slot) (st : List Value) : Prop :=
  Ok Z n0 EL mn bytes ml ret h0 ws K → ∀ (T : State) (locs : List Loc) (vm0 : Vm) (k0 : Nat), Sd l Z EL mn R h0 ws K sf h k n T locs vm0 k0 →
    ∃ s₂ w L, Steps (kp K).tables (ke K) (kb K) (T.setTop (mkF (km K) pc Ls st)) s₂ ∧ s₂.status = .running ∧ Ended s₂ (kb K) (.returned (Rv ret w)) ∧ Q w s₂.heap ∧ Nw h0 ws L ∧ (fr = true → ∀ a, w = .ref a → a < s₂.heap.size ∧ Safe Z EL s₂.vm s₂.heap a) ∧ CHr Z EL (ks K).vm h0 s₂.vm s₂.heap ∧ ReturnedEndW (ks K) (.returned (Rv ret w)) s₂ L R.cells R.slots
/-- what a contract leaves, beside the frame -/
def Qe (Z : State) (EL : List (String × Nat)) (ret : Option FieldType) (h0 : Heap) (ws : List Addr) (fr : Bool) (Q : Value → Heap → Prop) (v : Option Value) (vm' : Vm) (h' : Heap) (L : List Loc) : Prop :=
  (∃ w, v = Rv ret w ∧ Q w h' ∧ Keep h0 h' ws ∧ (fr = true → ∀ a, w = .ref a → a < h'.size ∧ Safe Z EL vm' h' a)) ∧ Nw h0 ws L
/-- a body's contract: called with 'as' at the heap h0 it returns, Q holds, and it writes none of the old cells but those in ws -/
def Con (l : Launch) (Z : State) (n0 : Nat) (EL : List (String × Nat)) (mn : MethodName) (bytes : ByteArray) (ml : Nat) (ret : Option FieldType) (wl : List Jvm.Cond) (R : Room) (as : Array Value) (h0 : Heap) (ws : List Addr) (fr : Bool) (Q : Value → Heap → Prop) : Prop :=
  Old Z n0 h0 → (∀ x ∈ ws, n0 ≤ x) → (∃ a0, EW Z a0 EL) → MetFree l mn (head1 (Jvm.Cond.code mn bytes ml ret :: wl) R) (fun a U => a = as ∧ Z.Warmed39 U.vm ∧ U.heap = h0 ∧ CHv Z EL U.vm h0 ∧ ∀ x ∈ ws, x < h0.size ∧ Safe Z EL U.vm h0 x) (fun _ _ _ _ _ => True)
    (fun _ U o U' => ∃ v L, o = .returned v ∧ Qe Z EL ret h0 ws fr Q v U'.vm U'.heap L ∧ CHr Z EL U.vm U.heap U'.vm U'.heap ∧ ReturnedEndW U o U' L R.cells R.slots)
section Base
variable {l : Launch} {Z : State} {n0 : Nat} {EL : List (String × Nat)} {mn : MethodName} {bytes : ByteArray} {ml : Nat} {ret : Option FieldType} {R : Room} {h0 : Heap} {ws : List Addr} {fr : Bool} {Q : Value → Heap → Prop} {K : Cx} {sf : List Addr} {h : Heap} {k n pc pc' : Nat} {Ls : Array Slot} {st : List Value} {a0 : Array Value}
theorem con_of {wl : List Jvm.Cond} {as : Array Value} (hp : plainFor mn = true) (hef : ∀ m, entryFrame m as ml = mkF m 0 Ls []) (G : ∀ K, Go l Z n0 EL mn bytes ml ret R h0 ws fr Q K ws h0 0 0 0 Ls []) : Con l Z n0 EL mn bytes ml ret wl R as h0 ws fr Q := by
  intro ho hws hEL
  refine MetFree.of_bodySF hp hisR ?_
  intro p e s m args below meth c s₁ Bd hml0 hP hK
  obtain ⟨rfl, hZ, hh, hC, hSf⟩ := hP
  have X0 := Stand.of_body Bd
  have hown := findClass_of_methodNamed Bd.named
  obtain ⟨s₂, w, L, h1, h2, h3, h4, h5, h6, h7, h8⟩ := G (p, e, s, m, args, below, meth, c) ⟨Bd.exec, Bd.bytes, hml0, hown, (name_of_methodNamed Bd.named Bd.method).1, hZ, Bd.returns, Bd.notSynchronized, hh, ho, hws, hEL⟩ s₁ [] s.vm 0 ⟨X0, by rw [← hh, Bd.state]; rfl, Nw.nil, (State.WarmedH.refl s).since 0, Nat.zero_le _, hZ, hown, CHr.refl hC, hSf⟩
  exact ⟨s₂, _, castTop (hef m) h1, h2, h3, _, L, rfl, ⟨⟨w, rfl, h4, (keep_same h8.2.2.2 hh h5 :), h6⟩, h5⟩, by rw [show s.heap = h0 from hh]; exact h7, h8⟩
theorem con_mono {wl : List Jvm.Cond} {as : Array Value} {Q' : Value → Heap → Prop} (C : Con l Z n0 EL mn bytes ml ret wl R as h0 ws fr Q) (H : ∀ w h', Keep h0 h' ws → Q w h' → Q' w h') : Con l Z n0 EL mn bytes ml ret wl R as h0 ws fr Q' := by
  intro ho hws hEL p e ha hc hk s m args below hf happ hP hK
  obtain ⟨n, o, h1, h2, h3, v, L, q1, ⟨⟨w, q2, q3, q4, q4'⟩, q5⟩, q6⟩ := C ho hws hEL p e ha hc hk s m args below hf happ hP hK
  exact ⟨n, o, h1, h2, h3, v, L, q1, ⟨⟨w, q2, H w _ q4 q3, q4, q4'⟩, q5⟩, q6⟩
theorem old_at (ok : Ok Z n0 EL mn bytes ml ret h0 ws K) {T : State} {locs : List Loc} {vm0 : Vm} {k0 : Nat} (X : Sd l Z EL mn R h0 ws K sf h k n T locs vm0 k0) : Old Z n0 h ∧ Keep h0 h ws := by
  obtain ⟨-, -, -, -, -, -, -, -, eh, ho, hws, -⟩ := ok
  have Kp : Keep h0 T.heap ws := (keep_same X.1.same eh X.2.2.1 :)
  exact ⟨X.2.1 ▸ ho.keep Kp hws, X.2.1 ▸ Kp⟩
theorem go_old (G : Old Z n0 h → Keep h0 h ws → Go l Z n0 EL mn bytes ml ret R h0 ws fr Q K sf h k n pc Ls st) : Go l Z n0 EL mn bytes ml ret R h0 ws fr Q K sf h k n pc Ls st := fun ok T locs vm0 k0 X =>
  G (old_at ok X).1 (old_at ok X).2 ok T locs vm0 k0 X
theorem go_mono {k' n' : Nat} (hk : k ≤ k') (hn : n ≤ n') (G : Go l Z n0 EL mn bytes ml ret R h0 ws fr Q K sf h k' n' pc Ls st) : Go l Z n0 EL mn bytes ml ret R h0 ws fr Q K sf h k n pc Ls st := fun ok T locs vm0 k0 X =>
  G ok T locs vm0 k0 ⟨{ X.1 with same := X.1.same.mono hk hn }, X.2⟩
theorem go_sf {sf' : List Addr} (hs : ∀ x ∈ sf', x ∈ sf) (G : Go l Z n0 EL mn bytes ml ret R h0 ws fr Q K sf' h k n pc Ls st) : Go l Z n0 EL mn bytes ml ret R h0 ws fr Q K sf h k n pc Ls st := fun ok T locs vm0 k0 ⟨a1, a2, a3, a4, a5, a6, a7, a8, a9⟩ =>
  G ok T locs vm0 k0 ⟨a1, a2, a3, a4, a5, a6, a7, a8, fun x hx => a9 x (hs x hx)⟩
theorem go_add {a : Addr} (hE : EL = []) (ha : a < h.size) (G : Go l Z n0 EL mn bytes ml ret R h0 ws fr Q K (a :: sf) h k n pc Ls st) : Go l Z n0 EL mn bytes ml ret R h0 ws fr Q K sf h k n pc Ls st := fun ok T locs vm0 k0 ⟨a1, a2, a3, a4, a5, a6, a7, a8, a9⟩ =>
  G ok T locs vm0 k0 ⟨a1, a2, a3, a4, a5, a6, a7, a8, fun x hx => (List.mem_cons.mp hx).elim (fun q => by subst q hE; exact ⟨ha, fun ⟨p, hp, _⟩ => nomatch hp⟩) (a9 x)⟩
theorem g_pure {Ls' : Array Slot} {st' : List Value} (S : ∀ T t, At T (km K) (kc K) (kb K) → (kp K).tables.exec = Jvm.exec → Steps (kp K).tables (ke K) (kb K) (T.setTop (mkF (km K) pc' Ls' st')) t → (kc K).code = bytes → Steps (kp K).tables (ke K) (kb K) (T.setTop (mkF (km K) pc Ls st)) t)
    (G : Go l Z n0 EL mn bytes ml ret R h0 ws fr Q K sf h k n pc' Ls' st') : Go l Z n0 EL mn bytes ml ret R h0 ws fr Q K sf h k n pc Ls st := fun ok T locs vm0 k0 X => by
  obtain ⟨s₂, w, L, h1, r⟩ := G ok T locs vm0 k0 X
  exact ⟨s₂, w, L, S T _ X.1.here ok.1 h1 ok.2.1, r⟩
theorem g_law {Ls' : Array Slot} {st' : List Value} (S : ∀ (s' T : State) (locs : List Loc), (kp K).tables.exec = Jvm.exec → (kc K).code = bytes → (kc K).maxLocals = ml → s'.vm.findClass mn.cls = some (km K).cls → (kt K).name = mn.name → Z.Warmed39 s'.vm → Stand (kp K) l (ke K) R s' (km K) (ka K) (kb K) (kt K) (kc K) T locs k n → T.heap = h → Old Z n0 h → ∃ T', Stand (kp K) l (ke K) R s' (km K) (ka K) (kb K) (kt K) (kc K) T' locs k n ∧ T'.heap = h ∧ ∀ t, Steps (kp K).tables (ke K) (kb K) (T'.setTop (mkF (km K) pc' Ls' st')) t → Steps (kp K).tables (ke K) (kb K) (T.setTop (mkF (km K) pc Ls st)) t)
    (G : Go l Z n0 EL mn bytes ml ret R h0 ws fr Q K sf h k n pc' Ls' st') : Go l Z n0 EL mn bytes ml ret R h0 ws fr Q K sf h k n pc Ls st := fun ok T locs vm0 k0 X => by
  have ho := (old_at ok X).1
  obtain ⟨a1, a2, a3, a4, a5, a6, a7, a8, a9⟩ := X
  obtain ⟨T', X', e', S'⟩ := S ((ks K).setVm vm0) T locs ok.1 ok.2.1 ok.2.2.1 a7 ok.2.2.2.2.1 a6 a1 a2 ho
  obtain ⟨s₂, w, L, h1, r⟩ := G ok T' locs vm0 k0 ⟨X', e', a3, a4, a5, a6, a7, a8, a9⟩
  exact ⟨s₂, w, L, S' _ h1, r⟩
theorem g_wr {a : Addr} {i : Nat} {v : Value} {Ls' : Array Slot} {st' : List Value} (S : ∀ (s' T : State) (locs : List Loc), (kp K).tables.exec = Jvm.exec → (kc K).code = bytes → (kc K).maxLocals = ml → s'.vm.findClass mn.cls = some (km K).cls → (kt K).name = mn.name → Z.Warmed39 s'.vm → Stand (kp K) l (ke K) R s' (km K) (ka K) (kb K) (kt K) (kc K) T locs k n → T.heap = h → Old Z n0 h → ∃ T' h', Stand (kp K) l (ke K) R s' (km K) (ka K) (kb K) (kt K) (kc K) T' (locs ++ [⟨a, i⟩]) k n ∧ T'.heap = h' ∧ Wr h h' a i v ∧ ∀ t, Steps (kp K).tables (ke K) (kb K) (T'.setTop (mkF (km K) pc' Ls' st')) t → Steps (kp K).tables (ke K) (kb K) (T.setTop (mkF (km K) pc Ls st)) t)
    (hin : a ∈ ws ∨ h0.size ≤ a) (hsf : a ∈ sf) (G : ∀ h', Wr h h' a i v → Go l Z n0 EL mn bytes ml ret R h0 ws fr Q K sf h' k n pc' Ls' st') : Go l Z n0 EL mn bytes ml ret R h0 ws fr Q K sf h k n pc Ls st := fun ok T locs vm0 k0 X => by
  have ho := (old_at ok X).1
  obtain ⟨a1, a2, a3, a4, a5, a6, a7, a8, a9⟩ := X
  obtain ⟨T', h', X', e', W, S'⟩ := S ((ks K).setVm vm0) T locs ok.1 ok.2.1 ok.2.2.1 a7 ok.2.2.2.2.1 a6 a1 a2 ho
  have Sa := (a9 a hsf).2
  obtain ⟨s₂, w, L, h1, r⟩ := G h' W ok T' _ vm0 k0 ⟨X', e', a3.one hin, a4, by rw [W.size]; exact a5, a6, a7, a8.trans (CHr.wr W Sa a8.1), fun x hx => ⟨by rw [W.size]; exact (a9 x hx).1, Safe.wr W Sa a8.1 (a9 x hx).2⟩⟩
  exact ⟨s₂, w, L, S' _ h1, r⟩
theorem g_ext {P : Heap → Prop} {k' n' : Nat} {Ls' : Array Slot} {st' : List Value} (S : ∀ (s' T : State) (locs : List Loc), (kp K).tables.exec = Jvm.exec → (kc K).code = bytes → (kc K).maxLocals = ml → s'.vm.findClass mn.cls = some (km K).cls → (kt K).name = mn.name → Z.Warmed39 s'.vm → Stand (kp K) l (ke K) R s' (km K) (ka K) (kb K) (kt K) (kc K) T locs k n → T.heap = h → Old Z n0 h → ∃ T' h', Stand (kp K) l (ke K) R s' (km K) (ka K) (kb K) (kt K) (kc K) T' locs k' n' ∧ T'.heap = h' ∧ Ext h h' ∧ h.size < h'.size ∧ P h' ∧ ∀ t, Steps (kp K).tables (ke K) (kb K) (T'.setTop (mkF (km K) pc' Ls' st')) t → Steps (kp K).tables (ke K) (kb K) (T.setTop (mkF (km K) pc Ls st)) t)
    (G : ∀ h', Ext h h' → P h' → h0.size ≤ h.size → Go l Z n0 EL mn bytes ml ret R h0 ws fr Q K (h.size :: sf) h' k' n' pc' Ls' st') : Go l Z n0 EL mn bytes ml ret R h0 ws fr Q K sf h k n pc Ls st := fun ok T locs vm0 k0 X => by
  obtain ⟨ho, hKp⟩ := old_at ok X
  obtain ⟨a1, a2, a3, a4, a5, a6, a7, a8, a9⟩ := X
  obtain ⟨T', h', X', e', E, hlt, p, S'⟩ := S ((ks K).setVm vm0) T locs ok.1 ok.2.1 ok.2.2.1 a7 ok.2.2.2.2.1 a6 a1 a2 ho
  obtain ⟨s₂, w, L, h1, r⟩ := G h' E p hKp.1 ok T' _ vm0 k0 ⟨X', e', a3, a4, Nat.le_trans a5 E.1, a6, a7, a8.trans (CHr.ext E a8.1), fun x hx => (List.mem_cons.mp hx).elim (fun q => by subst q; exact ⟨hlt, Safe.ext E a8.1 (Safe.new (Nat.le_refl _))⟩) fun q => ⟨Nat.lt_of_lt_of_le (a9 x q).1 E.1, Safe.ext E a8.1 (a9 x q).2⟩⟩
  exact ⟨s₂, w, L, S' _ h1, r⟩
theorem g_ret {w : Value} (S : ∀ (s' T : State) (locs : List Loc), (kp K).tables.exec = Jvm.exec → (kc K).code = bytes → Stand (kp K) l (ke K) R s' (km K) (ka K) (kb K) (kt K) (kc K) T locs k n → (kt K).sig.returnType = ret → ∀ fs, (∀ (f : JFrame) (acts : List Action), f.method = km K → f.locked = none → f.entered = [] → (doReturn (ke K) (T.setTop f) acts (Rv ret w)).1 = T.setFrames fs) → Steps (kp K).tables (ke K) (kb K) (T.setTop (mkF (km K) pc Ls st)) (T.setFrames fs))
    (hq : Q w h) (hfr : fr = true → ∀ a, w = .ref a → a ∈ sf) (hk : k ≤ R.cells) (hn : n ≤ R.slots) : Go l Z n0 EL mn bytes ml ret R h0 ws fr Q K sf h k n pc Ls st := fun ok T locs vm0 k0 X => by
  obtain ⟨hx, hb, -, -, -, -, hret, hlk, -, -, -, _, hEL⟩ := ok
  obtain ⟨a1, a2, a3, a4, a5, a6, a7, a8, a9⟩ := X
  obtain ⟨fs, hl, hrun, hended, r1, r2, r3, r4⟩ := a1.leaveW a4 (by rw [a2]; exact a5) (v := Rv ret w) (fun q => by rw [hret] at q; subst q; rfl) hlk
  have A := CHv.at a1 a6 hEL a8.1
  subst a2
  exact ⟨_, w, locs, S _ T locs hx hb a1 hret fs hl, hrun, hended, hq, a3, fun e a hw => ⟨(a9 a (hfr e a hw)).1, A.safe (a9 a (hfr e a hw)).1 (a9 a (hfr e a hw)).2⟩, a8.trans A, r1, r2, r3, r4.mono hk hn⟩
theorem g_fr {P : Heap → Prop} {b : Addr} {Ls' : Array Slot} {st' : List Value} (S : ∀ (s' T : State) (locs : List Loc), (kp K).tables.exec = Jvm.exec → (kc K).code = bytes → (kc K).maxLocals = ml → s'.vm.findClass mn.cls = some (km K).cls → (kt K).name = mn.name → Z.Warmed39 s'.vm → Stand (kp K) l (ke K) R s' (km K) (ka K) (kb K) (kt K) (kc K) T locs k n → T.heap = h → Old Z n0 h → Fr h0.size locs → ∃ T' h' L, Stand (kp K) l (ke K) R s' (km K) (ka K) (kb K) (kt K) (kc K) T' L k n ∧ T'.heap = h' ∧ Fr h0.size L ∧ Keep h h' [b] ∧ P h' ∧ ∀ t, Steps (kp K).tables (ke K) (kb K) (T'.setTop (mkF (km K) pc' Ls' st')) t → Steps (kp K).tables (ke K) (kb K) (T.setTop (mkF (km K) pc Ls st)) t)
    (hsf : b ∈ sf) (G : ∀ h', Keep h h' [b] → P h' → Go l Z n0 EL mn bytes ml ret R h0 [] fr Q K sf h' k n pc' Ls' st') : Go l Z n0 EL mn bytes ml ret R h0 [] fr Q K sf h k n pc Ls st := fun ok T locs vm0 k0 X => by
  have ho := (old_at ok X).1
  obtain ⟨a1, a2, a3, a4, a5, a6, a7, a8, a9⟩ := X
  obtain ⟨T', h', L, X', e', F, Kp, p, S'⟩ := S ((ks K).setVm vm0) T locs ok.1 ok.2.1 ok.2.2.1 a7 ok.2.2.2.2.1 a6 a1 a2 ho (fun y hy => (a3 y hy).elim (fun q => nomatch q) id)
  have hs : ∀ x ∈ [b], Safe Z EL vm0 h x := fun x hx => by cases List.mem_singleton.mp hx; exact (a9 b hsf).2
  obtain ⟨s₂, w, L2, h1, r⟩ := G h' Kp p ok T' L vm0 k0 ⟨X', e', fun y hy => Or.inr (F y hy), a4, Nat.le_trans a5 Kp.1, a6, a7, a8.trans (CHr.keep Kp hs a8.1), fun x hx => ⟨Nat.lt_of_lt_of_le (a9 x hx).1 Kp.1, Safe.keep Kp hs a8.1 (a9 x hx).2⟩⟩
  exact ⟨s₂, w, L2, S' _ h1, r⟩
theorem g_call {kc' nc : Nat} {rest : List Value} {wsb : List Addr} {Qc : Option Value → Heap → List Loc → Prop} (S : ∀ (s' T : State) (locs : List Loc), (kp K).tables.exec = Jvm.exec → (kc K).code = bytes → (kc K).maxLocals = ml → s'.vm.findClass mn.cls = some (km K).cls → (kt K).name = mn.name → Z.Warmed39 s'.vm → Stand (kp K) l (ke K) R s' (km K) (ka K) (kb K) (kt K) (kc K) T locs k n → T.heap = h → Old Z n0 h → Keep h0 h ws → ∃ v T' L, Stand (kp K) l (ke K) R s' (km K) (ka K) (kb K) (kt K) (kc K) T' (locs ++ L) (k + kc') (n + nc) ∧ Qc v T'.heap L ∧ ∀ t, Steps (kp K).tables (ke K) (kb K) (T'.setTop (mkF (km K) pc' Ls (v.toList ++ rest))) t → Steps (kp K).tables (ke K) (kb K) (T.setTop (mkF (km K) pc Ls st)) t)
    (hQ : Keep h0 h ws → ∀ v h' L, Qc v h' L → Nw h0 ws L ∧ Keep h h' wsb) (hsf : ∀ x ∈ wsb, x ∈ sf) (G : ∀ v h' L, Qc v h' L → Go l Z n0 EL mn bytes ml ret R h0 ws fr Q K sf h' (k + kc') (n + nc) pc' Ls (v.toList ++ rest)) : Go l Z n0 EL mn bytes ml ret R h0 ws fr Q K sf h k n pc Ls st := fun ok T locs vm0 k0 X => by
  obtain ⟨ho, hKp⟩ := old_at ok X
  obtain ⟨a1, a2, a3, a4, a5, a6, a7, a8, a9⟩ := X
  obtain ⟨v, T', L, X', hq, S'⟩ := S ((ks K).setVm vm0) T locs ok.1 ok.2.1 ok.2.2.1 a7 ok.2.2.2.2.1 a6 a1 a2 ho hKp
  obtain ⟨q1, q2⟩ := hQ hKp _ _ _ hq
  have hs : ∀ x ∈ wsb, Safe Z EL vm0 h x := fun x hx => (a9 x (hsf x hx)).2
  obtain ⟨s₂, w, L2, h1, r⟩ := G v _ L hq ok T' _ vm0 k0 ⟨X', rfl, a3.app q1, a4, Nat.le_trans a5 q2.1, a6, a7, a8.trans (CHr.keep q2 hs a8.1), fun x hx => ⟨Nat.lt_of_lt_of_le (a9 x hx).1 q2.1, Safe.keep q2 hs a8.1 (a9 x hx).2⟩⟩
  exact ⟨s₂, w, L2, S' _ h1, r⟩
theorem backOfX {p : Program} {e : Env} {s : State} {args : Array Value} {below : List Frame} {vm0 : Vm} {y : MethodName} {bytes : ByteArray} {maxL : Nat} {ret : Option FieldType} {rm : Room} {len W : Nat} {as' : Array Value} {Qv : Option Value → Vm → Heap → List Loc → Prop}
    (hM : MetFree l y (head1 [Jvm.Cond.code y bytes maxL ret] rm) (fun a U => a = as' ∧ Z.Warmed39 U.vm ∧ U.heap = h ∧ CHv Z EL U.vm h ∧ ∀ x ∈ ws, x < h.size ∧ Safe Z EL U.vm h x) (fun _ _ _ _ _ => True) (fun _ U o U' => ∃ v L, o = .returned v ∧ Qv v U'.vm U'.heap L ∧ CHr Z EL U.vm U.heap U'.vm U'.heap ∧ ReturnedEndW U o U' L rm.cells rm.slots))
    (hZ : Z.Warmed39 vm0) (wc : (Jvm.Cond.code y bytes maxL ret).before a0 Z = true) (wz : (Jvm.Cond.initialized y.cls).before a0 Z = true) (hf : rm.frames + 1 ≤ R.frames) (hl : W + (maxL + 11) + rm.locals ≤ R.locals) {a1 : Array Value} (hEL : EW Z a1 EL) (H : CHv Z EL vm0 h) (Sf : ∀ x ∈ ws, x < h.size ∧ Safe Z EL vm0 h x) :
    BackS l R p e below (s.setVm vm0) args y len W (fun A a => a = as' ∧ A.U.heap = h ∧ A.cells + rm.cells ≤ R.cells ∧ A.slots + rm.slots ≤ R.slots)
      (fun A _ v B => ∃ L, Qv v B.U.vm B.U.heap L ∧ B.locs = A.locs ++ L ∧ B.cells = A.cells + rm.cells ∧ B.slots = A.slots + rm.slots ∧ CHr Z EL vm0 h B.U.vm B.U.heap) :=
  BackS.of_freeW (bytes := bytes) (maxL := maxL) (ret := ret) (E := fun _ first o t L k n => k = rm.cells ∧ n = rm.slots ∧ (∃ v, o = .returned v ∧ Qv v t.vm t.heap L) ∧ CHr Z EL first.vm first.heap t.vm t.heap) hM hf hl
    (fun m meth c A a Y hp => have hU : Z.Warmed39 A.U.vm := wtrans (s := s.setVm vm0) hZ Y.warmed
      ⟨by show (Jvm.Cond.and _ .tt).before a A.U = true; rw [Cond.before_and, mv hU wc]; rfl, mv hU wc, mv hU wz, hp.2.2.1, hp.2.2.2⟩)
    (fun m meth c A a g mk Y hp => ⟨hp.1, wtrans (s := s.setVm vm0) hZ Y.warmed, hp.2.1, (CHv.at Y hZ hEL H).1, fun x hx => ⟨(Sf x hx).1, (CHv.at Y hZ hEL H).safe (Sf x hx).1 (Sf x hx).2⟩⟩) (fun _ _ _ _ _ _ _ _ _ => trivial)
    (fun _ _ _ _ ⟨v, L, h1, h2, h3, h4⟩ => ⟨L, _, _, h4, rfl, rfl, ⟨v, h1, h2⟩, h3⟩)
    (fun m meth c A a g mk v t L k n Y hp _ _ ⟨e1, e2, ⟨v', e3, e4⟩, e5⟩ => by
      cases e3; subst e1 e2
      refine ⟨L, e4, rfl, rfl, rfl, (CHv.at Y hZ hEL H).trans ?_⟩
      rw [← hp.2.1]; exact e5)
end Base
section Rules
variable {l : Launch} {Z : State} {n0 : Nat} {EL : List (String × Nat)} {mn : MethodName} {bytes : ByteArray} {ml : Nat} {ret : Option FieldType} {R : Room} {h0 : Heap} {ws : List Addr} {fr : Bool} {Q : Value → Heap → Prop} {K : Cx} {sf : List Addr} {h : Heap} {k n pc pc' : Nat} {Ls : Array Slot} {st : List Value} {a0 : Array Value}
theorem g_iadd {x y v : Int32} (hd : decode bytes pc = .ok (.iadd, 1)) (hv : x + y = v) (hp : pc + 1 = pc') (G : Go l Z n0 EL mn bytes ml ret R h0 ws fr Q K sf h k n pc' Ls (.int v :: st)) : Go l Z n0 EL mn bytes ml ret R h0 ws fr Q K sf h k n pc Ls (.int y :: .int x :: st) :=
  g_pure (fun T t H hx k e => by subst hp e hv; exact XS.iadd H hx rfl hd rfl k) G
theorem g_isub {x y v : Int32} (hd : decode bytes pc = .ok (.isub, 1)) (hv : x - y = v) (hp : pc + 1 = pc') (G : Go l Z n0 EL mn bytes ml ret R h0 ws fr Q K sf h k n pc' Ls (.int v :: st)) : Go l Z n0 EL mn bytes ml ret R h0 ws fr Q K sf h k n pc Ls (.int y :: .int x :: st) :=
  g_pure (fun T t H hx k e => by subst hp e hv; exact XS.isub H hx rfl hd rfl k) G
theorem g_imul {x y v : Int32} (hd : decode bytes pc = .ok (.imul, 1)) (hv : x * y = v) (hp : pc + 1 = pc') (G : Go l Z n0 EL mn bytes ml ret R h0 ws fr Q K sf h k n pc' Ls (.int v :: st)) : Go l Z n0 EL mn bytes ml ret R h0 ws fr Q K sf h k n pc Ls (.int y :: .int x :: st) :=
  g_pure (fun T t H hx k e => by subst hp e hv; exact XS.imul H hx rfl hd rfl k) G
theorem g_iand {x y v : Int32} (hd : decode bytes pc = .ok (.iand, 1)) (hv : x &&& y = v) (hp : pc + 1 = pc') (G : Go l Z n0 EL mn bytes ml ret R h0 ws fr Q K sf h k n pc' Ls (.int v :: st)) : Go l Z n0 EL mn bytes ml ret R h0 ws fr Q K sf h k n pc Ls (.int y :: .int x :: st) :=
  g_pure (fun T t H hx k e => by subst hp e hv; exact XS.iand H hx rfl hd rfl k) G
theorem g_ior {x y v : Int32} (hd : decode bytes pc = .ok (.ior, 1)) (hv : x ||| y = v) (hp : pc + 1 = pc') (G : Go l Z n0 EL mn bytes ml ret R h0 ws fr Q K sf h k n pc' Ls (.int v :: st)) : Go l Z n0 EL mn bytes ml ret R h0 ws fr Q K sf h k n pc Ls (.int y :: .int x :: st) :=
  g_pure (fun T t H hx k e => by subst hp e hv; exact XS.ior H hx rfl hd rfl k) G
theorem g_ixor {x y v : Int32} (hd : decode bytes pc = .ok (.ixor, 1)) (hv : x ^^^ y = v) (hp : pc + 1 = pc') (G : Go l Z n0 EL mn bytes ml ret R h0 ws fr Q K sf h k n pc' Ls (.int v :: st)) : Go l Z n0 EL mn bytes ml ret R h0 ws fr Q K sf h k n pc Ls (.int y :: .int x :: st) :=
  g_pure (fun T t H hx k e => by subst hp e hv; exact XS.ixor H hx rfl hd rfl k) G
theorem g_ishl {x y v : Int32} (hd : decode bytes pc = .ok (.ishl, 1)) (hv : x <<< (y &&& 31) = v) (hp : pc + 1 = pc') (G : Go l Z n0 EL mn bytes ml ret R h0 ws fr Q K sf h k n pc' Ls (.int v :: st)) : Go l Z n0 EL mn bytes ml ret R h0 ws fr Q K sf h k n pc Ls (.int y :: .int x :: st) :=
  g_pure (fun T t H hx k e => by subst hp e hv; exact XS.ishl H hx rfl hd rfl k) G
theorem g_ishr {x y v : Int32} (hd : decode bytes pc = .ok (.ishr, 1)) (hv : x >>> (y &&& 31) = v) (hp : pc + 1 = pc') (G : Go l Z n0 EL mn bytes ml ret R h0 ws fr Q K sf h k n pc' Ls (.int v :: st)) : Go l Z n0 EL mn bytes ml ret R h0 ws fr Q K sf h k n pc Ls (.int y :: .int x :: st) :=
  g_pure (fun T t H hx k e => by subst hp e hv; exact XS.ishr H hx rfl hd rfl k) G
theorem g_iushr {x y v : Int32} (hd : decode bytes pc = .ok (.iushr, 1)) (hv : (x.toUInt32 >>> (y &&& 31).toUInt32).toInt32 = v) (hp : pc + 1 = pc') (G : Go l Z n0 EL mn bytes ml ret R h0 ws fr Q K sf h k n pc' Ls (.int v :: st)) : Go l Z n0 EL mn bytes ml ret R h0 ws fr Q K sf h k n pc Ls (.int y :: .int x :: st) :=
  g_pure (fun T t H hx k e => by subst hp e hv; exact XS.iushr H hx rfl hd rfl k) G
theorem g_ladd {x y v : Int64} (hd : decode bytes pc = .ok (.ladd, 1)) (hv : x + y = v) (hp : pc + 1 = pc') (G : Go l Z n0 EL mn bytes ml ret R h0 ws fr Q K sf h k n pc' Ls (.long v :: st)) : Go l Z n0 EL mn bytes ml ret R h0 ws fr Q K sf h k n pc Ls (.long y :: .long x :: st) :=
  g_pure (fun T t H hx k e => by subst hp e hv; exact XS.ladd H hx rfl hd rfl k) G
theorem g_lsub {x y v : Int64} (hd : decode bytes pc = .ok (.lsub, 1)) (hv : x - y = v) (hp : pc + 1 = pc') (G : Go l Z n0 EL mn bytes ml ret R h0 ws fr Q K sf h k n pc' Ls (.long v :: st)) : Go l Z n0 EL mn bytes ml ret R h0 ws fr Q K sf h k n pc Ls (.long y :: .long x :: st) :=
  g_pure (fun T t H hx k e => by subst hp e hv; exact XS.lsub H hx rfl hd rfl k) G
theorem g_lmul {x y v : Int64} (hd : decode bytes pc = .ok (.lmul, 1)) (hv : x * y = v) (hp : pc + 1 = pc') (G : Go l Z n0 EL mn bytes ml ret R h0 ws fr Q K sf h k n pc' Ls (.long v :: st)) : Go l Z n0 EL mn bytes ml ret R h0 ws fr Q K sf h k n pc Ls (.long y :: .long x :: st) :=
  g_pure (fun T t H hx k e => by subst hp e hv; exact XS.lmul H hx rfl hd rfl k) G
theorem g_land {x y v : Int64} (hd : decode bytes pc = .ok (.land, 1)) (hv : x &&& y = v) (hp : pc + 1 = pc') (G : Go l Z n0 EL mn bytes ml ret R h0 ws fr Q K sf h k n pc' Ls (.long v :: st)) : Go l Z n0 EL mn bytes ml ret R h0 ws fr Q K sf h k n pc Ls (.long y :: .long x :: st) :=
  g_pure (fun T t H hx k e => by subst hp e hv; exact XS.land H hx rfl hd rfl k) G
theorem g_irem {x y v : Int32} (hd : decode bytes pc = .ok (.irem, 1)) (hy : y ≠ 0) (hv : x % y = v) (hp : pc + 1 = pc') (G : Go l Z n0 EL mn bytes ml ret R h0 ws fr Q K sf h k n pc' Ls (.int v :: st)) : Go l Z n0 EL mn bytes ml ret R h0 ws fr Q K sf h k n pc Ls (.int y :: .int x :: st) :=
  g_pure (fun T t H hx k e => by subst hp e hv; exact XS.irem H hx rfl hd rfl hy (by rw [irem_eq_mod]; exact k)) G
theorem g_idiv {x y v : Int32} (hd : decode bytes pc = .ok (.idiv, 1)) (hy : y ≠ 0) (hv : x / y = v) (hp : pc + 1 = pc') (G : Go l Z n0 EL mn bytes ml ret R h0 ws fr Q K sf h k n pc' Ls (.int v :: st)) : Go l Z n0 EL mn bytes ml ret R h0 ws fr Q K sf h k n pc Ls (.int y :: .int x :: st) :=
  g_pure (fun T t H hx k e => by subst hp e hv; exact XS.idiv H hx rfl hd rfl hy k) G
theorem g_lrem {x y v : Int64} (hd : decode bytes pc = .ok (.lrem, 1)) (hy : y ≠ 0) (hv : x % y = v) (hp : pc + 1 = pc') (G : Go l Z n0 EL mn bytes ml ret R h0 ws fr Q K sf h k n pc' Ls (.long v :: st)) : Go l Z n0 EL mn bytes ml ret R h0 ws fr Q K sf h k n pc Ls (.long y :: .long x :: st) :=
  g_pure (fun T t H hx k e => by subst hp e hv; exact XS.lrem H hx rfl hd rfl hy (by rw [lrem_mod]; exact k)) G
theorem g_lcmp {x y : Int64} {v : Int32} (hd : decode bytes pc = .ok (.lcmp, 1)) (hv : lcmpW x y = v) (hp : pc + 1 = pc') (G : Go l Z n0 EL mn bytes ml ret R h0 ws fr Q K sf h k n pc' Ls (.int v :: st)) : Go l Z n0 EL mn bytes ml ret R h0 ws fr Q K sf h k n pc Ls (.long y :: .long x :: st) :=
  g_pure (fun T t H hx k e => by subst hp e hv; exact XS.lcmp H hx rfl hd rfl k) G
theorem g_ineg {x : Int32} {v : Int32} (hd : decode bytes pc = .ok (.ineg, 1)) (hv : -x = v) (hp : pc + 1 = pc') (G : Go l Z n0 EL mn bytes ml ret R h0 ws fr Q K sf h k n pc' Ls (.int v :: st)) : Go l Z n0 EL mn bytes ml ret R h0 ws fr Q K sf h k n pc Ls (.int x :: st) :=
  g_pure (fun T t H hx k e => by subst hp e hv; exact XS.ineg H hx rfl hd rfl k) G
theorem g_i2c {x : Int32} {v : Int32} (hd : decode bytes pc = .ok (.i2c, 1)) (hv : x.toUInt32.toUInt16.toUInt32.toInt32 = v) (hp : pc + 1 = pc') (G : Go l Z n0 EL mn bytes ml ret R h0 ws fr Q K sf h k n pc' Ls (.int v :: st)) : Go l Z n0 EL mn bytes ml ret R h0 ws fr Q K sf h k n pc Ls (.int x :: st) :=
  g_pure (fun T t H hx k e => by subst hp e hv; exact XS.i2c H hx rfl hd rfl k) G
theorem g_i2b {x : Int32} {v : Int32} (hd : decode bytes pc = .ok (.i2b, 1)) (hv : x.toInt8.toInt32 = v) (hp : pc + 1 = pc') (G : Go l Z n0 EL mn bytes ml ret R h0 ws fr Q K sf h k n pc' Ls (.int v :: st)) : Go l Z n0 EL mn bytes ml ret R h0 ws fr Q K sf h k n pc Ls (.int x :: st) :=
  g_pure (fun T t H hx k e => by subst hp e hv; exact XS.i2b H hx rfl hd rfl k) G
theorem g_i2s {x : Int32} {v : Int32} (hd : decode bytes pc = .ok (.i2s, 1)) (hv : x.toInt16.toInt32 = v) (hp : pc + 1 = pc') (G : Go l Z n0 EL mn bytes ml ret R h0 ws fr Q K sf h k n pc' Ls (.int v :: st)) : Go l Z n0 EL mn bytes ml ret R h0 ws fr Q K sf h k n pc Ls (.int x :: st) :=
  g_pure (fun T t H hx k e => by subst hp e hv; exact XS.i2s H hx rfl hd rfl k) G
theorem g_i2l {x : Int32} {v : Int64} (hd : decode bytes pc = .ok (.i2l, 1)) (hv : x.toInt64 = v) (hp : pc + 1 = pc') (G : Go l Z n0 EL mn bytes ml ret R h0 ws fr Q K sf h k n pc' Ls (.long v :: st)) : Go l Z n0 EL mn bytes ml ret R h0 ws fr Q K sf h k n pc Ls (.int x :: st) :=
  g_pure (fun T t H hx k e => by subst hp e hv; exact XS.i2l H hx rfl hd rfl k) G
theorem g_l2i {x : Int64} {v : Int32} (hd : decode bytes pc = .ok (.l2i, 1)) (hv : x.toInt32 = v) (hp : pc + 1 = pc') (G : Go l Z n0 EL mn bytes ml ret R h0 ws fr Q K sf h k n pc' Ls (.int v :: st)) : Go l Z n0 EL mn bytes ml ret R h0 ws fr Q K sf h k n pc Ls (.long x :: st) :=
  g_pure (fun T t H hx k e => by subst hp e hv; exact XS.l2i H hx rfl hd rfl k) G
theorem g_iload {i : Nat} {x : Int32} (hd : decode bytes pc = .ok (.iload i, 2)) (hl : Ls[i]? = some (.val (.int x))) (hp : pc + 2 = pc') (G : Go l Z n0 EL mn bytes ml ret R h0 ws fr Q K sf h k n pc' Ls (.int x :: st)) : Go l Z n0 EL mn bytes ml ret R h0 ws fr Q K sf h k n pc Ls st :=
  g_pure (fun T t H hx k e => by subst hp e; exact XS.iload H hx rfl hd hl k) G
theorem g_iloadN {i : Fin 4} {x : Int32} (hd : decode bytes pc = .ok (.iload_n i, 1)) (hl : Ls[i.val]? = some (.val (.int x))) (hp : pc + 1 = pc') (G : Go l Z n0 EL mn bytes ml ret R h0 ws fr Q K sf h k n pc' Ls (.int x :: st)) : Go l Z n0 EL mn bytes ml ret R h0 ws fr Q K sf h k n pc Ls st :=
  g_pure (fun T t H hx k e => by subst hp e; exact XS.iloadN H hx rfl hd hl k) G
theorem g_lload {i : Nat} {x : Int64} (hd : decode bytes pc = .ok (.lload i, 2)) (hl : Ls[i]? = some (.val (.long x))) (hp : pc + 2 = pc') (G : Go l Z n0 EL mn bytes ml ret R h0 ws fr Q K sf h k n pc' Ls (.long x :: st)) : Go l Z n0 EL mn bytes ml ret R h0 ws fr Q K sf h k n pc Ls st :=
  g_pure (fun T t H hx k e => by subst hp e; exact XS.lload H hx rfl hd hl k) G
theorem g_lloadN {i : Fin 4} {x : Int64} (hd : decode bytes pc = .ok (.lload_n i, 1)) (hl : Ls[i.val]? = some (.val (.long x))) (hp : pc + 1 = pc') (G : Go l Z n0 EL mn bytes ml ret R h0 ws fr Q K sf h k n pc' Ls (.long x :: st)) : Go l Z n0 EL mn bytes ml ret R h0 ws fr Q K sf h k n pc Ls st :=
  g_pure (fun T t H hx k e => by subst hp e; exact XS.lloadN H hx rfl hd hl k) G
theorem g_aload {i : Nat} {x : Value} (hd : decode bytes pc = .ok (.aload i, 2)) (hl : Ls[i]? = some (.val (x))) (hv : x.isRef = true) (hp : pc + 2 = pc') (G : Go l Z n0 EL mn bytes ml ret R h0 ws fr Q K sf h k n pc' Ls (x :: st)) : Go l Z n0 EL mn bytes ml ret R h0 ws fr Q K sf h k n pc Ls st :=
  g_pure (fun T t H hx k e => by subst hp e; exact XS.aload H hx rfl hd hl hv k) G
theorem g_aloadN {i : Fin 4} {x : Value} (hd : decode bytes pc = .ok (.aload_n i, 1)) (hl : Ls[i.val]? = some (.val (x))) (hv : x.isRef = true) (hp : pc + 1 = pc') (G : Go l Z n0 EL mn bytes ml ret R h0 ws fr Q K sf h k n pc' Ls (x :: st)) : Go l Z n0 EL mn bytes ml ret R h0 ws fr Q K sf h k n pc Ls st :=
  g_pure (fun T t H hx k e => by subst hp e; exact XS.aloadN H hx rfl hd hl hv k) G
theorem g_istore {i : Nat} {x : Int32} {L' : Array Slot} (hd : decode bytes pc = .ok (.istore i, 2)) (hl : storeLocals Ls i (.int x) = some L') (hp : pc + 2 = pc') (G : Go l Z n0 EL mn bytes ml ret R h0 ws fr Q K sf h k n pc' L' st) : Go l Z n0 EL mn bytes ml ret R h0 ws fr Q K sf h k n pc Ls (.int x :: st) :=
  g_pure (fun T t H hx k e => by subst hp e; exact XS.istore H hx rfl hd rfl hl k) G
theorem g_istoreN {i : Fin 4} {x : Int32} {L' : Array Slot} (hd : decode bytes pc = .ok (.istore_n i, 1)) (hl : storeLocals Ls i.val (.int x) = some L') (hp : pc + 1 = pc') (G : Go l Z n0 EL mn bytes ml ret R h0 ws fr Q K sf h k n pc' L' st) : Go l Z n0 EL mn bytes ml ret R h0 ws fr Q K sf h k n pc Ls (.int x :: st) :=
  g_pure (fun T t H hx k e => by subst hp e; exact XS.istoreN H hx rfl hd rfl hl k) G
theorem g_lstore {i : Nat} {x : Int64} {L' : Array Slot} (hd : decode bytes pc = .ok (.lstore i, 2)) (hl : storeLocals Ls i (.long x) = some L') (hp : pc + 2 = pc') (G : Go l Z n0 EL mn bytes ml ret R h0 ws fr Q K sf h k n pc' L' st) : Go l Z n0 EL mn bytes ml ret R h0 ws fr Q K sf h k n pc Ls (.long x :: st) :=
  g_pure (fun T t H hx k e => by subst hp e; exact XS.lstore H hx rfl hd rfl hl k) G
theorem g_lstoreN {i : Fin 4} {x : Int64} {L' : Array Slot} (hd : decode bytes pc = .ok (.lstore_n i, 1)) (hl : storeLocals Ls i.val (.long x) = some L') (hp : pc + 1 = pc') (G : Go l Z n0 EL mn bytes ml ret R h0 ws fr Q K sf h k n pc' L' st) : Go l Z n0 EL mn bytes ml ret R h0 ws fr Q K sf h k n pc Ls (.long x :: st) :=
  g_pure (fun T t H hx k e => by subst hp e; exact XS.lstoreN H hx rfl hd rfl hl k) G
theorem g_astore {i : Nat} {x : Value} {L' : Array Slot} (hd : decode bytes pc = .ok (.astore i, 2)) (hv : x.isRef = true) (hl : storeLocals Ls i (x) = some L') (hp : pc + 2 = pc') (G : Go l Z n0 EL mn bytes ml ret R h0 ws fr Q K sf h k n pc' L' st) : Go l Z n0 EL mn bytes ml ret R h0 ws fr Q K sf h k n pc Ls (x :: st) :=
  g_pure (fun T t H hx k e => by subst hp e; exact XS.astore H hx rfl hd rfl hv hl k) G
theorem g_astoreN {i : Fin 4} {x : Value} {L' : Array Slot} (hd : decode bytes pc = .ok (.astore_n i, 1)) (hv : x.isRef = true) (hl : storeLocals Ls i.val (x) = some L') (hp : pc + 1 = pc') (G : Go l Z n0 EL mn bytes ml ret R h0 ws fr Q K sf h k n pc' L' st) : Go l Z n0 EL mn bytes ml ret R h0 ws fr Q K sf h k n pc Ls (x :: st) :=
  g_pure (fun T t H hx k e => by subst hp e; exact XS.astoreN H hx rfl hd rfl hv hl k) G
theorem g_iinc {i : Nat} {x v y : Int32} {cst : Int} {L' : Array Slot} (hd : decode bytes pc = .ok (.iinc i cst, 3)) (hv : Int32.ofInt cst = v) (hl : Ls[i]? = some (.val (.int x))) (hy : x + v = y) (hl' : storeLocals Ls i (.int y) = some L') (hp : pc + 3 = pc') (G : Go l Z n0 EL mn bytes ml ret R h0 ws fr Q K sf h k n pc' L' st) : Go l Z n0 EL mn bytes ml ret R h0 ws fr Q K sf h k n pc Ls st :=
  g_pure (fun T t H hx k e => by subst hp e hv hy; exact XS.iinc H hx rfl hd hl hl' k) G
theorem g_iconst {i : Int} {v : Int32} (hd : decode bytes pc = .ok (.iconst i, 1)) (hv : Int32.ofInt i = v) (hp : pc + 1 = pc') (G : Go l Z n0 EL mn bytes ml ret R h0 ws fr Q K sf h k n pc' Ls (.int v :: st)) : Go l Z n0 EL mn bytes ml ret R h0 ws fr Q K sf h k n pc Ls st :=
  g_pure (fun T t H hx k e => by subst hp e hv; exact XS.iconst H hx rfl hd k) G
theorem g_bipush {i : Int} {v : Int32} (hd : decode bytes pc = .ok (.bipush i, 2)) (hv : (Int8.ofInt i).toInt32 = v) (hp : pc + 2 = pc') (G : Go l Z n0 EL mn bytes ml ret R h0 ws fr Q K sf h k n pc' Ls (.int v :: st)) : Go l Z n0 EL mn bytes ml ret R h0 ws fr Q K sf h k n pc Ls st :=
  g_pure (fun T t H hx k e => by subst hp e hv; exact XS.bipush H hx rfl hd k) G
theorem g_sipush {i : Int} {v : Int32} (hd : decode bytes pc = .ok (.sipush i, 3)) (hv : (Int16.ofInt i).toInt32 = v) (hp : pc + 3 = pc') (G : Go l Z n0 EL mn bytes ml ret R h0 ws fr Q K sf h k n pc' Ls (.int v :: st)) : Go l Z n0 EL mn bytes ml ret R h0 ws fr Q K sf h k n pc Ls st :=
  g_pure (fun T t H hx k e => by subst hp e hv; exact XS.sipush H hx rfl hd k) G
theorem g_lconst {i : Fin 2} {v : Int64} (hd : decode bytes pc = .ok (.lconst i, 1)) (hv : Int64.ofNat i = v) (hp : pc + 1 = pc') (G : Go l Z n0 EL mn bytes ml ret R h0 ws fr Q K sf h k n pc' Ls (.long v :: st)) : Go l Z n0 EL mn bytes ml ret R h0 ws fr Q K sf h k n pc Ls st :=
  g_pure (fun T t H hx k e => by subst hp e hv; exact XS.lconst H hx rfl hd k) G
theorem g_null (hd : decode bytes pc = .ok (.aconst_null, 1)) (hp : pc + 1 = pc') (G : Go l Z n0 EL mn bytes ml ret R h0 ws fr Q K sf h k n pc' Ls (.null :: st)) : Go l Z n0 EL mn bytes ml ret R h0 ws fr Q K sf h k n pc Ls st :=
  g_pure (fun T t H hx k e => by subst hp e; exact XS.aconstNull H hx rfl hd k) G
theorem g_dup {x : Value} (hd : decode bytes pc = .ok (.dup, 1)) (hc : x.category = 1) (hp : pc + 1 = pc') (G : Go l Z n0 EL mn bytes ml ret R h0 ws fr Q K sf h k n pc' Ls (x :: x :: st)) : Go l Z n0 EL mn bytes ml ret R h0 ws fr Q K sf h k n pc Ls (x :: st) :=
  g_pure (fun T t H hx k e => by subst hp e; exact XS.dup H hx rfl hd rfl hc k) G
theorem g_pop {x : Value} (hd : decode bytes pc = .ok (.pop, 1)) (hc : x.category = 1) (hp : pc + 1 = pc') (G : Go l Z n0 EL mn bytes ml ret R h0 ws fr Q K sf h k n pc' Ls st) : Go l Z n0 EL mn bytes ml ret R h0 ws fr Q K sf h k n pc Ls (x :: st) :=
  g_pure (fun T t H hx k e => by subst hp e; exact XS.pop H hx rfl hd rfl hc k) G
theorem g_dupx1 {x y : Value} (hd : decode bytes pc = .ok (.dup_x1, 1)) (hc : x.category = 1) (hc' : y.category = 1) (hp : pc + 1 = pc') (G : Go l Z n0 EL mn bytes ml ret R h0 ws fr Q K sf h k n pc' Ls (x :: y :: x :: st)) : Go l Z n0 EL mn bytes ml ret R h0 ws fr Q K sf h k n pc Ls (x :: y :: st) :=
  g_pure (fun T t H hx k e => by subst hp e; exact XT.dupX1 H hx rfl hd rfl hc hc' k) G
theorem g_icmp_eq_t {x y : Int32} {o : Int} (hd : decode bytes pc = .ok (.if_icmp .eq o, 3)) (hc : x = y) (ho : 0 ≤ (pc : Int) + o) (hp : ((pc : Int) + o).toNat = pc') (G : Go l Z n0 EL mn bytes ml ret R h0 ws fr Q K sf h k n pc' Ls st) : Go l Z n0 EL mn bytes ml ret R h0 ws fr Q K sf h k n pc Ls (.int y :: .int x :: st) :=
  g_pure (fun T t H hx k e => by subst e; exact XS.icmpYes H hx rfl rfl hd rfl (XT.ii_eq_t hc) ho hp k) G
theorem g_icmp_eq_f {x y : Int32} {o : Int} (hd : decode bytes pc = .ok (.if_icmp .eq o, 3)) (hc : ¬ x = y) (hp : pc + 3 = pc') (G : Go l Z n0 EL mn bytes ml ret R h0 ws fr Q K sf h k n pc' Ls st) : Go l Z n0 EL mn bytes ml ret R h0 ws fr Q K sf h k n pc Ls (.int y :: .int x :: st) :=
  g_pure (fun T t H hx k e => by subst hp e; exact XS.icmpNo H hx rfl hd rfl (XT.ii_eq_f hc) k) G
theorem g_if_eq_t {x : Int32} {o : Int} (hd : decode bytes pc = .ok (.ifCond .eq o, 3)) (hc : x = 0) (ho : 0 ≤ (pc : Int) + o) (hp : ((pc : Int) + o).toNat = pc') (G : Go l Z n0 EL mn bytes ml ret R h0 ws fr Q K sf h k n pc' Ls st) : Go l Z n0 EL mn bytes ml ret R h0 ws fr Q K sf h k n pc Ls (.int x :: st) :=
  g_pure (fun T t H hx k e => by subst e; exact XS.ifYes H hx rfl rfl hd rfl (XT.i0_eq_t hc) ho hp k) G
theorem g_if_eq_f {x : Int32} {o : Int} (hd : decode bytes pc = .ok (.ifCond .eq o, 3)) (hc : ¬ x = 0) (hp : pc + 3 = pc') (G : Go l Z n0 EL mn bytes ml ret R h0 ws fr Q K sf h k n pc' Ls st) : Go l Z n0 EL mn bytes ml ret R h0 ws fr Q K sf h k n pc Ls (.int x :: st) :=
  g_pure (fun T t H hx k e => by subst hp e; exact XS.ifNo H hx rfl hd rfl (XT.i0_eq_f hc) k) G
theorem g_icmp_ne_t {x y : Int32} {o : Int} (hd : decode bytes pc = .ok (.if_icmp .ne o, 3)) (hc : ¬ x = y) (ho : 0 ≤ (pc : Int) + o) (hp : ((pc : Int) + o).toNat = pc') (G : Go l Z n0 EL mn bytes ml ret R h0 ws fr Q K sf h k n pc' Ls st) : Go l Z n0 EL mn bytes ml ret R h0 ws fr Q K sf h k n pc Ls (.int y :: .int x :: st) :=
  g_pure (fun T t H hx k e => by subst e; exact XS.icmpYes H hx rfl rfl hd rfl (XT.ii_ne_t hc) ho hp k) G
theorem g_icmp_ne_f {x y : Int32} {o : Int} (hd : decode bytes pc = .ok (.if_icmp .ne o, 3)) (hc : x = y) (hp : pc + 3 = pc') (G : Go l Z n0 EL mn bytes ml ret R h0 ws fr Q K sf h k n pc' Ls st) : Go l Z n0 EL mn bytes ml ret R h0 ws fr Q K sf h k n pc Ls (.int y :: .int x :: st) :=
  g_pure (fun T t H hx k e => by subst hp e; exact XS.icmpNo H hx rfl hd rfl (XT.ii_ne_f hc) k) G
theorem g_if_ne_t {x : Int32} {o : Int} (hd : decode bytes pc = .ok (.ifCond .ne o, 3)) (hc : ¬ x = 0) (ho : 0 ≤ (pc : Int) + o) (hp : ((pc : Int) + o).toNat = pc') (G : Go l Z n0 EL mn bytes ml ret R h0 ws fr Q K sf h k n pc' Ls st) : Go l Z n0 EL mn bytes ml ret R h0 ws fr Q K sf h k n pc Ls (.int x :: st) :=
  g_pure (fun T t H hx k e => by subst e; exact XS.ifYes H hx rfl rfl hd rfl (XT.i0_ne_t hc) ho hp k) G
theorem g_if_ne_f {x : Int32} {o : Int} (hd : decode bytes pc = .ok (.ifCond .ne o, 3)) (hc : x = 0) (hp : pc + 3 = pc') (G : Go l Z n0 EL mn bytes ml ret R h0 ws fr Q K sf h k n pc' Ls st) : Go l Z n0 EL mn bytes ml ret R h0 ws fr Q K sf h k n pc Ls (.int x :: st) :=
  g_pure (fun T t H hx k e => by subst hp e; exact XS.ifNo H hx rfl hd rfl (XT.i0_ne_f hc) k) G
theorem g_icmp_lt_t {x y : Int32} {o : Int} (hd : decode bytes pc = .ok (.if_icmp .lt o, 3)) (hc : x < y) (ho : 0 ≤ (pc : Int) + o) (hp : ((pc : Int) + o).toNat = pc') (G : Go l Z n0 EL mn bytes ml ret R h0 ws fr Q K sf h k n pc' Ls st) : Go l Z n0 EL mn bytes ml ret R h0 ws fr Q K sf h k n pc Ls (.int y :: .int x :: st) :=
  g_pure (fun T t H hx k e => by subst e; exact XS.icmpYes H hx rfl rfl hd rfl (XT.ii_lt_t hc) ho hp k) G
theorem g_icmp_lt_f {x y : Int32} {o : Int} (hd : decode bytes pc = .ok (.if_icmp .lt o, 3)) (hc : ¬ x < y) (hp : pc + 3 = pc') (G : Go l Z n0 EL mn bytes ml ret R h0 ws fr Q K sf h k n pc' Ls st) : Go l Z n0 EL mn bytes ml ret R h0 ws fr Q K sf h k n pc Ls (.int y :: .int x :: st) :=
  g_pure (fun T t H hx k e => by subst hp e; exact XS.icmpNo H hx rfl hd rfl (XT.ii_lt_f hc) k) G
theorem g_if_lt_t {x : Int32} {o : Int} (hd : decode bytes pc = .ok (.ifCond .lt o, 3)) (hc : x < 0) (ho : 0 ≤ (pc : Int) + o) (hp : ((pc : Int) + o).toNat = pc') (G : Go l Z n0 EL mn bytes ml ret R h0 ws fr Q K sf h k n pc' Ls st) : Go l Z n0 EL mn bytes ml ret R h0 ws fr Q K sf h k n pc Ls (.int x :: st) :=
  g_pure (fun T t H hx k e => by subst e; exact XS.ifYes H hx rfl rfl hd rfl (XT.i0_lt_t hc) ho hp k) G
theorem g_if_lt_f {x : Int32} {o : Int} (hd : decode bytes pc = .ok (.ifCond .lt o, 3)) (hc : ¬ x < 0) (hp : pc + 3 = pc') (G : Go l Z n0 EL mn bytes ml ret R h0 ws fr Q K sf h k n pc' Ls st) : Go l Z n0 EL mn bytes ml ret R h0 ws fr Q K sf h k n pc Ls (.int x :: st) :=
  g_pure (fun T t H hx k e => by subst hp e; exact XS.ifNo H hx rfl hd rfl (XT.i0_lt_f hc) k) G
theorem g_icmp_ge_t {x y : Int32} {o : Int} (hd : decode bytes pc = .ok (.if_icmp .ge o, 3)) (hc : ¬ x < y) (ho : 0 ≤ (pc : Int) + o) (hp : ((pc : Int) + o).toNat = pc') (G : Go l Z n0 EL mn bytes ml ret R h0 ws fr Q K sf h k n pc' Ls st) : Go l Z n0 EL mn bytes ml ret R h0 ws fr Q K sf h k n pc Ls (.int y :: .int x :: st) :=
  g_pure (fun T t H hx k e => by subst e; exact XS.icmpYes H hx rfl rfl hd rfl (XT.ii_ge_t hc) ho hp k) G
theorem g_icmp_ge_f {x y : Int32} {o : Int} (hd : decode bytes pc = .ok (.if_icmp .ge o, 3)) (hc : x < y) (hp : pc + 3 = pc') (G : Go l Z n0 EL mn bytes ml ret R h0 ws fr Q K sf h k n pc' Ls st) : Go l Z n0 EL mn bytes ml ret R h0 ws fr Q K sf h k n pc Ls (.int y :: .int x :: st) :=
  g_pure (fun T t H hx k e => by subst hp e; exact XS.icmpNo H hx rfl hd rfl (XT.ii_ge_f hc) k) G
theorem g_if_ge_t {x : Int32} {o : Int} (hd : decode bytes pc = .ok (.ifCond .ge o, 3)) (hc : ¬ x < 0) (ho : 0 ≤ (pc : Int) + o) (hp : ((pc : Int) + o).toNat = pc') (G : Go l Z n0 EL mn bytes ml ret R h0 ws fr Q K sf h k n pc' Ls st) : Go l Z n0 EL mn bytes ml ret R h0 ws fr Q K sf h k n pc Ls (.int x :: st) :=
  g_pure (fun T t H hx k e => by subst e; exact XS.ifYes H hx rfl rfl hd rfl (XT.i0_ge_t hc) ho hp k) G
theorem g_if_ge_f {x : Int32} {o : Int} (hd : decode bytes pc = .ok (.ifCond .ge o, 3)) (hc : x < 0) (hp : pc + 3 = pc') (G : Go l Z n0 EL mn bytes ml ret R h0 ws fr Q K sf h k n pc' Ls st) : Go l Z n0 EL mn bytes ml ret R h0 ws fr Q K sf h k n pc Ls (.int x :: st) :=
  g_pure (fun T t H hx k e => by subst hp e; exact XS.ifNo H hx rfl hd rfl (XT.i0_ge_f hc) k) G
theorem g_icmp_gt_t {x y : Int32} {o : Int} (hd : decode bytes pc = .ok (.if_icmp .gt o, 3)) (hc : y < x) (ho : 0 ≤ (pc : Int) + o) (hp : ((pc : Int) + o).toNat = pc') (G : Go l Z n0 EL mn bytes ml ret R h0 ws fr Q K sf h k n pc' Ls st) : Go l Z n0 EL mn bytes ml ret R h0 ws fr Q K sf h k n pc Ls (.int y :: .int x :: st) :=
  g_pure (fun T t H hx k e => by subst e; exact XS.icmpYes H hx rfl rfl hd rfl (XT.ii_gt_t hc) ho hp k) G
theorem g_icmp_gt_f {x y : Int32} {o : Int} (hd : decode bytes pc = .ok (.if_icmp .gt o, 3)) (hc : ¬ y < x) (hp : pc + 3 = pc') (G : Go l Z n0 EL mn bytes ml ret R h0 ws fr Q K sf h k n pc' Ls st) : Go l Z n0 EL mn bytes ml ret R h0 ws fr Q K sf h k n pc Ls (.int y :: .int x :: st) :=
  g_pure (fun T t H hx k e => by subst hp e; exact XS.icmpNo H hx rfl hd rfl (XT.ii_gt_f hc) k) G
theorem g_if_gt_t {x : Int32} {o : Int} (hd : decode bytes pc = .ok (.ifCond .gt o, 3)) (hc : 0 < x) (ho : 0 ≤ (pc : Int) + o) (hp : ((pc : Int) + o).toNat = pc') (G : Go l Z n0 EL mn bytes ml ret R h0 ws fr Q K sf h k n pc' Ls st) : Go l Z n0 EL mn bytes ml ret R h0 ws fr Q K sf h k n pc Ls (.int x :: st) :=
  g_pure (fun T t H hx k e => by subst e; exact XS.ifYes H hx rfl rfl hd rfl (XT.i0_gt_t hc) ho hp k) G
theorem g_if_gt_f {x : Int32} {o : Int} (hd : decode bytes pc = .ok (.ifCond .gt o, 3)) (hc : ¬ 0 < x) (hp : pc + 3 = pc') (G : Go l Z n0 EL mn bytes ml ret R h0 ws fr Q K sf h k n pc' Ls st) : Go l Z n0 EL mn bytes ml ret R h0 ws fr Q K sf h k n pc Ls (.int x :: st) :=
  g_pure (fun T t H hx k e => by subst hp e; exact XS.ifNo H hx rfl hd rfl (XT.i0_gt_f hc) k) G
theorem g_icmp_le_t {x y : Int32} {o : Int} (hd : decode bytes pc = .ok (.if_icmp .le o, 3)) (hc : ¬ y < x) (ho : 0 ≤ (pc : Int) + o) (hp : ((pc : Int) + o).toNat = pc') (G : Go l Z n0 EL mn bytes ml ret R h0 ws fr Q K sf h k n pc' Ls st) : Go l Z n0 EL mn bytes ml ret R h0 ws fr Q K sf h k n pc Ls (.int y :: .int x :: st) :=
  g_pure (fun T t H hx k e => by subst e; exact XS.icmpYes H hx rfl rfl hd rfl (XT.ii_le_t hc) ho hp k) G
theorem g_icmp_le_f {x y : Int32} {o : Int} (hd : decode bytes pc = .ok (.if_icmp .le o, 3)) (hc : y < x) (hp : pc + 3 = pc') (G : Go l Z n0 EL mn bytes ml ret R h0 ws fr Q K sf h k n pc' Ls st) : Go l Z n0 EL mn bytes ml ret R h0 ws fr Q K sf h k n pc Ls (.int y :: .int x :: st) :=
  g_pure (fun T t H hx k e => by subst hp e; exact XS.icmpNo H hx rfl hd rfl (XT.ii_le_f hc) k) G
theorem g_if_le_t {x : Int32} {o : Int} (hd : decode bytes pc = .ok (.ifCond .le o, 3)) (hc : ¬ 0 < x) (ho : 0 ≤ (pc : Int) + o) (hp : ((pc : Int) + o).toNat = pc') (G : Go l Z n0 EL mn bytes ml ret R h0 ws fr Q K sf h k n pc' Ls st) : Go l Z n0 EL mn bytes ml ret R h0 ws fr Q K sf h k n pc Ls (.int x :: st) :=
  g_pure (fun T t H hx k e => by subst e; exact XS.ifYes H hx rfl rfl hd rfl (XT.i0_le_t hc) ho hp k) G
theorem g_if_le_f {x : Int32} {o : Int} (hd : decode bytes pc = .ok (.ifCond .le o, 3)) (hc : 0 < x) (hp : pc + 3 = pc') (G : Go l Z n0 EL mn bytes ml ret R h0 ws fr Q K sf h k n pc' Ls st) : Go l Z n0 EL mn bytes ml ret R h0 ws fr Q K sf h k n pc Ls (.int x :: st) :=
  g_pure (fun T t H hx k e => by subst hp e; exact XS.ifNo H hx rfl hd rfl (XT.i0_le_f hc) k) G
theorem g_acmp_eq_t {x y : Value} {o : Int} (hd : decode bytes pc = .ok (.if_acmp .eq o, 3)) (hx' : x.isRef = true) (hy' : y.isRef = true) (hc : x = y) (ho : 0 ≤ (pc : Int) + o) (hp : ((pc : Int) + o).toNat = pc') (G : Go l Z n0 EL mn bytes ml ret R h0 ws fr Q K sf h k n pc' Ls st) : Go l Z n0 EL mn bytes ml ret R h0 ws fr Q K sf h k n pc Ls (y :: x :: st) :=
  g_pure (fun T t H hx k e => by subst e; exact XT.acmpYes H hx rfl rfl hd rfl hx' hy' (XT.aa_eq_t hc) ho hp k) G
theorem g_acmp_eq_f {x y : Value} {o : Int} (hd : decode bytes pc = .ok (.if_acmp .eq o, 3)) (hx' : x.isRef = true) (hy' : y.isRef = true) (hc : ¬ x = y) (hp : pc + 3 = pc') (G : Go l Z n0 EL mn bytes ml ret R h0 ws fr Q K sf h k n pc' Ls st) : Go l Z n0 EL mn bytes ml ret R h0 ws fr Q K sf h k n pc Ls (y :: x :: st) :=
  g_pure (fun T t H hx k e => by subst hp e; exact XT.acmpNo H hx rfl hd rfl hx' hy' (XT.aa_eq_f hc) k) G
theorem g_acmp_ne_t {x y : Value} {o : Int} (hd : decode bytes pc = .ok (.if_acmp .ne o, 3)) (hx' : x.isRef = true) (hy' : y.isRef = true) (hc : ¬ x = y) (ho : 0 ≤ (pc : Int) + o) (hp : ((pc : Int) + o).toNat = pc') (G : Go l Z n0 EL mn bytes ml ret R h0 ws fr Q K sf h k n pc' Ls st) : Go l Z n0 EL mn bytes ml ret R h0 ws fr Q K sf h k n pc Ls (y :: x :: st) :=
  g_pure (fun T t H hx k e => by subst e; exact XT.acmpYes H hx rfl rfl hd rfl hx' hy' (XT.aa_ne_t hc) ho hp k) G
theorem g_acmp_ne_f {x y : Value} {o : Int} (hd : decode bytes pc = .ok (.if_acmp .ne o, 3)) (hx' : x.isRef = true) (hy' : y.isRef = true) (hc : x = y) (hp : pc + 3 = pc') (G : Go l Z n0 EL mn bytes ml ret R h0 ws fr Q K sf h k n pc' Ls st) : Go l Z n0 EL mn bytes ml ret R h0 ws fr Q K sf h k n pc Ls (y :: x :: st) :=
  g_pure (fun T t H hx k e => by subst hp e; exact XT.acmpNo H hx rfl hd rfl hx' hy' (XT.aa_ne_f hc) k) G
theorem g_ifnull_t {o : Int} (hd : decode bytes pc = .ok (.ifnull o, 3)) (ho : 0 ≤ (pc : Int) + o) (hp : ((pc : Int) + o).toNat = pc') (G : Go l Z n0 EL mn bytes ml ret R h0 ws fr Q K sf h k n pc' Ls st) : Go l Z n0 EL mn bytes ml ret R h0 ws fr Q K sf h k n pc Ls (.null :: st) :=
  g_pure (fun T t H hx k e => by subst e; exact XS.ifnullYes H hx rfl rfl hd rfl ho hp k) G
theorem g_ifnull_f {b : Addr} {o : Int} (hd : decode bytes pc = .ok (.ifnull o, 3)) (hp : pc + 3 = pc') (G : Go l Z n0 EL mn bytes ml ret R h0 ws fr Q K sf h k n pc' Ls st) : Go l Z n0 EL mn bytes ml ret R h0 ws fr Q K sf h k n pc Ls (.ref b :: st) :=
  g_pure (fun T t H hx k e => by subst hp e; exact XS.ifnullNo H hx rfl hd rfl k) G
theorem g_ifnonnull_t {b : Addr} {o : Int} (hd : decode bytes pc = .ok (.ifnonnull o, 3)) (ho : 0 ≤ (pc : Int) + o) (hp : ((pc : Int) + o).toNat = pc') (G : Go l Z n0 EL mn bytes ml ret R h0 ws fr Q K sf h k n pc' Ls st) : Go l Z n0 EL mn bytes ml ret R h0 ws fr Q K sf h k n pc Ls (.ref b :: st) :=
  g_pure (fun T t H hx k e => by subst e; exact XS.ifnonnullYes H hx rfl rfl hd rfl ho hp k) G
theorem g_ifnonnull_f {o : Int} (hd : decode bytes pc = .ok (.ifnonnull o, 3)) (hp : pc + 3 = pc') (G : Go l Z n0 EL mn bytes ml ret R h0 ws fr Q K sf h k n pc' Ls st) : Go l Z n0 EL mn bytes ml ret R h0 ws fr Q K sf h k n pc Ls (.null :: st) :=
  g_pure (fun T t H hx k e => by subst hp e; exact XS.ifnonnullNo H hx rfl hd rfl k) G
theorem g_goto {o : Int} (hd : decode bytes pc = .ok (.goto o, 3)) (ho : 0 ≤ (pc : Int) + o) (hp : ((pc : Int) + o).toNat = pc') (G : Go l Z n0 EL mn bytes ml ret R h0 ws fr Q K sf h k n pc' Ls st) : Go l Z n0 EL mn bytes ml ret R h0 ws fr Q K sf h k n pc Ls st :=
  g_pure (fun T t H hx k e => by subst e; exact XS.goto H hx rfl rfl hd ho hp k) G
theorem g_ldcI {idx : Nat} {v : Int32} (hd : decode bytes pc = .ok (.ldc idx, 2)) (w : (Jvm.Cond.constant mn.cls idx v).before a0 Z = true) (hp : pc + 2 = pc') (G : Go l Z n0 EL mn bytes ml ret R h0 ws fr Q K sf h k n pc' Ls (.int v :: st)) : Go l Z n0 EL mn bytes ml ret R h0 ws fr Q K sf h k n pc Ls st :=
  g_law (fun s' T locs hx hb hml hown hnm hZ X e ho => ⟨T, X, e, fun t s => by subst hb hp; exact X.ldcInt hx hown (mvT hZ w) (g := mkF (km K) pc Ls st) rfl hd t s⟩) G
theorem g_ldcwI {idx : Nat} {v : Int32} (hd : decode bytes pc = .ok (.ldc_w idx, 3)) (w : (Jvm.Cond.constant mn.cls idx v).before a0 Z = true) (hp : pc + 3 = pc') (G : Go l Z n0 EL mn bytes ml ret R h0 ws fr Q K sf h k n pc' Ls (.int v :: st)) : Go l Z n0 EL mn bytes ml ret R h0 ws fr Q K sf h k n pc Ls st :=
  g_law (fun s' T locs hx hb hml hown hnm hZ X e ho => ⟨T, X, e, fun t s => by subst hb hp; exact X.ldcwInt hx hown (mvT hZ w) (g := mkF (km K) pc Ls st) rfl hd t s⟩) G
theorem g_ldcJ {idx : Nat} {v : Int64} (hd : decode bytes pc = .ok (.ldc2_w idx, 3)) (w : (Jvm.Cond.constantLong mn.cls idx v).before a0 Z = true) (hp : pc + 3 = pc') (G : Go l Z n0 EL mn bytes ml ret R h0 ws fr Q K sf h k n pc' Ls (.long v :: st)) : Go l Z n0 EL mn bytes ml ret R h0 ws fr Q K sf h k n pc Ls st :=
  g_law (fun s' T locs hx hb hml hown hnm hZ X e ho => ⟨T, X, e, fun t s => by subst hb hp; exact X.ldc2Long hx hown (mvT hZ w) (g := mkF (km K) pc Ls st) rfl hd t s⟩) G
theorem g_getF {idx : Nat} {R0 O nm d : String} {a : Addr} {v : Value} (hd : decode bytes pc = .ok (.getfield idx, 3)) (w : (Jvm.Cond.fieldLink mn.cls idx R0 nm d).before a0 Z = true) (via : Via Z R0 O nm d) (F : Fld Z h a O nm d v) (hp : pc + 3 = pc') (G : Go l Z n0 EL mn bytes ml ret R h0 ws fr Q K sf h k n pc' Ls (v :: st)) : Go l Z n0 EL mn bytes ml ret R h0 ws fr Q K sf h k n pc Ls (.ref a :: st) :=
  g_law (fun s' T locs hx hb hml hown hnm hZ X e ho => by
    subst hb hp
    exact getF X hx hZ hown (host := "") (Or.inl w) via e F (g := mkF (km K) pc Ls (.ref a :: st)) rfl rfl hd) G
theorem g_getS {idx : Nat} {R0 O nm d : String} {v : Value} (hd : decode bytes pc = .ok (.getstatic idx, 3)) (w : (Jvm.Cond.fieldLink mn.cls idx R0 nm d).before a0 Z = true) (via : Via Z R0 O nm d) (F : Sta Z Z.heap O nm d v) (hp : pc + 3 = pc') (G : Go l Z n0 EL mn bytes ml ret R h0 ws fr Q K sf h k n pc' Ls (v :: st)) : Go l Z n0 EL mn bytes ml ret R h0 ws fr Q K sf h k n pc Ls st :=
  g_law (fun s' T locs hx hb hml hown hnm hZ X e ho => by
    subst hb hp
    exact getS X hx hZ hown (host := "") w via e (F.ext ho.2) (g := mkF (km K) pc Ls st) rfl hd) G
theorem g_putF {idx kk : Nat} {R0 O nm d C : String} {ty : FieldType} {a : Addr} {v v' old : Value} (hd : decode bytes pc = .ok (.putfield idx, 3)) (w : (Jvm.Cond.fieldLink mn.cls idx R0 nm d).before a0 Z = true) (via : Via Z R0 O nm d) (F : Fld Z h a O nm d old) (E : Exa Z h a C)
    (L : (Jvm.Cond.lays C O nm d).before a0 Z = true ∨ ((Jvm.Cond.laysFinal C O nm d).before a0 Z = true ∧ mn.cls = O ∧ mn.name = "<init>")) (wi : (Jvm.Cond.instantiable C kk).before a0 Z = true) (hty : parseFieldDescriptor d = some ty) (hn : narrow ty v = v') (hf : fits ty v' = true)
    (hin : a ∈ ws ∨ h0.size ≤ a) (hsf : a ∈ sf) (hp : pc + 3 = pc') (G : ∀ h', Wr h h' a (Jvm.RoadKit.slotOf Z O nm d) v' → Go l Z n0 EL mn bytes ml ret R h0 ws fr Q K sf h' k n pc' Ls st) : Go l Z n0 EL mn bytes ml ret R h0 ws fr Q K sf h k n pc Ls (v :: .ref a :: st) :=
  g_wr (fun s' T locs hx hb hml hown hnm hZ X e ho => by
    subst hb hp
    exact putFN X hx hZ hown w via e F E (L.imp id fun q => ⟨q.1, q.2.1, hnm.trans q.2.2⟩) wi hty hn hf (g := mkF (km K) pc Ls (v :: .ref a :: st)) rfl rfl hd) hin hsf G
theorem g_new {idx c : Nat} {C : String} (hd : decode bytes pc = .ok (.new idx, 3)) (w : (Jvm.Cond.classLink mn.cls idx C).before a0 Z = true) (wi : (Jvm.Cond.instantiable C c).before a0 Z = true) (wz : (Jvm.Cond.initialized C).before a0 Z = true) (hk : k + 1 ≤ R.cells) (hl : n + c ≤ R.slots) (hp : pc + 3 = pc')
    (G : ∀ a h', a = h.size → Keep h h' [] → Exa Z h' a C → (∀ {O nm d : String} {ty : FieldType}, Laid Z a0 C O nm d → parseFieldDescriptor d = some ty → Fld Z h' a O nm d (defaultValue ty)) → h0.size ≤ a → Go l Z n0 EL mn bytes ml ret R h0 ws fr Q K (a :: sf) h' (k + 1) (n + c) pc' Ls (.ref a :: st)) : Go l Z n0 EL mn bytes ml ret R h0 ws fr Q K sf h k n pc Ls st :=
  g_ext (P := fun h' => Exa Z h' h.size C ∧ ∀ {O nm d : String} {ty : FieldType}, Laid Z a0 C O nm d → parseFieldDescriptor d = some ty → Fld Z h' h.size O nm d (defaultValue ty)) (fun s' T locs hx hb hml hown hnm hZ X e ho => by
    subst hb hp
    obtain ⟨T', h', X', e', E, A, D, -, S⟩ := newO X hx hZ hown w wi wz e (g := mkF (km K) pc Ls st) rfl hd hk hl
    exact ⟨T', h', X', e', E, A.lt, ⟨A, D⟩, S⟩) (fun h' E q hsz => G _ h' rfl ((Keep.refl _ _).ext E) q.1 q.2 hsz)
theorem g_initO {idx W : Nat} {a : Addr} (hd : decode bytes pc = .ok (.invokespecial idx, 3)) (w1 : (Jvm.Cond.methodLink mn.cls idx Lib.objectInit).before a0 Z = true) (w2 : (Jvm.Cond.instanceMethod Lib.objectInit).before a0 Z = true) (w3 : (Jvm.Cond.code Lib.objectInit ⟨#[0xb1]⟩ 1 none).before a0 Z = true)
    (hsz : Ls.size = ml) (hf : 1 ≤ R.frames) (hW : (st.map fun v => v.category).sum ≤ W) (hl : W + 12 ≤ R.locals) (hp : pc + 3 = pc') (G : Go l Z n0 EL mn bytes ml ret R h0 ws fr Q K sf h k n pc' Ls st) : Go l Z n0 EL mn bytes ml ret R h0 ws fr Q K sf h k n pc Ls (.ref a :: st) :=
  g_law (fun s' T locs hx hb hml hown hnm hZ X e ho => by
    subst hb hp
    exact initO X hx hZ hown w1 w2 w3 e (g := mkF (km K) pc Ls (.ref a :: st)) rfl (hsz.trans hml.symm) rfl hd hf (W := W) (by show 2 * 0 + _ ≤ _; omega) hl) G
theorem g_cast {idx : Nat} {C : String} {a : Addr} (hd : decode bytes pc = .ok (.checkcast idx, 3)) (w : (Jvm.Cond.classLink mn.cls idx C).before a0 Z = true) (F : Ins Z h a C true) (hp : pc + 3 = pc') (G : Go l Z n0 EL mn bytes ml ret R h0 ws fr Q K sf h k n pc' Ls (.ref a :: st)) : Go l Z n0 EL mn bytes ml ret R h0 ws fr Q K sf h k n pc Ls (.ref a :: st) :=
  g_law (fun s' T locs hx hb hml hown hnm hZ X e ho => by
    subst hb hp
    exact castY X hx hZ hown w e F (g := mkF (km K) pc Ls (.ref a :: st)) rfl rfl hd) G
theorem g_instY {idx : Nat} {C : String} {a : Addr} (hd : decode bytes pc = .ok (.instanceof idx, 3)) (w : (Jvm.Cond.classLink mn.cls idx C).before a0 Z = true) (F : Ins Z h a C true) (hp : pc + 3 = pc') (G : Go l Z n0 EL mn bytes ml ret R h0 ws fr Q K sf h k n pc' Ls (.int 1 :: st)) : Go l Z n0 EL mn bytes ml ret R h0 ws fr Q K sf h k n pc Ls (.ref a :: st) :=
  g_law (fun s' T locs hx hb hml hown hnm hZ X e ho => by
    subst hb hp
    exact instY X hx hZ hown w e F (g := mkF (km K) pc Ls (.ref a :: st)) rfl rfl hd) G
theorem g_instN {idx : Nat} {C C' : String} {a : Addr} (hd : decode bytes pc = .ok (.instanceof idx, 3)) (w : (Jvm.Cond.classLink mn.cls idx C).before a0 Z = true) (E : Exa Z h a C') (F : ∃ c t, Z.vm.findClass C' = some c ∧ Z.vm.findClass C = some t ∧ Z.vm.assignable c t = false) (hp : pc + 3 = pc') (G : Go l Z n0 EL mn bytes ml ret R h0 ws fr Q K sf h k n pc' Ls (.int 0 :: st)) : Go l Z n0 EL mn bytes ml ret R h0 ws fr Q K sf h k n pc Ls (.ref a :: st) :=
  g_law (fun s' T locs hx hb hml hown hnm hZ X e ho => by
    subst hb hp
    exact instNo X hx hZ hown w e E F (g := mkF (km K) pc Ls (.ref a :: st)) rfl rfl hd) G
/-- an array of kind ty that holds the list vs -/
def Ia (Z : State) (h : Heap) (a : Addr) (ty : FieldType) (vs : List Int32) : Prop := ∃ c : Cell, Arr Z h a c ty ∧ c.slots.toList = vs.map Value.int ∧ vs.length < 2 ^ 31 ∧ ∀ v ∈ vs, fits ty (.int v) = true
theorem Ia.keep {h' : Heap} {a : Addr} {ty : FieldType} {vs : List Int32} (A : Ia Z h a ty vs) (Kp : Keep h h' ws) (q : a ∉ ws) : Ia Z h' a ty vs := by obtain ⟨c, A, r⟩ := A; exact ⟨c, ⟨Kp.2.1 a c A.1 q, A.2⟩, r⟩
theorem Ia.lt {a : Addr} {ty : FieldType} {vs : List Int32} (A : Ia Z h a ty vs) : a < h.size := by obtain ⟨c, A, r⟩ := A; exact A.lt
theorem Ia.arv {a : Addr} {ty : FieldType} {vs : List Int32} (A : Ia Z h a ty vs) : ∃ k, Arv Z h a k ty (Int32.ofNat vs.length) (vs.map Value.int) (.int 0) := by
  obtain ⟨c, A, e, hl, hf⟩ := A
  have es : c.slots.size = vs.length := by rw [← Array.length_toList, e, List.length_map]
  have ei : (Int32.ofNat vs.length).toInt = vs.length := Int32.toInt_ofNat_of_lt hl
  refine ⟨c.cls, c, A, rfl, ?_, ?_, fun i hi => ?_, fun i hi => ?_⟩
  · rw [es, Int32.toNatClampNeg, ei]; rfl
  · rw [Int32.lt_iff_toInt_lt, ei]; exact fun q => by have : (0 : Int32).toInt = 0 := rfl; omega
  · have hi' : i < vs.length := es ▸ hi
    rw [← Array.getElem?_toList, e]; simp [List.getD_eq_getElem?_getD, hi']
  · have hi' : i < vs.length := es ▸ hi
    simp only [List.getD_eq_getElem?_getD, List.getElem?_map, List.getElem?_eq_getElem hi', Option.map_some, Option.getD_some]
    exact hf _ (List.getElem_mem hi')
theorem ia_of {a : Addr} {kk : ClassId} {ty : FieldType} {z : Int32} {vs : List Int32} {us : List Value} {d : Value} (A : Arv Z h a kk ty z us d) (e : us = vs.map Value.int) (hz : z.toNatClampNeg = vs.length) : Ia Z h a ty vs := by
  obtain ⟨c, A, -, hs, h0', H, F⟩ := A
  have es : c.slots.size = vs.length := hs.trans hz
  subst e
  have hl : vs.length < 2 ^ 31 := by have := z.toInt_lt; rw [← hz, Int32.toNatClampNeg]; omega
  refine ⟨c, A, ?_, hl, fun v hv => ?_⟩
  · refine List.ext_getElem? fun i => ?_
    rw [Array.getElem?_toList]
    by_cases q : i < vs.length
    · rw [H i (es ▸ q)]; simp [List.getD_eq_getElem?_getD, q]
    · rw [Array.getElem?_eq_none (by omega)]; simp [q]
  · obtain ⟨i, hi, rfl⟩ := List.mem_iff_getElem.mp hv
    have := F i (es ▸ hi)
    simpa [List.getD_eq_getElem?_getD, hi] using this
theorem Ia.fits {a : Addr} {ty : FieldType} {vs : List Int32} (A : Ia Z h a ty vs) : ∀ v ∈ vs, Jvm.fits ty (.int v) = true := by obtain ⟨c, A, r⟩ := A; exact r.2.2
theorem Ia.short {a : Addr} {ty : FieldType} {vs : List Int32} (A : Ia Z h a ty vs) : vs.length < 2 ^ 31 := by obtain ⟨c, A, r⟩ := A; exact r.2.1
theorem g_newA {aty : ArrayType} {x : Int32} {cap : Nat} (hd : decode bytes pc = .ok (.newarray aty, 2)) (w : (Jvm.Cond.arrayClass (newarray.typeOf aty)).before a0 Z = true) (hz : defaultValue (newarray.typeOf aty) = .int 0) (hx0 : ¬ x < 0) (hcap : x.toNatClampNeg ≤ cap) (hb8 : cap * 8 ≤ 536870912) (hk : k + 1 ≤ R.cells) (hl : n + cap ≤ R.slots) (hp : pc + 2 = pc')
    (G : ∀ a h', a = h.size → Keep h h' [] → Ia Z h' a (newarray.typeOf aty) (List.replicate x.toNatClampNeg 0) → h0.size ≤ a → Go l Z n0 EL mn bytes ml ret R h0 ws fr Q K (a :: sf) h' (k + 1) (n + cap) pc' Ls (.ref a :: st)) : Go l Z n0 EL mn bytes ml ret R h0 ws fr Q K sf h k n pc Ls (.int x :: st) :=
  g_ext (P := fun h' => Ia Z h' h.size (newarray.typeOf aty) (List.replicate x.toNatClampNeg 0)) (fun s' T locs hx hb hml hown hnm hZ X e ho => by
    subst hb hp
    obtain ⟨T', h', cA, X', e', E, A, S⟩ := newP X hx hZ w e (g := mkF (km K) pc Ls (.int x :: st)) rfl hd rfl hx0 hcap hb8 hk hl
    have V := Arv.new A hx0
    rw [hz] at V
    exact ⟨T', h', X', e', E, A.lt, ia_of (vs := List.replicate x.toNatClampNeg 0) (V.pad (pad_rep [] (.int 0) x.toNatClampNeg)) (by simp) (by simp), S⟩) (fun h' E q hsz => G _ h' rfl ((Keep.refl _ _).ext E) q hsz)
theorem ia_inb {vs : List Int32} {j : Int32} {i : Nat} {c : Cell} (e : c.slots.toList = vs.map Value.int) (h0 : ¬ j < 0) (hj : j.toNatClampNeg = i) (hi : i < vs.length) : ¬ (j < 0 ∨ c.slots.size ≤ j.toNatClampNeg) := by
  have es : c.slots.size = vs.length := by rw [← Array.length_toList, e, List.length_map]
  rintro (q | q)
  · exact h0 q
  · omega
theorem ia_get {vs : List Int32} {i : Nat} {x : Int32} {c : Cell} (e : c.slots.toList = vs.map Value.int) (hi : vs[i]? = some x) : c.slots[i]? = some (.int x) := by
  rw [← Array.getElem?_toList, e, List.getElem?_map, hi]; rfl
theorem ia_put {h' : Heap} {a : Addr} {ty : FieldType} {vs : List Int32} {i : Nat} {x : Int32} (A : Ia Z h a ty vs) (W : Wr h h' a i (.int x)) (hx : Jvm.fits ty (.int x) = true) : Ia Z h' a ty (vs.set i x) := by
  obtain ⟨c, A, e, hs, hf⟩ := A
  refine ⟨_, A.same W, ?_, by simpa using hs, fun v hv => ?_⟩
  · rw [Cell.setSlot, Array.toList_setIfInBounds, e, List.map_set]
  · rcases List.mem_or_eq_of_mem_set hv with q | rfl
    · exact hf v q
    · exact hx
theorem g_caload {a : Addr} {vs : List Int32} {j x : Int32} {i : Nat} (hd : decode bytes pc = .ok (.caload, 1)) (A : Ia Z h a .char vs) (hj0 : ¬ j < 0) (hj : j.toNatClampNeg = i) (hi : vs[i]? = some x) (hp : pc + 1 = pc') (G : Go l Z n0 EL mn bytes ml ret R h0 ws fr Q K sf h k n pc' Ls (.int x :: st)) : Go l Z n0 EL mn bytes ml ret R h0 ws fr Q K sf h k n pc Ls (.int j :: .ref a :: st) :=
  g_law (fun s' T locs hx hb hml hown hnm hZ X e ho => ⟨T, X, e, fun t s => by
    subst hb hp
    obtain ⟨c, A1, A2, A3, A4⟩ := A
    exact X.caload hx (j := j) (v := .int x) (by rw [e]; exact A1.1) (State.isArrayOf_alike hZ.alike A1.2.1) A1.2.2 (ia_inb A2 hj0 hj (List.getElem?_eq_some_iff.mp hi).1) (by rw [hj]; exact ia_get A2 hi) (g := mkF (km K) pc Ls (.int j :: .ref a :: st)) rfl rfl hd t s⟩) G
theorem g_baload {a : Addr} {vs : List Int32} {j x : Int32} {i : Nat} (hd : decode bytes pc = .ok (.baload, 1)) (A : Ia Z h a .byte vs) (hj0 : ¬ j < 0) (hj : j.toNatClampNeg = i) (hi : vs[i]? = some x) (hp : pc + 1 = pc') (G : Go l Z n0 EL mn bytes ml ret R h0 ws fr Q K sf h k n pc' Ls (.int x :: st)) : Go l Z n0 EL mn bytes ml ret R h0 ws fr Q K sf h k n pc Ls (.int j :: .ref a :: st) :=
  g_law (fun s' T locs hx hb hml hown hnm hZ X e ho => ⟨T, X, e, fun t s => by
    subst hb hp
    obtain ⟨c, A1, A2, A3, A4⟩ := A
    exact X.baloadBytes hx (j := j) (v := .int x) (by rw [e]; exact A1.1) (State.isArrayOf_alike hZ.alike A1.2.1) A1.2.2 (ia_inb A2 hj0 hj (List.getElem?_eq_some_iff.mp hi).1) (by rw [hj]; exact ia_get A2 hi) (g := mkF (km K) pc Ls (.int j :: .ref a :: st)) rfl rfl hd t s⟩) G
theorem g_iaload {a : Addr} {vs : List Int32} {j x : Int32} {i : Nat} (hd : decode bytes pc = .ok (.iaload, 1)) (A : Ia Z h a .int vs) (hj0 : ¬ j < 0) (hj : j.toNatClampNeg = i) (hi : vs[i]? = some x) (hp : pc + 1 = pc') (G : Go l Z n0 EL mn bytes ml ret R h0 ws fr Q K sf h k n pc' Ls (.int x :: st)) : Go l Z n0 EL mn bytes ml ret R h0 ws fr Q K sf h k n pc Ls (.int j :: .ref a :: st) :=
  g_law (fun s' T locs hx hb hml hown hnm hZ X e ho => ⟨T, X, e, fun t s => by
    subst hb hp
    obtain ⟨c, A1, A2, A3, A4⟩ := A
    exact X.iaload hx (j := j) (v := .int x) (by rw [e]; exact A1.1) (State.isArrayOf_alike hZ.alike A1.2.1) A1.2.2 (ia_inb A2 hj0 hj (List.getElem?_eq_some_iff.mp hi).1) (by rw [hj]; exact ia_get A2 hi) (g := mkF (km K) pc Ls (.int j :: .ref a :: st)) rfl rfl hd t s⟩) G
theorem g_castore {a : Addr} {vs : List Int32} {j x : Int32} {i : Nat} (hd : decode bytes pc = .ok (.castore, 1)) (A : Ia Z h a .char vs) (hj0 : ¬ j < 0) (hj : j.toNatClampNeg = i) (hi : i < vs.length) (hin : a ∈ ws ∨ h0.size ≤ a) (hsf : a ∈ sf) (hp : pc + 1 = pc') (G : ∀ h', Keep h h' [a] → Ia Z h' a .char (vs.set i (nar .char x)) → Go l Z n0 EL mn bytes ml ret R h0 ws fr Q K sf h' k n pc' Ls st) : Go l Z n0 EL mn bytes ml ret R h0 ws fr Q K sf h k n pc Ls (.int x :: .int j :: .ref a :: st) :=
  g_wr (i := i) (v := .int (nar .char x)) (fun s' T locs hx hb hml hown hnm hZ X e ho => by
    subst hb hp hj
    obtain ⟨c, A1, A2, A3, A4⟩ := A
    exact stC X hx hZ e A1 (j := j) (ia_inb A2 hj0 rfl hi) (g := mkF (km K) pc Ls (.int x :: .int j :: .ref a :: st)) rfl rfl hd) hin hsf (fun h' W => G h' (Keep.of_wr W) (ia_put A W (fits_nar_char _)))
theorem g_bastore {a : Addr} {vs : List Int32} {j x : Int32} {i : Nat} (hd : decode bytes pc = .ok (.bastore, 1)) (A : Ia Z h a .byte vs) (hj0 : ¬ j < 0) (hj : j.toNatClampNeg = i) (hi : i < vs.length) (hin : a ∈ ws ∨ h0.size ≤ a) (hsf : a ∈ sf) (hp : pc + 1 = pc') (G : ∀ h', Keep h h' [a] → Ia Z h' a .byte (vs.set i (nar .byte x)) → Go l Z n0 EL mn bytes ml ret R h0 ws fr Q K sf h' k n pc' Ls st) : Go l Z n0 EL mn bytes ml ret R h0 ws fr Q K sf h k n pc Ls (.int x :: .int j :: .ref a :: st) :=
  g_wr (i := i) (v := .int (nar .byte x)) (fun s' T locs hx hb hml hown hnm hZ X e ho => by
    subst hb hp hj
    obtain ⟨c, A1, A2, A3, A4⟩ := A
    exact stB X hx hZ e A1 (j := j) (ia_inb A2 hj0 rfl hi) (g := mkF (km K) pc Ls (.int x :: .int j :: .ref a :: st)) rfl rfl hd) hin hsf (fun h' W => G h' (Keep.of_wr W) (ia_put A W (fits_nar_byte _)))
theorem g_iastore {a : Addr} {vs : List Int32} {j x : Int32} {i : Nat} (hd : decode bytes pc = .ok (.iastore, 1)) (A : Ia Z h a .int vs) (hj0 : ¬ j < 0) (hj : j.toNatClampNeg = i) (hi : i < vs.length) (hin : a ∈ ws ∨ h0.size ≤ a) (hsf : a ∈ sf) (hp : pc + 1 = pc') (G : ∀ h', Keep h h' [a] → Ia Z h' a .int (vs.set i x) → Go l Z n0 EL mn bytes ml ret R h0 ws fr Q K sf h' k n pc' Ls st) : Go l Z n0 EL mn bytes ml ret R h0 ws fr Q K sf h k n pc Ls (.int x :: .int j :: .ref a :: st) :=
  g_wr (i := i) (v := .int x) (fun s' T locs hx hb hml hown hnm hZ X e ho => by
    subst hb hp hj
    obtain ⟨c, A1, A2, A3, A4⟩ := A
    exact stI X hx hZ e A1 (j := j) (ia_inb A2 hj0 rfl hi) (g := mkF (km K) pc Ls (.int x :: .int j :: .ref a :: st)) rfl rfl hd) hin hsf (fun h' W => G h' (Keep.of_wr W) (ia_put A W rfl))
theorem nat_i32 {n : Nat} (h : n < 2 ^ 31) : (Int32.ofNat n).toNatClampNeg = n := by rw [Int32.toNatClampNeg, Int32.toInt_ofNat_of_lt h]; rfl
theorem g_acopy {idx W : Nat} {a b : Addr} {vs vd : List Int32} {sp dp nn : Int32} {i j m : Nat} (hd : decode bytes pc = .ok (.invokestatic idx, 3)) (w1 : (Jvm.Cond.methodLink mn.cls idx Jvm.Stand.acN).before a0 Z = true) (w2 : (Jvm.Cond.native Jvm.Stand.acN).before a0 Z = true) (w3 : (Jvm.Cond.static Jvm.Stand.acN).before a0 Z = true) (w4 : (Jvm.Cond.initialized "java/lang/System").before a0 Z = true)
    (A : Ia Z h a .byte vs) (B : Ia Z h b .byte vd) (h1 : ¬ sp < 0) (e1 : sp.toNatClampNeg = i) (h2 : ¬ dp < 0) (e2 : dp.toNatClampNeg = j) (h3 : ¬ nn < 0) (e3 : nn.toNatClampNeg = m) (h4 : i + m ≤ vs.length) (h5 : j + m ≤ vd.length)
    (hsz : Ls.size = ml) (hf : 1 ≤ R.frames) (hW : (st.map fun v => v.category).sum ≤ W) (hlo : W + (nativeFrameWords "java/lang/System" "arraycopy" 5 + 11) ≤ R.locals) (hin : h0.size ≤ b) (hsf : b ∈ sf) (hp : pc + 3 = pc')
    (G : ∀ h', Keep h h' [b] → Ia Z h' b .byte (vd.take j ++ (vs.drop i).take m ++ vd.drop (j + m)) → Go l Z n0 EL mn bytes ml ret R h0 [] fr Q K sf h' k n pc' Ls st) : Go l Z n0 EL mn bytes ml ret R h0 [] fr Q K sf h k n pc Ls (.int nn :: .int dp :: .ref b :: .int sp :: .ref a :: st) :=
  g_fr (P := fun h' => Ia Z h' b .byte (vd.take j ++ (vs.drop i).take m ++ vd.drop (j + m))) (b := b) (fun s' T locs hx hb hml hown hnm hZ X e ho N => by
    subst hb hp e1 e2 e3
    obtain ⟨kA, Av⟩ := A.arv
    obtain ⟨kB, Bv⟩ := B.arv
    obtain ⟨T', h', L, X', e', F, Kp, V, S⟩ := cpA X hx hZ hown w1 w2 w3 w4 e Av Bv (us := ((vs.drop sp.toNatClampNeg).take nn.toNatClampNeg).map Value.int) (Or.inl ⟨rfl, rfl⟩) h1 h2 h3 (by rw [nat_i32 A.short]; exact h4) (by rw [nat_i32 B.short]; exact h5)
      (by
        refine List.ext_getElem? fun q => ?_
        by_cases c1 : q < nn.toNatClampNeg
        · have c2 : sp.toNatClampNeg + q < vs.length := by omega
          simp [List.getElem?_take, c1, c2, List.getD_eq_getElem?_getD]
        · simp [List.getElem?_take, c1]) (by rw [List.length_map]; exact h5) N hin (g := mkF (km K) pc Ls (.int nn :: .int dp :: .ref b :: .int sp :: .ref a :: st)) rfl (hsz.trans hml.symm) rfl hd hf (W := W) (by show 2 * 0 + _ ≤ _; omega) hlo
    refine ⟨T', h', L, X', e', F, Kp, ia_of V (by simp [List.map_take, List.map_drop]) (by rw [nat_i32 B.short]; simp only [List.length_append, List.length_take, List.length_drop]; omega), S⟩) hsf G
theorem g_alen {a : Addr} {ty : FieldType} {vs : List Int32} {x : Int32} (hd : decode bytes pc = .ok (.arraylength, 1)) (A : Ia Z h a ty vs) (hv : Int32.ofNat vs.length = x) (hp : pc + 1 = pc') (G : Go l Z n0 EL mn bytes ml ret R h0 ws fr Q K sf h k n pc' Ls (.int x :: st)) : Go l Z n0 EL mn bytes ml ret R h0 ws fr Q K sf h k n pc Ls (.ref a :: st) :=
  g_law (fun s' T locs hx hb hml hown hnm hZ X e ho => ⟨T, X, e, fun t s => by
    subst hb hp hv
    obtain ⟨c, A1, A2, A3, A4⟩ := A
    have es : c.slots.size = vs.length := by rw [← Array.length_toList, A2, List.length_map]
    refine X.arraylength hx (by rw [e]; exact A1.1) (State.isArrayOf_alike hZ.alike A1.2.1) (g := mkF (km K) pc Ls (.ref a :: st)) rfl rfl hd t ?_
    rw [es]; exact s⟩) G
-- returns
theorem g_ireturn {x : Int32} (hd : decode bytes pc = .ok (.ireturn, 1)) (hr : ret = some .int) (hq : Q (.int x) h) (hk : k ≤ R.cells) (hn : n ≤ R.slots) : Go l Z n0 EL mn bytes ml ret R h0 ws fr Q K sf h k n pc Ls (.int x :: st) :=
  g_ret (w := .int x) (fun s' T locs hx hb X hret fs hl => by subst hb hr; exact retOut X hx hret rfl (Or.inl ⟨rfl, Or.inl rfl, x, rfl⟩) hd hl) hq (fun _ _ e => nomatch e) hk hn
theorem g_ireturnN {x z : Int32} {t : FieldType} (hd : decode bytes pc = .ok (.ireturn, 1)) (hr : ret = some t) (ht : t = .boolean ∨ t = .byte ∨ t = .char ∨ t = .short) (hz : nar t x = z) (hq : Q (.int z) h) (hk : k ≤ R.cells) (hn : n ≤ R.slots) : Go l Z n0 EL mn bytes ml ret R h0 ws fr Q K sf h k n pc Ls (.int x :: st) :=
  g_ret (w := .int z) (fun s' T locs hx hb X hret fs hl => by subst hb hr hz; exact retN X hx hret ht hd hl) hq (fun _ _ e => nomatch e) hk hn
theorem g_lreturn {x : Int64} (hd : decode bytes pc = .ok (.lreturn, 1)) (hr : ret = some .long) (hq : Q (.long x) h) (hk : k ≤ R.cells) (hn : n ≤ R.slots) : Go l Z n0 EL mn bytes ml ret R h0 ws fr Q K sf h k n pc Ls (.long x :: st) :=
  g_ret (w := .long x) (fun s' T locs hx hb X hret fs hl => by subst hb hr; exact retOut X hx hret rfl (Or.inr (Or.inl ⟨rfl, rfl, x, rfl⟩)) hd hl) hq (fun _ _ e => nomatch e) hk hn
theorem g_areturnF {x : Value} {t : FieldType} (hd : decode bytes pc = .ok (.areturn, 1)) (hr : ret = some t) (ht : t.isReference = true) (hv : x.isRef = true) (hq : Q x h) (hfr : fr = true → ∀ a, x = .ref a → a ∈ sf) (hk : k ≤ R.cells) (hn : n ≤ R.slots) : Go l Z n0 EL mn bytes ml ret R h0 ws fr Q K sf h k n pc Ls (x :: st) :=
  g_ret (w := x) (fun s' T locs hx hb X hret fs hl => by
    subst hb hr
    have hnw : narrow t x = x := by rcases ref_cases hv with rfl | ⟨b, rfl⟩ <;> cases t <;> first | rfl | cases ht
    exact retOut X hx hret hnw (Or.inr (Or.inr (Or.inr (Or.inr ⟨rfl, ht, hv⟩)))) hd hl) hq hfr hk hn
theorem g_areturn {x : Value} {t : FieldType} (hd : decode bytes pc = .ok (.areturn, 1)) (hr : ret = some t) (ht : t.isReference = true) (hv : x.isRef = true) (hq : Q x h) (hk : k ≤ R.cells) (hn : n ≤ R.slots) (hfr : fr = false := by rfl) : Go l Z n0 EL mn bytes ml ret R h0 ws fr Q K sf h k n pc Ls (x :: st) :=
  g_areturnF hd hr ht hv hq (fun q => by rw [hfr] at q; cases q) hk hn
theorem g_return (hd : decode bytes pc = .ok (.return_, 1)) (hr : ret = none) (hq : Q .null h) (hk : k ≤ R.cells) (hn : n ≤ R.slots) : Go l Z n0 EL mn bytes ml ret R h0 ws fr Q K sf h k n pc Ls [] :=
  g_ret (w := .null) (fun s' T locs hx hb X hret fs hl => by subst hb hr; exact X.returnOut hx hret hd hl) hq (fun _ _ e => nomatch e) hk hn
-- calls by a Back form
def Bk (l : Launch) (Z : State) (n0 : Nat) (R : Room) (h0 : Heap) (ws : List Addr) (h : Heap) (y : MethodName) (W kc' nc : Nat) (as : Array Value) (Qc : Option Value → Heap → List Loc → Prop) : Prop :=
  ∀ (p : Program) (e : Env) (below : List Frame) (s : State) (args : Array Value), Z.Warmed39 s.vm → Old Z n0 h → Keep h0 h ws → Back l R p e below s args y 3 W (fun A a => a = as ∧ A.U.heap = h ∧ A.cells + kc' ≤ R.cells ∧ A.slots + nc ≤ R.slots) (fun A _ v B => ∃ L, Qc v B.U.heap L ∧ B.locs = A.locs ++ L ∧ B.cells = A.cells + kc' ∧ B.slots = A.slots + nc)
theorem nf_self {y : MethodName} {C : String} (w : (Jvm.Cond.selects C y y).before a0 Z = true) : ∀ s : State, Z.Warmed39 s.vm → NotFace s y := fun s hZ => notFace_of_selects (args := #[]) (mvT hZ w)
theorem g_staticB {idx W kc' nc : Nat} {y : MethodName} {ret' : Option FieldType} {bytes' : ByteArray} {maxL : Nat} {argsL rest : List Value} {wsb : List Addr} {Qc : Option Value → Heap → List Loc → Prop} (hd : decode bytes pc = .ok (.invokestatic idx, 3)) (wl : (Jvm.Cond.methodLink mn.cls idx y).before a0 Z = true) (wst : (Jvm.Cond.static y).before a0 Z = true) (wz : (Jvm.Cond.initialized y.cls).before a0 Z = true) (wc : (Jvm.Cond.code y bytes' maxL ret').before a0 Z = true) (hy : y.cls ≠ "java/lang/invoke/MethodHandle" ∧ y.cls ≠ "java/lang/invoke/VarHandle") (hlen : ∀ sig, parseMethodDescriptor y.desc = some sig → argsL.length = sig.parameters.length)
    (B : Bk l Z n0 R h0 ws h y W kc' nc argsL.toArray Qc) (hQ : Keep h0 h ws → ∀ v h' L, Qc v h' L → Nw h0 ws L ∧ Keep h h' wsb) (hsf : ∀ x ∈ wsb, x ∈ sf)
    (hs : st = argsL.reverse ++ rest) (hW : (rest.map fun v => v.category).sum ≤ W) (hsz : Ls.size = ml) (hk : k + kc' ≤ R.cells) (hn : n + nc ≤ R.slots) (hp : pc + 3 = pc')
    (G : ∀ v h' L, Qc v h' L → Go l Z n0 EL mn bytes ml ret R h0 ws fr Q K sf h' (k + kc') (n + nc) pc' Ls (v.toList ++ rest)) : Go l Z n0 EL mn bytes ml ret R h0 ws fr Q K sf h k n pc Ls st :=
  g_call (fun s' T locs hx hb hml hown hnm hZ X e ho hKp => by
    subst hb hp
    obtain ⟨v, vm₁, ⟨T', L', c', s''⟩, -, X', ⟨Lc, hQ', e1, e2, e3⟩, S⟩ := Jvm.LawKit.callS X hx (y := y) hown (mvT hZ wl) (mvT hZ wst) (mvT hZ wz) (mvT hZ wc) hy (B _ _ _ _ _ hZ ho hKp) (g := mkF (km K) pc Ls st) rfl (hsz.trans hml.symm) (argsL := argsL) (rest := rest) hlen hs (by show 2 * 0 + _ ≤ _; omega) hd (fun _ _ => ⟨rfl, e, hk, hn⟩)
    dsimp only [Pt.U, Pt.locs, Pt.cells, Pt.slots] at X' e1 e2 e3 S hQ'
    subst e1 e2 e3
    exact ⟨v, T', Lc, X', hQ', S⟩) hQ hsf G
theorem g_initB {idx W kc' nc : Nat} {y : MethodName} {bytes' : ByteArray} {maxL : Nat} {a : Addr} {argsL rest : List Value} {wsb : List Addr} {Qc : Option Value → Heap → List Loc → Prop} (hd : decode bytes pc = .ok (.invokespecial idx, 3)) (hy1 : y.name = "<init>") (wl : (Jvm.Cond.methodLink mn.cls idx y).before a0 Z = true) (wst : (Jvm.Cond.instanceMethod y).before a0 Z = true) (wc : (Jvm.Cond.code y bytes' maxL none).before a0 Z = true) (hy : y.cls ≠ "java/lang/invoke/MethodHandle" ∧ y.cls ≠ "java/lang/invoke/VarHandle") (hlen : ∀ sig, parseMethodDescriptor y.desc = some sig → argsL.length = sig.parameters.length)
    (B : Bk l Z n0 R h0 ws h y W kc' nc (.ref a :: argsL).toArray Qc) (hQ : Keep h0 h ws → ∀ v h' L, Qc v h' L → Nw h0 ws L ∧ Keep h h' wsb) (hsf : ∀ x ∈ wsb, x ∈ sf)
    (hs : st = argsL.reverse ++ .ref a :: rest) (hW : (rest.map fun v => v.category).sum ≤ W) (hsz : Ls.size = ml) (hk : k + kc' ≤ R.cells) (hn : n + nc ≤ R.slots) (hp : pc + 3 = pc')
    (G : ∀ v h' L, Qc v h' L → Go l Z n0 EL mn bytes ml ret R h0 ws fr Q K sf h' (k + kc') (n + nc) pc' Ls (v.toList ++ rest)) : Go l Z n0 EL mn bytes ml ret R h0 ws fr Q K sf h k n pc Ls st :=
  g_call (fun s' T locs hx hb hml hown hnm hZ X e ho hKp => by
    subst hb hp
    obtain ⟨v, vm₁, ⟨T', L', c', s''⟩, -, X', ⟨Lc, hQ', e1, e2, e3⟩, S⟩ := X.specialBack hx (y := y) hy1 hown (mvT hZ wl) (mvT hZ wst) (mvT hZ wc) hy (B _ _ _ _ _ hZ ho hKp) (g := mkF (km K) pc Ls st) rfl (hsz.trans hml.symm) (Steps.refl _) (a := a) (argsL := argsL) (rest := rest) hlen hs (by show 2 * 0 + _ ≤ _; omega) hd (fun _ _ => ⟨rfl, e, hk, hn⟩)
    dsimp only [Pt.U, Pt.locs, Pt.cells, Pt.slots] at X' e1 e2 e3 S hQ'
    subst e1 e2 e3
    exact ⟨v, T', Lc, X', hQ', fun t u => S.trans u⟩) hQ hsf G
theorem g_virtB {idx W kc' nc : Nat} {y : MethodName} {a : Addr} {z : MethodName} {C : String} {argsL rest : List Value} {wsb : List Addr} {Qc : Option Value → Heap → List Loc → Prop} (hd : decode bytes pc = .ok (.invokevirtual idx, 3)) (wl : (Jvm.Cond.methodLink mn.cls idx y).before a0 Z = true) (wd : (Jvm.Cond.declares y).before a0 Z = true) (hnf : ∀ s : State, Z.Warmed39 s.vm → NotFace s y) (wsel : (Jvm.Cond.selects C y z).before a0 Z = true) (wst : (Jvm.Cond.instanceMethod z).before a0 Z = true) (hy : y.cls ≠ "java/lang/invoke/MethodHandle" ∧ y.cls ≠ "java/lang/invoke/VarHandle") (hlen : ∀ sig, parseMethodDescriptor y.desc = some sig → argsL.length = sig.parameters.length) (E : Exa Z h a C)
    (B : Bk l Z n0 R h0 ws h z W kc' nc (.ref a :: argsL).toArray Qc) (hQ : Keep h0 h ws → ∀ v h' L, Qc v h' L → Nw h0 ws L ∧ Keep h h' wsb) (hsf : ∀ x ∈ wsb, x ∈ sf)
    (hs : st = argsL.reverse ++ .ref a :: rest) (hW : (rest.map fun v => v.category).sum ≤ W) (hsz : Ls.size = ml) (hk : k + kc' ≤ R.cells) (hn : n + nc ≤ R.slots) (hp : pc + 3 = pc')
    (G : ∀ v h' L, Qc v h' L → Go l Z n0 EL mn bytes ml ret R h0 ws fr Q K sf h' (k + kc') (n + nc) pc' Ls (v.toList ++ rest)) : Go l Z n0 EL mn bytes ml ret R h0 ws fr Q K sf h k n pc Ls st :=
  g_call (fun s' T locs hx hb hml hown hnm hZ X e ho hKp => by
    subst hb hp
    obtain ⟨cq, kq, q1, q2, q3⟩ := isOf hZ e E
    obtain ⟨v, vm₁, ⟨T', L', c', s''⟩, -, X', ⟨Lc, hQ', e1, e2, e3⟩, S⟩ := X.virtualBack hx (y := y) (z := z) hown (mvT hZ wl) (mvT hZ wd) (hnf _ hZ) (mvT hZ wsel) (mvT hZ wst) hy (B _ _ _ _ _ hZ ho hKp) q1 q3 (g := mkF (km K) pc Ls st) rfl (hsz.trans hml.symm) (Steps.refl _) (argsL := argsL) (rest := rest) hlen hs (by show 2 * 0 + _ ≤ _; omega) hd (fun _ _ => ⟨rfl, e, hk, hn⟩)
    dsimp only [Pt.U, Pt.locs, Pt.cells, Pt.slots] at X' e1 e2 e3 S hQ'
    subst e1 e2 e3
    exact ⟨v, T', Lc, X', hQ', fun t u => S.trans u⟩) hQ hsf G
/-- the object that a callee hands back as one of its own making -/
def frs (fr : Bool) (w : Value) : List Addr := match fr, w with
  | true, .ref a => [a]
  | _, _ => []
theorem frs_safe {fr' : Bool} {w : Value} {P : Addr → Prop} (q : fr' = true → ∀ a, w = .ref a → P a) (r : ∀ x ∈ sf, P x) : ∀ x ∈ frs fr' w ++ sf, P x := fun x hx => by
  rcases List.mem_append.mp hx with hx | hx
  · cases fr' with
    | false => cases hx
    | true => cases w <;> first | (cases List.mem_singleton.mp hx; exact q rfl _ rfl) | cases hx
  · exact r x hx
theorem g_static {idx W maxL : Nat} {y : MethodName} {bytes' : ByteArray} {t : FieldType} {argsL rest : List Value} {rm : Room} {ws' : List Addr} {fr' : Bool} {Q' : Value → Heap → Prop} (hd : decode bytes pc = .ok (.invokestatic idx, 3)) (wl : (Jvm.Cond.methodLink mn.cls idx y).before a0 Z = true) (wst : (Jvm.Cond.static y).before a0 Z = true) (hy : y.cls ≠ "java/lang/invoke/MethodHandle" ∧ y.cls ≠ "java/lang/invoke/VarHandle") (hlen : ∀ sig, parseMethodDescriptor y.desc = some sig → argsL.length = sig.parameters.length)
    (C' : Con l Z n0 EL y bytes' maxL (some t) [] rm argsL.toArray h ws' fr' Q') (wc : (Jvm.Cond.code y bytes' maxL (some t)).before a0 Z = true) (wz : (Jvm.Cond.initialized y.cls).before a0 Z = true) (hf : rm.frames + 1 ≤ R.frames) (hl : W + (maxL + 11) + rm.locals ≤ R.locals) (hws : ∀ x ∈ ws', (x ∈ ws ∨ h0.size ≤ x) ∧ x ∈ sf)
    (hs : st = argsL.reverse ++ rest) (hW : (rest.map fun v => v.category).sum ≤ W) (hsz : Ls.size = ml) (hk : k + rm.cells ≤ R.cells) (hn : n + rm.slots ≤ R.slots) (hp : pc + 3 = pc')
    (G : ∀ w h', Q' w h' → Keep h h' ws' → Go l Z n0 EL mn bytes ml ret R h0 ws fr Q K (frs fr' w ++ sf) h' (k + rm.cells) (n + rm.slots) pc' Ls (w :: rest)) : Go l Z n0 EL mn bytes ml ret R h0 ws fr Q K sf h k n pc Ls st :=
  fun ok T locs vm0 k0 Xs => by
  obtain ⟨ho, hKp⟩ := old_at ok Xs
  have ok' := ok
  obtain ⟨X, e, a3, a4, a5, hZ0, hown0, a8, a9⟩ := Xs
  obtain ⟨hx, hb, hml, -, hnm, -, -, -, -, ho0, hn1, a1, hEL⟩ := ok
  have hZ : Z.Warmed39 ((ks K).setVm vm0).vm := hZ0
  have hown : ((ks K).setVm vm0).vm.findClass mn.cls = some (km K).cls := hown0
  have B := backOfX (R := R) (p := kp K) (e := ke K) (s := ks K) (args := ka K) (below := kb K) (len := 3) (W := W) (C' ho (fun x hx => (hws x hx).1.elim (hn1 x) fun q => Nat.le_trans (ho0.1 ▸ ho0.2.1) q) ⟨a1, hEL⟩) hZ0 wc wz hf hl hEL a8.1 (fun x hx => a9 x (hws x hx).2)
  subst hb hp
  obtain ⟨v, vm₁, ⟨T', L', c', s''⟩, -, X', hS, hgr, ⟨Lc, ⟨⟨w, rfl, q5, q6, q7⟩, q8⟩, e1, e2, e3, q4⟩, S⟩ := callSS X hx (y := y) hown (mvT hZ wl) (mvT hZ wst) (mvT hZ wz) (mvT hZ wc) hy B (g := mkF (km K) pc Ls st) rfl (hsz.trans hml.symm) (argsL := argsL) (rest := rest) hlen hs (by show 2 * 0 + _ ≤ _; omega) hd (fun _ _ => ⟨rfl, e, hk, hn⟩)
  dsimp only [Pt.U, Pt.locs, Pt.cells, Pt.slots] at X' e1 e2 e3 S hS hgr q4 q5 q6 q7
  subst e1 e2 e3
  have nw : Nw h0 ws Lc := fun x hx => (q8 x hx).elim (fun q => (hws _ q).1) fun q => Or.inr (Nat.le_trans hKp.1 q)
  obtain ⟨s₂, u, L2, h1, r⟩ := G w _ q5 q6 ok' T' _ T'.vm T'.heap.size ⟨X', rfl, a3.app nw, a4.trans hS (Nat.le_trans (by rw [← e] at a5; exact a5) hgr), Nat.le_refl _, State.Warmed39.trans hZ hS.1, (hS.1.alike.findClass _ _).trans hown, a8.trans q4, frs_safe q7 fun x hx => ⟨Nat.lt_of_lt_of_le (a9 x hx).1 q6.1, q4.safe (a9 x hx).1 (a9 x hx).2⟩⟩
  exact ⟨s₂, u, L2, S.trans h1, r⟩
theorem g_staticN {idx W maxL : Nat} {y : MethodName} {bytes' : ByteArray} {argsL rest : List Value} {rm : Room} {ws' : List Addr} {fr' : Bool} {Q' : Value → Heap → Prop} (hd : decode bytes pc = .ok (.invokestatic idx, 3)) (wl : (Jvm.Cond.methodLink mn.cls idx y).before a0 Z = true) (wst : (Jvm.Cond.static y).before a0 Z = true) (hy : y.cls ≠ "java/lang/invoke/MethodHandle" ∧ y.cls ≠ "java/lang/invoke/VarHandle") (hlen : ∀ sig, parseMethodDescriptor y.desc = some sig → argsL.length = sig.parameters.length)
    (C' : Con l Z n0 EL y bytes' maxL none [] rm argsL.toArray h ws' fr' Q') (wc : (Jvm.Cond.code y bytes' maxL none).before a0 Z = true) (wz : (Jvm.Cond.initialized y.cls).before a0 Z = true) (hf : rm.frames + 1 ≤ R.frames) (hl : W + (maxL + 11) + rm.locals ≤ R.locals) (hws : ∀ x ∈ ws', (x ∈ ws ∨ h0.size ≤ x) ∧ x ∈ sf)
    (hs : st = argsL.reverse ++ rest) (hW : (rest.map fun v => v.category).sum ≤ W) (hsz : Ls.size = ml) (hk : k + rm.cells ≤ R.cells) (hn : n + rm.slots ≤ R.slots) (hp : pc + 3 = pc')
    (G : ∀ w h', Q' w h' → Keep h h' ws' → Go l Z n0 EL mn bytes ml ret R h0 ws fr Q K sf h' (k + rm.cells) (n + rm.slots) pc' Ls rest) : Go l Z n0 EL mn bytes ml ret R h0 ws fr Q K sf h k n pc Ls st :=
  fun ok T locs vm0 k0 Xs => by
  obtain ⟨ho, hKp⟩ := old_at ok Xs
  have ok' := ok
  obtain ⟨X, e, a3, a4, a5, hZ0, hown0, a8, a9⟩ := Xs
  obtain ⟨hx, hb, hml, -, hnm, -, -, -, -, ho0, hn1, a1, hEL⟩ := ok
  have hZ : Z.Warmed39 ((ks K).setVm vm0).vm := hZ0
  have hown : ((ks K).setVm vm0).vm.findClass mn.cls = some (km K).cls := hown0
  have B := backOfX (R := R) (p := kp K) (e := ke K) (s := ks K) (args := ka K) (below := kb K) (len := 3) (W := W) (C' ho (fun x hx => (hws x hx).1.elim (hn1 x) fun q => Nat.le_trans (ho0.1 ▸ ho0.2.1) q) ⟨a1, hEL⟩) hZ0 wc wz hf hl hEL a8.1 (fun x hx => a9 x (hws x hx).2)
  subst hb hp
  obtain ⟨v, vm₁, ⟨T', L', c', s''⟩, -, X', hS, hgr, ⟨Lc, ⟨⟨w, rfl, q5, q6, q7⟩, q8⟩, e1, e2, e3, q4⟩, S⟩ := callSS X hx (y := y) hown (mvT hZ wl) (mvT hZ wst) (mvT hZ wz) (mvT hZ wc) hy B (g := mkF (km K) pc Ls st) rfl (hsz.trans hml.symm) (argsL := argsL) (rest := rest) hlen hs (by show 2 * 0 + _ ≤ _; omega) hd (fun _ _ => ⟨rfl, e, hk, hn⟩)
  dsimp only [Pt.U, Pt.locs, Pt.cells, Pt.slots] at X' e1 e2 e3 S hS hgr q4 q5 q6 q7
  subst e1 e2 e3
  have nw : Nw h0 ws Lc := fun x hx => (q8 x hx).elim (fun q => (hws _ q).1) fun q => Or.inr (Nat.le_trans hKp.1 q)
  obtain ⟨s₂, u, L2, h1, r⟩ := G w _ q5 q6 ok' T' _ T'.vm T'.heap.size ⟨X', rfl, a3.app nw, a4.trans hS (Nat.le_trans (by rw [← e] at a5; exact a5) hgr), Nat.le_refl _, State.Warmed39.trans hZ hS.1, (hS.1.alike.findClass _ _).trans hown, a8.trans q4, fun x hx => ⟨Nat.lt_of_lt_of_le (a9 x hx).1 q6.1, q4.safe (a9 x hx).1 (a9 x hx).2⟩⟩
  exact ⟨s₂, u, L2, S.trans h1, r⟩
theorem g_init {idx W maxL : Nat} {y : MethodName} {bytes' : ByteArray} {a : Addr} {argsL rest : List Value} {rm : Room} {ws' : List Addr} {fr' : Bool} {Q' : Value → Heap → Prop} (hd : decode bytes pc = .ok (.invokespecial idx, 3)) (hy1 : y.name = "<init>") (wl : (Jvm.Cond.methodLink mn.cls idx y).before a0 Z = true) (wst : (Jvm.Cond.instanceMethod y).before a0 Z = true) (hy : y.cls ≠ "java/lang/invoke/MethodHandle" ∧ y.cls ≠ "java/lang/invoke/VarHandle") (hlen : ∀ sig, parseMethodDescriptor y.desc = some sig → argsL.length = sig.parameters.length)
    (C' : Con l Z n0 EL y bytes' maxL none [] rm (.ref a :: argsL).toArray h ws' fr' Q') (wc : (Jvm.Cond.code y bytes' maxL none).before a0 Z = true) (wz : (Jvm.Cond.initialized y.cls).before a0 Z = true) (hf : rm.frames + 1 ≤ R.frames) (hl : W + (maxL + 11) + rm.locals ≤ R.locals) (hws : ∀ x ∈ ws', (x ∈ ws ∨ h0.size ≤ x) ∧ x ∈ sf)
    (hs : st = argsL.reverse ++ .ref a :: rest) (hW : (rest.map fun v => v.category).sum ≤ W) (hsz : Ls.size = ml) (hk : k + rm.cells ≤ R.cells) (hn : n + rm.slots ≤ R.slots) (hp : pc + 3 = pc')
    (G : ∀ w h', Q' w h' → Keep h h' ws' → Go l Z n0 EL mn bytes ml ret R h0 ws fr Q K sf h' (k + rm.cells) (n + rm.slots) pc' Ls rest) : Go l Z n0 EL mn bytes ml ret R h0 ws fr Q K sf h k n pc Ls st :=
  fun ok T locs vm0 k0 Xs => by
  obtain ⟨ho, hKp⟩ := old_at ok Xs
  have ok' := ok
  obtain ⟨X, e, a3, a4, a5, hZ0, hown0, a8, a9⟩ := Xs
  obtain ⟨hx, hb, hml, -, hnm, -, -, -, -, ho0, hn1, a1, hEL⟩ := ok
  have hZ : Z.Warmed39 ((ks K).setVm vm0).vm := hZ0
  have hown : ((ks K).setVm vm0).vm.findClass mn.cls = some (km K).cls := hown0
  have B := backOfX (R := R) (p := kp K) (e := ke K) (s := ks K) (args := ka K) (below := kb K) (len := 3) (W := W) (C' ho (fun x hx => (hws x hx).1.elim (hn1 x) fun q => Nat.le_trans (ho0.1 ▸ ho0.2.1) q) ⟨a1, hEL⟩) hZ0 wc wz hf hl hEL a8.1 (fun x hx => a9 x (hws x hx).2)
  subst hb hp
  obtain ⟨v, vm₁, ⟨T', L', c', s''⟩, -, X', hS, hgr, ⟨Lc, ⟨⟨w, rfl, q5, q6, q7⟩, q8⟩, e1, e2, e3, q4⟩, S⟩ := X.specialBackS hx (y := y) hy1 hown (mvT hZ wl) (mvT hZ wst) (mvT hZ wc) hy B (g := mkF (km K) pc Ls st) rfl (hsz.trans hml.symm) (Steps.refl _) (a := a) (argsL := argsL) (rest := rest) hlen hs (by show 2 * 0 + _ ≤ _; omega) hd (fun _ _ => ⟨rfl, e, hk, hn⟩)
  dsimp only [Pt.U, Pt.locs, Pt.cells, Pt.slots] at X' e1 e2 e3 S hS hgr q4 q5 q6 q7
  subst e1 e2 e3
  have nw : Nw h0 ws Lc := fun x hx => (q8 x hx).elim (fun q => (hws _ q).1) fun q => Or.inr (Nat.le_trans hKp.1 q)
  obtain ⟨s₂, u, L2, h1, r⟩ := G w _ q5 q6 ok' T' _ T'.vm T'.heap.size ⟨X', rfl, a3.app nw, a4.trans hS (Nat.le_trans (by rw [← e] at a5; exact a5) hgr), Nat.le_refl _, State.Warmed39.trans hZ hS.1, (hS.1.alike.findClass _ _).trans hown, a8.trans q4, fun x hx => ⟨Nat.lt_of_lt_of_le (a9 x hx).1 q6.1, q4.safe (a9 x hx).1 (a9 x hx).2⟩⟩
  exact ⟨s₂, u, L2, S.trans h1, r⟩
theorem g_virt {idx W maxL : Nat} {y : MethodName} {bytes' : ByteArray} {t : FieldType} {a : Addr} {z : MethodName} {C : String} {argsL rest : List Value} {rm : Room} {ws' : List Addr} {fr' : Bool} {Q' : Value → Heap → Prop} (hd : decode bytes pc = .ok (.invokevirtual idx, 3)) (wl : (Jvm.Cond.methodLink mn.cls idx y).before a0 Z = true) (wd : (Jvm.Cond.declares y).before a0 Z = true) (hnf : ∀ s : State, Z.Warmed39 s.vm → NotFace s y) (wsel : (Jvm.Cond.selects C y z).before a0 Z = true) (wst : (Jvm.Cond.instanceMethod z).before a0 Z = true) (hy : y.cls ≠ "java/lang/invoke/MethodHandle" ∧ y.cls ≠ "java/lang/invoke/VarHandle") (hlen : ∀ sig, parseMethodDescriptor y.desc = some sig → argsL.length = sig.parameters.length) (E : Exa Z h a C)
    (C' : Con l Z n0 EL z bytes' maxL (some t) [] rm (.ref a :: argsL).toArray h ws' fr' Q') (wc : (Jvm.Cond.code z bytes' maxL (some t)).before a0 Z = true) (wz : (Jvm.Cond.initialized z.cls).before a0 Z = true) (hf : rm.frames + 1 ≤ R.frames) (hl : W + (maxL + 11) + rm.locals ≤ R.locals) (hws : ∀ x ∈ ws', (x ∈ ws ∨ h0.size ≤ x) ∧ x ∈ sf)
    (hs : st = argsL.reverse ++ .ref a :: rest) (hW : (rest.map fun v => v.category).sum ≤ W) (hsz : Ls.size = ml) (hk : k + rm.cells ≤ R.cells) (hn : n + rm.slots ≤ R.slots) (hp : pc + 3 = pc')
    (G : ∀ w h', Q' w h' → Keep h h' ws' → Go l Z n0 EL mn bytes ml ret R h0 ws fr Q K (frs fr' w ++ sf) h' (k + rm.cells) (n + rm.slots) pc' Ls (w :: rest)) : Go l Z n0 EL mn bytes ml ret R h0 ws fr Q K sf h k n pc Ls st :=
  fun ok T locs vm0 k0 Xs => by
  obtain ⟨ho, hKp⟩ := old_at ok Xs
  have ok' := ok
  obtain ⟨X, e, a3, a4, a5, hZ0, hown0, a8, a9⟩ := Xs
  obtain ⟨hx, hb, hml, -, hnm, -, -, -, -, ho0, hn1, a1, hEL⟩ := ok
  have hZ : Z.Warmed39 ((ks K).setVm vm0).vm := hZ0
  have hown : ((ks K).setVm vm0).vm.findClass mn.cls = some (km K).cls := hown0
  have B := backOfX (R := R) (p := kp K) (e := ke K) (s := ks K) (args := ka K) (below := kb K) (len := 3) (W := W) (C' ho (fun x hx => (hws x hx).1.elim (hn1 x) fun q => Nat.le_trans (ho0.1 ▸ ho0.2.1) q) ⟨a1, hEL⟩) hZ0 wc wz hf hl hEL a8.1 (fun x hx => a9 x (hws x hx).2)
  subst hb hp
  obtain ⟨cq, kq, q1, q2, q3⟩ := isOf hZ e E
  obtain ⟨v, vm₁, ⟨T', L', c', s''⟩, -, X', hS, hgr, ⟨Lc, ⟨⟨w, rfl, q5, q6, q7⟩, q8⟩, e1, e2, e3, q4⟩, S⟩ := X.virtualBackS hx (y := y) (z := z) hown (mvT hZ wl) (mvT hZ wd) (hnf _ hZ) (mvT hZ wsel) (mvT hZ wst) hy B q1 q3 (g := mkF (km K) pc Ls st) rfl (hsz.trans hml.symm) (Steps.refl _) (argsL := argsL) (rest := rest) hlen hs (by show 2 * 0 + _ ≤ _; omega) hd (fun _ _ => ⟨rfl, e, hk, hn⟩)
  dsimp only [Pt.U, Pt.locs, Pt.cells, Pt.slots] at X' e1 e2 e3 S hS hgr q4 q5 q6 q7
  subst e1 e2 e3
  have nw : Nw h0 ws Lc := fun x hx => (q8 x hx).elim (fun q => (hws _ q).1) fun q => Or.inr (Nat.le_trans hKp.1 q)
  obtain ⟨s₂, u, L2, h1, r⟩ := G w _ q5 q6 ok' T' _ T'.vm T'.heap.size ⟨X', rfl, a3.app nw, a4.trans hS (Nat.le_trans (by rw [← e] at a5; exact a5) hgr), Nat.le_refl _, State.Warmed39.trans hZ hS.1, (hS.1.alike.findClass _ _).trans hown, a8.trans q4, frs_safe q7 fun x hx => ⟨Nat.lt_of_lt_of_le (a9 x hx).1 q6.1, q4.safe (a9 x hx).1 (a9 x hx).2⟩⟩
  exact ⟨s₂, u, L2, S.trans h1, r⟩
theorem g_virtN {idx W maxL : Nat} {y : MethodName} {bytes' : ByteArray} {a : Addr} {z : MethodName} {C : String} {argsL rest : List Value} {rm : Room} {ws' : List Addr} {fr' : Bool} {Q' : Value → Heap → Prop} (hd : decode bytes pc = .ok (.invokevirtual idx, 3)) (wl : (Jvm.Cond.methodLink mn.cls idx y).before a0 Z = true) (wd : (Jvm.Cond.declares y).before a0 Z = true) (hnf : ∀ s : State, Z.Warmed39 s.vm → NotFace s y) (wsel : (Jvm.Cond.selects C y z).before a0 Z = true) (wst : (Jvm.Cond.instanceMethod z).before a0 Z = true) (hy : y.cls ≠ "java/lang/invoke/MethodHandle" ∧ y.cls ≠ "java/lang/invoke/VarHandle") (hlen : ∀ sig, parseMethodDescriptor y.desc = some sig → argsL.length = sig.parameters.length) (E : Exa Z h a C)
    (C' : Con l Z n0 EL z bytes' maxL none [] rm (.ref a :: argsL).toArray h ws' fr' Q') (wc : (Jvm.Cond.code z bytes' maxL none).before a0 Z = true) (wz : (Jvm.Cond.initialized z.cls).before a0 Z = true) (hf : rm.frames + 1 ≤ R.frames) (hl : W + (maxL + 11) + rm.locals ≤ R.locals) (hws : ∀ x ∈ ws', (x ∈ ws ∨ h0.size ≤ x) ∧ x ∈ sf)
    (hs : st = argsL.reverse ++ .ref a :: rest) (hW : (rest.map fun v => v.category).sum ≤ W) (hsz : Ls.size = ml) (hk : k + rm.cells ≤ R.cells) (hn : n + rm.slots ≤ R.slots) (hp : pc + 3 = pc')
    (G : ∀ w h', Q' w h' → Keep h h' ws' → Go l Z n0 EL mn bytes ml ret R h0 ws fr Q K sf h' (k + rm.cells) (n + rm.slots) pc' Ls rest) : Go l Z n0 EL mn bytes ml ret R h0 ws fr Q K sf h k n pc Ls st :=
  fun ok T locs vm0 k0 Xs => by
  obtain ⟨ho, hKp⟩ := old_at ok Xs
  have ok' := ok
  obtain ⟨X, e, a3, a4, a5, hZ0, hown0, a8, a9⟩ := Xs
  obtain ⟨hx, hb, hml, -, hnm, -, -, -, -, ho0, hn1, a1, hEL⟩ := ok
  have hZ : Z.Warmed39 ((ks K).setVm vm0).vm := hZ0
  have hown : ((ks K).setVm vm0).vm.findClass mn.cls = some (km K).cls := hown0
  have B := backOfX (R := R) (p := kp K) (e := ke K) (s := ks K) (args := ka K) (below := kb K) (len := 3) (W := W) (C' ho (fun x hx => (hws x hx).1.elim (hn1 x) fun q => Nat.le_trans (ho0.1 ▸ ho0.2.1) q) ⟨a1, hEL⟩) hZ0 wc wz hf hl hEL a8.1 (fun x hx => a9 x (hws x hx).2)
  subst hb hp
  obtain ⟨cq, kq, q1, q2, q3⟩ := isOf hZ e E
  obtain ⟨v, vm₁, ⟨T', L', c', s''⟩, -, X', hS, hgr, ⟨Lc, ⟨⟨w, rfl, q5, q6, q7⟩, q8⟩, e1, e2, e3, q4⟩, S⟩ := X.virtualBackS hx (y := y) (z := z) hown (mvT hZ wl) (mvT hZ wd) (hnf _ hZ) (mvT hZ wsel) (mvT hZ wst) hy B q1 q3 (g := mkF (km K) pc Ls st) rfl (hsz.trans hml.symm) (Steps.refl _) (argsL := argsL) (rest := rest) hlen hs (by show 2 * 0 + _ ≤ _; omega) hd (fun _ _ => ⟨rfl, e, hk, hn⟩)
  dsimp only [Pt.U, Pt.locs, Pt.cells, Pt.slots] at X' e1 e2 e3 S hS hgr q4 q5 q6 q7
  subst e1 e2 e3
  have nw : Nw h0 ws Lc := fun x hx => (q8 x hx).elim (fun q => (hws _ q).1) fun q => Or.inr (Nat.le_trans hKp.1 q)
  obtain ⟨s₂, u, L2, h1, r⟩ := G w _ q5 q6 ok' T' _ T'.vm T'.heap.size ⟨X', rfl, a3.app nw, a4.trans hS (Nat.le_trans (by rw [← e] at a5; exact a5) hgr), Nat.le_refl _, State.Warmed39.trans hZ hS.1, (hS.1.alike.findClass _ _).trans hown, a8.trans q4, fun x hx => ⟨Nat.lt_of_lt_of_le (a9 x hx).1 q6.1, q4.safe (a9 x hx).1 (a9 x hx).2⟩⟩
  exact ⟨s₂, u, L2, S.trans h1, r⟩
theorem decl_of {y : MethodName} {bytes' : ByteArray} {maxL : Nat} {ret' : Option FieldType} (w : (Jvm.Cond.instanceMethod y).before a0 Z = true) (wc : (Jvm.Cond.code y bytes' maxL ret').before a0 Z = true) : (Jvm.Cond.declares y).before a0 Z = true := by
  obtain ⟨mk, methM, hnamed, hmethM, hstM, habM⟩ := Cond.instanceMethod_spec w
  obtain ⟨m2, cM, q1, -, -, -, -, -, -, hsig⟩ := Cond.code_spec hnamed wc
  cases hmethM.symm.trans q1
  simp [Cond.before, Cond.holds, Cond.value, hnamed, hmethM, hstM, hsig]
theorem nf_sib {y y' : MethodName} {C : String} (hc : y.cls = y'.cls) (w : (Jvm.Cond.selects C y' y').before a0 Z = true) : ∀ s : State, Z.Warmed39 s.vm → NotFace s y := fun s hZ r0 h0 => by
  obtain ⟨c2, r2, m2, q1, q2, q3, q4, kP, hkP, hkPi⟩ := Cond.selects_spec (mvT (args := #[]) hZ w)
  have e1 := findClass_of_methodNamed h0
  have e2 := findClass_of_methodNamed q3
  rw [hc] at e1
  have e3 := Option.some.inj (e1.symm.trans e2)
  exact ⟨kP, by rw [e3]; exact hkP, hkPi⟩
theorem same_of {y y' : MethodName} {C : String} (hc : y.cls = y'.cls) (hy : y.cls ≠ "java/lang/invoke/MethodHandle" ∧ y.cls ≠ "java/lang/invoke/VarHandle") (w : (Jvm.Cond.selects C y' y').before a0 Z = true) (wi : (Jvm.Cond.instanceMethod y).before a0 Z = true) : (Jvm.Cond.sameMethod y.cls y.cls y.name y.desc).before a0 Z = true := by
  obtain ⟨mk, methM, hnamed, hmethM, hstM, habM⟩ := Cond.instanceMethod_spec wi
  obtain ⟨kr, h1, h2⟩ := nf_sib hc w Z (State.Warmed39.refl Z) mk hnamed
  have hf := State.methodFound?_of_named hnamed hy
  have e1 := findClass_of_methodNamed hnamed
  simp [Cond.before, Cond.holds, Cond.value, e1, hf, hnamed, h1, h2]
theorem g_super {idx W maxL : Nat} {y : MethodName} {bytes' : ByteArray} {t : FieldType} {a : Addr} {C : String} {argsL rest : List Value} {rm : Room} {ws' : List Addr} {fr' : Bool} {Q' : Value → Heap → Prop} (hd : decode bytes pc = .ok (.invokespecial idx, 3)) (hy1 : y.name ≠ "<init>") (wl : (Jvm.Cond.methodLink mn.cls idx y).before a0 Z = true) (wsm : (Jvm.Cond.sameMethod y.cls y.cls y.name y.desc).before a0 Z = true) (wst : (Jvm.Cond.instanceMethod y).before a0 Z = true) (wsu : (Jvm.Cond.superclass mn.cls y.cls).before a0 Z = true) (hy : y.cls ≠ "java/lang/invoke/MethodHandle" ∧ y.cls ≠ "java/lang/invoke/VarHandle") (hlen : ∀ sig, parseMethodDescriptor y.desc = some sig → argsL.length = sig.parameters.length) (E : Exa Z h a C)
    (C' : Con l Z n0 EL y bytes' maxL (some t) [] rm (.ref a :: argsL).toArray h ws' fr' Q') (wc : (Jvm.Cond.code y bytes' maxL (some t)).before a0 Z = true) (wz : (Jvm.Cond.initialized y.cls).before a0 Z = true) (hf : rm.frames + 1 ≤ R.frames) (hl : W + (maxL + 11) + rm.locals ≤ R.locals) (hws : ∀ x ∈ ws', (x ∈ ws ∨ h0.size ≤ x) ∧ x ∈ sf)
    (hs : st = argsL.reverse ++ .ref a :: rest) (hW : (rest.map fun v => v.category).sum ≤ W) (hsz : Ls.size = ml) (hk : k + rm.cells ≤ R.cells) (hn : n + rm.slots ≤ R.slots) (hp : pc + 3 = pc')
    (G : ∀ w h', Q' w h' → Keep h h' ws' → Go l Z n0 EL mn bytes ml ret R h0 ws fr Q K (frs fr' w ++ sf) h' (k + rm.cells) (n + rm.slots) pc' Ls (w :: rest)) : Go l Z n0 EL mn bytes ml ret R h0 ws fr Q K sf h k n pc Ls st :=
  fun ok T locs vm0 k0 Xs => by
  obtain ⟨ho, hKp⟩ := old_at ok Xs
  have ok' := ok
  obtain ⟨X, e, a3, a4, a5, hZ0, hown0, a8, a9⟩ := Xs
  obtain ⟨hx, hb, hml, -, hnm, -, -, -, -, ho0, hn1, a1, hEL⟩ := ok
  have hZ : Z.Warmed39 ((ks K).setVm vm0).vm := hZ0
  have hown : ((ks K).setVm vm0).vm.findClass mn.cls = some (km K).cls := hown0
  have B := backOfX (R := R) (p := kp K) (e := ke K) (s := ks K) (args := ka K) (below := kb K) (len := 3) (W := W) (C' ho (fun x hx => (hws x hx).1.elim (hn1 x) fun q => Nat.le_trans (ho0.1 ▸ ho0.2.1) q) ⟨a1, hEL⟩) hZ0 wc wz hf hl hEL a8.1 (fun x hx => a9 x (hws x hx).2)
  subst hb hp
  obtain ⟨v, vm₁, ⟨T', L', c', s''⟩, -, X', hS, hgr, ⟨Lc, ⟨⟨w, rfl, q5, q6, q7⟩, q8⟩, e1, e2, e3, q4⟩, S⟩ := superBackS X hx hZ (y := y) hown wl wsm wst wsu hy1 B e (Ins.self E) (g := mkF (km K) pc Ls st) rfl (hsz.trans hml.symm) wc (argsL := argsL) (rest := rest) hlen hs (by show 2 * 0 + _ ≤ _; omega) hd (fun _ _ => ⟨rfl, e, hk, hn⟩)
  dsimp only [Pt.U, Pt.locs, Pt.cells, Pt.slots] at X' e1 e2 e3 S hS hgr q4 q5 q6 q7
  subst e1 e2 e3
  have nw : Nw h0 ws Lc := fun x hx => (q8 x hx).elim (fun q => (hws _ q).1) fun q => Or.inr (Nat.le_trans hKp.1 q)
  obtain ⟨s₂, u, L2, h1, r⟩ := G w _ q5 q6 ok' T' _ T'.vm T'.heap.size ⟨X', rfl, a3.app nw, a4.trans hS (Nat.le_trans (by rw [← e] at a5; exact a5) hgr), Nat.le_refl _, State.Warmed39.trans hZ hS.1, (hS.1.alike.findClass _ _).trans hown, a8.trans q4, frs_safe q7 fun x hx => ⟨Nat.lt_of_lt_of_le (a9 x hx).1 q6.1, q4.safe (a9 x hx).1 (a9 x hx).2⟩⟩
  exact ⟨s₂, u, L2, S.trans h1, r⟩
theorem g_superN {idx W maxL : Nat} {y : MethodName} {bytes' : ByteArray} {a : Addr} {C : String} {argsL rest : List Value} {rm : Room} {ws' : List Addr} {fr' : Bool} {Q' : Value → Heap → Prop} (hd : decode bytes pc = .ok (.invokespecial idx, 3)) (hy1 : y.name ≠ "<init>") (wl : (Jvm.Cond.methodLink mn.cls idx y).before a0 Z = true) (wsm : (Jvm.Cond.sameMethod y.cls y.cls y.name y.desc).before a0 Z = true) (wst : (Jvm.Cond.instanceMethod y).before a0 Z = true) (wsu : (Jvm.Cond.superclass mn.cls y.cls).before a0 Z = true) (hy : y.cls ≠ "java/lang/invoke/MethodHandle" ∧ y.cls ≠ "java/lang/invoke/VarHandle") (hlen : ∀ sig, parseMethodDescriptor y.desc = some sig → argsL.length = sig.parameters.length) (E : Exa Z h a C)
    (C' : Con l Z n0 EL y bytes' maxL none [] rm (.ref a :: argsL).toArray h ws' fr' Q') (wc : (Jvm.Cond.code y bytes' maxL none).before a0 Z = true) (wz : (Jvm.Cond.initialized y.cls).before a0 Z = true) (hf : rm.frames + 1 ≤ R.frames) (hl : W + (maxL + 11) + rm.locals ≤ R.locals) (hws : ∀ x ∈ ws', (x ∈ ws ∨ h0.size ≤ x) ∧ x ∈ sf)
    (hs : st = argsL.reverse ++ .ref a :: rest) (hW : (rest.map fun v => v.category).sum ≤ W) (hsz : Ls.size = ml) (hk : k + rm.cells ≤ R.cells) (hn : n + rm.slots ≤ R.slots) (hp : pc + 3 = pc')
    (G : ∀ w h', Q' w h' → Keep h h' ws' → Go l Z n0 EL mn bytes ml ret R h0 ws fr Q K sf h' (k + rm.cells) (n + rm.slots) pc' Ls rest) : Go l Z n0 EL mn bytes ml ret R h0 ws fr Q K sf h k n pc Ls st :=
  fun ok T locs vm0 k0 Xs => by
  obtain ⟨ho, hKp⟩ := old_at ok Xs
  have ok' := ok
  obtain ⟨X, e, a3, a4, a5, hZ0, hown0, a8, a9⟩ := Xs
  obtain ⟨hx, hb, hml, -, hnm, -, -, -, -, ho0, hn1, a1, hEL⟩ := ok
  have hZ : Z.Warmed39 ((ks K).setVm vm0).vm := hZ0
  have hown : ((ks K).setVm vm0).vm.findClass mn.cls = some (km K).cls := hown0
  have B := backOfX (R := R) (p := kp K) (e := ke K) (s := ks K) (args := ka K) (below := kb K) (len := 3) (W := W) (C' ho (fun x hx => (hws x hx).1.elim (hn1 x) fun q => Nat.le_trans (ho0.1 ▸ ho0.2.1) q) ⟨a1, hEL⟩) hZ0 wc wz hf hl hEL a8.1 (fun x hx => a9 x (hws x hx).2)
  subst hb hp
  obtain ⟨v, vm₁, ⟨T', L', c', s''⟩, -, X', hS, hgr, ⟨Lc, ⟨⟨w, rfl, q5, q6, q7⟩, q8⟩, e1, e2, e3, q4⟩, S⟩ := superBackS X hx hZ (y := y) hown wl wsm wst wsu hy1 B e (Ins.self E) (g := mkF (km K) pc Ls st) rfl (hsz.trans hml.symm) wc (argsL := argsL) (rest := rest) hlen hs (by show 2 * 0 + _ ≤ _; omega) hd (fun _ _ => ⟨rfl, e, hk, hn⟩)
  dsimp only [Pt.U, Pt.locs, Pt.cells, Pt.slots] at X' e1 e2 e3 S hS hgr q4 q5 q6 q7
  subst e1 e2 e3
  have nw : Nw h0 ws Lc := fun x hx => (q8 x hx).elim (fun q => (hws _ q).1) fun q => Or.inr (Nat.le_trans hKp.1 q)
  obtain ⟨s₂, u, L2, h1, r⟩ := G w _ q5 q6 ok' T' _ T'.vm T'.heap.size ⟨X', rfl, a3.app nw, a4.trans hS (Nat.le_trans (by rw [← e] at a5; exact a5) hgr), Nat.le_refl _, State.Warmed39.trans hZ hS.1, (hS.1.alike.findClass _ _).trans hown, a8.trans q4, fun x hx => ⟨Nat.lt_of_lt_of_le (a9 x hx).1 q6.1, q4.safe (a9 x hx).1 (a9 x hx).2⟩⟩
  exact ⟨s₂, u, L2, S.trans h1, r⟩
theorem bytes_lit {text : String} : text.toList.map (fun c => Value.int (Jvm.Lit.byteI c.toNat.toUInt16)) = (text.toList.map fun c => Jvm.Lit.byteI c.toNat.toUInt16).map Value.int := by rw [List.map_map]; rfl
/-- ldc of a constant of EL: its text is read -/
theorem g_ldcC {idx m : Nat} {text : String} (hd : decode bytes pc = .ok (.ldc idx, 2)) (w : (Jvm.Cond.stringLink mn.cls idx text).before a0 Z = true) (wS : ∀ a ∈ Bundle.stringAtoms, a.before a0 Z = true) (hmem : (mn.cls, idx) ∈ EL) (ht : ∀ c ∈ text.toList, c.toNat < 256) (hl31 : text.toList.length < 2 ^ 31) (hm : 4 * text.toList.length ≤ m) (hbig : m ≤ 536870912) (hk : k + 2 ≤ R.cells) (hn : n + (m + 4) ≤ R.slots) (hp : pc + 2 = pc')
    (G : ∀ a b h', Keep h h' [] → Exa Z h' a "java/lang/String" → Fld Z h' a "java/lang/String" "coder" "B" (.int 0) → Fld Z h' a "java/lang/String" "value" "[B" (.ref b) → Ia Z h' b .byte (text.toList.map fun c => Jvm.Lit.byteI c.toNat.toUInt16) → (∀ x ∈ sf, x ≠ a ∧ x ≠ b) → Go l Z n0 EL mn bytes ml ret R h0 ws fr Q K sf h' (k + 2) (n + (m + 4)) pc' Ls (.ref a :: st)) : Go l Z n0 EL mn bytes ml ret R h0 ws fr Q K sf h k n pc Ls st := fun ok T locs vm0 k0 X => by
  have ok' := ok
  obtain ⟨hx, hb, hml, -, hnm, -, -, -, -, -, -, a1, hEL⟩ := ok
  obtain ⟨X, e, a3, a4, a5, hZ, hown, a8, a9⟩ := X
  subst hb hp
  obtain ⟨a, T', h', k1, b, kk, X', e', E, hS, hk1, hZ', hown', E1, F1, F2, V, -, -, hC, -, hne, S⟩ := ldcCH X hx hZ hown w wS e a4 a5 hEL hmem a8.1 (z := Int32.ofNat text.toList.length) ⟨ht, bytes_lit⟩ (by rw [Int32.lt_iff_toInt_lt, Int32.toInt_ofNat_of_lt hl31]; have : (0 : Int32).toInt = 0 := rfl; omega) (by rw [Int32.toNatClampNeg, Int32.toInt_ofNat_of_lt hl31]; simp) (g := mkF (km K) pc Ls st) rfl hd hm hbig hk hn
  have V' := ia_of V rfl (by rw [Int32.toNatClampNeg, Int32.toInt_ofNat_of_lt hl31]; simp)
  have sf' : ∀ x ∈ sf, x < h'.size ∧ Safe Z EL T'.vm h' x := fun x hx => ⟨Nat.lt_of_lt_of_le (a9 x hx).1 E.1, hC.safe (a9 x hx).1 (a9 x hx).2⟩
  obtain ⟨s₂, u, L2, h1, r⟩ := G a b h' ((Keep.refl _ _).ext E) E1 F1 F2 V' (fun x hx => hne x (sf' x hx).2) ok' T' _ T'.vm k1 ⟨X', e', a3, hS, hk1, hZ', hown', a8.trans hC, sf'⟩
  exact ⟨s₂, u, L2, S _ h1, r⟩
/-- ldc of any constant, opaque -/
theorem g_ldcO {idx m : Nat} {text : String} (hd : decode bytes pc = .ok (.ldc idx, 2)) (w : (Jvm.Cond.stringLink mn.cls idx text).before a0 Z = true) (wS : ∀ a ∈ Bundle.stringAtoms, a.before a0 Z = true) (hm : 4 * text.toList.length ≤ m) (hbig : m ≤ 536870912) (hk : k + 2 ≤ R.cells) (hn : n + (m + 4) ≤ R.slots) (hp : pc + 2 = pc')
    (G : ∀ a h', Keep h h' [] → Go l Z n0 EL mn bytes ml ret R h0 ws fr Q K sf h' (k + 2) (n + (m + 4)) pc' Ls (.ref a :: st)) : Go l Z n0 EL mn bytes ml ret R h0 ws fr Q K sf h k n pc Ls st := fun ok T locs vm0 k0 X => by
  have ok' := ok
  obtain ⟨hx, hb, hml, -, hnm, -, -, -, -, -, -, a1, hEL⟩ := ok
  obtain ⟨X, e, a3, a4, a5, hZ, hown, a8, a9⟩ := X
  subst hb hp
  obtain ⟨a, T', h', k1, X', e', E, hS, hk1, hZ', hown', hC, -, S⟩ := ldcOH X hx hZ hown w wS e a4 a5 hEL a8.1 (g := mkF (km K) pc Ls st) rfl hd hm hbig hk hn
  obtain ⟨s₂, u, L2, h1, r⟩ := G a h' ((Keep.refl _ _).ext E) ok' T' _ T'.vm k1 ⟨X', e', a3, hS, hk1, hZ', hown', a8.trans hC, fun x hx => ⟨Nat.lt_of_lt_of_le (a9 x hx).1 E.1, hC.safe (a9 x hx).1 (a9 x hx).2⟩⟩
  exact ⟨s₂, u, L2, S _ h1, r⟩
end Rules
end Jvm.Pilot.@@N@@
/- laws to paste: Road.backV (cut by pick.py; bodies as the Statement names them) -/
namespace Jvm.Pilot.@@N@@
namespace StrChars
open Jvm Sem ClassFile Op Lib Jvm.Stand Jvm.Free.XT Jvm.Free.ALB Jvm.Free.JM Jvm.Free
open Jvm.Lib.Cold (StaticIs)
/-- a char array whose places are chars -/
def Ch (a : Addr) (A : Cell) (U : State) : Prop := Arr .char a A U ∧ Typed .char A
theorem Ch.mv {a : Addr} {A : Cell} {U U' : State} (h : Ch a A U) (hal : U.vm.Alike U'.vm) (hh : U'.heap = U.heap) : Ch a A U' := ⟨h.1.mv hal hh, h.2⟩
theorem Ch.keep {a : Addr} {A : Cell} {U U' : State} (h : Ch a A U) (hal : U.vm.Alike U'.vm) (hk : U'.heap[a]? = some A) : Ch a A U' := ⟨h.1.keep hal hk, h.2⟩
/-- what place i of a char[]'s cell holds -/
def cv (A : Cell) (i : Nat) : Int32 := match A.slots[i]? with | some (.int x) => x | _ => 0
theorem Ch.get {a : Addr} {A : Cell} {U : State} (h : Ch a A U) {i : Nat} (hi : i < A.slots.size) : A.slots[i]? = some (.int (cv A i)) := by
  have e := Array.getElem?_eq_getElem hi
  have f := h.2 i _ e
  unfold cv; rw [e]
  generalize A.slots[i] = v at f
  cases v <;> simp [fits] at f ⊢
/-- the byte that i2b leaves of a char -/
def lo8 (x : Int32) : Int32 := x.toInt8.toInt32
theorem fits_lo8 (y : Int32) : fits .byte (.int (lo8 y)) = true := by
  have h1 := y.toInt8.le_toInt
  have h2 := y.toInt8.toInt_lt
  simp only [lo8, fits, Bool.and_eq_true, decide_eq_true_eq, Int32.le_iff_toInt_le, Int8.toInt_toInt32, show (-128 : Int32).toInt = -128 from by decide, show (127 : Int32).toInt = 127 from by decide]
  omega
/-- A' is A but that each place j of lo .. hi - 1 holds f j -/
def Laid (A A' : Cell) (lo hi : Nat) (f : Nat → Value) : Prop := A'.cls = A.cls ∧ A'.vm = A.vm ∧ A'.slots.size = A.slots.size ∧ ∀ i, A'.slots[i]? = if lo ≤ i ∧ i < hi then some (f i) else A.slots[i]?
theorem Laid.zero (A : Cell) (lo : Nat) (f : Nat → Value) : Laid A A lo (lo + 0) f := ⟨rfl, rfl, rfl, fun i => by rw [if_neg (by omega)]⟩
theorem Laid.step {A Ak : Cell} {lo k : Nat} {f : Nat → Value} {v : Value} (h : Laid A Ak lo k f) (hlo : lo ≤ k) (hk : k < Ak.slots.size) (hv : v = f k) : Laid A (Ak.setSlot k v) lo (k + 1) f := by
  refine ⟨h.1, h.2.1, by simpa [Cell.setSlot] using h.2.2.1, fun i => ?_⟩
  by_cases e : k = i
  · subst e; rw [Cell.slots_setSlot_self v hk, if_pos (by omega), hv]
  · rw [Cell.slots_setSlot_ne v e, h.2.2.2 i]
    by_cases q : lo ≤ i ∧ i < k
    · rw [if_pos q, if_pos (by omega)]
    · rw [if_neg q, if_neg (by omega)]
def U16 : String := "java/lang/StringUTF16"
namespace Cmp5
def yN : MethodName := ⟨"java/lang/StringUTF16", "compress", "([CI[BII)I"⟩
abbrev yB : ByteArray := jdk_52_method_21_code
theorem d0 : decode yB 0 = .ok (.iconst 0, 1) := by decide +kernel
theorem d1 : decode yB 1 = .ok (.istore 5, 2) := by decide +kernel
theorem d3 : decode yB 3 = .ok (.iload 5, 2) := by decide +kernel
theorem d5 : decode yB 5 = .ok (.iload 4, 2) := by decide +kernel
theorem d7 : decode yB 7 = .ok (.if_icmp (.ge) 37, 3) := by decide +kernel
theorem d10 : decode yB 10 = .ok (.aload_n 0, 1) := by decide +kernel
theorem d11 : decode yB 11 = .ok (.iload_n 1, 1) := by decide +kernel
theorem d12 : decode yB 12 = .ok (.caload, 1) := by decide +kernel
theorem d13 : decode yB 13 = .ok (.istore 6, 2) := by decide +kernel
theorem d15 : decode yB 15 = .ok (.iload 6, 2) := by decide +kernel
theorem d17 : decode yB 17 = .ok (.sipush 255, 3) := by decide +kernel
theorem d20 : decode yB 20 = .ok (.if_icmp (.le) 6, 3) := by decide +kernel
theorem d26 : decode yB 26 = .ok (.aload_n 2, 1) := by decide +kernel
theorem d27 : decode yB 27 = .ok (.iload_n 3, 1) := by decide +kernel
theorem d28 : decode yB 28 = .ok (.iload 6, 2) := by decide +kernel
theorem d30 : decode yB 30 = .ok (.i2b, 1) := by decide +kernel
theorem d31 : decode yB 31 = .ok (.bastore, 1) := by decide +kernel
theorem d32 : decode yB 32 = .ok (.iinc 1 1, 3) := by decide +kernel
theorem d35 : decode yB 35 = .ok (.iinc 3 1, 3) := by decide +kernel
theorem d38 : decode yB 38 = .ok (.iinc 5 1, 3) := by decide +kernel
theorem d41 : decode yB 41 = .ok (.goto (-38), 3) := by decide +kernel
theorem d44 : decode yB 44 = .ok (.iload 4, 2) := by decide +kernel
theorem d46 : decode yB 46 = .ok (.ireturn, 1) := by decide +kernel
def site : List Cond := []
def tab : Cond := tabOf yN yB 7 (some .int) site
def P (b : Addr) (A : Cell) (d : Addr) (B : Cell) (o q len : Nat) (args : Array Value) (s : State) : Prop := args = #[.ref b, .int (Int32.ofNat o), .ref d, .int (Int32.ofNat q), .int (Int32.ofNat len)] ∧ Ch b A s ∧ Arr .byte d B s ∧ b ≠ d ∧ o + len ≤ A.slots.size ∧ q + len ≤ B.slots.size ∧ ∀ i, i < len → ¬ 255 < cv A (o + i)
def E (b : Addr) (A : Cell) (d : Addr) (B : Cell) (o q len : Nat) (r : Option Value) (s u : State) : Prop := r = some (.int (Int32.ofNat len)) ∧ ∃ B', Put d B' s u ∧ Laid B B' q (q + len) (fun j => Value.int (lo8 (cv A (o + (j - q)))))
/-- no char of the range above 255: len; the places written hold each char's low byte -/
theorem law (l : Launch) (b : Addr) (A : Cell) (d : Addr) (B : Cell) (o q len : Nat) : Law l yN 5 5 0 0 yB 7 (some .int) site (P b A d B o q len) (E b A d B o q len) (copyLocs d q len) 0 0 := by
  refine Law.of_walk (plainFor_of_name (by decide +kernel)) (by decide +kernel) (by decide +kernel) (by decide) (fun _ _ h => by rw [h.1]; rfl) (fun _ U U' hal hh h => ⟨h.1, h.2.1.mv hal hh, h.2.2.1.mv hal hh, h.2.2.2⟩) (fun r U U' V V' h1 hal h2 h => ⟨h.1, h.2.elim fun B' q => ⟨B', q.1.mv h1 h2, q.2⟩⟩) ?_
  intro p e s m args below meth c s₁ X0 hexec hbytes hml hret hlk hnm hown hh0 W hP
  obtain ⟨rfl, hA, hB, hne, l1, l2, hp⟩ := hP
  have c1 : Steps p.tables e below (s₁.setTop (entryFrame m #[.ref b, .int (Int32.ofNat o), .ref d, .int (Int32.ofNat q), .int (Int32.ofNat len)] 7)) (s₁.setTop (mkF m 0 #[.val (.ref b), .val (.int (Int32.ofNat o)), .val (.ref d), .val (.int (Int32.ofNat q)), .val (.int (Int32.ofNat len)), .unset, .unset] [])) := entry rfl
  have hA0 := hA.1.mv X0.warmed.alike hh0
  have hB0 := hB.mv X0.warmed.alike hh0
  have a31 := hA.1.2.2.2
  have c2 : Steps p.tables e below (s₁.setTop (entryFrame m #[.ref b, .int (Int32.ofNat o), .ref d, .int (Int32.ofNat q), .int (Int32.ofNat len)] 7)) (s₁.setTop (mkF m 3 #[.val (.ref b), .val (.int (Int32.ofNat o)), .val (.ref d), .val (.int (Int32.ofNat q)), .val (.int (Int32.ofNat len)), .val (.int 0), .unset] [])) := c1.trans (by
    refine iconstV X0.here hexec rfl 0 (hb hbytes d0) (by decide) ?_
    refine XS.istore X0.here hexec rfl (hb hbytes d1) rfl rfl ?_
    exact Steps.refl _)
  have loop : ∀ (r i : Nat), i + r = len → ∀ (z : Slot), (z = .unset ∨ ∃ w, z = .val w ∧ w.category = 1) → ∀ (Tl : State) (Bk : Cell), Stand p l e { frames := 0, locals := 0, cells := 0, slots := 0 } s m #[.ref b, .int (Int32.ofNat o), .ref d, .int (Int32.ofNat q), .int (Int32.ofNat len)] below meth c Tl ([] ++ copyLocs d q i) 0 0 → Put d Bk s₁ Tl → Laid B Bk q (q + i) (fun j => Value.int (lo8 (cv A (o + (j - q))))) →
      Steps p.tables e below (s₁.setTop (entryFrame m #[.ref b, .int (Int32.ofNat o), .ref d, .int (Int32.ofNat q), .int (Int32.ofNat len)] 7)) (Tl.setTop (mkF m 3 #[.val (.ref b), .val (.int (Int32.ofNat (o + i))), .val (.ref d), .val (.int (Int32.ofNat (q + i))), .val (.int (Int32.ofNat len)), .val (.int (Int32.ofNat i)), z] [])) → ∃ (T' : State) (B' : Cell) (z' : Slot), Stand p l e { frames := 0, locals := 0, cells := 0, slots := 0 } s m #[.ref b, .int (Int32.ofNat o), .ref d, .int (Int32.ofNat q), .int (Int32.ofNat len)] below meth c T' ([] ++ copyLocs d q len) 0 0 ∧ Put d B' s₁ T' ∧ Laid B B' q (q + len) (fun j => Value.int (lo8 (cv A (o + (j - q))))) ∧
      Steps p.tables e below (s₁.setTop (entryFrame m #[.ref b, .int (Int32.ofNat o), .ref d, .int (Int32.ofNat q), .int (Int32.ofNat len)] 7)) (T'.setTop (mkF m 3 #[.val (.ref b), .val (.int (Int32.ofNat (o + len))), .val (.ref d), .val (.int (Int32.ofNat (q + len))), .val (.int (Int32.ofNat len)), .val (.int (Int32.ofNat len)), z'] [])) := by
    intro r
    induction r with
    | zero =>
      intro i hi z hz Tl Bk Xl pl fl cl
      have hil : i = len := by omega
      rw [hil] at Xl fl cl
      exact ⟨Tl, Bk, z, Xl, pl, fl, cl⟩
    | succ r ih =>
      intro i hi z hz Tl Bk Xl pl fl cl
      have all := X0.warmed.alike.symm.trans Xl.warmed.alike
      have hAl := hA0.keep all (pl.other hne hA0.1)
      have hBk := hB0.like all pl.1 fl.1 fl.2.1 fl.2.2.1
      have hlt : q + i < Bk.slots.size := by rw [fl.2.2.1]; omega
      have c3 : Steps p.tables e below (s₁.setTop (entryFrame m #[.ref b, .int (Int32.ofNat o), .ref d, .int (Int32.ofNat q), .int (Int32.ofNat len)] 7)) (Tl.setTop (mkF m 12 #[.val (.ref b), .val (.int (Int32.ofNat (o + i))), .val (.ref d), .val (.int (Int32.ofNat (q + i))), .val (.int (Int32.ofNat len)), .val (.int (Int32.ofNat i)), z] [.int (Int32.ofNat (o + i)), .ref b])) := cl.trans (by
        refine XS.iload Xl.here hexec rfl (hb hbytes d3) rfl ?_
        refine XS.iload Xl.here hexec rfl (hb hbytes d5) rfl ?_
        refine XS.icmpNo Xl.here hexec rfl (hb hbytes d7) rfl (ii_ge_f (lt32 (by omega) (by omega))) ?_
        refine XS.aloadN Xl.here hexec rfl (hb hbytes d10) rfl rfl ?_
        refine XS.iloadN Xl.here hexec rfl (hb hbytes d11) rfl ?_
        exact Steps.refl _)
      have c4 : Steps p.tables e below (s₁.setTop (entryFrame m #[.ref b, .int (Int32.ofNat o), .ref d, .int (Int32.ofNat q), .int (Int32.ofNat len)] 7)) (Tl.setTop (mkF m 13 #[.val (.ref b), .val (.int (Int32.ofNat (o + i))), .val (.ref d), .val (.int (Int32.ofNat (q + i))), .val (.int (Int32.ofNat len)), .val (.int (Int32.ofNat i)), z] [.int (cv A (o + i))])) := c3.trans (by
        refine Xl.aget hexec hAl rfl (hA.get (i := o + i) (by omega)) rfl rfl (hb hbytes d12) ?_
        exact Steps.refl _)
      have c5 : Steps p.tables e below (s₁.setTop (entryFrame m #[.ref b, .int (Int32.ofNat o), .ref d, .int (Int32.ofNat q), .int (Int32.ofNat len)] 7)) (Tl.setTop (mkF m 15 #[.val (.ref b), .val (.int (Int32.ofNat (o + i))), .val (.ref d), .val (.int (Int32.ofNat (q + i))), .val (.int (Int32.ofNat len)), .val (.int (Int32.ofNat i)), .val (.int (cv A (o + i)))] [])) := c4.trans (by
        refine XS.istoreS Xl.here hexec rfl (hb hbytes d13) rfl rfl hz ?_
        exact Steps.refl _)
      have c6 : Steps p.tables e below (s₁.setTop (entryFrame m #[.ref b, .int (Int32.ofNat o), .ref d, .int (Int32.ofNat q), .int (Int32.ofNat len)] 7)) (Tl.setTop (mkF m 31 #[.val (.ref b), .val (.int (Int32.ofNat (o + i))), .val (.ref d), .val (.int (Int32.ofNat (q + i))), .val (.int (Int32.ofNat len)), .val (.int (Int32.ofNat i)), .val (.int (cv A (o + i)))] [.int (lo8 (cv A (o + i))), .int (Int32.ofNat (q + i)), .ref d])) := c5.trans (by
        refine XS.iload Xl.here hexec rfl (hb hbytes d15) rfl ?_
        refine sipushV Xl.here hexec rfl 255 (hb hbytes d17) (by decide) ?_
        refine XS.icmpYes Xl.here hexec rfl (pc0 := 20) rfl (hb hbytes d20) rfl (ii_le_t (hp i (by omega))) (by decide) rfl ?_
        refine XS.aloadN Xl.here hexec rfl (hb hbytes d26) rfl rfl ?_
        refine XS.iloadN Xl.here hexec rfl (hb hbytes d27) rfl ?_
        refine XS.iload Xl.here hexec rfl (hb hbytes d28) rfl ?_
        refine i2b Xl.here hexec rfl (hb hbytes d30) rfl ?_
        exact Steps.refl _)
      obtain ⟨T7, X7, p7, st7⟩ := Xl.aput hexec hBk rfl hlt rfl (fits_lo8 (cv A (o + i))) (g := (mkF m 31 #[.val (.ref b), .val (.int (Int32.ofNat (o + i))), .val (.ref d), .val (.int (Int32.ofNat (q + i))), .val (.int (Int32.ofNat len)), .val (.int (Int32.ofNat i)), .val (.int (cv A (o + i)))] [.int (lo8 (cv A (o + i))), .int (Int32.ofNat (q + i)), .ref d])) rfl (rest := []) rfl (hb hbytes d31)
      have c8 : Steps p.tables e below (s₁.setTop (entryFrame m #[.ref b, .int (Int32.ofNat o), .ref d, .int (Int32.ofNat q), .int (Int32.ofNat len)] 7)) (T7.setTop (mkF m 32 #[.val (.ref b), .val (.int (Int32.ofNat (o + i))), .val (.ref d), .val (.int (Int32.ofNat (q + i))), .val (.int (Int32.ofNat len)), .val (.int (Int32.ofNat i)), .val (.int (cv A (o + i)))] [])) := c6.trans (st7 _ (Steps.refl _))
      have c9 : Steps p.tables e below (s₁.setTop (entryFrame m #[.ref b, .int (Int32.ofNat o), .ref d, .int (Int32.ofNat q), .int (Int32.ofNat len)] 7)) (T7.setTop (mkF m 3 #[.val (.ref b), .val (.int (Int32.ofNat (o + i) + 1)), .val (.ref d), .val (.int (Int32.ofNat (q + i) + 1)), .val (.int (Int32.ofNat len)), .val (.int (Int32.ofNat i + 1)), .val (.int (cv A (o + i)))] [])) := c8.trans (by
        refine iincV X7.here hexec rfl 1 (hb hbytes d32) (by decide) rfl rfl ?_
        refine iincV X7.here hexec rfl 1 (hb hbytes d35) (by decide) rfl rfl ?_
        refine iincV X7.here hexec rfl 1 (hb hbytes d38) (by decide) rfl rfl ?_
        refine XS.goto X7.here hexec rfl (pc0 := 41) rfl (hb hbytes d41) (by decide) rfl ?_
        exact Steps.refl _)
      have c10 : Steps p.tables e below (s₁.setTop (entryFrame m #[.ref b, .int (Int32.ofNat o), .ref d, .int (Int32.ofNat q), .int (Int32.ofNat len)] 7)) (T7.setTop (mkF m 3 #[.val (.ref b), .val (.int (Int32.ofNat (o + (i + 1)))), .val (.ref d), .val (.int (Int32.ofNat (q + (i + 1)))), .val (.int (Int32.ofNat len)), .val (.int (Int32.ofNat (i + 1))), .val (.int (cv A (o + i)))] [])) := by
        have := c9
        rw [succ32, succ32, succ32] at this
        exact this
      exact ih (i + 1) (by omega) _ (Or.inr ⟨_, rfl, rfl⟩) T7 _ (by rw [copyLocs_step, ← List.append_assoc]; exact X7) (pl.trans p7) (fl.step (by omega) hlt (by simp)) c10
  obtain ⟨T9, B9, z9, X9, p9, f9, g9⟩ := loop len 0 (by omega) .unset (Or.inl rfl) s₁ B (by simpa [copyLocs] using X0) ⟨hB0.1, fun _ _ => rfl, rfl⟩ (Laid.zero _ _ _) c2
  have c11 : Steps p.tables e below (s₁.setTop (entryFrame m #[.ref b, .int (Int32.ofNat o), .ref d, .int (Int32.ofNat q), .int (Int32.ofNat len)] 7)) (T9.setTop (mkF m 46 #[.val (.ref b), .val (.int (Int32.ofNat (o + len))), .val (.ref d), .val (.int (Int32.ofNat (q + len))), .val (.int (Int32.ofNat len)), .val (.int (Int32.ofNat len)), z9] [.int (Int32.ofNat len)])) := g9.trans (by
    refine XS.iload X9.here hexec rfl (hb hbytes d3) rfl ?_
    refine XS.iload X9.here hexec rfl (hb hbytes d5) rfl ?_
    refine XS.icmpYes X9.here hexec rfl (pc0 := 7) rfl (hb hbytes d7) rfl (ii_ge_t (nlt32 (by omega) (Nat.le_refl _))) (by decide) rfl ?_
    refine XS.iload X9.here hexec rfl (hb hbytes d44) rfl ?_
    exact Steps.refl _)
  exact ⟨T9, some (.int (Int32.ofNat len)), _, _, _, X9, by simp, rfl, rfl, (fun h => by cases h), ⟨rfl, B9, p9.from hh0, f9⟩, fun fs hl => c11.trans (X9.ireturnOut hexec hret rfl (Or.inl rfl) (hb hbytes d46) hl)⟩
end Cmp5
namespace Cmp3
def yN : MethodName := ⟨"java/lang/StringUTF16", "compress", "([CII)[B"⟩
abbrev yB : ByteArray := jdk_52_method_16_code
theorem d0 : decode yB 0 = .ok (.iload_n 2, 1) := by decide +kernel
theorem d1 : decode yB 1 = .ok (.newarray .byte, 2) := by decide +kernel
theorem d3 : decode yB 3 = .ok (.astore_n 3, 1) := by decide +kernel
theorem d4 : decode yB 4 = .ok (.aload_n 0, 1) := by decide +kernel
theorem d5 : decode yB 5 = .ok (.iload_n 1, 1) := by decide +kernel
theorem d6 : decode yB 6 = .ok (.aload_n 3, 1) := by decide +kernel
theorem d7 : decode yB 7 = .ok (.iconst 0, 1) := by decide +kernel
theorem d8 : decode yB 8 = .ok (.iload_n 2, 1) := by decide +kernel
theorem d9 : decode yB 9 = .ok (.invokestatic 115, 3) := by decide +kernel
theorem d12 : decode yB 12 = .ok (.istore 4, 2) := by decide +kernel
theorem d14 : decode yB 14 = .ok (.iload 4, 2) := by decide +kernel
theorem d16 : decode yB 16 = .ok (.iload_n 2, 1) := by decide +kernel
theorem d17 : decode yB 17 = .ok (.if_icmp (.eq) 40, 3) := by decide +kernel
theorem d57 : decode yB 57 = .ok (.aload_n 3, 1) := by decide +kernel
theorem d58 : decode yB 58 = .ok (.areturn, 1) := by decide +kernel
def site : List Cond := [.arrayClass .byte, Cmp5.tab] ++ staticW U16 115 Cmp5.yN
def tab : Cond := tabOf yN yB 6 (some (.array .byte)) site
def P (b : Addr) (A : Cell) (o len : Nat) (args : Array Value) (s : State) : Prop := args = #[.ref b, .int (Int32.ofNat o), .int (Int32.ofNat len)] ∧ Ch b A s ∧ o + len ≤ A.slots.size ∧ len ≤ 536870912 ∧ ∀ i, i < len → ¬ 255 < cv A (o + i)
def E (b : Addr) (A : Cell) (o len : Nat) (r : Option Value) (s u : State) : Prop := NewArr .byte "[B" len (fun j => .int (lo8 (cv A (o + j)))) r s u ∧ u.heap.size = s.heap.size + 1
/-- no char of the range above 255: a new byte[] of their low bytes -/
theorem law (l : Launch) (b : Addr) (A : Cell) (o len : Nat) : Law l yN 3 3 1 18 yB 6 (some (.array .byte)) site (P b A o len) (E b A o len) [] 1 len := by
  refine Law.of_walk (plainFor_of_name (by decide +kernel)) (by decide +kernel) (by decide +kernel) (by decide) (fun _ _ h => by rw [h.1]; rfl) (fun _ U U' hal hh h => ⟨h.1, h.2.1.mv hal hh, h.2.2⟩) (fun r U U' V V' h1 hal h2 h => ⟨NewArr.mv r U U' V V' h1 hal h2 h.1, by rw [h1, h2]; exact h.2⟩) ?_
  intro p e s m args below meth c s₁ X0 hexec hbytes hml hret hlk hnm hown hh0 W hP
  obtain ⟨rfl, hA, l1, l2, hp⟩ := hP
  have a31 := hA.1.2.2.2
  have c1 : Steps p.tables e below (s₁.setTop (entryFrame m #[.ref b, .int (Int32.ofNat o), .int (Int32.ofNat len)] 6)) (s₁.setTop (mkF m 0 #[.val (.ref b), .val (.int (Int32.ofNat o)), .val (.int (Int32.ofNat len)), .unset, .unset, .unset] [])) := entry rfl
  have c2 : Steps p.tables e below (s₁.setTop (entryFrame m #[.ref b, .int (Int32.ofNat o), .int (Int32.ofNat len)] 6)) (s₁.setTop (mkF m 1 #[.val (.ref b), .val (.int (Int32.ofNat o)), .val (.int (Int32.ofNat len)), .unset, .unset, .unset] [.int (Int32.ofNat len)])) := c1.trans (by
    refine XS.iloadN X0.here hexec rfl (hb hbytes d0) rfl ?_
    exact Steps.refl _)
  obtain ⟨T3, B3, X3, ba3, bs3, bv3, bh3, bf3, st3⟩ := X0.anew hexec (atype := .byte) (wk W (.arrayClass .byte)) rfl (by show len * 1 ≤ _; omega) (by omega) (g := (mkF m 1 #[.val (.ref b), .val (.int (Int32.ofNat o)), .val (.int (Int32.ofNat len)), .unset, .unset, .unset] [.int (Int32.ofNat len)])) rfl (hb hbytes d1) (rest := []) rfl (Nat.le_refl _) (by show 0 + len ≤ len; omega)
  rw [hh0] at ba3 st3
  have kp3 : XT.Kept s T3 := (XT.Kept.of_eq hh0).push bh3
  have hA3 := hA.keep X3.warmed.alike (kp3 _ _ hA.1.1)
  have hne : b ≠ s.heap.size := hA.1.ne
  have c4 : Steps p.tables e below (s₁.setTop (entryFrame m #[.ref b, .int (Int32.ofNat o), .int (Int32.ofNat len)] 6)) (T3.setTop (mkF m 3 #[.val (.ref b), .val (.int (Int32.ofNat o)), .val (.int (Int32.ofNat len)), .unset, .unset, .unset] [.ref s.heap.size])) := c2.trans (st3 _ (Steps.refl _))
  have c5 : Steps p.tables e below (s₁.setTop (entryFrame m #[.ref b, .int (Int32.ofNat o), .int (Int32.ofNat len)] 6)) (T3.setTop (mkF m 9 #[.val (.ref b), .val (.int (Int32.ofNat o)), .val (.int (Int32.ofNat len)), .val (.ref s.heap.size), .unset, .unset] [.int (Int32.ofNat len), .int 0, .ref s.heap.size, .int (Int32.ofNat o), .ref b])) := c4.trans (by
    refine XS.astoreN X3.here hexec rfl (hb hbytes d3) rfl rfl rfl ?_
    refine XS.aloadN X3.here hexec rfl (hb hbytes d4) rfl rfl ?_
    refine XS.iloadN X3.here hexec rfl (hb hbytes d5) rfl ?_
    refine XS.aloadN X3.here hexec rfl (hb hbytes d6) rfl rfl ?_
    refine iconstV X3.here hexec rfl 0 (hb hbytes d7) (by decide) ?_
    refine XS.iloadN X3.here hexec rfl (hb hbytes d8) rfl ?_
    exact Steps.refl _)
  obtain ⟨v6, T6, X6, E6, g6⟩ := X3.callS hexec (Cmp5.law l b A s.heap.size B3 o 0 len) hown (wks W (staticW U16 115 Cmp5.yN)) (wk W Cmp5.tab) (W := 0) (Nat.le_of_ble_eq_true rfl) (Nat.le_of_ble_eq_true rfl) (Nat.le_refl _) (by show 0 + len + 0 ≤ len; omega) (g := (mkF m 9 #[.val (.ref b), .val (.int (Int32.ofNat o)), .val (.int (Int32.ofNat len)), .val (.ref s.heap.size), .unset, .unset] [.int (Int32.ofNat len), .int (Int32.ofNat 0), .ref s.heap.size, .int (Int32.ofNat o), .ref b])) rfl (by rw [hml]; rfl) c5 (argsL := [.ref b, .int (Int32.ofNat o), .ref s.heap.size, .int (Int32.ofNat 0), .int (Int32.ofNat len)]) (rest := []) rfl rfl (by show 2 * 0 + 0 ≤ _; decide) (hb hbytes d9) (⟨rfl, hA3, ba3, hne, l1, by rw [bs3]; simp, hp⟩)
  obtain ⟨rfl, B6, p6, f6⟩ := E6
  have c7 : Steps p.tables e below (s₁.setTop (entryFrame m #[.ref b, .int (Int32.ofNat o), .int (Int32.ofNat len)] 6)) (T6.setTop (mkF m 12 #[.val (.ref b), .val (.int (Int32.ofNat o)), .val (.int (Int32.ofNat len)), .val (.ref s.heap.size), .unset, .unset] [.int (Int32.ofNat len)])) := g6
  have c8 : Steps p.tables e below (s₁.setTop (entryFrame m #[.ref b, .int (Int32.ofNat o), .int (Int32.ofNat len)] 6)) (T6.setTop (mkF m 58 #[.val (.ref b), .val (.int (Int32.ofNat o)), .val (.int (Int32.ofNat len)), .val (.ref s.heap.size), .val (.int (Int32.ofNat len)), .unset] [.ref s.heap.size])) := c7.trans (by
    refine XS.istore X6.here hexec rfl (hb hbytes d12) rfl rfl ?_
    refine XS.iload X6.here hexec rfl (hb hbytes d14) rfl ?_
    refine XS.iloadN X6.here hexec rfl (hb hbytes d16) rfl ?_
    refine XS.icmpYes X6.here hexec rfl (pc0 := 17) rfl (hb hbytes d17) rfl (ii_eq_t rfl) (by decide) rfl ?_
    refine XS.aloadN X6.here hexec rfl (hb hbytes d57) rfl rfl ?_
    exact Steps.refl _)
  have X8 := X6.wide (L' := []) (cells' := 1) (slots' := len) (fun x hx hlt => by
    simp only [List.nil_append, copyLocs, List.mem_map, List.mem_range] at hx
    obtain ⟨i, -, rfl⟩ := hx
    exact absurd hlt (Nat.lt_irrefl _)) (Nat.le_refl _) (by omega)
  exact ⟨T6, some (.ref s.heap.size), _, _, _, X8, rfl, rfl, rfl, (fun h => by cases h), ⟨⟨rfl, B6, ba3.like (X3.warmed.alike.symm.trans X6.warmed.alike) p6.1 f6.1 f6.2.1 f6.2.2.1, f6.2.1.trans bv3, by rw [X6.warmed.alike.findClass, f6.1]; exact bf3, by rw [f6.2.2.1, bs3]; simp, fun j hj => by rw [f6.2.2.2 j, if_pos (by omega)]; rfl, kp3.put p6 (Nat.le_refl _)⟩, by rw [p6.2.2, bh3, hh0]; simp⟩, fun fs hl => c8.trans (X8.areturnOut hexec rfl hret rfl (hb hbytes d58) hl)⟩
end Cmp3
namespace CodL
def yN : MethodName := ⟨"java/lang/StringUTF16", "coderFromArrayLen", "([BI)B"⟩
abbrev yB : ByteArray := jdk_52_method_15_code
theorem d0 : decode yB 0 = .ok (.iload_n 1, 1) := by decide +kernel
theorem d1 : decode yB 1 = .ok (.aload_n 0, 1) := by decide +kernel
theorem d2 : decode yB 2 = .ok (.arraylength, 1) := by decide +kernel
theorem d3 : decode yB 3 = .ok (.isub, 1) := by decide +kernel
theorem d4 : decode yB 4 = .ok (.bipush 31, 2) := by decide +kernel
theorem d6 : decode yB 6 = .ok (.iushr, 1) := by decide +kernel
theorem d7 : decode yB 7 = .ok (.i2b, 1) := by decide +kernel
theorem d8 : decode yB 8 = .ok (.ireturn, 1) := by decide +kernel
def site : List Cond := []
def tab : Cond := tabOf yN yB 2 (some .byte) site
def P (d : Addr) (B : Cell) (args : Array Value) (s : State) : Prop := args = #[.ref d, .int (Int32.ofNat B.slots.size)] ∧ Arr .byte d B s
def E (r : Option Value) (s u : State) : Prop := XT.PureE (some (.int 0)) r s u
/-- an array as long as the number of chars: LATIN1 -/
theorem law (l : Launch) (d : Addr) (B : Cell) : Law l yN 2 2 0 0 yB 2 (some .byte) site (P d B) E [] 0 0 := by
  refine Law.of_walk (plainFor_of_name (by decide +kernel)) (by decide +kernel) (by decide +kernel) (by decide) (fun _ _ h => by rw [h.1]; rfl) (fun _ U U' hal hh h => ⟨h.1, h.2.mv hal hh⟩) (fun r U U' V V' h1 hal h2 h => XT.PureE.mv r U U' V V' h1 hal h2 h) ?_
  intro p e s m args below meth c s₁ X0 hexec hbytes hml hret hlk hnm hown hh0 W hP
  obtain ⟨rfl, hB⟩ := hP
  have hB0 := hB.mv X0.warmed.alike hh0
  have c1 : Steps p.tables e below (s₁.setTop (entryFrame m #[.ref d, .int (Int32.ofNat B.slots.size)] 2)) (s₁.setTop (mkF m 0 #[.val (.ref d), .val (.int (Int32.ofNat B.slots.size))] [])) := entry rfl
  have c2 : Steps p.tables e below (s₁.setTop (entryFrame m #[.ref d, .int (Int32.ofNat B.slots.size)] 2)) (s₁.setTop (mkF m 2 #[.val (.ref d), .val (.int (Int32.ofNat B.slots.size))] [.ref d, .int (Int32.ofNat B.slots.size)])) := c1.trans (by
    refine XS.iloadN X0.here hexec rfl (hb hbytes d0) rfl ?_
    refine XS.aloadN X0.here hexec rfl (hb hbytes d1) rfl rfl ?_
    exact Steps.refl _)
  have c3 : Steps p.tables e below (s₁.setTop (entryFrame m #[.ref d, .int (Int32.ofNat B.slots.size)] 2)) (s₁.setTop (mkF m 8 #[.val (.ref d), .val (.int (Int32.ofNat B.slots.size))] [.int (lo8 (ushr (Int32.ofNat B.slots.size - Int32.ofNat B.slots.size) 31))])) := c2.trans (by
    refine X0.alen hexec hB0 rfl rfl (hb hbytes d2) ?_
    refine XS.isub X0.here hexec rfl (hb hbytes d3) rfl ?_
    refine bipushV X0.here hexec rfl 31 (hb hbytes d4) (by decide) ?_
    refine iushr X0.here hexec rfl (hb hbytes d6) rfl ?_
    refine i2b X0.here hexec rfl (hb hbytes d7) rfl ?_
    exact Steps.refl _)
  have e0 : lo8 (ushr (Int32.ofNat B.slots.size - Int32.ofNat B.slots.size) 31) = 0 := by rw [Int32.sub_self]; decide
  rw [e0] at c3
  exact ⟨s₁, some (.int 0), _, _, _, X0, rfl, rfl, rfl, (fun h => by cases h), ⟨rfl, hh0⟩, fun fs hl => c3.trans (X0.ireturnOut hexec hret rfl (Or.inr (Or.inr (Or.inl rfl))) (hb hbytes d8) hl)⟩
end CodL
/-- the String at a is Latin-1 over a new byte[] (the heap's one new cell): the low bytes of the len chars of A from o on; every cell but a is kept -/
def Got (a : Addr) (D : Cell) (fV fC : Field) (A : Cell) (o len : Nat) (r : Option Value) (s u : State) : Prop := r = none ∧ ∃ D' V : Cell, Blank "java/lang/String" a D' u ∧ Same D D' [fV.slot, fC.slot] ∧ D'.slots[fV.slot]? = some (.ref s.heap.size) ∧ D'.slots[fC.slot]? = some (.int 0) ∧ Arr .byte s.heap.size V u ∧ V.vm = .none ∧ u.vm.findClass "[B" = some V.cls ∧ V.slots.size = len ∧ (∀ j, j < len → V.slots[j]? = some (.int (lo8 (cv A (o + j))))) ∧ (∀ (y : Addr) (c : Cell), y ≠ a → s.heap[y]? = some c → u.heap[y]? = some c) ∧ u.heap.size = s.heap.size + 1
theorem Got.mv {a : Addr} {D A : Cell} {fV fC : Field} {o len : Nat} : ∀ r (U U' V V' : State), U'.heap = U.heap → V.vm.Alike V'.vm → V'.heap = V.heap → Got a D fV fC A o len r U V → Got a D fV fC A o len r U' V' :=
  fun r U U' V V' h1 hal h2 ⟨e0, D', X, a1, a2, a3, a4, a5, a6, a7, a8, a9, a10, a11⟩ => ⟨e0, D', X, a1.mv hal h2, a2, by rw [h1]; exact a3, a4, by rw [h1]; exact a5.mv hal h2, a6, by rw [hal.findClass]; exact a7, a8, a9, by rw [h1, h2]; exact a10, by rw [h1, h2]; exact a11⟩
namespace New4
def yN : MethodName := ⟨"java/lang/String", "<init>", "([CIILjava/lang/Void;)V"⟩
abbrev yB : ByteArray := jdk_42_method_149_code
theorem d0 : decode yB 0 = .ok (.aload_n 0, 1) := by decide +kernel
theorem d1 : decode yB 1 = .ok (.invokespecial 1, 3) := by decide +kernel
theorem d4 : decode yB 4 = .ok (.iload_n 3, 1) := by decide +kernel
theorem d5 : decode yB 5 = .ok (.ifCond (.ne) 22, 3) := by decide +kernel
theorem d27 : decode yB 27 = .ok (.getstatic 38, 3) := by decide +kernel
theorem d30 : decode yB 30 = .ok (.ifCond (.eq) 28, 3) := by decide +kernel
theorem d33 : decode yB 33 = .ok (.aload_n 1, 1) := by decide +kernel
theorem d34 : decode yB 34 = .ok (.iload_n 2, 1) := by decide +kernel
theorem d35 : decode yB 35 = .ok (.iload_n 3, 1) := by decide +kernel
theorem d36 : decode yB 36 = .ok (.invokestatic 177, 3) := by decide +kernel
theorem d39 : decode yB 39 = .ok (.astore 5, 2) := by decide +kernel
theorem d41 : decode yB 41 = .ok (.aload_n 0, 1) := by decide +kernel
theorem d42 : decode yB 42 = .ok (.aload 5, 2) := by decide +kernel
theorem d44 : decode yB 44 = .ok (.iload_n 3, 1) := by decide +kernel
theorem d45 : decode yB 45 = .ok (.invokestatic 47, 3) := by decide +kernel
theorem d48 : decode yB 48 = .ok (.putfield 15, 3) := by decide +kernel
theorem d51 : decode yB 51 = .ok (.aload_n 0, 1) := by decide +kernel
theorem d52 : decode yB 52 = .ok (.aload 5, 2) := by decide +kernel
theorem d54 : decode yB 54 = .ok (.putfield 9, 3) := by decide +kernel
theorem d57 : decode yB 57 = .ok (.return_, 1) := by decide +kernel
def site : List Cond := [.fieldLink "java/lang/String" 38 "java/lang/String" "COMPACT_STRINGS" "Z", Cmp3.tab, CodL.tab, .laysFinal "java/lang/String" "java/lang/String" "value" "[B", .fieldLink "java/lang/String" 9 "java/lang/String" "value" "[B", .laysFinal "java/lang/String" "java/lang/String" "coder" "B", .fieldLink "java/lang/String" 15 "java/lang/String" "coder" "B"] ++ objW "java/lang/String" 1 ++ staticW "java/lang/String" 177 Cmp3.yN ++ staticW "java/lang/String" 47 CodL.yN
def tab : Cond := tabOf yN yB 6 none site
def P (a : Addr) (D : Cell) (fV fC : Field) (b : Addr) (A : Cell) (z : Int32) (o len : Nat) (args : Array Value) (s : State) : Prop := args = #[.ref a, .ref b, .int (Int32.ofNat o), .int (Int32.ofNat len), .null] ∧ Blank "java/lang/String" a D s ∧ Found "java/lang/String" "value" "[B" fV s ∧ Found "java/lang/String" "coder" "B" fC s ∧ Ch b A s ∧ StaticIs s "java/lang/String" "COMPACT_STRINGS" "Z" (.int z) ∧ ¬ z = 0 ∧ 0 < len ∧ o + len ≤ A.slots.size ∧ len ≤ 536870912 ∧ ∀ i, i < len → ¬ 255 < cv A (o + i)
def E (a : Addr) (D : Cell) (fV fC : Field) (A : Cell) (o len : Nat) (r : Option Value) (s u : State) : Prop := Got a D fV fC A o len r s u
/-- len > 0, no char of the range above 255: a Latin-1 String of their low bytes -/
theorem law (l : Launch) (a : Addr) (D : Cell) (fV fC : Field) (b : Addr) (A : Cell) (z : Int32) (o len : Nat) : Law l yN 5 4 2 35 yB 6 none site (P a D fV fC b A z o len) (E a D fV fC A o len) [⟨a, fC.slot⟩, ⟨a, fV.slot⟩] 1 len := by
  refine Law.of_walk (plainFor_of_name (by decide +kernel)) (by decide +kernel) (by decide +kernel) (by decide) (fun _ _ h => by rw [h.1]; rfl) (fun _ U U' hal hh h => ⟨h.1, h.2.1.mv hal hh, h.2.2.1.al hal, h.2.2.2.1.al hal, h.2.2.2.2.1.mv hal hh, h.2.2.2.2.2.1.there hal hh, h.2.2.2.2.2.2⟩) (fun r U U' V V' h1 hal h2 h => Got.mv r U U' V V' h1 hal h2 h) ?_
  intro p e s m args below meth c s₁ X0 hexec hbytes hml hret hlk hnm hown hh0 W hP
  obtain ⟨rfl, hB, f1, f2, hA, s1, hz, l0, l1, l2, hp⟩ := hP
  have a31 := hA.1.2.2.2
  have c1 : Steps p.tables e below (s₁.setTop (entryFrame m #[.ref a, .ref b, .int (Int32.ofNat o), .int (Int32.ofNat len), .null] 6)) (s₁.setTop (mkF m 0 #[.val (.ref a), .val (.ref b), .val (.int (Int32.ofNat o)), .val (.int (Int32.ofNat len)), .val .null, .unset] [])) := entry rfl
  have c2 : Steps p.tables e below (s₁.setTop (entryFrame m #[.ref a, .ref b, .int (Int32.ofNat o), .int (Int32.ofNat len), .null] 6)) (s₁.setTop (mkF m 1 #[.val (.ref a), .val (.ref b), .val (.int (Int32.ofNat o)), .val (.int (Int32.ofNat len)), .val .null, .unset] [.ref a])) := c1.trans (by
    refine XS.aloadN X0.here hexec rfl (hb hbytes d0) rfl rfl ?_
    exact Steps.refl _)
  obtain ⟨T3, X3, q3, st3⟩ := X0.oinit hexec hown (wks W (objW "java/lang/String" 1)) (g := (mkF m 1 #[.val (.ref a), .val (.ref b), .val (.int (Int32.ofNat o)), .val (.int (Int32.ofNat len)), .val .null, .unset] [.ref a])) rfl (by rw [hml]; rfl) (rest := []) rfl (hb hbytes d1) (W := 0) (by show 2 * 0 + 0 ≤ _; decide) (Nat.le_of_ble_eq_true rfl) (Nat.le_of_ble_eq_true rfl)
  have hh3 := q3.trans hh0
  have c4 : Steps p.tables e below (s₁.setTop (entryFrame m #[.ref a, .ref b, .int (Int32.ofNat o), .int (Int32.ofNat len), .null] 6)) (T3.setTop (mkF m 27 #[.val (.ref a), .val (.ref b), .val (.int (Int32.ofNat o)), .val (.int (Int32.ofNat len)), .val .null, .unset] [])) := (c2.trans (st3 _ (Steps.refl _))).trans (by
    refine XS.iloadN X3.here hexec rfl (hb hbytes d4) rfl ?_
    refine XS.ifYes X3.here hexec rfl (pc0 := 5) rfl (hb hbytes d5) rfl (i0_ne_t (nz32 (by omega) l0)) (by decide) rfl ?_
    exact Steps.refl _)
  obtain ⟨T5, X5, q5, st5⟩ := X3.sget hexec hown (wk W (.fieldLink "java/lang/String" 38 "java/lang/String" "COMPACT_STRINGS" "Z")) s1 (fun _ _ h => by rw [hh3]; exact h) (g := (mkF m 27 #[.val (.ref a), .val (.ref b), .val (.int (Int32.ofNat o)), .val (.int (Int32.ofNat len)), .val .null, .unset] [])) rfl (hb hbytes d27)
  have hh5 := q5.trans hh3
  have c6 : Steps p.tables e below (s₁.setTop (entryFrame m #[.ref a, .ref b, .int (Int32.ofNat o), .int (Int32.ofNat len), .null] 6)) (T5.setTop (mkF m 30 #[.val (.ref a), .val (.ref b), .val (.int (Int32.ofNat o)), .val (.int (Int32.ofNat len)), .val .null, .unset] [.int z])) := c4.trans (st5 _ (Steps.refl _))
  have c7 : Steps p.tables e below (s₁.setTop (entryFrame m #[.ref a, .ref b, .int (Int32.ofNat o), .int (Int32.ofNat len), .null] 6)) (T5.setTop (mkF m 36 #[.val (.ref a), .val (.ref b), .val (.int (Int32.ofNat o)), .val (.int (Int32.ofNat len)), .val .null, .unset] [.int (Int32.ofNat len), .int (Int32.ofNat o), .ref b])) := c6.trans (by
    refine XS.ifNo X5.here hexec rfl (hb hbytes d30) rfl (i0_eq_f hz) ?_
    refine XS.aloadN X5.here hexec rfl (hb hbytes d33) rfl rfl ?_
    refine XS.iloadN X5.here hexec rfl (hb hbytes d34) rfl ?_
    refine XS.iloadN X5.here hexec rfl (hb hbytes d35) rfl ?_
    exact Steps.refl _)
  obtain ⟨v8, T8, X8, E8, g8⟩ := X5.callS hexec (Cmp3.law l b A o len) hown (wks W (staticW "java/lang/String" 177 Cmp3.yN)) (wk W Cmp3.tab) (W := 0) (Nat.le_of_ble_eq_true rfl) (Nat.le_of_ble_eq_true rfl) (Nat.le_refl _) (by show 0 + len ≤ len; omega) (g := (mkF m 36 #[.val (.ref a), .val (.ref b), .val (.int (Int32.ofNat o)), .val (.int (Int32.ofNat len)), .val .null, .unset] [.int (Int32.ofNat len), .int (Int32.ofNat o), .ref b])) rfl (by rw [hml]; rfl) c7 (argsL := [.ref b, .int (Int32.ofNat o), .int (Int32.ofNat len)]) (rest := []) rfl rfl (by show 2 * 0 + 0 ≤ _; decide) (hb hbytes d36) (⟨rfl, hA.mv X5.warmed.alike hh5, l1, l2, hp⟩)
  obtain ⟨e8, z8⟩ := E8
  obtain ⟨rfl, N, n1, n2, n3, n4, n5, n6⟩ := NewArr.mv _ T5 s _ _ hh5.symm (Vm.Alike.refl _) rfl e8
  rw [hh5] at z8
  have hB1 := hB.keep X8.warmed.alike (n6 _ _ hB.1)
  have hne : s.heap.size ≠ a := (Nat.ne_of_lt (Array.getElem?_eq_some_iff.mp hB.1).1).symm
  have c9 : Steps p.tables e below (s₁.setTop (entryFrame m #[.ref a, .ref b, .int (Int32.ofNat o), .int (Int32.ofNat len), .null] 6)) (T8.setTop (mkF m 39 #[.val (.ref a), .val (.ref b), .val (.int (Int32.ofNat o)), .val (.int (Int32.ofNat len)), .val .null, .unset] [.ref s.heap.size])) := g8
  have c10 : Steps p.tables e below (s₁.setTop (entryFrame m #[.ref a, .ref b, .int (Int32.ofNat o), .int (Int32.ofNat len), .null] 6)) (T8.setTop (mkF m 45 #[.val (.ref a), .val (.ref b), .val (.int (Int32.ofNat o)), .val (.int (Int32.ofNat len)), .val .null, .val (.ref s.heap.size)] [.int (Int32.ofNat N.slots.size), .ref s.heap.size, .ref a])) := by
    have hc : Steps p.tables e below (s₁.setTop (entryFrame m #[.ref a, .ref b, .int (Int32.ofNat o), .int (Int32.ofNat len), .null] 6)) (T8.setTop (mkF m 45 #[.val (.ref a), .val (.ref b), .val (.int (Int32.ofNat o)), .val (.int (Int32.ofNat len)), .val .null, .val (.ref s.heap.size)] [.int (Int32.ofNat len), .ref s.heap.size, .ref a])) := c9.trans (by
      refine XS.astore X8.here hexec rfl (hb hbytes d39) rfl rfl rfl ?_
      refine XS.aloadN X8.here hexec rfl (hb hbytes d41) rfl rfl ?_
      refine XS.aload X8.here hexec rfl (hb hbytes d42) rfl rfl ?_
      refine XS.iloadN X8.here hexec rfl (hb hbytes d44) rfl ?_
      exact Steps.refl _)
    rw [n4]; exact hc
  obtain ⟨v11, T11, X11, E11, g11⟩ := X8.callS hexec (CodL.law l s.heap.size N) hown (wks W (staticW "java/lang/String" 47 CodL.yN)) (wk W CodL.tab) (W := 1) (Nat.le_of_ble_eq_true rfl) (Nat.le_of_ble_eq_true rfl) (Nat.le_refl _) (by show 0 + len + 0 ≤ len; omega) (g := (mkF m 45 #[.val (.ref a), .val (.ref b), .val (.int (Int32.ofNat o)), .val (.int (Int32.ofNat len)), .val .null, .val (.ref s.heap.size)] [.int (Int32.ofNat N.slots.size), .ref s.heap.size, .ref a])) rfl (by rw [hml]; rfl) c10 (argsL := [.ref s.heap.size, .int (Int32.ofNat N.slots.size)]) (rest := [.ref a]) rfl rfl (by show 2 * 0 + (1 + 0) ≤ _; decide) (hb hbytes d45) (⟨rfl, n1⟩)
  obtain ⟨rfl, q11⟩ := E11
  have hB11 := hB1.mv (X8.warmed.alike.symm.trans X11.warmed.alike) q11
  have c12 : Steps p.tables e below (s₁.setTop (entryFrame m #[.ref a, .ref b, .int (Int32.ofNat o), .int (Int32.ofNat len), .null] 6)) (T11.setTop (mkF m 48 #[.val (.ref a), .val (.ref b), .val (.int (Int32.ofNat o)), .val (.int (Int32.ofNat len)), .val .null, .val (.ref s.heap.size)] [.int 0, .ref a])) := g11
  obtain ⟨T13, X13, p13, bl13, sl13, st13⟩ := X11.finit hexec hown (wk W (.fieldLink "java/lang/String" 15 "java/lang/String" "coder" "B")) (Or.inr ⟨_, (wk W (.laysFinal "java/lang/String" "java/lang/String" "coder" "B"))⟩) (Or.inl ⟨rfl, hnm⟩) f2 (Or.inl rfl) hB11 (t := .byte) (by decide +kernel) rfl (g := (mkF m 48 #[.val (.ref a), .val (.ref b), .val (.int (Int32.ofNat o)), .val (.int (Int32.ofNat len)), .val .null, .val (.ref s.heap.size)] [.int 0, .ref a])) rfl (rest := []) rfl (hb hbytes d48)
  have c14 : Steps p.tables e below (s₁.setTop (entryFrame m #[.ref a, .ref b, .int (Int32.ofNat o), .int (Int32.ofNat len), .null] 6)) (T13.setTop (mkF m 54 #[.val (.ref a), .val (.ref b), .val (.int (Int32.ofNat o)), .val (.int (Int32.ofNat len)), .val .null, .val (.ref s.heap.size)] [.ref s.heap.size, .ref a])) := (c12.trans (st13 _ (Steps.refl _))).trans (by
    refine XS.aloadN X13.here hexec rfl (hb hbytes d51) rfl rfl ?_
    refine XS.aload X13.here hexec rfl (hb hbytes d52) rfl rfl ?_
    exact Steps.refl _)
  obtain ⟨T15, X15, p15, bl15, sl15, st15⟩ := X13.finit hexec hown (wk W (.fieldLink "java/lang/String" 9 "java/lang/String" "value" "[B")) (Or.inr ⟨_, (wk W (.laysFinal "java/lang/String" "java/lang/String" "value" "[B"))⟩) (Or.inl ⟨rfl, hnm⟩) f1 (Or.inl rfl) bl13 (t := (.array .byte)) (by decide +kernel) rfl (g := (mkF m 54 #[.val (.ref a), .val (.ref b), .val (.int (Int32.ofNat o)), .val (.int (Int32.ofNat len)), .val .null, .val (.ref s.heap.size)] [.ref s.heap.size, .ref a])) rfl (rest := []) rfl (hb hbytes d54)
  have c16 : Steps p.tables e below (s₁.setTop (entryFrame m #[.ref a, .ref b, .int (Int32.ofNat o), .int (Int32.ofNat len), .null] 6)) (T15.setTop (mkF m 57 #[.val (.ref a), .val (.ref b), .val (.int (Int32.ofNat o)), .val (.int (Int32.ofNat len)), .val .null, .val (.ref s.heap.size)] [])) := c14.trans (st15 _ (Steps.refl _))
  have ap := apart (Or.inr ⟨_, (wk W (.laysFinal "java/lang/String" "java/lang/String" "value" "[B"))⟩) (Or.inr ⟨_, (wk W (.laysFinal "java/lang/String" "java/lang/String" "coder" "B"))⟩) f1 f2 (t₁ := .array .byte) (t₂ := .byte) (by decide +kernel) (by decide +kernel) (by decide)
  have al := X8.warmed.alike.symm.trans X15.warmed.alike
  have n7 : T11.heap[s.heap.size]? = some N := by rw [q11]; exact n1.1
  exact ⟨T15, none, _, _, _, X15, by simp, rfl, by omega, (fun _ => rfl), ⟨rfl, _, N, bl15, ((Same.refl D _).set _ (by simp)).set _ (by simp), sl15, (Cell.slots_setSlot_ne _ ap).trans sl13, n1.keep al (p15.other hne (p13.other hne n7)), n2, by rw [al.findClass]; exact n3, n4, n5, fun y c h1 h2 => p15.other h1 (p13.other h1 (by rw [q11]; exact n6 y c h2)), by rw [p15.2.2, p13.2.2, q11]; exact z8⟩, fun fs hl => c16.trans (X15.returnOut hexec hret (hb hbytes d57) hl)⟩
end New4
namespace New1
def yN : MethodName := ⟨"java/lang/String", "<init>", "([C)V"⟩
abbrev yB : ByteArray := jdk_42_method_3_code
theorem d0 : decode yB 0 = .ok (.aload_n 0, 1) := by decide +kernel
theorem d1 : decode yB 1 = .ok (.aload_n 1, 1) := by decide +kernel
theorem d2 : decode yB 2 = .ok (.iconst 0, 1) := by decide +kernel
theorem d3 : decode yB 3 = .ok (.aload_n 1, 1) := by decide +kernel
theorem d4 : decode yB 4 = .ok (.arraylength, 1) := by decide +kernel
theorem d5 : decode yB 5 = .ok (.aconst_null, 1) := by decide +kernel
theorem d6 : decode yB 6 = .ok (.invokespecial 27, 3) := by decide +kernel
theorem d9 : decode yB 9 = .ok (.return_, 1) := by decide +kernel
def site : List Cond := [New4.tab] ++ initW "java/lang/String" 27 New4.yN
def tab : Cond := tabOf yN yB 2 none site
def P (a : Addr) (D : Cell) (fV fC : Field) (b : Addr) (A : Cell) (z : Int32) (args : Array Value) (s : State) : Prop := args = #[.ref a, .ref b] ∧ Blank "java/lang/String" a D s ∧ Found "java/lang/String" "value" "[B" fV s ∧ Found "java/lang/String" "coder" "B" fC s ∧ Ch b A s ∧ StaticIs s "java/lang/String" "COMPACT_STRINGS" "Z" (.int z) ∧ ¬ z = 0 ∧ 0 < A.slots.size ∧ A.slots.size ≤ 536870912 ∧ ∀ i, i < A.slots.size → ¬ 255 < cv A i
def E (a : Addr) (D : Cell) (fV fC : Field) (A : Cell) (r : Option Value) (s u : State) : Prop := Got a D fV fC A 0 A.slots.size r s u
/-- new String(chars), not empty, no char above 255: a Latin-1 String of their low bytes -/
theorem law (l : Launch) (a : Addr) (D : Cell) (fV fC : Field) (b : Addr) (A : Cell) (z : Int32) : Law l yN 2 1 3 52 yB 2 none site (P a D fV fC b A z) (E a D fV fC A) [⟨a, fC.slot⟩, ⟨a, fV.slot⟩] 1 A.slots.size := by
  refine Law.of_walk (plainFor_of_name (by decide +kernel)) (by decide +kernel) (by decide +kernel) (by decide) (fun _ _ h => by rw [h.1]; rfl) (fun _ U U' hal hh h => ⟨h.1, h.2.1.mv hal hh, h.2.2.1.al hal, h.2.2.2.1.al hal, h.2.2.2.2.1.mv hal hh, h.2.2.2.2.2.1.there hal hh, h.2.2.2.2.2.2⟩) (fun r U U' V V' h1 hal h2 h => Got.mv r U U' V V' h1 hal h2 h) ?_
  intro p e s m args below meth c s₁ X0 hexec hbytes hml hret hlk hnm hown hh0 W hP
  obtain ⟨rfl, hB, f1, f2, hA, s1, hz, l0, l2, hp⟩ := hP
  have c1 : Steps p.tables e below (s₁.setTop (entryFrame m #[.ref a, .ref b] 2)) (s₁.setTop (mkF m 0 #[.val (.ref a), .val (.ref b)] [])) := entry rfl
  have c2 : Steps p.tables e below (s₁.setTop (entryFrame m #[.ref a, .ref b] 2)) (s₁.setTop (mkF m 6 #[.val (.ref a), .val (.ref b)] [.null, .int (Int32.ofNat A.slots.size), .int 0, .ref b, .ref a])) := c1.trans (by
    refine XS.aloadN X0.here hexec rfl (hb hbytes d0) rfl rfl ?_
    refine XS.aloadN X0.here hexec rfl (hb hbytes d1) rfl rfl ?_
    refine iconstV X0.here hexec rfl 0 (hb hbytes d2) (by decide) ?_
    refine XS.aloadN X0.here hexec rfl (hb hbytes d3) rfl rfl ?_
    refine X0.alen hexec (hA.1.mv X0.warmed.alike hh0) rfl rfl (hb hbytes d4) ?_
    refine XS.aconstNull X0.here hexec rfl (hb hbytes d5) ?_
    exact Steps.refl _)
  obtain ⟨v3, T3, X3, E3, g3⟩ := X0.callN hexec (New4.law l a D fV fC b A z 0 A.slots.size) rfl hown (wks W (initW "java/lang/String" 27 New4.yN)) (W New4.tab (by simp only [site, List.mem_cons, List.mem_append, true_or, or_true])) (W := 0) (Nat.le_of_ble_eq_true rfl) (Nat.le_of_ble_eq_true rfl) (Nat.le_refl _) (by show 0 + A.slots.size ≤ A.slots.size; omega) (g := (mkF m 6 #[.val (.ref a), .val (.ref b)] [.null, .int (Int32.ofNat A.slots.size), .int (Int32.ofNat 0), .ref b, .ref a])) rfl (by rw [hml]; rfl) c2 (argsL := [.ref b, .int (Int32.ofNat 0), .int (Int32.ofNat A.slots.size), .null]) (rest := []) rfl rfl (by show 2 * 0 + 0 ≤ _; decide) (hb hbytes d6) (⟨rfl, hB.mv X0.warmed.alike hh0, f1.al X0.warmed.alike, f2.al X0.warmed.alike, hA.mv X0.warmed.alike hh0, s1.there X0.warmed.alike hh0, hz, l0, by omega, l2, fun i hi => by rw [Nat.zero_add]; exact hp i hi⟩)
  have e0 := Got.mv _ s₁ s _ _ hh0.symm (Vm.Alike.refl _) rfl E3
  obtain rfl := e0.1
  have c4 : Steps p.tables e below (s₁.setTop (entryFrame m #[.ref a, .ref b] 2)) (T3.setTop (mkF m 9 #[.val (.ref a), .val (.ref b)] [])) := g3
  exact ⟨T3, none, _, _, _, X3, by simp, rfl, by omega, (fun _ => rfl), e0, fun fs hl => c4.trans (X3.returnOut hexec hret (hb hbytes d9) hl)⟩
theorem pays {l : Launch} {R : Room} {p : Program} {e : Env} {below : List Frame} {s : State} {sargs : Array Value} {len W : Nat} (a : Addr) (D : Cell) (fV fC : Field) (b : Addr) (A : Cell) (z : Int32) (htab : tab.before sargs s = true) (hfr : 4 ≤ R.frames) (hlo : W + 65 ≤ R.locals) :
    Back l R p e below s sargs yN len W (fun A₁ a₁ => A₁.cells + 1 ≤ R.cells ∧ A₁.slots + A.slots.size ≤ R.slots ∧ P a D fV fC b A z a₁ A₁.U) (fun A₁ _ v₁ B₁ => E a D fV fC A v₁ A₁.U B₁.U ∧ B₁.locs = A₁.locs ++ [⟨a, fC.slot⟩, ⟨a, fV.slot⟩] ∧ B₁.cells = A₁.cells + 1 ∧ B₁.slots = A₁.slots + A.slots.size) :=
  (law l a D fV fC b A z).pays htab hfr (by omega)
end New1
end StrChars
namespace StrChars.Road
open Jvm Sem ClassFile Op Lib Jvm.Stand Jvm.Free Jvm.Free.XT
open Jvm.Lib.Cold (StaticIs)
abbrev ST : String := "java/lang/String"
/-- every table word that New1's law asks, flat -/
abbrev words : List Jvm.Cond := [.code New1.yN New1.yB 2 none, .initialized ST, .methodLink ST 27 New4.yN, .instanceMethod New4.yN,
  .code New4.yN New4.yB 6 none, .fieldLink ST 38 ST "COMPACT_STRINGS" "Z", .laysFinal ST ST "value" "[B", .fieldLink ST 9 ST "value" "[B", .laysFinal ST ST "coder" "B", .fieldLink ST 15 ST "coder" "B",
  .methodLink ST 1 Lib.objectInit, .instanceMethod Lib.objectInit, .code Lib.objectInit ⟨#[0xb1]⟩ 1 none, .methodLink ST 177 Cmp3.yN, .static Cmp3.yN, .methodLink ST 47 CodL.yN, .static CodL.yN,
  .code Cmp3.yN Cmp3.yB 6 (some (.array .byte)), .initialized U16, .arrayClass .byte, .methodLink U16 115 Cmp5.yN, .static Cmp5.yN, .code Cmp5.yN Cmp5.yB 7 (some .int), .code CodL.yN CodL.yB 2 (some .byte)]
theorem tab_of {a : Array Value} {s : State} (h : ∀ w ∈ words, w.before a s = true) : New1.tab.before a s = true := by
  have h5 : Cmp5.tab.before a s = true := unparts (wk h (.code Cmp5.yN Cmp5.yB 7 (some .int))) (wks h (.initialized Cmp5.yN.cls :: Cmp5.site))
  have hc : CodL.tab.before a s = true := unparts (wk h (.code CodL.yN CodL.yB 2 (some .byte))) (wks h (.initialized CodL.yN.cls :: CodL.site))
  have q5 : ∀ w ∈ Cmp5.tab :: words, w.before a s = true := fun w hw => (List.mem_cons.mp hw).elim (fun e => e ▸ h5) (h w)
  have h3 : Cmp3.tab.before a s = true := unparts (wk q5 (.code Cmp3.yN Cmp3.yB 6 (some (.array .byte)))) (wks q5 (.initialized Cmp3.yN.cls :: Cmp3.site))
  have q3 : ∀ w ∈ Cmp3.tab :: CodL.tab :: words, w.before a s = true := fun w hw => (List.mem_cons.mp hw).elim (fun e => e ▸ h3) fun hw => (List.mem_cons.mp hw).elim (fun e => e ▸ hc) (h w)
  have h4 : New4.tab.before a s = true := unparts (wk q3 (.code New4.yN New4.yB 6 none)) (wks q3 (.initialized New4.yN.cls :: New4.site))
  have q4 : ∀ w ∈ New4.tab :: words, w.before a s = true := fun w hw => (List.mem_cons.mp hw).elim (fun e => e ▸ h4) (h w)
  exact unparts (wk q4 (.code New1.yN New1.yB 2 none)) (wks q4 (.initialized New1.yN.cls :: New1.site))
/-- the words ride from the start Z to the walk's own state -/
theorem moved {Z s : State} {a0 args : Array Value} (hZ : Z.Warmed39 s.vm) (hw : ∀ d ∈ words, d.before a0 Z = true) : ∀ d ∈ words, d.before args s = true := fun d hd => by
  have q := hw d hd
  have t : ∀ d ∈ words, d = .arrayClass .byte ∨ (d.onTables && d.keepsFace) = true := by decide +kernel
  rcases t d hd with rfl | t
  · exact RoadKit.mvA hZ q
  · exact RoadKit.mv hZ q t
/-- WHAT COMES BACK, over the tables of the start Z: h the heap at the call, h' behind it -/
def Q (Z : State) (x : Addr) (A : Cell) (h : Heap) (v : Option Value) (h' : Heap) (L : List Loc) : Prop := v = none ∧ (∀ y ∈ L, y.base = x) ∧ RoadKit.Keep h h' [x] ∧ h'.size = h.size + 1 ∧ RoadKit.Exa Z h' x ST ∧ RoadKit.Fld Z h' x ST "value" "[B" (.ref h.size) ∧ RoadKit.Fld Z h' x ST "coder" "B" (.int 0) ∧
  (∃ V : Cell, RoadKit.Arr Z h' h.size V .byte ∧ V.vm = .none ∧ Z.vm.findClass "[B" = some V.cls ∧ V.slots.size = A.slots.size ∧ ∀ j, j < A.slots.size → V.slots[j]? = some (.int (lo8 (cv A j)))) ∧
  ∀ (O n d : String) (w : Value), RoadKit.Fld Z h x O n d w → RoadKit.slotOf Z O n d ≠ RoadKit.slotOf Z ST "value" "[B" → RoadKit.slotOf Z O n d ≠ RoadKit.slotOf Z ST "coder" "B" → RoadKit.Fld Z h' x O n d w
/-- **new String(chars) AT A CALL, IN THE ROAD'S FORM**: for specialBack behind newO: x the fresh String, b the char[] with the cell A -/
theorem back {p : Program} {l : Launch} {e : Env} {R : Room} {s : State} {args : Array Value} {below : List Frame} {len W : Nat} {Z : State} {a0 : Array Value} {h : Heap} (hZ : Z.Warmed39 s.vm) (hw : ∀ d ∈ words, d.before a0 Z = true) {kI : Nat} (wi : (Jvm.Cond.instantiable ST kI).before a0 Z = true)
    {x b : Addr} {A : Cell} {z : Int32} {v0 c0 : Value} (E : RoadKit.Exa Z h x ST) (V : RoadKit.Fld Z h x ST "value" "[B" v0) (C : RoadKit.Fld Z h x ST "coder" "B" c0) (K : RoadKit.Arr Z h b A .char) (hty : Typed .char A) (S : RoadKit.Sta Z h ST "COMPACT_STRINGS" "Z" (.int z)) (hz : ¬ z = 0)
    (l0 : 0 < A.slots.size) (l2 : A.slots.size ≤ 536870912) (hp : ∀ i, i < A.slots.size → ¬ 255 < cv A i) (hfr : 4 ≤ R.frames) (hlo : W + 65 ≤ R.locals) :
    Back l R p e below s args New1.yN len W (fun P a => a = #[.ref x, .ref b] ∧ P.U.heap = h ∧ P.cells + 1 ≤ R.cells ∧ P.slots + A.slots.size ≤ R.slots)
      (fun P _ v B => ∃ L, Q Z x A h v B.U.heap L ∧ B.locs = P.locs ++ L ∧ B.cells = P.cells + 1 ∧ B.slots = P.slots + A.slots.size) := by
  intro m meth c P g ig mk a X hg hsize hdg hW hn hp'
  obtain ⟨rfl, rfl, r1, r2⟩ := hp'
  have al : Z.vm.Alike P.U.vm := hZ.alike.trans X.warmed.alike
  obtain ⟨D, cfV, kV, iV, fV, hD, gV, stV, knV, obV, asV, slV⟩ := id V
  obtain ⟨D', cfC, kC, iC, fC, hD', gC, stC, -, -, asC, slC⟩ := id C
  cases hD.symm.trans hD'
  obtain ⟨D2, kD, e1, e2, e3, e4, e5⟩ := id E
  cases hD.symm.trans e1
  obtain ⟨c2, k2, i1, i2, i3, -⟩ := Cond.instantiable_spec wi
  cases e2.symm.trans i1
  cases e3.symm.trans i2
  obtain ⟨kU, u1, u2⟩ := al.2.2 _ _ e3
  have hB : Blank ST x D P.U := ⟨hD, ⟨knV, fun q hq => by rw [hq] at obV; cases obV⟩, by rw [al.findClass]; exact e2, kU, u1, by rw [u2]; exact i3, by rw [u2]; exact e5 i3⟩
  have F1 : Found ST "value" "[B" fV P.U := ⟨SBG.found_only al ⟨cfV, kV, iV, gV⟩, stV⟩
  have F2 : Found ST "coder" "B" fC P.U := ⟨SBG.found_only al ⟨cfC, kC, iC, gC⟩, stC⟩
  have hA : Ch b A P.U := ⟨⟨K.1, State.isArrayOf_alike al K.2.1, K.2.2, by omega⟩, hty⟩
  have hS : StaticIs P.U ST "COMPACT_STRINGS" "Z" (.int z) := by
    obtain ⟨cfS, iS, kS, fS, st, cS, t1, t2, t3, t4, t5, t6, t7⟩ := S
    exact StaticIs.there (s := { Z with heap := P.U.heap }) ⟨cfS, iS, kS, fS, st, cS, t1, t2, t3, t4, t5, (fun q => by rw [q] at t6; cases t6), t7⟩ al rfl
  obtain ⟨v, B, X', ⟨⟨hv, E', V', q1, q2, q3, q4, q5, q6, q7, q8, q9, q10, q11⟩, hl, hc, hs⟩, st⟩ := New1.pays x D fV fC b A z (tab_of (moved hZ hw)) hfr hlo m meth c P g ig mk _ X hg hsize hdg hW hn ⟨r1, r2, rfl, hB, F1, F2, hA, hS, hz, l0, l2, hp⟩
  have al' : Z.vm.Alike B.U.vm := hZ.alike.trans X'.warmed.alike
  have hsz : E'.slots.size = D.slots.size := by
    obtain ⟨-, -, -, kB, w1, w2, w3⟩ := q1
    obtain ⟨kB', y1, y2⟩ := al'.2.2 _ _ e3
    rw [q2.2.1] at w1
    cases w1.symm.trans y1
    rw [w3, e5 i3, y2]
  refine ⟨v, B, X', ⟨_, ⟨hv, ?_, ⟨by omega, fun y cy hy hn' => q10 y cy (by simpa using hn') hy, fun y cy hy => ?_⟩, q11, ⟨E', _, q1.1, by rw [q2.2.1]; exact e2, by rw [q2.2.1]; exact e3, by rw [q2.1]; exact obV, fun _ => by rw [hsz]; exact e5 i3⟩,
    ⟨E', cfV, kV, iV, fV, q1.1, gV, stV, by rw [q2.1]; exact knV, by rw [q2.1]; exact obV, by rw [q2.2.1]; exact asV, q3⟩, ⟨E', cfC, kC, iC, fC, q1.1, gC, stC, by rw [q2.1]; exact knV, by rw [q2.1]; exact obV, by rw [q2.2.1]; exact asC, q4⟩,
    ⟨V', ⟨q5.1, State.isArrayOf_alike al'.symm q5.2.1, q5.2.2.1⟩, q6, by rw [← al'.findClass]; exact q7, q8, fun j hj => by have := q9 j hj; rwa [Nat.zero_add] at this⟩, fun O n d w F n1 n2 => ?_⟩, hl, hc, hs⟩, st⟩
  · intro y hy
    simp only [List.mem_cons, List.not_mem_nil, or_false] at hy
    rcases hy with rfl | rfl <;> rfl
  · by_cases q : y = x
    · subst q
      cases hD.symm.trans hy
      exact ⟨E', q1.1, q2.2.1, q2.1, hsz⟩
    · exact ⟨cy, q10 y cy q hy, rfl, rfl, rfl⟩
  · obtain ⟨D3, cf, k, i, f, g1, g2, g3, g4, g5, g6, g7⟩ := F
    cases hD.symm.trans g1
    simp only [RoadKit.slotOf, g2, gV, gC, Option.map_some, Option.getD_some] at n1 n2
    exact ⟨E', cf, k, i, f, q1.1, g2, g3, by rw [q2.1]; exact g4, by rw [q2.1]; exact g5, by rw [q2.2.1]; exact g6, by rw [q2.2.2 f.slot (by simp [n1, n2])]; exact g7⟩
end StrChars.Road
namespace StrChars.Road
open Jvm Sem ClassFile Op Lib Jvm.Stand Jvm.Free Jvm.Free.XT
/-- WHAT COMES BACK, the byte[] as a list of values -/
def QA (Z : State) (x : Addr) (zn : Int32) (cs : List Int32) (h : Heap) (v : Option Value) (h' : Heap) (L : List Loc) : Prop := v = none ∧ (∀ y ∈ L, y.base = x) ∧ RoadKit.Keep h h' [x] ∧ h'.size = h.size + 1 ∧ RoadKit.Exa Z h' x ST ∧ RoadKit.Fld Z h' x ST "value" "[B" (.ref h.size) ∧ RoadKit.Fld Z h' x ST "coder" "B" (.int 0) ∧
  (∃ kb, Z.vm.findClass "[B" = some kb ∧ RoadKit.Arv Z h' h.size kb .byte zn (cs.map fun c => .int (lo8 c)) (.int 0)) ∧
  ∀ (O n d : String) (w : Value), RoadKit.Fld Z h x O n d w → RoadKit.slotOf Z O n d ≠ RoadKit.slotOf Z ST "value" "[B" → RoadKit.slotOf Z O n d ≠ RoadKit.slotOf Z ST "coder" "B" → RoadKit.Fld Z h' x O n d w
/-- **new String(chars) AT A CALL, THE ARRAYS AS LISTS**: the char[] at b holds cs, not empty, no char above 255 -/
theorem backArv {p : Program} {l : Launch} {e : Env} {R : Room} {s : State} {args : Array Value} {below : List Frame} {len W : Nat} {Z : State} {a0 : Array Value} {h : Heap} (hZ : Z.Warmed39 s.vm) (hw : ∀ d ∈ words, d.before a0 Z = true) {kI : Nat} (wi : (Jvm.Cond.instantiable ST kI).before a0 Z = true)
    {x b : Addr} {k : ClassId} {zn z : Int32} {cs : List Int32} {dv v0 c0 : Value} (E : RoadKit.Exa Z h x ST) (V : RoadKit.Fld Z h x ST "value" "[B" v0) (C : RoadKit.Fld Z h x ST "coder" "B" c0) (K : RoadKit.Arv Z h b k .char zn (cs.map Value.int) dv) (S : RoadKit.Sta Z h ST "COMPACT_STRINGS" "Z" (.int z)) (hz : ¬ z = 0)
    (hlen : zn.toNatClampNeg = cs.length) (h0 : 0 < cs.length) (hbig : cs.length ≤ 536870912) (hall : ∀ c ∈ cs, ¬ 255 < c) (hfr : 4 ≤ R.frames) (hlo : W + 65 ≤ R.locals) :
    Back l R p e below s args New1.yN len W (fun P a => a = #[.ref x, .ref b] ∧ P.U.heap = h ∧ P.cells + 1 ≤ R.cells ∧ P.slots + cs.length ≤ R.slots)
      (fun P _ v B => ∃ L, QA Z x zn cs h v B.U.heap L ∧ B.locs = P.locs ++ L ∧ B.cells = P.cells + 1 ∧ B.slots = P.slots + cs.length) := by
  obtain ⟨A, K1, K2, K3, K4, K5, K6⟩ := K
  have e : A.slots.size = cs.length := K3.trans hlen
  have hat : ∀ (i : Nat) (hi : i < cs.length), A.slots[i]? = some (.int cs[i]) := fun i hi => by rw [K5 i (by omega)]; simp [List.getD_eq_getElem?_getD, hi]
  have hcv : ∀ (i : Nat) (hi : i < cs.length), cv A i = cs[i] := fun i hi => by unfold cv; rw [hat i hi]
  have hty : Typed .char A := fun i v hv => by
    have hi : i < A.slots.size := (Array.getElem?_eq_some_iff.mp hv).1
    have q := K5 i hi
    rw [hv] at q
    rw [Option.some.inj q]
    exact K6 i hi
  refine Back.mono (back hZ hw wi E V C K1 hty S hz (by omega) (by omega) (fun i hi => by rw [hcv i (by omega)]; exact hall _ (List.getElem_mem _)) hfr hlo) (fun P a hp => ⟨hp.1, hp.2.1, hp.2.2.1, by rw [e]; exact hp.2.2.2⟩) (fun P a v B hp hq => ?_)
  obtain ⟨L, ⟨q1, q2, q3, q4, q5, q6, q7, ⟨V', v1, v2, v3, v4, v5⟩, q9⟩, hl, hc, hs⟩ := hq
  refine ⟨L, ⟨q1, q2, q3, q4, q5, q6, q7, ⟨V'.cls, v3, V', v1, rfl, by rw [v4, e, hlen], K4, fun i hi => ?_, fun i hi => ?_⟩, q9⟩, hl, hc, by rw [hs, e]⟩
  · have hi' : i < cs.length := by omega
    rw [v5 i (by omega), hcv i hi']; simp [List.getD_eq_getElem?_getD, hi']
  · have hi' : i < cs.length := by omega
    simp only [List.getD_eq_getElem?_getD, List.getElem?_map, List.getElem?_eq_getElem hi', Option.map_some, Option.getD_some]
    exact fits_lo8 _
end StrChars.Road
namespace StrChars.Road
open Jvm Sem ClassFile Op Lib Jvm.Stand Jvm.Free Jvm.Free.XT
/-- WHAT COMES BACK, in the writer's own shape -/
def QV (Z : State) (x : Addr) (N : Int32) (bs : List Int32) (h : Heap) (n0 : Nat) (v : Option Value) (h' : Heap) (L : List Loc) : Prop := v = none ∧ RoadKit.Fr n0 L ∧ RoadKit.Keep h h' [x] ∧ RoadKit.Exa Z h' x ST ∧ RoadKit.Fld Z h' x ST "coder" "B" (.int 0) ∧
  ∃ (t : Addr) (kb : ClassId), n0 ≤ t ∧ h.size ≤ t ∧ ¬ t = x ∧ RoadKit.Fld Z h' x ST "value" "[B" (.ref t) ∧ RoadKit.Arv Z h' t kb .byte N (bs.map Value.int) (.int 0)
/-- **new String(chars) AT A CALL, FOR THE WRITER**: a char[] of n known ints, each 0 to 255 -/
theorem backV {p : Program} {l : Launch} {e : Env} {R : Room} {s : State} {args : Array Value} {below : List Frame} {len W : Nat} {Z : State} {a0 : Array Value} {h : Heap} (hZ : Z.Warmed39 s.vm) (hw : ∀ d ∈ words, d.before a0 Z = true) {kI : Nat} (wi : (Jvm.Cond.instantiable ST kI).before a0 Z = true)
    {x b : Addr} {kC : ClassId} {cs bs : List Int32} {d v0 c0 : Value} {z N : Int32} {n n0 : Nat} (hx0 : n0 ≤ x) (hh0 : n0 ≤ h.size) (E : RoadKit.Exa Z h x ST) (V : RoadKit.Fld Z h x ST "value" "[B" v0) (C : RoadKit.Fld Z h x ST "coder" "B" c0) (K : RoadKit.Arv Z h b kC .char N (cs.map Value.int) d) (S : RoadKit.Sta Z h ST "COMPACT_STRINGS" "Z" (.int z)) (hz : ¬ z = 0)
    (hn : cs.length = n) (hN : N = Int32.ofNat n) (l0 : 0 < n) (l2 : n ≤ 4000) (hp : ∀ c ∈ cs, ¬ c < 0 ∧ ¬ (255 : Int32) < c) (hb : bs = cs.map (fun c => c.toInt8.toInt32)) (hfr : 4 ≤ R.frames) (hlo : W + 65 ≤ R.locals) :
    Back l R p e below s args (⟨"java/lang/String", "<init>", "([C)V"⟩ : MethodName) len W (fun P a => a = #[.ref x, .ref b] ∧ P.U.heap = h ∧ P.cells + 1 ≤ R.cells ∧ P.slots + n ≤ R.slots)
      (fun P _ v B => ∃ L, QV Z x N bs h n0 v B.U.heap L ∧ B.locs = P.locs ++ L ∧ B.cells = P.cells + 1 ∧ B.slots = P.slots + n) := by
  subst hn hN hb
  refine Back.mono (backArv hZ hw wi E V C K S hz (n32 (by omega)) l0 (by omega) (fun c hc => (hp c hc).2) hfr hlo) (fun P a hp => hp) (fun P a v B hp hq => ?_)
  obtain ⟨L, ⟨q1, q2, q3, q4, q5, q6, q7, ⟨kb, v1, v2⟩, q9⟩, hl, hc, hs⟩ := hq
  exact ⟨L, ⟨q1, fun y hy => by rw [q2 y hy]; exact hx0, q3, q5, q7, h.size, kb, hh0, Nat.le_refl _, Nat.ne_of_gt E.lt, q6, by rw [List.map_map]; exact v2⟩, hl, hc, hs⟩
end StrChars.Road
end Jvm.Pilot.@@N@@
namespace Jvm.Pilot.@@N@@
open Jvm Jvm.ClassFile Sem Op Lib Jvm.Free Jvm.Stand Jvm.LawKit Jvm.RoadKit Bundle Jvm.Pilot.@@N@@.Jvm.D
def Hw (a0 : Array Value) (Z : State) : Prop := ∀ d ∈ tables_1, d.before a0 Z = true
theorem hSA {a0 : Array Value} {Z : State} (hw : Hw a0 Z) : ∀ d ∈ Bundle.stringAtoms, d.before a0 Z = true := fun d hd => hw d ((by decide +kernel : ∀ d ∈ Bundle.stringAtoms, d ∈ tables_1) d hd)
def ELs : List (String × Nat) := []
/-- a Latin-1 String of the chars cs: its bytes lie at t -/
def St (Z : State) (h : Heap) (x t : Addr) (cs : List Int32) : Prop := Exa Z h x "java/lang/String" ∧ Fld Z h x "java/lang/String" "coder" "B" (.int 0) ∧ Fld Z h x "java/lang/String" "value" "[B" (.ref t) ∧ Ia Z h t .byte (cs.map fun c => c.toInt8.toInt32) ∧ ∀ c ∈ cs, ¬ c < 0 ∧ ¬ (255 : Int32) < c
theorem St.keep {Z : State} {h h' : Heap} {x t : Addr} {cs : List Int32} {ws : List Addr} (S : St Z h x t cs) (K : Keep h h' ws) (q : x ∉ ws) (q' : t ∉ ws) : St Z h' x t cs := ⟨S.1.keep K, S.2.1.keep K q, S.2.2.1.keep K q, S.2.2.2.1.keep K q', S.2.2.2.2⟩
theorem St.keep0 {Z : State} {h h' : Heap} {x t : Addr} {cs : List Int32} (S : St Z h x t cs) (K : Keep h h' []) : St Z h' x t cs := S.keep K nin0 nin0
theorem St.lt {Z : State} {h : Heap} {x t : Addr} {cs : List Int32} (S : St Z h x t cs) : x < h.size := S.1.lt
/-- what new String(char[]) leaves: the String x, its bytes at the new array t -/
def Qs (Z : State) (x : Addr) (cs : List Int32) (h h0 : Heap) (ws : List Addr) (v : Option Value) (h' : Heap) (L : List Loc) : Prop := v = none ∧ Nw h0 ws L ∧ Keep h h' [x] ∧ ∃ t, h.size ≤ t ∧ St Z h' x t cs
theorem bk_str {l : Launch} {Z : State} {n0 : Nat} {R : Room} {h0 h : Heap} {ws : List Addr} {a0 : Array Value} {W kI : Nat} (hws : ∀ d ∈ StrChars.Road.words, d.before a0 Z = true) (wi : (Jvm.Cond.instantiable "java/lang/String" kI).before a0 Z = true)
    {x b : Addr} {cs : List Int32} {v0 c0 : Value} {z : Int32} {len : Nat} (hx : h0.size ≤ x) (E : Exa Z h x "java/lang/String") (V : Fld Z h x "java/lang/String" "value" "[B" v0) (C : Fld Z h x "java/lang/String" "coder" "B" c0) (A : Ia Z h b .char cs) (S : Sta Z Z.heap "java/lang/String" "COMPACT_STRINGS" "Z" (.int z)) (hz : ¬ z = 0)
    (hl : cs.length = len) (l0 : 0 < len) (l2 : len ≤ 4000) (hp : ∀ c ∈ cs, ¬ c < 0 ∧ ¬ (255 : Int32) < c) (hfr : 4 ≤ R.frames) (hlo : W + 65 ≤ R.locals) :
    Bk l Z n0 R h0 ws h (⟨"java/lang/String", "<init>", "([C)V"⟩ : MethodName) W 1 len #[.ref x, .ref b] (Qs Z x cs h h0 ws) := fun p e below s args hZ ho hk => by
  obtain ⟨kA, Av⟩ := A.arv
  refine Back.mono (StrChars.Road.backV hZ hws wi (cs := cs) (bs := cs.map fun c => c.toInt8.toInt32) (n := len) (n0 := h0.size) hx hk.1 E V C Av (S.ext ho.2) hz hl (by rw [hl]) l0 l2 hp rfl hfr hlo) (fun P a hp => hp) (fun P a v B _ hq => ?_)
  obtain ⟨L, ⟨q1, q2, q3, q4, q5, t, kb, q6, q7, q8, q9, q10⟩, hl', hc, hs⟩ := hq
  refine ⟨L, ⟨q1, fun y hy => Or.inr (q2 y hy), q3, t, q7, q4, q5, q9, ia_of q10 rfl ?_, hp⟩, hl', hc, hs⟩
  rw [List.length_map, hl, Int32.toNatClampNeg, Int32.toInt_ofNat_of_lt (by omega)]; rfl
theorem low8 (x : Int32) : ¬ nar .char ((x &&& (255 : Int32)).toUInt32.toUInt16.toUInt32.toInt32) < 0 ∧ ¬ (255 : Int32) < nar .char ((x &&& (255 : Int32)).toUInt32.toUInt16.toUInt32.toInt32) := by
  have h1 := c_mask x 255 8 (by decide) (by decide)
  have h2 := c_i2c (x &&& 255)
  have h3 := c_i2c ((x &&& 255).toUInt32.toUInt16.toUInt32.toInt32)
  have e1 : (255 : Int32).toInt = 255 := by decide
  have e2 : (0 : Int32).toInt = 0 := by decide
  show ¬ ((x &&& (255 : Int32)).toUInt32.toUInt16.toUInt32.toInt32).toUInt32.toUInt16.toUInt32.toInt32 < 0 ∧ ¬ (255 : Int32) < ((x &&& (255 : Int32)).toUInt32.toUInt16.toUInt32.toInt32).toUInt32.toUInt16.toUInt32.toInt32
  rw [Int32.lt_iff_toInt_lt, Int32.lt_iff_toInt_lt, e1, e2]
  omega
theorem low8' (x : Int32) : ¬ (x &&& (255 : Int32)).toUInt32.toUInt16.toUInt32.toInt32 < 0 ∧ ¬ (255 : Int32) < (x &&& (255 : Int32)).toUInt32.toUInt16.toUInt32.toInt32 := by
  have h1 := c_mask x 255 8 (by decide) (by decide)
  have h2 := c_i2c (x &&& 255)
  have e1 : (255 : Int32).toInt = 255 := by decide
  have e2 : (0 : Int32).toInt = 0 := by decide
  rw [Int32.lt_iff_toInt_lt, Int32.lt_iff_toInt_lt, e1, e2]
  omega
theorem shr0 (x : Int32) : x >>> (0 &&& 31) = x := by
  rw [← Int32.toInt_inj, c_ishr x 0 0 (by decide)]; simp
/-- a byte read back is the char -/
theorem lo8 (c : Int32) (h : ¬ c < 0 ∧ ¬ (255 : Int32) < c) : (c.toInt8.toInt32 &&& 255).toUInt32.toUInt16.toUInt32.toInt32 = c ∧ nar .char c = c ∧ c.toUInt32.toUInt16.toUInt32.toInt32 = c := by
  have e1 : (255 : Int32).toInt = 255 := by decide
  have e2 : (0 : Int32).toInt = 0 := by decide
  have h1 := c_i2b c
  have h2 := c_mask c.toInt8.toInt32 255 8 (by decide) (by decide)
  have h3 := c_i2c (c.toInt8.toInt32 &&& 255)
  have h4 := c_i2c c
  rw [Int32.lt_iff_toInt_lt, Int32.lt_iff_toInt_lt, e1, e2] at h
  refine ⟨Int32.toInt_inj.mp (by omega), Int32.toInt_inj.mp ?_, Int32.toInt_inj.mp (by omega)⟩
  show c.toUInt32.toUInt16.toUInt32.toInt32.toInt = _
  omega
theorem ofNat_lt {i n : Nat} (h : i < n) (hn : n < 2 ^ 31) : ¬ Int32.ofNat i < 0 ∧ Int32.ofNat i < Int32.ofNat n ∧ (Int32.ofNat i).toNatClampNeg = i := by
  have e2 : (0 : Int32).toInt = 0 := by decide
  rw [Int32.lt_iff_toInt_lt, Int32.lt_iff_toInt_lt, Int32.toInt_ofNat_of_lt (by omega), Int32.toInt_ofNat_of_lt hn, Int32.toNatClampNeg, Int32.toInt_ofNat_of_lt (by omega), e2]
  omega
theorem ofNat_toInt {n : Nat} (h : n < 2 ^ 31) : (Int32.ofNat n).toInt = n := Int32.toInt_ofNat_of_lt h
theorem ofNat_le {a b : Nat} (h : a ≤ b) (hb : b < 2 ^ 31) : ¬ Int32.ofNat a < 0 ∧ ¬ Int32.ofNat b < Int32.ofNat a := by
  have e2 : (0 : Int32).toInt = 0 := by decide
  rw [Int32.lt_iff_toInt_lt, Int32.lt_iff_toInt_lt, ofNat_toInt hb, ofNat_toInt (by omega), e2]
  omega
theorem ofNat_inj {a b : Nat} (ha : a < 2 ^ 31) (hb : b < 2 ^ 31) : Int32.ofNat a = Int32.ofNat b ↔ a = b := by
  rw [← Int32.toInt_inj, ofNat_toInt ha, ofNat_toInt hb]; omega
theorem ofNat_sub {a b : Nat} (h : b ≤ a) (ha : a < 2 ^ 31) : Int32.ofNat a - Int32.ofNat b = Int32.ofNat (a - b) := by
  rw [← Int32.toInt_inj, ofNat_toInt (by omega)]
  have q := c_isub (Int32.ofNat a) (Int32.ofNat b); have r := rng32 (Int32.ofNat a - Int32.ofNat b)
  rw [ofNat_toInt ha, ofNat_toInt (by omega)] at q; omega
theorem ofNat_add {a b : Nat} (h : a + b < 2 ^ 31) : Int32.ofNat a + Int32.ofNat b = Int32.ofNat (a + b) := by
  rw [← Int32.toInt_inj, ofNat_toInt h]
  have q := c_iadd (Int32.ofNat a) (Int32.ofNat b); have r := rng32 (Int32.ofNat a + Int32.ofNat b)
  rw [ofNat_toInt (by omega), ofNat_toInt (by omega)] at q; omega
theorem ofNat_succ {a : Nat} (h : a + 1 < 2 ^ 31) : Int32.ofNat a + 1 = Int32.ofNat (a + 1) := ofNat_add (b := 1) h
theorem ofNat_pred {a : Nat} (h : 0 < a) (ha : a < 2 ^ 31) : Int32.ofNat a - 1 = Int32.ofNat (a - 1) := ofNat_sub (b := 1) h ha
theorem ofNat_pred' {a : Nat} (h : 0 < a) (ha : a < 2 ^ 31) : Int32.ofNat a + (-1) = Int32.ofNat (a - 1) := by
  rw [← ofNat_pred h ha]
  rw [← Int32.toInt_inj]
  have q := c_isub (Int32.ofNat a) 1; have r := rng32 (Int32.ofNat a - 1); have q' := c_iadd (Int32.ofNat a) (-1); have r' := rng32 (Int32.ofNat a + (-1))
  have e1 : (1 : Int32).toInt = 1 := by decide
  have e2 : (-1 : Int32).toInt = -1 := by decide
  omega
/-- a StringBuilder of the chars cs, with m bytes left -/
def Sb (Z : State) (h : Heap) (x t : Addr) (cs : List Int32) (m : Nat) : Prop := Exa Z h x "java/lang/StringBuilder" ∧ Fld Z h x "java/lang/AbstractStringBuilder" "value" "[B" (.ref t) ∧ Fld Z h x "java/lang/AbstractStringBuilder" "coder" "B" (.int 0) ∧ Fld Z h x "java/lang/AbstractStringBuilder" "count" "I" (.int (Int32.ofNat cs.length)) ∧ Ia Z h t .byte ((cs.map fun c => c.toInt8.toInt32) ++ List.replicate m 0) ∧ ∀ c ∈ cs, ¬ c < 0 ∧ ¬ (255 : Int32) < c
theorem sub_le {a b : Nat} (h : a ≤ b) (hb : b < 2 ^ 31) : ¬ 0 < Int32.ofNat a - Int32.ofNat b := by
  have q := c_isub (Int32.ofNat a) (Int32.ofNat b); have r := rng32 (Int32.ofNat a - Int32.ofNat b)
  rw [ofNat_toInt (by omega), ofNat_toInt hb] at q
  have e2 : (0 : Int32).toInt = 0 := by decide
  rw [Int32.lt_iff_toInt_lt, e2]; omega
theorem nar_b (x : Int32) : nar .byte x.toInt8.toInt32 = x.toInt8.toInt32 := by simp [nar]
theorem set_rep (L : List Int32) (m : Nat) (v : Int32) (n : Nat) (hn : L.length = n) : (L ++ List.replicate (m + 1) 0).set n v = L ++ [v] ++ List.replicate m 0 := by
  subst hn
  rw [List.set_append, if_neg (by omega), Nat.sub_self, List.replicate_succ]; simp
theorem Sb.keep0 {Z : State} {h h' : Heap} {x t : Addr} {cs : List Int32} {m : Nat} (S : Sb Z h x t cs m) (K : Keep h h' []) : Sb Z h' x t cs m := ⟨S.1.keep K, S.2.1.keep K nin0, S.2.2.1.keep K nin0, S.2.2.2.1.keep K nin0, S.2.2.2.2.1.keep K nin0, S.2.2.2.2.2⟩
/-- a space or a tab -/
def isW (c : Int32) : Bool := c = 32 || c = 9
def trimL (cs : List Int32) : List Int32 := ((cs.dropWhile isW).reverse.dropWhile isW).reverse
theorem dropWhile_at (p : Int32 → Bool) : ∀ (cs : List Int32) (b : Nat), (∀ i (h : i < cs.length), i < b → p cs[i] = true) → (∀ h : b < cs.length, p cs[b] = false) → b ≤ cs.length → cs.dropWhile p = cs.drop b
  | [], b, _, _, _ => by simp
  | c :: cs, 0, _, h2, _ => by
    have := h2 (by simp)
    simp only [List.getElem_cons_zero] at this
    simp [List.dropWhile, this]
  | c :: cs, b + 1, h1, h2, h3 => by
    have hc := h1 0 (by simp) (by omega)
    simp only [List.getElem_cons_zero] at hc
    simp only [List.dropWhile, hc, List.drop_succ_cons]
    refine dropWhile_at p cs b (fun i h hi => ?_) (fun h => ?_) (by simpa using h3)
    · have := h1 (i + 1) (by simpa using h) (by omega); simpa using this
    · have := h2 (by simpa using h); simpa using this
theorem trim_at (cs : List Int32) (b e : Nat) (hbe : b ≤ e) (hel : e ≤ cs.length) (h1 : ∀ i (h : i < cs.length), i < b → isW cs[i] = true) (h2 : ∀ h : b < cs.length, isW cs[b] = false) (h3 : ∀ i (h : i < cs.length), e ≤ i → isW cs[i] = true) (h4 : b < e → ∀ h : e - 1 < cs.length, isW cs[e - 1] = false) : (cs.drop b).take (e - b) = trimL cs := by
  unfold trimL
  rw [dropWhile_at isW cs b h1 h2 (by omega), dropWhile_at isW (cs.drop b).reverse (cs.length - e)]
  · rw [List.drop_reverse, List.reverse_reverse]
    congr 1
    simp only [List.length_drop]; omega
  · intro i h hi
    simp only [List.length_reverse, List.length_drop] at h
    simp only [List.getElem_reverse, List.length_drop, List.getElem_drop]
    exact h3 _ _ (by omega)
  · intro h
    simp only [List.length_reverse, List.length_drop] at h
    simp only [List.getElem_reverse, List.length_drop, List.getElem_drop]
    have hb : b < e := by omega
    have q := h4 hb (by omega)
    have e1 : b + (cs.length - b - 1 - (cs.length - e)) = e - 1 := by omega
    simp only [e1]; exact q
  · simp only [List.length_reverse, List.length_drop]; omega
/-- a sign of a bare key; a plain sign of a quoted one -/
def gB (c : Int32) : Prop := 33 ≤ c.toInt ∧ c.toInt ≤ 126 ∧ c.toInt ≠ 34 ∧ c.toInt ≠ 44 ∧ c.toInt ≠ 92
def gP (c : Int32) : Prop := 32 ≤ c.toInt ∧ c.toInt ≤ 126 ∧ c.toInt ≠ 34 ∧ c.toInt ≠ 92
def gA (c : Int32) : Prop := 32 ≤ c.toInt ∧ c.toInt ≤ 126
theorem i32_ne {a b : Int32} (h : a.toInt ≠ b.toInt) : ¬ a = b := fun e => h (by rw [e])
theorem i32_34 : (34 : Int32).toInt = 34 := by decide
theorem i32_44 : (44 : Int32).toInt = 44 := by decide
theorem i32_92 : (92 : Int32).toInt = 92 := by decide
theorem i32_32 : (32 : Int32).toInt = 32 := by decide
theorem i32_9 : (9 : Int32).toInt = 9 := by decide
theorem i32_126 : (126 : Int32).toInt = 126 := by decide
theorem i32_255 : (255 : Int32).toInt = 255 := by decide
theorem i32_0 : (0 : Int32).toInt = 0 := by decide
theorem gA_b {c : Int32} (h : gA c) : ¬ c < 0 ∧ ¬ (255 : Int32) < c := by
  rw [Int32.lt_iff_toInt_lt, Int32.lt_iff_toInt_lt, i32_0, i32_255]; have := h.1; have := h.2; omega
theorem gB.a {c : Int32} (h : gB c) : gA c := ⟨by have := h.1; omega, h.2.1⟩
theorem gP.a {c : Int32} (h : gP c) : gA c := ⟨h.1, h.2.1⟩
theorem gA_p {c : Int32} (h : gA c) : ¬ c < 32 ∧ ¬ (126 : Int32) < c := by
  rw [Int32.lt_iff_toInt_lt, Int32.lt_iff_toInt_lt, i32_32, i32_126]; have := h.1; have := h.2; omega
/-- the text behind the opening quote says V, and the closing quote is its last sign -/
def UQ : List Int32 → List Int32 → Prop
  | [], _ => False
  | [c], V => c = 34 ∧ V = []
  | c :: d :: r, V => (c = 92 ∧ (d = 34 ∨ d = 92) ∧ ∃ V', V = d :: V' ∧ UQ r V') ∨ (gP c ∧ ∃ V', V = c :: V' ∧ UQ (d :: r) V')
theorem UQ.len : ∀ (n : Nat) (l V : List Int32), l.length ≤ n → UQ l V → V.length < l.length
  | 0, l, V, h, u => by
    cases l with
    | nil => simp [UQ] at u
    | cons a l => simp at h
  | n + 1, [], V, h, u => by simp [UQ] at u
  | n + 1, [c], V, h, u => by simp only [UQ] at u; rw [u.2]; simp
  | n + 1, c :: d :: r, V, h, u => by
    simp only [UQ] at u
    simp only [List.length_cons] at h
    rcases u with ⟨-, -, V', rfl, u⟩ | ⟨-, V', rfl, u⟩
    · have := UQ.len n r V' (by omega) u; simp only [List.length_cons]; omega
    · have := UQ.len n (d :: r) V' (by simp only [List.length_cons]; omega) u; simp only [List.length_cons] at this ⊢; omega
theorem UQ.cases3 {l V : List Int32} (u : UQ l V) : (l = [34] ∧ V = []) ∨ (∃ d r V', l = 92 :: d :: r ∧ (d = 34 ∨ d = 92) ∧ V = d :: V' ∧ UQ r V') ∨ (∃ a r V', l = a :: r ∧ gP a ∧ V = a :: V' ∧ UQ r V') := by
  match l, u with
  | [c], u => simp only [UQ] at u; exact Or.inl ⟨by rw [u.1], u.2⟩
  | c :: d :: r, u =>
    simp only [UQ] at u
    rcases u with ⟨rfl, h, V', h2, u⟩ | ⟨h, V', h2, u⟩
    · exact Or.inr (Or.inl ⟨d, r, V', rfl, h, h2, u⟩)
    · exact Or.inr (Or.inr ⟨c, d :: r, V', rfl, h, h2, u⟩)
theorem drop_at {cs : List Int32} {i : Nat} {a : Int32} {r : List Int32} (h : cs.drop i = a :: r) : i < cs.length ∧ cs[i]? = some a ∧ cs.drop (i + 1) = r := by
  have h1 : i < cs.length := by
    rcases Nat.lt_or_ge i cs.length with q | q
    · exact q
    · rw [List.drop_of_length_le q] at h; cases h
  rw [List.drop_eq_getElem_cons h1] at h
  injection h with e1 e2
  exact ⟨h1, by rw [List.getElem?_eq_getElem h1, e1], e2⟩
theorem msk (x : Int32) : 0 ≤ (x &&& 255).toInt ∧ (x &&& 255).toInt ≤ 255 := by
  have h := c_mask x 255 8 (by decide) (by decide); omega
theorem and3n (x : Int32) : ∃ n : Nat, x &&& 3 = Int32.ofNat n ∧ n ≤ 3 := by
  have h := c_mask x 3 2 (by decide) (by decide)
  refine ⟨(x &&& 3).toInt.toNat, ?_, by omega⟩
  rw [← Int32.toInt_inj, ofNat_toInt (by omega)]; omega
theorem i32_1 : (1 : Int32).toInt = 1 := by decide
theorem inc1 {a b : Int32} (h : a + 1 = b) (h1 : 0 ≤ a.toInt) (h2 : a.toInt ≤ 1000) : b.toInt = a.toInt + 1 := by
  subst h
  have q := c_iadd a 1; have r := rng32 (a + 1); have e := i32_1
  omega
theorem mod_in {k v c : Int32} {K : Int} {b : Int32} {B : Int} (hv : 0 ≤ v.toInt ∧ v.toInt ≤ 255) (hk : k.toInt = K) (hb : b.toInt = B) (hK : 0 < K ∧ K < 200) (hB : 0 ≤ B ∧ B < 200) (hm : (v % k).toInt = v.toInt % K) (h : b + v % k = c) : B ≤ c.toInt ∧ c.toInt < B + K := by
  subst h
  have q := c_iadd b (v % k); have r := rng32 (b + v % k)
  have e1 := Int.emod_nonneg v.toInt (b := K) (by omega)
  have e2 := Int.emod_lt_of_pos v.toInt (b := K) (by omega)
  omega
theorem set_mid (A B : List Int32) (u d : Int32) (n : Nat) (hn : A.length = n) : (A ++ u :: B).set n d = A ++ d :: B := by
  subst hn
  rw [List.set_append, if_neg (by omega), Nat.sub_self]; rfl
theorem white_b {d : Int32} (h : isW d = true) : ¬ d < 0 ∧ ¬ (255 : Int32) < d := by
  simp only [isW, Bool.or_eq_true, decide_eq_true_eq] at h
  rcases h with rfl | rfl <;> decide
theorem trim_mid (W M Y : List Int32) (a : Int32) (M1 : List Int32) (z : Int32) (M2 : List Int32) (e1 : M = a :: M1) (e2 : M = M2 ++ [z]) (ha : isW a = false) (hz : isW z = false) (hW : ∀ d ∈ W, isW d = true) (hY : ∀ d ∈ Y, isW d = true) : trimL (W ++ M ++ Y) = M := by
  unfold trimL
  have h1 : (W ++ M ++ Y).dropWhile isW = M ++ Y := by
    rw [List.append_assoc, List.dropWhile_append_of_pos hW, e1, List.cons_append, List.dropWhile_cons_of_neg (by simp [ha])]
  have h2 : (M ++ Y).reverse.dropWhile isW = M.reverse := by
    rw [List.reverse_append, List.dropWhile_append_of_pos (fun d hd => hY d (List.mem_reverse.mp hd)), e2, List.reverse_append, List.reverse_singleton, List.singleton_append, List.dropWhile_cons_of_neg (by simp [hz])]
  rw [h1, h2, List.reverse_reverse]
theorem gB_w {d : Int32} (h : gB d) : isW d = false := by
  have h1 := h.1
  simp only [isW, Bool.or_eq_false_iff, decide_eq_false_iff_not]
  exact ⟨i32_ne (by rw [i32_32]; omega), i32_ne (by rw [i32_9]; omega)⟩
/-- the bare road behind j steps -/
def IB (n ld j : Nat) (F E : List Int32) (K : Nat) : Prop := ∃ W V U X, F = W ++ V ++ U ∧ E = V ++ X ∧ K = V.length ∧ V.length = min j n ∧ W.length = ld ∧ U.length + V.length + ld = 7 ∧ X.length + V.length = 7 ∧ (∀ d ∈ W, isW d = true) ∧ (∀ d ∈ U, isW d = true) ∧ ∀ d ∈ V, gB d
theorem IB.start {n ld : Nat} {F E : List Int32} (hl : ld ≤ 7) (hF : F.length = 7) (hE : E.length = 7) (hw : ∀ d ∈ F, isW d = true) : IB n ld 0 F E 0 :=
  ⟨F.take ld, [], F.drop ld, E, by simp, by simp, rfl, by simp, by simp; omega, by simp; omega, by simp [hE], fun d hd => hw d (List.mem_of_mem_take hd), fun d hd => hw d (List.mem_of_mem_drop hd), by simp⟩
theorem IB.lens {n ld j : Nat} {F E : List Int32} {K : Nat} (I : IB n ld j F E K) : F.length = 7 ∧ E.length = 7 ∧ K = min j n := by
  obtain ⟨W, V, U, X, rfl, rfl, rfl, h1, h2, h3, h4, -⟩ := I
  simp only [List.length_append]; omega
theorem IB.skip {n ld j : Nat} {F E : List Int32} {K : Nat} (I : IB n ld j F E K) (h : n ≤ j) : IB n ld (j + 1) F E K := by
  obtain ⟨W, V, U, X, h0, h00, h000, h1, r⟩ := I
  exact ⟨W, V, U, X, h0, h00, h000, by omega, r⟩
theorem IB.step {n ld j : Nat} {F E : List Int32} {K : Nat} {d : Int32} (I : IB n ld j F E K) (h : j < n) (hn : ld + n ≤ 7) (hd : gB d) : IB n ld (j + 1) (F.set (ld + j) d) (E.set K d) (K + 1) := by
  obtain ⟨W, V, U, X, rfl, rfl, rfl, h1, h2, h3, h4, h5, h6, h7⟩ := I
  match U, X, h3, h4, h6 with
  | [], X, h3, h4, h6 => simp at h3; omega
  | u :: U, [], h3, h4, h6 => simp at h4; omega
  | u :: U, x :: X, h3, h4, h6 =>
    simp only [List.length_cons] at h3 h4
    refine ⟨W, V ++ [d], U, X, ?_, ?_, by simp, by simp; omega, h2, by simp; omega, by simp; omega, h5, fun q hq => h6 q (List.mem_cons_of_mem _ hq), fun q hq => ?_⟩
    · rw [set_mid (W ++ V) U u d _ (by simp; omega)]; simp
    · rw [set_mid V X x d _ rfl]; simp
    · rcases List.mem_append.mp hq with q' | q'
      · exact h7 q q'
      · cases List.mem_singleton.mp q'; exact hd
theorem IB.fin {n ld : Nat} {F E : List Int32} {K : Nat} (I : IB n ld 7 F E K) (hn : ld + n ≤ 7) (h0 : 0 < n) : ∃ V, trimL F = V ∧ (∀ d ∈ V, gB d) ∧ V.length = K ∧ 0 < V.length ∧ V.length ≤ 16 ∧ (∀ (i : Nat) (ch : Int32), V[i]? = some ch → E[i]? = some ch) ∧ (∀ d ∈ F, ¬ d < 0 ∧ ¬ (255 : Int32) < d) := by
  obtain ⟨W, V, U, X, rfl, rfl, rfl, h1, h2, h3, h4, h5, h6, h7⟩ := I
  have hl : 0 < V.length := by omega
  refine ⟨V, ?_, h7, rfl, hl, by omega, fun i ch hi => ?_, fun d hd => ?_⟩
  · obtain ⟨a, M1, e1⟩ : ∃ a M1, V = a :: M1 := List.exists_cons_of_length_pos hl
    have e2 : V = V.dropLast ++ [V.getLast (by intro q; rw [q] at hl; exact absurd hl (by simp))] := (List.dropLast_concat_getLast _).symm
    exact trim_mid W V U a M1 _ _ e1 e2 (gB_w (h7 _ (by rw [e1]; simp))) (gB_w (h7 _ (List.getLast_mem _))) h5 h6
  · rw [List.getElem?_append_left (List.getElem?_eq_some_iff.mp hi).1]; exact hi
  · rcases List.mem_append.mp hd with hd | hd
    · rcases List.mem_append.mp hd with hd | hd
      · exact white_b (h5 d hd)
      · exact gA_b (h7 d hd).a
    · exact white_b (h6 d hd)
/-- the inner text I, read so far, says V; x1: an escape is open -/
def PP (I V : List Int32) (x1 : Int32) : Prop := (x1 = 0 → ∀ r V2, UQ r V2 → UQ (I ++ r) (V ++ V2)) ∧ (¬ x1 = 0 → ∀ d r V2, (d = 34 ∨ d = 92) → UQ r V2 → UQ (I ++ d :: r) (V ++ d :: V2))
theorem UQ.cons {d : Int32} {r V2 : List Int32} (hd : gP d) (u : UQ r V2) : UQ (d :: r) (d :: V2) := by
  cases r with
  | nil => simp [UQ] at u
  | cons a r => simp only [UQ]; exact Or.inr ⟨hd, V2, rfl, u⟩
theorem UQ.esc {d : Int32} {r V2 : List Int32} (hd : d = 34 ∨ d = 92) (u : UQ r V2) : UQ (92 :: d :: r) (d :: V2) := by
  unfold UQ; exact Or.inl ⟨rfl, hd, V2, rfl, u⟩
/-- the quoted road behind j steps -/
def IQ (m ld j : Nat) (F E : List Int32) (K : Nat) (x1 : Int32) : Prop := ∃ W I U Y V X, F = W ++ 34 :: (I ++ U ++ 34 :: Y) ∧ E = V ++ X ∧ K = V.length ∧ I.length = min j m ∧ W.length = ld ∧ U.length + I.length = m ∧ ld + m + Y.length = 7 ∧ X.length + V.length = 7 ∧ V.length ≤ I.length ∧ (∀ d ∈ W, isW d = true) ∧ (∀ d ∈ Y, isW d = true) ∧ (∀ d ∈ I, gA d) ∧ (x1 = 0 ∨ (x1 = 1 ∧ j < m)) ∧ (x1 = 0 → I = [] ∨ 0 < V.length) ∧ PP I V x1
theorem IQ.start {m ld : Nat} {F E : List Int32} (hl : ld + m ≤ 7) (hF : F.length = 9) (hE : E.length = 7) (hw : ∀ d ∈ F, isW d = true) : IQ m ld 0 ((F.set ld 34).set (ld + m + 1) 34) E 0 0 := by
  have e1 : F = F.take ld ++ F[ld]'(by omega) :: F.drop (ld + 1) := by rw [← List.drop_eq_getElem_cons (by omega), List.take_append_drop]
  obtain ⟨W, u, R, rfl, h1, h2⟩ : ∃ W u R, F = W ++ u :: R ∧ W.length = ld ∧ R.length = 8 - ld := ⟨_, _, _, e1, by simp; omega, by simp; omega⟩
  have e2 : R = R.take m ++ R[m]'(by omega) :: R.drop (m + 1) := by rw [← List.drop_eq_getElem_cons (by omega), List.take_append_drop]
  obtain ⟨U, v, Y, rfl, h3, h4⟩ : ∃ U v Y, R = U ++ v :: Y ∧ U.length = m ∧ Y.length = 7 - ld - m := ⟨_, _, _, e2, by simp; omega, by simp; omega⟩
  refine ⟨W, [], U, Y, [], E, ?_, by simp, rfl, by simp, h1, by simp; omega, by omega, by simp [hE], by simp, fun d hd => hw d (by simp [hd]), fun d hd => hw d (by simp [hd]), by simp, Or.inl rfl, fun _ => Or.inl rfl, ?_⟩
  · rw [set_mid W _ u 34 _ h1, show W ++ 34 :: (U ++ v :: Y) = (W ++ 34 :: U) ++ v :: Y by simp, set_mid _ _ v 34 _ (by simp; omega)]; simp
  · exact ⟨fun _ r V2 u => by simpa using u, fun q => absurd rfl q⟩
theorem IQ.lens {m ld j : Nat} {F E : List Int32} {K : Nat} {x1 : Int32} (I : IQ m ld j F E K x1) : F.length = 9 ∧ E.length = 7 ∧ K ≤ min j m ∧ ld + m ≤ 7 := by
  obtain ⟨W, I, U, Y, V, X, rfl, rfl, rfl, h1, h2, h3, h4, h5, h6, -⟩ := I
  simp only [List.length_append, List.length_cons]; omega
theorem IQ.skip {m ld j : Nat} {F E : List Int32} {K : Nat} {x1 : Int32} (I : IQ m ld j F E K x1) (h : m ≤ j) : IQ m ld (j + 1) F E K x1 := by
  obtain ⟨W, I, U, Y, V, X, g1, g2, g3, h1, h2, h3, h4, h5, h6, h7, h8, h9, h10, h11, h12⟩ := I
  exact ⟨W, I, U, Y, V, X, g1, g2, g3, by omega, h2, h3, h4, h5, h6, h7, h8, h9, h10.elim Or.inl fun q => absurd q.2 (by omega), h11, h12⟩
theorem IQ.put {m ld j : Nat} {F E : List Int32} {K : Nat} {x1 : Int32} {d : Int32} (I : IQ m ld j F E K x1) (h : j < m) (hd : (¬ x1 = 0 ∧ (d = 34 ∨ d = 92)) ∨ (x1 = 0 ∧ gP d)) : IQ m ld (j + 1) (F.set (ld + 1 + j) d) (E.set K d) (K + 1) 0 := by
  obtain ⟨W, I, U, Y, V, X, rfl, rfl, rfl, h1, h2, h3, h4, h5, h6, h7, h8, h9, h10, h11, h12⟩ := I
  have hgA : gA d := by
    rcases hd with ⟨-, rfl | rfl⟩ | ⟨-, q⟩
    · exact ⟨by decide, by decide⟩
    · exact ⟨by decide, by decide⟩
    · exact q.a
  match U, X, h3, h5 with
  | [], X, h3, h5 => simp at h3; omega
  | u :: U, [], h3, h5 => simp at h5; omega
  | u :: U, x :: X, h3, h5 =>
    simp only [List.length_cons] at h3 h5
    refine ⟨W, I ++ [d], U, Y, V ++ [d], X, ?_, ?_, by simp, by simp; omega, h2, by simp; omega, h4, by simp; omega, by simp; omega, h7, h8, fun q hq => ?_, Or.inl rfl, fun _ => Or.inr (by simp), ?_⟩
    · rw [show W ++ 34 :: (I ++ u :: U ++ 34 :: Y) = (W ++ 34 :: I) ++ u :: (U ++ 34 :: Y) by simp, set_mid _ _ u d _ (by simp; omega)]; simp
    · rw [set_mid V X x d _ rfl]; simp
    · rcases List.mem_append.mp hq with q' | q'
      · exact h9 q q'
      · cases List.mem_singleton.mp q'; exact hgA
    · refine ⟨fun _ r V2 hu => ?_, fun q => absurd rfl q⟩
      rw [List.append_assoc, List.append_assoc]
      rcases hd with ⟨q, q2⟩ | ⟨q, q2⟩
      · exact h12.2 q d r V2 q2 hu
      · exact h12.1 q _ _ (UQ.cons q2 hu)
theorem IQ.open {m ld j : Nat} {F E : List Int32} {K : Nat} (I : IQ m ld j F E K 0) (h : j + 1 < m) : IQ m ld (j + 1) (F.set (ld + 1 + j) 92) E K 1 := by
  obtain ⟨W, I, U, Y, V, X, rfl, rfl, rfl, h1, h2, h3, h4, h5, h6, h7, h8, h9, h10, h11, h12⟩ := I
  match U, h3 with
  | [], h3 => simp at h3; omega
  | u :: U, h3 =>
    simp only [List.length_cons] at h3
    refine ⟨W, I ++ [92], U, Y, V, X, ?_, rfl, rfl, by simp; omega, h2, by simp; omega, h4, h5, by simp; omega, h7, h8, fun q hq => ?_, Or.inr ⟨rfl, h⟩, fun q => absurd q (by decide), ?_⟩
    · rw [show W ++ 34 :: (I ++ u :: U ++ 34 :: Y) = (W ++ 34 :: I) ++ u :: (U ++ 34 :: Y) by simp, set_mid _ _ u 92 _ (by simp; omega)]; simp
    · rcases List.mem_append.mp hq with q' | q'
      · exact h9 q q'
      · cases List.mem_singleton.mp q'; exact ⟨by decide, by decide⟩
    · refine ⟨fun q => absurd q (by decide), fun _ d r V2 hd hu => ?_⟩
      rw [List.append_assoc]
      exact h12.1 rfl _ _ (UQ.esc hd hu)
theorem IQ.fin {m ld : Nat} {F E : List Int32} {K : Nat} {x1 : Int32} (I : IQ m ld 7 F E K x1) (h0 : 0 < m) : ∃ mid V, trimL F = 34 :: mid ∧ mid.length + 1 ≤ 16 ∧ UQ mid V ∧ V.length = K ∧ 0 < V.length ∧ V.length ≤ 16 ∧ (∀ (i : Nat) (ch : Int32), V[i]? = some ch → E[i]? = some ch) ∧ (∀ d ∈ F, ¬ d < 0 ∧ ¬ (255 : Int32) < d) := by
  obtain ⟨W, I, U, Y, V, X, rfl, rfl, rfl, h1, h2, h3, h4, h5, h6, h7, h8, h9, h10, h11, h12⟩ := I
  have hx : x1 = 0 := h10.elim id fun q => absurd q.2 (by omega)
  subst hx
  have hU : U = [] := List.eq_nil_of_length_eq_zero (by omega)
  subst hU
  have hI : ¬ I = [] := fun q => by rw [q] at h1; simp at h1; omega
  have hV := (h11 rfl).resolve_left hI
  have u : UQ (I ++ [34]) (V ++ []) := h12.1 rfl [34] [] (by simp [UQ])
  refine ⟨I ++ [34], V, ?_, by simp; omega, by simpa using u, rfl, hV, by omega, fun i ch hi => ?_, fun d hd => ?_⟩
  · rw [show W ++ 34 :: (I ++ [] ++ 34 :: Y) = W ++ (34 :: (I ++ [34])) ++ Y by simp]
    exact trim_mid W _ Y 34 (I ++ [34]) 34 (34 :: I) rfl rfl (by decide) (by decide) h7 h8
  · rw [List.getElem?_append_left (List.getElem?_eq_some_iff.mp hi).1]; exact hi
  · simp only [List.mem_append, List.mem_cons, List.append_nil] at hd
    rcases hd with hd | rfl | hd | rfl | hd
    · exact white_b (h7 d hd)
    · decide
    · exact gA_b (h9 d hd)
    · decide
    · exact white_b (h8 d hd)
theorem w_0 {a0 : Array Value} {Z : State} (hw : Hw a0 Z) : (Jvm.Cond.arrayClass Jvm.ClassFile.FieldType.char).before a0 Z = true := hw _ (List.mem_of_getElem? (i := 0) rfl)
theorem w_1 {a0 : Array Value} {Z : State} (hw : Hw a0 Z) : (Jvm.Cond.arrayClass Jvm.ClassFile.FieldType.int).before a0 Z = true := hw _ (List.mem_of_getElem? (i := 1) rfl)
theorem w_2 {a0 : Array Value} {Z : State} (hw : Hw a0 Z) : (Jvm.Cond.methodLink "com/example/anemone/anemone/IdempotencyKeyParsePinLaw" (7 : Nat) ({ cls := "com/example/anemone/anemone/IdempotencyKeyParsePinLaw", name := "fillWs", desc := "([CII)V" } : Jvm.MethodName)).before a0 Z = true := hw _ (List.mem_of_getElem? (i := 2) rfl)
theorem w_3 {a0 : Array Value} {Z : State} (hw : Hw a0 Z) : (Jvm.Cond.static ({ cls := "com/example/anemone/anemone/IdempotencyKeyParsePinLaw", name := "fillWs", desc := "([CII)V" } : Jvm.MethodName)).before a0 Z = true := hw _ (List.mem_of_getElem? (i := 3) rfl)
theorem w_4 {a0 : Array Value} {Z : State} (hw : Hw a0 Z) : (Jvm.Cond.initialized "com/example/anemone/anemone/IdempotencyKeyParsePinLaw").before a0 Z = true := hw _ (List.mem_of_getElem? (i := 4) rfl)
theorem w_5 {a0 : Array Value} {Z : State} (hw : Hw a0 Z) : (Jvm.Cond.code ({ cls := "com/example/anemone/anemone/IdempotencyKeyParsePinLaw", name := "fillWs", desc := "([CII)V" } : Jvm.MethodName) method_4_code (3 : Nat) (Option.none : Option Jvm.ClassFile.FieldType)).before a0 Z = true := hw _ (List.mem_of_getElem? (i := 5) rfl)
theorem w_6 {a0 : Array Value} {Z : State} (hw : Hw a0 Z) : (Jvm.Cond.methodLink "com/example/anemone/anemone/IdempotencyKeyParsePinLaw" (17 : Nat) ({ cls := "com/example/anemone/anemone/IdempotencyKeyParsePinLaw", name := "bareStep", desc := "([C[C[IIIIII)V" } : Jvm.MethodName)).before a0 Z = true := hw _ (List.mem_of_getElem? (i := 6) rfl)
theorem w_7 {a0 : Array Value} {Z : State} (hw : Hw a0 Z) : (Jvm.Cond.static ({ cls := "com/example/anemone/anemone/IdempotencyKeyParsePinLaw", name := "bareStep", desc := "([C[C[IIIIII)V" } : Jvm.MethodName)).before a0 Z = true := hw _ (List.mem_of_getElem? (i := 7) rfl)
theorem w_8 {a0 : Array Value} {Z : State} (hw : Hw a0 Z) : (Jvm.Cond.code ({ cls := "com/example/anemone/anemone/IdempotencyKeyParsePinLaw", name := "bareStep", desc := "([C[C[IIIIII)V" } : Jvm.MethodName) method_8_code (9 : Nat) (Option.none : Option Jvm.ClassFile.FieldType)).before a0 Z = true := hw _ (List.mem_of_getElem? (i := 8) rfl)
theorem w_9 {a0 : Array Value} {Z : State} (hw : Hw a0 Z) : (Jvm.Cond.methodLink "com/example/anemone/anemone/IdempotencyKeyParsePinLaw" (48 : Nat) ({ cls := "com/example/anemone/anemone/IdempotencyKeyParsePinLaw", name := "byteAt", desc := "(III)I" } : Jvm.MethodName)).before a0 Z = true := hw _ (List.mem_of_getElem? (i := 9) rfl)
theorem w_10 {a0 : Array Value} {Z : State} (hw : Hw a0 Z) : (Jvm.Cond.static ({ cls := "com/example/anemone/anemone/IdempotencyKeyParsePinLaw", name := "byteAt", desc := "(III)I" } : Jvm.MethodName)).before a0 Z = true := hw _ (List.mem_of_getElem? (i := 10) rfl)
theorem w_11 {a0 : Array Value} {Z : State} (hw : Hw a0 Z) : (Jvm.Cond.code ({ cls := "com/example/anemone/anemone/IdempotencyKeyParsePinLaw", name := "byteAt", desc := "(III)I" } : Jvm.MethodName) method_5_code (4 : Nat) (Option.some Jvm.ClassFile.FieldType.int)).before a0 Z = true := hw _ (List.mem_of_getElem? (i := 11) rfl)
theorem w_12 {a0 : Array Value} {Z : State} (hw : Hw a0 Z) : (Jvm.Cond.methodLink "com/example/anemone/anemone/IdempotencyKeyParsePinLaw" (52 : Nat) ({ cls := "com/example/anemone/anemone/IdempotencyKeyParsePinLaw", name := "bareChar", desc := "(I)C" } : Jvm.MethodName)).before a0 Z = true := hw _ (List.mem_of_getElem? (i := 12) rfl)
theorem w_13 {a0 : Array Value} {Z : State} (hw : Hw a0 Z) : (Jvm.Cond.static ({ cls := "com/example/anemone/anemone/IdempotencyKeyParsePinLaw", name := "bareChar", desc := "(I)C" } : Jvm.MethodName)).before a0 Z = true := hw _ (List.mem_of_getElem? (i := 13) rfl)
theorem w_14 {a0 : Array Value} {Z : State} (hw : Hw a0 Z) : (Jvm.Cond.code ({ cls := "com/example/anemone/anemone/IdempotencyKeyParsePinLaw", name := "bareChar", desc := "(I)C" } : Jvm.MethodName) method_6_code (2 : Nat) (Option.some Jvm.ClassFile.FieldType.char)).before a0 Z = true := hw _ (List.mem_of_getElem? (i := 14) rfl)
theorem w_15 {a0 : Array Value} {Z : State} (hw : Hw a0 Z) : (Jvm.Cond.classLink "com/example/anemone/anemone/IdempotencyKeyParsePinLaw" (21 : Nat) "java/lang/String").before a0 Z = true := hw _ (List.mem_of_getElem? (i := 15) rfl)
theorem w_16 {a0 : Array Value} {Z : State} (hw : Hw a0 Z) : (Jvm.Cond.instantiable "java/lang/String" (4 : Nat)).before a0 Z = true := hw _ (List.mem_of_getElem? (i := 16) rfl)
theorem w_17 {a0 : Array Value} {Z : State} (hw : Hw a0 Z) : (Jvm.Cond.initialized "java/lang/String").before a0 Z = true := hw _ (List.mem_of_getElem? (i := 17) rfl)
theorem w_18 {a0 : Array Value} {Z : State} (hw : Hw a0 Z) : (Jvm.Cond.methodLink "com/example/anemone/anemone/IdempotencyKeyParsePinLaw" (23 : Nat) ({ cls := "java/lang/String", name := "<init>", desc := "([C)V" } : Jvm.MethodName)).before a0 Z = true := hw _ (List.mem_of_getElem? (i := 18) rfl)
theorem w_19 {a0 : Array Value} {Z : State} (hw : Hw a0 Z) : (Jvm.Cond.instanceMethod ({ cls := "java/lang/String", name := "<init>", desc := "([C)V" } : Jvm.MethodName)).before a0 Z = true := hw _ (List.mem_of_getElem? (i := 19) rfl)
theorem w_20 {a0 : Array Value} {Z : State} (hw : Hw a0 Z) : (Jvm.Cond.code ({ cls := "java/lang/String", name := "<init>", desc := "([C)V" } : Jvm.MethodName) jdk_42_method_3_code (2 : Nat) (Option.none : Option Jvm.ClassFile.FieldType)).before a0 Z = true := hw _ (List.mem_of_getElem? (i := 20) rfl)
theorem w_25 {a0 : Array Value} {Z : State} (hw : Hw a0 Z) : (Jvm.Cond.methodLink "java/lang/String" (1 : Nat) ({ cls := "java/lang/Object", name := "<init>", desc := "()V" } : Jvm.MethodName)).before a0 Z = true := hw _ (List.mem_of_getElem? (i := 25) rfl)
theorem w_26 {a0 : Array Value} {Z : State} (hw : Hw a0 Z) : (Jvm.Cond.instanceMethod ({ cls := "java/lang/Object", name := "<init>", desc := "()V" } : Jvm.MethodName)).before a0 Z = true := hw _ (List.mem_of_getElem? (i := 26) rfl)
theorem w_27 {a0 : Array Value} {Z : State} (hw : Hw a0 Z) : (Jvm.Cond.code ({ cls := "java/lang/Object", name := "<init>", desc := "()V" } : Jvm.MethodName) object_method_1_code (1 : Nat) (Option.none : Option Jvm.ClassFile.FieldType)).before a0 Z = true := hw _ (List.mem_of_getElem? (i := 27) rfl)
theorem w_28 {a0 : Array Value} {Z : State} (hw : Hw a0 Z) : (Jvm.Cond.fieldLink "java/lang/String" (38 : Nat) "java/lang/String" "COMPACT_STRINGS" "Z").before a0 Z = true := hw _ (List.mem_of_getElem? (i := 28) rfl)
theorem w_33 {a0 : Array Value} {Z : State} (hw : Hw a0 Z) : (Jvm.Cond.arrayClass Jvm.ClassFile.FieldType.byte).before a0 Z = true := hw _ (List.mem_of_getElem? (i := 33) rfl)
theorem w_40 {a0 : Array Value} {Z : State} (hw : Hw a0 Z) : (Jvm.Cond.fieldLink "java/lang/String" (15 : Nat) "java/lang/String" "coder" "B").before a0 Z = true := hw _ (List.mem_of_getElem? (i := 40) rfl)
theorem w_41 {a0 : Array Value} {Z : State} (hw : Hw a0 Z) : (Jvm.Cond.laysFinal "java/lang/String" "java/lang/String" "coder" "B").before a0 Z = true := hw _ (List.mem_of_getElem? (i := 41) rfl)
theorem w_42 {a0 : Array Value} {Z : State} (hw : Hw a0 Z) : (Jvm.Cond.fieldLink "java/lang/String" (9 : Nat) "java/lang/String" "value" "[B").before a0 Z = true := hw _ (List.mem_of_getElem? (i := 42) rfl)
theorem w_43 {a0 : Array Value} {Z : State} (hw : Hw a0 Z) : (Jvm.Cond.laysFinal "java/lang/String" "java/lang/String" "value" "[B").before a0 Z = true := hw _ (List.mem_of_getElem? (i := 43) rfl)
theorem w_44 {a0 : Array Value} {Z : State} (hw : Hw a0 Z) : (Jvm.Cond.methodLink "com/example/anemone/anemone/IdempotencyKeyParsePinLaw" (26 : Nat) ({ cls := "com/example/anemone/anemone/IdempotencyKey", name := "parse", desc := "(Ljava/lang/String;)Lcom/example/anemone/anemone/IdempotencyKey;" } : Jvm.MethodName)).before a0 Z = true := hw _ (List.mem_of_getElem? (i := 44) rfl)
theorem w_45 {a0 : Array Value} {Z : State} (hw : Hw a0 Z) : (Jvm.Cond.static ({ cls := "com/example/anemone/anemone/IdempotencyKey", name := "parse", desc := "(Ljava/lang/String;)Lcom/example/anemone/anemone/IdempotencyKey;" } : Jvm.MethodName)).before a0 Z = true := hw _ (List.mem_of_getElem? (i := 45) rfl)
theorem w_46 {a0 : Array Value} {Z : State} (hw : Hw a0 Z) : (Jvm.Cond.initialized "com/example/anemone/anemone/IdempotencyKey").before a0 Z = true := hw _ (List.mem_of_getElem? (i := 46) rfl)
theorem w_47 {a0 : Array Value} {Z : State} (hw : Hw a0 Z) : (Jvm.Cond.code ({ cls := "com/example/anemone/anemone/IdempotencyKey", name := "parse", desc := "(Ljava/lang/String;)Lcom/example/anemone/anemone/IdempotencyKey;" } : Jvm.MethodName) prog_8_method_2_code (3 : Nat) (Option.some (Jvm.ClassFile.FieldType.object "com/example/anemone/anemone/IdempotencyKey"))).before a0 Z = true := hw _ (List.mem_of_getElem? (i := 47) rfl)
theorem w_48 {a0 : Array Value} {Z : State} (hw : Hw a0 Z) : (Jvm.Cond.stringLink "com/example/anemone/anemone/IdempotencyKey" (13 : Nat) "field").before a0 Z = true := hw _ (List.mem_of_getElem? (i := 48) rfl)
theorem w_51 {a0 : Array Value} {Z : State} (hw : Hw a0 Z) : (Jvm.Cond.methodLink "com/example/anemone/anemone/IdempotencyKey" (15 : Nat) ({ cls := "java/util/Objects", name := "requireNonNull", desc := "(Ljava/lang/Object;Ljava/lang/String;)Ljava/lang/Object;" } : Jvm.MethodName)).before a0 Z = true := hw _ (List.mem_of_getElem? (i := 51) rfl)
theorem w_52 {a0 : Array Value} {Z : State} (hw : Hw a0 Z) : (Jvm.Cond.static ({ cls := "java/util/Objects", name := "requireNonNull", desc := "(Ljava/lang/Object;Ljava/lang/String;)Ljava/lang/Object;" } : Jvm.MethodName)).before a0 Z = true := hw _ (List.mem_of_getElem? (i := 52) rfl)
theorem w_53 {a0 : Array Value} {Z : State} (hw : Hw a0 Z) : (Jvm.Cond.initialized "java/util/Objects").before a0 Z = true := hw _ (List.mem_of_getElem? (i := 53) rfl)
theorem w_54 {a0 : Array Value} {Z : State} (hw : Hw a0 Z) : (Jvm.Cond.code ({ cls := "java/util/Objects", name := "requireNonNull", desc := "(Ljava/lang/Object;Ljava/lang/String;)Ljava/lang/Object;" } : Jvm.MethodName) jdk_31_method_11_code (2 : Nat) (Option.some (Jvm.ClassFile.FieldType.object "java/lang/Object"))).before a0 Z = true := hw _ (List.mem_of_getElem? (i := 54) rfl)
theorem w_55 {a0 : Array Value} {Z : State} (hw : Hw a0 Z) : (Jvm.Cond.methodLink "com/example/anemone/anemone/IdempotencyKey" (21 : Nat) ({ cls := "com/example/anemone/anemone/IdempotencyKey", name := "withoutSurroundingWhitespace", desc := "(Ljava/lang/String;)Ljava/lang/String;" } : Jvm.MethodName)).before a0 Z = true := hw _ (List.mem_of_getElem? (i := 55) rfl)
theorem w_56 {a0 : Array Value} {Z : State} (hw : Hw a0 Z) : (Jvm.Cond.static ({ cls := "com/example/anemone/anemone/IdempotencyKey", name := "withoutSurroundingWhitespace", desc := "(Ljava/lang/String;)Ljava/lang/String;" } : Jvm.MethodName)).before a0 Z = true := hw _ (List.mem_of_getElem? (i := 56) rfl)
theorem w_57 {a0 : Array Value} {Z : State} (hw : Hw a0 Z) : (Jvm.Cond.code ({ cls := "com/example/anemone/anemone/IdempotencyKey", name := "withoutSurroundingWhitespace", desc := "(Ljava/lang/String;)Ljava/lang/String;" } : Jvm.MethodName) prog_8_method_5_code (3 : Nat) (Option.some (Jvm.ClassFile.FieldType.object "java/lang/String"))).before a0 Z = true := hw _ (List.mem_of_getElem? (i := 57) rfl)
theorem w_58 {a0 : Array Value} {Z : State} (hw : Hw a0 Z) : (Jvm.Cond.methodLink "com/example/anemone/anemone/IdempotencyKey" (42 : Nat) ({ cls := "java/lang/String", name := "length", desc := "()I" } : Jvm.MethodName)).before a0 Z = true := hw _ (List.mem_of_getElem? (i := 58) rfl)
theorem w_59 {a0 : Array Value} {Z : State} (hw : Hw a0 Z) : (Jvm.Cond.declares ({ cls := "java/lang/String", name := "length", desc := "()I" } : Jvm.MethodName)).before a0 Z = true := hw _ (List.mem_of_getElem? (i := 59) rfl)
theorem w_60 {a0 : Array Value} {Z : State} (hw : Hw a0 Z) : (Jvm.Cond.instanceMethod ({ cls := "java/lang/String", name := "length", desc := "()I" } : Jvm.MethodName)).before a0 Z = true := hw _ (List.mem_of_getElem? (i := 60) rfl)
theorem w_61 {a0 : Array Value} {Z : State} (hw : Hw a0 Z) : (Jvm.Cond.selects "java/lang/String" ({ cls := "java/lang/String", name := "length", desc := "()I" } : Jvm.MethodName) ({ cls := "java/lang/String", name := "length", desc := "()I" } : Jvm.MethodName)).before a0 Z = true := hw _ (List.mem_of_getElem? (i := 61) rfl)
theorem w_62 {a0 : Array Value} {Z : State} (hw : Hw a0 Z) : (Jvm.Cond.code ({ cls := "java/lang/String", name := "length", desc := "()I" } : Jvm.MethodName) jdk_42_method_54_code (1 : Nat) (Option.some Jvm.ClassFile.FieldType.int)).before a0 Z = true := hw _ (List.mem_of_getElem? (i := 62) rfl)
theorem w_63 {a0 : Array Value} {Z : State} (hw : Hw a0 Z) : (Jvm.Cond.methodLink "java/lang/String" (335 : Nat) ({ cls := "java/lang/String", name := "coder", desc := "()B" } : Jvm.MethodName)).before a0 Z = true := hw _ (List.mem_of_getElem? (i := 63) rfl)
theorem w_64 {a0 : Array Value} {Z : State} (hw : Hw a0 Z) : (Jvm.Cond.declares ({ cls := "java/lang/String", name := "coder", desc := "()B" } : Jvm.MethodName)).before a0 Z = true := hw _ (List.mem_of_getElem? (i := 64) rfl)
theorem w_65 {a0 : Array Value} {Z : State} (hw : Hw a0 Z) : (Jvm.Cond.instanceMethod ({ cls := "java/lang/String", name := "coder", desc := "()B" } : Jvm.MethodName)).before a0 Z = true := hw _ (List.mem_of_getElem? (i := 65) rfl)
theorem w_66 {a0 : Array Value} {Z : State} (hw : Hw a0 Z) : (Jvm.Cond.selects "java/lang/String" ({ cls := "java/lang/String", name := "coder", desc := "()B" } : Jvm.MethodName) ({ cls := "java/lang/String", name := "coder", desc := "()B" } : Jvm.MethodName)).before a0 Z = true := hw _ (List.mem_of_getElem? (i := 66) rfl)
theorem w_67 {a0 : Array Value} {Z : State} (hw : Hw a0 Z) : (Jvm.Cond.code ({ cls := "java/lang/String", name := "coder", desc := "()B" } : Jvm.MethodName) jdk_42_method_152_code (1 : Nat) (Option.some Jvm.ClassFile.FieldType.byte)).before a0 Z = true := hw _ (List.mem_of_getElem? (i := 67) rfl)
theorem w_68 {a0 : Array Value} {Z : State} (hw : Hw a0 Z) : (Jvm.Cond.methodLink "com/example/anemone/anemone/IdempotencyKey" (31 : Nat) ({ cls := "java/lang/String", name := "charAt", desc := "(I)C" } : Jvm.MethodName)).before a0 Z = true := hw _ (List.mem_of_getElem? (i := 68) rfl)
theorem w_69 {a0 : Array Value} {Z : State} (hw : Hw a0 Z) : (Jvm.Cond.declares ({ cls := "java/lang/String", name := "charAt", desc := "(I)C" } : Jvm.MethodName)).before a0 Z = true := hw _ (List.mem_of_getElem? (i := 69) rfl)
theorem w_70 {a0 : Array Value} {Z : State} (hw : Hw a0 Z) : (Jvm.Cond.instanceMethod ({ cls := "java/lang/String", name := "charAt", desc := "(I)C" } : Jvm.MethodName)).before a0 Z = true := hw _ (List.mem_of_getElem? (i := 70) rfl)
theorem w_71 {a0 : Array Value} {Z : State} (hw : Hw a0 Z) : (Jvm.Cond.selects "java/lang/String" ({ cls := "java/lang/String", name := "charAt", desc := "(I)C" } : Jvm.MethodName) ({ cls := "java/lang/String", name := "charAt", desc := "(I)C" } : Jvm.MethodName)).before a0 Z = true := hw _ (List.mem_of_getElem? (i := 71) rfl)
theorem w_72 {a0 : Array Value} {Z : State} (hw : Hw a0 Z) : (Jvm.Cond.code ({ cls := "java/lang/String", name := "charAt", desc := "(I)C" } : Jvm.MethodName) jdk_42_method_56_code (2 : Nat) (Option.some Jvm.ClassFile.FieldType.char)).before a0 Z = true := hw _ (List.mem_of_getElem? (i := 72) rfl)
theorem w_73 {a0 : Array Value} {Z : State} (hw : Hw a0 Z) : (Jvm.Cond.methodLink "java/lang/String" (492 : Nat) ({ cls := "java/lang/String", name := "isLatin1", desc := "()Z" } : Jvm.MethodName)).before a0 Z = true := hw _ (List.mem_of_getElem? (i := 73) rfl)
theorem w_74 {a0 : Array Value} {Z : State} (hw : Hw a0 Z) : (Jvm.Cond.declares ({ cls := "java/lang/String", name := "isLatin1", desc := "()Z" } : Jvm.MethodName)).before a0 Z = true := hw _ (List.mem_of_getElem? (i := 74) rfl)
theorem w_75 {a0 : Array Value} {Z : State} (hw : Hw a0 Z) : (Jvm.Cond.instanceMethod ({ cls := "java/lang/String", name := "isLatin1", desc := "()Z" } : Jvm.MethodName)).before a0 Z = true := hw _ (List.mem_of_getElem? (i := 75) rfl)
theorem w_76 {a0 : Array Value} {Z : State} (hw : Hw a0 Z) : (Jvm.Cond.selects "java/lang/String" ({ cls := "java/lang/String", name := "isLatin1", desc := "()Z" } : Jvm.MethodName) ({ cls := "java/lang/String", name := "isLatin1", desc := "()Z" } : Jvm.MethodName)).before a0 Z = true := hw _ (List.mem_of_getElem? (i := 76) rfl)
theorem w_77 {a0 : Array Value} {Z : State} (hw : Hw a0 Z) : (Jvm.Cond.code ({ cls := "java/lang/String", name := "isLatin1", desc := "()Z" } : Jvm.MethodName) jdk_42_method_154_code (1 : Nat) (Option.some Jvm.ClassFile.FieldType.boolean)).before a0 Z = true := hw _ (List.mem_of_getElem? (i := 77) rfl)
theorem w_78 {a0 : Array Value} {Z : State} (hw : Hw a0 Z) : (Jvm.Cond.methodLink "java/lang/String" (495 : Nat) ({ cls := "java/lang/StringLatin1", name := "charAt", desc := "([BI)C" } : Jvm.MethodName)).before a0 Z = true := hw _ (List.mem_of_getElem? (i := 78) rfl)
theorem w_79 {a0 : Array Value} {Z : State} (hw : Hw a0 Z) : (Jvm.Cond.static ({ cls := "java/lang/StringLatin1", name := "charAt", desc := "([BI)C" } : Jvm.MethodName)).before a0 Z = true := hw _ (List.mem_of_getElem? (i := 79) rfl)
theorem w_80 {a0 : Array Value} {Z : State} (hw : Hw a0 Z) : (Jvm.Cond.initialized "java/lang/StringLatin1").before a0 Z = true := hw _ (List.mem_of_getElem? (i := 80) rfl)
theorem w_81 {a0 : Array Value} {Z : State} (hw : Hw a0 Z) : (Jvm.Cond.code ({ cls := "java/lang/StringLatin1", name := "charAt", desc := "([BI)C" } : Jvm.MethodName) jdk_43_method_2_code (2 : Nat) (Option.some Jvm.ClassFile.FieldType.char)).before a0 Z = true := hw _ (List.mem_of_getElem? (i := 81) rfl)
theorem w_82 {a0 : Array Value} {Z : State} (hw : Hw a0 Z) : (Jvm.Cond.methodLink "java/lang/StringLatin1" (9 : Nat) ({ cls := "java/lang/String", name := "checkIndex", desc := "(II)V" } : Jvm.MethodName)).before a0 Z = true := hw _ (List.mem_of_getElem? (i := 82) rfl)
theorem w_83 {a0 : Array Value} {Z : State} (hw : Hw a0 Z) : (Jvm.Cond.static ({ cls := "java/lang/String", name := "checkIndex", desc := "(II)V" } : Jvm.MethodName)).before a0 Z = true := hw _ (List.mem_of_getElem? (i := 83) rfl)
theorem w_84 {a0 : Array Value} {Z : State} (hw : Hw a0 Z) : (Jvm.Cond.code ({ cls := "java/lang/String", name := "checkIndex", desc := "(II)V" } : Jvm.MethodName) jdk_42_method_155_code (2 : Nat) (Option.none : Option Jvm.ClassFile.FieldType)).before a0 Z = true := hw _ (List.mem_of_getElem? (i := 84) rfl)
theorem w_85 {a0 : Array Value} {Z : State} (hw : Hw a0 Z) : (Jvm.Cond.fieldLink "java/lang/String" (1053 : Nat) "jdk/internal/util/Preconditions" "SIOOBE_FORMATTER" "Ljava/util/function/BiFunction;").before a0 Z = true := hw _ (List.mem_of_getElem? (i := 85) rfl)
theorem w_86 {a0 : Array Value} {Z : State} (hw : Hw a0 Z) : (Jvm.Cond.initialized "jdk/internal/util/Preconditions").before a0 Z = true := hw _ (List.mem_of_getElem? (i := 86) rfl)
theorem w_87 {a0 : Array Value} {Z : State} (hw : Hw a0 Z) : (Jvm.Cond.methodLink "java/lang/String" (1059 : Nat) ({ cls := "jdk/internal/util/Preconditions", name := "checkIndex", desc := "(IILjava/util/function/BiFunction;)I" } : Jvm.MethodName)).before a0 Z = true := hw _ (List.mem_of_getElem? (i := 87) rfl)
theorem w_88 {a0 : Array Value} {Z : State} (hw : Hw a0 Z) : (Jvm.Cond.static ({ cls := "jdk/internal/util/Preconditions", name := "checkIndex", desc := "(IILjava/util/function/BiFunction;)I" } : Jvm.MethodName)).before a0 Z = true := hw _ (List.mem_of_getElem? (i := 88) rfl)
theorem w_89 {a0 : Array Value} {Z : State} (hw : Hw a0 Z) : (Jvm.Cond.code ({ cls := "jdk/internal/util/Preconditions", name := "checkIndex", desc := "(IILjava/util/function/BiFunction;)I" } : Jvm.MethodName) jdk_41_method_11_code (3 : Nat) (Option.some Jvm.ClassFile.FieldType.int)).before a0 Z = true := hw _ (List.mem_of_getElem? (i := 89) rfl)
theorem w_90 {a0 : Array Value} {Z : State} (hw : Hw a0 Z) : (Jvm.Cond.methodLink "com/example/anemone/anemone/IdempotencyKey" (80 : Nat) ({ cls := "com/example/anemone/anemone/IdempotencyKey", name := "isSpaceOrTab", desc := "(C)Z" } : Jvm.MethodName)).before a0 Z = true := hw _ (List.mem_of_getElem? (i := 90) rfl)
theorem w_91 {a0 : Array Value} {Z : State} (hw : Hw a0 Z) : (Jvm.Cond.static ({ cls := "com/example/anemone/anemone/IdempotencyKey", name := "isSpaceOrTab", desc := "(C)Z" } : Jvm.MethodName)).before a0 Z = true := hw _ (List.mem_of_getElem? (i := 91) rfl)
theorem w_92 {a0 : Array Value} {Z : State} (hw : Hw a0 Z) : (Jvm.Cond.code ({ cls := "com/example/anemone/anemone/IdempotencyKey", name := "isSpaceOrTab", desc := "(C)Z" } : Jvm.MethodName) prog_8_method_6_code (1 : Nat) (Option.some Jvm.ClassFile.FieldType.boolean)).before a0 Z = true := hw _ (List.mem_of_getElem? (i := 92) rfl)
theorem w_93 {a0 : Array Value} {Z : State} (hw : Hw a0 Z) : (Jvm.Cond.methodLink "com/example/anemone/anemone/IdempotencyKey" (83 : Nat) ({ cls := "java/lang/String", name := "substring", desc := "(II)Ljava/lang/String;" } : Jvm.MethodName)).before a0 Z = true := hw _ (List.mem_of_getElem? (i := 93) rfl)
theorem w_94 {a0 : Array Value} {Z : State} (hw : Hw a0 Z) : (Jvm.Cond.declares ({ cls := "java/lang/String", name := "substring", desc := "(II)Ljava/lang/String;" } : Jvm.MethodName)).before a0 Z = true := hw _ (List.mem_of_getElem? (i := 94) rfl)
theorem w_95 {a0 : Array Value} {Z : State} (hw : Hw a0 Z) : (Jvm.Cond.instanceMethod ({ cls := "java/lang/String", name := "substring", desc := "(II)Ljava/lang/String;" } : Jvm.MethodName)).before a0 Z = true := hw _ (List.mem_of_getElem? (i := 95) rfl)
theorem w_96 {a0 : Array Value} {Z : State} (hw : Hw a0 Z) : (Jvm.Cond.selects "java/lang/String" ({ cls := "java/lang/String", name := "substring", desc := "(II)Ljava/lang/String;" } : Jvm.MethodName) ({ cls := "java/lang/String", name := "substring", desc := "(II)Ljava/lang/String;" } : Jvm.MethodName)).before a0 Z = true := hw _ (List.mem_of_getElem? (i := 96) rfl)
theorem w_97 {a0 : Array Value} {Z : State} (hw : Hw a0 Z) : (Jvm.Cond.code ({ cls := "java/lang/String", name := "substring", desc := "(II)Ljava/lang/String;" } : Jvm.MethodName) jdk_42_method_92_code (5 : Nat) (Option.some (Jvm.ClassFile.FieldType.object "java/lang/String"))).before a0 Z = true := hw _ (List.mem_of_getElem? (i := 97) rfl)
theorem w_98 {a0 : Array Value} {Z : State} (hw : Hw a0 Z) : (Jvm.Cond.methodLink "java/lang/String" (505 : Nat) ({ cls := "java/lang/String", name := "length", desc := "()I" } : Jvm.MethodName)).before a0 Z = true := hw _ (List.mem_of_getElem? (i := 98) rfl)
theorem w_99 {a0 : Array Value} {Z : State} (hw : Hw a0 Z) : (Jvm.Cond.methodLink "java/lang/String" (521 : Nat) ({ cls := "java/lang/String", name := "checkBoundsBeginEnd", desc := "(III)V" } : Jvm.MethodName)).before a0 Z = true := hw _ (List.mem_of_getElem? (i := 99) rfl)
theorem w_100 {a0 : Array Value} {Z : State} (hw : Hw a0 Z) : (Jvm.Cond.static ({ cls := "java/lang/String", name := "checkBoundsBeginEnd", desc := "(III)V" } : Jvm.MethodName)).before a0 Z = true := hw _ (List.mem_of_getElem? (i := 100) rfl)
theorem w_101 {a0 : Array Value} {Z : State} (hw : Hw a0 Z) : (Jvm.Cond.code ({ cls := "java/lang/String", name := "checkBoundsBeginEnd", desc := "(III)V" } : Jvm.MethodName) jdk_42_method_158_code (3 : Nat) (Option.none : Option Jvm.ClassFile.FieldType)).before a0 Z = true := hw _ (List.mem_of_getElem? (i := 101) rfl)
theorem w_102 {a0 : Array Value} {Z : State} (hw : Hw a0 Z) : (Jvm.Cond.methodLink "java/lang/String" (1062 : Nat) ({ cls := "jdk/internal/util/Preconditions", name := "checkFromToIndex", desc := "(IIILjava/util/function/BiFunction;)I" } : Jvm.MethodName)).before a0 Z = true := hw _ (List.mem_of_getElem? (i := 102) rfl)
theorem w_103 {a0 : Array Value} {Z : State} (hw : Hw a0 Z) : (Jvm.Cond.static ({ cls := "jdk/internal/util/Preconditions", name := "checkFromToIndex", desc := "(IIILjava/util/function/BiFunction;)I" } : Jvm.MethodName)).before a0 Z = true := hw _ (List.mem_of_getElem? (i := 103) rfl)
theorem w_104 {a0 : Array Value} {Z : State} (hw : Hw a0 Z) : (Jvm.Cond.code ({ cls := "jdk/internal/util/Preconditions", name := "checkFromToIndex", desc := "(IIILjava/util/function/BiFunction;)I" } : Jvm.MethodName) jdk_41_method_12_code (4 : Nat) (Option.some Jvm.ClassFile.FieldType.int)).before a0 Z = true := hw _ (List.mem_of_getElem? (i := 104) rfl)
theorem w_105 {a0 : Array Value} {Z : State} (hw : Hw a0 Z) : (Jvm.Cond.methodLink "java/lang/String" (685 : Nat) ({ cls := "java/lang/StringLatin1", name := "newString", desc := "([BII)Ljava/lang/String;" } : Jvm.MethodName)).before a0 Z = true := hw _ (List.mem_of_getElem? (i := 105) rfl)
theorem w_106 {a0 : Array Value} {Z : State} (hw : Hw a0 Z) : (Jvm.Cond.static ({ cls := "java/lang/StringLatin1", name := "newString", desc := "([BII)Ljava/lang/String;" } : Jvm.MethodName)).before a0 Z = true := hw _ (List.mem_of_getElem? (i := 106) rfl)
theorem w_107 {a0 : Array Value} {Z : State} (hw : Hw a0 Z) : (Jvm.Cond.code ({ cls := "java/lang/StringLatin1", name := "newString", desc := "([BII)Ljava/lang/String;" } : Jvm.MethodName) jdk_43_method_47_code (3 : Nat) (Option.some (Jvm.ClassFile.FieldType.object "java/lang/String"))).before a0 Z = true := hw _ (List.mem_of_getElem? (i := 107) rfl)
theorem w_108 {a0 : Array Value} {Z : State} (hw : Hw a0 Z) : (Jvm.Cond.classLink "java/lang/StringLatin1" (1 : Nat) "java/lang/String").before a0 Z = true := hw _ (List.mem_of_getElem? (i := 108) rfl)
theorem w_109 {a0 : Array Value} {Z : State} (hw : Hw a0 Z) : (Jvm.Cond.methodLink "java/lang/StringLatin1" (232 : Nat) ({ cls := "java/util/Arrays", name := "copyOfRange", desc := "([BII)[B" } : Jvm.MethodName)).before a0 Z = true := hw _ (List.mem_of_getElem? (i := 109) rfl)
theorem w_110 {a0 : Array Value} {Z : State} (hw : Hw a0 Z) : (Jvm.Cond.static ({ cls := "java/util/Arrays", name := "copyOfRange", desc := "([BII)[B" } : Jvm.MethodName)).before a0 Z = true := hw _ (List.mem_of_getElem? (i := 110) rfl)
theorem w_111 {a0 : Array Value} {Z : State} (hw : Hw a0 Z) : (Jvm.Cond.initialized "java/util/Arrays").before a0 Z = true := hw _ (List.mem_of_getElem? (i := 111) rfl)
theorem w_112 {a0 : Array Value} {Z : State} (hw : Hw a0 Z) : (Jvm.Cond.code ({ cls := "java/util/Arrays", name := "copyOfRange", desc := "([BII)[B" } : Jvm.MethodName) jdk_65_method_132_code (3 : Nat) (Option.some (Jvm.ClassFile.FieldType.array Jvm.ClassFile.FieldType.byte))).before a0 Z = true := hw _ (List.mem_of_getElem? (i := 112) rfl)
theorem w_113 {a0 : Array Value} {Z : State} (hw : Hw a0 Z) : (Jvm.Cond.methodLink "java/util/Arrays" (339 : Nat) ({ cls := "java/util/Arrays", name := "copyOfRangeByte", desc := "([BII)[B" } : Jvm.MethodName)).before a0 Z = true := hw _ (List.mem_of_getElem? (i := 113) rfl)
theorem w_114 {a0 : Array Value} {Z : State} (hw : Hw a0 Z) : (Jvm.Cond.static ({ cls := "java/util/Arrays", name := "copyOfRangeByte", desc := "([BII)[B" } : Jvm.MethodName)).before a0 Z = true := hw _ (List.mem_of_getElem? (i := 114) rfl)
theorem w_115 {a0 : Array Value} {Z : State} (hw : Hw a0 Z) : (Jvm.Cond.code ({ cls := "java/util/Arrays", name := "copyOfRangeByte", desc := "([BII)[B" } : Jvm.MethodName) jdk_65_method_133_code (5 : Nat) (Option.some (Jvm.ClassFile.FieldType.array Jvm.ClassFile.FieldType.byte))).before a0 Z = true := hw _ (List.mem_of_getElem? (i := 115) rfl)
theorem w_116 {a0 : Array Value} {Z : State} (hw : Hw a0 Z) : (Jvm.Cond.methodLink "java/util/Arrays" (343 : Nat) ({ cls := "java/util/Arrays", name := "checkLength", desc := "(II)V" } : Jvm.MethodName)).before a0 Z = true := hw _ (List.mem_of_getElem? (i := 116) rfl)
theorem w_117 {a0 : Array Value} {Z : State} (hw : Hw a0 Z) : (Jvm.Cond.static ({ cls := "java/util/Arrays", name := "checkLength", desc := "(II)V" } : Jvm.MethodName)).before a0 Z = true := hw _ (List.mem_of_getElem? (i := 117) rfl)
theorem w_118 {a0 : Array Value} {Z : State} (hw : Hw a0 Z) : (Jvm.Cond.code ({ cls := "java/util/Arrays", name := "checkLength", desc := "(II)V" } : Jvm.MethodName) jdk_65_method_131_code (2 : Nat) (Option.none : Option Jvm.ClassFile.FieldType)).before a0 Z = true := hw _ (List.mem_of_getElem? (i := 118) rfl)
theorem w_119 {a0 : Array Value} {Z : State} (hw : Hw a0 Z) : (Jvm.Cond.methodLink "java/util/Arrays" (304 : Nat) ({ cls := "java/lang/Math", name := "min", desc := "(II)I" } : Jvm.MethodName)).before a0 Z = true := hw _ (List.mem_of_getElem? (i := 119) rfl)
theorem w_120 {a0 : Array Value} {Z : State} (hw : Hw a0 Z) : (Jvm.Cond.static ({ cls := "java/lang/Math", name := "min", desc := "(II)I" } : Jvm.MethodName)).before a0 Z = true := hw _ (List.mem_of_getElem? (i := 120) rfl)
theorem w_121 {a0 : Array Value} {Z : State} (hw : Hw a0 Z) : (Jvm.Cond.initialized "java/lang/Math").before a0 Z = true := hw _ (List.mem_of_getElem? (i := 121) rfl)
theorem w_122 {a0 : Array Value} {Z : State} (hw : Hw a0 Z) : (Jvm.Cond.code ({ cls := "java/lang/Math", name := "min", desc := "(II)I" } : Jvm.MethodName) jdk_29_method_69_code (2 : Nat) (Option.some Jvm.ClassFile.FieldType.int)).before a0 Z = true := hw _ (List.mem_of_getElem? (i := 122) rfl)
theorem w_123 {a0 : Array Value} {Z : State} (hw : Hw a0 Z) : (Jvm.Cond.methodLink "java/util/Arrays" (150 : Nat) ({ cls := "java/lang/System", name := "arraycopy", desc := "(Ljava/lang/Object;ILjava/lang/Object;II)V" } : Jvm.MethodName)).before a0 Z = true := hw _ (List.mem_of_getElem? (i := 123) rfl)
theorem w_124 {a0 : Array Value} {Z : State} (hw : Hw a0 Z) : (Jvm.Cond.static ({ cls := "java/lang/System", name := "arraycopy", desc := "(Ljava/lang/Object;ILjava/lang/Object;II)V" } : Jvm.MethodName)).before a0 Z = true := hw _ (List.mem_of_getElem? (i := 124) rfl)
theorem w_125 {a0 : Array Value} {Z : State} (hw : Hw a0 Z) : (Jvm.Cond.initialized "java/lang/System").before a0 Z = true := hw _ (List.mem_of_getElem? (i := 125) rfl)
theorem w_126 {a0 : Array Value} {Z : State} (hw : Hw a0 Z) : (Jvm.Cond.native ({ cls := "java/lang/System", name := "arraycopy", desc := "(Ljava/lang/Object;ILjava/lang/Object;II)V" } : Jvm.MethodName)).before a0 Z = true := hw _ (List.mem_of_getElem? (i := 126) rfl)
theorem w_127 {a0 : Array Value} {Z : State} (hw : Hw a0 Z) : (Jvm.Cond.methodLink "java/lang/StringLatin1" (112 : Nat) ({ cls := "java/lang/String", name := "<init>", desc := "([BB)V" } : Jvm.MethodName)).before a0 Z = true := hw _ (List.mem_of_getElem? (i := 127) rfl)
theorem w_128 {a0 : Array Value} {Z : State} (hw : Hw a0 Z) : (Jvm.Cond.instanceMethod ({ cls := "java/lang/String", name := "<init>", desc := "([BB)V" } : Jvm.MethodName)).before a0 Z = true := hw _ (List.mem_of_getElem? (i := 128) rfl)
theorem w_129 {a0 : Array Value} {Z : State} (hw : Hw a0 Z) : (Jvm.Cond.code ({ cls := "java/lang/String", name := "<init>", desc := "([BB)V" } : Jvm.MethodName) jdk_42_method_151_code (3 : Nat) (Option.none : Option Jvm.ClassFile.FieldType)).before a0 Z = true := hw _ (List.mem_of_getElem? (i := 129) rfl)
theorem w_130 {a0 : Array Value} {Z : State} (hw : Hw a0 Z) : (Jvm.Cond.methodLink "com/example/anemone/anemone/IdempotencyKey" (25 : Nat) ({ cls := "java/lang/String", name := "isEmpty", desc := "()Z" } : Jvm.MethodName)).before a0 Z = true := hw _ (List.mem_of_getElem? (i := 130) rfl)
theorem w_131 {a0 : Array Value} {Z : State} (hw : Hw a0 Z) : (Jvm.Cond.declares ({ cls := "java/lang/String", name := "isEmpty", desc := "()Z" } : Jvm.MethodName)).before a0 Z = true := hw _ (List.mem_of_getElem? (i := 131) rfl)
theorem w_132 {a0 : Array Value} {Z : State} (hw : Hw a0 Z) : (Jvm.Cond.instanceMethod ({ cls := "java/lang/String", name := "isEmpty", desc := "()Z" } : Jvm.MethodName)).before a0 Z = true := hw _ (List.mem_of_getElem? (i := 132) rfl)
theorem w_133 {a0 : Array Value} {Z : State} (hw : Hw a0 Z) : (Jvm.Cond.selects "java/lang/String" ({ cls := "java/lang/String", name := "isEmpty", desc := "()Z" } : Jvm.MethodName) ({ cls := "java/lang/String", name := "isEmpty", desc := "()Z" } : Jvm.MethodName)).before a0 Z = true := hw _ (List.mem_of_getElem? (i := 133) rfl)
theorem w_134 {a0 : Array Value} {Z : State} (hw : Hw a0 Z) : (Jvm.Cond.code ({ cls := "java/lang/String", name := "isEmpty", desc := "()Z" } : Jvm.MethodName) jdk_42_method_55_code (1 : Nat) (Option.some Jvm.ClassFile.FieldType.boolean)).before a0 Z = true := hw _ (List.mem_of_getElem? (i := 134) rfl)
theorem w_135 {a0 : Array Value} {Z : State} (hw : Hw a0 Z) : (Jvm.Cond.methodLink "com/example/anemone/anemone/IdempotencyKey" (38 : Nat) ({ cls := "com/example/anemone/anemone/IdempotencyKey", name := "requireBare", desc := "(Ljava/lang/String;)V" } : Jvm.MethodName)).before a0 Z = true := hw _ (List.mem_of_getElem? (i := 135) rfl)
theorem w_136 {a0 : Array Value} {Z : State} (hw : Hw a0 Z) : (Jvm.Cond.static ({ cls := "com/example/anemone/anemone/IdempotencyKey", name := "requireBare", desc := "(Ljava/lang/String;)V" } : Jvm.MethodName)).before a0 Z = true := hw _ (List.mem_of_getElem? (i := 136) rfl)
theorem w_137 {a0 : Array Value} {Z : State} (hw : Hw a0 Z) : (Jvm.Cond.code ({ cls := "com/example/anemone/anemone/IdempotencyKey", name := "requireBare", desc := "(Ljava/lang/String;)V" } : Jvm.MethodName) prog_8_method_4_code (3 : Nat) (Option.none : Option Jvm.ClassFile.FieldType)).before a0 Z = true := hw _ (List.mem_of_getElem? (i := 137) rfl)
theorem w_138 {a0 : Array Value} {Z : State} (hw : Hw a0 Z) : (Jvm.Cond.methodLink "com/example/anemone/anemone/IdempotencyKey" (64 : Nat) ({ cls := "com/example/anemone/anemone/IdempotencyKey", name := "isPrintable", desc := "(C)Z" } : Jvm.MethodName)).before a0 Z = true := hw _ (List.mem_of_getElem? (i := 138) rfl)
theorem w_139 {a0 : Array Value} {Z : State} (hw : Hw a0 Z) : (Jvm.Cond.static ({ cls := "com/example/anemone/anemone/IdempotencyKey", name := "isPrintable", desc := "(C)Z" } : Jvm.MethodName)).before a0 Z = true := hw _ (List.mem_of_getElem? (i := 139) rfl)
theorem w_140 {a0 : Array Value} {Z : State} (hw : Hw a0 Z) : (Jvm.Cond.code ({ cls := "com/example/anemone/anemone/IdempotencyKey", name := "isPrintable", desc := "(C)Z" } : Jvm.MethodName) prog_8_method_7_code (1 : Nat) (Option.some Jvm.ClassFile.FieldType.boolean)).before a0 Z = true := hw _ (List.mem_of_getElem? (i := 140) rfl)
theorem w_141 {a0 : Array Value} {Z : State} (hw : Hw a0 Z) : (Jvm.Cond.classLink "com/example/anemone/anemone/IdempotencyKey" (8 : Nat) "com/example/anemone/anemone/IdempotencyKey").before a0 Z = true := hw _ (List.mem_of_getElem? (i := 141) rfl)
theorem w_142 {a0 : Array Value} {Z : State} (hw : Hw a0 Z) : (Jvm.Cond.instantiable "com/example/anemone/anemone/IdempotencyKey" (1 : Nat)).before a0 Z = true := hw _ (List.mem_of_getElem? (i := 142) rfl)
theorem w_143 {a0 : Array Value} {Z : State} (hw : Hw a0 Z) : (Jvm.Cond.methodLink "com/example/anemone/anemone/IdempotencyKey" (52 : Nat) ({ cls := "com/example/anemone/anemone/IdempotencyKey", name := "<init>", desc := "(Ljava/lang/String;)V" } : Jvm.MethodName)).before a0 Z = true := hw _ (List.mem_of_getElem? (i := 143) rfl)
theorem w_144 {a0 : Array Value} {Z : State} (hw : Hw a0 Z) : (Jvm.Cond.instanceMethod ({ cls := "com/example/anemone/anemone/IdempotencyKey", name := "<init>", desc := "(Ljava/lang/String;)V" } : Jvm.MethodName)).before a0 Z = true := hw _ (List.mem_of_getElem? (i := 144) rfl)
theorem w_145 {a0 : Array Value} {Z : State} (hw : Hw a0 Z) : (Jvm.Cond.code ({ cls := "com/example/anemone/anemone/IdempotencyKey", name := "<init>", desc := "(Ljava/lang/String;)V" } : Jvm.MethodName) prog_8_method_1_code (2 : Nat) (Option.none : Option Jvm.ClassFile.FieldType)).before a0 Z = true := hw _ (List.mem_of_getElem? (i := 145) rfl)
theorem w_146 {a0 : Array Value} {Z : State} (hw : Hw a0 Z) : (Jvm.Cond.methodLink "com/example/anemone/anemone/IdempotencyKey" (1 : Nat) ({ cls := "java/lang/Record", name := "<init>", desc := "()V" } : Jvm.MethodName)).before a0 Z = true := hw _ (List.mem_of_getElem? (i := 146) rfl)
theorem w_147 {a0 : Array Value} {Z : State} (hw : Hw a0 Z) : (Jvm.Cond.instanceMethod ({ cls := "java/lang/Record", name := "<init>", desc := "()V" } : Jvm.MethodName)).before a0 Z = true := hw _ (List.mem_of_getElem? (i := 147) rfl)
theorem w_149 {a0 : Array Value} {Z : State} (hw : Hw a0 Z) : (Jvm.Cond.initialized "java/lang/Record").before a0 Z = true := hw _ (List.mem_of_getElem? (i := 149) rfl)
theorem w_150 {a0 : Array Value} {Z : State} (hw : Hw a0 Z) : (Jvm.Cond.code ({ cls := "java/lang/Record", name := "<init>", desc := "()V" } : Jvm.MethodName) jdk_30_method_1_code (1 : Nat) (Option.none : Option Jvm.ClassFile.FieldType)).before a0 Z = true := hw _ (List.mem_of_getElem? (i := 150) rfl)
theorem w_151 {a0 : Array Value} {Z : State} (hw : Hw a0 Z) : (Jvm.Cond.methodLink "java/lang/Record" (1 : Nat) ({ cls := "java/lang/Object", name := "<init>", desc := "()V" } : Jvm.MethodName)).before a0 Z = true := hw _ (List.mem_of_getElem? (i := 151) rfl)
theorem w_152 {a0 : Array Value} {Z : State} (hw : Hw a0 Z) : (Jvm.Cond.fieldLink "com/example/anemone/anemone/IdempotencyKey" (7 : Nat) "com/example/anemone/anemone/IdempotencyKey" "value" "Ljava/lang/String;").before a0 Z = true := hw _ (List.mem_of_getElem? (i := 152) rfl)
theorem w_153 {a0 : Array Value} {Z : State} (hw : Hw a0 Z) : (Jvm.Cond.laysFinal "com/example/anemone/anemone/IdempotencyKey" "com/example/anemone/anemone/IdempotencyKey" "value" "Ljava/lang/String;").before a0 Z = true := hw _ (List.mem_of_getElem? (i := 153) rfl)
theorem w_154 {a0 : Array Value} {Z : State} (hw : Hw a0 Z) : (Jvm.Cond.methodLink "com/example/anemone/anemone/IdempotencyKeyParsePinLaw" (32 : Nat) ({ cls := "com/example/anemone/anemone/IdempotencyKey", name := "value", desc := "()Ljava/lang/String;" } : Jvm.MethodName)).before a0 Z = true := hw _ (List.mem_of_getElem? (i := 154) rfl)
theorem w_155 {a0 : Array Value} {Z : State} (hw : Hw a0 Z) : (Jvm.Cond.declares ({ cls := "com/example/anemone/anemone/IdempotencyKey", name := "value", desc := "()Ljava/lang/String;" } : Jvm.MethodName)).before a0 Z = true := hw _ (List.mem_of_getElem? (i := 155) rfl)
theorem w_156 {a0 : Array Value} {Z : State} (hw : Hw a0 Z) : (Jvm.Cond.instanceMethod ({ cls := "com/example/anemone/anemone/IdempotencyKey", name := "value", desc := "()Ljava/lang/String;" } : Jvm.MethodName)).before a0 Z = true := hw _ (List.mem_of_getElem? (i := 156) rfl)
theorem w_157 {a0 : Array Value} {Z : State} (hw : Hw a0 Z) : (Jvm.Cond.selects "com/example/anemone/anemone/IdempotencyKey" ({ cls := "com/example/anemone/anemone/IdempotencyKey", name := "value", desc := "()Ljava/lang/String;" } : Jvm.MethodName) ({ cls := "com/example/anemone/anemone/IdempotencyKey", name := "value", desc := "()Ljava/lang/String;" } : Jvm.MethodName)).before a0 Z = true := hw _ (List.mem_of_getElem? (i := 157) rfl)
theorem w_158 {a0 : Array Value} {Z : State} (hw : Hw a0 Z) : (Jvm.Cond.code ({ cls := "com/example/anemone/anemone/IdempotencyKey", name := "value", desc := "()Ljava/lang/String;" } : Jvm.MethodName) prog_8_method_11_code (1 : Nat) (Option.some (Jvm.ClassFile.FieldType.object "java/lang/String"))).before a0 Z = true := hw _ (List.mem_of_getElem? (i := 158) rfl)
theorem w_159 {a0 : Array Value} {Z : State} (hw : Hw a0 Z) : (Jvm.Cond.methodLink "com/example/anemone/anemone/IdempotencyKeyParsePinLaw" (36 : Nat) ({ cls := "java/lang/String", name := "length", desc := "()I" } : Jvm.MethodName)).before a0 Z = true := hw _ (List.mem_of_getElem? (i := 159) rfl)
theorem w_160 {a0 : Array Value} {Z : State} (hw : Hw a0 Z) : (Jvm.Cond.methodLink "com/example/anemone/anemone/IdempotencyKeyParsePinLaw" (40 : Nat) ({ cls := "com/example/anemone/anemone/IdempotencyKeyParsePinLaw", name := "same", desc := "(Ljava/lang/String;[CII)Z" } : Jvm.MethodName)).before a0 Z = true := hw _ (List.mem_of_getElem? (i := 160) rfl)
theorem w_161 {a0 : Array Value} {Z : State} (hw : Hw a0 Z) : (Jvm.Cond.static ({ cls := "com/example/anemone/anemone/IdempotencyKeyParsePinLaw", name := "same", desc := "(Ljava/lang/String;[CII)Z" } : Jvm.MethodName)).before a0 Z = true := hw _ (List.mem_of_getElem? (i := 161) rfl)
theorem w_162 {a0 : Array Value} {Z : State} (hw : Hw a0 Z) : (Jvm.Cond.code ({ cls := "com/example/anemone/anemone/IdempotencyKeyParsePinLaw", name := "same", desc := "(Ljava/lang/String;[CII)Z" } : Jvm.MethodName) method_3_code (4 : Nat) (Option.some Jvm.ClassFile.FieldType.boolean)).before a0 Z = true := hw _ (List.mem_of_getElem? (i := 162) rfl)
theorem w_163 {a0 : Array Value} {Z : State} (hw : Hw a0 Z) : (Jvm.Cond.methodLink "com/example/anemone/anemone/IdempotencyKeyParsePinLaw" (44 : Nat) ({ cls := "java/lang/String", name := "charAt", desc := "(I)C" } : Jvm.MethodName)).before a0 Z = true := hw _ (List.mem_of_getElem? (i := 163) rfl)
theorem w_164 {a0 : Array Value} {Z : State} (hw : Hw a0 Z) : (Jvm.Cond.methodLink "com/example/anemone/anemone/IdempotencyKeyParsePinLaw" (13 : Nat) ({ cls := "com/example/anemone/anemone/IdempotencyKeyParsePinLaw", name := "quotedStep", desc := "([C[C[IIIIIII)V" } : Jvm.MethodName)).before a0 Z = true := hw _ (List.mem_of_getElem? (i := 164) rfl)
theorem w_165 {a0 : Array Value} {Z : State} (hw : Hw a0 Z) : (Jvm.Cond.static ({ cls := "com/example/anemone/anemone/IdempotencyKeyParsePinLaw", name := "quotedStep", desc := "([C[C[IIIIIII)V" } : Jvm.MethodName)).before a0 Z = true := hw _ (List.mem_of_getElem? (i := 165) rfl)
theorem w_166 {a0 : Array Value} {Z : State} (hw : Hw a0 Z) : (Jvm.Cond.code ({ cls := "com/example/anemone/anemone/IdempotencyKeyParsePinLaw", name := "quotedStep", desc := "([C[C[IIIIIII)V" } : Jvm.MethodName) method_9_code (12 : Nat) (Option.none : Option Jvm.ClassFile.FieldType)).before a0 Z = true := hw _ (List.mem_of_getElem? (i := 166) rfl)
theorem w_167 {a0 : Array Value} {Z : State} (hw : Hw a0 Z) : (Jvm.Cond.methodLink "com/example/anemone/anemone/IdempotencyKey" (35 : Nat) ({ cls := "com/example/anemone/anemone/IdempotencyKey", name := "unquote", desc := "(Ljava/lang/String;)Ljava/lang/String;" } : Jvm.MethodName)).before a0 Z = true := hw _ (List.mem_of_getElem? (i := 167) rfl)
theorem w_168 {a0 : Array Value} {Z : State} (hw : Hw a0 Z) : (Jvm.Cond.static ({ cls := "com/example/anemone/anemone/IdempotencyKey", name := "unquote", desc := "(Ljava/lang/String;)Ljava/lang/String;" } : Jvm.MethodName)).before a0 Z = true := hw _ (List.mem_of_getElem? (i := 168) rfl)
theorem w_169 {a0 : Array Value} {Z : State} (hw : Hw a0 Z) : (Jvm.Cond.code ({ cls := "com/example/anemone/anemone/IdempotencyKey", name := "unquote", desc := "(Ljava/lang/String;)Ljava/lang/String;" } : Jvm.MethodName) prog_8_method_3_code (6 : Nat) (Option.some (Jvm.ClassFile.FieldType.object "java/lang/String"))).before a0 Z = true := hw _ (List.mem_of_getElem? (i := 169) rfl)
theorem w_170 {a0 : Array Value} {Z : State} (hw : Hw a0 Z) : (Jvm.Cond.classLink "com/example/anemone/anemone/IdempotencyKey" (53 : Nat) "java/lang/StringBuilder").before a0 Z = true := hw _ (List.mem_of_getElem? (i := 170) rfl)
theorem w_171 {a0 : Array Value} {Z : State} (hw : Hw a0 Z) : (Jvm.Cond.instantiable "java/lang/StringBuilder" (4 : Nat)).before a0 Z = true := hw _ (List.mem_of_getElem? (i := 171) rfl)
theorem w_172 {a0 : Array Value} {Z : State} (hw : Hw a0 Z) : (Jvm.Cond.initialized "java/lang/StringBuilder").before a0 Z = true := hw _ (List.mem_of_getElem? (i := 172) rfl)
theorem w_173 {a0 : Array Value} {Z : State} (hw : Hw a0 Z) : (Jvm.Cond.methodLink "com/example/anemone/anemone/IdempotencyKey" (55 : Nat) ({ cls := "java/lang/StringBuilder", name := "<init>", desc := "(I)V" } : Jvm.MethodName)).before a0 Z = true := hw _ (List.mem_of_getElem? (i := 173) rfl)
theorem w_174 {a0 : Array Value} {Z : State} (hw : Hw a0 Z) : (Jvm.Cond.instanceMethod ({ cls := "java/lang/StringBuilder", name := "<init>", desc := "(I)V" } : Jvm.MethodName)).before a0 Z = true := hw _ (List.mem_of_getElem? (i := 174) rfl)
theorem w_175 {a0 : Array Value} {Z : State} (hw : Hw a0 Z) : (Jvm.Cond.code ({ cls := "java/lang/StringBuilder", name := "<init>", desc := "(I)V" } : Jvm.MethodName) jdk_67_method_2_code (2 : Nat) (Option.none : Option Jvm.ClassFile.FieldType)).before a0 Z = true := hw _ (List.mem_of_getElem? (i := 175) rfl)
theorem w_176 {a0 : Array Value} {Z : State} (hw : Hw a0 Z) : (Jvm.Cond.methodLink "java/lang/StringBuilder" (1 : Nat) ({ cls := "java/lang/AbstractStringBuilder", name := "<init>", desc := "(I)V" } : Jvm.MethodName)).before a0 Z = true := hw _ (List.mem_of_getElem? (i := 176) rfl)
theorem w_177 {a0 : Array Value} {Z : State} (hw : Hw a0 Z) : (Jvm.Cond.instanceMethod ({ cls := "java/lang/AbstractStringBuilder", name := "<init>", desc := "(I)V" } : Jvm.MethodName)).before a0 Z = true := hw _ (List.mem_of_getElem? (i := 177) rfl)
theorem w_180 {a0 : Array Value} {Z : State} (hw : Hw a0 Z) : (Jvm.Cond.initialized "java/lang/AbstractStringBuilder").before a0 Z = true := hw _ (List.mem_of_getElem? (i := 180) rfl)
theorem w_181 {a0 : Array Value} {Z : State} (hw : Hw a0 Z) : (Jvm.Cond.code ({ cls := "java/lang/AbstractStringBuilder", name := "<init>", desc := "(I)V" } : Jvm.MethodName) jdk_68_method_2_code (2 : Nat) (Option.none : Option Jvm.ClassFile.FieldType)).before a0 Z = true := hw _ (List.mem_of_getElem? (i := 181) rfl)
theorem w_182 {a0 : Array Value} {Z : State} (hw : Hw a0 Z) : (Jvm.Cond.methodLink "java/lang/AbstractStringBuilder" (3 : Nat) ({ cls := "java/lang/Object", name := "<init>", desc := "()V" } : Jvm.MethodName)).before a0 Z = true := hw _ (List.mem_of_getElem? (i := 182) rfl)
theorem w_183 {a0 : Array Value} {Z : State} (hw : Hw a0 Z) : (Jvm.Cond.fieldLink "java/lang/AbstractStringBuilder" (18 : Nat) "java/lang/String" "COMPACT_STRINGS" "Z").before a0 Z = true := hw _ (List.mem_of_getElem? (i := 183) rfl)
theorem w_184 {a0 : Array Value} {Z : State} (hw : Hw a0 Z) : (Jvm.Cond.fieldLink "java/lang/AbstractStringBuilder" (15 : Nat) "java/lang/AbstractStringBuilder" "value" "[B").before a0 Z = true := hw _ (List.mem_of_getElem? (i := 184) rfl)
theorem w_185 {a0 : Array Value} {Z : State} (hw : Hw a0 Z) : (Jvm.Cond.lays "java/lang/StringBuilder" "java/lang/AbstractStringBuilder" "value" "[B").before a0 Z = true := hw _ (List.mem_of_getElem? (i := 185) rfl)
theorem w_186 {a0 : Array Value} {Z : State} (hw : Hw a0 Z) : (Jvm.Cond.fieldLink "java/lang/AbstractStringBuilder" (22 : Nat) "java/lang/AbstractStringBuilder" "coder" "B").before a0 Z = true := hw _ (List.mem_of_getElem? (i := 186) rfl)
theorem w_187 {a0 : Array Value} {Z : State} (hw : Hw a0 Z) : (Jvm.Cond.lays "java/lang/StringBuilder" "java/lang/AbstractStringBuilder" "coder" "B").before a0 Z = true := hw _ (List.mem_of_getElem? (i := 187) rfl)
theorem w_188 {a0 : Array Value} {Z : State} (hw : Hw a0 Z) : (Jvm.Cond.methodLink "com/example/anemone/anemone/IdempotencyKey" (60 : Nat) ({ cls := "java/lang/StringBuilder", name := "append", desc := "(C)Ljava/lang/StringBuilder;" } : Jvm.MethodName)).before a0 Z = true := hw _ (List.mem_of_getElem? (i := 188) rfl)
theorem w_189 {a0 : Array Value} {Z : State} (hw : Hw a0 Z) : (Jvm.Cond.declares ({ cls := "java/lang/StringBuilder", name := "append", desc := "(C)Ljava/lang/StringBuilder;" } : Jvm.MethodName)).before a0 Z = true := hw _ (List.mem_of_getElem? (i := 189) rfl)
theorem w_190 {a0 : Array Value} {Z : State} (hw : Hw a0 Z) : (Jvm.Cond.instanceMethod ({ cls := "java/lang/StringBuilder", name := "append", desc := "(C)Ljava/lang/StringBuilder;" } : Jvm.MethodName)).before a0 Z = true := hw _ (List.mem_of_getElem? (i := 190) rfl)
theorem w_191 {a0 : Array Value} {Z : State} (hw : Hw a0 Z) : (Jvm.Cond.selects "java/lang/StringBuilder" ({ cls := "java/lang/StringBuilder", name := "append", desc := "(C)Ljava/lang/StringBuilder;" } : Jvm.MethodName) ({ cls := "java/lang/StringBuilder", name := "append", desc := "(C)Ljava/lang/StringBuilder;" } : Jvm.MethodName)).before a0 Z = true := hw _ (List.mem_of_getElem? (i := 191) rfl)
theorem w_192 {a0 : Array Value} {Z : State} (hw : Hw a0 Z) : (Jvm.Cond.code ({ cls := "java/lang/StringBuilder", name := "append", desc := "(C)Ljava/lang/StringBuilder;" } : Jvm.MethodName) jdk_67_method_14_code (2 : Nat) (Option.some (Jvm.ClassFile.FieldType.object "java/lang/StringBuilder"))).before a0 Z = true := hw _ (List.mem_of_getElem? (i := 192) rfl)
theorem w_193 {a0 : Array Value} {Z : State} (hw : Hw a0 Z) : (Jvm.Cond.methodLink "java/lang/StringBuilder" (50 : Nat) ({ cls := "java/lang/AbstractStringBuilder", name := "append", desc := "(C)Ljava/lang/AbstractStringBuilder;" } : Jvm.MethodName)).before a0 Z = true := hw _ (List.mem_of_getElem? (i := 193) rfl)
theorem w_194 {a0 : Array Value} {Z : State} (hw : Hw a0 Z) : (Jvm.Cond.instanceMethod ({ cls := "java/lang/AbstractStringBuilder", name := "append", desc := "(C)Ljava/lang/AbstractStringBuilder;" } : Jvm.MethodName)).before a0 Z = true := hw _ (List.mem_of_getElem? (i := 194) rfl)
theorem w_195 {a0 : Array Value} {Z : State} (hw : Hw a0 Z) : (Jvm.Cond.superclass "java/lang/StringBuilder" "java/lang/AbstractStringBuilder").before a0 Z = true := hw _ (List.mem_of_getElem? (i := 195) rfl)
theorem w_197 {a0 : Array Value} {Z : State} (hw : Hw a0 Z) : (Jvm.Cond.code ({ cls := "java/lang/AbstractStringBuilder", name := "append", desc := "(C)Ljava/lang/AbstractStringBuilder;" } : Jvm.MethodName) jdk_68_method_31_code (2 : Nat) (Option.some (Jvm.ClassFile.FieldType.object "java/lang/AbstractStringBuilder"))).before a0 Z = true := hw _ (List.mem_of_getElem? (i := 197) rfl)
theorem w_198 {a0 : Array Value} {Z : State} (hw : Hw a0 Z) : (Jvm.Cond.fieldLink "java/lang/AbstractStringBuilder" (79 : Nat) "java/lang/AbstractStringBuilder" "count" "I").before a0 Z = true := hw _ (List.mem_of_getElem? (i := 198) rfl)
theorem w_199 {a0 : Array Value} {Z : State} (hw : Hw a0 Z) : (Jvm.Cond.lays "java/lang/StringBuilder" "java/lang/AbstractStringBuilder" "count" "I").before a0 Z = true := hw _ (List.mem_of_getElem? (i := 199) rfl)
theorem w_200 {a0 : Array Value} {Z : State} (hw : Hw a0 Z) : (Jvm.Cond.methodLink "java/lang/AbstractStringBuilder" (100 : Nat) ({ cls := "java/lang/AbstractStringBuilder", name := "ensureCapacityInternal", desc := "(I)V" } : Jvm.MethodName)).before a0 Z = true := hw _ (List.mem_of_getElem? (i := 200) rfl)
theorem w_201 {a0 : Array Value} {Z : State} (hw : Hw a0 Z) : (Jvm.Cond.instanceMethod ({ cls := "java/lang/AbstractStringBuilder", name := "ensureCapacityInternal", desc := "(I)V" } : Jvm.MethodName)).before a0 Z = true := hw _ (List.mem_of_getElem? (i := 201) rfl)
theorem w_203 {a0 : Array Value} {Z : State} (hw : Hw a0 Z) : (Jvm.Cond.selects "java/lang/StringBuilder" ({ cls := "java/lang/AbstractStringBuilder", name := "ensureCapacityInternal", desc := "(I)V" } : Jvm.MethodName) ({ cls := "java/lang/AbstractStringBuilder", name := "ensureCapacityInternal", desc := "(I)V" } : Jvm.MethodName)).before a0 Z = true := hw _ (List.mem_of_getElem? (i := 203) rfl)
theorem w_204 {a0 : Array Value} {Z : State} (hw : Hw a0 Z) : (Jvm.Cond.code ({ cls := "java/lang/AbstractStringBuilder", name := "ensureCapacityInternal", desc := "(I)V" } : Jvm.MethodName) jdk_68_method_9_code (3 : Nat) (Option.none : Option Jvm.ClassFile.FieldType)).before a0 Z = true := hw _ (List.mem_of_getElem? (i := 204) rfl)
theorem w_205 {a0 : Array Value} {Z : State} (hw : Hw a0 Z) : (Jvm.Cond.methodLink "java/lang/AbstractStringBuilder" (83 : Nat) ({ cls := "java/lang/AbstractStringBuilder", name := "isLatin1", desc := "()Z" } : Jvm.MethodName)).before a0 Z = true := hw _ (List.mem_of_getElem? (i := 205) rfl)
theorem w_206 {a0 : Array Value} {Z : State} (hw : Hw a0 Z) : (Jvm.Cond.declares ({ cls := "java/lang/AbstractStringBuilder", name := "isLatin1", desc := "()Z" } : Jvm.MethodName)).before a0 Z = true := hw _ (List.mem_of_getElem? (i := 206) rfl)
theorem w_207 {a0 : Array Value} {Z : State} (hw : Hw a0 Z) : (Jvm.Cond.instanceMethod ({ cls := "java/lang/AbstractStringBuilder", name := "isLatin1", desc := "()Z" } : Jvm.MethodName)).before a0 Z = true := hw _ (List.mem_of_getElem? (i := 207) rfl)
theorem w_208 {a0 : Array Value} {Z : State} (hw : Hw a0 Z) : (Jvm.Cond.selects "java/lang/StringBuilder" ({ cls := "java/lang/AbstractStringBuilder", name := "isLatin1", desc := "()Z" } : Jvm.MethodName) ({ cls := "java/lang/AbstractStringBuilder", name := "isLatin1", desc := "()Z" } : Jvm.MethodName)).before a0 Z = true := hw _ (List.mem_of_getElem? (i := 208) rfl)
theorem w_209 {a0 : Array Value} {Z : State} (hw : Hw a0 Z) : (Jvm.Cond.code ({ cls := "java/lang/AbstractStringBuilder", name := "isLatin1", desc := "()Z" } : Jvm.MethodName) jdk_68_method_68_code (1 : Nat) (Option.some Jvm.ClassFile.FieldType.boolean)).before a0 Z = true := hw _ (List.mem_of_getElem? (i := 209) rfl)
theorem w_210 {a0 : Array Value} {Z : State} (hw : Hw a0 Z) : (Jvm.Cond.methodLink "java/lang/AbstractStringBuilder" (191 : Nat) ({ cls := "java/lang/StringLatin1", name := "canEncode", desc := "(C)Z" } : Jvm.MethodName)).before a0 Z = true := hw _ (List.mem_of_getElem? (i := 210) rfl)
theorem w_211 {a0 : Array Value} {Z : State} (hw : Hw a0 Z) : (Jvm.Cond.static ({ cls := "java/lang/StringLatin1", name := "canEncode", desc := "(C)Z" } : Jvm.MethodName)).before a0 Z = true := hw _ (List.mem_of_getElem? (i := 211) rfl)
theorem w_212 {a0 : Array Value} {Z : State} (hw : Hw a0 Z) : (Jvm.Cond.code ({ cls := "java/lang/StringLatin1", name := "canEncode", desc := "(C)Z" } : Jvm.MethodName) jdk_43_method_3_code (1 : Nat) (Option.some Jvm.ClassFile.FieldType.boolean)).before a0 Z = true := hw _ (List.mem_of_getElem? (i := 212) rfl)
theorem w_213 {a0 : Array Value} {Z : State} (hw : Hw a0 Z) : (Jvm.Cond.methodLink "com/example/anemone/anemone/IdempotencyKey" (74 : Nat) ({ cls := "java/lang/StringBuilder", name := "toString", desc := "()Ljava/lang/String;" } : Jvm.MethodName)).before a0 Z = true := hw _ (List.mem_of_getElem? (i := 213) rfl)
theorem w_214 {a0 : Array Value} {Z : State} (hw : Hw a0 Z) : (Jvm.Cond.declares ({ cls := "java/lang/StringBuilder", name := "toString", desc := "()Ljava/lang/String;" } : Jvm.MethodName)).before a0 Z = true := hw _ (List.mem_of_getElem? (i := 214) rfl)
theorem w_215 {a0 : Array Value} {Z : State} (hw : Hw a0 Z) : (Jvm.Cond.instanceMethod ({ cls := "java/lang/StringBuilder", name := "toString", desc := "()Ljava/lang/String;" } : Jvm.MethodName)).before a0 Z = true := hw _ (List.mem_of_getElem? (i := 215) rfl)
theorem w_216 {a0 : Array Value} {Z : State} (hw : Hw a0 Z) : (Jvm.Cond.selects "java/lang/StringBuilder" ({ cls := "java/lang/StringBuilder", name := "toString", desc := "()Ljava/lang/String;" } : Jvm.MethodName) ({ cls := "java/lang/StringBuilder", name := "toString", desc := "()Ljava/lang/String;" } : Jvm.MethodName)).before a0 Z = true := hw _ (List.mem_of_getElem? (i := 216) rfl)
theorem w_217 {a0 : Array Value} {Z : State} (hw : Hw a0 Z) : (Jvm.Cond.code ({ cls := "java/lang/StringBuilder", name := "toString", desc := "()Ljava/lang/String;" } : Jvm.MethodName) jdk_67_method_42_code (1 : Nat) (Option.some (Jvm.ClassFile.FieldType.object "java/lang/String"))).before a0 Z = true := hw _ (List.mem_of_getElem? (i := 217) rfl)
theorem w_218 {a0 : Array Value} {Z : State} (hw : Hw a0 Z) : (Jvm.Cond.classLink "java/lang/StringBuilder" (18 : Nat) "java/lang/String").before a0 Z = true := hw _ (List.mem_of_getElem? (i := 218) rfl)
theorem w_219 {a0 : Array Value} {Z : State} (hw : Hw a0 Z) : (Jvm.Cond.methodLink "java/lang/StringBuilder" (137 : Nat) ({ cls := "java/lang/String", name := "<init>", desc := "(Ljava/lang/StringBuilder;)V" } : Jvm.MethodName)).before a0 Z = true := hw _ (List.mem_of_getElem? (i := 219) rfl)
theorem w_220 {a0 : Array Value} {Z : State} (hw : Hw a0 Z) : (Jvm.Cond.instanceMethod ({ cls := "java/lang/String", name := "<init>", desc := "(Ljava/lang/StringBuilder;)V" } : Jvm.MethodName)).before a0 Z = true := hw _ (List.mem_of_getElem? (i := 220) rfl)
theorem w_221 {a0 : Array Value} {Z : State} (hw : Hw a0 Z) : (Jvm.Cond.code ({ cls := "java/lang/String", name := "<init>", desc := "(Ljava/lang/StringBuilder;)V" } : Jvm.MethodName) jdk_42_method_53_code (2 : Nat) (Option.none : Option Jvm.ClassFile.FieldType)).before a0 Z = true := hw _ (List.mem_of_getElem? (i := 221) rfl)
theorem w_222 {a0 : Array Value} {Z : State} (hw : Hw a0 Z) : (Jvm.Cond.methodLink "java/lang/String" (489 : Nat) ({ cls := "java/lang/String", name := "<init>", desc := "(Ljava/lang/AbstractStringBuilder;Ljava/lang/Void;)V" } : Jvm.MethodName)).before a0 Z = true := hw _ (List.mem_of_getElem? (i := 222) rfl)
theorem w_223 {a0 : Array Value} {Z : State} (hw : Hw a0 Z) : (Jvm.Cond.instanceMethod ({ cls := "java/lang/String", name := "<init>", desc := "(Ljava/lang/AbstractStringBuilder;Ljava/lang/Void;)V" } : Jvm.MethodName)).before a0 Z = true := hw _ (List.mem_of_getElem? (i := 223) rfl)
theorem w_224 {a0 : Array Value} {Z : State} (hw : Hw a0 Z) : (Jvm.Cond.code ({ cls := "java/lang/String", name := "<init>", desc := "(Ljava/lang/AbstractStringBuilder;Ljava/lang/Void;)V" } : Jvm.MethodName) jdk_42_method_150_code (5 : Nat) (Option.none : Option Jvm.ClassFile.FieldType)).before a0 Z = true := hw _ (List.mem_of_getElem? (i := 224) rfl)
theorem w_225 {a0 : Array Value} {Z : State} (hw : Hw a0 Z) : (Jvm.Cond.methodLink "java/lang/String" (552 : Nat) ({ cls := "java/lang/AbstractStringBuilder", name := "getValue", desc := "()[B" } : Jvm.MethodName)).before a0 Z = true := hw _ (List.mem_of_getElem? (i := 225) rfl)
theorem w_226 {a0 : Array Value} {Z : State} (hw : Hw a0 Z) : (Jvm.Cond.declares ({ cls := "java/lang/AbstractStringBuilder", name := "getValue", desc := "()[B" } : Jvm.MethodName)).before a0 Z = true := hw _ (List.mem_of_getElem? (i := 226) rfl)
theorem w_227 {a0 : Array Value} {Z : State} (hw : Hw a0 Z) : (Jvm.Cond.instanceMethod ({ cls := "java/lang/AbstractStringBuilder", name := "getValue", desc := "()[B" } : Jvm.MethodName)).before a0 Z = true := hw _ (List.mem_of_getElem? (i := 227) rfl)
theorem w_228 {a0 : Array Value} {Z : State} (hw : Hw a0 Z) : (Jvm.Cond.selects "java/lang/StringBuilder" ({ cls := "java/lang/AbstractStringBuilder", name := "getValue", desc := "()[B" } : Jvm.MethodName) ({ cls := "java/lang/AbstractStringBuilder", name := "getValue", desc := "()[B" } : Jvm.MethodName)).before a0 Z = true := hw _ (List.mem_of_getElem? (i := 228) rfl)
theorem w_229 {a0 : Array Value} {Z : State} (hw : Hw a0 Z) : (Jvm.Cond.code ({ cls := "java/lang/AbstractStringBuilder", name := "getValue", desc := "()[B" } : Jvm.MethodName) jdk_68_method_64_code (1 : Nat) (Option.some (Jvm.ClassFile.FieldType.array Jvm.ClassFile.FieldType.byte))).before a0 Z = true := hw _ (List.mem_of_getElem? (i := 229) rfl)
theorem w_230 {a0 : Array Value} {Z : State} (hw : Hw a0 Z) : (Jvm.Cond.methodLink "java/lang/String" (549 : Nat) ({ cls := "java/lang/AbstractStringBuilder", name := "length", desc := "()I" } : Jvm.MethodName)).before a0 Z = true := hw _ (List.mem_of_getElem? (i := 230) rfl)
theorem w_231 {a0 : Array Value} {Z : State} (hw : Hw a0 Z) : (Jvm.Cond.declares ({ cls := "java/lang/AbstractStringBuilder", name := "length", desc := "()I" } : Jvm.MethodName)).before a0 Z = true := hw _ (List.mem_of_getElem? (i := 231) rfl)
theorem w_232 {a0 : Array Value} {Z : State} (hw : Hw a0 Z) : (Jvm.Cond.instanceMethod ({ cls := "java/lang/AbstractStringBuilder", name := "length", desc := "()I" } : Jvm.MethodName)).before a0 Z = true := hw _ (List.mem_of_getElem? (i := 232) rfl)
theorem w_233 {a0 : Array Value} {Z : State} (hw : Hw a0 Z) : (Jvm.Cond.selects "java/lang/StringBuilder" ({ cls := "java/lang/AbstractStringBuilder", name := "length", desc := "()I" } : Jvm.MethodName) ({ cls := "java/lang/StringBuilder", name := "length", desc := "()I" } : Jvm.MethodName)).before a0 Z = true := hw _ (List.mem_of_getElem? (i := 233) rfl)
theorem w_234 {a0 : Array Value} {Z : State} (hw : Hw a0 Z) : (Jvm.Cond.instanceMethod ({ cls := "java/lang/StringBuilder", name := "length", desc := "()I" } : Jvm.MethodName)).before a0 Z = true := hw _ (List.mem_of_getElem? (i := 234) rfl)
theorem w_235 {a0 : Array Value} {Z : State} (hw : Hw a0 Z) : (Jvm.Cond.code ({ cls := "java/lang/StringBuilder", name := "length", desc := "()I" } : Jvm.MethodName) jdk_67_method_93_code (1 : Nat) (Option.some Jvm.ClassFile.FieldType.int)).before a0 Z = true := hw _ (List.mem_of_getElem? (i := 235) rfl)
theorem w_236 {a0 : Array Value} {Z : State} (hw : Hw a0 Z) : (Jvm.Cond.methodLink "java/lang/StringBuilder" (343 : Nat) ({ cls := "java/lang/AbstractStringBuilder", name := "length", desc := "()I" } : Jvm.MethodName)).before a0 Z = true := hw _ (List.mem_of_getElem? (i := 236) rfl)
theorem w_237 {a0 : Array Value} {Z : State} (hw : Hw a0 Z) : (Jvm.Cond.code ({ cls := "java/lang/AbstractStringBuilder", name := "length", desc := "()I" } : Jvm.MethodName) jdk_68_method_6_code (1 : Nat) (Option.some Jvm.ClassFile.FieldType.int)).before a0 Z = true := hw _ (List.mem_of_getElem? (i := 237) rfl)
theorem w_238 {a0 : Array Value} {Z : State} (hw : Hw a0 Z) : (Jvm.Cond.methodLink "java/lang/String" (1047 : Nat) ({ cls := "java/lang/AbstractStringBuilder", name := "isLatin1", desc := "()Z" } : Jvm.MethodName)).before a0 Z = true := hw _ (List.mem_of_getElem? (i := 238) rfl)
theorem w_239 {a0 : Array Value} {Z : State} (hw : Hw a0 Z) : (Jvm.Cond.methodLink "java/lang/String" (54 : Nat) ({ cls := "java/util/Arrays", name := "copyOfRange", desc := "([BII)[B" } : Jvm.MethodName)).before a0 Z = true := hw _ (List.mem_of_getElem? (i := 239) rfl)
theorem w_240 {a0 : Array Value} {Z : State} (hw : Hw a0 Z) : (Jvm.Cond.methodLink "com/example/anemone/anemone/IdempotencyKeyParsePinLaw" (55 : Nat) ({ cls := "com/example/anemone/anemone/IdempotencyKeyParsePinLaw", name := "plainQuotedChar", desc := "(I)C" } : Jvm.MethodName)).before a0 Z = true := hw _ (List.mem_of_getElem? (i := 240) rfl)
theorem w_241 {a0 : Array Value} {Z : State} (hw : Hw a0 Z) : (Jvm.Cond.static ({ cls := "com/example/anemone/anemone/IdempotencyKeyParsePinLaw", name := "plainQuotedChar", desc := "(I)C" } : Jvm.MethodName)).before a0 Z = true := hw _ (List.mem_of_getElem? (i := 241) rfl)
theorem w_242 {a0 : Array Value} {Z : State} (hw : Hw a0 Z) : (Jvm.Cond.code ({ cls := "com/example/anemone/anemone/IdempotencyKeyParsePinLaw", name := "plainQuotedChar", desc := "(I)C" } : Jvm.MethodName) method_7_code (2 : Nat) (Option.some Jvm.ClassFile.FieldType.char)).before a0 Z = true := hw _ (List.mem_of_getElem? (i := 242) rfl)
theorem d29_0 : decode jdk_29_method_69_code 0 = .ok (.iload_n 0, 1) := by decide +kernel
theorem d29_1 : decode jdk_29_method_69_code 1 = .ok (.iload_n 1, 1) := by decide +kernel
theorem d29_2 : decode jdk_29_method_69_code 2 = .ok (.if_icmp .gt 7, 3) := by decide +kernel
theorem d29_5 : decode jdk_29_method_69_code 5 = .ok (.iload_n 0, 1) := by decide +kernel
theorem d29_6 : decode jdk_29_method_69_code 6 = .ok (.goto 4, 3) := by decide +kernel
theorem d29_9 : decode jdk_29_method_69_code 9 = .ok (.iload_n 1, 1) := by decide +kernel
theorem d29_10 : decode jdk_29_method_69_code 10 = .ok (.ireturn, 1) := by decide +kernel
theorem d35_0 : decode jdk_30_method_1_code 0 = .ok (.aload_n 0, 1) := by decide +kernel
theorem d35_1 : decode jdk_30_method_1_code 1 = .ok (.invokespecial 1, 3) := by decide +kernel
theorem d35_4 : decode jdk_30_method_1_code 4 = .ok (.return_, 1) := by decide +kernel
theorem d12_0 : decode jdk_31_method_11_code 0 = .ok (.aload_n 0, 1) := by decide +kernel
theorem d12_1 : decode jdk_31_method_11_code 1 = .ok (.ifnonnull 12, 3) := by decide +kernel
theorem d12_13 : decode jdk_31_method_11_code 13 = .ok (.aload_n 0, 1) := by decide +kernel
theorem d12_14 : decode jdk_31_method_11_code 14 = .ok (.areturn, 1) := by decide +kernel
theorem d20_0 : decode jdk_41_method_11_code 0 = .ok (.iload_n 0, 1) := by decide +kernel
theorem d20_1 : decode jdk_41_method_11_code 1 = .ok (.ifCond .lt 8, 3) := by decide +kernel
theorem d20_4 : decode jdk_41_method_11_code 4 = .ok (.iload_n 0, 1) := by decide +kernel
theorem d20_5 : decode jdk_41_method_11_code 5 = .ok (.iload_n 1, 1) := by decide +kernel
theorem d20_6 : decode jdk_41_method_11_code 6 = .ok (.if_icmp .lt 10, 3) := by decide +kernel
theorem d20_16 : decode jdk_41_method_11_code 16 = .ok (.iload_n 0, 1) := by decide +kernel
theorem d20_17 : decode jdk_41_method_11_code 17 = .ok (.ireturn, 1) := by decide +kernel
theorem d24_0 : decode jdk_41_method_12_code 0 = .ok (.iload_n 0, 1) := by decide +kernel
theorem d24_1 : decode jdk_41_method_12_code 1 = .ok (.ifCond .lt 13, 3) := by decide +kernel
theorem d24_4 : decode jdk_41_method_12_code 4 = .ok (.iload_n 0, 1) := by decide +kernel
theorem d24_5 : decode jdk_41_method_12_code 5 = .ok (.iload_n 1, 1) := by decide +kernel
theorem d24_6 : decode jdk_41_method_12_code 6 = .ok (.if_icmp .gt 8, 3) := by decide +kernel
theorem d24_9 : decode jdk_41_method_12_code 9 = .ok (.iload_n 1, 1) := by decide +kernel
theorem d24_10 : decode jdk_41_method_12_code 10 = .ok (.iload_n 2, 1) := by decide +kernel
theorem d24_11 : decode jdk_41_method_12_code 11 = .ok (.if_icmp .le 11, 3) := by decide +kernel
theorem d24_22 : decode jdk_41_method_12_code 22 = .ok (.iload_n 0, 1) := by decide +kernel
theorem d24_23 : decode jdk_41_method_12_code 23 = .ok (.ireturn, 1) := by decide +kernel
theorem d49_0 : decode jdk_42_method_150_code 0 = .ok (.aload_n 0, 1) := by decide +kernel
theorem d49_1 : decode jdk_42_method_150_code 1 = .ok (.invokespecial 1, 3) := by decide +kernel
theorem d49_4 : decode jdk_42_method_150_code 4 = .ok (.aload_n 1, 1) := by decide +kernel
theorem d49_5 : decode jdk_42_method_150_code 5 = .ok (.invokevirtual 552, 3) := by decide +kernel
theorem d49_8 : decode jdk_42_method_150_code 8 = .ok (.astore_n 3, 1) := by decide +kernel
theorem d49_9 : decode jdk_42_method_150_code 9 = .ok (.aload_n 1, 1) := by decide +kernel
theorem d49_10 : decode jdk_42_method_150_code 10 = .ok (.invokevirtual 549, 3) := by decide +kernel
theorem d49_13 : decode jdk_42_method_150_code 13 = .ok (.istore 4, 2) := by decide +kernel
theorem d49_15 : decode jdk_42_method_150_code 15 = .ok (.aload_n 1, 1) := by decide +kernel
theorem d49_16 : decode jdk_42_method_150_code 16 = .ok (.invokevirtual 1047, 3) := by decide +kernel
theorem d49_19 : decode jdk_42_method_150_code 19 = .ok (.ifCond .eq 22, 3) := by decide +kernel
theorem d49_22 : decode jdk_42_method_150_code 22 = .ok (.aload_n 0, 1) := by decide +kernel
theorem d49_23 : decode jdk_42_method_150_code 23 = .ok (.iconst 0, 1) := by decide +kernel
theorem d49_24 : decode jdk_42_method_150_code 24 = .ok (.putfield 15, 3) := by decide +kernel
theorem d49_27 : decode jdk_42_method_150_code 27 = .ok (.aload_n 0, 1) := by decide +kernel
theorem d49_28 : decode jdk_42_method_150_code 28 = .ok (.aload_n 3, 1) := by decide +kernel
theorem d49_29 : decode jdk_42_method_150_code 29 = .ok (.iconst 0, 1) := by decide +kernel
theorem d49_30 : decode jdk_42_method_150_code 30 = .ok (.iload 4, 2) := by decide +kernel
theorem d49_32 : decode jdk_42_method_150_code 32 = .ok (.invokestatic 54, 3) := by decide +kernel
theorem d49_35 : decode jdk_42_method_150_code 35 = .ok (.putfield 9, 3) := by decide +kernel
theorem d49_38 : decode jdk_42_method_150_code 38 = .ok (.goto 59, 3) := by decide +kernel
theorem d49_97 : decode jdk_42_method_150_code 97 = .ok (.return_, 1) := by decide +kernel
theorem d30_0 : decode jdk_42_method_151_code 0 = .ok (.aload_n 0, 1) := by decide +kernel
theorem d30_1 : decode jdk_42_method_151_code 1 = .ok (.invokespecial 1, 3) := by decide +kernel
theorem d30_4 : decode jdk_42_method_151_code 4 = .ok (.aload_n 0, 1) := by decide +kernel
theorem d30_5 : decode jdk_42_method_151_code 5 = .ok (.aload_n 1, 1) := by decide +kernel
theorem d30_6 : decode jdk_42_method_151_code 6 = .ok (.putfield 9, 3) := by decide +kernel
theorem d30_9 : decode jdk_42_method_151_code 9 = .ok (.aload_n 0, 1) := by decide +kernel
theorem d30_10 : decode jdk_42_method_151_code 10 = .ok (.iload_n 2, 1) := by decide +kernel
theorem d30_11 : decode jdk_42_method_151_code 11 = .ok (.putfield 15, 3) := by decide +kernel
theorem d30_14 : decode jdk_42_method_151_code 14 = .ok (.return_, 1) := by decide +kernel
theorem d15_0 : decode jdk_42_method_152_code 0 = .ok (.getstatic 38, 3) := by decide +kernel
theorem d15_3 : decode jdk_42_method_152_code 3 = .ok (.ifCond .eq 10, 3) := by decide +kernel
theorem d15_6 : decode jdk_42_method_152_code 6 = .ok (.aload_n 0, 1) := by decide +kernel
theorem d15_7 : decode jdk_42_method_152_code 7 = .ok (.getfield 15, 3) := by decide +kernel
theorem d15_10 : decode jdk_42_method_152_code 10 = .ok (.goto 4, 3) := by decide +kernel
theorem d15_14 : decode jdk_42_method_152_code 14 = .ok (.ireturn, 1) := by decide +kernel
theorem d17_0 : decode jdk_42_method_154_code 0 = .ok (.getstatic 38, 3) := by decide +kernel
theorem d17_3 : decode jdk_42_method_154_code 3 = .ok (.ifCond .eq 14, 3) := by decide +kernel
theorem d17_6 : decode jdk_42_method_154_code 6 = .ok (.aload_n 0, 1) := by decide +kernel
theorem d17_7 : decode jdk_42_method_154_code 7 = .ok (.getfield 15, 3) := by decide +kernel
theorem d17_10 : decode jdk_42_method_154_code 10 = .ok (.ifCond .ne 7, 3) := by decide +kernel
theorem d17_13 : decode jdk_42_method_154_code 13 = .ok (.iconst 1, 1) := by decide +kernel
theorem d17_14 : decode jdk_42_method_154_code 14 = .ok (.goto 4, 3) := by decide +kernel
theorem d17_18 : decode jdk_42_method_154_code 18 = .ok (.ireturn, 1) := by decide +kernel
theorem d19_0 : decode jdk_42_method_155_code 0 = .ok (.iload_n 0, 1) := by decide +kernel
theorem d19_1 : decode jdk_42_method_155_code 1 = .ok (.iload_n 1, 1) := by decide +kernel
theorem d19_2 : decode jdk_42_method_155_code 2 = .ok (.getstatic 1053, 3) := by decide +kernel
theorem d19_5 : decode jdk_42_method_155_code 5 = .ok (.invokestatic 1059, 3) := by decide +kernel
theorem d19_8 : decode jdk_42_method_155_code 8 = .ok (.pop, 1) := by decide +kernel
theorem d19_9 : decode jdk_42_method_155_code 9 = .ok (.return_, 1) := by decide +kernel
theorem d23_0 : decode jdk_42_method_158_code 0 = .ok (.iload_n 0, 1) := by decide +kernel
theorem d23_1 : decode jdk_42_method_158_code 1 = .ok (.iload_n 1, 1) := by decide +kernel
theorem d23_2 : decode jdk_42_method_158_code 2 = .ok (.iload_n 2, 1) := by decide +kernel
theorem d23_3 : decode jdk_42_method_158_code 3 = .ok (.getstatic 1053, 3) := by decide +kernel
theorem d23_6 : decode jdk_42_method_158_code 6 = .ok (.invokestatic 1062, 3) := by decide +kernel
theorem d23_9 : decode jdk_42_method_158_code 9 = .ok (.pop, 1) := by decide +kernel
theorem d23_10 : decode jdk_42_method_158_code 10 = .ok (.return_, 1) := by decide +kernel
theorem d48_0 : decode jdk_42_method_53_code 0 = .ok (.aload_n 0, 1) := by decide +kernel
theorem d48_1 : decode jdk_42_method_53_code 1 = .ok (.aload_n 1, 1) := by decide +kernel
theorem d48_2 : decode jdk_42_method_53_code 2 = .ok (.aconst_null, 1) := by decide +kernel
theorem d48_3 : decode jdk_42_method_53_code 3 = .ok (.invokespecial 489, 3) := by decide +kernel
theorem d48_6 : decode jdk_42_method_53_code 6 = .ok (.return_, 1) := by decide +kernel
theorem d14_0 : decode jdk_42_method_54_code 0 = .ok (.aload_n 0, 1) := by decide +kernel
theorem d14_1 : decode jdk_42_method_54_code 1 = .ok (.getfield 9, 3) := by decide +kernel
theorem d14_4 : decode jdk_42_method_54_code 4 = .ok (.arraylength, 1) := by decide +kernel
theorem d14_5 : decode jdk_42_method_54_code 5 = .ok (.aload_n 0, 1) := by decide +kernel
theorem d14_6 : decode jdk_42_method_54_code 6 = .ok (.invokevirtual 335, 3) := by decide +kernel
theorem d14_9 : decode jdk_42_method_54_code 9 = .ok (.ishr, 1) := by decide +kernel
theorem d14_10 : decode jdk_42_method_54_code 10 = .ok (.ireturn, 1) := by decide +kernel
theorem d31_0 : decode jdk_42_method_55_code 0 = .ok (.aload_n 0, 1) := by decide +kernel
theorem d31_1 : decode jdk_42_method_55_code 1 = .ok (.getfield 9, 3) := by decide +kernel
theorem d31_4 : decode jdk_42_method_55_code 4 = .ok (.arraylength, 1) := by decide +kernel
theorem d31_5 : decode jdk_42_method_55_code 5 = .ok (.ifCond .ne 7, 3) := by decide +kernel
theorem d31_12 : decode jdk_42_method_55_code 12 = .ok (.iconst 0, 1) := by decide +kernel
theorem d31_13 : decode jdk_42_method_55_code 13 = .ok (.ireturn, 1) := by decide +kernel
theorem d16_0 : decode jdk_42_method_56_code 0 = .ok (.aload_n 0, 1) := by decide +kernel
theorem d16_1 : decode jdk_42_method_56_code 1 = .ok (.invokevirtual 492, 3) := by decide +kernel
theorem d16_4 : decode jdk_42_method_56_code 4 = .ok (.ifCond .eq 12, 3) := by decide +kernel
theorem d16_7 : decode jdk_42_method_56_code 7 = .ok (.aload_n 0, 1) := by decide +kernel
theorem d16_8 : decode jdk_42_method_56_code 8 = .ok (.getfield 9, 3) := by decide +kernel
theorem d16_11 : decode jdk_42_method_56_code 11 = .ok (.iload_n 1, 1) := by decide +kernel
theorem d16_12 : decode jdk_42_method_56_code 12 = .ok (.invokestatic 495, 3) := by decide +kernel
theorem d16_15 : decode jdk_42_method_56_code 15 = .ok (.ireturn, 1) := by decide +kernel
theorem d22_0 : decode jdk_42_method_92_code 0 = .ok (.aload_n 0, 1) := by decide +kernel
theorem d22_1 : decode jdk_42_method_92_code 1 = .ok (.invokevirtual 505, 3) := by decide +kernel
theorem d22_4 : decode jdk_42_method_92_code 4 = .ok (.istore_n 3, 1) := by decide +kernel
theorem d22_5 : decode jdk_42_method_92_code 5 = .ok (.iload_n 1, 1) := by decide +kernel
theorem d22_6 : decode jdk_42_method_92_code 6 = .ok (.iload_n 2, 1) := by decide +kernel
theorem d22_7 : decode jdk_42_method_92_code 7 = .ok (.iload_n 3, 1) := by decide +kernel
theorem d22_8 : decode jdk_42_method_92_code 8 = .ok (.invokestatic 521, 3) := by decide +kernel
theorem d22_11 : decode jdk_42_method_92_code 11 = .ok (.iload_n 1, 1) := by decide +kernel
theorem d22_12 : decode jdk_42_method_92_code 12 = .ok (.ifCond .ne 10, 3) := by decide +kernel
theorem d22_15 : decode jdk_42_method_92_code 15 = .ok (.iload_n 2, 1) := by decide +kernel
theorem d22_16 : decode jdk_42_method_92_code 16 = .ok (.iload_n 3, 1) := by decide +kernel
theorem d22_17 : decode jdk_42_method_92_code 17 = .ok (.if_icmp .ne 5, 3) := by decide +kernel
theorem d22_20 : decode jdk_42_method_92_code 20 = .ok (.aload_n 0, 1) := by decide +kernel
theorem d22_21 : decode jdk_42_method_92_code 21 = .ok (.areturn, 1) := by decide +kernel
theorem d22_22 : decode jdk_42_method_92_code 22 = .ok (.iload_n 2, 1) := by decide +kernel
theorem d22_23 : decode jdk_42_method_92_code 23 = .ok (.iload_n 1, 1) := by decide +kernel
theorem d22_24 : decode jdk_42_method_92_code 24 = .ok (.isub, 1) := by decide +kernel
theorem d22_25 : decode jdk_42_method_92_code 25 = .ok (.istore 4, 2) := by decide +kernel
theorem d22_27 : decode jdk_42_method_92_code 27 = .ok (.aload_n 0, 1) := by decide +kernel
theorem d22_28 : decode jdk_42_method_92_code 28 = .ok (.invokevirtual 492, 3) := by decide +kernel
theorem d22_31 : decode jdk_42_method_92_code 31 = .ok (.ifCond .eq 16, 3) := by decide +kernel
theorem d22_34 : decode jdk_42_method_92_code 34 = .ok (.aload_n 0, 1) := by decide +kernel
theorem d22_35 : decode jdk_42_method_92_code 35 = .ok (.getfield 9, 3) := by decide +kernel
theorem d22_38 : decode jdk_42_method_92_code 38 = .ok (.iload_n 1, 1) := by decide +kernel
theorem d22_39 : decode jdk_42_method_92_code 39 = .ok (.iload 4, 2) := by decide +kernel
theorem d22_41 : decode jdk_42_method_92_code 41 = .ok (.invokestatic 685, 3) := by decide +kernel
theorem d22_44 : decode jdk_42_method_92_code 44 = .ok (.goto 13, 3) := by decide +kernel
theorem d22_57 : decode jdk_42_method_92_code 57 = .ok (.areturn, 1) := by decide +kernel
theorem d18_0 : decode jdk_43_method_2_code 0 = .ok (.iload_n 1, 1) := by decide +kernel
theorem d18_1 : decode jdk_43_method_2_code 1 = .ok (.aload_n 0, 1) := by decide +kernel
theorem d18_2 : decode jdk_43_method_2_code 2 = .ok (.arraylength, 1) := by decide +kernel
theorem d18_3 : decode jdk_43_method_2_code 3 = .ok (.invokestatic 9, 3) := by decide +kernel
theorem d18_6 : decode jdk_43_method_2_code 6 = .ok (.aload_n 0, 1) := by decide +kernel
theorem d18_7 : decode jdk_43_method_2_code 7 = .ok (.iload_n 1, 1) := by decide +kernel
theorem d18_8 : decode jdk_43_method_2_code 8 = .ok (.baload, 1) := by decide +kernel
theorem d18_9 : decode jdk_43_method_2_code 9 = .ok (.sipush 255, 3) := by decide +kernel
theorem d18_12 : decode jdk_43_method_2_code 12 = .ok (.iand, 1) := by decide +kernel
theorem d18_13 : decode jdk_43_method_2_code 13 = .ok (.i2c, 1) := by decide +kernel
theorem d18_14 : decode jdk_43_method_2_code 14 = .ok (.ireturn, 1) := by decide +kernel
theorem d46_0 : decode jdk_43_method_3_code 0 = .ok (.iload_n 0, 1) := by decide +kernel
theorem d46_1 : decode jdk_43_method_3_code 1 = .ok (.sipush 255, 3) := by decide +kernel
theorem d46_4 : decode jdk_43_method_3_code 4 = .ok (.if_icmp .gt 7, 3) := by decide +kernel
theorem d46_7 : decode jdk_43_method_3_code 7 = .ok (.iconst 1, 1) := by decide +kernel
theorem d46_8 : decode jdk_43_method_3_code 8 = .ok (.goto 4, 3) := by decide +kernel
theorem d46_12 : decode jdk_43_method_3_code 12 = .ok (.ireturn, 1) := by decide +kernel
theorem d25_0 : decode jdk_43_method_47_code 0 = .ok (.iload_n 2, 1) := by decide +kernel
theorem d25_1 : decode jdk_43_method_47_code 1 = .ok (.ifCond .ne 6, 3) := by decide +kernel
theorem d25_7 : decode jdk_43_method_47_code 7 = .ok (.new 1, 3) := by decide +kernel
theorem d25_10 : decode jdk_43_method_47_code 10 = .ok (.dup, 1) := by decide +kernel
theorem d25_11 : decode jdk_43_method_47_code 11 = .ok (.aload_n 0, 1) := by decide +kernel
theorem d25_12 : decode jdk_43_method_47_code 12 = .ok (.iload_n 1, 1) := by decide +kernel
theorem d25_13 : decode jdk_43_method_47_code 13 = .ok (.iload_n 1, 1) := by decide +kernel
theorem d25_14 : decode jdk_43_method_47_code 14 = .ok (.iload_n 2, 1) := by decide +kernel
theorem d25_15 : decode jdk_43_method_47_code 15 = .ok (.iadd, 1) := by decide +kernel
theorem d25_16 : decode jdk_43_method_47_code 16 = .ok (.invokestatic 232, 3) := by decide +kernel
theorem d25_19 : decode jdk_43_method_47_code 19 = .ok (.iconst 0, 1) := by decide +kernel
theorem d25_20 : decode jdk_43_method_47_code 20 = .ok (.invokespecial 112, 3) := by decide +kernel
theorem d25_23 : decode jdk_43_method_47_code 23 = .ok (.areturn, 1) := by decide +kernel
theorem d28_0 : decode jdk_65_method_131_code 0 = .ok (.iload_n 1, 1) := by decide +kernel
theorem d28_1 : decode jdk_65_method_131_code 1 = .ok (.iload_n 0, 1) := by decide +kernel
theorem d28_2 : decode jdk_65_method_131_code 2 = .ok (.if_icmp .ge 35, 3) := by decide +kernel
theorem d28_37 : decode jdk_65_method_131_code 37 = .ok (.return_, 1) := by decide +kernel
theorem d26_0 : decode jdk_65_method_132_code 0 = .ok (.iload_n 1, 1) := by decide +kernel
theorem d26_1 : decode jdk_65_method_132_code 1 = .ok (.ifCond .ne 9, 3) := by decide +kernel
theorem d26_4 : decode jdk_65_method_132_code 4 = .ok (.iload_n 2, 1) := by decide +kernel
theorem d26_5 : decode jdk_65_method_132_code 5 = .ok (.aload_n 0, 1) := by decide +kernel
theorem d26_6 : decode jdk_65_method_132_code 6 = .ok (.arraylength, 1) := by decide +kernel
theorem d26_7 : decode jdk_65_method_132_code 7 = .ok (.if_icmp .eq 10, 3) := by decide +kernel
theorem d26_10 : decode jdk_65_method_132_code 10 = .ok (.aload_n 0, 1) := by decide +kernel
theorem d26_11 : decode jdk_65_method_132_code 11 = .ok (.iload_n 1, 1) := by decide +kernel
theorem d26_12 : decode jdk_65_method_132_code 12 = .ok (.iload_n 2, 1) := by decide +kernel
theorem d26_13 : decode jdk_65_method_132_code 13 = .ok (.invokestatic 339, 3) := by decide +kernel
theorem d26_16 : decode jdk_65_method_132_code 16 = .ok (.areturn, 1) := by decide +kernel
theorem d27_0 : decode jdk_65_method_133_code 0 = .ok (.iload_n 1, 1) := by decide +kernel
theorem d27_1 : decode jdk_65_method_133_code 1 = .ok (.iload_n 2, 1) := by decide +kernel
theorem d27_2 : decode jdk_65_method_133_code 2 = .ok (.invokestatic 343, 3) := by decide +kernel
theorem d27_5 : decode jdk_65_method_133_code 5 = .ok (.iload_n 2, 1) := by decide +kernel
theorem d27_6 : decode jdk_65_method_133_code 6 = .ok (.iload_n 1, 1) := by decide +kernel
theorem d27_7 : decode jdk_65_method_133_code 7 = .ok (.isub, 1) := by decide +kernel
theorem d27_8 : decode jdk_65_method_133_code 8 = .ok (.istore_n 3, 1) := by decide +kernel
theorem d27_9 : decode jdk_65_method_133_code 9 = .ok (.iload_n 3, 1) := by decide +kernel
theorem d27_10 : decode jdk_65_method_133_code 10 = .ok (.newarray .byte, 2) := by decide +kernel
theorem d27_12 : decode jdk_65_method_133_code 12 = .ok (.astore 4, 2) := by decide +kernel
theorem d27_14 : decode jdk_65_method_133_code 14 = .ok (.aload_n 0, 1) := by decide +kernel
theorem d27_15 : decode jdk_65_method_133_code 15 = .ok (.iload_n 1, 1) := by decide +kernel
theorem d27_16 : decode jdk_65_method_133_code 16 = .ok (.aload 4, 2) := by decide +kernel
theorem d27_18 : decode jdk_65_method_133_code 18 = .ok (.iconst 0, 1) := by decide +kernel
theorem d27_19 : decode jdk_65_method_133_code 19 = .ok (.aload_n 0, 1) := by decide +kernel
theorem d27_20 : decode jdk_65_method_133_code 20 = .ok (.arraylength, 1) := by decide +kernel
theorem d27_21 : decode jdk_65_method_133_code 21 = .ok (.iload_n 1, 1) := by decide +kernel
theorem d27_22 : decode jdk_65_method_133_code 22 = .ok (.isub, 1) := by decide +kernel
theorem d27_23 : decode jdk_65_method_133_code 23 = .ok (.iload_n 3, 1) := by decide +kernel
theorem d27_24 : decode jdk_65_method_133_code 24 = .ok (.invokestatic 304, 3) := by decide +kernel
theorem d27_27 : decode jdk_65_method_133_code 27 = .ok (.invokestatic 150, 3) := by decide +kernel
theorem d27_30 : decode jdk_65_method_133_code 30 = .ok (.aload 4, 2) := by decide +kernel
theorem d27_32 : decode jdk_65_method_133_code 32 = .ok (.areturn, 1) := by decide +kernel
theorem d42_0 : decode jdk_67_method_14_code 0 = .ok (.aload_n 0, 1) := by decide +kernel
theorem d42_1 : decode jdk_67_method_14_code 1 = .ok (.iload_n 1, 1) := by decide +kernel
theorem d42_2 : decode jdk_67_method_14_code 2 = .ok (.invokespecial 50, 3) := by decide +kernel
theorem d42_5 : decode jdk_67_method_14_code 5 = .ok (.pop, 1) := by decide +kernel
theorem d42_6 : decode jdk_67_method_14_code 6 = .ok (.aload_n 0, 1) := by decide +kernel
theorem d42_7 : decode jdk_67_method_14_code 7 = .ok (.areturn, 1) := by decide +kernel
theorem d40_0 : decode jdk_67_method_2_code 0 = .ok (.aload_n 0, 1) := by decide +kernel
theorem d40_1 : decode jdk_67_method_2_code 1 = .ok (.iload_n 1, 1) := by decide +kernel
theorem d40_2 : decode jdk_67_method_2_code 2 = .ok (.invokespecial 1, 3) := by decide +kernel
theorem d40_5 : decode jdk_67_method_2_code 5 = .ok (.return_, 1) := by decide +kernel
theorem d47_0 : decode jdk_67_method_42_code 0 = .ok (.new 18, 3) := by decide +kernel
theorem d47_3 : decode jdk_67_method_42_code 3 = .ok (.dup, 1) := by decide +kernel
theorem d47_4 : decode jdk_67_method_42_code 4 = .ok (.aload_n 0, 1) := by decide +kernel
theorem d47_5 : decode jdk_67_method_42_code 5 = .ok (.invokespecial 137, 3) := by decide +kernel
theorem d47_8 : decode jdk_67_method_42_code 8 = .ok (.areturn, 1) := by decide +kernel
theorem d51_0 : decode jdk_67_method_93_code 0 = .ok (.aload_n 0, 1) := by decide +kernel
theorem d51_1 : decode jdk_67_method_93_code 1 = .ok (.invokespecial 343, 3) := by decide +kernel
theorem d51_4 : decode jdk_67_method_93_code 4 = .ok (.ireturn, 1) := by decide +kernel
theorem d41_0 : decode jdk_68_method_2_code 0 = .ok (.aload_n 0, 1) := by decide +kernel
theorem d41_1 : decode jdk_68_method_2_code 1 = .ok (.invokespecial 3, 3) := by decide +kernel
theorem d41_4 : decode jdk_68_method_2_code 4 = .ok (.getstatic 18, 3) := by decide +kernel
theorem d41_7 : decode jdk_68_method_2_code 7 = .ok (.ifCond .eq 18, 3) := by decide +kernel
theorem d41_10 : decode jdk_68_method_2_code 10 = .ok (.aload_n 0, 1) := by decide +kernel
theorem d41_11 : decode jdk_68_method_2_code 11 = .ok (.iload_n 1, 1) := by decide +kernel
theorem d41_12 : decode jdk_68_method_2_code 12 = .ok (.newarray .byte, 2) := by decide +kernel
theorem d41_14 : decode jdk_68_method_2_code 14 = .ok (.putfield 15, 3) := by decide +kernel
theorem d41_17 : decode jdk_68_method_2_code 17 = .ok (.aload_n 0, 1) := by decide +kernel
theorem d41_18 : decode jdk_68_method_2_code 18 = .ok (.iconst 0, 1) := by decide +kernel
theorem d41_19 : decode jdk_68_method_2_code 19 = .ok (.putfield 22, 3) := by decide +kernel
theorem d41_22 : decode jdk_68_method_2_code 22 = .ok (.goto 16, 3) := by decide +kernel
theorem d41_38 : decode jdk_68_method_2_code 38 = .ok (.return_, 1) := by decide +kernel
theorem d43_0 : decode jdk_68_method_31_code 0 = .ok (.aload_n 0, 1) := by decide +kernel
theorem d43_1 : decode jdk_68_method_31_code 1 = .ok (.aload_n 0, 1) := by decide +kernel
theorem d43_2 : decode jdk_68_method_31_code 2 = .ok (.getfield 79, 3) := by decide +kernel
theorem d43_5 : decode jdk_68_method_31_code 5 = .ok (.iconst 1, 1) := by decide +kernel
theorem d43_6 : decode jdk_68_method_31_code 6 = .ok (.iadd, 1) := by decide +kernel
theorem d43_7 : decode jdk_68_method_31_code 7 = .ok (.invokevirtual 100, 3) := by decide +kernel
theorem d43_10 : decode jdk_68_method_31_code 10 = .ok (.aload_n 0, 1) := by decide +kernel
theorem d43_11 : decode jdk_68_method_31_code 11 = .ok (.invokevirtual 83, 3) := by decide +kernel
theorem d43_14 : decode jdk_68_method_31_code 14 = .ok (.ifCond .eq 31, 3) := by decide +kernel
theorem d43_17 : decode jdk_68_method_31_code 17 = .ok (.iload_n 1, 1) := by decide +kernel
theorem d43_18 : decode jdk_68_method_31_code 18 = .ok (.invokestatic 191, 3) := by decide +kernel
theorem d43_21 : decode jdk_68_method_31_code 21 = .ok (.ifCond .eq 24, 3) := by decide +kernel
theorem d43_24 : decode jdk_68_method_31_code 24 = .ok (.aload_n 0, 1) := by decide +kernel
theorem d43_25 : decode jdk_68_method_31_code 25 = .ok (.getfield 15, 3) := by decide +kernel
theorem d43_28 : decode jdk_68_method_31_code 28 = .ok (.aload_n 0, 1) := by decide +kernel
theorem d43_29 : decode jdk_68_method_31_code 29 = .ok (.dup, 1) := by decide +kernel
theorem d43_30 : decode jdk_68_method_31_code 30 = .ok (.getfield 79, 3) := by decide +kernel
theorem d43_33 : decode jdk_68_method_31_code 33 = .ok (.dup_x1, 1) := by decide +kernel
theorem d43_34 : decode jdk_68_method_31_code 34 = .ok (.iconst 1, 1) := by decide +kernel
theorem d43_35 : decode jdk_68_method_31_code 35 = .ok (.iadd, 1) := by decide +kernel
theorem d43_36 : decode jdk_68_method_31_code 36 = .ok (.putfield 79, 3) := by decide +kernel
theorem d43_39 : decode jdk_68_method_31_code 39 = .ok (.iload_n 1, 1) := by decide +kernel
theorem d43_40 : decode jdk_68_method_31_code 40 = .ok (.i2b, 1) := by decide +kernel
theorem d43_41 : decode jdk_68_method_31_code 41 = .ok (.bastore, 1) := by decide +kernel
theorem d43_42 : decode jdk_68_method_31_code 42 = .ok (.goto 33, 3) := by decide +kernel
theorem d43_75 : decode jdk_68_method_31_code 75 = .ok (.aload_n 0, 1) := by decide +kernel
theorem d43_76 : decode jdk_68_method_31_code 76 = .ok (.areturn, 1) := by decide +kernel
theorem d50_0 : decode jdk_68_method_64_code 0 = .ok (.aload_n 0, 1) := by decide +kernel
theorem d50_1 : decode jdk_68_method_64_code 1 = .ok (.getfield 15, 3) := by decide +kernel
theorem d50_4 : decode jdk_68_method_64_code 4 = .ok (.areturn, 1) := by decide +kernel
theorem d45_0 : decode jdk_68_method_68_code 0 = .ok (.getstatic 18, 3) := by decide +kernel
theorem d45_3 : decode jdk_68_method_68_code 3 = .ok (.ifCond .eq 14, 3) := by decide +kernel
theorem d45_6 : decode jdk_68_method_68_code 6 = .ok (.aload_n 0, 1) := by decide +kernel
theorem d45_7 : decode jdk_68_method_68_code 7 = .ok (.getfield 22, 3) := by decide +kernel
theorem d45_10 : decode jdk_68_method_68_code 10 = .ok (.ifCond .ne 7, 3) := by decide +kernel
theorem d45_13 : decode jdk_68_method_68_code 13 = .ok (.iconst 1, 1) := by decide +kernel
theorem d45_14 : decode jdk_68_method_68_code 14 = .ok (.goto 4, 3) := by decide +kernel
theorem d45_18 : decode jdk_68_method_68_code 18 = .ok (.ireturn, 1) := by decide +kernel
theorem d52_0 : decode jdk_68_method_6_code 0 = .ok (.aload_n 0, 1) := by decide +kernel
theorem d52_1 : decode jdk_68_method_6_code 1 = .ok (.getfield 79, 3) := by decide +kernel
theorem d52_4 : decode jdk_68_method_6_code 4 = .ok (.ireturn, 1) := by decide +kernel
theorem d44_0 : decode jdk_68_method_9_code 0 = .ok (.aload_n 0, 1) := by decide +kernel
theorem d44_1 : decode jdk_68_method_9_code 1 = .ok (.getfield 15, 3) := by decide +kernel
theorem d44_4 : decode jdk_68_method_9_code 4 = .ok (.arraylength, 1) := by decide +kernel
theorem d44_5 : decode jdk_68_method_9_code 5 = .ok (.aload_n 0, 1) := by decide +kernel
theorem d44_6 : decode jdk_68_method_9_code 6 = .ok (.getfield 22, 3) := by decide +kernel
theorem d44_9 : decode jdk_68_method_9_code 9 = .ok (.ishr, 1) := by decide +kernel
theorem d44_10 : decode jdk_68_method_9_code 10 = .ok (.istore_n 2, 1) := by decide +kernel
theorem d44_11 : decode jdk_68_method_9_code 11 = .ok (.iload_n 1, 1) := by decide +kernel
theorem d44_12 : decode jdk_68_method_9_code 12 = .ok (.iload_n 2, 1) := by decide +kernel
theorem d44_13 : decode jdk_68_method_9_code 13 = .ok (.isub, 1) := by decide +kernel
theorem d44_14 : decode jdk_68_method_9_code 14 = .ok (.ifCond .le 24, 3) := by decide +kernel
theorem d44_38 : decode jdk_68_method_9_code 38 = .ok (.return_, 1) := by decide +kernel
theorem d37_0 : decode method_3_code 0 = .ok (.iload_n 3, 1) := by decide +kernel
theorem d37_1 : decode method_3_code 1 = .ok (.iload_n 2, 1) := by decide +kernel
theorem d37_2 : decode method_3_code 2 = .ok (.if_icmp .ge 14, 3) := by decide +kernel
theorem d37_5 : decode method_3_code 5 = .ok (.aload_n 0, 1) := by decide +kernel
theorem d37_6 : decode method_3_code 6 = .ok (.iload_n 3, 1) := by decide +kernel
theorem d37_7 : decode method_3_code 7 = .ok (.invokevirtual 44, 3) := by decide +kernel
theorem d37_10 : decode method_3_code 10 = .ok (.aload_n 1, 1) := by decide +kernel
theorem d37_11 : decode method_3_code 11 = .ok (.iload_n 3, 1) := by decide +kernel
theorem d37_12 : decode method_3_code 12 = .ok (.caload, 1) := by decide +kernel
theorem d37_13 : decode method_3_code 13 = .ok (.if_icmp .ne 7, 3) := by decide +kernel
theorem d37_16 : decode method_3_code 16 = .ok (.iconst 1, 1) := by decide +kernel
theorem d37_17 : decode method_3_code 17 = .ok (.goto 4, 3) := by decide +kernel
theorem d37_21 : decode method_3_code 21 = .ok (.ireturn, 1) := by decide +kernel
theorem d1_0 : decode method_4_code 0 = .ok (.iload_n 2, 1) := by decide +kernel
theorem d1_1 : decode method_4_code 1 = .ok (.aload_n 0, 1) := by decide +kernel
theorem d1_2 : decode method_4_code 2 = .ok (.arraylength, 1) := by decide +kernel
theorem d1_3 : decode method_4_code 3 = .ok (.if_icmp .ge 21, 3) := by decide +kernel
theorem d1_6 : decode method_4_code 6 = .ok (.aload_n 0, 1) := by decide +kernel
theorem d1_7 : decode method_4_code 7 = .ok (.iload_n 2, 1) := by decide +kernel
theorem d1_8 : decode method_4_code 8 = .ok (.iload_n 1, 1) := by decide +kernel
theorem d1_9 : decode method_4_code 9 = .ok (.iload_n 2, 1) := by decide +kernel
theorem d1_10 : decode method_4_code 10 = .ok (.iushr, 1) := by decide +kernel
theorem d1_11 : decode method_4_code 11 = .ok (.iconst 1, 1) := by decide +kernel
theorem d1_12 : decode method_4_code 12 = .ok (.iand, 1) := by decide +kernel
theorem d1_13 : decode method_4_code 13 = .ok (.ifCond .ne 8, 3) := by decide +kernel
theorem d1_16 : decode method_4_code 16 = .ok (.bipush 32, 2) := by decide +kernel
theorem d1_18 : decode method_4_code 18 = .ok (.goto 5, 3) := by decide +kernel
theorem d1_21 : decode method_4_code 21 = .ok (.bipush 9, 2) := by decide +kernel
theorem d1_23 : decode method_4_code 23 = .ok (.castore, 1) := by decide +kernel
theorem d1_24 : decode method_4_code 24 = .ok (.return_, 1) := by decide +kernel
theorem d3_0 : decode method_5_code 0 = .ok (.iload_n 2, 1) := by decide +kernel
theorem d3_1 : decode method_5_code 1 = .ok (.iconst 4, 1) := by decide +kernel
theorem d3_2 : decode method_5_code 2 = .ok (.if_icmp .ge 7, 3) := by decide +kernel
theorem d3_5 : decode method_5_code 5 = .ok (.iload_n 0, 1) := by decide +kernel
theorem d3_6 : decode method_5_code 6 = .ok (.goto 4, 3) := by decide +kernel
theorem d3_9 : decode method_5_code 9 = .ok (.iload_n 1, 1) := by decide +kernel
theorem d3_10 : decode method_5_code 10 = .ok (.istore_n 3, 1) := by decide +kernel
theorem d3_11 : decode method_5_code 11 = .ok (.iload_n 3, 1) := by decide +kernel
theorem d3_12 : decode method_5_code 12 = .ok (.iload_n 2, 1) := by decide +kernel
theorem d3_13 : decode method_5_code 13 = .ok (.iconst 3, 1) := by decide +kernel
theorem d3_14 : decode method_5_code 14 = .ok (.iand, 1) := by decide +kernel
theorem d3_15 : decode method_5_code 15 = .ok (.bipush 8, 2) := by decide +kernel
theorem d3_17 : decode method_5_code 17 = .ok (.imul, 1) := by decide +kernel
theorem d3_18 : decode method_5_code 18 = .ok (.iushr, 1) := by decide +kernel
theorem d3_19 : decode method_5_code 19 = .ok (.sipush 255, 3) := by decide +kernel
theorem d3_22 : decode method_5_code 22 = .ok (.iand, 1) := by decide +kernel
theorem d3_23 : decode method_5_code 23 = .ok (.ireturn, 1) := by decide +kernel
theorem d4_0 : decode method_6_code 0 = .ok (.bipush 33, 2) := by decide +kernel
theorem d4_2 : decode method_6_code 2 = .ok (.iload_n 0, 1) := by decide +kernel
theorem d4_3 : decode method_6_code 3 = .ok (.bipush 91, 2) := by decide +kernel
theorem d4_5 : decode method_6_code 5 = .ok (.irem, 1) := by decide +kernel
theorem d4_6 : decode method_6_code 6 = .ok (.iadd, 1) := by decide +kernel
theorem d4_7 : decode method_6_code 7 = .ok (.istore_n 1, 1) := by decide +kernel
theorem d4_8 : decode method_6_code 8 = .ok (.iload_n 1, 1) := by decide +kernel
theorem d4_9 : decode method_6_code 9 = .ok (.bipush 34, 2) := by decide +kernel
theorem d4_11 : decode method_6_code 11 = .ok (.if_icmp .lt 6, 3) := by decide +kernel
theorem d4_14 : decode method_6_code 14 = .ok (.iinc 1 1, 3) := by decide +kernel
theorem d4_17 : decode method_6_code 17 = .ok (.iload_n 1, 1) := by decide +kernel
theorem d4_18 : decode method_6_code 18 = .ok (.bipush 44, 2) := by decide +kernel
theorem d4_20 : decode method_6_code 20 = .ok (.if_icmp .lt 6, 3) := by decide +kernel
theorem d4_23 : decode method_6_code 23 = .ok (.iinc 1 1, 3) := by decide +kernel
theorem d4_26 : decode method_6_code 26 = .ok (.iload_n 1, 1) := by decide +kernel
theorem d4_27 : decode method_6_code 27 = .ok (.bipush 92, 2) := by decide +kernel
theorem d4_29 : decode method_6_code 29 = .ok (.if_icmp .lt 6, 3) := by decide +kernel
theorem d4_32 : decode method_6_code 32 = .ok (.iinc 1 1, 3) := by decide +kernel
theorem d4_35 : decode method_6_code 35 = .ok (.iload_n 1, 1) := by decide +kernel
theorem d4_36 : decode method_6_code 36 = .ok (.i2c, 1) := by decide +kernel
theorem d4_37 : decode method_6_code 37 = .ok (.ireturn, 1) := by decide +kernel
theorem d53_0 : decode method_7_code 0 = .ok (.bipush 32, 2) := by decide +kernel
theorem d53_2 : decode method_7_code 2 = .ok (.iload_n 0, 1) := by decide +kernel
theorem d53_3 : decode method_7_code 3 = .ok (.bipush 93, 2) := by decide +kernel
theorem d53_5 : decode method_7_code 5 = .ok (.irem, 1) := by decide +kernel
theorem d53_6 : decode method_7_code 6 = .ok (.iadd, 1) := by decide +kernel
theorem d53_7 : decode method_7_code 7 = .ok (.istore_n 1, 1) := by decide +kernel
theorem d53_8 : decode method_7_code 8 = .ok (.iload_n 1, 1) := by decide +kernel
theorem d53_9 : decode method_7_code 9 = .ok (.bipush 34, 2) := by decide +kernel
theorem d53_11 : decode method_7_code 11 = .ok (.if_icmp .lt 6, 3) := by decide +kernel
theorem d53_14 : decode method_7_code 14 = .ok (.iinc 1 1, 3) := by decide +kernel
theorem d53_17 : decode method_7_code 17 = .ok (.iload_n 1, 1) := by decide +kernel
theorem d53_18 : decode method_7_code 18 = .ok (.bipush 92, 2) := by decide +kernel
theorem d53_20 : decode method_7_code 20 = .ok (.if_icmp .lt 6, 3) := by decide +kernel
theorem d53_23 : decode method_7_code 23 = .ok (.iinc 1 1, 3) := by decide +kernel
theorem d53_26 : decode method_7_code 26 = .ok (.iload_n 1, 1) := by decide +kernel
theorem d53_27 : decode method_7_code 27 = .ok (.i2c, 1) := by decide +kernel
theorem d53_28 : decode method_7_code 28 = .ok (.ireturn, 1) := by decide +kernel
theorem d2_0 : decode method_8_code 0 = .ok (.iload_n 3, 1) := by decide +kernel
theorem d2_1 : decode method_8_code 1 = .ok (.iload 4, 2) := by decide +kernel
theorem d2_3 : decode method_8_code 3 = .ok (.if_icmp .lt 4, 3) := by decide +kernel
theorem d2_6 : decode method_8_code 6 = .ok (.return_, 1) := by decide +kernel
theorem d2_7 : decode method_8_code 7 = .ok (.iload 6, 2) := by decide +kernel
theorem d2_9 : decode method_8_code 9 = .ok (.iload 7, 2) := by decide +kernel
theorem d2_11 : decode method_8_code 11 = .ok (.iload_n 3, 1) := by decide +kernel
theorem d2_12 : decode method_8_code 12 = .ok (.invokestatic 48, 3) := by decide +kernel
theorem d2_15 : decode method_8_code 15 = .ok (.invokestatic 52, 3) := by decide +kernel
theorem d2_18 : decode method_8_code 18 = .ok (.istore 8, 2) := by decide +kernel
theorem d2_20 : decode method_8_code 20 = .ok (.aload_n 0, 1) := by decide +kernel
theorem d2_21 : decode method_8_code 21 = .ok (.iload 5, 2) := by decide +kernel
theorem d2_23 : decode method_8_code 23 = .ok (.iload_n 3, 1) := by decide +kernel
theorem d2_24 : decode method_8_code 24 = .ok (.iadd, 1) := by decide +kernel
theorem d2_25 : decode method_8_code 25 = .ok (.iload 8, 2) := by decide +kernel
theorem d2_27 : decode method_8_code 27 = .ok (.castore, 1) := by decide +kernel
theorem d2_28 : decode method_8_code 28 = .ok (.aload_n 1, 1) := by decide +kernel
theorem d2_29 : decode method_8_code 29 = .ok (.aload_n 2, 1) := by decide +kernel
theorem d2_30 : decode method_8_code 30 = .ok (.iconst 0, 1) := by decide +kernel
theorem d2_31 : decode method_8_code 31 = .ok (.iaload, 1) := by decide +kernel
theorem d2_32 : decode method_8_code 32 = .ok (.iload 8, 2) := by decide +kernel
theorem d2_34 : decode method_8_code 34 = .ok (.castore, 1) := by decide +kernel
theorem d2_35 : decode method_8_code 35 = .ok (.aload_n 2, 1) := by decide +kernel
theorem d2_36 : decode method_8_code 36 = .ok (.iconst 0, 1) := by decide +kernel
theorem d2_37 : decode method_8_code 37 = .ok (.aload_n 2, 1) := by decide +kernel
theorem d2_38 : decode method_8_code 38 = .ok (.iconst 0, 1) := by decide +kernel
theorem d2_39 : decode method_8_code 39 = .ok (.iaload, 1) := by decide +kernel
theorem d2_40 : decode method_8_code 40 = .ok (.iconst 1, 1) := by decide +kernel
theorem d2_41 : decode method_8_code 41 = .ok (.iadd, 1) := by decide +kernel
theorem d2_42 : decode method_8_code 42 = .ok (.iastore, 1) := by decide +kernel
theorem d2_43 : decode method_8_code 43 = .ok (.return_, 1) := by decide +kernel
theorem d38_0 : decode method_9_code 0 = .ok (.iload_n 3, 1) := by decide +kernel
theorem d38_1 : decode method_9_code 1 = .ok (.iload 4, 2) := by decide +kernel
theorem d38_3 : decode method_9_code 3 = .ok (.if_icmp .lt 4, 3) := by decide +kernel
theorem d38_6 : decode method_9_code 6 = .ok (.return_, 1) := by decide +kernel
theorem d38_7 : decode method_9_code 7 = .ok (.iload 5, 2) := by decide +kernel
theorem d38_9 : decode method_9_code 9 = .ok (.iconst 1, 1) := by decide +kernel
theorem d38_10 : decode method_9_code 10 = .ok (.iadd, 1) := by decide +kernel
theorem d38_11 : decode method_9_code 11 = .ok (.iload_n 3, 1) := by decide +kernel
theorem d38_12 : decode method_9_code 12 = .ok (.iadd, 1) := by decide +kernel
theorem d38_13 : decode method_9_code 13 = .ok (.istore 9, 2) := by decide +kernel
theorem d38_15 : decode method_9_code 15 = .ok (.iload 6, 2) := by decide +kernel
theorem d38_17 : decode method_9_code 17 = .ok (.iload 7, 2) := by decide +kernel
theorem d38_19 : decode method_9_code 19 = .ok (.iload_n 3, 1) := by decide +kernel
theorem d38_20 : decode method_9_code 20 = .ok (.invokestatic 48, 3) := by decide +kernel
theorem d38_23 : decode method_9_code 23 = .ok (.istore 10, 2) := by decide +kernel
theorem d38_25 : decode method_9_code 25 = .ok (.aload_n 2, 1) := by decide +kernel
theorem d38_26 : decode method_9_code 26 = .ok (.iconst 1, 1) := by decide +kernel
theorem d38_27 : decode method_9_code 27 = .ok (.iaload, 1) := by decide +kernel
theorem d38_28 : decode method_9_code 28 = .ok (.ifCond .eq 47, 3) := by decide +kernel
theorem d38_31 : decode method_9_code 31 = .ok (.iload 10, 2) := by decide +kernel
theorem d38_33 : decode method_9_code 33 = .ok (.iconst 1, 1) := by decide +kernel
theorem d38_34 : decode method_9_code 34 = .ok (.iand, 1) := by decide +kernel
theorem d38_35 : decode method_9_code 35 = .ok (.ifCond .ne 8, 3) := by decide +kernel
theorem d38_38 : decode method_9_code 38 = .ok (.bipush 34, 2) := by decide +kernel
theorem d38_40 : decode method_9_code 40 = .ok (.goto 5, 3) := by decide +kernel
theorem d38_43 : decode method_9_code 43 = .ok (.bipush 92, 2) := by decide +kernel
theorem d38_45 : decode method_9_code 45 = .ok (.istore 11, 2) := by decide +kernel
theorem d38_47 : decode method_9_code 47 = .ok (.aload_n 0, 1) := by decide +kernel
theorem d38_48 : decode method_9_code 48 = .ok (.iload 9, 2) := by decide +kernel
theorem d38_50 : decode method_9_code 50 = .ok (.iload 11, 2) := by decide +kernel
theorem d38_52 : decode method_9_code 52 = .ok (.castore, 1) := by decide +kernel
theorem d38_53 : decode method_9_code 53 = .ok (.aload_n 1, 1) := by decide +kernel
theorem d38_54 : decode method_9_code 54 = .ok (.aload_n 2, 1) := by decide +kernel
theorem d38_55 : decode method_9_code 55 = .ok (.iconst 0, 1) := by decide +kernel
theorem d38_56 : decode method_9_code 56 = .ok (.iaload, 1) := by decide +kernel
theorem d38_57 : decode method_9_code 57 = .ok (.iload 11, 2) := by decide +kernel
theorem d38_59 : decode method_9_code 59 = .ok (.castore, 1) := by decide +kernel
theorem d38_60 : decode method_9_code 60 = .ok (.aload_n 2, 1) := by decide +kernel
theorem d38_61 : decode method_9_code 61 = .ok (.iconst 0, 1) := by decide +kernel
theorem d38_62 : decode method_9_code 62 = .ok (.aload_n 2, 1) := by decide +kernel
theorem d38_63 : decode method_9_code 63 = .ok (.iconst 0, 1) := by decide +kernel
theorem d38_64 : decode method_9_code 64 = .ok (.iaload, 1) := by decide +kernel
theorem d38_65 : decode method_9_code 65 = .ok (.iconst 1, 1) := by decide +kernel
theorem d38_66 : decode method_9_code 66 = .ok (.iadd, 1) := by decide +kernel
theorem d38_67 : decode method_9_code 67 = .ok (.iastore, 1) := by decide +kernel
theorem d38_68 : decode method_9_code 68 = .ok (.aload_n 2, 1) := by decide +kernel
theorem d38_69 : decode method_9_code 69 = .ok (.iconst 1, 1) := by decide +kernel
theorem d38_70 : decode method_9_code 70 = .ok (.iconst 0, 1) := by decide +kernel
theorem d38_71 : decode method_9_code 71 = .ok (.iastore, 1) := by decide +kernel
theorem d38_72 : decode method_9_code 72 = .ok (.goto 64, 3) := by decide +kernel
theorem d38_75 : decode method_9_code 75 = .ok (.iload 8, 2) := by decide +kernel
theorem d38_77 : decode method_9_code 77 = .ok (.bipush 16, 2) := by decide +kernel
theorem d38_79 : decode method_9_code 79 = .ok (.iload_n 3, 1) := by decide +kernel
theorem d38_80 : decode method_9_code 80 = .ok (.iadd, 1) := by decide +kernel
theorem d38_81 : decode method_9_code 81 = .ok (.iushr, 1) := by decide +kernel
theorem d38_82 : decode method_9_code 82 = .ok (.iconst 1, 1) := by decide +kernel
theorem d38_83 : decode method_9_code 83 = .ok (.iand, 1) := by decide +kernel
theorem d38_84 : decode method_9_code 84 = .ok (.ifCond .eq 24, 3) := by decide +kernel
theorem d38_87 : decode method_9_code 87 = .ok (.iload_n 3, 1) := by decide +kernel
theorem d38_88 : decode method_9_code 88 = .ok (.iconst 1, 1) := by decide +kernel
theorem d38_89 : decode method_9_code 89 = .ok (.iadd, 1) := by decide +kernel
theorem d38_90 : decode method_9_code 90 = .ok (.iload 4, 2) := by decide +kernel
theorem d38_92 : decode method_9_code 92 = .ok (.if_icmp .ge 16, 3) := by decide +kernel
theorem d38_95 : decode method_9_code 95 = .ok (.aload_n 0, 1) := by decide +kernel
theorem d38_96 : decode method_9_code 96 = .ok (.iload 9, 2) := by decide +kernel
theorem d38_98 : decode method_9_code 98 = .ok (.bipush 92, 2) := by decide +kernel
theorem d38_100 : decode method_9_code 100 = .ok (.castore, 1) := by decide +kernel
theorem d38_101 : decode method_9_code 101 = .ok (.aload_n 2, 1) := by decide +kernel
theorem d38_102 : decode method_9_code 102 = .ok (.iconst 1, 1) := by decide +kernel
theorem d38_103 : decode method_9_code 103 = .ok (.iconst 1, 1) := by decide +kernel
theorem d38_104 : decode method_9_code 104 = .ok (.iastore, 1) := by decide +kernel
theorem d38_105 : decode method_9_code 105 = .ok (.goto 31, 3) := by decide +kernel
theorem d38_108 : decode method_9_code 108 = .ok (.iload 10, 2) := by decide +kernel
theorem d38_110 : decode method_9_code 110 = .ok (.invokestatic 55, 3) := by decide +kernel
theorem d38_113 : decode method_9_code 113 = .ok (.istore 11, 2) := by decide +kernel
theorem d38_115 : decode method_9_code 115 = .ok (.aload_n 0, 1) := by decide +kernel
theorem d38_116 : decode method_9_code 116 = .ok (.iload 9, 2) := by decide +kernel
theorem d38_118 : decode method_9_code 118 = .ok (.iload 11, 2) := by decide +kernel
theorem d38_120 : decode method_9_code 120 = .ok (.castore, 1) := by decide +kernel
theorem d38_121 : decode method_9_code 121 = .ok (.aload_n 1, 1) := by decide +kernel
theorem d38_122 : decode method_9_code 122 = .ok (.aload_n 2, 1) := by decide +kernel
theorem d38_123 : decode method_9_code 123 = .ok (.iconst 0, 1) := by decide +kernel
theorem d38_124 : decode method_9_code 124 = .ok (.iaload, 1) := by decide +kernel
theorem d38_125 : decode method_9_code 125 = .ok (.iload 11, 2) := by decide +kernel
theorem d38_127 : decode method_9_code 127 = .ok (.castore, 1) := by decide +kernel
theorem d38_128 : decode method_9_code 128 = .ok (.aload_n 2, 1) := by decide +kernel
theorem d38_129 : decode method_9_code 129 = .ok (.iconst 0, 1) := by decide +kernel
theorem d38_130 : decode method_9_code 130 = .ok (.aload_n 2, 1) := by decide +kernel
theorem d38_131 : decode method_9_code 131 = .ok (.iconst 0, 1) := by decide +kernel
theorem d38_132 : decode method_9_code 132 = .ok (.iaload, 1) := by decide +kernel
theorem d38_133 : decode method_9_code 133 = .ok (.iconst 1, 1) := by decide +kernel
theorem d38_134 : decode method_9_code 134 = .ok (.iadd, 1) := by decide +kernel
theorem d38_135 : decode method_9_code 135 = .ok (.iastore, 1) := by decide +kernel
theorem d38_136 : decode method_9_code 136 = .ok (.return_, 1) := by decide +kernel
theorem d36_0 : decode prog_8_method_11_code 0 = .ok (.aload_n 0, 1) := by decide +kernel
theorem d36_1 : decode prog_8_method_11_code 1 = .ok (.getfield 7, 3) := by decide +kernel
theorem d36_4 : decode prog_8_method_11_code 4 = .ok (.areturn, 1) := by decide +kernel
theorem d34_0 : decode prog_8_method_1_code 0 = .ok (.aload_n 0, 1) := by decide +kernel
theorem d34_1 : decode prog_8_method_1_code 1 = .ok (.invokespecial 1, 3) := by decide +kernel
theorem d34_4 : decode prog_8_method_1_code 4 = .ok (.aload_n 0, 1) := by decide +kernel
theorem d34_5 : decode prog_8_method_1_code 5 = .ok (.aload_n 1, 1) := by decide +kernel
theorem d34_6 : decode prog_8_method_1_code 6 = .ok (.putfield 7, 3) := by decide +kernel
theorem d34_9 : decode prog_8_method_1_code 9 = .ok (.return_, 1) := by decide +kernel
theorem d11_0 : decode prog_8_method_2_code 0 = .ok (.aload_n 0, 1) := by decide +kernel
theorem d11_1 : decode prog_8_method_2_code 1 = .ok (.ldc 13, 2) := by decide +kernel
theorem d11_3 : decode prog_8_method_2_code 3 = .ok (.invokestatic 15, 3) := by decide +kernel
theorem d11_6 : decode prog_8_method_2_code 6 = .ok (.pop, 1) := by decide +kernel
theorem d11_7 : decode prog_8_method_2_code 7 = .ok (.aload_n 0, 1) := by decide +kernel
theorem d11_8 : decode prog_8_method_2_code 8 = .ok (.invokestatic 21, 3) := by decide +kernel
theorem d11_11 : decode prog_8_method_2_code 11 = .ok (.astore_n 1, 1) := by decide +kernel
theorem d11_12 : decode prog_8_method_2_code 12 = .ok (.aload_n 1, 1) := by decide +kernel
theorem d11_13 : decode prog_8_method_2_code 13 = .ok (.invokevirtual 25, 3) := by decide +kernel
theorem d11_16 : decode prog_8_method_2_code 16 = .ok (.ifCond .ne 21, 3) := by decide +kernel
theorem d11_19 : decode prog_8_method_2_code 19 = .ok (.aload_n 1, 1) := by decide +kernel
theorem d11_20 : decode prog_8_method_2_code 20 = .ok (.iconst 0, 1) := by decide +kernel
theorem d11_21 : decode prog_8_method_2_code 21 = .ok (.invokevirtual 31, 3) := by decide +kernel
theorem d11_24 : decode prog_8_method_2_code 24 = .ok (.bipush 34, 2) := by decide +kernel
theorem d11_26 : decode prog_8_method_2_code 26 = .ok (.if_icmp .ne 11, 3) := by decide +kernel
theorem d11_29 : decode prog_8_method_2_code 29 = .ok (.aload_n 1, 1) := by decide +kernel
theorem d11_30 : decode prog_8_method_2_code 30 = .ok (.invokestatic 35, 3) := by decide +kernel
theorem d11_33 : decode prog_8_method_2_code 33 = .ok (.astore_n 2, 1) := by decide +kernel
theorem d11_34 : decode prog_8_method_2_code 34 = .ok (.goto 9, 3) := by decide +kernel
theorem d11_37 : decode prog_8_method_2_code 37 = .ok (.aload_n 1, 1) := by decide +kernel
theorem d11_38 : decode prog_8_method_2_code 38 = .ok (.invokestatic 38, 3) := by decide +kernel
theorem d11_41 : decode prog_8_method_2_code 41 = .ok (.aload_n 1, 1) := by decide +kernel
theorem d11_42 : decode prog_8_method_2_code 42 = .ok (.astore_n 2, 1) := by decide +kernel
theorem d11_43 : decode prog_8_method_2_code 43 = .ok (.aload_n 2, 1) := by decide +kernel
theorem d11_44 : decode prog_8_method_2_code 44 = .ok (.invokevirtual 25, 3) := by decide +kernel
theorem d11_47 : decode prog_8_method_2_code 47 = .ok (.ifCond .ne 13, 3) := by decide +kernel
theorem d11_50 : decode prog_8_method_2_code 50 = .ok (.aload_n 2, 1) := by decide +kernel
theorem d11_51 : decode prog_8_method_2_code 51 = .ok (.invokevirtual 42, 3) := by decide +kernel
theorem d11_54 : decode prog_8_method_2_code 54 = .ok (.sipush 255, 3) := by decide +kernel
theorem d11_57 : decode prog_8_method_2_code 57 = .ok (.if_icmp .le 13, 3) := by decide +kernel
theorem d11_70 : decode prog_8_method_2_code 70 = .ok (.new 8, 3) := by decide +kernel
theorem d11_73 : decode prog_8_method_2_code 73 = .ok (.dup, 1) := by decide +kernel
theorem d11_74 : decode prog_8_method_2_code 74 = .ok (.aload_n 2, 1) := by decide +kernel
theorem d11_75 : decode prog_8_method_2_code 75 = .ok (.invokespecial 52, 3) := by decide +kernel
theorem d11_78 : decode prog_8_method_2_code 78 = .ok (.areturn, 1) := by decide +kernel
theorem d39_0 : decode prog_8_method_3_code 0 = .ok (.new 53, 3) := by decide +kernel
theorem d39_3 : decode prog_8_method_3_code 3 = .ok (.dup, 1) := by decide +kernel
theorem d39_4 : decode prog_8_method_3_code 4 = .ok (.aload_n 0, 1) := by decide +kernel
theorem d39_5 : decode prog_8_method_3_code 5 = .ok (.invokevirtual 42, 3) := by decide +kernel
theorem d39_8 : decode prog_8_method_3_code 8 = .ok (.invokespecial 55, 3) := by decide +kernel
theorem d39_11 : decode prog_8_method_3_code 11 = .ok (.astore_n 1, 1) := by decide +kernel
theorem d39_12 : decode prog_8_method_3_code 12 = .ok (.iconst 1, 1) := by decide +kernel
theorem d39_13 : decode prog_8_method_3_code 13 = .ok (.istore_n 2, 1) := by decide +kernel
theorem d39_14 : decode prog_8_method_3_code 14 = .ok (.iconst 0, 1) := by decide +kernel
theorem d39_15 : decode prog_8_method_3_code 15 = .ok (.istore_n 3, 1) := by decide +kernel
theorem d39_16 : decode prog_8_method_3_code 16 = .ok (.iload_n 2, 1) := by decide +kernel
theorem d39_17 : decode prog_8_method_3_code 17 = .ok (.aload_n 0, 1) := by decide +kernel
theorem d39_18 : decode prog_8_method_3_code 18 = .ok (.invokevirtual 42, 3) := by decide +kernel
theorem d39_21 : decode prog_8_method_3_code 21 = .ok (.if_icmp .ge 120, 3) := by decide +kernel
theorem d39_24 : decode prog_8_method_3_code 24 = .ok (.iload_n 3, 1) := by decide +kernel
theorem d39_25 : decode prog_8_method_3_code 25 = .ok (.ifCond .ne 116, 3) := by decide +kernel
theorem d39_28 : decode prog_8_method_3_code 28 = .ok (.aload_n 0, 1) := by decide +kernel
theorem d39_29 : decode prog_8_method_3_code 29 = .ok (.iload_n 2, 1) := by decide +kernel
theorem d39_30 : decode prog_8_method_3_code 30 = .ok (.invokevirtual 31, 3) := by decide +kernel
theorem d39_33 : decode prog_8_method_3_code 33 = .ok (.istore 4, 2) := by decide +kernel
theorem d39_35 : decode prog_8_method_3_code 35 = .ok (.iinc 2 1, 3) := by decide +kernel
theorem d39_38 : decode prog_8_method_3_code 38 = .ok (.iload 4, 2) := by decide +kernel
theorem d39_40 : decode prog_8_method_3_code 40 = .ok (.bipush 34, 2) := by decide +kernel
theorem d39_42 : decode prog_8_method_3_code 42 = .ok (.if_icmp .ne 8, 3) := by decide +kernel
theorem d39_45 : decode prog_8_method_3_code 45 = .ok (.iconst 1, 1) := by decide +kernel
theorem d39_46 : decode prog_8_method_3_code 46 = .ok (.istore_n 3, 1) := by decide +kernel
theorem d39_47 : decode prog_8_method_3_code 47 = .ok (.goto 91, 3) := by decide +kernel
theorem d39_50 : decode prog_8_method_3_code 50 = .ok (.iload 4, 2) := by decide +kernel
theorem d39_52 : decode prog_8_method_3_code 52 = .ok (.bipush 92, 2) := by decide +kernel
theorem d39_54 : decode prog_8_method_3_code 54 = .ok (.if_icmp .ne 59, 3) := by decide +kernel
theorem d39_57 : decode prog_8_method_3_code 57 = .ok (.iload_n 2, 1) := by decide +kernel
theorem d39_58 : decode prog_8_method_3_code 58 = .ok (.aload_n 0, 1) := by decide +kernel
theorem d39_59 : decode prog_8_method_3_code 59 = .ok (.invokevirtual 42, 3) := by decide +kernel
theorem d39_62 : decode prog_8_method_3_code 62 = .ok (.if_icmp .ge 11, 3) := by decide +kernel
theorem d39_65 : decode prog_8_method_3_code 65 = .ok (.aload_n 0, 1) := by decide +kernel
theorem d39_66 : decode prog_8_method_3_code 66 = .ok (.iload_n 2, 1) := by decide +kernel
theorem d39_67 : decode prog_8_method_3_code 67 = .ok (.invokevirtual 31, 3) := by decide +kernel
theorem d39_70 : decode prog_8_method_3_code 70 = .ok (.goto 4, 3) := by decide +kernel
theorem d39_74 : decode prog_8_method_3_code 74 = .ok (.istore 5, 2) := by decide +kernel
theorem d39_76 : decode prog_8_method_3_code 76 = .ok (.iload 5, 2) := by decide +kernel
theorem d39_78 : decode prog_8_method_3_code 78 = .ok (.bipush 34, 2) := by decide +kernel
theorem d39_80 : decode prog_8_method_3_code 80 = .ok (.if_icmp .eq 20, 3) := by decide +kernel
theorem d39_83 : decode prog_8_method_3_code 83 = .ok (.iload 5, 2) := by decide +kernel
theorem d39_85 : decode prog_8_method_3_code 85 = .ok (.bipush 92, 2) := by decide +kernel
theorem d39_87 : decode prog_8_method_3_code 87 = .ok (.if_icmp .eq 13, 3) := by decide +kernel
theorem d39_100 : decode prog_8_method_3_code 100 = .ok (.aload_n 1, 1) := by decide +kernel
theorem d39_101 : decode prog_8_method_3_code 101 = .ok (.iload 5, 2) := by decide +kernel
theorem d39_103 : decode prog_8_method_3_code 103 = .ok (.invokevirtual 60, 3) := by decide +kernel
theorem d39_106 : decode prog_8_method_3_code 106 = .ok (.pop, 1) := by decide +kernel
theorem d39_107 : decode prog_8_method_3_code 107 = .ok (.iinc 2 1, 3) := by decide +kernel
theorem d39_110 : decode prog_8_method_3_code 110 = .ok (.goto 28, 3) := by decide +kernel
theorem d39_113 : decode prog_8_method_3_code 113 = .ok (.iload 4, 2) := by decide +kernel
theorem d39_115 : decode prog_8_method_3_code 115 = .ok (.invokestatic 64, 3) := by decide +kernel
theorem d39_118 : decode prog_8_method_3_code 118 = .ok (.ifCond .ne 13, 3) := by decide +kernel
theorem d39_131 : decode prog_8_method_3_code 131 = .ok (.aload_n 1, 1) := by decide +kernel
theorem d39_132 : decode prog_8_method_3_code 132 = .ok (.iload 4, 2) := by decide +kernel
theorem d39_134 : decode prog_8_method_3_code 134 = .ok (.invokevirtual 60, 3) := by decide +kernel
theorem d39_137 : decode prog_8_method_3_code 137 = .ok (.pop, 1) := by decide +kernel
theorem d39_138 : decode prog_8_method_3_code 138 = .ok (.goto (-122), 3) := by decide +kernel
theorem d39_141 : decode prog_8_method_3_code 141 = .ok (.iload_n 3, 1) := by decide +kernel
theorem d39_142 : decode prog_8_method_3_code 142 = .ok (.ifCond .ne 13, 3) := by decide +kernel
theorem d39_155 : decode prog_8_method_3_code 155 = .ok (.iload_n 2, 1) := by decide +kernel
theorem d39_156 : decode prog_8_method_3_code 156 = .ok (.aload_n 0, 1) := by decide +kernel
theorem d39_157 : decode prog_8_method_3_code 157 = .ok (.invokevirtual 42, 3) := by decide +kernel
theorem d39_160 : decode prog_8_method_3_code 160 = .ok (.if_icmp .eq 13, 3) := by decide +kernel
theorem d39_173 : decode prog_8_method_3_code 173 = .ok (.aload_n 1, 1) := by decide +kernel
theorem d39_174 : decode prog_8_method_3_code 174 = .ok (.invokevirtual 74, 3) := by decide +kernel
theorem d39_177 : decode prog_8_method_3_code 177 = .ok (.areturn, 1) := by decide +kernel
theorem d32_0 : decode prog_8_method_4_code 0 = .ok (.iconst 0, 1) := by decide +kernel
theorem d32_1 : decode prog_8_method_4_code 1 = .ok (.istore_n 1, 1) := by decide +kernel
theorem d32_2 : decode prog_8_method_4_code 2 = .ok (.iload_n 1, 1) := by decide +kernel
theorem d32_3 : decode prog_8_method_4_code 3 = .ok (.aload_n 0, 1) := by decide +kernel
theorem d32_4 : decode prog_8_method_4_code 4 = .ok (.invokevirtual 42, 3) := by decide +kernel
theorem d32_7 : decode prog_8_method_4_code 7 = .ok (.if_icmp .ge 66, 3) := by decide +kernel
theorem d32_10 : decode prog_8_method_4_code 10 = .ok (.aload_n 0, 1) := by decide +kernel
theorem d32_11 : decode prog_8_method_4_code 11 = .ok (.iload_n 1, 1) := by decide +kernel
theorem d32_12 : decode prog_8_method_4_code 12 = .ok (.invokevirtual 31, 3) := by decide +kernel
theorem d32_15 : decode prog_8_method_4_code 15 = .ok (.istore_n 2, 1) := by decide +kernel
theorem d32_16 : decode prog_8_method_4_code 16 = .ok (.iload_n 2, 1) := by decide +kernel
theorem d32_17 : decode prog_8_method_4_code 17 = .ok (.invokestatic 64, 3) := by decide +kernel
theorem d32_20 : decode prog_8_method_4_code 20 = .ok (.ifCond .ne 13, 3) := by decide +kernel
theorem d32_33 : decode prog_8_method_4_code 33 = .ok (.iload_n 2, 1) := by decide +kernel
theorem d32_34 : decode prog_8_method_4_code 34 = .ok (.bipush 32, 2) := by decide +kernel
theorem d32_36 : decode prog_8_method_4_code 36 = .ok (.if_icmp .eq 21, 3) := by decide +kernel
theorem d32_39 : decode prog_8_method_4_code 39 = .ok (.iload_n 2, 1) := by decide +kernel
theorem d32_40 : decode prog_8_method_4_code 40 = .ok (.bipush 44, 2) := by decide +kernel
theorem d32_42 : decode prog_8_method_4_code 42 = .ok (.if_icmp .eq 15, 3) := by decide +kernel
theorem d32_45 : decode prog_8_method_4_code 45 = .ok (.iload_n 2, 1) := by decide +kernel
theorem d32_46 : decode prog_8_method_4_code 46 = .ok (.bipush 34, 2) := by decide +kernel
theorem d32_48 : decode prog_8_method_4_code 48 = .ok (.if_icmp .eq 9, 3) := by decide +kernel
theorem d32_51 : decode prog_8_method_4_code 51 = .ok (.iload_n 2, 1) := by decide +kernel
theorem d32_52 : decode prog_8_method_4_code 52 = .ok (.bipush 92, 2) := by decide +kernel
theorem d32_54 : decode prog_8_method_4_code 54 = .ok (.if_icmp .ne 13, 3) := by decide +kernel
theorem d32_67 : decode prog_8_method_4_code 67 = .ok (.iinc 1 1, 3) := by decide +kernel
theorem d32_70 : decode prog_8_method_4_code 70 = .ok (.goto (-68), 3) := by decide +kernel
theorem d32_73 : decode prog_8_method_4_code 73 = .ok (.return_, 1) := by decide +kernel
theorem d13_0 : decode prog_8_method_5_code 0 = .ok (.iconst 0, 1) := by decide +kernel
theorem d13_1 : decode prog_8_method_5_code 1 = .ok (.istore_n 1, 1) := by decide +kernel
theorem d13_2 : decode prog_8_method_5_code 2 = .ok (.aload_n 0, 1) := by decide +kernel
theorem d13_3 : decode prog_8_method_5_code 3 = .ok (.invokevirtual 42, 3) := by decide +kernel
theorem d13_6 : decode prog_8_method_5_code 6 = .ok (.istore_n 2, 1) := by decide +kernel
theorem d13_7 : decode prog_8_method_5_code 7 = .ok (.iload_n 1, 1) := by decide +kernel
theorem d13_8 : decode prog_8_method_5_code 8 = .ok (.iload_n 2, 1) := by decide +kernel
theorem d13_9 : decode prog_8_method_5_code 9 = .ok (.if_icmp .ge 20, 3) := by decide +kernel
theorem d13_12 : decode prog_8_method_5_code 12 = .ok (.aload_n 0, 1) := by decide +kernel
theorem d13_13 : decode prog_8_method_5_code 13 = .ok (.iload_n 1, 1) := by decide +kernel
theorem d13_14 : decode prog_8_method_5_code 14 = .ok (.invokevirtual 31, 3) := by decide +kernel
theorem d13_17 : decode prog_8_method_5_code 17 = .ok (.invokestatic 80, 3) := by decide +kernel
theorem d13_20 : decode prog_8_method_5_code 20 = .ok (.ifCond .eq 9, 3) := by decide +kernel
theorem d13_23 : decode prog_8_method_5_code 23 = .ok (.iinc 1 1, 3) := by decide +kernel
theorem d13_26 : decode prog_8_method_5_code 26 = .ok (.goto (-19), 3) := by decide +kernel
theorem d13_29 : decode prog_8_method_5_code 29 = .ok (.iload_n 2, 1) := by decide +kernel
theorem d13_30 : decode prog_8_method_5_code 30 = .ok (.iload_n 1, 1) := by decide +kernel
theorem d13_31 : decode prog_8_method_5_code 31 = .ok (.if_icmp .le 22, 3) := by decide +kernel
theorem d13_34 : decode prog_8_method_5_code 34 = .ok (.aload_n 0, 1) := by decide +kernel
theorem d13_35 : decode prog_8_method_5_code 35 = .ok (.iload_n 2, 1) := by decide +kernel
theorem d13_36 : decode prog_8_method_5_code 36 = .ok (.iconst 1, 1) := by decide +kernel
theorem d13_37 : decode prog_8_method_5_code 37 = .ok (.isub, 1) := by decide +kernel
theorem d13_38 : decode prog_8_method_5_code 38 = .ok (.invokevirtual 31, 3) := by decide +kernel
theorem d13_41 : decode prog_8_method_5_code 41 = .ok (.invokestatic 80, 3) := by decide +kernel
theorem d13_44 : decode prog_8_method_5_code 44 = .ok (.ifCond .eq 9, 3) := by decide +kernel
theorem d13_47 : decode prog_8_method_5_code 47 = .ok (.iinc 2 (-1), 3) := by decide +kernel
theorem d13_50 : decode prog_8_method_5_code 50 = .ok (.goto (-21), 3) := by decide +kernel
theorem d13_53 : decode prog_8_method_5_code 53 = .ok (.aload_n 0, 1) := by decide +kernel
theorem d13_54 : decode prog_8_method_5_code 54 = .ok (.iload_n 1, 1) := by decide +kernel
theorem d13_55 : decode prog_8_method_5_code 55 = .ok (.iload_n 2, 1) := by decide +kernel
theorem d13_56 : decode prog_8_method_5_code 56 = .ok (.invokevirtual 83, 3) := by decide +kernel
theorem d13_59 : decode prog_8_method_5_code 59 = .ok (.areturn, 1) := by decide +kernel
theorem d21_0 : decode prog_8_method_6_code 0 = .ok (.iload_n 0, 1) := by decide +kernel
theorem d21_1 : decode prog_8_method_6_code 1 = .ok (.bipush 32, 2) := by decide +kernel
theorem d21_3 : decode prog_8_method_6_code 3 = .ok (.if_icmp .eq 9, 3) := by decide +kernel
theorem d21_6 : decode prog_8_method_6_code 6 = .ok (.iload_n 0, 1) := by decide +kernel
theorem d21_7 : decode prog_8_method_6_code 7 = .ok (.bipush 9, 2) := by decide +kernel
theorem d21_9 : decode prog_8_method_6_code 9 = .ok (.if_icmp .ne 7, 3) := by decide +kernel
theorem d21_12 : decode prog_8_method_6_code 12 = .ok (.iconst 1, 1) := by decide +kernel
theorem d21_13 : decode prog_8_method_6_code 13 = .ok (.goto 4, 3) := by decide +kernel
theorem d21_16 : decode prog_8_method_6_code 16 = .ok (.iconst 0, 1) := by decide +kernel
theorem d21_17 : decode prog_8_method_6_code 17 = .ok (.ireturn, 1) := by decide +kernel
theorem d33_0 : decode prog_8_method_7_code 0 = .ok (.iload_n 0, 1) := by decide +kernel
theorem d33_1 : decode prog_8_method_7_code 1 = .ok (.bipush 32, 2) := by decide +kernel
theorem d33_3 : decode prog_8_method_7_code 3 = .ok (.if_icmp .lt 13, 3) := by decide +kernel
theorem d33_6 : decode prog_8_method_7_code 6 = .ok (.iload_n 0, 1) := by decide +kernel
theorem d33_7 : decode prog_8_method_7_code 7 = .ok (.bipush 126, 2) := by decide +kernel
theorem d33_9 : decode prog_8_method_7_code 9 = .ok (.if_icmp .gt 7, 3) := by decide +kernel
theorem d33_12 : decode prog_8_method_7_code 12 = .ok (.iconst 1, 1) := by decide +kernel
theorem d33_13 : decode prog_8_method_7_code 13 = .ok (.goto 4, 3) := by decide +kernel
theorem d33_17 : decode prog_8_method_7_code 17 = .ok (.ireturn, 1) := by decide +kernel
theorem pd_0 : parseMethodDescriptor "()B" = some ⟨[], some .byte⟩ := by decide +kernel
theorem pd_1 : parseMethodDescriptor "(IILjava/util/function/BiFunction;)I" = some ⟨[.int, .int, (.object "java/util/function/BiFunction")], some .int⟩ := by decide +kernel
theorem pd_2 : parseMethodDescriptor "(II)V" = some ⟨[.int, .int], none⟩ := by decide +kernel
theorem pd_3 : parseMethodDescriptor "()Z" = some ⟨[], some .boolean⟩ := by decide +kernel
theorem pd_4 : parseMethodDescriptor "([BI)C" = some ⟨[(.array .byte), .int], some .char⟩ := by decide +kernel
theorem pd_5 : parseMethodDescriptor "(IIILjava/util/function/BiFunction;)I" = some ⟨[.int, .int, .int, (.object "java/util/function/BiFunction")], some .int⟩ := by decide +kernel
theorem pd_6 : parseMethodDescriptor "(II)I" = some ⟨[.int, .int], some .int⟩ := by decide +kernel
theorem pd_7 : parseMethodDescriptor "([BII)[B" = some ⟨[(.array .byte), .int, .int], some (.array .byte)⟩ := by decide +kernel
theorem pd_8 : parseMethodDescriptor "([BB)V" = some ⟨[(.array .byte), .byte], none⟩ := by decide +kernel
theorem pd_9 : parseMethodDescriptor "()I" = some ⟨[], some .int⟩ := by decide +kernel
theorem pd_10 : parseMethodDescriptor "(III)V" = some ⟨[.int, .int, .int], none⟩ := by decide +kernel
theorem pd_11 : parseMethodDescriptor "([BII)Ljava/lang/String;" = some ⟨[(.array .byte), .int, .int], some (.object "java/lang/String")⟩ := by decide +kernel
theorem pd_12 : parseMethodDescriptor "(I)V" = some ⟨[.int], none⟩ := by decide +kernel
theorem pd_13 : parseMethodDescriptor "(C)Z" = some ⟨[.char], some .boolean⟩ := by decide +kernel
theorem pd_14 : parseMethodDescriptor "(C)Ljava/lang/AbstractStringBuilder;" = some ⟨[.char], some (.object "java/lang/AbstractStringBuilder")⟩ := by decide +kernel
theorem pd_15 : parseMethodDescriptor "()[B" = some ⟨[], some (.array .byte)⟩ := by decide +kernel
theorem pd_16 : parseMethodDescriptor "(Ljava/lang/AbstractStringBuilder;Ljava/lang/Void;)V" = some ⟨[(.object "java/lang/AbstractStringBuilder"), (.object "java/lang/Void")], none⟩ := by decide +kernel
theorem pd_17 : parseMethodDescriptor "(Ljava/lang/StringBuilder;)V" = some ⟨[(.object "java/lang/StringBuilder")], none⟩ := by decide +kernel
theorem pd_18 : parseMethodDescriptor "()V" = some ⟨[], none⟩ := by decide +kernel
theorem pd_19 : parseMethodDescriptor "(II)Ljava/lang/String;" = some ⟨[.int, .int], some (.object "java/lang/String")⟩ := by decide +kernel
theorem pd_20 : parseMethodDescriptor "(I)C" = some ⟨[.int], some .char⟩ := by decide +kernel
theorem pd_21 : parseMethodDescriptor "()Ljava/lang/String;" = some ⟨[], some (.object "java/lang/String")⟩ := by decide +kernel
theorem pd_22 : parseMethodDescriptor "(C)Ljava/lang/StringBuilder;" = some ⟨[.char], some (.object "java/lang/StringBuilder")⟩ := by decide +kernel
theorem pd_23 : parseMethodDescriptor "(Ljava/lang/Object;Ljava/lang/String;)Ljava/lang/Object;" = some ⟨[(.object "java/lang/Object"), (.object "java/lang/String")], some (.object "java/lang/Object")⟩ := by decide +kernel
theorem pd_24 : parseMethodDescriptor "(Ljava/lang/String;)Ljava/lang/String;" = some ⟨[(.object "java/lang/String")], some (.object "java/lang/String")⟩ := by decide +kernel
theorem pd_25 : parseMethodDescriptor "(Ljava/lang/String;)V" = some ⟨[(.object "java/lang/String")], none⟩ := by decide +kernel
theorem pd_26 : parseMethodDescriptor "(III)I" = some ⟨[.int, .int, .int], some .int⟩ := by decide +kernel
theorem pd_27 : parseMethodDescriptor "([CII)V" = some ⟨[(.array .char), .int, .int], none⟩ := by decide +kernel
theorem pd_28 : parseMethodDescriptor "([C[C[IIIIII)V" = some ⟨[(.array .char), (.array .char), (.array .int), .int, .int, .int, .int, .int], none⟩ := by decide +kernel
theorem pd_29 : parseMethodDescriptor "([C)V" = some ⟨[(.array .char)], none⟩ := by decide +kernel
theorem pd_30 : parseMethodDescriptor "(Ljava/lang/String;)Lcom/example/anemone/anemone/IdempotencyKey;" = some ⟨[(.object "java/lang/String")], some (.object "com/example/anemone/anemone/IdempotencyKey")⟩ := by decide +kernel
theorem pd_31 : parseMethodDescriptor "(Ljava/lang/String;[CII)Z" = some ⟨[(.object "java/lang/String"), (.array .char), .int, .int], some .boolean⟩ := by decide +kernel
theorem pd_32 : parseMethodDescriptor "([C[C[IIIIIII)V" = some ⟨[(.array .char), (.array .char), (.array .int), .int, .int, .int, .int, .int, .int], none⟩ := by decide +kernel
theorem pn_0 : plainName "java/lang/String" = true := by first | (simp [plainName, overriddenIn]; done) | decide +kernel
theorem pn_1 : plainName "jdk/internal/util/Preconditions" = true := by first | (simp [plainName, overriddenIn]; done) | decide +kernel
theorem pn_2 : plainName "java/lang/StringLatin1" = true := by first | (simp [plainName, overriddenIn]; done) | decide +kernel
theorem pn_3 : plainName "java/util/Arrays" = true := by first | (simp [plainName, overriddenIn]; done) | decide +kernel
theorem pn_4 : plainFor (⟨"java/lang/Math", "min", "(II)I"⟩ : MethodName) = true := Jvm.Free.JP.mathPlain rfl (by decide +kernel)
theorem pn_5 : plainName "java/lang/Record" = true := by first | (simp [plainName, overriddenIn]; done) | decide +kernel
theorem pn_6 : plainName "java/lang/AbstractStringBuilder" = true := by first | (simp [plainName, overriddenIn]; done) | decide +kernel
theorem pn_7 : plainName "java/lang/StringBuilder" = true := by first | (simp [plainName, overriddenIn]; done) | decide +kernel
theorem pn_8 : plainName "com/example/anemone/anemone/IdempotencyKey" = true := by first | (simp [plainName, overriddenIn]; done) | decide +kernel
theorem pn_9 : plainName "java/util/Objects" = true := by first | (simp [plainName, overriddenIn]; done) | decide +kernel
theorem pn_10 : plainName "com/example/anemone/anemone/IdempotencyKeyParsePinLaw" = true := by first | (simp [plainName, overriddenIn]; done) | decide +kernel
theorem ef_c_strbb (m : MethodId) (x0 : Addr) (x1 : Addr) (x2 : Int32)  : entryFrame m #[(.ref x0), (.ref x1), (.int x2)] 3 = mkF m 0 #[.val (.ref x0), .val (.ref x1), .val (.int x2)] [] := by first | (simp [entryFrame, mkF, argsToLocals, Value.category]; done) | rfl
set_option maxRecDepth 65536 in
set_option maxHeartbeats 40000000 in
theorem c_strbb {l : Launch} {Z : State} {n0 : Nat} {a0 : Array Value} (hw : Hw a0 Z) (x : Addr) (t : Addr) (cd : Int32) (u_value : Value) (u_coder : Value)  (h0 : Heap) (E0 : Exa Z h0 x "java/lang/String") (F_value : Fld Z h0 x "java/lang/String" "value" "[B" u_value) (F_coder : Fld Z h0 x "java/lang/String" "coder" "B" u_coder)  :
    Con l Z n0 ELs (⟨"java/lang/String", "<init>", "([BB)V"⟩ : MethodName) jdk_42_method_151_code 3 none [] ({ frames := 1, cells := 0, slots := 0, locals := 12 } : Room) #[(.ref x), (.ref t), (.int cd)] h0 [x] false (fun w h => Exa Z h x "java/lang/String" ∧ Fld Z h x "java/lang/String" "value" "[B" (.ref t) ∧ Fld Z h x "java/lang/String" "coder" "B" (.int (nar .byte cd))) := by
  refine con_of (plainFor_of_name pn_0) (fun mt => ef_c_strbb mt x t cd ) ?_
  intro K
  refine g_aloadN d30_0 rfl rfl (pc' := 1) rfl ?_
  refine g_initO (W := 0) d30_1 (w_25 hw) (w_26 hw) (w_27 hw) rfl (by decide) (Nat.le_of_eq rfl) (by decide) (pc' := 4) rfl ?_
  refine g_aloadN d30_4 rfl rfl (pc' := 5) rfl ?_
  refine g_aloadN d30_5 rfl rfl (pc' := 6) rfl ?_
  refine g_putF (ty := (.array .byte)) d30_6 (w_42 hw) Via.refl F_value E0 (Or.inr ⟨(w_43 hw), rfl, rfl⟩) (w_16 hw) (by decide) rfl rfl (Or.inl (List.mem_of_getElem? (i := 0) rfl)) (List.mem_of_getElem? (i := 0) rfl) (pc' := 9) rfl ?_
  intro h1 W1
  have Kw1 := Keep.of_wr W1
  have G1_value := F_value.same W1
  have G1_coder := F_coder.other W1 (Or.inr (slot_ne (Or.inr (w_41 hw)) (Or.inr (w_43 hw)) (by decide) (t := .byte) (t' := (.array .byte)) (by decide) (by decide)))
  refine g_aloadN d30_9 rfl rfl (pc' := 10) rfl ?_
  refine g_iloadN d30_10 rfl (pc' := 11) rfl ?_
  refine g_putF (ty := .byte) d30_11 (w_40 hw) Via.refl G1_coder (E0.keep Kw1) (Or.inr ⟨(w_41 hw), rfl, rfl⟩) (w_16 hw) (by decide) (v' := (.int (nar .byte cd))) rfl (fits_nar_byte _) (Or.inl (List.mem_of_getElem? (i := 0) rfl)) (List.mem_of_getElem? (i := 0) rfl) (pc' := 14) rfl ?_
  intro h2 W2
  have Kw2 := Keep.of_wr W2
  have G2_coder := G1_coder.same W2
  have G2_value := G1_value.other W2 (Or.inr (slot_ne (Or.inr (w_43 hw)) (Or.inr (w_41 hw)) (by decide) (t := (.array .byte)) (t' := .byte) (by decide) (by decide)))
  exact g_return d30_14 rfl ⟨((E0.keep Kw1).keep Kw2), G2_value, G2_coder⟩ (by decide) (by decide)
theorem ef_c_coder (m : MethodId) (x0 : Addr)  : entryFrame m #[(.ref x0)] 1 = mkF m 0 #[.val (.ref x0)] [] := by first | (simp [entryFrame, mkF, argsToLocals, Value.category]; done) | rfl
set_option maxRecDepth 65536 in
set_option maxHeartbeats 40000000 in
theorem c_coder {l : Launch} {Z : State} {n0 : Nat} {a0 : Array Value} (hw : Hw a0 Z) (x : Addr) (cd z : Int32) (h0 : Heap) (hC : Sta Z Z.heap "java/lang/String" "COMPACT_STRINGS" "Z" (.int z)) (hz : ¬ z = 0) (F : Fld Z h0 x "java/lang/String" "coder" "B" (.int cd)) (hcd : nar .byte cd = cd) :
    Con l Z n0 ELs (⟨"java/lang/String", "coder", "()B"⟩ : MethodName) jdk_42_method_152_code 1 (some .byte) [] ({ frames := 0, cells := 0, slots := 0, locals := 0 } : Room) #[(.ref x)] h0 [] false (fun w h => w = .int cd ∧ h0 = h) := by
  refine con_of (plainFor_of_name pn_0) (fun mt => ef_c_coder mt x ) ?_
  intro K
  refine g_getS d15_0 (w_28 hw) Via.refl hC (pc' := 3) rfl ?_
  refine g_if_eq_f d15_3 hz (pc' := 6) rfl ?_
  refine g_aloadN d15_6 rfl rfl (pc' := 7) rfl ?_
  refine g_getF d15_7 (w_40 hw) Via.refl F (pc' := 10) rfl ?_
  refine g_goto d15_10 (pc' := 14) (by decide) rfl ?_
  exact g_ireturnN d15_14 rfl (by simp) hcd ⟨rfl, rfl⟩ (by decide) (by decide)
theorem ef_c_len (m : MethodId) (x0 : Addr)  : entryFrame m #[(.ref x0)] 1 = mkF m 0 #[.val (.ref x0)] [] := by first | (simp [entryFrame, mkF, argsToLocals, Value.category]; done) | rfl
set_option maxRecDepth 65536 in
set_option maxHeartbeats 40000000 in
theorem c_len {l : Launch} {Z : State} {n0 : Nat} {a0 : Array Value} (hw : Hw a0 Z) (x t : Addr) (cs : List Int32) (z : Int32) (h0 : Heap) (hC : Sta Z Z.heap "java/lang/String" "COMPACT_STRINGS" "Z" (.int z)) (hz : ¬ z = 0) (S : St Z h0 x t cs) :
    Con l Z n0 ELs (⟨"java/lang/String", "length", "()I"⟩ : MethodName) jdk_42_method_54_code 1 (some .int) [] ({ frames := 1, cells := 0, slots := 0, locals := 13 } : Room) #[(.ref x)] h0 [] false (fun w h => w = .int (Int32.ofNat cs.length) ∧ h0 = h) := by
  refine con_of (plainFor_of_name pn_0) (fun mt => ef_c_len mt x ) ?_
  intro K
  refine g_aloadN d14_0 rfl rfl (pc' := 1) rfl ?_
  refine g_getF d14_1 (w_42 hw) Via.refl S.2.2.1 (pc' := 4) rfl ?_
  refine g_alen d14_4 S.2.2.2.1 (x := (Int32.ofNat cs.length)) (by rw [List.length_map]) (pc' := 5) rfl ?_
  refine g_aloadN d14_5 rfl rfl (pc' := 6) rfl ?_
  refine g_virt (W := 1) (argsL := []) (rest := [(.int (Int32.ofNat cs.length))]) d14_6 (w_63 hw) (w_64 hw) (nf_self (w_66 hw)) (w_66 hw) (w_65 hw) (by decide) (lenOf pd_0 rfl) S.1 (c_coder hw x 0 z _ hC hz S.2.1 rfl) (w_67 hw) (w_17 hw) (by decide) (by decide) (fun _ q => nomatch q) rfl (Nat.le_of_eq rfl) rfl (by decide) (by decide) (pc' := 9) rfl ?_
  intro w1 h1 q1 Kc1
  obtain ⟨rfl, rfl⟩ := q1
  refine g_ishr d14_9 (v := Int32.ofNat cs.length) (shr0 _) (pc' := 10) rfl ?_
  exact g_ireturn d14_10 rfl ⟨rfl, rfl⟩ (by decide) (by decide)
theorem c_lenN {l : Launch} {Z : State} {n0 : Nat} {a0 : Array Value} (hw : Hw a0 Z) (x t : Addr) (cs : List Int32) (m z : Int32) (h0 : Heap) (hC : Sta Z Z.heap "java/lang/String" "COMPACT_STRINGS" "Z" (.int z)) (hz : ¬ z = 0) (S : St Z h0 x t cs) (hm : Int32.ofNat cs.length = m) :
    Con l Z n0 ELs (⟨"java/lang/String", "length", "()I"⟩ : MethodName) jdk_42_method_54_code 1 (some .int) [] ({ frames := 1, cells := 0, slots := 0, locals := 13 } : Room) #[(.ref x)] h0 [] false (fun w h => w = .int m ∧ h0 = h) := hm ▸ c_len hw x t cs z h0 hC hz S
theorem ef_c_lat (m : MethodId) (x0 : Addr)  : entryFrame m #[(.ref x0)] 1 = mkF m 0 #[.val (.ref x0)] [] := by first | (simp [entryFrame, mkF, argsToLocals, Value.category]; done) | rfl
set_option maxRecDepth 65536 in
set_option maxHeartbeats 40000000 in
theorem c_lat {l : Launch} {Z : State} {n0 : Nat} {a0 : Array Value} (hw : Hw a0 Z) (x : Addr) (z : Int32) (h0 : Heap) (hC : Sta Z Z.heap "java/lang/String" "COMPACT_STRINGS" "Z" (.int z)) (hz : ¬ z = 0) (F : Fld Z h0 x "java/lang/String" "coder" "B" (.int 0)) :
    Con l Z n0 ELs (⟨"java/lang/String", "isLatin1", "()Z"⟩ : MethodName) jdk_42_method_154_code 1 (some .boolean) [] ({ frames := 0, cells := 0, slots := 0, locals := 0 } : Room) #[(.ref x)] h0 [] false (fun w h => w = .int 1 ∧ h0 = h) := by
  refine con_of (plainFor_of_name pn_0) (fun mt => ef_c_lat mt x ) ?_
  intro K
  refine g_getS d17_0 (w_28 hw) Via.refl hC (pc' := 3) rfl ?_
  refine g_if_eq_f d17_3 hz (pc' := 6) rfl ?_
  refine g_aloadN d17_6 rfl rfl (pc' := 7) rfl ?_
  refine g_getF d17_7 (w_40 hw) Via.refl F (pc' := 10) rfl ?_
  refine g_if_ne_f d17_10 rfl (pc' := 13) rfl ?_
  refine g_iconst d17_13 (v := 1) rfl (pc' := 14) rfl ?_
  refine g_goto d17_14 (pc' := 18) (by decide) rfl ?_
  exact g_ireturnN d17_18 rfl (by simp) (z := 1) rfl ⟨rfl, rfl⟩ (by decide) (by decide)
theorem ef_c_pci (m : MethodId) (x0 : Int32) (x1 : Int32) (x2 : Value) (hx2 : x2.isRef = true) : entryFrame m #[(.int x0), (.int x1), x2] 3 = mkF m 0 #[.val (.int x0), .val (.int x1), .val x2] [] := by rcases ref_cases hx2 with rfl | ⟨bx2, rfl⟩ <;> first | (simp [entryFrame, mkF, argsToLocals, Value.category]; done) | rfl
set_option maxRecDepth 65536 in
set_option maxHeartbeats 40000000 in
theorem c_pci {l : Launch} {Z : State} {n0 : Nat} {a0 : Array Value} (hw : Hw a0 Z) (i n : Int32) (sf : Value) (h0 : Heap) (rsf : sf.isRef = true) (hi : ¬ i < 0 ∧ i < n) :
    Con l Z n0 ELs (⟨"jdk/internal/util/Preconditions", "checkIndex", "(IILjava/util/function/BiFunction;)I"⟩ : MethodName) jdk_41_method_11_code 3 (some .int) [] ({ frames := 0, cells := 0, slots := 0, locals := 0 } : Room) #[(.int i), (.int n), sf] h0 [] false (fun w h => w = .int i ∧ h0 = h) := by
  refine con_of (plainFor_of_name pn_1) (fun mt => ef_c_pci mt i n sf rsf) ?_
  intro K
  refine g_iloadN d20_0 rfl (pc' := 1) rfl ?_
  refine g_if_lt_f d20_1 hi.1 (pc' := 4) rfl ?_
  refine g_iloadN d20_4 rfl (pc' := 5) rfl ?_
  refine g_iloadN d20_5 rfl (pc' := 6) rfl ?_
  refine g_icmp_lt_t d20_6 hi.2 (pc' := 16) (by decide) rfl ?_
  refine g_iloadN d20_16 rfl (pc' := 17) rfl ?_
  exact g_ireturn d20_17 rfl ⟨rfl, rfl⟩ (by decide) (by decide)
theorem ef_c_ci (m : MethodId) (x0 : Int32) (x1 : Int32)  : entryFrame m #[(.int x0), (.int x1)] 2 = mkF m 0 #[.val (.int x0), .val (.int x1)] [] := by first | (simp [entryFrame, mkF, argsToLocals, Value.category]; done) | rfl
set_option maxRecDepth 65536 in
set_option maxHeartbeats 40000000 in
theorem c_ci {l : Launch} {Z : State} {n0 : Nat} {a0 : Array Value} (hw : Hw a0 Z) (i n : Int32) (sf : Value) (h0 : Heap) (hF : Sta Z Z.heap "jdk/internal/util/Preconditions" "SIOOBE_FORMATTER" "Ljava/util/function/BiFunction;" sf) (rsf : sf.isRef = true) (hi : ¬ i < 0 ∧ i < n) :
    Con l Z n0 ELs (⟨"java/lang/String", "checkIndex", "(II)V"⟩ : MethodName) jdk_42_method_155_code 2 none [] ({ frames := 1, cells := 0, slots := 0, locals := 14 } : Room) #[(.int i), (.int n)] h0 [] false (fun w h => h0 = h) := by
  refine con_of (plainFor_of_name pn_0) (fun mt => ef_c_ci mt i n ) ?_
  intro K
  refine g_iloadN d19_0 rfl (pc' := 1) rfl ?_
  refine g_iloadN d19_1 rfl (pc' := 2) rfl ?_
  refine g_getS d19_2 (w_85 hw) Via.refl hF (pc' := 5) rfl ?_
  refine g_static (W := 0) (argsL := [(.int i), (.int n), sf]) (rest := []) d19_5 (w_87 hw) (w_88 hw) (by decide) (lenOf pd_1 rfl) (c_pci hw i n sf _ rsf hi) (w_89 hw) (w_86 hw) (by decide) (by decide) (fun _ q => nomatch q) rfl (Nat.le_of_eq rfl) rfl (by decide) (by decide) (pc' := 8) rfl ?_
  intro w1 h1 q1 Kc1
  obtain ⟨rfl, rfl⟩ := q1
  refine g_pop d19_8 rfl (pc' := 9) rfl ?_
  exact g_return d19_9 rfl rfl (by decide) (by decide)
theorem ef_c_lca (m : MethodId) (x0 : Addr) (x1 : Int32)  : entryFrame m #[(.ref x0), (.int x1)] 2 = mkF m 0 #[.val (.ref x0), .val (.int x1)] [] := by first | (simp [entryFrame, mkF, argsToLocals, Value.category]; done) | rfl
set_option maxRecDepth 65536 in
set_option maxHeartbeats 40000000 in
theorem c_lca {l : Launch} {Z : State} {n0 : Nat} {a0 : Array Value} (hw : Hw a0 Z) (t : Addr) (cs : List Int32) (i : Nat) (ch : Int32) (sf : Value) (h0 : Heap) (hF : Sta Z Z.heap "jdk/internal/util/Preconditions" "SIOOBE_FORMATTER" "Ljava/util/function/BiFunction;" sf) (rsf : sf.isRef = true) (A : Ia Z h0 t .byte (cs.map fun c => c.toInt8.toInt32)) (hi : cs[i]? = some ch) (hc : ¬ ch < 0 ∧ ¬ (255 : Int32) < ch) :
    Con l Z n0 ELs (⟨"java/lang/StringLatin1", "charAt", "([BI)C"⟩ : MethodName) jdk_43_method_2_code 2 (some .char) [] ({ frames := 2, cells := 0, slots := 0, locals := 27 } : Room) #[(.ref t), (.int (Int32.ofNat i))] h0 [] false (fun w h => w = .int ch ∧ h0 = h) := by
  refine con_of (plainFor_of_name pn_2) (fun mt => ef_c_lca mt t ((Int32.ofNat i)) ) ?_
  intro K
  have hb := ofNat_lt (List.getElem?_eq_some_iff.mp hi).1 (by simpa using A.short)
  refine g_iloadN d18_0 rfl (pc' := 1) rfl ?_
  refine g_aloadN d18_1 rfl rfl (pc' := 2) rfl ?_
  refine g_alen d18_2 A (x := (Int32.ofNat cs.length)) (by rw [List.length_map]) (pc' := 3) rfl ?_
  refine g_staticN (W := 0) (argsL := [(.int (Int32.ofNat i)), (.int (Int32.ofNat cs.length))]) (rest := []) d18_3 (w_82 hw) (w_83 hw) (by decide) (lenOf pd_2 rfl) (c_ci hw (Int32.ofNat i) (Int32.ofNat cs.length) sf _ hF rsf ⟨hb.1, hb.2.1⟩) (w_84 hw) (w_17 hw) (by decide) (by decide) (fun _ q => nomatch q) rfl (Nat.le_of_eq rfl) rfl (by decide) (by decide) (pc' := 6) rfl ?_
  intro w1 h1 q1 Kc1
  obtain rfl := q1
  refine g_aloadN d18_6 rfl rfl (pc' := 7) rfl ?_
  refine g_iloadN d18_7 rfl (pc' := 8) rfl ?_
  refine g_baload d18_8 A hb.1 hb.2.2 (by rw [List.getElem?_map, hi]; rfl) (pc' := 9) rfl ?_
  refine g_sipush d18_9 (v := 255) rfl (pc' := 12) rfl ?_
  refine g_iand d18_12 rfl (pc' := 13) rfl ?_
  refine g_i2c d18_13 (v := ch) (lo8 ch hc).1 (pc' := 14) rfl ?_
  exact g_ireturnN d18_14 rfl (by simp) (lo8 ch hc).2.1 ⟨rfl, rfl⟩ (by decide) (by decide)
theorem ef_c_charat (m : MethodId) (x0 : Addr) (x1 : Int32)  : entryFrame m #[(.ref x0), (.int x1)] 2 = mkF m 0 #[.val (.ref x0), .val (.int x1)] [] := by first | (simp [entryFrame, mkF, argsToLocals, Value.category]; done) | rfl
set_option maxRecDepth 65536 in
set_option maxHeartbeats 40000000 in
theorem c_charat {l : Launch} {Z : State} {n0 : Nat} {a0 : Array Value} (hw : Hw a0 Z) (x t : Addr) (cs : List Int32) (i : Nat) (ch z : Int32) (sf : Value) (h0 : Heap) (hC : Sta Z Z.heap "java/lang/String" "COMPACT_STRINGS" "Z" (.int z)) (hz : ¬ z = 0) (hF : Sta Z Z.heap "jdk/internal/util/Preconditions" "SIOOBE_FORMATTER" "Ljava/util/function/BiFunction;" sf) (rsf : sf.isRef = true) (S : St Z h0 x t cs) (hi : cs[i]? = some ch) :
    Con l Z n0 ELs (⟨"java/lang/String", "charAt", "(I)C"⟩ : MethodName) jdk_42_method_56_code 2 (some .char) [] ({ frames := 3, cells := 0, slots := 0, locals := 42 } : Room) #[(.ref x), (.int (Int32.ofNat i))] h0 [] false (fun w h => w = .int ch ∧ h0 = h) := by
  refine con_of (plainFor_of_name pn_0) (fun mt => ef_c_charat mt x ((Int32.ofNat i)) ) ?_
  intro K
  refine g_aloadN d16_0 rfl rfl (pc' := 1) rfl ?_
  refine g_virt (W := 0) (argsL := []) (rest := []) d16_1 (w_73 hw) (w_74 hw) (nf_self (w_76 hw)) (w_76 hw) (w_75 hw) (by decide) (lenOf pd_3 rfl) S.1 (c_lat hw x z _ hC hz S.2.1) (w_77 hw) (w_17 hw) (by decide) (by decide) (fun _ q => nomatch q) rfl (Nat.le_of_eq rfl) rfl (by decide) (by decide) (pc' := 4) rfl ?_
  intro w1 h1 q1 Kc1
  obtain ⟨rfl, rfl⟩ := q1
  refine g_if_eq_f d16_4 (by decide) (pc' := 7) rfl ?_
  refine g_aloadN d16_7 rfl rfl (pc' := 8) rfl ?_
  refine g_getF d16_8 (w_42 hw) Via.refl S.2.2.1 (pc' := 11) rfl ?_
  refine g_iloadN d16_11 rfl (pc' := 12) rfl ?_
  refine g_static (W := 0) (argsL := [(.ref t), (.int (Int32.ofNat i))]) (rest := []) d16_12 (w_78 hw) (w_79 hw) (by decide) (lenOf pd_4 rfl) (c_lca hw t cs i ch sf _ hF rsf S.2.2.2.1 hi (S.2.2.2.2 _ (List.mem_of_getElem? hi))) (w_81 hw) (w_80 hw) (by decide) (by decide) (fun _ q => nomatch q) rfl (Nat.le_of_eq rfl) rfl (by decide) (by decide) (pc' := 15) rfl ?_
  intro w2 h2 q2 Kc2
  obtain ⟨rfl, rfl⟩ := q2
  exact g_ireturnN d16_15 rfl (by simp) (lo8 ch (S.2.2.2.2 _ (List.mem_of_getElem? hi))).2.1 ⟨rfl, rfl⟩ (by decide) (by decide)
theorem ef_c_pft (m : MethodId) (x0 : Int32) (x1 : Int32) (x2 : Int32) (x3 : Value) (hx3 : x3.isRef = true) : entryFrame m #[(.int x0), (.int x1), (.int x2), x3] 4 = mkF m 0 #[.val (.int x0), .val (.int x1), .val (.int x2), .val x3] [] := by rcases ref_cases hx3 with rfl | ⟨bx3, rfl⟩ <;> first | (simp [entryFrame, mkF, argsToLocals, Value.category]; done) | rfl
set_option maxRecDepth 65536 in
set_option maxHeartbeats 40000000 in
theorem c_pft {l : Launch} {Z : State} {n0 : Nat} {a0 : Array Value} (hw : Hw a0 Z) (i j n : Int32) (sf : Value) (h0 : Heap) (rsf : sf.isRef = true) (hi : ¬ i < 0 ∧ ¬ j < i ∧ ¬ n < j) :
    Con l Z n0 ELs (⟨"jdk/internal/util/Preconditions", "checkFromToIndex", "(IIILjava/util/function/BiFunction;)I"⟩ : MethodName) jdk_41_method_12_code 4 (some .int) [] ({ frames := 0, cells := 0, slots := 0, locals := 0 } : Room) #[(.int i), (.int j), (.int n), sf] h0 [] false (fun w h => w = .int i ∧ h0 = h) := by
  refine con_of (plainFor_of_name pn_1) (fun mt => ef_c_pft mt i j n sf rsf) ?_
  intro K
  refine g_iloadN d24_0 rfl (pc' := 1) rfl ?_
  refine g_if_lt_f d24_1 hi.1 (pc' := 4) rfl ?_
  refine g_iloadN d24_4 rfl (pc' := 5) rfl ?_
  refine g_iloadN d24_5 rfl (pc' := 6) rfl ?_
  refine g_icmp_gt_f d24_6 hi.2.1 (pc' := 9) rfl ?_
  refine g_iloadN d24_9 rfl (pc' := 10) rfl ?_
  refine g_iloadN d24_10 rfl (pc' := 11) rfl ?_
  refine g_icmp_le_t d24_11 hi.2.2 (pc' := 22) (by decide) rfl ?_
  refine g_iloadN d24_22 rfl (pc' := 23) rfl ?_
  exact g_ireturn d24_23 rfl ⟨rfl, rfl⟩ (by decide) (by decide)
theorem ef_c_cbe (m : MethodId) (x0 : Int32) (x1 : Int32) (x2 : Int32)  : entryFrame m #[(.int x0), (.int x1), (.int x2)] 3 = mkF m 0 #[.val (.int x0), .val (.int x1), .val (.int x2)] [] := by first | (simp [entryFrame, mkF, argsToLocals, Value.category]; done) | rfl
set_option maxRecDepth 65536 in
set_option maxHeartbeats 40000000 in
theorem c_cbe {l : Launch} {Z : State} {n0 : Nat} {a0 : Array Value} (hw : Hw a0 Z) (i j n : Int32) (sf : Value) (h0 : Heap) (hF : Sta Z Z.heap "jdk/internal/util/Preconditions" "SIOOBE_FORMATTER" "Ljava/util/function/BiFunction;" sf) (rsf : sf.isRef = true) (hi : ¬ i < 0 ∧ ¬ j < i ∧ ¬ n < j) :
    Con l Z n0 ELs (⟨"java/lang/String", "checkBoundsBeginEnd", "(III)V"⟩ : MethodName) jdk_42_method_158_code 3 none [] ({ frames := 1, cells := 0, slots := 0, locals := 15 } : Room) #[(.int i), (.int j), (.int n)] h0 [] false (fun w h => h0 = h) := by
  refine con_of (plainFor_of_name pn_0) (fun mt => ef_c_cbe mt i j n ) ?_
  intro K
  refine g_iloadN d23_0 rfl (pc' := 1) rfl ?_
  refine g_iloadN d23_1 rfl (pc' := 2) rfl ?_
  refine g_iloadN d23_2 rfl (pc' := 3) rfl ?_
  refine g_getS d23_3 (w_85 hw) Via.refl hF (pc' := 6) rfl ?_
  refine g_static (W := 0) (argsL := [(.int i), (.int j), (.int n), sf]) (rest := []) d23_6 (w_102 hw) (w_103 hw) (by decide) (lenOf pd_5 rfl) (c_pft hw i j n sf _ rsf hi) (w_104 hw) (w_86 hw) (by decide) (by decide) (fun _ q => nomatch q) rfl (Nat.le_of_eq rfl) rfl (by decide) (by decide) (pc' := 9) rfl ?_
  intro w1 h1 q1 Kc1
  obtain ⟨rfl, rfl⟩ := q1
  refine g_pop d23_9 rfl (pc' := 10) rfl ?_
  exact g_return d23_10 rfl rfl (by decide) (by decide)
theorem ef_c_ckl (m : MethodId) (x0 : Int32) (x1 : Int32)  : entryFrame m #[(.int x0), (.int x1)] 2 = mkF m 0 #[.val (.int x0), .val (.int x1)] [] := by first | (simp [entryFrame, mkF, argsToLocals, Value.category]; done) | rfl
set_option maxRecDepth 65536 in
set_option maxHeartbeats 40000000 in
theorem c_ckl {l : Launch} {Z : State} {n0 : Nat} {a0 : Array Value} (hw : Hw a0 Z) (i j : Int32) (h0 : Heap) (hi : ¬ j < i) :
    Con l Z n0 ELs (⟨"java/util/Arrays", "checkLength", "(II)V"⟩ : MethodName) jdk_65_method_131_code 2 none [] ({ frames := 0, cells := 0, slots := 0, locals := 0 } : Room) #[(.int i), (.int j)] h0 [] false (fun w h => h0 = h) := by
  refine con_of (plainFor_of_name pn_3) (fun mt => ef_c_ckl mt i j ) ?_
  intro K
  refine g_iloadN d28_0 rfl (pc' := 1) rfl ?_
  refine g_iloadN d28_1 rfl (pc' := 2) rfl ?_
  refine g_icmp_ge_t d28_2 hi (pc' := 37) (by decide) rfl ?_
  exact g_return d28_37 rfl rfl (by decide) (by decide)
theorem ef_c_min (m : MethodId) (x0 : Int32) (x1 : Int32)  : entryFrame m #[(.int x0), (.int x1)] 2 = mkF m 0 #[.val (.int x0), .val (.int x1)] [] := by first | (simp [entryFrame, mkF, argsToLocals, Value.category]; done) | rfl
set_option maxRecDepth 65536 in
set_option maxHeartbeats 40000000 in
theorem c_min {l : Launch} {Z : State} {n0 : Nat} {a0 : Array Value} (hw : Hw a0 Z) (i j : Int32) (h0 : Heap) (hi : j < i) :
    Con l Z n0 ELs (⟨"java/lang/Math", "min", "(II)I"⟩ : MethodName) jdk_29_method_69_code 2 (some .int) [] ({ frames := 0, cells := 0, slots := 0, locals := 0 } : Room) #[(.int i), (.int j)] h0 [] false (fun w h => w = .int j ∧ h0 = h) := by
  refine con_of pn_4 (fun mt => ef_c_min mt i j ) ?_
  intro K
  refine g_iloadN d29_0 rfl (pc' := 1) rfl ?_
  refine g_iloadN d29_1 rfl (pc' := 2) rfl ?_
  refine g_icmp_gt_t d29_2 hi (pc' := 9) (by decide) rfl ?_
  refine g_iloadN d29_9 rfl (pc' := 10) rfl ?_
  exact g_ireturn d29_10 rfl ⟨rfl, rfl⟩ (by decide) (by decide)
theorem ef_c_min2 (m : MethodId) (x0 : Int32) (x1 : Int32)  : entryFrame m #[(.int x0), (.int x1)] 2 = mkF m 0 #[.val (.int x0), .val (.int x1)] [] := by first | (simp [entryFrame, mkF, argsToLocals, Value.category]; done) | rfl
set_option maxRecDepth 65536 in
set_option maxHeartbeats 40000000 in
theorem c_min2 {l : Launch} {Z : State} {n0 : Nat} {a0 : Array Value} (hw : Hw a0 Z) (i j : Int32) (h0 : Heap) (hi : ¬ j < i) :
    Con l Z n0 ELs (⟨"java/lang/Math", "min", "(II)I"⟩ : MethodName) jdk_29_method_69_code 2 (some .int) [] ({ frames := 0, cells := 0, slots := 0, locals := 0 } : Room) #[(.int i), (.int j)] h0 [] false (fun w h => w = .int i ∧ h0 = h) := by
  refine con_of pn_4 (fun mt => ef_c_min2 mt i j ) ?_
  intro K
  refine g_iloadN d29_0 rfl (pc' := 1) rfl ?_
  refine g_iloadN d29_1 rfl (pc' := 2) rfl ?_
  refine g_icmp_gt_f d29_2 hi (pc' := 5) rfl ?_
  refine g_iloadN d29_5 rfl (pc' := 6) rfl ?_
  refine g_goto d29_6 (pc' := 10) (by decide) rfl ?_
  exact g_ireturn d29_10 rfl ⟨rfl, rfl⟩ (by decide) (by decide)
theorem ef_c_crb (m : MethodId) (x0 : Addr) (x1 : Int32) (x2 : Int32)  : entryFrame m #[(.ref x0), (.int x1), (.int x2)] 5 = mkF m 0 #[.val (.ref x0), .val (.int x1), .val (.int x2), .unset, .unset] [] := by first | (simp [entryFrame, mkF, argsToLocals, Value.category]; done) | rfl
set_option maxRecDepth 65536 in
set_option maxHeartbeats 40000000 in
theorem c_crb {l : Launch} {Z : State} {n0 : Nat} {a0 : Array Value} (hw : Hw a0 Z) (t : Addr) (vs : List Int32) (b e : Nat) (h0 : Heap) (A : Ia Z h0 t .byte vs) (hbe : b ≤ e) (hel : e ≤ vs.length) (h16 : e - b ≤ 16) :
    Con l Z n0 ELs (⟨"java/util/Arrays", "copyOfRangeByte", "([BII)[B"⟩ : MethodName) jdk_65_method_133_code 5 (some (.array .byte)) [] ({ frames := 1, cells := 1, slots := 16, locals := 40 } : Room) #[(.ref t), (.int (Int32.ofNat b)), (.int (Int32.ofNat e))] h0 [] true (fun w h => ∃ d, w = .ref d ∧ h0.size ≤ d ∧ Ia Z h d .byte ((vs.drop b).take (e - b))) := by
  refine con_of (plainFor_of_name pn_3) (fun mt => ef_c_crb mt t ((Int32.ofNat b)) ((Int32.ofNat e)) ) ?_
  intro K
  have hsh := A.short
  have hmin : ∀ h1, Con l Z n0 ELs (⟨"java/lang/Math", "min", "(II)I"⟩ : MethodName) jdk_29_method_69_code 2 (some .int) [] ({ frames := 0, cells := 0, slots := 0, locals := 0 } : Room) #[(.int (Int32.ofNat (vs.length - b))), (.int (Int32.ofNat (e - b)))] h1 [] false (fun w h => w = .int (Int32.ofNat (e - b)) ∧ h1 = h) := fun h1 => by
    by_cases q : vs.length = e
    · subst q
      exact c_min2 hw _ _ _ (ofNat_le (Nat.le_refl _) (by omega)).2
    · exact c_min hw _ _ _ (by rw [Int32.lt_iff_toInt_lt, ofNat_toInt (by omega), ofNat_toInt (by omega)]; omega)
  refine g_iloadN d27_0 rfl (pc' := 1) rfl ?_
  refine g_iloadN d27_1 rfl (pc' := 2) rfl ?_
  refine g_staticN (W := 0) (argsL := [(.int (Int32.ofNat b)), (.int (Int32.ofNat e))]) (rest := []) d27_2 (w_116 hw) (w_117 hw) (by decide) (lenOf pd_2 rfl) (c_ckl hw (Int32.ofNat b) (Int32.ofNat e) _ (ofNat_le hbe (by omega)).2) (w_118 hw) (w_111 hw) (by decide) (by decide) (fun _ q => nomatch q) rfl (Nat.le_of_eq rfl) rfl (by decide) (by decide) (pc' := 5) rfl ?_
  intro w1 h1 q1 Kc1
  obtain rfl := q1
  refine g_iloadN d27_5 rfl (pc' := 6) rfl ?_
  refine g_iloadN d27_6 rfl (pc' := 7) rfl ?_
  refine g_isub d27_7 (v := (Int32.ofNat (e - b))) (ofNat_sub hbe (by omega)) (pc' := 8) rfl ?_
  refine g_istoreN d27_8 (L' := #[.val (.ref t), .val (.int (Int32.ofNat b)), .val (.int (Int32.ofNat e)), .val (.int (Int32.ofNat (e - b))), .unset]) rfl (pc' := 9) rfl ?_
  refine g_iloadN d27_9 rfl (pc' := 10) rfl ?_
  refine g_newA d27_10 (w_33 hw) rfl (ofNat_le (Nat.le_refl _) (by omega)).1 (cap := 16) (by rw [nat_i32 (by omega)]; omega) (by decide) (by decide) (by decide) (pc' := 12) rfl ?_
  intro d h2 g2 Kn2 A_d sz_d
  refine g_astore d27_12 rfl (L' := #[.val (.ref t), .val (.int (Int32.ofNat b)), .val (.int (Int32.ofNat e)), .val (.int (Int32.ofNat (e - b))), .val (.ref d)]) rfl (pc' := 14) rfl ?_
  refine g_aloadN d27_14 rfl rfl (pc' := 15) rfl ?_
  refine g_iloadN d27_15 rfl (pc' := 16) rfl ?_
  refine g_aload d27_16 rfl rfl (pc' := 18) rfl ?_
  refine g_iconst d27_18 (v := 0) rfl (pc' := 19) rfl ?_
  refine g_aloadN d27_19 rfl rfl (pc' := 20) rfl ?_
  refine g_alen d27_20 (A.keep Kn2 nin0) (x := (Int32.ofNat vs.length)) rfl (pc' := 21) rfl ?_
  refine g_iloadN d27_21 rfl (pc' := 22) rfl ?_
  refine g_isub d27_22 (v := (Int32.ofNat (vs.length - b))) (ofNat_sub (by omega) (by omega)) (pc' := 23) rfl ?_
  refine g_iloadN d27_23 rfl (pc' := 24) rfl ?_
  refine g_static (W := 4) (argsL := [(.int (Int32.ofNat (vs.length - b))), (.int (Int32.ofNat (e - b)))]) (rest := [(.int 0), (.ref d), (.int (Int32.ofNat b)), (.ref t)]) d27_24 (w_119 hw) (w_120 hw) (by decide) (lenOf pd_6 rfl) (hmin _) (w_122 hw) (w_121 hw) (by decide) (by decide) (fun _ q => nomatch q) rfl (Nat.le_of_eq rfl) rfl (by decide) (by decide) (pc' := 27) rfl ?_
  intro w3 h3 q3 Kc3
  obtain ⟨rfl, rfl⟩ := q3
  refine g_acopy (W := 0) d27_27 (w_123 hw) (w_126 hw) (w_124 hw) (w_125 hw) (A.keep Kn2 nin0) A_d (ofNat_le hbe (by omega)).1 (nat_i32 (by omega)) (by decide) (j := 0) rfl (ofNat_le (Nat.le_refl _) (by omega)).1 (nat_i32 (by omega)) (by omega) (by simp [nat_i32 (show e - b < 2 ^ 31 by omega)]) rfl (by decide) (Nat.le_of_eq rfl) (by decide) sz_d (List.mem_of_getElem? (i := 0) rfl) (pc' := 30) rfl ?_
  intro h4 Kw4 A_d_4
  refine g_aload d27_30 rfl rfl (pc' := 32) rfl ?_
  exact g_areturnF d27_32 rfl rfl rfl ⟨d, rfl, sz_d, by simpa [nat_i32 (show e - b < 2 ^ 31 by omega)] using A_d_4⟩ (fun _ _ e => by cases e; exact (List.mem_of_getElem? (i := 0) rfl)) (by decide) (by decide)
theorem ef_c_cor (m : MethodId) (x0 : Addr) (x1 : Int32) (x2 : Int32)  : entryFrame m #[(.ref x0), (.int x1), (.int x2)] 3 = mkF m 0 #[.val (.ref x0), .val (.int x1), .val (.int x2)] [] := by first | (simp [entryFrame, mkF, argsToLocals, Value.category]; done) | rfl
set_option maxRecDepth 65536 in
set_option maxHeartbeats 40000000 in
theorem c_cor {l : Launch} {Z : State} {n0 : Nat} {a0 : Array Value} (hw : Hw a0 Z) (t : Addr) (vs : List Int32) (b e : Nat) (h0 : Heap) (A : Ia Z h0 t .byte vs) (hbe : b ≤ e) (hel : e ≤ vs.length) (h16 : e - b ≤ 16) (hnw : ¬ (b = 0 ∧ e = vs.length)) :
    Con l Z n0 ELs (⟨"java/util/Arrays", "copyOfRange", "([BII)[B"⟩ : MethodName) jdk_65_method_132_code 3 (some (.array .byte)) [] ({ frames := 2, cells := 1, slots := 16, locals := 60 } : Room) #[(.ref t), (.int (Int32.ofNat b)), (.int (Int32.ofNat e))] h0 [] true (fun w h => ∃ d, w = .ref d ∧ h0.size ≤ d ∧ Ia Z h d .byte ((vs.drop b).take (e - b))) := by
  refine con_of (plainFor_of_name pn_3) (fun mt => ef_c_cor mt t ((Int32.ofNat b)) ((Int32.ofNat e)) ) ?_
  intro K
  have hsh := A.short
  refine g_iloadN d26_0 rfl (pc' := 1) rfl ?_
  by_cases q : (Int32.ofNat b) = 0
  · have hne : ¬ (Int32.ofNat e) = (Int32.ofNat vs.length) := fun z => hnw ⟨(ofNat_inj (a := b) (b := 0) (by omega) (by omega)).mp q, (ofNat_inj (by omega) (by omega)).mp z⟩
    refine g_if_ne_f d26_1 q (pc' := 4) rfl ?_
    refine g_iloadN d26_4 rfl (pc' := 5) rfl ?_
    refine g_aloadN d26_5 rfl rfl (pc' := 6) rfl ?_
    refine g_alen d26_6 A (x := (Int32.ofNat vs.length)) rfl (pc' := 7) rfl ?_
    refine g_icmp_eq_f d26_7 hne (pc' := 10) rfl ?_
    refine g_aloadN d26_10 rfl rfl (pc' := 11) rfl ?_
    refine g_iloadN d26_11 rfl (pc' := 12) rfl ?_
    refine g_iloadN d26_12 rfl (pc' := 13) rfl ?_
    refine g_static (W := 0) (argsL := [(.ref t), (.int (Int32.ofNat b)), (.int (Int32.ofNat e))]) (rest := []) d26_13 (w_113 hw) (w_114 hw) (by decide) (lenOf pd_7 rfl) (c_crb hw t vs b e _ A hbe hel h16) (w_115 hw) (w_111 hw) (by decide) (by decide) (fun _ q => nomatch q) rfl (Nat.le_of_eq rfl) rfl (by decide) (by decide) (pc' := 16) rfl ?_
    intro w2 h2 q2 Kc2
    obtain ⟨d, rfl, hd, Ad⟩ := q2
    exact g_areturnF d26_16 rfl rfl rfl ⟨d, rfl, hd, Ad⟩ (fun _ _ e => by cases e; exact (List.mem_of_getElem? (i := 0) rfl)) (by decide) (by decide)
  ·
    refine g_if_ne_t d26_1 q (pc' := 10) (by decide) rfl ?_
    refine g_aloadN d26_10 rfl rfl (pc' := 11) rfl ?_
    refine g_iloadN d26_11 rfl (pc' := 12) rfl ?_
    refine g_iloadN d26_12 rfl (pc' := 13) rfl ?_
    refine g_static (W := 0) (argsL := [(.ref t), (.int (Int32.ofNat b)), (.int (Int32.ofNat e))]) (rest := []) d26_13 (w_113 hw) (w_114 hw) (by decide) (lenOf pd_7 rfl) (c_crb hw t vs b e _ A hbe hel h16) (w_115 hw) (w_111 hw) (by decide) (by decide) (fun _ q => nomatch q) rfl (Nat.le_of_eq rfl) rfl (by decide) (by decide) (pc' := 16) rfl ?_
    intro w1 h1 q1 Kc1
    obtain ⟨d, rfl, hd, Ad⟩ := q1
    exact g_areturnF d26_16 rfl rfl rfl ⟨d, rfl, hd, Ad⟩ (fun _ _ e => by cases e; exact (List.mem_of_getElem? (i := 0) rfl)) (by decide) (by decide)
theorem ef_c_canenc (m : MethodId) (x0 : Int32)  : entryFrame m #[(.int x0)] 1 = mkF m 0 #[.val (.int x0)] [] := by first | (simp [entryFrame, mkF, argsToLocals, Value.category]; done) | rfl
set_option maxRecDepth 65536 in
set_option maxHeartbeats 40000000 in
theorem c_canenc {l : Launch} {Z : State} {n0 : Nat} {a0 : Array Value} (hw : Hw a0 Z) (ch : Int32) (h0 : Heap) (hc : ¬ 255 < ch) :
    Con l Z n0 ELs (⟨"java/lang/StringLatin1", "canEncode", "(C)Z"⟩ : MethodName) jdk_43_method_3_code 1 (some .boolean) [] ({ frames := 0, cells := 0, slots := 0, locals := 0 } : Room) #[(.int ch)] h0 [] false (fun w h => w = .int 1 ∧ h0 = h) := by
  refine con_of (plainFor_of_name pn_2) (fun mt => ef_c_canenc mt ch ) ?_
  intro K
  refine g_iloadN d46_0 rfl (pc' := 1) rfl ?_
  refine g_sipush d46_1 (v := 255) rfl (pc' := 4) rfl ?_
  refine g_icmp_gt_f d46_4 hc (pc' := 7) rfl ?_
  refine g_iconst d46_7 (v := 1) rfl (pc' := 8) rfl ?_
  refine g_goto d46_8 (pc' := 12) (by decide) rfl ?_
  exact g_ireturnN d46_12 rfl (by simp) (z := 1) rfl ⟨rfl, rfl⟩ (by decide) (by decide)
theorem ef_c_record (m : MethodId) (x0 : Addr)  : entryFrame m #[(.ref x0)] 1 = mkF m 0 #[.val (.ref x0)] [] := by first | (simp [entryFrame, mkF, argsToLocals, Value.category]; done) | rfl
set_option maxRecDepth 65536 in
set_option maxHeartbeats 40000000 in
theorem c_record {l : Launch} {Z : State} {n0 : Nat} {a0 : Array Value} (hw : Hw a0 Z) (x : Addr) (h0 : Heap)  :
    Con l Z n0 ELs (⟨"java/lang/Record", "<init>", "()V"⟩ : MethodName) jdk_30_method_1_code 1 none [] ({ frames := 1, cells := 0, slots := 0, locals := 12 } : Room) #[(.ref x)] h0 [] false (fun w h => h0 = h) := by
  refine con_of (plainFor_of_name pn_5) (fun mt => ef_c_record mt x ) ?_
  intro K
  refine g_aloadN d35_0 rfl rfl (pc' := 1) rfl ?_
  refine g_initO (W := 0) d35_1 (w_151 hw) (w_26 hw) (w_27 hw) rfl (by decide) (Nat.le_of_eq rfl) (by decide) (pc' := 4) rfl ?_
  exact g_return d35_4 rfl rfl (by decide) (by decide)
theorem ef_c_news (m : MethodId) (x0 : Addr) (x1 : Int32) (x2 : Int32)  : entryFrame m #[(.ref x0), (.int x1), (.int x2)] 3 = mkF m 0 #[.val (.ref x0), .val (.int x1), .val (.int x2)] [] := by first | (simp [entryFrame, mkF, argsToLocals, Value.category]; done) | rfl
set_option maxRecDepth 65536 in
set_option maxHeartbeats 40000000 in
theorem c_news {l : Launch} {Z : State} {n0 : Nat} {a0 : Array Value} (hw : Hw a0 Z) (t : Addr) (cs : List Int32) (b m : Nat) (h0 : Heap) (A : Ia Z h0 t .byte (cs.map fun c => c.toInt8.toInt32)) (hall : ∀ c ∈ cs, ¬ c < 0 ∧ ¬ (255 : Int32) < c) (hm0 : 0 < m) (hle : b + m ≤ cs.length) (h16 : m ≤ 16) (hnw : ¬ (b = 0 ∧ b + m = cs.length)) :
    Con l Z n0 ELs (⟨"java/lang/StringLatin1", "newString", "([BII)Ljava/lang/String;"⟩ : MethodName) jdk_43_method_47_code 3 (some (.object "java/lang/String")) [] ({ frames := 3, cells := 2, slots := 20, locals := 80 } : Room) #[(.ref t), (.int (Int32.ofNat b)), (.int (Int32.ofNat m))] h0 [] false (fun w h => ∃ x t', w = .ref x ∧ St Z h x t' ((cs.drop b).take m)) := by
  refine con_of (plainFor_of_name pn_2) (fun mt => ef_c_news mt t ((Int32.ofNat b)) ((Int32.ofNat m)) ) ?_
  intro K
  have hsh := A.short
  rw [List.length_map] at hsh
  have q : ¬ (Int32.ofNat m) = 0 := fun z => absurd ((ofNat_inj (a := m) (b := 0) (by omega) (by omega)).mp z) (by omega)
  refine g_iloadN d25_0 rfl (pc' := 1) rfl ?_
  refine g_if_ne_t d25_1 q (pc' := 7) (by decide) rfl ?_
  refine g_new d25_7 (w_108 hw) (w_16 hw) (w_17 hw) (by decide) (by decide) (pc' := 10) rfl ?_
  intro x h1 g1 Kn1 E_x D1 sz_x
  have F_coder_x : Fld Z h1 x "java/lang/String" "coder" "B" (.int 0) := D1 (Or.inr (w_41 hw)) (ty := .byte) (by decide)
  have F_value_x : Fld Z h1 x "java/lang/String" "value" "[B" .null := D1 (Or.inr (w_43 hw)) (ty := (.array .byte)) (by decide)
  refine g_dup d25_10 rfl (pc' := 11) rfl ?_
  refine g_aloadN d25_11 rfl rfl (pc' := 12) rfl ?_
  refine g_iloadN d25_12 rfl (pc' := 13) rfl ?_
  refine g_iloadN d25_13 rfl (pc' := 14) rfl ?_
  refine g_iloadN d25_14 rfl (pc' := 15) rfl ?_
  refine g_iadd d25_15 (v := (Int32.ofNat (b + m))) (ofNat_add (by omega)) (pc' := 16) rfl ?_
  refine g_static (W := 2) (argsL := [(.ref t), (.int (Int32.ofNat b)), (.int (Int32.ofNat (b + m)))]) (rest := [(.ref x), (.ref x)]) d25_16 (w_109 hw) (w_110 hw) (by decide) (lenOf pd_7 rfl) (c_cor hw t _ b (b + m) _ (A.keep Kn1 nin0) (by omega) (by rw [List.length_map]; exact hle) (by omega) (by rw [List.length_map]; exact hnw)) (w_112 hw) (w_111 hw) (by decide) (by decide) (fun _ q => nomatch q) rfl (Nat.le_of_eq rfl) rfl (by decide) (by decide) (pc' := 19) rfl ?_
  intro w2 h2 q2 Kc2
  obtain ⟨d, rfl, hd, Ad⟩ := q2
  refine g_iconst d25_19 (v := 0) rfl (pc' := 20) rfl ?_
  refine g_init (W := 1) (argsL := [(.ref d), (.int 0)]) (rest := [(.ref x)]) d25_20 rfl (w_127 hw) (w_128 hw) (by decide) (lenOf pd_8 rfl) (c_strbb hw x d 0 _ _ _ (E_x.keep Kc2) (F_value_x.keep Kc2 nin0) (F_coder_x.keep Kc2 nin0)) (w_129 hw) (w_17 hw) (by decide) (by decide) (allS ⟨(Or.inr sz_x), (List.mem_of_getElem? (i := 1) rfl)⟩ all0) rfl (Nat.le_of_eq rfl) rfl (by decide) (by decide) (pc' := 23) rfl ?_
  intro w3 h3 q3 Kc3
  obtain ⟨E1, V1, C1⟩ := q3
  have A1 := (Ad.keep Kc3 (ninS (Ne.symm (Nat.ne_of_lt (Nat.lt_of_lt_of_le (E_x).lt hd))) nin0))
  exact g_areturn d25_23 rfl rfl rfl ⟨x, d, rfl, E1, C1, V1, by simpa [List.map_take, List.map_drop] using A1, fun z hz => hall z (List.mem_of_mem_drop (List.mem_of_mem_take hz))⟩ (by decide) (by decide)
theorem ef_c_substr (m : MethodId) (x0 : Addr) (x1 : Int32) (x2 : Int32)  : entryFrame m #[(.ref x0), (.int x1), (.int x2)] 5 = mkF m 0 #[.val (.ref x0), .val (.int x1), .val (.int x2), .unset, .unset] [] := by first | (simp [entryFrame, mkF, argsToLocals, Value.category]; done) | rfl
set_option maxRecDepth 65536 in
set_option maxHeartbeats 40000000 in
theorem c_substr {l : Launch} {Z : State} {n0 : Nat} {a0 : Array Value} (hw : Hw a0 Z) (x t : Addr) (cs : List Int32) (b e : Nat) (z : Int32) (sf : Value) (h0 : Heap) (hC : Sta Z Z.heap "java/lang/String" "COMPACT_STRINGS" "Z" (.int z)) (hz : ¬ z = 0) (hF : Sta Z Z.heap "jdk/internal/util/Preconditions" "SIOOBE_FORMATTER" "Ljava/util/function/BiFunction;" sf) (rsf : sf.isRef = true) (S : St Z h0 x t cs) (hbe' : b < e) (hel : e ≤ cs.length) (h16 : cs.length ≤ 16) :
    Con l Z n0 ELs (⟨"java/lang/String", "substring", "(II)Ljava/lang/String;"⟩ : MethodName) jdk_42_method_92_code 5 (some (.object "java/lang/String")) [] ({ frames := 4, cells := 2, slots := 20, locals := 100 } : Room) #[(.ref x), (.int (Int32.ofNat b)), (.int (Int32.ofNat e))] h0 [] false (fun w h => ∃ x' t', w = .ref x' ∧ St Z h x' t' ((cs.drop b).take (e - b))) := by
  refine con_of (plainFor_of_name pn_0) (fun mt => ef_c_substr mt x ((Int32.ofNat b)) ((Int32.ofNat e)) ) ?_
  intro K
  have hbe : b ≤ e := Nat.le_of_lt hbe'
  have hsh := S.2.2.2.1.short
  rw [List.length_map] at hsh
  refine g_aloadN d22_0 rfl rfl (pc' := 1) rfl ?_
  refine g_virt (W := 0) (argsL := []) (rest := []) d22_1 (w_98 hw) (w_59 hw) (nf_self (w_61 hw)) (w_61 hw) (w_60 hw) (by decide) (lenOf pd_9 rfl) S.1 (c_len hw x t cs z _ hC hz S) (w_62 hw) (w_17 hw) (by decide) (by decide) (fun _ q => nomatch q) rfl (Nat.le_of_eq rfl) rfl (by decide) (by decide) (pc' := 4) rfl ?_
  intro w1 h1 q1 Kc1
  obtain ⟨rfl, rfl⟩ := q1
  refine g_istoreN d22_4 (L' := #[.val (.ref x), .val (.int (Int32.ofNat b)), .val (.int (Int32.ofNat e)), .val (.int (Int32.ofNat cs.length)), .unset]) rfl (pc' := 5) rfl ?_
  refine g_iloadN d22_5 rfl (pc' := 6) rfl ?_
  refine g_iloadN d22_6 rfl (pc' := 7) rfl ?_
  refine g_iloadN d22_7 rfl (pc' := 8) rfl ?_
  refine g_staticN (W := 0) (argsL := [(.int (Int32.ofNat b)), (.int (Int32.ofNat e)), (.int (Int32.ofNat cs.length))]) (rest := []) d22_8 (w_99 hw) (w_100 hw) (by decide) (lenOf pd_10 rfl) (c_cbe hw _ _ _ sf _ hF rsf ⟨(ofNat_le hbe (by omega)).1, (ofNat_le hbe (by omega)).2, (ofNat_le hel (by omega)).2⟩) (w_101 hw) (w_17 hw) (by decide) (by decide) (fun _ q => nomatch q) rfl (Nat.le_of_eq rfl) rfl (by decide) (by decide) (pc' := 11) rfl ?_
  intro w2 h2 q2 Kc2
  obtain rfl := q2
  refine g_iloadN d22_11 rfl (pc' := 12) rfl ?_
  by_cases q : (Int32.ofNat b) = 0
  · have hb0 : b = 0 := (ofNat_inj (a := b) (b := 0) (by omega) (by omega)).mp q
    by_cases q2 : (Int32.ofNat e) = (Int32.ofNat cs.length)
    · have he : e = cs.length := (ofNat_inj (by omega) (by omega)).mp q2
      refine g_if_ne_f d22_12 q (pc' := 15) rfl ?_
      refine g_iloadN d22_15 rfl (pc' := 16) rfl ?_
      refine g_iloadN d22_16 rfl (pc' := 17) rfl ?_
      refine g_icmp_ne_f d22_17 q2 (pc' := 20) rfl ?_
      refine g_aloadN d22_20 rfl rfl (pc' := 21) rfl ?_
      exact g_areturn d22_21 rfl rfl rfl ⟨x, t, rfl, by rw [hb0, he, Nat.sub_zero, List.drop_zero, List.take_length]; exact S⟩ (by decide) (by decide)
    · have he : ¬ e = cs.length := fun z => q2 (by rw [z])
      have hnw : ¬ (b = 0 ∧ b + (e - b) = cs.length) := fun z => he (by omega)
      refine g_if_ne_f d22_12 q (pc' := 15) rfl ?_
      refine g_iloadN d22_15 rfl (pc' := 16) rfl ?_
      refine g_iloadN d22_16 rfl (pc' := 17) rfl ?_
      refine g_icmp_ne_t d22_17 q2 (pc' := 22) (by decide) rfl ?_
      refine g_iloadN d22_22 rfl (pc' := 23) rfl ?_
      refine g_iloadN d22_23 rfl (pc' := 24) rfl ?_
      refine g_isub d22_24 (v := (Int32.ofNat (e - b))) (ofNat_sub hbe (by omega)) (pc' := 25) rfl ?_
      refine g_istore d22_25 (L' := #[.val (.ref x), .val (.int (Int32.ofNat b)), .val (.int (Int32.ofNat e)), .val (.int (Int32.ofNat cs.length)), .val (.int (Int32.ofNat (e - b)))]) rfl (pc' := 27) rfl ?_
      refine g_aloadN d22_27 rfl rfl (pc' := 28) rfl ?_
      refine g_virt (W := 0) (argsL := []) (rest := []) d22_28 (w_73 hw) (w_74 hw) (nf_self (w_76 hw)) (w_76 hw) (w_75 hw) (by decide) (lenOf pd_3 rfl) S.1 (c_lat hw x z _ hC hz S.2.1) (w_77 hw) (w_17 hw) (by decide) (by decide) (fun _ q => nomatch q) rfl (Nat.le_of_eq rfl) rfl (by decide) (by decide) (pc' := 31) rfl ?_
      intro w3 h3 q3 Kc3
      obtain ⟨rfl, rfl⟩ := q3
      refine g_if_eq_f d22_31 (by decide) (pc' := 34) rfl ?_
      refine g_aloadN d22_34 rfl rfl (pc' := 35) rfl ?_
      refine g_getF d22_35 (w_42 hw) Via.refl S.2.2.1 (pc' := 38) rfl ?_
      refine g_iloadN d22_38 rfl (pc' := 39) rfl ?_
      refine g_iload d22_39 rfl (pc' := 41) rfl ?_
      refine g_static (W := 0) (argsL := [(.ref t), (.int (Int32.ofNat b)), (.int (Int32.ofNat (e - b)))]) (rest := []) d22_41 (w_105 hw) (w_106 hw) (by decide) (lenOf pd_11 rfl) (c_news hw t cs b (e - b) _ S.2.2.2.1 S.2.2.2.2 (by omega) (by omega) (by omega) hnw) (w_107 hw) (w_80 hw) (by decide) (by decide) (fun _ q => nomatch q) rfl (Nat.le_of_eq rfl) rfl (by decide) (by decide) (pc' := 44) rfl ?_
      intro w4 h4 q4 Kc4
      obtain ⟨x', t', rfl, S'⟩ := q4
      refine g_goto d22_44 (pc' := 57) (by decide) rfl ?_
      exact g_areturn d22_57 rfl rfl rfl ⟨x', t', rfl, S'⟩ (by decide) (by decide)
  · have hnw : ¬ (b = 0 ∧ b + (e - b) = cs.length) := fun z => q (congrArg Int32.ofNat z.1)
    refine g_if_ne_t d22_12 q (pc' := 22) (by decide) rfl ?_
    refine g_iloadN d22_22 rfl (pc' := 23) rfl ?_
    refine g_iloadN d22_23 rfl (pc' := 24) rfl ?_
    refine g_isub d22_24 (v := (Int32.ofNat (e - b))) (ofNat_sub hbe (by omega)) (pc' := 25) rfl ?_
    refine g_istore d22_25 (L' := #[.val (.ref x), .val (.int (Int32.ofNat b)), .val (.int (Int32.ofNat e)), .val (.int (Int32.ofNat cs.length)), .val (.int (Int32.ofNat (e - b)))]) rfl (pc' := 27) rfl ?_
    refine g_aloadN d22_27 rfl rfl (pc' := 28) rfl ?_
    refine g_virt (W := 0) (argsL := []) (rest := []) d22_28 (w_73 hw) (w_74 hw) (nf_self (w_76 hw)) (w_76 hw) (w_75 hw) (by decide) (lenOf pd_3 rfl) S.1 (c_lat hw x z _ hC hz S.2.1) (w_77 hw) (w_17 hw) (by decide) (by decide) (fun _ q => nomatch q) rfl (Nat.le_of_eq rfl) rfl (by decide) (by decide) (pc' := 31) rfl ?_
    intro w5 h5 q5 Kc5
    obtain ⟨rfl, rfl⟩ := q5
    refine g_if_eq_f d22_31 (by decide) (pc' := 34) rfl ?_
    refine g_aloadN d22_34 rfl rfl (pc' := 35) rfl ?_
    refine g_getF d22_35 (w_42 hw) Via.refl S.2.2.1 (pc' := 38) rfl ?_
    refine g_iloadN d22_38 rfl (pc' := 39) rfl ?_
    refine g_iload d22_39 rfl (pc' := 41) rfl ?_
    refine g_static (W := 0) (argsL := [(.ref t), (.int (Int32.ofNat b)), (.int (Int32.ofNat (e - b)))]) (rest := []) d22_41 (w_105 hw) (w_106 hw) (by decide) (lenOf pd_11 rfl) (c_news hw t cs b (e - b) _ S.2.2.2.1 S.2.2.2.2 (by omega) (by omega) (by omega) hnw) (w_107 hw) (w_80 hw) (by decide) (by decide) (fun _ q => nomatch q) rfl (Nat.le_of_eq rfl) rfl (by decide) (by decide) (pc' := 44) rfl ?_
    intro w6 h6 q6 Kc6
    obtain ⟨x', t', rfl, S'⟩ := q6
    refine g_goto d22_44 (pc' := 57) (by decide) rfl ?_
    exact g_areturn d22_57 rfl rfl rfl ⟨x', t', rfl, S'⟩ (by decide) (by decide)
theorem ef_c_abi (m : MethodId) (x0 : Addr) (x1 : Int32)  : entryFrame m #[(.ref x0), (.int x1)] 2 = mkF m 0 #[.val (.ref x0), .val (.int x1)] [] := by first | (simp [entryFrame, mkF, argsToLocals, Value.category]; done) | rfl
set_option maxRecDepth 65536 in
set_option maxHeartbeats 40000000 in
theorem c_abi {l : Launch} {Z : State} {n0 : Nat} {a0 : Array Value} (hw : Hw a0 Z) (x : Addr) (n : Nat) (z : Int32) (u_value u_coder : Value) (h0 : Heap) (hC : Sta Z Z.heap "java/lang/String" "COMPACT_STRINGS" "Z" (.int z)) (hz : ¬ z = 0) (E0 : Exa Z h0 x "java/lang/StringBuilder") (F_value : Fld Z h0 x "java/lang/AbstractStringBuilder" "value" "[B" u_value) (F_coder : Fld Z h0 x "java/lang/AbstractStringBuilder" "coder" "B" u_coder) (F_count : Fld Z h0 x "java/lang/AbstractStringBuilder" "count" "I" (.int 0)) (h16 : n ≤ 16) :
    Con l Z n0 ELs (⟨"java/lang/AbstractStringBuilder", "<init>", "(I)V"⟩ : MethodName) jdk_68_method_2_code 2 none [] ({ frames := 1, cells := 1, slots := 16, locals := 12 } : Room) #[(.ref x), (.int (Int32.ofNat n))] h0 [x] false (fun w h => ∃ t, h0.size ≤ t ∧ Sb Z h x t [] n) := by
  refine con_of (plainFor_of_name pn_6) (fun mt => ef_c_abi mt x ((Int32.ofNat n)) ) ?_
  intro K
  refine g_aloadN d41_0 rfl rfl (pc' := 1) rfl ?_
  refine g_initO (W := 0) d41_1 (w_182 hw) (w_26 hw) (w_27 hw) rfl (by decide) (Nat.le_of_eq rfl) (by decide) (pc' := 4) rfl ?_
  refine g_getS d41_4 (w_183 hw) Via.refl hC (pc' := 7) rfl ?_
  refine g_if_eq_f d41_7 hz (pc' := 10) rfl ?_
  refine g_aloadN d41_10 rfl rfl (pc' := 11) rfl ?_
  refine g_iloadN d41_11 rfl (pc' := 12) rfl ?_
  refine g_newA d41_12 (w_33 hw) rfl (ofNat_le (Nat.le_refl _) (by omega)).1 (cap := 16) (by rw [nat_i32 (by omega)]; omega) (by decide) (by decide) (by decide) (pc' := 14) rfl ?_
  intro t h1 g1 Kn1 A_t sz_t
  refine g_putF (ty := (.array .byte)) d41_14 (w_184 hw) Via.refl (F_value.keep Kn1 nin0) (E0.keep Kn1) (Or.inl (w_185 hw)) (w_171 hw) (by decide) rfl rfl (Or.inl (List.mem_of_getElem? (i := 0) rfl)) (List.mem_of_getElem? (i := 1) rfl) (pc' := 17) rfl ?_
  intro h2 W2
  have Kw2 := Keep.of_wr W2
  have G2_value := (F_value.keep Kn1 nin0).same W2
  have G2_coder := (F_coder.keep Kn1 nin0).other W2 (Or.inr (slot_ne (Or.inl (w_187 hw)) (Or.inl (w_185 hw)) (by decide) (t := .byte) (t' := (.array .byte)) (by decide) (by decide)))
  have G2_count := (F_count.keep Kn1 nin0).other W2 (Or.inr (slot_ne (Or.inl (w_199 hw)) (Or.inl (w_185 hw)) (by decide) (t := .int) (t' := (.array .byte)) (by decide) (by decide)))
  refine g_aloadN d41_17 rfl rfl (pc' := 18) rfl ?_
  refine g_iconst d41_18 (v := 0) rfl (pc' := 19) rfl ?_
  refine g_putF (ty := .byte) d41_19 (w_186 hw) Via.refl G2_coder ((E0.keep Kn1).keep Kw2) (Or.inl (w_187 hw)) (w_171 hw) (by decide) (v' := (.int (nar .byte 0))) rfl (fits_nar_byte _) (Or.inl (List.mem_of_getElem? (i := 0) rfl)) (List.mem_of_getElem? (i := 1) rfl) (pc' := 22) rfl ?_
  intro h3 W3
  have Kw3 := Keep.of_wr W3
  have G3_coder := G2_coder.same W3
  have G3_value := G2_value.other W3 (Or.inr (slot_ne (Or.inl (w_185 hw)) (Or.inl (w_187 hw)) (by decide) (t := (.array .byte)) (t' := .byte) (by decide) (by decide)))
  have G3_count := G2_count.other W3 (Or.inr (slot_ne (Or.inl (w_199 hw)) (Or.inl (w_187 hw)) (by decide) (t := .int) (t' := .byte) (by decide) (by decide)))
  refine g_goto d41_22 (pc' := 38) (by decide) rfl ?_
  exact g_return d41_38 rfl ⟨t, sz_t, (((E0.keep Kn1).keep Kw2).keep Kw3), G3_value, G3_coder, G3_count, by have q := ((A_t.keep Kw2 (ninS (Ne.symm (Nat.ne_of_lt (Nat.lt_of_lt_of_le (E0).lt (Nat.le_of_eq g1.symm)))) nin0)).keep Kw3 (ninS (Ne.symm (Nat.ne_of_lt (Nat.lt_of_lt_of_le (E0).lt (Nat.le_of_eq g1.symm)))) nin0)); rw [nat_i32 (by omega)] at q; exact q, by simp⟩ (by decide) (by decide)
theorem ef_c_sbi (m : MethodId) (x0 : Addr) (x1 : Int32)  : entryFrame m #[(.ref x0), (.int x1)] 2 = mkF m 0 #[.val (.ref x0), .val (.int x1)] [] := by first | (simp [entryFrame, mkF, argsToLocals, Value.category]; done) | rfl
set_option maxRecDepth 65536 in
set_option maxHeartbeats 40000000 in
theorem c_sbi {l : Launch} {Z : State} {n0 : Nat} {a0 : Array Value} (hw : Hw a0 Z) (x : Addr) (n : Nat) (z : Int32) (u_value u_coder : Value) (h0 : Heap) (hC : Sta Z Z.heap "java/lang/String" "COMPACT_STRINGS" "Z" (.int z)) (hz : ¬ z = 0) (E0 : Exa Z h0 x "java/lang/StringBuilder") (F_value : Fld Z h0 x "java/lang/AbstractStringBuilder" "value" "[B" u_value) (F_coder : Fld Z h0 x "java/lang/AbstractStringBuilder" "coder" "B" u_coder) (F_count : Fld Z h0 x "java/lang/AbstractStringBuilder" "count" "I" (.int 0)) (h16 : n ≤ 16) :
    Con l Z n0 ELs (⟨"java/lang/StringBuilder", "<init>", "(I)V"⟩ : MethodName) jdk_67_method_2_code 2 none [] ({ frames := 2, cells := 1, slots := 16, locals := 30 } : Room) #[(.ref x), (.int (Int32.ofNat n))] h0 [x] false (fun w h => ∃ t, h0.size ≤ t ∧ Sb Z h x t [] n) := by
  refine con_of (plainFor_of_name pn_7) (fun mt => ef_c_sbi mt x ((Int32.ofNat n)) ) ?_
  intro K
  refine g_aloadN d40_0 rfl rfl (pc' := 1) rfl ?_
  refine g_iloadN d40_1 rfl (pc' := 2) rfl ?_
  refine g_init (W := 0) (argsL := [(.int (Int32.ofNat n))]) (rest := []) d40_2 rfl (w_176 hw) (w_177 hw) (by decide) (lenOf pd_12 rfl) (c_abi hw x n z _ _ _ hC hz E0 F_value F_coder F_count h16) (w_181 hw) (w_180 hw) (by decide) (by decide) (allS ⟨(Or.inl (List.mem_of_getElem? (i := 0) rfl)), (List.mem_of_getElem? (i := 0) rfl)⟩ all0) rfl (Nat.le_of_eq rfl) rfl (by decide) (by decide) (pc' := 5) rfl ?_
  intro w1 h1 q1 Kc1
  exact g_return d40_5 rfl q1 (by decide) (by decide)
theorem ef_c_ablat (m : MethodId) (x0 : Addr)  : entryFrame m #[(.ref x0)] 1 = mkF m 0 #[.val (.ref x0)] [] := by first | (simp [entryFrame, mkF, argsToLocals, Value.category]; done) | rfl
set_option maxRecDepth 65536 in
set_option maxHeartbeats 40000000 in
theorem c_ablat {l : Launch} {Z : State} {n0 : Nat} {a0 : Array Value} (hw : Hw a0 Z) (x t : Addr) (cs : List Int32) (m : Nat) (z : Int32) (h0 : Heap) (hC : Sta Z Z.heap "java/lang/String" "COMPACT_STRINGS" "Z" (.int z)) (hz : ¬ z = 0) (S : Sb Z h0 x t cs m) :
    Con l Z n0 ELs (⟨"java/lang/AbstractStringBuilder", "isLatin1", "()Z"⟩ : MethodName) jdk_68_method_68_code 1 (some .boolean) [] ({ frames := 0, cells := 0, slots := 0, locals := 0 } : Room) #[(.ref x)] h0 [] false (fun w h => w = .int 1 ∧ h0 = h) := by
  refine con_of (plainFor_of_name pn_6) (fun mt => ef_c_ablat mt x ) ?_
  intro K
  refine g_getS d45_0 (w_183 hw) Via.refl hC (pc' := 3) rfl ?_
  refine g_if_eq_f d45_3 hz (pc' := 6) rfl ?_
  refine g_aloadN d45_6 rfl rfl (pc' := 7) rfl ?_
  refine g_getF d45_7 (w_186 hw) Via.refl S.2.2.1 (pc' := 10) rfl ?_
  refine g_if_ne_f d45_10 rfl (pc' := 13) rfl ?_
  refine g_iconst d45_13 (v := 1) rfl (pc' := 14) rfl ?_
  refine g_goto d45_14 (pc' := 18) (by decide) rfl ?_
  exact g_ireturnN d45_18 rfl (by simp) (z := 1) rfl ⟨rfl, rfl⟩ (by decide) (by decide)
theorem ef_c_abval (m : MethodId) (x0 : Addr)  : entryFrame m #[(.ref x0)] 1 = mkF m 0 #[.val (.ref x0)] [] := by first | (simp [entryFrame, mkF, argsToLocals, Value.category]; done) | rfl
set_option maxRecDepth 65536 in
set_option maxHeartbeats 40000000 in
theorem c_abval {l : Launch} {Z : State} {n0 : Nat} {a0 : Array Value} (hw : Hw a0 Z) (x t : Addr) (cs : List Int32) (m : Nat) (h0 : Heap) (S : Sb Z h0 x t cs m) :
    Con l Z n0 ELs (⟨"java/lang/AbstractStringBuilder", "getValue", "()[B"⟩ : MethodName) jdk_68_method_64_code 1 (some (.array .byte)) [] ({ frames := 0, cells := 0, slots := 0, locals := 0 } : Room) #[(.ref x)] h0 [] false (fun w h => w = .ref t ∧ h0 = h) := by
  refine con_of (plainFor_of_name pn_6) (fun mt => ef_c_abval mt x ) ?_
  intro K
  refine g_aloadN d50_0 rfl rfl (pc' := 1) rfl ?_
  refine g_getF d50_1 (w_184 hw) Via.refl S.2.1 (pc' := 4) rfl ?_
  exact g_areturn d50_4 rfl rfl rfl ⟨rfl, rfl⟩ (by decide) (by decide)
theorem ef_c_ablen (m : MethodId) (x0 : Addr)  : entryFrame m #[(.ref x0)] 1 = mkF m 0 #[.val (.ref x0)] [] := by first | (simp [entryFrame, mkF, argsToLocals, Value.category]; done) | rfl
set_option maxRecDepth 65536 in
set_option maxHeartbeats 40000000 in
theorem c_ablen {l : Launch} {Z : State} {n0 : Nat} {a0 : Array Value} (hw : Hw a0 Z) (x t : Addr) (cs : List Int32) (m : Nat) (h0 : Heap) (S : Sb Z h0 x t cs m) :
    Con l Z n0 ELs (⟨"java/lang/AbstractStringBuilder", "length", "()I"⟩ : MethodName) jdk_68_method_6_code 1 (some .int) [] ({ frames := 0, cells := 0, slots := 0, locals := 0 } : Room) #[(.ref x)] h0 [] false (fun w h => w = .int (Int32.ofNat cs.length) ∧ h0 = h) := by
  refine con_of (plainFor_of_name pn_6) (fun mt => ef_c_ablen mt x ) ?_
  intro K
  refine g_aloadN d52_0 rfl rfl (pc' := 1) rfl ?_
  refine g_getF d52_1 (w_198 hw) Via.refl S.2.2.2.1 (pc' := 4) rfl ?_
  exact g_ireturn d52_4 rfl ⟨rfl, rfl⟩ (by decide) (by decide)
theorem ef_c_sblen (m : MethodId) (x0 : Addr)  : entryFrame m #[(.ref x0)] 1 = mkF m 0 #[.val (.ref x0)] [] := by first | (simp [entryFrame, mkF, argsToLocals, Value.category]; done) | rfl
set_option maxRecDepth 65536 in
set_option maxHeartbeats 40000000 in
theorem c_sblen {l : Launch} {Z : State} {n0 : Nat} {a0 : Array Value} (hw : Hw a0 Z) (x t : Addr) (cs : List Int32) (m : Nat) (h0 : Heap) (S : Sb Z h0 x t cs m) :
    Con l Z n0 ELs (⟨"java/lang/StringBuilder", "length", "()I"⟩ : MethodName) jdk_67_method_93_code 1 (some .int) [] ({ frames := 1, cells := 0, slots := 0, locals := 14 } : Room) #[(.ref x)] h0 [] false (fun w h => w = .int (Int32.ofNat cs.length) ∧ h0 = h) := by
  refine con_of (plainFor_of_name pn_7) (fun mt => ef_c_sblen mt x ) ?_
  intro K
  refine g_aloadN d51_0 rfl rfl (pc' := 1) rfl ?_
  refine g_super (W := 0) (argsL := []) (rest := []) d51_1 (by decide) (w_236 hw) (same_of (y' := (⟨"java/lang/AbstractStringBuilder", "ensureCapacityInternal", "(I)V"⟩ : MethodName)) rfl (by decide) (w_203 hw) (w_232 hw)) (w_232 hw) (w_195 hw) (by decide) (lenOf pd_9 rfl) S.1 (c_ablen hw x t cs m _ S) (w_237 hw) (w_180 hw) (by decide) (by decide) (fun _ q => nomatch q) rfl (Nat.le_of_eq rfl) rfl (by decide) (by decide) (pc' := 4) rfl ?_
  intro w1 h1 q1 Kc1
  obtain ⟨rfl, rfl⟩ := q1
  exact g_ireturn d51_4 rfl ⟨rfl, rfl⟩ (by decide) (by decide)
theorem ef_c_ens (m : MethodId) (x0 : Addr) (x1 : Int32)  : entryFrame m #[(.ref x0), (.int x1)] 3 = mkF m 0 #[.val (.ref x0), .val (.int x1), .unset] [] := by first | (simp [entryFrame, mkF, argsToLocals, Value.category]; done) | rfl
set_option maxRecDepth 65536 in
set_option maxHeartbeats 40000000 in
theorem c_ens {l : Launch} {Z : State} {n0 : Nat} {a0 : Array Value} (hw : Hw a0 Z) (x t : Addr) (cs : List Int32) (m : Nat) (n : Nat) (h0 : Heap) (S : Sb Z h0 x t cs m) (hn : n ≤ cs.length + m) :
    Con l Z n0 ELs (⟨"java/lang/AbstractStringBuilder", "ensureCapacityInternal", "(I)V"⟩ : MethodName) jdk_68_method_9_code 3 none [] ({ frames := 0, cells := 0, slots := 0, locals := 0 } : Room) #[(.ref x), (.int (Int32.ofNat n))] h0 [] false (fun w h => h0 = h) := by
  refine con_of (plainFor_of_name pn_6) (fun mt => ef_c_ens mt x ((Int32.ofNat n)) ) ?_
  intro K
  have hsh := S.2.2.2.2.1.short
  simp only [List.length_append, List.length_map, List.length_replicate] at hsh
  let L := cs.length + m
  refine g_aloadN d44_0 rfl rfl (pc' := 1) rfl ?_
  refine g_getF d44_1 (w_184 hw) Via.refl S.2.1 (pc' := 4) rfl ?_
  refine g_alen d44_4 S.2.2.2.2.1 (x := (Int32.ofNat L)) (by simp [L]) (pc' := 5) rfl ?_
  refine g_aloadN d44_5 rfl rfl (pc' := 6) rfl ?_
  refine g_getF d44_6 (w_186 hw) Via.refl S.2.2.1 (pc' := 9) rfl ?_
  refine g_ishr d44_9 (v := (Int32.ofNat L)) (shr0 _) (pc' := 10) rfl ?_
  refine g_istoreN d44_10 (L' := #[.val (.ref x), .val (.int (Int32.ofNat n)), .val (.int (Int32.ofNat L))]) rfl (pc' := 11) rfl ?_
  refine g_iloadN d44_11 rfl (pc' := 12) rfl ?_
  refine g_iloadN d44_12 rfl (pc' := 13) rfl ?_
  refine g_isub d44_13 rfl (pc' := 14) rfl ?_
  refine g_if_le_t d44_14 (sub_le hn hsh) (pc' := 38) (by decide) rfl ?_
  exact g_return d44_38 rfl rfl (by decide) (by decide)
theorem ef_c_abapp (m : MethodId) (x0 : Addr) (x1 : Int32)  : entryFrame m #[(.ref x0), (.int x1)] 2 = mkF m 0 #[.val (.ref x0), .val (.int x1)] [] := by first | (simp [entryFrame, mkF, argsToLocals, Value.category]; done) | rfl
set_option maxRecDepth 65536 in
set_option maxHeartbeats 40000000 in
theorem c_abapp {l : Launch} {Z : State} {n0 : Nat} {a0 : Array Value} (hw : Hw a0 Z) (x t : Addr) (cs : List Int32) (m : Nat) (ch z : Int32) (h0 : Heap) (hC : Sta Z Z.heap "java/lang/String" "COMPACT_STRINGS" "Z" (.int z)) (hz : ¬ z = 0) (S : Sb Z h0 x t cs (m + 1)) (hxt : x ≠ t) (hc : ¬ ch < 0 ∧ ¬ (255 : Int32) < ch) :
    Con l Z n0 ELs (⟨"java/lang/AbstractStringBuilder", "append", "(C)Ljava/lang/AbstractStringBuilder;"⟩ : MethodName) jdk_68_method_31_code 2 (some (.object "java/lang/AbstractStringBuilder")) [] ({ frames := 1, cells := 0, slots := 0, locals := 16 } : Room) #[(.ref x), (.int ch)] h0 [x, t] false (fun w h => w = .ref x ∧ Sb Z h x t (cs ++ [ch]) m) := by
  refine con_of (plainFor_of_name pn_6) (fun mt => ef_c_abapp mt x ch ) ?_
  intro K
  have S0 := S
  have hsh := S.2.2.2.2.1.short
  simp only [List.length_append, List.length_map, List.length_replicate] at hsh
  obtain ⟨E0, F_value, F_coder, F_count, A, hall⟩ := S
  refine g_aloadN d43_0 rfl rfl (pc' := 1) rfl ?_
  refine g_aloadN d43_1 rfl rfl (pc' := 2) rfl ?_
  refine g_getF d43_2 (w_198 hw) Via.refl F_count (pc' := 5) rfl ?_
  refine g_iconst d43_5 (v := 1) rfl (pc' := 6) rfl ?_
  refine g_iadd d43_6 (v := (Int32.ofNat (cs.length + 1))) (ofNat_succ (by omega)) (pc' := 7) rfl ?_
  refine g_virtN (W := 0) (argsL := [(.int (Int32.ofNat (cs.length + 1)))]) (rest := []) d43_7 (w_200 hw) (decl_of (w_201 hw) (w_204 hw)) (nf_self (w_203 hw)) (w_203 hw) (w_201 hw) (by decide) (lenOf pd_12 rfl) E0 (c_ens hw x t cs (m + 1) (cs.length + 1) _ S0 (by omega)) (w_204 hw) (w_180 hw) (by decide) (by decide) (fun _ q => nomatch q) rfl (Nat.le_of_eq rfl) rfl (by decide) (by decide) (pc' := 10) rfl ?_
  intro w1 h1 q1 Kc1
  obtain rfl := q1
  refine g_aloadN d43_10 rfl rfl (pc' := 11) rfl ?_
  refine g_virt (W := 0) (argsL := []) (rest := []) d43_11 (w_205 hw) (w_206 hw) (nf_self (w_208 hw)) (w_208 hw) (w_207 hw) (by decide) (lenOf pd_3 rfl) E0 (c_ablat hw x t cs (m + 1) z _ hC hz S0) (w_209 hw) (w_180 hw) (by decide) (by decide) (fun _ q => nomatch q) rfl (Nat.le_of_eq rfl) rfl (by decide) (by decide) (pc' := 14) rfl ?_
  intro w2 h2 q2 Kc2
  obtain ⟨rfl, rfl⟩ := q2
  refine g_if_eq_f d43_14 (by decide) (pc' := 17) rfl ?_
  refine g_iloadN d43_17 rfl (pc' := 18) rfl ?_
  refine g_static (W := 0) (argsL := [(.int ch)]) (rest := []) d43_18 (w_210 hw) (w_211 hw) (by decide) (lenOf pd_13 rfl) (c_canenc hw ch _ hc.2) (w_212 hw) (w_80 hw) (by decide) (by decide) (fun _ q => nomatch q) rfl (Nat.le_of_eq rfl) rfl (by decide) (by decide) (pc' := 21) rfl ?_
  intro w3 h3 q3 Kc3
  obtain ⟨rfl, rfl⟩ := q3
  refine g_if_eq_f d43_21 (by decide) (pc' := 24) rfl ?_
  refine g_aloadN d43_24 rfl rfl (pc' := 25) rfl ?_
  refine g_getF d43_25 (w_184 hw) Via.refl F_value (pc' := 28) rfl ?_
  refine g_aloadN d43_28 rfl rfl (pc' := 29) rfl ?_
  refine g_dup d43_29 rfl (pc' := 30) rfl ?_
  refine g_getF d43_30 (w_198 hw) Via.refl F_count (pc' := 33) rfl ?_
  refine g_dupx1 d43_33 rfl rfl (pc' := 34) rfl ?_
  refine g_iconst d43_34 (v := 1) rfl (pc' := 35) rfl ?_
  refine g_iadd d43_35 (v := (Int32.ofNat (cs.length + 1))) (ofNat_succ (by omega)) (pc' := 36) rfl ?_
  refine g_putF (ty := .int) d43_36 (w_198 hw) Via.refl F_count E0 (Or.inl (w_199 hw)) (w_171 hw) (by decide) rfl rfl (Or.inl (List.mem_of_getElem? (i := 0) rfl)) (List.mem_of_getElem? (i := 0) rfl) (pc' := 39) rfl ?_
  intro h4 W4
  have Kw4 := Keep.of_wr W4
  have G4_count := F_count.same W4
  have G4_value := F_value.other W4 (Or.inr (slot_ne (Or.inl (w_185 hw)) (Or.inl (w_199 hw)) (by decide) (t := (.array .byte)) (t' := .int) (by decide) (by decide)))
  have G4_coder := F_coder.other W4 (Or.inr (slot_ne (Or.inl (w_187 hw)) (Or.inl (w_199 hw)) (by decide) (t := .byte) (t' := .int) (by decide) (by decide)))
  refine g_iloadN d43_39 rfl (pc' := 40) rfl ?_
  refine g_i2b d43_40 rfl (pc' := 41) rfl ?_
  refine g_bastore d43_41 (A.keep Kw4 (ninS hxt.symm nin0)) (ofNat_lt (n := cs.length + 1) (by omega) (by omega)).1 (nat_i32 (by omega)) (by simp) (Or.inl (List.mem_of_getElem? (i := 1) rfl)) (List.mem_of_getElem? (i := 1) rfl) (pc' := 42) rfl ?_
  intro h5 Kw5 A_t_5
  refine g_goto d43_42 (pc' := 75) (by decide) rfl ?_
  refine g_aloadN d43_75 rfl rfl (pc' := 76) rfl ?_
  have A1 := A_t_5
  rw [nar_b, set_rep _ m _ _ (by simp)] at A1
  exact g_areturn d43_76 rfl rfl rfl ⟨rfl, ((E0.keep Kw4).keep Kw5), (G4_value.keep Kw5 (ninS hxt nin0)), (G4_coder.keep Kw5 (ninS hxt nin0)), by rw [show (cs ++ [ch]).length = cs.length + 1 by simp]; exact (G4_count.keep Kw5 (ninS hxt nin0)), by simpa using A1, fun c hc' => (List.mem_append.mp hc').elim (hall c) fun q => by cases List.mem_singleton.mp q; exact hc⟩ (by decide) (by decide)
theorem ef_c_sbapp (m : MethodId) (x0 : Addr) (x1 : Int32)  : entryFrame m #[(.ref x0), (.int x1)] 2 = mkF m 0 #[.val (.ref x0), .val (.int x1)] [] := by first | (simp [entryFrame, mkF, argsToLocals, Value.category]; done) | rfl
set_option maxRecDepth 65536 in
set_option maxHeartbeats 40000000 in
theorem c_sbapp {l : Launch} {Z : State} {n0 : Nat} {a0 : Array Value} (hw : Hw a0 Z) (x t : Addr) (cs : List Int32) (m : Nat) (ch z : Int32) (h0 : Heap) (hC : Sta Z Z.heap "java/lang/String" "COMPACT_STRINGS" "Z" (.int z)) (hz : ¬ z = 0) (S : Sb Z h0 x t cs (m + 1)) (hxt : x ≠ t) (hc : ¬ ch < 0 ∧ ¬ (255 : Int32) < ch) :
    Con l Z n0 ELs (⟨"java/lang/StringBuilder", "append", "(C)Ljava/lang/StringBuilder;"⟩ : MethodName) jdk_67_method_14_code 2 (some (.object "java/lang/StringBuilder")) [] ({ frames := 2, cells := 0, slots := 0, locals := 32 } : Room) #[(.ref x), (.int ch)] h0 [x, t] false (fun w h => w = .ref x ∧ Sb Z h x t (cs ++ [ch]) m) := by
  refine con_of (plainFor_of_name pn_7) (fun mt => ef_c_sbapp mt x ch ) ?_
  intro K
  refine g_aloadN d42_0 rfl rfl (pc' := 1) rfl ?_
  refine g_iloadN d42_1 rfl (pc' := 2) rfl ?_
  refine g_super (W := 0) (argsL := [(.int ch)]) (rest := []) d42_2 (by decide) (w_193 hw) (same_of (y' := (⟨"java/lang/AbstractStringBuilder", "ensureCapacityInternal", "(I)V"⟩ : MethodName)) rfl (by decide) (w_203 hw) (w_194 hw)) (w_194 hw) (w_195 hw) (by decide) (lenOf pd_14 rfl) S.1 (c_abapp hw x t cs m ch z _ hC hz S hxt hc) (w_197 hw) (w_180 hw) (by decide) (by decide) (allS ⟨(Or.inl (List.mem_of_getElem? (i := 0) rfl)), (List.mem_of_getElem? (i := 0) rfl)⟩ (allS ⟨(Or.inl (List.mem_of_getElem? (i := 1) rfl)), (List.mem_of_getElem? (i := 1) rfl)⟩ all0)) rfl (Nat.le_of_eq rfl) rfl (by decide) (by decide) (pc' := 5) rfl ?_
  intro w1 h1 q1 Kc1
  obtain ⟨rfl, S1⟩ := q1
  refine g_pop d42_5 rfl (pc' := 6) rfl ?_
  refine g_aloadN d42_6 rfl rfl (pc' := 7) rfl ?_
  exact g_areturn d42_7 rfl rfl rfl ⟨rfl, S1⟩ (by decide) (by decide)
theorem ef_c_strab (m : MethodId) (x0 : Addr) (x1 : Addr)  : entryFrame m #[(.ref x0), (.ref x1), .null] 5 = mkF m 0 #[.val (.ref x0), .val (.ref x1), .val .null, .unset, .unset] [] := by first | (simp [entryFrame, mkF, argsToLocals, Value.category]; done) | rfl
set_option maxRecDepth 65536 in
set_option maxHeartbeats 40000000 in
theorem c_strab {l : Launch} {Z : State} {n0 : Nat} {a0 : Array Value} (hw : Hw a0 Z) (s x t : Addr) (cs : List Int32) (m : Nat) (z : Int32) (u_value u_coder : Value) (h0 : Heap) (hC : Sta Z Z.heap "java/lang/String" "COMPACT_STRINGS" "Z" (.int z)) (hz : ¬ z = 0) (Es : Exa Z h0 s "java/lang/String") (F_value : Fld Z h0 s "java/lang/String" "value" "[B" u_value) (F_coder : Fld Z h0 s "java/lang/String" "coder" "B" u_coder) (S : Sb Z h0 x t cs m) (hst : s ≠ t) (hm : 0 < m) (h16 : cs.length ≤ 16) :
    Con l Z n0 ELs (⟨"java/lang/String", "<init>", "(Ljava/lang/AbstractStringBuilder;Ljava/lang/Void;)V"⟩ : MethodName) jdk_42_method_150_code 5 none [] ({ frames := 3, cells := 1, slots := 16, locals := 80 } : Room) #[(.ref s), (.ref x), .null] h0 [s] false (fun w h => ∃ t', St Z h s t' cs) := by
  refine con_of (plainFor_of_name pn_0) (fun mt => ef_c_strab mt s x ) ?_
  intro K
  have A := S.2.2.2.2.1
  refine g_aloadN d49_0 rfl rfl (pc' := 1) rfl ?_
  refine g_initO (W := 0) d49_1 (w_25 hw) (w_26 hw) (w_27 hw) rfl (by decide) (Nat.le_of_eq rfl) (by decide) (pc' := 4) rfl ?_
  refine g_aloadN d49_4 rfl rfl (pc' := 5) rfl ?_
  refine g_virt (W := 0) (argsL := []) (rest := []) d49_5 (w_225 hw) (w_226 hw) (nf_self (w_228 hw)) (w_228 hw) (w_227 hw) (by decide) (lenOf pd_15 rfl) S.1 (c_abval hw x t cs m _ S) (w_229 hw) (w_180 hw) (by decide) (by decide) (fun _ q => nomatch q) rfl (Nat.le_of_eq rfl) rfl (by decide) (by decide) (pc' := 8) rfl ?_
  intro w1 h1 q1 Kc1
  obtain ⟨rfl, rfl⟩ := q1
  refine g_astoreN d49_8 rfl (L' := #[.val (.ref s), .val (.ref x), .val .null, .val (.ref t), .unset]) rfl (pc' := 9) rfl ?_
  refine g_aloadN d49_9 rfl rfl (pc' := 10) rfl ?_
  refine g_virt (W := 0) (argsL := []) (rest := []) d49_10 (w_230 hw) (w_231 hw) (nf_sib (y' := (⟨"java/lang/AbstractStringBuilder", "getValue", "()[B"⟩ : MethodName)) rfl (w_228 hw)) (w_233 hw) (w_234 hw) (by decide) (lenOf pd_9 rfl) S.1 (c_sblen hw x t cs m _ S) (w_235 hw) (w_172 hw) (by decide) (by decide) (fun _ q => nomatch q) rfl (Nat.le_of_eq rfl) rfl (by decide) (by decide) (pc' := 13) rfl ?_
  intro w2 h2 q2 Kc2
  obtain ⟨rfl, rfl⟩ := q2
  refine g_istore d49_13 (L' := #[.val (.ref s), .val (.ref x), .val .null, .val (.ref t), .val (.int (Int32.ofNat cs.length))]) rfl (pc' := 15) rfl ?_
  refine g_aloadN d49_15 rfl rfl (pc' := 16) rfl ?_
  refine g_virt (W := 0) (argsL := []) (rest := []) d49_16 (w_238 hw) (w_206 hw) (nf_self (w_208 hw)) (w_208 hw) (w_207 hw) (by decide) (lenOf pd_3 rfl) S.1 (c_ablat hw x t cs m z _ hC hz S) (w_209 hw) (w_180 hw) (by decide) (by decide) (fun _ q => nomatch q) rfl (Nat.le_of_eq rfl) rfl (by decide) (by decide) (pc' := 19) rfl ?_
  intro w3 h3 q3 Kc3
  obtain ⟨rfl, rfl⟩ := q3
  refine g_if_eq_f d49_19 (by decide) (pc' := 22) rfl ?_
  refine g_aloadN d49_22 rfl rfl (pc' := 23) rfl ?_
  refine g_iconst d49_23 (v := 0) rfl (pc' := 24) rfl ?_
  refine g_putF (ty := .byte) d49_24 (w_40 hw) Via.refl F_coder Es (Or.inr ⟨(w_41 hw), rfl, rfl⟩) (w_16 hw) (by decide) (v' := (.int (nar .byte 0))) rfl (fits_nar_byte _) (Or.inl (List.mem_of_getElem? (i := 0) rfl)) (List.mem_of_getElem? (i := 0) rfl) (pc' := 27) rfl ?_
  intro h4 W4
  have Kw4 := Keep.of_wr W4
  have G4_coder := F_coder.same W4
  have G4_value := F_value.other W4 (Or.inr (slot_ne (Or.inr (w_43 hw)) (Or.inr (w_41 hw)) (by decide) (t := (.array .byte)) (t' := .byte) (by decide) (by decide)))
  refine g_aloadN d49_27 rfl rfl (pc' := 28) rfl ?_
  refine g_aloadN d49_28 rfl rfl (pc' := 29) rfl ?_
  refine g_iconst d49_29 (v := 0) rfl (pc' := 30) rfl ?_
  refine g_iload d49_30 rfl (pc' := 32) rfl ?_
  refine g_static (W := 1) (argsL := [(.ref t), (.int 0), (.int (Int32.ofNat cs.length))]) (rest := [(.ref s)]) d49_32 (w_239 hw) (w_110 hw) (by decide) (lenOf pd_7 rfl) (c_cor hw t _ 0 cs.length _ (A.keep Kw4 (ninS hst.symm nin0)) (Nat.zero_le _) (by simp) (by omega) (by simp; omega)) (w_112 hw) (w_111 hw) (by decide) (by decide) (fun _ q => nomatch q) rfl (Nat.le_of_eq rfl) rfl (by decide) (by decide) (pc' := 35) rfl ?_
  intro w5 h5 q5 Kc5
  obtain ⟨d, rfl, hd, Ad⟩ := q5
  refine g_putF (ty := (.array .byte)) d49_35 (w_42 hw) Via.refl (G4_value.keep Kc5 nin0) ((Es.keep Kw4).keep Kc5) (Or.inr ⟨(w_43 hw), rfl, rfl⟩) (w_16 hw) (by decide) rfl rfl (Or.inl (List.mem_of_getElem? (i := 0) rfl)) (List.mem_of_getElem? (i := 1) rfl) (pc' := 38) rfl ?_
  intro h6 W6
  have Kw6 := Keep.of_wr W6
  have G6_value := (G4_value.keep Kc5 nin0).same W6
  have G6_coder := (G4_coder.keep Kc5 nin0).other W6 (Or.inr (slot_ne (Or.inr (w_41 hw)) (Or.inr (w_43 hw)) (by decide) (t := .byte) (t' := (.array .byte)) (by decide) (by decide)))
  refine g_goto d49_38 (pc' := 97) (by decide) rfl ?_
  have A1 := (Ad.keep Kw6 (ninS (Ne.symm (Nat.ne_of_lt (Nat.lt_of_lt_of_le ((Es.keep Kw4)).lt hd))) nin0))
  simp only [List.drop_zero, Nat.sub_zero] at A1
  rw [List.take_left' (by simp)] at A1
  exact g_return d49_97 rfl ⟨d, (((Es.keep Kw4).keep Kc5).keep Kw6), G6_coder, G6_value, A1, S.2.2.2.2.2⟩ (by decide) (by decide)
theorem ef_c_strsb (m : MethodId) (x0 : Addr) (x1 : Addr)  : entryFrame m #[(.ref x0), (.ref x1)] 2 = mkF m 0 #[.val (.ref x0), .val (.ref x1)] [] := by first | (simp [entryFrame, mkF, argsToLocals, Value.category]; done) | rfl
set_option maxRecDepth 65536 in
set_option maxHeartbeats 40000000 in
theorem c_strsb {l : Launch} {Z : State} {n0 : Nat} {a0 : Array Value} (hw : Hw a0 Z) (s x t : Addr) (cs : List Int32) (m : Nat) (z : Int32) (u_value u_coder : Value) (h0 : Heap) (hC : Sta Z Z.heap "java/lang/String" "COMPACT_STRINGS" "Z" (.int z)) (hz : ¬ z = 0) (Es : Exa Z h0 s "java/lang/String") (F_value : Fld Z h0 s "java/lang/String" "value" "[B" u_value) (F_coder : Fld Z h0 s "java/lang/String" "coder" "B" u_coder) (S : Sb Z h0 x t cs m) (hst : s ≠ t) (hm : 0 < m) (h16 : cs.length ≤ 16) :
    Con l Z n0 ELs (⟨"java/lang/String", "<init>", "(Ljava/lang/StringBuilder;)V"⟩ : MethodName) jdk_42_method_53_code 2 none [] ({ frames := 4, cells := 1, slots := 16, locals := 100 } : Room) #[(.ref s), (.ref x)] h0 [s] false (fun w h => ∃ t', St Z h s t' cs) := by
  refine con_of (plainFor_of_name pn_0) (fun mt => ef_c_strsb mt s x ) ?_
  intro K
  refine g_aloadN d48_0 rfl rfl (pc' := 1) rfl ?_
  refine g_aloadN d48_1 rfl rfl (pc' := 2) rfl ?_
  refine g_null d48_2 (pc' := 3) rfl ?_
  refine g_init (W := 0) (argsL := [(.ref x), .null]) (rest := []) d48_3 rfl (w_222 hw) (w_223 hw) (by decide) (lenOf pd_16 rfl) (c_strab hw s x t cs m z _ _ _ hC hz Es F_value F_coder S hst hm h16) (w_224 hw) (w_17 hw) (by decide) (by decide) (allS ⟨(Or.inl (List.mem_of_getElem? (i := 0) rfl)), (List.mem_of_getElem? (i := 0) rfl)⟩ all0) rfl (Nat.le_of_eq rfl) rfl (by decide) (by decide) (pc' := 6) rfl ?_
  intro w1 h1 q1 Kc1
  exact g_return d48_6 rfl q1 (by decide) (by decide)
theorem ef_c_tostr (m : MethodId) (x0 : Addr)  : entryFrame m #[(.ref x0)] 1 = mkF m 0 #[.val (.ref x0)] [] := by first | (simp [entryFrame, mkF, argsToLocals, Value.category]; done) | rfl
set_option maxRecDepth 65536 in
set_option maxHeartbeats 40000000 in
theorem c_tostr {l : Launch} {Z : State} {n0 : Nat} {a0 : Array Value} (hw : Hw a0 Z) (x t : Addr) (cs : List Int32) (m : Nat) (z : Int32) (h0 : Heap) (hC : Sta Z Z.heap "java/lang/String" "COMPACT_STRINGS" "Z" (.int z)) (hz : ¬ z = 0) (S : Sb Z h0 x t cs m) (hm : 0 < m) (h16 : cs.length ≤ 16) :
    Con l Z n0 ELs (⟨"java/lang/StringBuilder", "toString", "()Ljava/lang/String;"⟩ : MethodName) jdk_67_method_42_code 1 (some (.object "java/lang/String")) [] ({ frames := 5, cells := 2, slots := 20, locals := 120 } : Room) #[(.ref x)] h0 [] false (fun w h => ∃ s t', w = .ref s ∧ St Z h s t' cs) := by
  refine con_of (plainFor_of_name pn_7) (fun mt => ef_c_tostr mt x ) ?_
  intro K
  have A := S.2.2.2.2.1
  refine g_new d47_0 (w_218 hw) (w_16 hw) (w_17 hw) (by decide) (by decide) (pc' := 3) rfl ?_
  intro s h1 g1 Kn1 E_s D1 sz_s
  have F_coder_s : Fld Z h1 s "java/lang/String" "coder" "B" (.int 0) := D1 (Or.inr (w_41 hw)) (ty := .byte) (by decide)
  have F_value_s : Fld Z h1 s "java/lang/String" "value" "[B" .null := D1 (Or.inr (w_43 hw)) (ty := (.array .byte)) (by decide)
  refine g_dup d47_3 rfl (pc' := 4) rfl ?_
  refine g_aloadN d47_4 rfl rfl (pc' := 5) rfl ?_
  refine g_init (W := 1) (argsL := [(.ref x)]) (rest := [(.ref s)]) d47_5 rfl (w_219 hw) (w_220 hw) (by decide) (lenOf pd_17 rfl) (c_strsb hw s x t cs m z _ _ _ hC hz E_s F_value_s F_coder_s (S.keep0 Kn1) (Ne.symm (Nat.ne_of_lt (Nat.lt_of_lt_of_le (A).lt (Nat.le_of_eq g1.symm)))) hm h16) (w_221 hw) (w_17 hw) (by decide) (by decide) (allS ⟨(Or.inr sz_s), (List.mem_of_getElem? (i := 0) rfl)⟩ all0) rfl (Nat.le_of_eq rfl) rfl (by decide) (by decide) (pc' := 8) rfl ?_
  intro w2 h2 q2 Kc2
  obtain ⟨t', S'⟩ := q2
  exact g_areturn d47_8 rfl rfl rfl ⟨s, t', rfl, S'⟩ (by decide) (by decide)
theorem ef_c_xs (m : MethodId) (x0 : Int32)  : entryFrame m #[(.int x0)] 1 = mkF m 0 #[.val (.int x0)] [] := by first | (simp [entryFrame, mkF, argsToLocals, Value.category]; done) | rfl
set_option maxRecDepth 65536 in
set_option maxHeartbeats 40000000 in
theorem c_xs {l : Launch} {Z : State} {n0 : Nat} {a0 : Array Value} (hw : Hw a0 Z) (ch : Int32) (h0 : Heap)  :
    Con l Z n0 ELs (⟨"com/example/anemone/anemone/IdempotencyKey", "isSpaceOrTab", "(C)Z"⟩ : MethodName) prog_8_method_6_code 1 (some .boolean) [] ({ frames := 0, cells := 0, slots := 0, locals := 0 } : Room) #[(.int ch)] h0 [] false (fun w h => w = .int (if isW ch = true then 1 else 0) ∧ h0 = h) := by
  refine con_of (plainFor_of_name pn_8) (fun mt => ef_c_xs mt ch ) ?_
  intro K
  by_cases a : ch = 32
  ·
    refine g_iloadN d21_0 rfl (pc' := 1) rfl ?_
    refine g_bipush d21_1 (v := 32) rfl (pc' := 3) rfl ?_
    refine g_icmp_eq_t d21_3 a (pc' := 12) (by decide) rfl ?_
    refine g_iconst d21_12 (v := 1) rfl (pc' := 13) rfl ?_
    refine g_goto d21_13 (pc' := 17) (by decide) rfl ?_
    exact g_ireturnN d21_17 rfl (by simp) (z := 1) rfl ⟨by simp [isW, a], rfl⟩ (by decide) (by decide)
  · by_cases b : ch = 9
    ·
      refine g_iloadN d21_0 rfl (pc' := 1) rfl ?_
      refine g_bipush d21_1 (v := 32) rfl (pc' := 3) rfl ?_
      refine g_icmp_eq_f d21_3 a (pc' := 6) rfl ?_
      refine g_iloadN d21_6 rfl (pc' := 7) rfl ?_
      refine g_bipush d21_7 (v := 9) rfl (pc' := 9) rfl ?_
      refine g_icmp_ne_f d21_9 b (pc' := 12) rfl ?_
      refine g_iconst d21_12 (v := 1) rfl (pc' := 13) rfl ?_
      refine g_goto d21_13 (pc' := 17) (by decide) rfl ?_
      exact g_ireturnN d21_17 rfl (by simp) (z := 1) rfl ⟨by simp [isW, a, b], rfl⟩ (by decide) (by decide)
    ·
      refine g_iloadN d21_0 rfl (pc' := 1) rfl ?_
      refine g_bipush d21_1 (v := 32) rfl (pc' := 3) rfl ?_
      refine g_icmp_eq_f d21_3 a (pc' := 6) rfl ?_
      refine g_iloadN d21_6 rfl (pc' := 7) rfl ?_
      refine g_bipush d21_7 (v := 9) rfl (pc' := 9) rfl ?_
      refine g_icmp_ne_t d21_9 b (pc' := 16) (by decide) rfl ?_
      refine g_iconst d21_16 (v := 0) rfl (pc' := 17) rfl ?_
      exact g_ireturnN d21_17 rfl (by simp) (z := 0) rfl ⟨by simp [isW, a, b], rfl⟩ (by decide) (by decide)
theorem ef_c_prt (m : MethodId) (x0 : Int32)  : entryFrame m #[(.int x0)] 1 = mkF m 0 #[.val (.int x0)] [] := by first | (simp [entryFrame, mkF, argsToLocals, Value.category]; done) | rfl
set_option maxRecDepth 65536 in
set_option maxHeartbeats 40000000 in
theorem c_prt {l : Launch} {Z : State} {n0 : Nat} {a0 : Array Value} (hw : Hw a0 Z) (ch : Int32) (h0 : Heap) (hc : gA ch) :
    Con l Z n0 ELs (⟨"com/example/anemone/anemone/IdempotencyKey", "isPrintable", "(C)Z"⟩ : MethodName) prog_8_method_7_code 1 (some .boolean) [] ({ frames := 0, cells := 0, slots := 0, locals := 0 } : Room) #[(.int ch)] h0 [] false (fun w h => w = .int 1 ∧ h0 = h) := by
  refine con_of (plainFor_of_name pn_8) (fun mt => ef_c_prt mt ch ) ?_
  intro K
  refine g_iloadN d33_0 rfl (pc' := 1) rfl ?_
  refine g_bipush d33_1 (v := 32) rfl (pc' := 3) rfl ?_
  refine g_icmp_lt_f d33_3 (gA_p hc).1 (pc' := 6) rfl ?_
  refine g_iloadN d33_6 rfl (pc' := 7) rfl ?_
  refine g_bipush d33_7 (v := 126) rfl (pc' := 9) rfl ?_
  refine g_icmp_gt_f d33_9 (gA_p hc).2 (pc' := 12) rfl ?_
  refine g_iconst d33_12 (v := 1) rfl (pc' := 13) rfl ?_
  refine g_goto d33_13 (pc' := 17) (by decide) rfl ?_
  exact g_ireturnN d33_17 rfl (by simp) (z := 1) rfl ⟨rfl, rfl⟩ (by decide) (by decide)
theorem ef_c_empty (m : MethodId) (x0 : Addr)  : entryFrame m #[(.ref x0)] 1 = mkF m 0 #[.val (.ref x0)] [] := by first | (simp [entryFrame, mkF, argsToLocals, Value.category]; done) | rfl
set_option maxRecDepth 65536 in
set_option maxHeartbeats 40000000 in
theorem c_empty {l : Launch} {Z : State} {n0 : Nat} {a0 : Array Value} (hw : Hw a0 Z) (x t : Addr) (cs : List Int32) (h0 : Heap) (S : St Z h0 x t cs) (hpos : 0 < cs.length) :
    Con l Z n0 ELs (⟨"java/lang/String", "isEmpty", "()Z"⟩ : MethodName) jdk_42_method_55_code 1 (some .boolean) [] ({ frames := 0, cells := 0, slots := 0, locals := 0 } : Room) #[(.ref x)] h0 [] false (fun w h => w = .int 0 ∧ h0 = h) := by
  refine con_of (plainFor_of_name pn_0) (fun mt => ef_c_empty mt x ) ?_
  intro K
  have hsh := S.2.2.2.1.short
  rw [List.length_map] at hsh
  refine g_aloadN d31_0 rfl rfl (pc' := 1) rfl ?_
  refine g_getF d31_1 (w_42 hw) Via.refl S.2.2.1 (pc' := 4) rfl ?_
  refine g_alen d31_4 S.2.2.2.1 (x := (Int32.ofNat cs.length)) (by rw [List.length_map]) (pc' := 5) rfl ?_
  refine g_if_ne_t d31_5 (fun q => absurd ((ofNat_inj (a := cs.length) (b := 0) (by omega) (by omega)).mp q) (by omega)) (pc' := 12) (by decide) rfl ?_
  refine g_iconst d31_12 (v := 0) rfl (pc' := 13) rfl ?_
  exact g_ireturnN d31_13 rfl (by simp) (z := 0) rfl ⟨rfl, rfl⟩ (by decide) (by decide)
theorem ef_c_rnn (m : MethodId) (x0 : Addr) (x1 : Addr)  : entryFrame m #[(.ref x0), (.ref x1)] 2 = mkF m 0 #[.val (.ref x0), .val (.ref x1)] [] := by first | (simp [entryFrame, mkF, argsToLocals, Value.category]; done) | rfl
set_option maxRecDepth 65536 in
set_option maxHeartbeats 40000000 in
theorem c_rnn {l : Launch} {Z : State} {n0 : Nat} {a0 : Array Value} (hw : Hw a0 Z) (x b : Addr) (h0 : Heap)  :
    Con l Z n0 ELs (⟨"java/util/Objects", "requireNonNull", "(Ljava/lang/Object;Ljava/lang/String;)Ljava/lang/Object;"⟩ : MethodName) jdk_31_method_11_code 2 (some (.object "java/lang/Object")) [] ({ frames := 0, cells := 0, slots := 0, locals := 0 } : Room) #[(.ref x), (.ref b)] h0 [] false (fun w h => w = .ref x ∧ h0 = h) := by
  refine con_of (plainFor_of_name pn_9) (fun mt => ef_c_rnn mt x b ) ?_
  intro K
  refine g_aloadN d12_0 rfl rfl (pc' := 1) rfl ?_
  refine g_ifnonnull_t d12_1  (pc' := 13) (by decide) rfl ?_
  refine g_aloadN d12_13 rfl rfl (pc' := 14) rfl ?_
  exact g_areturn d12_14 rfl rfl rfl ⟨rfl, rfl⟩ (by decide) (by decide)
theorem ef_c_key (m : MethodId) (x0 : Addr) (x1 : Addr)  : entryFrame m #[(.ref x0), (.ref x1)] 2 = mkF m 0 #[.val (.ref x0), .val (.ref x1)] [] := by first | (simp [entryFrame, mkF, argsToLocals, Value.category]; done) | rfl
set_option maxRecDepth 65536 in
set_option maxHeartbeats 40000000 in
theorem c_key {l : Launch} {Z : State} {n0 : Nat} {a0 : Array Value} (hw : Hw a0 Z) (x : Addr) (v : Addr) (u_value : Value)  (h0 : Heap) (E0 : Exa Z h0 x "com/example/anemone/anemone/IdempotencyKey") (F_value : Fld Z h0 x "com/example/anemone/anemone/IdempotencyKey" "value" "Ljava/lang/String;" u_value)  :
    Con l Z n0 ELs (⟨"com/example/anemone/anemone/IdempotencyKey", "<init>", "(Ljava/lang/String;)V"⟩ : MethodName) prog_8_method_1_code 2 none [] ({ frames := 2, cells := 0, slots := 0, locals := 30 } : Room) #[(.ref x), (.ref v)] h0 [x] false (fun w h => Exa Z h x "com/example/anemone/anemone/IdempotencyKey" ∧ Fld Z h x "com/example/anemone/anemone/IdempotencyKey" "value" "Ljava/lang/String;" (.ref v)) := by
  refine con_of (plainFor_of_name pn_8) (fun mt => ef_c_key mt x v ) ?_
  intro K
  refine g_aloadN d34_0 rfl rfl (pc' := 1) rfl ?_
  refine g_init (W := 0) (argsL := []) (rest := []) d34_1 rfl (w_146 hw) (w_147 hw) (by decide) (lenOf pd_18 rfl) (c_record hw x _) (w_150 hw) (w_149 hw) (by decide) (by decide) (fun _ q => nomatch q) rfl (Nat.le_of_eq rfl) rfl (by decide) (by decide) (pc' := 4) rfl ?_
  intro w1 h1 q1 Kc1
  obtain rfl := q1
  refine g_aloadN d34_4 rfl rfl (pc' := 5) rfl ?_
  refine g_aloadN d34_5 rfl rfl (pc' := 6) rfl ?_
  refine g_putF (ty := (.object "java/lang/String")) d34_6 (w_152 hw) Via.refl F_value E0 (Or.inr ⟨(w_153 hw), rfl, rfl⟩) (w_142 hw) (by decide) rfl rfl (Or.inl (List.mem_of_getElem? (i := 0) rfl)) (List.mem_of_getElem? (i := 0) rfl) (pc' := 9) rfl ?_
  intro h2 W2
  have Kw2 := Keep.of_wr W2
  have G2_value := F_value.same W2
  exact g_return d34_9 rfl ⟨(E0.keep Kw2), G2_value⟩ (by decide) (by decide)
theorem ef_c_value (m : MethodId) (x0 : Addr)  : entryFrame m #[(.ref x0)] 1 = mkF m 0 #[.val (.ref x0)] [] := by first | (simp [entryFrame, mkF, argsToLocals, Value.category]; done) | rfl
set_option maxRecDepth 65536 in
set_option maxHeartbeats 40000000 in
theorem c_value {l : Launch} {Z : State} {n0 : Nat} {a0 : Array Value} (hw : Hw a0 Z) (x : Addr) (v : Addr) (h0 : Heap) (F : Fld Z h0 x "com/example/anemone/anemone/IdempotencyKey" "value" "Ljava/lang/String;" (.ref v)) :
    Con l Z n0 ELs (⟨"com/example/anemone/anemone/IdempotencyKey", "value", "()Ljava/lang/String;"⟩ : MethodName) prog_8_method_11_code 1 (some (.object "java/lang/String")) [] ({ frames := 0, cells := 0, slots := 0, locals := 0 } : Room) #[(.ref x)] h0 [] false (fun w h => w = (.ref v) ∧ h0 = h) := by
  refine con_of (plainFor_of_name pn_8) (fun mt => ef_c_value mt x ) ?_
  intro K
  refine g_aloadN d36_0 rfl rfl (pc' := 1) rfl ?_
  refine g_getF d36_1 (w_152 hw) Via.refl F (pc' := 4) rfl ?_
  exact g_areturn d36_4 rfl rfl rfl ⟨rfl, rfl⟩ (by decide) (by decide)
theorem ef_c_trim (m : MethodId) (x0 : Addr)  : entryFrame m #[(.ref x0)] 3 = mkF m 0 #[.val (.ref x0), .unset, .unset] [] := by first | (simp [entryFrame, mkF, argsToLocals, Value.category]; done) | rfl
set_option maxRecDepth 65536 in
set_option maxHeartbeats 40000000 in
theorem c_trim {l : Launch} {Z : State} {n0 : Nat} {a0 : Array Value} (hw : Hw a0 Z) (x t : Addr) (cs : List Int32) (z : Int32) (sf : Value) (h0 : Heap) (hC : Sta Z Z.heap "java/lang/String" "COMPACT_STRINGS" "Z" (.int z)) (hz : ¬ z = 0) (hF : Sta Z Z.heap "jdk/internal/util/Preconditions" "SIOOBE_FORMATTER" "Ljava/util/function/BiFunction;" sf) (rsf : sf.isRef = true) (S : St Z h0 x t cs) (h16 : cs.length ≤ 16) (htr : 0 < (trimL cs).length) :
    Con l Z n0 ELs (⟨"com/example/anemone/anemone/IdempotencyKey", "withoutSurroundingWhitespace", "(Ljava/lang/String;)Ljava/lang/String;"⟩ : MethodName) prog_8_method_5_code 3 (some (.object "java/lang/String")) [] ({ frames := 5, cells := 2, slots := 20, locals := 120 } : Room) #[(.ref x)] h0 [] false (fun w h => ∃ x' t', w = .ref x' ∧ St Z h x' t' (trimL cs)) := by
  refine con_of (plainFor_of_name pn_8) (fun mt => ef_c_trim mt x ) ?_
  intro K
  have hsh := S.2.2.2.1.short
  rw [List.length_map] at hsh
  have fin : ∀ b e : Nat, b ≤ e → e ≤ cs.length → (cs.drop b).take (e - b) = trimL cs → Go l Z n0 ELs (⟨"com/example/anemone/anemone/IdempotencyKey", "withoutSurroundingWhitespace", "(Ljava/lang/String;)Ljava/lang/String;"⟩ : MethodName) prog_8_method_5_code 3 (some (.object "java/lang/String")) ({ frames := 5, cells := 2, slots := 20, locals := 120 } : Room) h0 [] false (fun w h => ∃ x' t', w = .ref x' ∧ St Z h x' t' (trimL cs)) K [] h0 (0 + 0) (0 + 0) 53 #[.val (.ref x), .val (.int (Int32.ofNat b)), .val (.int (Int32.ofNat e))] [] := by
    intro b e hbe hel ht
    have hbl : b < e := by
      rcases Nat.lt_or_ge b e with q | q
      · exact q
      · rw [← ht, show e - b = 0 by omega] at htr; simp at htr
    refine g_aloadN d13_53 rfl rfl (pc' := 54) rfl ?_
    refine g_iloadN d13_54 rfl (pc' := 55) rfl ?_
    refine g_iloadN d13_55 rfl (pc' := 56) rfl ?_
    refine g_virt (W := 0) (argsL := [(.int (Int32.ofNat b)), (.int (Int32.ofNat e))]) (rest := []) d13_56 (w_93 hw) (w_94 hw) (nf_self (w_96 hw)) (w_96 hw) (w_95 hw) (by decide) (lenOf pd_19 rfl) S.1 (c_substr hw x t cs b e z sf _ hC hz hF rsf S hbl hel h16) (w_97 hw) (w_17 hw) (by decide) (by decide) (fun _ q => nomatch q) rfl (Nat.le_of_eq rfl) rfl (by decide) (by decide) (pc' := 59) rfl ?_
    intro w1 h1 q1 Kc1
    obtain ⟨x', t', rfl, S'⟩ := q1
    exact g_areturn d13_59 rfl rfl rfl ⟨x', t', rfl, ht ▸ S'⟩ (by decide) (by decide)
  have lp2 : ∀ (m b e : Nat), e = b + m → e ≤ cs.length → (∀ i (h : i < cs.length), i < b → isW cs[i] = true) → (∀ h : b < cs.length, isW cs[b] = false) → (∀ i (h : i < cs.length), e ≤ i → isW cs[i] = true) → Go l Z n0 ELs (⟨"com/example/anemone/anemone/IdempotencyKey", "withoutSurroundingWhitespace", "(Ljava/lang/String;)Ljava/lang/String;"⟩ : MethodName) prog_8_method_5_code 3 (some (.object "java/lang/String")) ({ frames := 5, cells := 2, slots := 20, locals := 120 } : Room) h0 [] false (fun w h => ∃ x' t', w = .ref x' ∧ St Z h x' t' (trimL cs)) K [] h0 (0 + 0) (0 + 0) 29 #[.val (.ref x), .val (.int (Int32.ofNat b)), .val (.int (Int32.ofNat e))] [] := by
    intro m
    induction m with
    | zero =>
      intro b e he hel h1 h2 h3
      refine g_iloadN d13_29 rfl (pc' := 30) rfl ?_
      refine g_iloadN d13_30 rfl (pc' := 31) rfl ?_
      refine g_icmp_le_t d13_31 (by subst he; exact (ofNat_le (Nat.le_refl _) (by omega)).2) (pc' := 53) (by decide) rfl ?_
      exact fin b e (by omega) hel (trim_at cs b e (by omega) hel h1 h2 h3 (fun q => absurd q (by omega)))
    | succ m ih =>
      intro b e he hel h1 h2 h3
      have hi : e - 1 < cs.length := by omega
      have hlt := ofNat_lt (i := b) (n := e) (by omega) (by omega)
      refine g_iloadN d13_29 rfl (pc' := 30) rfl ?_
      refine g_iloadN d13_30 rfl (pc' := 31) rfl ?_
      refine g_icmp_le_f d13_31 hlt.2.1 (pc' := 34) rfl ?_
      refine g_aloadN d13_34 rfl rfl (pc' := 35) rfl ?_
      refine g_iloadN d13_35 rfl (pc' := 36) rfl ?_
      refine g_iconst d13_36 (v := 1) rfl (pc' := 37) rfl ?_
      refine g_isub d13_37 (v := (Int32.ofNat (e - 1))) (ofNat_pred (by omega) (by omega)) (pc' := 38) rfl ?_
      refine g_virt (W := 0) (argsL := [(.int (Int32.ofNat (e - 1)))]) (rest := []) d13_38 (w_68 hw) (w_69 hw) (nf_self (w_71 hw)) (w_71 hw) (w_70 hw) (by decide) (lenOf pd_20 rfl) S.1 (c_charat hw x t cs (e - 1) _ z sf _ hC hz hF rsf S (List.getElem?_eq_getElem hi)) (w_72 hw) (w_17 hw) (by decide) (by decide) (fun _ q => nomatch q) rfl (Nat.le_of_eq rfl) rfl (by decide) (by decide) (pc' := 41) rfl ?_
      intro w1 h1 q1 Kc1
      obtain ⟨rfl, rfl⟩ := q1
      refine g_static (W := 0) (argsL := [(.int (cs[e - 1]))]) (rest := []) d13_41 (w_90 hw) (w_91 hw) (by decide) (lenOf pd_13 rfl) (c_xs hw _ _) (w_92 hw) (w_46 hw) (by decide) (by decide) (fun _ q => nomatch q) rfl (Nat.le_of_eq rfl) rfl (by decide) (by decide) (pc' := 44) rfl ?_
      intro w2 h2 q2 Kc2
      obtain ⟨rfl, rfl⟩ := q2
      by_cases q : isW cs[e - 1] = true
      ·
        refine g_if_eq_f d13_44 (by rw [if_pos q]; decide) (pc' := 47) rfl ?_
        refine g_iinc d13_47 (v := (-1)) rfl rfl (y := (Int32.ofNat (e - 1))) (ofNat_pred' (by omega) (by omega)) (L' := #[.val (.ref x), .val (.int (Int32.ofNat b)), .val (.int (Int32.ofNat (e - 1)))]) rfl (pc' := 50) rfl ?_
        refine g_goto d13_50 (pc' := 29) (by decide) rfl ?_
        exact ih b (e - 1) (by omega) (by omega) h1 h2 (fun i h hi' => by
          by_cases r : i = e - 1
          · subst r; exact q
          · exact h3 i h (by omega))
      ·
        refine g_if_eq_t d13_44 (if_neg q) (pc' := 53) (by decide) rfl ?_
        exact fin b e (by omega) hel (trim_at cs b e (by omega) hel h1 h2 h3 (fun _ _ => by simpa using q))
  have lp1 : ∀ (m b : Nat), cs.length = b + m → (∀ i (h : i < cs.length), i < b → isW cs[i] = true) → Go l Z n0 ELs (⟨"com/example/anemone/anemone/IdempotencyKey", "withoutSurroundingWhitespace", "(Ljava/lang/String;)Ljava/lang/String;"⟩ : MethodName) prog_8_method_5_code 3 (some (.object "java/lang/String")) ({ frames := 5, cells := 2, slots := 20, locals := 120 } : Room) h0 [] false (fun w h => ∃ x' t', w = .ref x' ∧ St Z h x' t' (trimL cs)) K [] h0 (0 + 0) (0 + 0) 7 #[.val (.ref x), .val (.int (Int32.ofNat b)), .val (.int (Int32.ofNat cs.length))] [] := by
    intro m
    induction m with
    | zero =>
      intro b hb h1
      refine g_iloadN d13_7 rfl (pc' := 8) rfl ?_
      refine g_iloadN d13_8 rfl (pc' := 9) rfl ?_
      refine g_icmp_ge_t d13_9 (by rw [show b = cs.length by omega]; exact (ofNat_le (Nat.le_refl _) (by omega)).2) (pc' := 29) (by decide) rfl ?_
      exact lp2 0 b cs.length (by omega) (Nat.le_refl _) h1 (fun h => absurd h (by omega)) (fun i h hi => absurd h (by omega))
    | succ m ih =>
      intro b hb h1
      have hi : b < cs.length := by omega
      have hlt := ofNat_lt (i := b) (n := cs.length) (by omega) (by omega)
      refine g_iloadN d13_7 rfl (pc' := 8) rfl ?_
      refine g_iloadN d13_8 rfl (pc' := 9) rfl ?_
      refine g_icmp_ge_f d13_9 hlt.2.1 (pc' := 12) rfl ?_
      refine g_aloadN d13_12 rfl rfl (pc' := 13) rfl ?_
      refine g_iloadN d13_13 rfl (pc' := 14) rfl ?_
      refine g_virt (W := 0) (argsL := [(.int (Int32.ofNat b))]) (rest := []) d13_14 (w_68 hw) (w_69 hw) (nf_self (w_71 hw)) (w_71 hw) (w_70 hw) (by decide) (lenOf pd_20 rfl) S.1 (c_charat hw x t cs (b) _ z sf _ hC hz hF rsf S (List.getElem?_eq_getElem hi)) (w_72 hw) (w_17 hw) (by decide) (by decide) (fun _ q => nomatch q) rfl (Nat.le_of_eq rfl) rfl (by decide) (by decide) (pc' := 17) rfl ?_
      intro w1 h1 q1 Kc1
      obtain ⟨rfl, rfl⟩ := q1
      refine g_static (W := 0) (argsL := [(.int (cs[b]))]) (rest := []) d13_17 (w_90 hw) (w_91 hw) (by decide) (lenOf pd_13 rfl) (c_xs hw _ _) (w_92 hw) (w_46 hw) (by decide) (by decide) (fun _ q => nomatch q) rfl (Nat.le_of_eq rfl) rfl (by decide) (by decide) (pc' := 20) rfl ?_
      intro w2 h2 q2 Kc2
      obtain ⟨rfl, rfl⟩ := q2
      by_cases q : isW cs[b] = true
      ·
        refine g_if_eq_f d13_20 (by rw [if_pos q]; decide) (pc' := 23) rfl ?_
        refine g_iinc d13_23 (v := 1) rfl rfl (y := (Int32.ofNat (b + 1))) (ofNat_succ (by omega)) (L' := #[.val (.ref x), .val (.int (Int32.ofNat (b + 1))), .val (.int (Int32.ofNat cs.length))]) rfl (pc' := 26) rfl ?_
        refine g_goto d13_26 (pc' := 7) (by decide) rfl ?_
        exact ih (b + 1) (by omega) (fun i h hi' => by
          by_cases r : i = b
          · subst r; exact q
          · exact h1 i h (by omega))
      ·
        refine g_if_eq_t d13_20 (if_neg q) (pc' := 29) (by decide) rfl ?_
        exact lp2 (cs.length - b) b cs.length (by omega) (Nat.le_refl _) h1 (fun _ => by simpa using q) (fun i h hi => absurd h (by omega))
  refine g_iconst d13_0 (v := 0) rfl (pc' := 1) rfl ?_
  refine g_istoreN d13_1 (L' := #[.val (.ref x), .val (.int 0), .unset]) rfl (pc' := 2) rfl ?_
  refine g_aloadN d13_2 rfl rfl (pc' := 3) rfl ?_
  refine g_virt (W := 0) (argsL := []) (rest := []) d13_3 (w_58 hw) (w_59 hw) (nf_self (w_61 hw)) (w_61 hw) (w_60 hw) (by decide) (lenOf pd_9 rfl) S.1 (c_len hw x t cs z _ hC hz S) (w_62 hw) (w_17 hw) (by decide) (by decide) (fun _ q => nomatch q) rfl (Nat.le_of_eq rfl) rfl (by decide) (by decide) (pc' := 6) rfl ?_
  intro w1 h1 q1 Kc1
  obtain ⟨rfl, rfl⟩ := q1
  refine g_istoreN d13_6 (L' := #[.val (.ref x), .val (.int 0), .val (.int (Int32.ofNat cs.length))]) rfl (pc' := 7) rfl ?_
  exact lp1 cs.length 0 (by omega) (fun i h hi => absurd hi (by omega))
theorem ef_c_bare (m : MethodId) (x0 : Addr)  : entryFrame m #[(.ref x0)] 3 = mkF m 0 #[.val (.ref x0), .unset, .unset] [] := by first | (simp [entryFrame, mkF, argsToLocals, Value.category]; done) | rfl
set_option maxRecDepth 65536 in
set_option maxHeartbeats 40000000 in
theorem c_bare {l : Launch} {Z : State} {n0 : Nat} {a0 : Array Value} (hw : Hw a0 Z) (x t : Addr) (cs : List Int32) (z : Int32) (sf : Value) (h0 : Heap) (hC : Sta Z Z.heap "java/lang/String" "COMPACT_STRINGS" "Z" (.int z)) (hz : ¬ z = 0) (hF : Sta Z Z.heap "jdk/internal/util/Preconditions" "SIOOBE_FORMATTER" "Ljava/util/function/BiFunction;" sf) (rsf : sf.isRef = true) (S : St Z h0 x t cs) (hB : ∀ c ∈ cs, gB c) :
    Con l Z n0 ELs (⟨"com/example/anemone/anemone/IdempotencyKey", "requireBare", "(Ljava/lang/String;)V"⟩ : MethodName) prog_8_method_4_code 3 none [] ({ frames := 4, cells := 0, slots := 0, locals := 60 } : Room) #[(.ref x)] h0 [] false (fun w h => h0 = h) := by
  refine con_of (plainFor_of_name pn_8) (fun mt => ef_c_bare mt x ) ?_
  intro K
  have hsh := S.2.2.2.1.short
  rw [List.length_map] at hsh
  have lp : ∀ (m i : Nat) (s2 : Slot), One s2 → cs.length = i + m → Go l Z n0 ELs (⟨"com/example/anemone/anemone/IdempotencyKey", "requireBare", "(Ljava/lang/String;)V"⟩ : MethodName) prog_8_method_4_code 3 none ({ frames := 4, cells := 0, slots := 0, locals := 60 } : Room) h0 [] false (fun w h => h0 = h) K [] h0 0 0 2 #[.val (.ref x), .val (.int (Int32.ofNat i)), s2] [] := by
    intro m
    induction m with
    | zero =>
      intro i s2 hs2 him
      refine g_iloadN d32_2 rfl (pc' := 3) rfl ?_
      refine g_aloadN d32_3 rfl rfl (pc' := 4) rfl ?_
      refine g_virt (W := 1) (argsL := []) (rest := [(.int (Int32.ofNat i))]) d32_4 (w_58 hw) (w_59 hw) (nf_self (w_61 hw)) (w_61 hw) (w_60 hw) (by decide) (lenOf pd_9 rfl) S.1 (c_len hw x t cs z _ hC hz S) (w_62 hw) (w_17 hw) (by decide) (by decide) (fun _ q => nomatch q) rfl (Nat.le_of_eq rfl) rfl (by decide) (by decide) (pc' := 7) rfl ?_
      intro w1 h1 q1 Kc1
      obtain ⟨rfl, rfl⟩ := q1
      refine g_icmp_ge_t d32_7 (by rw [show i = cs.length by omega]; exact (ofNat_le (Nat.le_refl _) (by omega)).2) (pc' := 73) (by decide) rfl ?_
      exact g_return d32_73 rfl rfl (by decide) (by decide)
    | succ m ih =>
      intro i s2 hs2 him
      have hi : i < cs.length := by omega
      have hlt := ofNat_lt (i := i) (n := cs.length) (by omega) (by omega)
      have hg := hB _ (List.getElem_mem hi)
      obtain ⟨ch, hch⟩ : ∃ ch, cs[i] = ch := ⟨_, rfl⟩
      have hci : cs[i]? = some ch := by rw [List.getElem?_eq_getElem hi, hch]
      rw [hch] at hg
      have hg1 := hg.1
      have hg2 := hg.2
      refine g_iloadN d32_2 rfl (pc' := 3) rfl ?_
      refine g_aloadN d32_3 rfl rfl (pc' := 4) rfl ?_
      refine g_virt (W := 1) (argsL := []) (rest := [(.int (Int32.ofNat i))]) d32_4 (w_58 hw) (w_59 hw) (nf_self (w_61 hw)) (w_61 hw) (w_60 hw) (by decide) (lenOf pd_9 rfl) S.1 (c_len hw x t cs z _ hC hz S) (w_62 hw) (w_17 hw) (by decide) (by decide) (fun _ q => nomatch q) rfl (Nat.le_of_eq rfl) rfl (by decide) (by decide) (pc' := 7) rfl ?_
      intro w1 h1 q1 Kc1
      obtain ⟨rfl, rfl⟩ := q1
      refine g_icmp_ge_f d32_7 hlt.2.1 (pc' := 10) rfl ?_
      refine g_aloadN d32_10 rfl rfl (pc' := 11) rfl ?_
      refine g_iloadN d32_11 rfl (pc' := 12) rfl ?_
      refine g_virt (W := 0) (argsL := [(.int (Int32.ofNat i))]) (rest := []) d32_12 (w_68 hw) (w_69 hw) (nf_self (w_71 hw)) (w_71 hw) (w_70 hw) (by decide) (lenOf pd_20 rfl) S.1 (c_charat hw x t cs i ch z sf _ hC hz hF rsf S hci) (w_72 hw) (w_17 hw) (by decide) (by decide) (fun _ q => nomatch q) rfl (Nat.le_of_eq rfl) rfl (by decide) (by decide) (pc' := 15) rfl ?_
      intro w2 h2 q2 Kc2
      obtain ⟨rfl, rfl⟩ := q2
      refine g_istoreN d32_15 (L' := #[.val (.ref x), .val (.int (Int32.ofNat i)), .val (.int ch)]) (st_any rfl hs2 rfl rfl) (pc' := 16) rfl ?_
      refine g_iloadN d32_16 rfl (pc' := 17) rfl ?_
      refine g_static (W := 0) (argsL := [(.int ch)]) (rest := []) d32_17 (w_138 hw) (w_139 hw) (by decide) (lenOf pd_13 rfl) (c_prt hw ch _ hg.a) (w_140 hw) (w_46 hw) (by decide) (by decide) (fun _ q => nomatch q) rfl (Nat.le_of_eq rfl) rfl (by decide) (by decide) (pc' := 20) rfl ?_
      intro w3 h3 q3 Kc3
      obtain ⟨rfl, rfl⟩ := q3
      refine g_if_ne_t d32_20 (by decide) (pc' := 33) (by decide) rfl ?_
      refine g_iloadN d32_33 rfl (pc' := 34) rfl ?_
      refine g_bipush d32_34 (v := 32) rfl (pc' := 36) rfl ?_
      refine g_icmp_eq_f d32_36 (i32_ne (by rw [i32_32]; omega)) (pc' := 39) rfl ?_
      refine g_iloadN d32_39 rfl (pc' := 40) rfl ?_
      refine g_bipush d32_40 (v := 44) rfl (pc' := 42) rfl ?_
      refine g_icmp_eq_f d32_42 (i32_ne (by rw [i32_44]; omega)) (pc' := 45) rfl ?_
      refine g_iloadN d32_45 rfl (pc' := 46) rfl ?_
      refine g_bipush d32_46 (v := 34) rfl (pc' := 48) rfl ?_
      refine g_icmp_eq_f d32_48 (i32_ne (by rw [i32_34]; omega)) (pc' := 51) rfl ?_
      refine g_iloadN d32_51 rfl (pc' := 52) rfl ?_
      refine g_bipush d32_52 (v := 92) rfl (pc' := 54) rfl ?_
      refine g_icmp_ne_t d32_54 (i32_ne (by rw [i32_92]; omega)) (pc' := 67) (by decide) rfl ?_
      refine g_iinc d32_67 (v := 1) rfl rfl (y := (Int32.ofNat (i + 1))) (ofNat_succ (by omega)) (L' := #[.val (.ref x), .val (.int (Int32.ofNat (i + 1))), .val (.int ch)]) rfl (pc' := 70) rfl ?_
      refine g_goto d32_70 (pc' := 2) (by decide) rfl ?_
      exact ih (i + 1) _ (One.val rfl) (by omega)
  refine g_iconst d32_0 (v := 0) rfl (pc' := 1) rfl ?_
  refine g_istoreN d32_1 (L' := #[.val (.ref x), .val (.int 0), .unset]) rfl (pc' := 2) rfl ?_
  exact lp cs.length 0 _ One.u (by omega)
theorem ef_c_unq (m : MethodId) (x0 : Addr)  : entryFrame m #[(.ref x0)] 6 = mkF m 0 #[.val (.ref x0), .unset, .unset, .unset, .unset, .unset] [] := by first | (simp [entryFrame, mkF, argsToLocals, Value.category]; done) | rfl
set_option maxRecDepth 65536 in
set_option maxHeartbeats 40000000 in
theorem c_unq {l : Launch} {Z : State} {n0 : Nat} {a0 : Array Value} (hw : Hw a0 Z) (x t : Addr) (cs tl V : List Int32) (z : Int32) (sf : Value) (h0 : Heap) (hC : Sta Z Z.heap "java/lang/String" "COMPACT_STRINGS" "Z" (.int z)) (hz : ¬ z = 0) (hF : Sta Z Z.heap "jdk/internal/util/Preconditions" "SIOOBE_FORMATTER" "Ljava/util/function/BiFunction;" sf) (rsf : sf.isRef = true) (S : St Z h0 x t cs) (h16 : cs.length ≤ 16) (hcs : cs.drop 1 = tl) (hU : UQ tl V) :
    Con l Z n0 ELs (⟨"com/example/anemone/anemone/IdempotencyKey", "unquote", "(Ljava/lang/String;)Ljava/lang/String;"⟩ : MethodName) prog_8_method_3_code 6 (some (.object "java/lang/String")) [] ({ frames := 6, cells := 4, slots := 44, locals := 160 } : Room) #[(.ref x)] h0 [] false (fun w h => ∃ x' t', w = .ref x' ∧ St Z h x' t' V) := by
  refine con_of (plainFor_of_name pn_8) (fun mt => ef_c_unq mt x ) ?_
  intro K
  have hsh := S.2.2.2.1.short
  rw [List.length_map] at hsh
  refine g_new d39_0 (w_170 hw) (w_171 hw) (w_172 hw) (by decide) (by decide) (pc' := 3) rfl ?_
  intro b h1 g1 Kn1 E_b D1 sz_b
  have F_value_b : Fld Z h1 b "java/lang/AbstractStringBuilder" "value" "[B" .null := D1 (Or.inl (w_185 hw)) (ty := (.array .byte)) (by decide)
  have F_coder_b : Fld Z h1 b "java/lang/AbstractStringBuilder" "coder" "B" (.int 0) := D1 (Or.inl (w_187 hw)) (ty := .byte) (by decide)
  have F_count_b : Fld Z h1 b "java/lang/AbstractStringBuilder" "count" "I" (.int 0) := D1 (Or.inl (w_199 hw)) (ty := .int) (by decide)
  refine g_dup d39_3 rfl (pc' := 4) rfl ?_
  refine g_aloadN d39_4 rfl rfl (pc' := 5) rfl ?_
  refine g_virt (W := 2) (argsL := []) (rest := [(.ref b), (.ref b)]) d39_5 (w_58 hw) (w_59 hw) (nf_self (w_61 hw)) (w_61 hw) (w_60 hw) (by decide) (lenOf pd_9 rfl) (S.keep0 Kn1).1 (c_len hw x t cs z _ hC hz (S.keep0 Kn1)) (w_62 hw) (w_17 hw) (by decide) (by decide) (fun _ q => nomatch q) rfl (Nat.le_of_eq rfl) rfl (by decide) (by decide) (pc' := 8) rfl ?_
  intro w2 h2 q2 Kc2
  obtain ⟨rfl, rfl⟩ := q2
  refine g_init (W := 1) (argsL := [(.int (Int32.ofNat cs.length))]) (rest := [(.ref b)]) d39_8 rfl (w_173 hw) (w_174 hw) (by decide) (lenOf pd_12 rfl) (c_sbi hw b cs.length z _ _ _ hC hz E_b F_value_b F_coder_b F_count_b h16) (w_175 hw) (w_172 hw) (by decide) (by decide) (allS ⟨(Or.inr sz_b), (List.mem_of_getElem? (i := 0) rfl)⟩ all0) rfl (Nat.le_of_eq rfl) rfl (by decide) (by decide) (pc' := 11) rfl ?_
  intro w3 h3 q3 Kc3
  obtain ⟨tb, htb, Bb⟩ := q3
  refine g_astoreN d39_11 rfl (L' := #[.val (.ref x), .val (.ref b), .unset, .unset, .unset, .unset]) rfl (pc' := 12) rfl ?_
  refine g_iconst d39_12 (v := 1) rfl (pc' := 13) rfl ?_
  refine g_istoreN d39_13 (L' := #[.val (.ref x), .val (.ref b), .val (.int 1), .unset, .unset, .unset]) rfl (pc' := 14) rfl ?_
  refine g_iconst d39_14 (v := 0) rfl (pc' := 15) rfl ?_
  refine g_istoreN d39_15 (L' := #[.val (.ref x), .val (.ref b), .val (.int 1), .val (.int 0), .unset, .unset]) rfl (pc' := 16) rfl ?_
  have Sx0 := ((S.keep0 Kn1).keep Kc3 (ninS (Nat.ne_of_lt (Nat.lt_of_lt_of_le (S).lt (Nat.le_of_eq g1.symm))) nin0) (ninS (Nat.ne_of_lt (Nat.lt_of_lt_of_le (S).2.2.2.1.lt (Nat.le_of_eq g1.symm))) nin0))
  have hxl := S.1.lt
  have htl := S.2.2.2.1.lt
  have hxb : x ≠ b := Nat.ne_of_lt (Nat.lt_of_lt_of_le hxl sz_b)
  have htb' : t ≠ b := Nat.ne_of_lt (Nat.lt_of_lt_of_le htl sz_b)
  have hzt : h0.size ≤ tb := Nat.le_trans (Nat.le_trans sz_b (Nat.le_of_lt E_b.lt)) htb
  have hxt : x ≠ tb := Nat.ne_of_lt (Nat.lt_of_lt_of_le hxl hzt)
  have htt : t ≠ tb := Nat.ne_of_lt (Nat.lt_of_lt_of_le htl hzt)
  have hbt : b ≠ tb := Nat.ne_of_lt (Nat.lt_of_lt_of_le E_b.lt htb)
  have J : ∀ (h : Heap) (s4 s5 : Slot) (m : Nat), St Z h x t cs → Sb Z h b tb V m → V.length + m = cs.length → 0 < m → Go l Z n0 ELs (⟨"com/example/anemone/anemone/IdempotencyKey", "unquote", "(Ljava/lang/String;)Ljava/lang/String;"⟩ : MethodName) prog_8_method_3_code 6 (some (.object "java/lang/String")) ({ frames := 6, cells := 4, slots := 44, locals := 160 } : Room) h0 [] false (fun w h => ∃ x' t', w = .ref x' ∧ St Z h x' t' V) K [tb, b] h 2 20 16 #[.val (.ref x), .val (.ref b), .val (.int (Int32.ofNat cs.length)), .val (.int 1), s4, s5] [] := by
    intro h s4 s5 m Sx Bx hm hpos
    refine g_iloadN d39_16 rfl (pc' := 17) rfl ?_
    refine g_aloadN d39_17 rfl rfl (pc' := 18) rfl ?_
    refine g_virt (W := 1) (argsL := []) (rest := [(.int (Int32.ofNat cs.length))]) d39_18 (w_58 hw) (w_59 hw) (nf_self (w_61 hw)) (w_61 hw) (w_60 hw) (by decide) (lenOf pd_9 rfl) Sx.1 (c_len hw x t cs z _ hC hz Sx) (w_62 hw) (w_17 hw) (by decide) (by decide) (fun _ q => nomatch q) rfl (Nat.le_of_eq rfl) rfl (by decide) (by decide) (pc' := 21) rfl ?_
    intro w1 h1 q1 Kc1
    obtain ⟨rfl, rfl⟩ := q1
    refine g_icmp_ge_t d39_21 (ofNat_le (Nat.le_refl _) (by omega)).2 (pc' := 141) (by decide) rfl ?_
    refine g_iloadN d39_141 rfl (pc' := 142) rfl ?_
    refine g_if_ne_t d39_142 (by decide) (pc' := 155) (by decide) rfl ?_
    refine g_iloadN d39_155 rfl (pc' := 156) rfl ?_
    refine g_aloadN d39_156 rfl rfl (pc' := 157) rfl ?_
    refine g_virt (W := 1) (argsL := []) (rest := [(.int (Int32.ofNat cs.length))]) d39_157 (w_58 hw) (w_59 hw) (nf_self (w_61 hw)) (w_61 hw) (w_60 hw) (by decide) (lenOf pd_9 rfl) Sx.1 (c_len hw x t cs z _ hC hz Sx) (w_62 hw) (w_17 hw) (by decide) (by decide) (fun _ q => nomatch q) rfl (Nat.le_of_eq rfl) rfl (by decide) (by decide) (pc' := 160) rfl ?_
    intro w2 h2 q2 Kc2
    obtain ⟨rfl, rfl⟩ := q2
    refine g_icmp_eq_t d39_160 rfl (pc' := 173) (by decide) rfl ?_
    refine g_aloadN d39_173 rfl rfl (pc' := 174) rfl ?_
    refine g_virt (W := 0) (argsL := []) (rest := []) d39_174 (w_213 hw) (w_214 hw) (nf_self (w_216 hw)) (w_216 hw) (w_215 hw) (by decide) (lenOf pd_21 rfl) Bx.1 (c_tostr hw b tb V m z _ hC hz Bx hpos (by omega)) (w_217 hw) (w_172 hw) (by decide) (by decide) (fun _ q => nomatch q) rfl (Nat.le_of_eq rfl) rfl (by decide) (by decide) (pc' := 177) rfl ?_
    intro w3 h3 q3 Kc3
    obtain ⟨sx, tx, rfl, Sn⟩ := q3
    exact g_areturn d39_177 rfl rfl rfl ⟨sx, tx, rfl, Sn⟩ (by decide) (by decide)
  have lp : ∀ (fuel i : Nat) (h : Heap) (acc V2 : List Int32) (m : Nat) (s4 s5 : Slot), One s4 → One s5 → cs.length ≤ i + fuel → UQ (cs.drop i) V2 → acc ++ V2 = V → acc.length + 1 ≤ i → acc.length + m = cs.length → St Z h x t cs → Sb Z h b tb acc m → Go l Z n0 ELs (⟨"com/example/anemone/anemone/IdempotencyKey", "unquote", "(Ljava/lang/String;)Ljava/lang/String;"⟩ : MethodName) prog_8_method_3_code 6 (some (.object "java/lang/String")) ({ frames := 6, cells := 4, slots := 44, locals := 160 } : Room) h0 [] false (fun w h => ∃ x' t', w = .ref x' ∧ St Z h x' t' V) K [tb, b] h 2 20 16 #[.val (.ref x), .val (.ref b), .val (.int (Int32.ofNat i)), .val (.int 0), s4, s5] [] := by
    intro fuel
    induction fuel with
    | zero =>
      intro i h acc V2 m s4 s5 hs4 hs5 hf hu hV hai hm Sx Bx
      rw [List.drop_of_length_le (by omega)] at hu; exact absurd hu (by simp [UQ])
    | succ fuel ih =>
      intro i h acc V2 m s4 s5 hs4 hs5 hf hu hV hai hm Sx Bx
      rcases hu.cases3 with ⟨hl, hv⟩ | ⟨d, r, V', hl, hd, hv, hu'⟩ | ⟨a, r, V', hl, hg, hv, hu'⟩
      · obtain ⟨hi, hi2, hi3⟩ := drop_at hl
        have hil : i + 1 = cs.length := by have := congrArg List.length hi3; simp at this; omega
        have haV : acc = V := by rw [← hV, hv, List.append_nil]
        subst haV
        refine g_iloadN d39_16 rfl (pc' := 17) rfl ?_
        refine g_aloadN d39_17 rfl rfl (pc' := 18) rfl ?_
        refine g_virt (W := 1) (argsL := []) (rest := [(.int (Int32.ofNat i))]) d39_18 (w_58 hw) (w_59 hw) (nf_self (w_61 hw)) (w_61 hw) (w_60 hw) (by decide) (lenOf pd_9 rfl) Sx.1 (c_len hw x t cs z _ hC hz Sx) (w_62 hw) (w_17 hw) (by decide) (by decide) (fun _ q => nomatch q) rfl (Nat.le_of_eq rfl) rfl (by decide) (by decide) (pc' := 21) rfl ?_
        intro w1 h1 q1 Kc1
        obtain ⟨rfl, rfl⟩ := q1
        refine g_icmp_ge_f d39_21 (ofNat_lt (i := i) (n := cs.length) (by omega) (by omega)).2.1 (pc' := 24) rfl ?_
        refine g_iloadN d39_24 rfl (pc' := 25) rfl ?_
        refine g_if_ne_f d39_25 rfl (pc' := 28) rfl ?_
        refine g_aloadN d39_28 rfl rfl (pc' := 29) rfl ?_
        refine g_iloadN d39_29 rfl (pc' := 30) rfl ?_
        refine g_virt (W := 0) (argsL := [(.int (Int32.ofNat i))]) (rest := []) d39_30 (w_68 hw) (w_69 hw) (nf_self (w_71 hw)) (w_71 hw) (w_70 hw) (by decide) (lenOf pd_20 rfl) Sx.1 (c_charat hw x t cs i 34 z sf _ hC hz hF rsf Sx hi2) (w_72 hw) (w_17 hw) (by decide) (by decide) (fun _ q => nomatch q) rfl (Nat.le_of_eq rfl) rfl (by decide) (by decide) (pc' := 33) rfl ?_
        intro w2 h2 q2 Kc2
        obtain ⟨rfl, rfl⟩ := q2
        refine g_istore d39_33 (L' := #[.val (.ref x), .val (.ref b), .val (.int (Int32.ofNat i)), .val (.int 0), .val (.int 34), s5]) (st_any rfl hs4 rfl rfl) (pc' := 35) rfl ?_
        refine g_iinc d39_35 (v := 1) rfl rfl (y := (Int32.ofNat (i + 1))) (ofNat_succ (by omega)) (L' := #[.val (.ref x), .val (.ref b), .val (.int (Int32.ofNat (i + 1))), .val (.int 0), .val (.int 34), s5]) rfl (pc' := 38) rfl ?_
        refine g_iload d39_38 rfl (pc' := 40) rfl ?_
        refine g_bipush d39_40 (v := 34) rfl (pc' := 42) rfl ?_
        refine g_icmp_ne_f d39_42 rfl (pc' := 45) rfl ?_
        refine g_iconst d39_45 (v := 1) rfl (pc' := 46) rfl ?_
        refine g_istoreN d39_46 (L' := #[.val (.ref x), .val (.ref b), .val (.int (Int32.ofNat (i + 1))), .val (.int 1), .val (.int 34), s5]) rfl (pc' := 47) rfl ?_
        refine g_goto d39_47 (pc' := 138) (by decide) rfl ?_
        refine g_goto d39_138 (pc' := 16) (by decide) rfl ?_
        rw [hil]
        exact J h _ _ m Sx Bx hm (by omega)
      · obtain ⟨hi, hi2, hi3⟩ := drop_at hl
        obtain ⟨hj, hj2, hj3⟩ := drop_at hi3
        obtain ⟨m', rfl⟩ : ∃ m', m = m' + 1 := ⟨m - 1, by omega⟩
        rcases hd with rfl | rfl
        ·
          refine g_iloadN d39_16 rfl (pc' := 17) rfl ?_
          refine g_aloadN d39_17 rfl rfl (pc' := 18) rfl ?_
          refine g_virt (W := 1) (argsL := []) (rest := [(.int (Int32.ofNat i))]) d39_18 (w_58 hw) (w_59 hw) (nf_self (w_61 hw)) (w_61 hw) (w_60 hw) (by decide) (lenOf pd_9 rfl) Sx.1 (c_len hw x t cs z _ hC hz Sx) (w_62 hw) (w_17 hw) (by decide) (by decide) (fun _ q => nomatch q) rfl (Nat.le_of_eq rfl) rfl (by decide) (by decide) (pc' := 21) rfl ?_
          intro w1 h1 q1 Kc1
          obtain ⟨rfl, rfl⟩ := q1
          refine g_icmp_ge_f d39_21 (ofNat_lt (i := i) (n := cs.length) (by omega) (by omega)).2.1 (pc' := 24) rfl ?_
          refine g_iloadN d39_24 rfl (pc' := 25) rfl ?_
          refine g_if_ne_f d39_25 rfl (pc' := 28) rfl ?_
          refine g_aloadN d39_28 rfl rfl (pc' := 29) rfl ?_
          refine g_iloadN d39_29 rfl (pc' := 30) rfl ?_
          refine g_virt (W := 0) (argsL := [(.int (Int32.ofNat i))]) (rest := []) d39_30 (w_68 hw) (w_69 hw) (nf_self (w_71 hw)) (w_71 hw) (w_70 hw) (by decide) (lenOf pd_20 rfl) Sx.1 (c_charat hw x t cs i 92 z sf _ hC hz hF rsf Sx hi2) (w_72 hw) (w_17 hw) (by decide) (by decide) (fun _ q => nomatch q) rfl (Nat.le_of_eq rfl) rfl (by decide) (by decide) (pc' := 33) rfl ?_
          intro w2 h2 q2 Kc2
          obtain ⟨rfl, rfl⟩ := q2
          refine g_istore d39_33 (L' := #[.val (.ref x), .val (.ref b), .val (.int (Int32.ofNat i)), .val (.int 0), .val (.int 92), s5]) (st_any rfl hs4 rfl rfl) (pc' := 35) rfl ?_
          refine g_iinc d39_35 (v := 1) rfl rfl (y := (Int32.ofNat (i + 1))) (ofNat_succ (by omega)) (L' := #[.val (.ref x), .val (.ref b), .val (.int (Int32.ofNat (i + 1))), .val (.int 0), .val (.int 92), s5]) rfl (pc' := 38) rfl ?_
          refine g_iload d39_38 rfl (pc' := 40) rfl ?_
          refine g_bipush d39_40 (v := 34) rfl (pc' := 42) rfl ?_
          refine g_icmp_ne_t d39_42 (by decide) (pc' := 50) (by decide) rfl ?_
          refine g_iload d39_50 rfl (pc' := 52) rfl ?_
          refine g_bipush d39_52 (v := 92) rfl (pc' := 54) rfl ?_
          refine g_icmp_ne_f d39_54 rfl (pc' := 57) rfl ?_
          refine g_iloadN d39_57 rfl (pc' := 58) rfl ?_
          refine g_aloadN d39_58 rfl rfl (pc' := 59) rfl ?_
          refine g_virt (W := 1) (argsL := []) (rest := [(.int (Int32.ofNat (i + 1)))]) d39_59 (w_58 hw) (w_59 hw) (nf_self (w_61 hw)) (w_61 hw) (w_60 hw) (by decide) (lenOf pd_9 rfl) Sx.1 (c_len hw x t cs z _ hC hz Sx) (w_62 hw) (w_17 hw) (by decide) (by decide) (fun _ q => nomatch q) rfl (Nat.le_of_eq rfl) rfl (by decide) (by decide) (pc' := 62) rfl ?_
          intro w3 h3 q3 Kc3
          obtain ⟨rfl, rfl⟩ := q3
          refine g_icmp_ge_f d39_62 (ofNat_lt (i := i + 1) (n := cs.length) (by omega) (by omega)).2.1 (pc' := 65) rfl ?_
          refine g_aloadN d39_65 rfl rfl (pc' := 66) rfl ?_
          refine g_iloadN d39_66 rfl (pc' := 67) rfl ?_
          refine g_virt (W := 0) (argsL := [(.int (Int32.ofNat (i + 1)))]) (rest := []) d39_67 (w_68 hw) (w_69 hw) (nf_self (w_71 hw)) (w_71 hw) (w_70 hw) (by decide) (lenOf pd_20 rfl) Sx.1 (c_charat hw x t cs (i + 1) 34 z sf _ hC hz hF rsf Sx hj2) (w_72 hw) (w_17 hw) (by decide) (by decide) (fun _ q => nomatch q) rfl (Nat.le_of_eq rfl) rfl (by decide) (by decide) (pc' := 70) rfl ?_
          intro w4 h4 q4 Kc4
          obtain ⟨rfl, rfl⟩ := q4
          refine g_goto d39_70 (pc' := 74) (by decide) rfl ?_
          refine g_istore d39_74 (L' := #[.val (.ref x), .val (.ref b), .val (.int (Int32.ofNat (i + 1))), .val (.int 0), .val (.int 92), .val (.int 34)]) (st_any rfl hs5 rfl rfl) (pc' := 76) rfl ?_
          refine g_iload d39_76 rfl (pc' := 78) rfl ?_
          refine g_bipush d39_78 (v := 34) rfl (pc' := 80) rfl ?_
          refine g_icmp_eq_t d39_80 rfl (pc' := 100) (by decide) rfl ?_
          refine g_aloadN d39_100 rfl rfl (pc' := 101) rfl ?_
          refine g_iload d39_101 rfl (pc' := 103) rfl ?_
          refine g_virt (W := 0) (argsL := [(.int 34)]) (rest := []) d39_103 (w_188 hw) (w_189 hw) (nf_self (w_191 hw)) (w_191 hw) (w_190 hw) (by decide) (lenOf pd_22 rfl) Bx.1 (c_sbapp hw b tb acc m' 34 z _ hC hz Bx hbt (by decide)) (w_192 hw) (w_172 hw) (by decide) (by decide) (allS ⟨Or.inr sz_b, List.mem_of_getElem? (i := 1) rfl⟩ (allS ⟨Or.inr hzt, List.mem_of_getElem? (i := 0) rfl⟩ all0)) rfl (Nat.le_of_eq rfl) rfl (by decide) (by decide) (pc' := 106) rfl ?_
          intro w5 h5 q5 Kc5
          obtain ⟨rfl, Bn⟩ := q5
          have Sn := Sx.keep Kc5 (ninS hxb (ninS hxt nin0)) (ninS htb' (ninS htt nin0))
          refine g_pop d39_106 rfl (pc' := 107) rfl ?_
          refine g_iinc d39_107 (v := 1) rfl rfl (y := (Int32.ofNat (i + 2))) (ofNat_succ (by omega)) (L' := #[.val (.ref x), .val (.ref b), .val (.int (Int32.ofNat (i + 2))), .val (.int 0), .val (.int 92), .val (.int 34)]) rfl (pc' := 110) rfl ?_
          refine g_goto d39_110 (pc' := 138) (by decide) rfl ?_
          refine g_goto d39_138 (pc' := 16) (by decide) rfl ?_
          exact ih (i + 2) _ (acc ++ [34]) V' m' _ _ (One.val rfl) (One.val rfl) (by omega) (by rw [hj3]; exact hu') (by rw [← hV, hv]; simp) (by simp; omega) (by simp; omega) Sn Bn
        ·
          refine g_iloadN d39_16 rfl (pc' := 17) rfl ?_
          refine g_aloadN d39_17 rfl rfl (pc' := 18) rfl ?_
          refine g_virt (W := 1) (argsL := []) (rest := [(.int (Int32.ofNat i))]) d39_18 (w_58 hw) (w_59 hw) (nf_self (w_61 hw)) (w_61 hw) (w_60 hw) (by decide) (lenOf pd_9 rfl) Sx.1 (c_len hw x t cs z _ hC hz Sx) (w_62 hw) (w_17 hw) (by decide) (by decide) (fun _ q => nomatch q) rfl (Nat.le_of_eq rfl) rfl (by decide) (by decide) (pc' := 21) rfl ?_
          intro w1 h1 q1 Kc1
          obtain ⟨rfl, rfl⟩ := q1
          refine g_icmp_ge_f d39_21 (ofNat_lt (i := i) (n := cs.length) (by omega) (by omega)).2.1 (pc' := 24) rfl ?_
          refine g_iloadN d39_24 rfl (pc' := 25) rfl ?_
          refine g_if_ne_f d39_25 rfl (pc' := 28) rfl ?_
          refine g_aloadN d39_28 rfl rfl (pc' := 29) rfl ?_
          refine g_iloadN d39_29 rfl (pc' := 30) rfl ?_
          refine g_virt (W := 0) (argsL := [(.int (Int32.ofNat i))]) (rest := []) d39_30 (w_68 hw) (w_69 hw) (nf_self (w_71 hw)) (w_71 hw) (w_70 hw) (by decide) (lenOf pd_20 rfl) Sx.1 (c_charat hw x t cs i 92 z sf _ hC hz hF rsf Sx hi2) (w_72 hw) (w_17 hw) (by decide) (by decide) (fun _ q => nomatch q) rfl (Nat.le_of_eq rfl) rfl (by decide) (by decide) (pc' := 33) rfl ?_
          intro w2 h2 q2 Kc2
          obtain ⟨rfl, rfl⟩ := q2
          refine g_istore d39_33 (L' := #[.val (.ref x), .val (.ref b), .val (.int (Int32.ofNat i)), .val (.int 0), .val (.int 92), s5]) (st_any rfl hs4 rfl rfl) (pc' := 35) rfl ?_
          refine g_iinc d39_35 (v := 1) rfl rfl (y := (Int32.ofNat (i + 1))) (ofNat_succ (by omega)) (L' := #[.val (.ref x), .val (.ref b), .val (.int (Int32.ofNat (i + 1))), .val (.int 0), .val (.int 92), s5]) rfl (pc' := 38) rfl ?_
          refine g_iload d39_38 rfl (pc' := 40) rfl ?_
          refine g_bipush d39_40 (v := 34) rfl (pc' := 42) rfl ?_
          refine g_icmp_ne_t d39_42 (by decide) (pc' := 50) (by decide) rfl ?_
          refine g_iload d39_50 rfl (pc' := 52) rfl ?_
          refine g_bipush d39_52 (v := 92) rfl (pc' := 54) rfl ?_
          refine g_icmp_ne_f d39_54 rfl (pc' := 57) rfl ?_
          refine g_iloadN d39_57 rfl (pc' := 58) rfl ?_
          refine g_aloadN d39_58 rfl rfl (pc' := 59) rfl ?_
          refine g_virt (W := 1) (argsL := []) (rest := [(.int (Int32.ofNat (i + 1)))]) d39_59 (w_58 hw) (w_59 hw) (nf_self (w_61 hw)) (w_61 hw) (w_60 hw) (by decide) (lenOf pd_9 rfl) Sx.1 (c_len hw x t cs z _ hC hz Sx) (w_62 hw) (w_17 hw) (by decide) (by decide) (fun _ q => nomatch q) rfl (Nat.le_of_eq rfl) rfl (by decide) (by decide) (pc' := 62) rfl ?_
          intro w3 h3 q3 Kc3
          obtain ⟨rfl, rfl⟩ := q3
          refine g_icmp_ge_f d39_62 (ofNat_lt (i := i + 1) (n := cs.length) (by omega) (by omega)).2.1 (pc' := 65) rfl ?_
          refine g_aloadN d39_65 rfl rfl (pc' := 66) rfl ?_
          refine g_iloadN d39_66 rfl (pc' := 67) rfl ?_
          refine g_virt (W := 0) (argsL := [(.int (Int32.ofNat (i + 1)))]) (rest := []) d39_67 (w_68 hw) (w_69 hw) (nf_self (w_71 hw)) (w_71 hw) (w_70 hw) (by decide) (lenOf pd_20 rfl) Sx.1 (c_charat hw x t cs (i + 1) 92 z sf _ hC hz hF rsf Sx hj2) (w_72 hw) (w_17 hw) (by decide) (by decide) (fun _ q => nomatch q) rfl (Nat.le_of_eq rfl) rfl (by decide) (by decide) (pc' := 70) rfl ?_
          intro w4 h4 q4 Kc4
          obtain ⟨rfl, rfl⟩ := q4
          refine g_goto d39_70 (pc' := 74) (by decide) rfl ?_
          refine g_istore d39_74 (L' := #[.val (.ref x), .val (.ref b), .val (.int (Int32.ofNat (i + 1))), .val (.int 0), .val (.int 92), .val (.int 92)]) (st_any rfl hs5 rfl rfl) (pc' := 76) rfl ?_
          refine g_iload d39_76 rfl (pc' := 78) rfl ?_
          refine g_bipush d39_78 (v := 34) rfl (pc' := 80) rfl ?_
          refine g_icmp_eq_f d39_80 (by decide) (pc' := 83) rfl ?_
          refine g_iload d39_83 rfl (pc' := 85) rfl ?_
          refine g_bipush d39_85 (v := 92) rfl (pc' := 87) rfl ?_
          refine g_icmp_eq_t d39_87 rfl (pc' := 100) (by decide) rfl ?_
          refine g_aloadN d39_100 rfl rfl (pc' := 101) rfl ?_
          refine g_iload d39_101 rfl (pc' := 103) rfl ?_
          refine g_virt (W := 0) (argsL := [(.int 92)]) (rest := []) d39_103 (w_188 hw) (w_189 hw) (nf_self (w_191 hw)) (w_191 hw) (w_190 hw) (by decide) (lenOf pd_22 rfl) Bx.1 (c_sbapp hw b tb acc m' 92 z _ hC hz Bx hbt (by decide)) (w_192 hw) (w_172 hw) (by decide) (by decide) (allS ⟨Or.inr sz_b, List.mem_of_getElem? (i := 1) rfl⟩ (allS ⟨Or.inr hzt, List.mem_of_getElem? (i := 0) rfl⟩ all0)) rfl (Nat.le_of_eq rfl) rfl (by decide) (by decide) (pc' := 106) rfl ?_
          intro w5 h5 q5 Kc5
          obtain ⟨rfl, Bn⟩ := q5
          have Sn := Sx.keep Kc5 (ninS hxb (ninS hxt nin0)) (ninS htb' (ninS htt nin0))
          refine g_pop d39_106 rfl (pc' := 107) rfl ?_
          refine g_iinc d39_107 (v := 1) rfl rfl (y := (Int32.ofNat (i + 2))) (ofNat_succ (by omega)) (L' := #[.val (.ref x), .val (.ref b), .val (.int (Int32.ofNat (i + 2))), .val (.int 0), .val (.int 92), .val (.int 92)]) rfl (pc' := 110) rfl ?_
          refine g_goto d39_110 (pc' := 138) (by decide) rfl ?_
          refine g_goto d39_138 (pc' := 16) (by decide) rfl ?_
          exact ih (i + 2) _ (acc ++ [92]) V' m' _ _ (One.val rfl) (One.val rfl) (by omega) (by rw [hj3]; exact hu') (by rw [← hV, hv]; simp) (by simp; omega) (by simp; omega) Sn Bn
      · obtain ⟨hi, hi2, hi3⟩ := drop_at hl
        obtain ⟨m', rfl⟩ : ∃ m', m = m' + 1 := ⟨m - 1, by omega⟩
        refine g_iloadN d39_16 rfl (pc' := 17) rfl ?_
        refine g_aloadN d39_17 rfl rfl (pc' := 18) rfl ?_
        refine g_virt (W := 1) (argsL := []) (rest := [(.int (Int32.ofNat i))]) d39_18 (w_58 hw) (w_59 hw) (nf_self (w_61 hw)) (w_61 hw) (w_60 hw) (by decide) (lenOf pd_9 rfl) Sx.1 (c_len hw x t cs z _ hC hz Sx) (w_62 hw) (w_17 hw) (by decide) (by decide) (fun _ q => nomatch q) rfl (Nat.le_of_eq rfl) rfl (by decide) (by decide) (pc' := 21) rfl ?_
        intro w1 h1 q1 Kc1
        obtain ⟨rfl, rfl⟩ := q1
        refine g_icmp_ge_f d39_21 (ofNat_lt (i := i) (n := cs.length) (by omega) (by omega)).2.1 (pc' := 24) rfl ?_
        refine g_iloadN d39_24 rfl (pc' := 25) rfl ?_
        refine g_if_ne_f d39_25 rfl (pc' := 28) rfl ?_
        refine g_aloadN d39_28 rfl rfl (pc' := 29) rfl ?_
        refine g_iloadN d39_29 rfl (pc' := 30) rfl ?_
        refine g_virt (W := 0) (argsL := [(.int (Int32.ofNat i))]) (rest := []) d39_30 (w_68 hw) (w_69 hw) (nf_self (w_71 hw)) (w_71 hw) (w_70 hw) (by decide) (lenOf pd_20 rfl) Sx.1 (c_charat hw x t cs i a z sf _ hC hz hF rsf Sx hi2) (w_72 hw) (w_17 hw) (by decide) (by decide) (fun _ q => nomatch q) rfl (Nat.le_of_eq rfl) rfl (by decide) (by decide) (pc' := 33) rfl ?_
        intro w2 h2 q2 Kc2
        obtain ⟨rfl, rfl⟩ := q2
        refine g_istore d39_33 (L' := #[.val (.ref x), .val (.ref b), .val (.int (Int32.ofNat i)), .val (.int 0), .val (.int a), s5]) (st_any rfl hs4 rfl rfl) (pc' := 35) rfl ?_
        refine g_iinc d39_35 (v := 1) rfl rfl (y := (Int32.ofNat (i + 1))) (ofNat_succ (by omega)) (L' := #[.val (.ref x), .val (.ref b), .val (.int (Int32.ofNat (i + 1))), .val (.int 0), .val (.int a), s5]) rfl (pc' := 38) rfl ?_
        refine g_iload d39_38 rfl (pc' := 40) rfl ?_
        refine g_bipush d39_40 (v := 34) rfl (pc' := 42) rfl ?_
        refine g_icmp_ne_t d39_42 (i32_ne (by rw [i32_34]; exact hg.2.2.1)) (pc' := 50) (by decide) rfl ?_
        refine g_iload d39_50 rfl (pc' := 52) rfl ?_
        refine g_bipush d39_52 (v := 92) rfl (pc' := 54) rfl ?_
        refine g_icmp_ne_t d39_54 (i32_ne (by rw [i32_92]; exact hg.2.2.2)) (pc' := 113) (by decide) rfl ?_
        refine g_iload d39_113 rfl (pc' := 115) rfl ?_
        refine g_static (W := 0) (argsL := [(.int a)]) (rest := []) d39_115 (w_138 hw) (w_139 hw) (by decide) (lenOf pd_13 rfl) (c_prt hw a _ hg.a) (w_140 hw) (w_46 hw) (by decide) (by decide) (fun _ q => nomatch q) rfl (Nat.le_of_eq rfl) rfl (by decide) (by decide) (pc' := 118) rfl ?_
        intro w3 h3 q3 Kc3
        obtain ⟨rfl, rfl⟩ := q3
        refine g_if_ne_t d39_118 (by decide) (pc' := 131) (by decide) rfl ?_
        refine g_aloadN d39_131 rfl rfl (pc' := 132) rfl ?_
        refine g_iload d39_132 rfl (pc' := 134) rfl ?_
        refine g_virt (W := 0) (argsL := [(.int a)]) (rest := []) d39_134 (w_188 hw) (w_189 hw) (nf_self (w_191 hw)) (w_191 hw) (w_190 hw) (by decide) (lenOf pd_22 rfl) Bx.1 (c_sbapp hw b tb acc m' a z _ hC hz Bx hbt (gA_b hg.a)) (w_192 hw) (w_172 hw) (by decide) (by decide) (allS ⟨Or.inr sz_b, List.mem_of_getElem? (i := 1) rfl⟩ (allS ⟨Or.inr hzt, List.mem_of_getElem? (i := 0) rfl⟩ all0)) rfl (Nat.le_of_eq rfl) rfl (by decide) (by decide) (pc' := 137) rfl ?_
        intro w4 h4 q4 Kc4
        obtain ⟨rfl, Bn⟩ := q4
        have Sn := Sx.keep Kc4 (ninS hxb (ninS hxt nin0)) (ninS htb' (ninS htt nin0))
        refine g_pop d39_137 rfl (pc' := 138) rfl ?_
        refine g_goto d39_138 (pc' := 16) (by decide) rfl ?_
        exact ih (i + 1) _ (acc ++ [a]) V' m' _ _ (One.val rfl) hs5 (by omega) (by rw [hi3]; exact hu') (by rw [← hV, hv]; simp) (by simp; omega) (by simp; omega) Sn Bn
  refine go_add (a := tb) rfl Bb.2.2.2.2.1.lt ?_
  exact lp cs.length 1 _ [] V cs.length _ _ One.u One.u (by omega) (by rw [hcs]; exact hU) rfl (by simp) (by simp) Sx0 Bb
theorem ef_c_parseB (m : MethodId) (x0 : Addr)  : entryFrame m #[(.ref x0)] 3 = mkF m 0 #[.val (.ref x0), .unset, .unset] [] := by first | (simp [entryFrame, mkF, argsToLocals, Value.category]; done) | rfl
set_option maxRecDepth 65536 in
set_option maxHeartbeats 40000000 in
theorem c_parseB {l : Launch} {Z : State} {n0 : Nat} {a0 : Array Value} (hw : Hw a0 Z) (x t : Addr) (cs V : List Int32) (z : Int32) (sf : Value) (h0 : Heap) (hC : Sta Z Z.heap "java/lang/String" "COMPACT_STRINGS" "Z" (.int z)) (hz : ¬ z = 0) (hF : Sta Z Z.heap "jdk/internal/util/Preconditions" "SIOOBE_FORMATTER" "Ljava/util/function/BiFunction;" sf) (rsf : sf.isRef = true) (S : St Z h0 x t cs) (h16 : cs.length ≤ 16) (hpos : 0 < V.length) (hV16 : V.length ≤ 16) (htl : trimL cs = V) (hB : ∀ c ∈ V, gB c) :
    Con l Z n0 ELs (⟨"com/example/anemone/anemone/IdempotencyKey", "parse", "(Ljava/lang/String;)Lcom/example/anemone/anemone/IdempotencyKey;"⟩ : MethodName) prog_8_method_2_code 3 (some (.object "com/example/anemone/anemone/IdempotencyKey")) [] ({ frames := 6, cells := 5, slots := 49, locals := 160 } : Room) #[(.ref x)] h0 [] false (fun w h => ∃ r v tv, w = .ref r ∧ Exa Z h r "com/example/anemone/anemone/IdempotencyKey" ∧ Fld Z h r "com/example/anemone/anemone/IdempotencyKey" "value" "Ljava/lang/String;" (.ref v) ∧ St Z h v tv V) := by
  refine con_of (plainFor_of_name pn_8) (fun mt => ef_c_parseB mt x ) ?_
  intro K
  obtain ⟨fc, hfc⟩ : ∃ fc, V[0]? = some fc := ⟨_, List.getElem?_eq_getElem hpos⟩
  have hgf := hB _ (List.mem_of_getElem? hfc)
  have hf34 : ¬ fc = 34 := i32_ne (by rw [i32_34]; exact hgf.2.2.1)
  refine g_aloadN d11_0 rfl rfl (pc' := 1) rfl ?_
  refine g_ldcO (m := 20) d11_1 (w_48 hw) (hSA hw) (by decide) (by decide) (by decide) (by decide) (pc' := 3) rfl ?_
  intro lt h1 Kl1
  refine g_static (W := 0) (argsL := [(.ref x), (.ref lt)]) (rest := []) d11_3 (w_51 hw) (w_52 hw) (by decide) (lenOf pd_23 rfl) (c_rnn hw x _ _) (w_54 hw) (w_53 hw) (by decide) (by decide) (fun _ q => nomatch q) rfl (Nat.le_of_eq rfl) rfl (by decide) (by decide) (pc' := 6) rfl ?_
  intro w2 h2 q2 Kc2
  obtain ⟨rfl, rfl⟩ := q2
  refine g_pop d11_6 rfl (pc' := 7) rfl ?_
  refine g_aloadN d11_7 rfl rfl (pc' := 8) rfl ?_
  refine g_static (W := 0) (argsL := [(.ref x)]) (rest := []) d11_8 (w_55 hw) (w_56 hw) (by decide) (lenOf pd_24 rfl) (c_trim hw x t cs z sf _ hC hz hF rsf (S.keep0 Kl1) h16 (by rw [htl]; exact hpos)) (w_57 hw) (w_46 hw) (by decide) (by decide) (fun _ q => nomatch q) rfl (Nat.le_of_eq rfl) rfl (by decide) (by decide) (pc' := 11) rfl ?_
  intro w3 h3 q3 Kc3
  obtain ⟨xt, tt, rfl, St1⟩ := q3
  rw [htl] at St1
  refine g_astoreN d11_11 rfl (L' := #[.val (.ref x), .val (.ref xt), .unset]) rfl (pc' := 12) rfl ?_
  refine g_aloadN d11_12 rfl rfl (pc' := 13) rfl ?_
  refine g_virt (W := 0) (argsL := []) (rest := []) d11_13 (w_130 hw) (w_131 hw) (nf_self (w_133 hw)) (w_133 hw) (w_132 hw) (by decide) (lenOf pd_3 rfl) St1.1 (c_empty hw xt tt _ _ St1 hpos) (w_134 hw) (w_17 hw) (by decide) (by decide) (fun _ q => nomatch q) rfl (Nat.le_of_eq rfl) rfl (by decide) (by decide) (pc' := 16) rfl ?_
  intro w4 h4 q4 Kc4
  obtain ⟨rfl, rfl⟩ := q4
  refine g_if_ne_f d11_16 rfl (pc' := 19) rfl ?_
  refine g_aloadN d11_19 rfl rfl (pc' := 20) rfl ?_
  refine g_iconst d11_20 (v := 0) rfl (pc' := 21) rfl ?_
  refine g_virt (W := 0) (argsL := [(.int 0)]) (rest := []) d11_21 (w_68 hw) (w_69 hw) (nf_self (w_71 hw)) (w_71 hw) (w_70 hw) (by decide) (lenOf pd_20 rfl) St1.1 (c_charat hw xt tt _ 0 fc z sf _ hC hz hF rsf St1 hfc) (w_72 hw) (w_17 hw) (by decide) (by decide) (fun _ q => nomatch q) rfl (Nat.le_of_eq rfl) rfl (by decide) (by decide) (pc' := 24) rfl ?_
  intro w5 h5 q5 Kc5
  obtain ⟨rfl, rfl⟩ := q5
  refine g_bipush d11_24 (v := 34) rfl (pc' := 26) rfl ?_
  refine g_icmp_ne_t d11_26 hf34 (pc' := 37) (by decide) rfl ?_
  refine g_aloadN d11_37 rfl rfl (pc' := 38) rfl ?_
  refine g_staticN (W := 0) (argsL := [(.ref xt)]) (rest := []) d11_38 (w_135 hw) (w_136 hw) (by decide) (lenOf pd_25 rfl) (c_bare hw xt tt _ z sf _ hC hz hF rsf St1 hB) (w_137 hw) (w_46 hw) (by decide) (by decide) (fun _ q => nomatch q) rfl (Nat.le_of_eq rfl) rfl (by decide) (by decide) (pc' := 41) rfl ?_
  intro w6 h6 q6 Kc6
  obtain rfl := q6
  refine g_aloadN d11_41 rfl rfl (pc' := 42) rfl ?_
  refine g_astoreN d11_42 rfl (L' := #[.val (.ref x), .val (.ref xt), .val (.ref xt)]) rfl (pc' := 43) rfl ?_
  refine g_aloadN d11_43 rfl rfl (pc' := 44) rfl ?_
  refine g_virt (W := 0) (argsL := []) (rest := []) d11_44 (w_130 hw) (w_131 hw) (nf_self (w_133 hw)) (w_133 hw) (w_132 hw) (by decide) (lenOf pd_3 rfl) St1.1 (c_empty hw xt tt _ _ St1 hpos) (w_134 hw) (w_17 hw) (by decide) (by decide) (fun _ q => nomatch q) rfl (Nat.le_of_eq rfl) rfl (by decide) (by decide) (pc' := 47) rfl ?_
  intro w7 h7 q7 Kc7
  obtain ⟨rfl, rfl⟩ := q7
  refine g_if_ne_f d11_47 rfl (pc' := 50) rfl ?_
  refine g_aloadN d11_50 rfl rfl (pc' := 51) rfl ?_
  refine g_virt (W := 0) (argsL := []) (rest := []) d11_51 (w_58 hw) (w_59 hw) (nf_self (w_61 hw)) (w_61 hw) (w_60 hw) (by decide) (lenOf pd_9 rfl) St1.1 (c_len hw xt tt _ z _ hC hz St1) (w_62 hw) (w_17 hw) (by decide) (by decide) (fun _ q => nomatch q) rfl (Nat.le_of_eq rfl) rfl (by decide) (by decide) (pc' := 54) rfl ?_
  intro w8 h8 q8 Kc8
  obtain ⟨rfl, rfl⟩ := q8
  refine g_sipush d11_54 (v := 255) rfl (pc' := 57) rfl ?_
  refine g_icmp_le_t d11_57 (ofNat_le (b := 255) (by omega) (by omega)).2 (pc' := 70) (by decide) rfl ?_
  refine g_new d11_70 (w_141 hw) (w_142 hw) (w_46 hw) (by decide) (by decide) (pc' := 73) rfl ?_
  intro r h9 g9 Kn9 E_r D9 sz_r
  have F_value_r : Fld Z h9 r "com/example/anemone/anemone/IdempotencyKey" "value" "Ljava/lang/String;" .null := D9 (Or.inr (w_153 hw)) (ty := (.object "java/lang/String")) (by decide)
  refine g_dup d11_73 rfl (pc' := 74) rfl ?_
  refine g_aloadN d11_74 rfl rfl (pc' := 75) rfl ?_
  refine g_init (W := 1) (argsL := [(.ref xt)]) (rest := [(.ref r)]) d11_75 rfl (w_143 hw) (w_144 hw) (by decide) (lenOf pd_25 rfl) (c_key hw r xt _ _ E_r F_value_r) (w_145 hw) (w_46 hw) (by decide) (by decide) (allS ⟨(Or.inr sz_r), (List.mem_of_getElem? (i := 0) rfl)⟩ all0) rfl (Nat.le_of_eq rfl) rfl (by decide) (by decide) (pc' := 78) rfl ?_
  intro w10 h10 q10 Kc10
  obtain ⟨Er, Fr⟩ := q10
  exact g_areturn d11_78 rfl rfl rfl ⟨r, xt, tt, rfl, Er, Fr, ((St1.keep0 Kn9).keep Kc10 (ninS (Nat.ne_of_lt (Nat.lt_of_lt_of_le (St1).lt (Nat.le_of_eq g9.symm))) nin0) (ninS (Nat.ne_of_lt (Nat.lt_of_lt_of_le (St1).2.2.2.1.lt (Nat.le_of_eq g9.symm))) nin0))⟩ (by decide) (by decide)
theorem ef_c_parseQ (m : MethodId) (x0 : Addr)  : entryFrame m #[(.ref x0)] 3 = mkF m 0 #[.val (.ref x0), .unset, .unset] [] := by first | (simp [entryFrame, mkF, argsToLocals, Value.category]; done) | rfl
set_option maxRecDepth 65536 in
set_option maxHeartbeats 40000000 in
theorem c_parseQ {l : Launch} {Z : State} {n0 : Nat} {a0 : Array Value} (hw : Hw a0 Z) (x t : Addr) (cs mid V : List Int32) (z : Int32) (sf : Value) (h0 : Heap) (hC : Sta Z Z.heap "java/lang/String" "COMPACT_STRINGS" "Z" (.int z)) (hz : ¬ z = 0) (hF : Sta Z Z.heap "jdk/internal/util/Preconditions" "SIOOBE_FORMATTER" "Ljava/util/function/BiFunction;" sf) (rsf : sf.isRef = true) (S : St Z h0 x t cs) (h16 : cs.length ≤ 16) (hpos : 0 < V.length) (hV16 : V.length ≤ 16) (htl : trimL cs = 34 :: mid) (hm16 : mid.length + 1 ≤ 16) (hU : UQ mid V) :
    Con l Z n0 ELs (⟨"com/example/anemone/anemone/IdempotencyKey", "parse", "(Ljava/lang/String;)Lcom/example/anemone/anemone/IdempotencyKey;"⟩ : MethodName) prog_8_method_2_code 3 (some (.object "com/example/anemone/anemone/IdempotencyKey")) [] ({ frames := 7, cells := 9, slots := 93, locals := 190 } : Room) #[(.ref x)] h0 [] false (fun w h => ∃ r v tv, w = .ref r ∧ Exa Z h r "com/example/anemone/anemone/IdempotencyKey" ∧ Fld Z h r "com/example/anemone/anemone/IdempotencyKey" "value" "Ljava/lang/String;" (.ref v) ∧ St Z h v tv V) := by
  refine con_of (plainFor_of_name pn_8) (fun mt => ef_c_parseQ mt x ) ?_
  intro K
  refine g_aloadN d11_0 rfl rfl (pc' := 1) rfl ?_
  refine g_ldcO (m := 20) d11_1 (w_48 hw) (hSA hw) (by decide) (by decide) (by decide) (by decide) (pc' := 3) rfl ?_
  intro lt h1 Kl1
  refine g_static (W := 0) (argsL := [(.ref x), (.ref lt)]) (rest := []) d11_3 (w_51 hw) (w_52 hw) (by decide) (lenOf pd_23 rfl) (c_rnn hw x _ _) (w_54 hw) (w_53 hw) (by decide) (by decide) (fun _ q => nomatch q) rfl (Nat.le_of_eq rfl) rfl (by decide) (by decide) (pc' := 6) rfl ?_
  intro w2 h2 q2 Kc2
  obtain ⟨rfl, rfl⟩ := q2
  refine g_pop d11_6 rfl (pc' := 7) rfl ?_
  refine g_aloadN d11_7 rfl rfl (pc' := 8) rfl ?_
  refine g_static (W := 0) (argsL := [(.ref x)]) (rest := []) d11_8 (w_55 hw) (w_56 hw) (by decide) (lenOf pd_24 rfl) (c_trim hw x t cs z sf _ hC hz hF rsf (S.keep0 Kl1) h16 (by rw [htl]; simp)) (w_57 hw) (w_46 hw) (by decide) (by decide) (fun _ q => nomatch q) rfl (Nat.le_of_eq rfl) rfl (by decide) (by decide) (pc' := 11) rfl ?_
  intro w3 h3 q3 Kc3
  obtain ⟨xt, tt, rfl, St1⟩ := q3
  rw [htl] at St1
  refine g_astoreN d11_11 rfl (L' := #[.val (.ref x), .val (.ref xt), .unset]) rfl (pc' := 12) rfl ?_
  refine g_aloadN d11_12 rfl rfl (pc' := 13) rfl ?_
  refine g_virt (W := 0) (argsL := []) (rest := []) d11_13 (w_130 hw) (w_131 hw) (nf_self (w_133 hw)) (w_133 hw) (w_132 hw) (by decide) (lenOf pd_3 rfl) St1.1 (c_empty hw xt tt _ _ St1 (by simp)) (w_134 hw) (w_17 hw) (by decide) (by decide) (fun _ q => nomatch q) rfl (Nat.le_of_eq rfl) rfl (by decide) (by decide) (pc' := 16) rfl ?_
  intro w4 h4 q4 Kc4
  obtain ⟨rfl, rfl⟩ := q4
  refine g_if_ne_f d11_16 rfl (pc' := 19) rfl ?_
  refine g_aloadN d11_19 rfl rfl (pc' := 20) rfl ?_
  refine g_iconst d11_20 (v := 0) rfl (pc' := 21) rfl ?_
  refine g_virt (W := 0) (argsL := [(.int 0)]) (rest := []) d11_21 (w_68 hw) (w_69 hw) (nf_self (w_71 hw)) (w_71 hw) (w_70 hw) (by decide) (lenOf pd_20 rfl) St1.1 (c_charat hw xt tt _ 0 34 z sf _ hC hz hF rsf St1 rfl) (w_72 hw) (w_17 hw) (by decide) (by decide) (fun _ q => nomatch q) rfl (Nat.le_of_eq rfl) rfl (by decide) (by decide) (pc' := 24) rfl ?_
  intro w5 h5 q5 Kc5
  obtain ⟨rfl, rfl⟩ := q5
  refine g_bipush d11_24 (v := 34) rfl (pc' := 26) rfl ?_
  refine g_icmp_ne_f d11_26 rfl (pc' := 29) rfl ?_
  refine g_aloadN d11_29 rfl rfl (pc' := 30) rfl ?_
  refine g_static (W := 0) (argsL := [(.ref xt)]) (rest := []) d11_30 (w_167 hw) (w_168 hw) (by decide) (lenOf pd_24 rfl) (c_unq hw xt tt _ mid V z sf _ hC hz hF rsf St1 (by simpa using hm16) rfl hU) (w_169 hw) (w_46 hw) (by decide) (by decide) (fun _ q => nomatch q) rfl (Nat.le_of_eq rfl) rfl (by decide) (by decide) (pc' := 33) rfl ?_
  intro w6 h6 q6 Kc6
  obtain ⟨xv, tv, rfl, Sv⟩ := q6
  refine g_astoreN d11_33 rfl (L' := #[.val (.ref x), .val (.ref xt), .val (.ref xv)]) rfl (pc' := 34) rfl ?_
  refine g_goto d11_34 (pc' := 43) (by decide) rfl ?_
  refine g_aloadN d11_43 rfl rfl (pc' := 44) rfl ?_
  refine g_virt (W := 0) (argsL := []) (rest := []) d11_44 (w_130 hw) (w_131 hw) (nf_self (w_133 hw)) (w_133 hw) (w_132 hw) (by decide) (lenOf pd_3 rfl) Sv.1 (c_empty hw xv tv _ _ Sv hpos) (w_134 hw) (w_17 hw) (by decide) (by decide) (fun _ q => nomatch q) rfl (Nat.le_of_eq rfl) rfl (by decide) (by decide) (pc' := 47) rfl ?_
  intro w7 h7 q7 Kc7
  obtain ⟨rfl, rfl⟩ := q7
  refine g_if_ne_f d11_47 rfl (pc' := 50) rfl ?_
  refine g_aloadN d11_50 rfl rfl (pc' := 51) rfl ?_
  refine g_virt (W := 0) (argsL := []) (rest := []) d11_51 (w_58 hw) (w_59 hw) (nf_self (w_61 hw)) (w_61 hw) (w_60 hw) (by decide) (lenOf pd_9 rfl) Sv.1 (c_len hw xv tv _ z _ hC hz Sv) (w_62 hw) (w_17 hw) (by decide) (by decide) (fun _ q => nomatch q) rfl (Nat.le_of_eq rfl) rfl (by decide) (by decide) (pc' := 54) rfl ?_
  intro w8 h8 q8 Kc8
  obtain ⟨rfl, rfl⟩ := q8
  refine g_sipush d11_54 (v := 255) rfl (pc' := 57) rfl ?_
  refine g_icmp_le_t d11_57 (ofNat_le (b := 255) (by omega) (by omega)).2 (pc' := 70) (by decide) rfl ?_
  refine g_new d11_70 (w_141 hw) (w_142 hw) (w_46 hw) (by decide) (by decide) (pc' := 73) rfl ?_
  intro r h9 g9 Kn9 E_r D9 sz_r
  have F_value_r : Fld Z h9 r "com/example/anemone/anemone/IdempotencyKey" "value" "Ljava/lang/String;" .null := D9 (Or.inr (w_153 hw)) (ty := (.object "java/lang/String")) (by decide)
  refine g_dup d11_73 rfl (pc' := 74) rfl ?_
  refine g_aloadN d11_74 rfl rfl (pc' := 75) rfl ?_
  refine g_init (W := 1) (argsL := [(.ref xv)]) (rest := [(.ref r)]) d11_75 rfl (w_143 hw) (w_144 hw) (by decide) (lenOf pd_25 rfl) (c_key hw r xv _ _ E_r F_value_r) (w_145 hw) (w_46 hw) (by decide) (by decide) (allS ⟨(Or.inr sz_r), (List.mem_of_getElem? (i := 0) rfl)⟩ all0) rfl (Nat.le_of_eq rfl) rfl (by decide) (by decide) (pc' := 78) rfl ?_
  intro w10 h10 q10 Kc10
  obtain ⟨Er, Fr⟩ := q10
  exact g_areturn d11_78 rfl rfl rfl ⟨r, xv, tv, rfl, Er, Fr, ((Sv.keep0 Kn9).keep Kc10 (ninS (Nat.ne_of_lt (Nat.lt_of_lt_of_le (Sv).lt (Nat.le_of_eq g9.symm))) nin0) (ninS (Nat.ne_of_lt (Nat.lt_of_lt_of_le (Sv).2.2.2.1.lt (Nat.le_of_eq g9.symm))) nin0))⟩ (by decide) (by decide)
theorem ef_c_byte (m : MethodId) (x0 : Int32) (x1 : Int32) (x2 : Int32)  : entryFrame m #[(.int x0), (.int x1), (.int x2)] 4 = mkF m 0 #[.val (.int x0), .val (.int x1), .val (.int x2), .unset] [] := by first | (simp [entryFrame, mkF, argsToLocals, Value.category]; done) | rfl
set_option maxRecDepth 65536 in
set_option maxHeartbeats 40000000 in
theorem c_byte {l : Launch} {Z : State} {n0 : Nat} {a0 : Array Value} (hw : Hw a0 Z) (a b i : Int32) (h0 : Heap)  :
    Con l Z n0 ELs (⟨"com/example/anemone/anemone/IdempotencyKeyParsePinLaw", "byteAt", "(III)I"⟩ : MethodName) method_5_code 4 (some .int) [] ({ frames := 0, cells := 0, slots := 0, locals := 0 } : Room) #[(.int a), (.int b), (.int i)] h0 [] false (fun w h => ∃ v, w = .int v ∧ (0 ≤ v.toInt ∧ v.toInt ≤ 255) ∧ h0 = h) := by
  refine con_of (plainFor_of_name pn_10) (fun mt => ef_c_byte mt a b i ) ?_
  intro K
  by_cases q : i < 4
  ·
    refine g_iloadN d3_0 rfl (pc' := 1) rfl ?_
    refine g_iconst d3_1 (v := 4) rfl (pc' := 2) rfl ?_
    refine g_icmp_ge_f d3_2 q (pc' := 5) rfl ?_
    refine g_iloadN d3_5 rfl (pc' := 6) rfl ?_
    refine g_goto d3_6 (pc' := 10) (by decide) rfl ?_
    refine g_istoreN d3_10 (L' := #[.val (.int a), .val (.int b), .val (.int i), .val (.int a)]) rfl (pc' := 11) rfl ?_
    refine g_iloadN d3_11 rfl (pc' := 12) rfl ?_
    refine g_iloadN d3_12 rfl (pc' := 13) rfl ?_
    refine g_iconst d3_13 (v := 3) rfl (pc' := 14) rfl ?_
    refine g_iand d3_14 rfl (pc' := 15) rfl ?_
    refine g_bipush d3_15 (v := 8) rfl (pc' := 17) rfl ?_
    refine g_imul d3_17 rfl (pc' := 18) rfl ?_
    refine g_iushr d3_18 rfl (pc' := 19) rfl ?_
    refine g_sipush d3_19 (v := 255) rfl (pc' := 22) rfl ?_
    refine g_iand d3_22 rfl (pc' := 23) rfl ?_
    exact g_ireturn d3_23 rfl ⟨_, rfl, msk _, rfl⟩ (by decide) (by decide)
  ·
    refine g_iloadN d3_0 rfl (pc' := 1) rfl ?_
    refine g_iconst d3_1 (v := 4) rfl (pc' := 2) rfl ?_
    refine g_icmp_ge_t d3_2 q (pc' := 9) (by decide) rfl ?_
    refine g_iloadN d3_9 rfl (pc' := 10) rfl ?_
    refine g_istoreN d3_10 (L' := #[.val (.int a), .val (.int b), .val (.int i), .val (.int b)]) rfl (pc' := 11) rfl ?_
    refine g_iloadN d3_11 rfl (pc' := 12) rfl ?_
    refine g_iloadN d3_12 rfl (pc' := 13) rfl ?_
    refine g_iconst d3_13 (v := 3) rfl (pc' := 14) rfl ?_
    refine g_iand d3_14 rfl (pc' := 15) rfl ?_
    refine g_bipush d3_15 (v := 8) rfl (pc' := 17) rfl ?_
    refine g_imul d3_17 rfl (pc' := 18) rfl ?_
    refine g_iushr d3_18 rfl (pc' := 19) rfl ?_
    refine g_sipush d3_19 (v := 255) rfl (pc' := 22) rfl ?_
    refine g_iand d3_22 rfl (pc' := 23) rfl ?_
    exact g_ireturn d3_23 rfl ⟨_, rfl, msk _, rfl⟩ (by decide) (by decide)
theorem ef_c_bchar (m : MethodId) (x0 : Int32)  : entryFrame m #[(.int x0)] 2 = mkF m 0 #[.val (.int x0), .unset] [] := by first | (simp [entryFrame, mkF, argsToLocals, Value.category]; done) | rfl
set_option maxRecDepth 65536 in
set_option maxHeartbeats 40000000 in
theorem c_bchar {l : Launch} {Z : State} {n0 : Nat} {a0 : Array Value} (hw : Hw a0 Z) (v : Int32) (h0 : Heap) (hv : 0 ≤ v.toInt ∧ v.toInt ≤ 255) :
    Con l Z n0 ELs (⟨"com/example/anemone/anemone/IdempotencyKeyParsePinLaw", "bareChar", "(I)C"⟩ : MethodName) method_6_code 2 (some .char) [] ({ frames := 0, cells := 0, slots := 0, locals := 0 } : Room) #[(.int v)] h0 [] false (fun w h => ∃ d, w = .int d ∧ gB d ∧ h0 = h) := by
  refine con_of (plainFor_of_name pn_10) (fun mt => ef_c_bchar mt v ) ?_
  intro K
  obtain ⟨c0, hc0⟩ : ∃ x, (33 : Int32) + v % 91 = x := ⟨_, rfl⟩
  have r0 := mod_in (K := 91) (B := 33) hv (by decide) (by decide) (by decide) (by decide) ((c_irem v 91 91 (by decide)).1 hv.1) hc0
  refine g_bipush d4_0 (v := 33) rfl (pc' := 2) rfl ?_
  refine g_iloadN d4_2 rfl (pc' := 3) rfl ?_
  refine g_bipush d4_3 (v := 91) rfl (pc' := 5) rfl ?_
  refine g_irem d4_5 (by decide) rfl (pc' := 6) rfl ?_
  refine g_iadd d4_6 (v := c0) hc0 (pc' := 7) rfl ?_
  refine g_istoreN d4_7 (L' := #[.val (.int v), .val (.int c0)]) rfl (pc' := 8) rfl ?_
  refine g_iloadN d4_8 rfl (pc' := 9) rfl ?_
  refine g_bipush d4_9 (v := 34) rfl (pc' := 11) rfl ?_

  by_cases q0 : c0 < 34
  · have s0 := q0; rw [Int32.lt_iff_toInt_lt, show (34 : Int32).toInt = 34 from by decide] at s0
    refine g_icmp_lt_t d4_11 q0 (pc' := 17) (by decide) rfl ?_
    refine g_iloadN d4_17 rfl (pc' := 18) rfl ?_
    refine g_bipush d4_18 (v := 44) rfl (pc' := 20) rfl ?_
    by_cases q1 : c0 < 44
    · have s1 := q1; rw [Int32.lt_iff_toInt_lt, show (44 : Int32).toInt = 44 from by decide] at s1
      refine g_icmp_lt_t d4_20 q1 (pc' := 26) (by decide) rfl ?_
      refine g_iloadN d4_26 rfl (pc' := 27) rfl ?_
      refine g_bipush d4_27 (v := 92) rfl (pc' := 29) rfl ?_
      by_cases q2 : c0 < 92
      · have s2 := q2; rw [Int32.lt_iff_toInt_lt, show (92 : Int32).toInt = 92 from by decide] at s2
        refine g_icmp_lt_t d4_29 q2 (pc' := 35) (by decide) rfl ?_
        have hg : gB c0 := ⟨by omega, by omega, by omega, by omega, by omega⟩
        refine g_iloadN d4_35 rfl (pc' := 36) rfl ?_
        refine g_i2c d4_36 (v := c0) (lo8 c0 (gA_b hg.a)).2.2 (pc' := 37) rfl ?_
        exact g_ireturnN d4_37 rfl (by simp) (lo8 c0 (gA_b hg.a)).2.1 ⟨c0, rfl, hg, rfl⟩ (by decide) (by decide)
      · have s2 := q2; rw [Int32.lt_iff_toInt_lt, show (92 : Int32).toInt = 92 from by decide] at s2
        obtain ⟨c3, hc3⟩ : ∃ x, c0 + 1 = x := ⟨_, rfl⟩
        have t2 := inc1 hc3 (by omega) (by omega)
        refine g_icmp_lt_f d4_29 q2 (pc' := 32) rfl ?_
        refine g_iinc d4_32 (v := 1) rfl rfl (y := c3) hc3 (L' := #[.val (.int v), .val (.int c3)]) rfl (pc' := 35) rfl ?_
        have hg : gB c3 := ⟨by omega, by omega, by omega, by omega, by omega⟩
        refine g_iloadN d4_35 rfl (pc' := 36) rfl ?_
        refine g_i2c d4_36 (v := c3) (lo8 c3 (gA_b hg.a)).2.2 (pc' := 37) rfl ?_
        exact g_ireturnN d4_37 rfl (by simp) (lo8 c3 (gA_b hg.a)).2.1 ⟨c3, rfl, hg, rfl⟩ (by decide) (by decide)
    · have s1 := q1; rw [Int32.lt_iff_toInt_lt, show (44 : Int32).toInt = 44 from by decide] at s1
      obtain ⟨c2, hc2⟩ : ∃ x, c0 + 1 = x := ⟨_, rfl⟩
      have t1 := inc1 hc2 (by omega) (by omega)
      refine g_icmp_lt_f d4_20 q1 (pc' := 23) rfl ?_
      refine g_iinc d4_23 (v := 1) rfl rfl (y := c2) hc2 (L' := #[.val (.int v), .val (.int c2)]) rfl (pc' := 26) rfl ?_
      refine g_iloadN d4_26 rfl (pc' := 27) rfl ?_
      refine g_bipush d4_27 (v := 92) rfl (pc' := 29) rfl ?_
      by_cases q2 : c2 < 92
      · have s2 := q2; rw [Int32.lt_iff_toInt_lt, show (92 : Int32).toInt = 92 from by decide] at s2
        refine g_icmp_lt_t d4_29 q2 (pc' := 35) (by decide) rfl ?_
        have hg : gB c2 := ⟨by omega, by omega, by omega, by omega, by omega⟩
        refine g_iloadN d4_35 rfl (pc' := 36) rfl ?_
        refine g_i2c d4_36 (v := c2) (lo8 c2 (gA_b hg.a)).2.2 (pc' := 37) rfl ?_
        exact g_ireturnN d4_37 rfl (by simp) (lo8 c2 (gA_b hg.a)).2.1 ⟨c2, rfl, hg, rfl⟩ (by decide) (by decide)
      · have s2 := q2; rw [Int32.lt_iff_toInt_lt, show (92 : Int32).toInt = 92 from by decide] at s2
        obtain ⟨c3, hc3⟩ : ∃ x, c2 + 1 = x := ⟨_, rfl⟩
        have t2 := inc1 hc3 (by omega) (by omega)
        refine g_icmp_lt_f d4_29 q2 (pc' := 32) rfl ?_
        refine g_iinc d4_32 (v := 1) rfl rfl (y := c3) hc3 (L' := #[.val (.int v), .val (.int c3)]) rfl (pc' := 35) rfl ?_
        have hg : gB c3 := ⟨by omega, by omega, by omega, by omega, by omega⟩
        refine g_iloadN d4_35 rfl (pc' := 36) rfl ?_
        refine g_i2c d4_36 (v := c3) (lo8 c3 (gA_b hg.a)).2.2 (pc' := 37) rfl ?_
        exact g_ireturnN d4_37 rfl (by simp) (lo8 c3 (gA_b hg.a)).2.1 ⟨c3, rfl, hg, rfl⟩ (by decide) (by decide)
  · have s0 := q0; rw [Int32.lt_iff_toInt_lt, show (34 : Int32).toInt = 34 from by decide] at s0
    obtain ⟨c1, hc1⟩ : ∃ x, c0 + 1 = x := ⟨_, rfl⟩
    have t0 := inc1 hc1 (by omega) (by omega)
    refine g_icmp_lt_f d4_11 q0 (pc' := 14) rfl ?_
    refine g_iinc d4_14 (v := 1) rfl rfl (y := c1) hc1 (L' := #[.val (.int v), .val (.int c1)]) rfl (pc' := 17) rfl ?_
    refine g_iloadN d4_17 rfl (pc' := 18) rfl ?_
    refine g_bipush d4_18 (v := 44) rfl (pc' := 20) rfl ?_
    by_cases q1 : c1 < 44
    · have s1 := q1; rw [Int32.lt_iff_toInt_lt, show (44 : Int32).toInt = 44 from by decide] at s1
      refine g_icmp_lt_t d4_20 q1 (pc' := 26) (by decide) rfl ?_
      refine g_iloadN d4_26 rfl (pc' := 27) rfl ?_
      refine g_bipush d4_27 (v := 92) rfl (pc' := 29) rfl ?_
      by_cases q2 : c1 < 92
      · have s2 := q2; rw [Int32.lt_iff_toInt_lt, show (92 : Int32).toInt = 92 from by decide] at s2
        refine g_icmp_lt_t d4_29 q2 (pc' := 35) (by decide) rfl ?_
        have hg : gB c1 := ⟨by omega, by omega, by omega, by omega, by omega⟩
        refine g_iloadN d4_35 rfl (pc' := 36) rfl ?_
        refine g_i2c d4_36 (v := c1) (lo8 c1 (gA_b hg.a)).2.2 (pc' := 37) rfl ?_
        exact g_ireturnN d4_37 rfl (by simp) (lo8 c1 (gA_b hg.a)).2.1 ⟨c1, rfl, hg, rfl⟩ (by decide) (by decide)
      · have s2 := q2; rw [Int32.lt_iff_toInt_lt, show (92 : Int32).toInt = 92 from by decide] at s2
        obtain ⟨c3, hc3⟩ : ∃ x, c1 + 1 = x := ⟨_, rfl⟩
        have t2 := inc1 hc3 (by omega) (by omega)
        refine g_icmp_lt_f d4_29 q2 (pc' := 32) rfl ?_
        refine g_iinc d4_32 (v := 1) rfl rfl (y := c3) hc3 (L' := #[.val (.int v), .val (.int c3)]) rfl (pc' := 35) rfl ?_
        have hg : gB c3 := ⟨by omega, by omega, by omega, by omega, by omega⟩
        refine g_iloadN d4_35 rfl (pc' := 36) rfl ?_
        refine g_i2c d4_36 (v := c3) (lo8 c3 (gA_b hg.a)).2.2 (pc' := 37) rfl ?_
        exact g_ireturnN d4_37 rfl (by simp) (lo8 c3 (gA_b hg.a)).2.1 ⟨c3, rfl, hg, rfl⟩ (by decide) (by decide)
    · have s1 := q1; rw [Int32.lt_iff_toInt_lt, show (44 : Int32).toInt = 44 from by decide] at s1
      obtain ⟨c2, hc2⟩ : ∃ x, c1 + 1 = x := ⟨_, rfl⟩
      have t1 := inc1 hc2 (by omega) (by omega)
      refine g_icmp_lt_f d4_20 q1 (pc' := 23) rfl ?_
      refine g_iinc d4_23 (v := 1) rfl rfl (y := c2) hc2 (L' := #[.val (.int v), .val (.int c2)]) rfl (pc' := 26) rfl ?_
      refine g_iloadN d4_26 rfl (pc' := 27) rfl ?_
      refine g_bipush d4_27 (v := 92) rfl (pc' := 29) rfl ?_
      by_cases q2 : c2 < 92
      · have s2 := q2; rw [Int32.lt_iff_toInt_lt, show (92 : Int32).toInt = 92 from by decide] at s2
        refine g_icmp_lt_t d4_29 q2 (pc' := 35) (by decide) rfl ?_
        have hg : gB c2 := ⟨by omega, by omega, by omega, by omega, by omega⟩
        refine g_iloadN d4_35 rfl (pc' := 36) rfl ?_
        refine g_i2c d4_36 (v := c2) (lo8 c2 (gA_b hg.a)).2.2 (pc' := 37) rfl ?_
        exact g_ireturnN d4_37 rfl (by simp) (lo8 c2 (gA_b hg.a)).2.1 ⟨c2, rfl, hg, rfl⟩ (by decide) (by decide)
      · have s2 := q2; rw [Int32.lt_iff_toInt_lt, show (92 : Int32).toInt = 92 from by decide] at s2
        obtain ⟨c3, hc3⟩ : ∃ x, c2 + 1 = x := ⟨_, rfl⟩
        have t2 := inc1 hc3 (by omega) (by omega)
        refine g_icmp_lt_f d4_29 q2 (pc' := 32) rfl ?_
        refine g_iinc d4_32 (v := 1) rfl rfl (y := c3) hc3 (L' := #[.val (.int v), .val (.int c3)]) rfl (pc' := 35) rfl ?_
        have hg : gB c3 := ⟨by omega, by omega, by omega, by omega, by omega⟩
        refine g_iloadN d4_35 rfl (pc' := 36) rfl ?_
        refine g_i2c d4_36 (v := c3) (lo8 c3 (gA_b hg.a)).2.2 (pc' := 37) rfl ?_
        exact g_ireturnN d4_37 rfl (by simp) (lo8 c3 (gA_b hg.a)).2.1 ⟨c3, rfl, hg, rfl⟩ (by decide) (by decide)
theorem ef_c_pchar (m : MethodId) (x0 : Int32)  : entryFrame m #[(.int x0)] 2 = mkF m 0 #[.val (.int x0), .unset] [] := by first | (simp [entryFrame, mkF, argsToLocals, Value.category]; done) | rfl
set_option maxRecDepth 65536 in
set_option maxHeartbeats 40000000 in
theorem c_pchar {l : Launch} {Z : State} {n0 : Nat} {a0 : Array Value} (hw : Hw a0 Z) (v : Int32) (h0 : Heap) (hv : 0 ≤ v.toInt ∧ v.toInt ≤ 255) :
    Con l Z n0 ELs (⟨"com/example/anemone/anemone/IdempotencyKeyParsePinLaw", "plainQuotedChar", "(I)C"⟩ : MethodName) method_7_code 2 (some .char) [] ({ frames := 0, cells := 0, slots := 0, locals := 0 } : Room) #[(.int v)] h0 [] false (fun w h => ∃ d, w = .int d ∧ gP d ∧ h0 = h) := by
  refine con_of (plainFor_of_name pn_10) (fun mt => ef_c_pchar mt v ) ?_
  intro K
  obtain ⟨c0, hc0⟩ : ∃ x, (32 : Int32) + v % 93 = x := ⟨_, rfl⟩
  have r0 := mod_in (K := 93) (B := 32) hv (by decide) (by decide) (by decide) (by decide) ((c_irem v 93 93 (by decide)).1 hv.1) hc0
  refine g_bipush d53_0 (v := 32) rfl (pc' := 2) rfl ?_
  refine g_iloadN d53_2 rfl (pc' := 3) rfl ?_
  refine g_bipush d53_3 (v := 93) rfl (pc' := 5) rfl ?_
  refine g_irem d53_5 (by decide) rfl (pc' := 6) rfl ?_
  refine g_iadd d53_6 (v := c0) hc0 (pc' := 7) rfl ?_
  refine g_istoreN d53_7 (L' := #[.val (.int v), .val (.int c0)]) rfl (pc' := 8) rfl ?_
  refine g_iloadN d53_8 rfl (pc' := 9) rfl ?_
  refine g_bipush d53_9 (v := 34) rfl (pc' := 11) rfl ?_

  by_cases q0 : c0 < 34
  · have s0 := q0; rw [Int32.lt_iff_toInt_lt, show (34 : Int32).toInt = 34 from by decide] at s0
    refine g_icmp_lt_t d53_11 q0 (pc' := 17) (by decide) rfl ?_
    refine g_iloadN d53_17 rfl (pc' := 18) rfl ?_
    refine g_bipush d53_18 (v := 92) rfl (pc' := 20) rfl ?_
    by_cases q1 : c0 < 92
    · have s1 := q1; rw [Int32.lt_iff_toInt_lt, show (92 : Int32).toInt = 92 from by decide] at s1
      refine g_icmp_lt_t d53_20 q1 (pc' := 26) (by decide) rfl ?_
      have hg : gP c0 := ⟨by omega, by omega, by omega, by omega⟩
      refine g_iloadN d53_26 rfl (pc' := 27) rfl ?_
      refine g_i2c d53_27 (v := c0) (lo8 c0 (gA_b hg.a)).2.2 (pc' := 28) rfl ?_
      exact g_ireturnN d53_28 rfl (by simp) (lo8 c0 (gA_b hg.a)).2.1 ⟨c0, rfl, hg, rfl⟩ (by decide) (by decide)
    · have s1 := q1; rw [Int32.lt_iff_toInt_lt, show (92 : Int32).toInt = 92 from by decide] at s1
      obtain ⟨c2, hc2⟩ : ∃ x, c0 + 1 = x := ⟨_, rfl⟩
      have t1 := inc1 hc2 (by omega) (by omega)
      refine g_icmp_lt_f d53_20 q1 (pc' := 23) rfl ?_
      refine g_iinc d53_23 (v := 1) rfl rfl (y := c2) hc2 (L' := #[.val (.int v), .val (.int c2)]) rfl (pc' := 26) rfl ?_
      have hg : gP c2 := ⟨by omega, by omega, by omega, by omega⟩
      refine g_iloadN d53_26 rfl (pc' := 27) rfl ?_
      refine g_i2c d53_27 (v := c2) (lo8 c2 (gA_b hg.a)).2.2 (pc' := 28) rfl ?_
      exact g_ireturnN d53_28 rfl (by simp) (lo8 c2 (gA_b hg.a)).2.1 ⟨c2, rfl, hg, rfl⟩ (by decide) (by decide)
  · have s0 := q0; rw [Int32.lt_iff_toInt_lt, show (34 : Int32).toInt = 34 from by decide] at s0
    obtain ⟨c1, hc1⟩ : ∃ x, c0 + 1 = x := ⟨_, rfl⟩
    have t0 := inc1 hc1 (by omega) (by omega)
    refine g_icmp_lt_f d53_11 q0 (pc' := 14) rfl ?_
    refine g_iinc d53_14 (v := 1) rfl rfl (y := c1) hc1 (L' := #[.val (.int v), .val (.int c1)]) rfl (pc' := 17) rfl ?_
    refine g_iloadN d53_17 rfl (pc' := 18) rfl ?_
    refine g_bipush d53_18 (v := 92) rfl (pc' := 20) rfl ?_
    by_cases q1 : c1 < 92
    · have s1 := q1; rw [Int32.lt_iff_toInt_lt, show (92 : Int32).toInt = 92 from by decide] at s1
      refine g_icmp_lt_t d53_20 q1 (pc' := 26) (by decide) rfl ?_
      have hg : gP c1 := ⟨by omega, by omega, by omega, by omega⟩
      refine g_iloadN d53_26 rfl (pc' := 27) rfl ?_
      refine g_i2c d53_27 (v := c1) (lo8 c1 (gA_b hg.a)).2.2 (pc' := 28) rfl ?_
      exact g_ireturnN d53_28 rfl (by simp) (lo8 c1 (gA_b hg.a)).2.1 ⟨c1, rfl, hg, rfl⟩ (by decide) (by decide)
    · have s1 := q1; rw [Int32.lt_iff_toInt_lt, show (92 : Int32).toInt = 92 from by decide] at s1
      obtain ⟨c2, hc2⟩ : ∃ x, c1 + 1 = x := ⟨_, rfl⟩
      have t1 := inc1 hc2 (by omega) (by omega)
      refine g_icmp_lt_f d53_20 q1 (pc' := 23) rfl ?_
      refine g_iinc d53_23 (v := 1) rfl rfl (y := c2) hc2 (L' := #[.val (.int v), .val (.int c2)]) rfl (pc' := 26) rfl ?_
      have hg : gP c2 := ⟨by omega, by omega, by omega, by omega⟩
      refine g_iloadN d53_26 rfl (pc' := 27) rfl ?_
      refine g_i2c d53_27 (v := c2) (lo8 c2 (gA_b hg.a)).2.2 (pc' := 28) rfl ?_
      exact g_ireturnN d53_28 rfl (by simp) (lo8 c2 (gA_b hg.a)).2.1 ⟨c2, rfl, hg, rfl⟩ (by decide) (by decide)
theorem ef_c_fill (m : MethodId) (x0 : Addr) (x1 : Int32) (x2 : Int32)  : entryFrame m #[(.ref x0), (.int x1), (.int x2)] 3 = mkF m 0 #[.val (.ref x0), .val (.int x1), .val (.int x2)] [] := by first | (simp [entryFrame, mkF, argsToLocals, Value.category]; done) | rfl
set_option maxRecDepth 65536 in
set_option maxHeartbeats 40000000 in
theorem c_fill {l : Launch} {Z : State} {n0 : Nat} {a0 : Array Value} (hw : Hw a0 Z) (f : Addr) (F : List Int32) (mk : Int32) (i : Nat) (h0 : Heap) (A : Ia Z h0 f .char F) (hi : i < 100) :
    Con l Z n0 ELs (⟨"com/example/anemone/anemone/IdempotencyKeyParsePinLaw", "fillWs", "([CII)V"⟩ : MethodName) method_4_code 3 none [] ({ frames := 0, cells := 0, slots := 0, locals := 0 } : Room) #[(.ref f), (.int mk), (.int (Int32.ofNat i))] h0 [f] false (fun w h => ∃ d, isW d = true ∧ Ia Z h f .char (F.set i d)) := by
  refine con_of (plainFor_of_name pn_10) (fun mt => ef_c_fill mt f mk ((Int32.ofNat i)) ) ?_
  intro K
  have hsh := A.short
  refine g_iloadN d1_0 rfl (pc' := 1) rfl ?_
  refine g_aloadN d1_1 rfl rfl (pc' := 2) rfl ?_
  refine g_alen d1_2 A (x := (Int32.ofNat F.length)) rfl (pc' := 3) rfl ?_
  by_cases q : i < F.length
  ·
    refine g_icmp_ge_f d1_3 (ofNat_lt q (by omega)).2.1 (pc' := 6) rfl ?_
    refine g_aloadN d1_6 rfl rfl (pc' := 7) rfl ?_
    refine g_iloadN d1_7 rfl (pc' := 8) rfl ?_
    refine g_iloadN d1_8 rfl (pc' := 9) rfl ?_
    refine g_iloadN d1_9 rfl (pc' := 10) rfl ?_
    refine g_iushr d1_10 rfl (pc' := 11) rfl ?_
    refine g_iconst d1_11 (v := 1) rfl (pc' := 12) rfl ?_
    refine g_iand d1_12 rfl (pc' := 13) rfl ?_
    by_cases r : ((mk.toUInt32 >>> ((Int32.ofNat i) &&& 31).toUInt32).toInt32) &&& 1 = 0
    ·
      refine g_if_ne_f d1_13 r (pc' := 16) rfl ?_
      refine g_bipush d1_16 (v := 32) rfl (pc' := 18) rfl ?_
      refine g_goto d1_18 (pc' := 23) (by decide) rfl ?_
      refine g_castore d1_23 A (ofNat_lt q (by omega)).1 (nat_i32 (by omega)) q (Or.inl (List.mem_of_getElem? (i := 0) rfl)) (List.mem_of_getElem? (i := 0) rfl) (pc' := 24) rfl ?_
      intro h1 Kw1 A_f_1
      replace A_f_1 : Ia Z h1 f .char (F.set i 32) := (by rw [show nar .char 32 = 32 from by decide] at A_f_1; exact A_f_1)
      exact g_return d1_24 rfl ⟨32, by decide, A_f_1⟩ (by decide) (by decide)
    ·
      refine g_if_ne_t d1_13 r (pc' := 21) (by decide) rfl ?_
      refine g_bipush d1_21 (v := 9) rfl (pc' := 23) rfl ?_
      refine g_castore d1_23 A (ofNat_lt q (by omega)).1 (nat_i32 (by omega)) q (Or.inl (List.mem_of_getElem? (i := 0) rfl)) (List.mem_of_getElem? (i := 0) rfl) (pc' := 24) rfl ?_
      intro h2 Kw2 A_f_2
      replace A_f_2 : Ia Z h2 f .char (F.set i 9) := (by rw [show nar .char 9 = 9 from by decide] at A_f_2; exact A_f_2)
      exact g_return d1_24 rfl ⟨9, by decide, A_f_2⟩ (by decide) (by decide)
  ·
    refine g_icmp_ge_t d1_3 (by rw [Int32.lt_iff_toInt_lt, ofNat_toInt (by omega), ofNat_toInt (by omega)]; omega) (pc' := 24) (by decide) rfl ?_
    exact g_return d1_24 rfl ⟨32, by decide, by rw [List.set_eq_of_length_le (by omega)]; exact A⟩ (by decide) (by decide)
theorem ef_c_bstep (m : MethodId) (x0 : Addr) (x1 : Addr) (x2 : Addr) (x3 : Int32) (x4 : Int32) (x5 : Int32) (x6 : Int32) (x7 : Int32)  : entryFrame m #[(.ref x0), (.ref x1), (.ref x2), (.int x3), (.int x4), (.int x5), (.int x6), (.int x7)] 9 = mkF m 0 #[.val (.ref x0), .val (.ref x1), .val (.ref x2), .val (.int x3), .val (.int x4), .val (.int x5), .val (.int x6), .val (.int x7), .unset] [] := by first | (simp [entryFrame, mkF, argsToLocals, Value.category]; done) | rfl
set_option maxRecDepth 65536 in
set_option maxHeartbeats 40000000 in
theorem c_bstep {l : Launch} {Z : State} {n0 : Nat} {a0 : Array Value} (hw : Hw a0 Z) (f e s : Addr) (F E : List Int32) (kn j n ld : Nat) (a b : Int32) (h0 : Heap) (Af : Ia Z h0 f .char F) (Ae : Ia Z h0 e .char E) (As : Ia Z h0 s .int [(Int32.ofNat kn), 0]) (nfe : f ≠ e) (nfs : f ≠ s) (nes : e ≠ s) (I : IB n ld j F E kn) (hj : j < 7) (hn : ld + n ≤ 7) :
    Con l Z n0 ELs (⟨"com/example/anemone/anemone/IdempotencyKeyParsePinLaw", "bareStep", "([C[C[IIIIII)V"⟩ : MethodName) method_8_code 9 none [] ({ frames := 1, cells := 0, slots := 0, locals := 20 } : Room) #[(.ref f), (.ref e), (.ref s), (.int (Int32.ofNat j)), (.int (Int32.ofNat n)), (.int (Int32.ofNat ld)), (.int a), (.int b)] h0 [f, e, s] false (fun w h => ∃ F' E' K', IB n ld (j + 1) F' E' K' ∧ Ia Z h f .char F' ∧ Ia Z h e .char E' ∧ Ia Z h s .int [Int32.ofNat K', 0]) := by
  refine con_of (plainFor_of_name pn_10) (fun mt => ef_c_bstep mt f e s ((Int32.ofNat j)) ((Int32.ofNat n)) ((Int32.ofNat ld)) a b ) ?_
  intro K
  obtain ⟨l1, l2, l3⟩ := I.lens
  refine g_iloadN d2_0 rfl (pc' := 1) rfl ?_
  refine g_iload d2_1 rfl (pc' := 3) rfl ?_
  by_cases q : j < n
  ·
    refine g_icmp_lt_t d2_3 (ofNat_lt q (by omega)).2.1 (pc' := 7) (by decide) rfl ?_
    refine g_iload d2_7 rfl (pc' := 9) rfl ?_
    refine g_iload d2_9 rfl (pc' := 11) rfl ?_
    refine g_iloadN d2_11 rfl (pc' := 12) rfl ?_
    refine g_static (W := 0) (argsL := [(.int a), (.int b), (.int (Int32.ofNat j))]) (rest := []) d2_12 (w_9 hw) (w_10 hw) (by decide) (lenOf pd_26 rfl) (c_byte hw a b _ _) (w_11 hw) (w_4 hw) (by decide) (by decide) (fun _ q => nomatch q) rfl (Nat.le_of_eq rfl) rfl (by decide) (by decide) (pc' := 15) rfl ?_
    intro w1 h1 q1 Kc1
    obtain ⟨v, rfl, hv, rfl⟩ := q1
    refine g_static (W := 0) (argsL := [(.int v)]) (rest := []) d2_15 (w_12 hw) (w_13 hw) (by decide) (lenOf pd_20 rfl) (c_bchar hw v _ hv) (w_14 hw) (w_4 hw) (by decide) (by decide) (fun _ q => nomatch q) rfl (Nat.le_of_eq rfl) rfl (by decide) (by decide) (pc' := 18) rfl ?_
    intro w2 h2 q2 Kc2
    obtain ⟨d, rfl, hg, rfl⟩ := q2
    refine g_istore d2_18 (L' := #[.val (.ref f), .val (.ref e), .val (.ref s), .val (.int (Int32.ofNat j)), .val (.int (Int32.ofNat n)), .val (.int (Int32.ofNat ld)), .val (.int a), .val (.int b), .val (.int d)]) rfl (pc' := 20) rfl ?_
    refine g_aloadN d2_20 rfl rfl (pc' := 21) rfl ?_
    refine g_iload d2_21 rfl (pc' := 23) rfl ?_
    refine g_iloadN d2_23 rfl (pc' := 24) rfl ?_
    refine g_iadd d2_24 (v := (Int32.ofNat (ld + j))) (ofNat_add (by omega)) (pc' := 25) rfl ?_
    refine g_iload d2_25 rfl (pc' := 27) rfl ?_
    refine g_castore d2_27 Af (ofNat_lt (n := 10) (show (ld + j) < 10 by omega) (by omega)).1 (nat_i32 (show (ld + j) < 2 ^ 31 by omega)) (by first | omega | (simp only [List.length_set]; omega)) (Or.inl (List.mem_of_getElem? (i := 0) rfl)) (List.mem_of_getElem? (i := 0) rfl) (pc' := 28) rfl ?_
    intro h3 Kw3 A_f_3
    replace A_f_3 : Ia Z h3 f .char (F.set (ld + j) d) := (by rw [(lo8 d (gA_b hg.a)).2.1] at A_f_3; exact A_f_3)
    refine g_aloadN d2_28 rfl rfl (pc' := 29) rfl ?_
    refine g_aloadN d2_29 rfl rfl (pc' := 30) rfl ?_
    refine g_iconst d2_30 (v := 0) rfl (pc' := 31) rfl ?_
    refine g_iaload d2_31 (As.keep Kw3 (ninS nfs.symm nin0)) (by decide) (i := 0) rfl rfl (pc' := 32) rfl ?_
    refine g_iload d2_32 rfl (pc' := 34) rfl ?_
    refine g_castore d2_34 (Ae.keep Kw3 (ninS nfe.symm nin0)) (ofNat_lt (n := 10) (show kn < 10 by omega) (by omega)).1 (nat_i32 (show kn < 2 ^ 31 by omega)) (by first | omega | (simp only [List.length_set]; omega)) (Or.inl (List.mem_of_getElem? (i := 1) rfl)) (List.mem_of_getElem? (i := 1) rfl) (pc' := 35) rfl ?_
    intro h4 Kw4 A_e_4
    replace A_e_4 : Ia Z h4 e .char (E.set kn d) := (by rw [(lo8 d (gA_b hg.a)).2.1] at A_e_4; exact A_e_4)
    refine g_aloadN d2_35 rfl rfl (pc' := 36) rfl ?_
    refine g_iconst d2_36 (v := 0) rfl (pc' := 37) rfl ?_
    refine g_aloadN d2_37 rfl rfl (pc' := 38) rfl ?_
    refine g_iconst d2_38 (v := 0) rfl (pc' := 39) rfl ?_
    refine g_iaload d2_39 ((As.keep Kw3 (ninS nfs.symm nin0)).keep Kw4 (ninS nes.symm nin0)) (by decide) (i := 0) rfl rfl (pc' := 40) rfl ?_
    refine g_iconst d2_40 (v := 1) rfl (pc' := 41) rfl ?_
    refine g_iadd d2_41 (v := (Int32.ofNat (kn + 1))) (ofNat_succ (by omega)) (pc' := 42) rfl ?_
    refine g_iastore d2_42 ((As.keep Kw3 (ninS nfs.symm nin0)).keep Kw4 (ninS nes.symm nin0)) (by decide) (i := 0) rfl (Nat.le_of_ble_eq_true rfl) (Or.inl (List.mem_of_getElem? (i := 2) rfl)) (List.mem_of_getElem? (i := 2) rfl) (pc' := 43) rfl ?_
    intro h5 Kw5 A_s_5
    replace A_s_5 : Ia Z h5 s .int [(Int32.ofNat (kn + 1)), 0] := A_s_5
    exact g_return d2_43 rfl ⟨_, _, _, I.step q hn hg, ((A_f_3.keep Kw4 (ninS nfe nin0)).keep Kw5 (ninS nfs nin0)), (A_e_4.keep Kw5 (ninS nes nin0)), A_s_5⟩ (by decide) (by decide)
  ·
    refine g_icmp_lt_f d2_3 (by rw [Int32.lt_iff_toInt_lt, ofNat_toInt (by omega), ofNat_toInt (by omega)]; omega) (pc' := 6) rfl ?_
    exact g_return d2_6 rfl ⟨F, E, kn, I.skip (by omega), Af, Ae, As⟩ (by decide) (by decide)
theorem ef_c_qstep (m : MethodId) (x0 : Addr) (x1 : Addr) (x2 : Addr) (x3 : Int32) (x4 : Int32) (x5 : Int32) (x6 : Int32) (x7 : Int32) (x8 : Int32)  : entryFrame m #[(.ref x0), (.ref x1), (.ref x2), (.int x3), (.int x4), (.int x5), (.int x6), (.int x7), (.int x8)] 12 = mkF m 0 #[.val (.ref x0), .val (.ref x1), .val (.ref x2), .val (.int x3), .val (.int x4), .val (.int x5), .val (.int x6), .val (.int x7), .val (.int x8), .unset, .unset, .unset] [] := by first | (simp [entryFrame, mkF, argsToLocals, Value.category]; done) | rfl
set_option maxRecDepth 65536 in
set_option maxHeartbeats 40000000 in
theorem c_qstep {l : Launch} {Z : State} {n0 : Nat} {a0 : Array Value} (hw : Hw a0 Z) (f e s : Addr) (F E : List Int32) (kn j m ld : Nat) (x1 a b mk : Int32) (h0 : Heap) (Af : Ia Z h0 f .char F) (Ae : Ia Z h0 e .char E) (As : Ia Z h0 s .int [(Int32.ofNat kn), x1]) (nfe : f ≠ e) (nfs : f ≠ s) (nes : e ≠ s) (I : IQ m ld j F E kn x1) (hj : j < 7) :
    Con l Z n0 ELs (⟨"com/example/anemone/anemone/IdempotencyKeyParsePinLaw", "quotedStep", "([C[C[IIIIIII)V"⟩ : MethodName) method_9_code 12 none [] ({ frames := 1, cells := 0, slots := 0, locals := 20 } : Room) #[(.ref f), (.ref e), (.ref s), (.int (Int32.ofNat j)), (.int (Int32.ofNat m)), (.int (Int32.ofNat ld)), (.int a), (.int b), (.int mk)] h0 [f, e, s] false (fun w h => ∃ F' E' K' x1', IQ m ld (j + 1) F' E' K' x1' ∧ Ia Z h f .char F' ∧ Ia Z h e .char E' ∧ Ia Z h s .int [Int32.ofNat K', x1']) := by
  refine con_of (plainFor_of_name pn_10) (fun mt => ef_c_qstep mt f e s ((Int32.ofNat j)) ((Int32.ofNat m)) ((Int32.ofNat ld)) a b mk ) ?_
  intro K
  obtain ⟨l1, l2, l3, l4⟩ := I.lens
  refine g_iloadN d38_0 rfl (pc' := 1) rfl ?_
  refine g_iload d38_1 rfl (pc' := 3) rfl ?_
  by_cases q : j < m
  ·
    refine g_icmp_lt_t d38_3 (ofNat_lt q (by omega)).2.1 (pc' := 7) (by decide) rfl ?_
    refine g_iload d38_7 rfl (pc' := 9) rfl ?_
    refine g_iconst d38_9 (v := 1) rfl (pc' := 10) rfl ?_
    refine g_iadd d38_10 (v := (Int32.ofNat (ld + 1))) (ofNat_succ (by omega)) (pc' := 11) rfl ?_
    refine g_iloadN d38_11 rfl (pc' := 12) rfl ?_
    refine g_iadd d38_12 (v := (Int32.ofNat (ld + 1 + j))) (ofNat_add (by omega)) (pc' := 13) rfl ?_
    refine g_istore d38_13 (L' := #[.val (.ref f), .val (.ref e), .val (.ref s), .val (.int (Int32.ofNat j)), .val (.int (Int32.ofNat m)), .val (.int (Int32.ofNat ld)), .val (.int a), .val (.int b), .val (.int mk), .val (.int (Int32.ofNat (ld + 1 + j))), .unset, .unset]) rfl (pc' := 15) rfl ?_
    refine g_iload d38_15 rfl (pc' := 17) rfl ?_
    refine g_iload d38_17 rfl (pc' := 19) rfl ?_
    refine g_iloadN d38_19 rfl (pc' := 20) rfl ?_
    refine g_static (W := 0) (argsL := [(.int a), (.int b), (.int (Int32.ofNat j))]) (rest := []) d38_20 (w_9 hw) (w_10 hw) (by decide) (lenOf pd_26 rfl) (c_byte hw a b _ _) (w_11 hw) (w_4 hw) (by decide) (by decide) (fun _ q => nomatch q) rfl (Nat.le_of_eq rfl) rfl (by decide) (by decide) (pc' := 23) rfl ?_
    intro w1 h1 q1 Kc1
    obtain ⟨v, rfl, hv, rfl⟩ := q1
    refine g_istore d38_23 (L' := #[.val (.ref f), .val (.ref e), .val (.ref s), .val (.int (Int32.ofNat j)), .val (.int (Int32.ofNat m)), .val (.int (Int32.ofNat ld)), .val (.int a), .val (.int b), .val (.int mk), .val (.int (Int32.ofNat (ld + 1 + j))), .val (.int v), .unset]) rfl (pc' := 25) rfl ?_
    refine g_aloadN d38_25 rfl rfl (pc' := 26) rfl ?_
    refine g_iconst d38_26 (v := 1) rfl (pc' := 27) rfl ?_
    refine g_iaload d38_27 As (by decide) (i := 1) rfl rfl (pc' := 28) rfl ?_
    by_cases hx : x1 = 0
    ·
      refine g_if_eq_t d38_28 hx (pc' := 75) (by decide) rfl ?_
      refine g_iload d38_75 rfl (pc' := 77) rfl ?_
      refine g_bipush d38_77 (v := 16) rfl (pc' := 79) rfl ?_
      refine g_iloadN d38_79 rfl (pc' := 80) rfl ?_
      refine g_iadd d38_80 rfl (pc' := 81) rfl ?_
      refine g_iushr d38_81 rfl (pc' := 82) rfl ?_
      refine g_iconst d38_82 (v := 1) rfl (pc' := 83) rfl ?_
      refine g_iand d38_83 rfl (pc' := 84) rfl ?_
      by_cases r : ((mk.toUInt32 >>> ((16 + (Int32.ofNat j)) &&& 31).toUInt32).toInt32) &&& 1 = 0
      ·
        refine g_if_eq_t d38_84 r (pc' := 108) (by decide) rfl ?_
        refine g_iload d38_108 rfl (pc' := 110) rfl ?_
        refine g_static (W := 0) (argsL := [(.int v)]) (rest := []) d38_110 (w_240 hw) (w_241 hw) (by decide) (lenOf pd_20 rfl) (c_pchar hw v _ hv) (w_242 hw) (w_4 hw) (by decide) (by decide) (fun _ q => nomatch q) rfl (Nat.le_of_eq rfl) rfl (by decide) (by decide) (pc' := 113) rfl ?_
        intro w4 h4 q4 Kc4
        obtain ⟨d, rfl, hg, rfl⟩ := q4
        refine g_istore d38_113 (L' := #[.val (.ref f), .val (.ref e), .val (.ref s), .val (.int (Int32.ofNat j)), .val (.int (Int32.ofNat m)), .val (.int (Int32.ofNat ld)), .val (.int a), .val (.int b), .val (.int mk), .val (.int (Int32.ofNat (ld + 1 + j))), .val (.int v), .val (.int d)]) rfl (pc' := 115) rfl ?_
        refine g_aloadN d38_115 rfl rfl (pc' := 116) rfl ?_
        refine g_iload d38_116 rfl (pc' := 118) rfl ?_
        refine g_iload d38_118 rfl (pc' := 120) rfl ?_
        refine g_castore d38_120 Af (ofNat_lt (n := 10) (show (ld + 1 + j) < 10 by omega) (by omega)).1 (nat_i32 (show (ld + 1 + j) < 2 ^ 31 by omega)) (by first | omega | (simp only [List.length_set]; omega)) (Or.inl (List.mem_of_getElem? (i := 0) rfl)) (List.mem_of_getElem? (i := 0) rfl) (pc' := 121) rfl ?_
        intro h5 Kw5 A_f_5
        replace A_f_5 : Ia Z h5 f .char (F.set (ld + 1 + j) d) := (by rw [(lo8 d (gA_b hg.a)).2.1] at A_f_5; exact A_f_5)
        refine g_aloadN d38_121 rfl rfl (pc' := 122) rfl ?_
        refine g_aloadN d38_122 rfl rfl (pc' := 123) rfl ?_
        refine g_iconst d38_123 (v := 0) rfl (pc' := 124) rfl ?_
        refine g_iaload d38_124 (As.keep Kw5 (ninS nfs.symm nin0)) (by decide) (i := 0) rfl rfl (pc' := 125) rfl ?_
        refine g_iload d38_125 rfl (pc' := 127) rfl ?_
        refine g_castore d38_127 (Ae.keep Kw5 (ninS nfe.symm nin0)) (ofNat_lt (n := 10) (show kn < 10 by omega) (by omega)).1 (nat_i32 (show kn < 2 ^ 31 by omega)) (by first | omega | (simp only [List.length_set]; omega)) (Or.inl (List.mem_of_getElem? (i := 1) rfl)) (List.mem_of_getElem? (i := 1) rfl) (pc' := 128) rfl ?_
        intro h6 Kw6 A_e_6
        replace A_e_6 : Ia Z h6 e .char (E.set kn d) := (by rw [(lo8 d (gA_b hg.a)).2.1] at A_e_6; exact A_e_6)
        refine g_aloadN d38_128 rfl rfl (pc' := 129) rfl ?_
        refine g_iconst d38_129 (v := 0) rfl (pc' := 130) rfl ?_
        refine g_aloadN d38_130 rfl rfl (pc' := 131) rfl ?_
        refine g_iconst d38_131 (v := 0) rfl (pc' := 132) rfl ?_
        refine g_iaload d38_132 ((As.keep Kw5 (ninS nfs.symm nin0)).keep Kw6 (ninS nes.symm nin0)) (by decide) (i := 0) rfl rfl (pc' := 133) rfl ?_
        refine g_iconst d38_133 (v := 1) rfl (pc' := 134) rfl ?_
        refine g_iadd d38_134 (v := (Int32.ofNat (kn + 1))) (ofNat_succ (by omega)) (pc' := 135) rfl ?_
        refine g_iastore d38_135 ((As.keep Kw5 (ninS nfs.symm nin0)).keep Kw6 (ninS nes.symm nin0)) (by decide) (i := 0) rfl (Nat.le_of_ble_eq_true rfl) (Or.inl (List.mem_of_getElem? (i := 2) rfl)) (List.mem_of_getElem? (i := 2) rfl) (pc' := 136) rfl ?_
        intro h7 Kw7 A_s_7
        replace A_s_7 : Ia Z h7 s .int [(Int32.ofNat (kn + 1)), x1] := A_s_7
        subst hx
        exact g_return d38_136 rfl ⟨_, _, _, _, I.put q (Or.inr ⟨rfl, hg⟩), ((A_f_5.keep Kw6 (ninS nfe nin0)).keep Kw7 (ninS nfs nin0)), (A_e_6.keep Kw7 (ninS nes nin0)), A_s_7⟩ (by decide) (by decide)
      ·
        refine g_if_eq_f d38_84 r (pc' := 87) rfl ?_
        refine g_iloadN d38_87 rfl (pc' := 88) rfl ?_
        refine g_iconst d38_88 (v := 1) rfl (pc' := 89) rfl ?_
        refine g_iadd d38_89 (v := (Int32.ofNat (j + 1))) (ofNat_succ (by omega)) (pc' := 90) rfl ?_
        refine g_iload d38_90 rfl (pc' := 92) rfl ?_
        by_cases r2 : j + 1 < m
        ·
          refine g_icmp_ge_f d38_92 (ofNat_lt r2 (by omega)).2.1 (pc' := 95) rfl ?_
          refine g_aloadN d38_95 rfl rfl (pc' := 96) rfl ?_
          refine g_iload d38_96 rfl (pc' := 98) rfl ?_
          refine g_bipush d38_98 (v := 92) rfl (pc' := 100) rfl ?_
          refine g_castore d38_100 Af (ofNat_lt (n := 10) (show (ld + 1 + j) < 10 by omega) (by omega)).1 (nat_i32 (show (ld + 1 + j) < 2 ^ 31 by omega)) (by first | omega | (simp only [List.length_set]; omega)) (Or.inl (List.mem_of_getElem? (i := 0) rfl)) (List.mem_of_getElem? (i := 0) rfl) (pc' := 101) rfl ?_
          intro h2 Kw2 A_f_2
          replace A_f_2 : Ia Z h2 f .char (F.set (ld + 1 + j) 92) := (by rw [(lo8 92 (by decide)).2.1] at A_f_2; exact A_f_2)
          refine g_aloadN d38_101 rfl rfl (pc' := 102) rfl ?_
          refine g_iconst d38_102 (v := 1) rfl (pc' := 103) rfl ?_
          refine g_iconst d38_103 (v := 1) rfl (pc' := 104) rfl ?_
          refine g_iastore d38_104 (As.keep Kw2 (ninS nfs.symm nin0)) (by decide) (i := 1) rfl (Nat.le_of_ble_eq_true rfl) (Or.inl (List.mem_of_getElem? (i := 2) rfl)) (List.mem_of_getElem? (i := 2) rfl) (pc' := 105) rfl ?_
          intro h3 Kw3 A_s_3
          replace A_s_3 : Ia Z h3 s .int [(Int32.ofNat kn), 1] := A_s_3
          refine g_goto d38_105 (pc' := 136) (by decide) rfl ?_
          subst hx
          exact g_return d38_136 rfl ⟨_, _, _, _, I.open r2, (A_f_2.keep Kw3 (ninS nfs nin0)), ((Ae.keep Kw2 (ninS nfe.symm nin0)).keep Kw3 (ninS nes nin0)), A_s_3⟩ (by decide) (by decide)
        ·
          refine g_icmp_ge_t d38_92 (by rw [Int32.lt_iff_toInt_lt, ofNat_toInt (by omega), ofNat_toInt (by omega)]; omega) (pc' := 108) (by decide) rfl ?_
          refine g_iload d38_108 rfl (pc' := 110) rfl ?_
          refine g_static (W := 0) (argsL := [(.int v)]) (rest := []) d38_110 (w_240 hw) (w_241 hw) (by decide) (lenOf pd_20 rfl) (c_pchar hw v _ hv) (w_242 hw) (w_4 hw) (by decide) (by decide) (fun _ q => nomatch q) rfl (Nat.le_of_eq rfl) rfl (by decide) (by decide) (pc' := 113) rfl ?_
          intro w8 h8 q8 Kc8
          obtain ⟨d, rfl, hg, rfl⟩ := q8
          refine g_istore d38_113 (L' := #[.val (.ref f), .val (.ref e), .val (.ref s), .val (.int (Int32.ofNat j)), .val (.int (Int32.ofNat m)), .val (.int (Int32.ofNat ld)), .val (.int a), .val (.int b), .val (.int mk), .val (.int (Int32.ofNat (ld + 1 + j))), .val (.int v), .val (.int d)]) rfl (pc' := 115) rfl ?_
          refine g_aloadN d38_115 rfl rfl (pc' := 116) rfl ?_
          refine g_iload d38_116 rfl (pc' := 118) rfl ?_
          refine g_iload d38_118 rfl (pc' := 120) rfl ?_
          refine g_castore d38_120 Af (ofNat_lt (n := 10) (show (ld + 1 + j) < 10 by omega) (by omega)).1 (nat_i32 (show (ld + 1 + j) < 2 ^ 31 by omega)) (by first | omega | (simp only [List.length_set]; omega)) (Or.inl (List.mem_of_getElem? (i := 0) rfl)) (List.mem_of_getElem? (i := 0) rfl) (pc' := 121) rfl ?_
          intro h9 Kw9 A_f_9
          replace A_f_9 : Ia Z h9 f .char (F.set (ld + 1 + j) d) := (by rw [(lo8 d (gA_b hg.a)).2.1] at A_f_9; exact A_f_9)
          refine g_aloadN d38_121 rfl rfl (pc' := 122) rfl ?_
          refine g_aloadN d38_122 rfl rfl (pc' := 123) rfl ?_
          refine g_iconst d38_123 (v := 0) rfl (pc' := 124) rfl ?_
          refine g_iaload d38_124 (As.keep Kw9 (ninS nfs.symm nin0)) (by decide) (i := 0) rfl rfl (pc' := 125) rfl ?_
          refine g_iload d38_125 rfl (pc' := 127) rfl ?_
          refine g_castore d38_127 (Ae.keep Kw9 (ninS nfe.symm nin0)) (ofNat_lt (n := 10) (show kn < 10 by omega) (by omega)).1 (nat_i32 (show kn < 2 ^ 31 by omega)) (by first | omega | (simp only [List.length_set]; omega)) (Or.inl (List.mem_of_getElem? (i := 1) rfl)) (List.mem_of_getElem? (i := 1) rfl) (pc' := 128) rfl ?_
          intro h10 Kw10 A_e_10
          replace A_e_10 : Ia Z h10 e .char (E.set kn d) := (by rw [(lo8 d (gA_b hg.a)).2.1] at A_e_10; exact A_e_10)
          refine g_aloadN d38_128 rfl rfl (pc' := 129) rfl ?_
          refine g_iconst d38_129 (v := 0) rfl (pc' := 130) rfl ?_
          refine g_aloadN d38_130 rfl rfl (pc' := 131) rfl ?_
          refine g_iconst d38_131 (v := 0) rfl (pc' := 132) rfl ?_
          refine g_iaload d38_132 ((As.keep Kw9 (ninS nfs.symm nin0)).keep Kw10 (ninS nes.symm nin0)) (by decide) (i := 0) rfl rfl (pc' := 133) rfl ?_
          refine g_iconst d38_133 (v := 1) rfl (pc' := 134) rfl ?_
          refine g_iadd d38_134 (v := (Int32.ofNat (kn + 1))) (ofNat_succ (by omega)) (pc' := 135) rfl ?_
          refine g_iastore d38_135 ((As.keep Kw9 (ninS nfs.symm nin0)).keep Kw10 (ninS nes.symm nin0)) (by decide) (i := 0) rfl (Nat.le_of_ble_eq_true rfl) (Or.inl (List.mem_of_getElem? (i := 2) rfl)) (List.mem_of_getElem? (i := 2) rfl) (pc' := 136) rfl ?_
          intro h11 Kw11 A_s_11
          replace A_s_11 : Ia Z h11 s .int [(Int32.ofNat (kn + 1)), x1] := A_s_11
          subst hx
          exact g_return d38_136 rfl ⟨_, _, _, _, I.put q (Or.inr ⟨rfl, hg⟩), ((A_f_9.keep Kw10 (ninS nfe nin0)).keep Kw11 (ninS nfs nin0)), (A_e_10.keep Kw11 (ninS nes nin0)), A_s_11⟩ (by decide) (by decide)
    ·
      refine g_if_eq_f d38_28 hx (pc' := 31) rfl ?_
      refine g_iload d38_31 rfl (pc' := 33) rfl ?_
      refine g_iconst d38_33 (v := 1) rfl (pc' := 34) rfl ?_
      refine g_iand d38_34 rfl (pc' := 35) rfl ?_
      by_cases r : v &&& 1 = 0
      ·
        refine g_if_ne_f d38_35 r (pc' := 38) rfl ?_
        refine g_bipush d38_38 (v := 34) rfl (pc' := 40) rfl ?_
        refine g_goto d38_40 (pc' := 45) (by decide) rfl ?_
        refine g_istore d38_45 (L' := #[.val (.ref f), .val (.ref e), .val (.ref s), .val (.int (Int32.ofNat j)), .val (.int (Int32.ofNat m)), .val (.int (Int32.ofNat ld)), .val (.int a), .val (.int b), .val (.int mk), .val (.int (Int32.ofNat (ld + 1 + j))), .val (.int v), .val (.int 34)]) rfl (pc' := 47) rfl ?_
        refine g_aloadN d38_47 rfl rfl (pc' := 48) rfl ?_
        refine g_iload d38_48 rfl (pc' := 50) rfl ?_
        refine g_iload d38_50 rfl (pc' := 52) rfl ?_
        refine g_castore d38_52 Af (ofNat_lt (n := 10) (show (ld + 1 + j) < 10 by omega) (by omega)).1 (nat_i32 (show (ld + 1 + j) < 2 ^ 31 by omega)) (by first | omega | (simp only [List.length_set]; omega)) (Or.inl (List.mem_of_getElem? (i := 0) rfl)) (List.mem_of_getElem? (i := 0) rfl) (pc' := 53) rfl ?_
        intro h12 Kw12 A_f_12
        replace A_f_12 : Ia Z h12 f .char (F.set (ld + 1 + j) 34) := (by rw [(lo8 34 (by decide)).2.1] at A_f_12; exact A_f_12)
        refine g_aloadN d38_53 rfl rfl (pc' := 54) rfl ?_
        refine g_aloadN d38_54 rfl rfl (pc' := 55) rfl ?_
        refine g_iconst d38_55 (v := 0) rfl (pc' := 56) rfl ?_
        refine g_iaload d38_56 (As.keep Kw12 (ninS nfs.symm nin0)) (by decide) (i := 0) rfl rfl (pc' := 57) rfl ?_
        refine g_iload d38_57 rfl (pc' := 59) rfl ?_
        refine g_castore d38_59 (Ae.keep Kw12 (ninS nfe.symm nin0)) (ofNat_lt (n := 10) (show kn < 10 by omega) (by omega)).1 (nat_i32 (show kn < 2 ^ 31 by omega)) (by first | omega | (simp only [List.length_set]; omega)) (Or.inl (List.mem_of_getElem? (i := 1) rfl)) (List.mem_of_getElem? (i := 1) rfl) (pc' := 60) rfl ?_
        intro h13 Kw13 A_e_13
        replace A_e_13 : Ia Z h13 e .char (E.set kn 34) := (by rw [(lo8 34 (by decide)).2.1] at A_e_13; exact A_e_13)
        refine g_aloadN d38_60 rfl rfl (pc' := 61) rfl ?_
        refine g_iconst d38_61 (v := 0) rfl (pc' := 62) rfl ?_
        refine g_aloadN d38_62 rfl rfl (pc' := 63) rfl ?_
        refine g_iconst d38_63 (v := 0) rfl (pc' := 64) rfl ?_
        refine g_iaload d38_64 ((As.keep Kw12 (ninS nfs.symm nin0)).keep Kw13 (ninS nes.symm nin0)) (by decide) (i := 0) rfl rfl (pc' := 65) rfl ?_
        refine g_iconst d38_65 (v := 1) rfl (pc' := 66) rfl ?_
        refine g_iadd d38_66 (v := (Int32.ofNat (kn + 1))) (ofNat_succ (by omega)) (pc' := 67) rfl ?_
        refine g_iastore d38_67 ((As.keep Kw12 (ninS nfs.symm nin0)).keep Kw13 (ninS nes.symm nin0)) (by decide) (i := 0) rfl (Nat.le_of_ble_eq_true rfl) (Or.inl (List.mem_of_getElem? (i := 2) rfl)) (List.mem_of_getElem? (i := 2) rfl) (pc' := 68) rfl ?_
        intro h14 Kw14 A_s_14
        replace A_s_14 : Ia Z h14 s .int [(Int32.ofNat (kn + 1)), x1] := A_s_14
        refine g_aloadN d38_68 rfl rfl (pc' := 69) rfl ?_
        refine g_iconst d38_69 (v := 1) rfl (pc' := 70) rfl ?_
        refine g_iconst d38_70 (v := 0) rfl (pc' := 71) rfl ?_
        refine g_iastore d38_71 A_s_14 (by decide) (i := 1) rfl (Nat.le_of_ble_eq_true rfl) (Or.inl (List.mem_of_getElem? (i := 2) rfl)) (List.mem_of_getElem? (i := 2) rfl) (pc' := 72) rfl ?_
        intro h15 Kw15 A_s_15
        replace A_s_15 : Ia Z h15 s .int [(Int32.ofNat (kn + 1)), 0] := A_s_15
        refine g_goto d38_72 (pc' := 136) (by decide) rfl ?_
        exact g_return d38_136 rfl ⟨_, _, _, _, I.put q (Or.inl ⟨hx, Or.inl rfl⟩), (((A_f_12.keep Kw13 (ninS nfe nin0)).keep Kw14 (ninS nfs nin0)).keep Kw15 (ninS nfs nin0)), ((A_e_13.keep Kw14 (ninS nes nin0)).keep Kw15 (ninS nes nin0)), A_s_15⟩ (by decide) (by decide)
      ·
        refine g_if_ne_t d38_35 r (pc' := 43) (by decide) rfl ?_
        refine g_bipush d38_43 (v := 92) rfl (pc' := 45) rfl ?_
        refine g_istore d38_45 (L' := #[.val (.ref f), .val (.ref e), .val (.ref s), .val (.int (Int32.ofNat j)), .val (.int (Int32.ofNat m)), .val (.int (Int32.ofNat ld)), .val (.int a), .val (.int b), .val (.int mk), .val (.int (Int32.ofNat (ld + 1 + j))), .val (.int v), .val (.int 92)]) rfl (pc' := 47) rfl ?_
        refine g_aloadN d38_47 rfl rfl (pc' := 48) rfl ?_
        refine g_iload d38_48 rfl (pc' := 50) rfl ?_
        refine g_iload d38_50 rfl (pc' := 52) rfl ?_
        refine g_castore d38_52 Af (ofNat_lt (n := 10) (show (ld + 1 + j) < 10 by omega) (by omega)).1 (nat_i32 (show (ld + 1 + j) < 2 ^ 31 by omega)) (by first | omega | (simp only [List.length_set]; omega)) (Or.inl (List.mem_of_getElem? (i := 0) rfl)) (List.mem_of_getElem? (i := 0) rfl) (pc' := 53) rfl ?_
        intro h16 Kw16 A_f_16
        replace A_f_16 : Ia Z h16 f .char (F.set (ld + 1 + j) 92) := (by rw [(lo8 92 (by decide)).2.1] at A_f_16; exact A_f_16)
        refine g_aloadN d38_53 rfl rfl (pc' := 54) rfl ?_
        refine g_aloadN d38_54 rfl rfl (pc' := 55) rfl ?_
        refine g_iconst d38_55 (v := 0) rfl (pc' := 56) rfl ?_
        refine g_iaload d38_56 (As.keep Kw16 (ninS nfs.symm nin0)) (by decide) (i := 0) rfl rfl (pc' := 57) rfl ?_
        refine g_iload d38_57 rfl (pc' := 59) rfl ?_
        refine g_castore d38_59 (Ae.keep Kw16 (ninS nfe.symm nin0)) (ofNat_lt (n := 10) (show kn < 10 by omega) (by omega)).1 (nat_i32 (show kn < 2 ^ 31 by omega)) (by first | omega | (simp only [List.length_set]; omega)) (Or.inl (List.mem_of_getElem? (i := 1) rfl)) (List.mem_of_getElem? (i := 1) rfl) (pc' := 60) rfl ?_
        intro h17 Kw17 A_e_17
        replace A_e_17 : Ia Z h17 e .char (E.set kn 92) := (by rw [(lo8 92 (by decide)).2.1] at A_e_17; exact A_e_17)
        refine g_aloadN d38_60 rfl rfl (pc' := 61) rfl ?_
        refine g_iconst d38_61 (v := 0) rfl (pc' := 62) rfl ?_
        refine g_aloadN d38_62 rfl rfl (pc' := 63) rfl ?_
        refine g_iconst d38_63 (v := 0) rfl (pc' := 64) rfl ?_
        refine g_iaload d38_64 ((As.keep Kw16 (ninS nfs.symm nin0)).keep Kw17 (ninS nes.symm nin0)) (by decide) (i := 0) rfl rfl (pc' := 65) rfl ?_
        refine g_iconst d38_65 (v := 1) rfl (pc' := 66) rfl ?_
        refine g_iadd d38_66 (v := (Int32.ofNat (kn + 1))) (ofNat_succ (by omega)) (pc' := 67) rfl ?_
        refine g_iastore d38_67 ((As.keep Kw16 (ninS nfs.symm nin0)).keep Kw17 (ninS nes.symm nin0)) (by decide) (i := 0) rfl (Nat.le_of_ble_eq_true rfl) (Or.inl (List.mem_of_getElem? (i := 2) rfl)) (List.mem_of_getElem? (i := 2) rfl) (pc' := 68) rfl ?_
        intro h18 Kw18 A_s_18
        replace A_s_18 : Ia Z h18 s .int [(Int32.ofNat (kn + 1)), x1] := A_s_18
        refine g_aloadN d38_68 rfl rfl (pc' := 69) rfl ?_
        refine g_iconst d38_69 (v := 1) rfl (pc' := 70) rfl ?_
        refine g_iconst d38_70 (v := 0) rfl (pc' := 71) rfl ?_
        refine g_iastore d38_71 A_s_18 (by decide) (i := 1) rfl (Nat.le_of_ble_eq_true rfl) (Or.inl (List.mem_of_getElem? (i := 2) rfl)) (List.mem_of_getElem? (i := 2) rfl) (pc' := 72) rfl ?_
        intro h19 Kw19 A_s_19
        replace A_s_19 : Ia Z h19 s .int [(Int32.ofNat (kn + 1)), 0] := A_s_19
        refine g_goto d38_72 (pc' := 136) (by decide) rfl ?_
        exact g_return d38_136 rfl ⟨_, _, _, _, I.put q (Or.inl ⟨hx, Or.inr rfl⟩), (((A_f_16.keep Kw17 (ninS nfe nin0)).keep Kw18 (ninS nfs nin0)).keep Kw19 (ninS nfs nin0)), ((A_e_17.keep Kw18 (ninS nes nin0)).keep Kw19 (ninS nes nin0)), A_s_19⟩ (by decide) (by decide)
  ·
    refine g_icmp_lt_f d38_3 (by rw [Int32.lt_iff_toInt_lt, ofNat_toInt (by omega), ofNat_toInt (by omega)]; omega) (pc' := 6) rfl ?_
    exact g_return d38_6 rfl ⟨F, E, kn, x1, I.skip (by omega), Af, Ae, As⟩ (by decide) (by decide)
theorem ef_c_same (m : MethodId) (x0 : Addr) (x1 : Addr) (x2 : Int32) (x3 : Int32)  : entryFrame m #[(.ref x0), (.ref x1), (.int x2), (.int x3)] 4 = mkF m 0 #[.val (.ref x0), .val (.ref x1), .val (.int x2), .val (.int x3)] [] := by first | (simp [entryFrame, mkF, argsToLocals, Value.category]; done) | rfl
set_option maxRecDepth 65536 in
set_option maxHeartbeats 40000000 in
theorem c_same {l : Launch} {Z : State} {n0 : Nat} {a0 : Array Value} (hw : Hw a0 Z) (v e t : Addr) (V E : List Int32) (kn j : Nat) (z : Int32) (sf : Value) (h0 : Heap) (hC : Sta Z Z.heap "java/lang/String" "COMPACT_STRINGS" "Z" (.int z)) (hz : ¬ z = 0) (hF : Sta Z Z.heap "jdk/internal/util/Preconditions" "SIOOBE_FORMATTER" "Ljava/util/function/BiFunction;" sf) (rsf : sf.isRef = true) (S : St Z h0 v t V) (Ae : Ia Z h0 e .char E) (hK : V.length = kn) (hVE : ∀ (i : Nat) (ch : Int32), V[i]? = some ch → E[i]? = some ch) (hj : j < 7) :
    Con l Z n0 ELs (⟨"com/example/anemone/anemone/IdempotencyKeyParsePinLaw", "same", "(Ljava/lang/String;[CII)Z"⟩ : MethodName) method_3_code 4 (some .boolean) [] ({ frames := 4, cells := 0, slots := 0, locals := 70 } : Room) #[(.ref v), (.ref e), (.int (Int32.ofNat kn)), (.int (Int32.ofNat j))] h0 [] false (fun w h => w = .int 1 ∧ h0 = h) := by
  refine con_of (plainFor_of_name pn_10) (fun mt => ef_c_same mt v e ((Int32.ofNat kn)) ((Int32.ofNat j)) ) ?_
  intro K
  have hsh := S.2.2.2.1.short
  rw [List.length_map, hK] at hsh
  refine g_iloadN d37_0 rfl (pc' := 1) rfl ?_
  refine g_iloadN d37_1 rfl (pc' := 2) rfl ?_
  by_cases q : j < kn
  · obtain ⟨ch, hch⟩ : ∃ ch, V[j]? = some ch := ⟨_, List.getElem?_eq_getElem (by omega)⟩
    refine g_icmp_ge_f d37_2 (ofNat_lt q (by omega)).2.1 (pc' := 5) rfl ?_
    refine g_aloadN d37_5 rfl rfl (pc' := 6) rfl ?_
    refine g_iloadN d37_6 rfl (pc' := 7) rfl ?_
    refine g_virt (W := 0) (argsL := [(.int (Int32.ofNat j))]) (rest := []) d37_7 (w_163 hw) (w_69 hw) (nf_self (w_71 hw)) (w_71 hw) (w_70 hw) (by decide) (lenOf pd_20 rfl) S.1 (c_charat hw v t V j ch z sf _ hC hz hF rsf S hch) (w_72 hw) (w_17 hw) (by decide) (by decide) (fun _ q => nomatch q) rfl (Nat.le_of_eq rfl) rfl (by decide) (by decide) (pc' := 10) rfl ?_
    intro w1 h1 q1 Kc1
    obtain ⟨rfl, rfl⟩ := q1
    refine g_aloadN d37_10 rfl rfl (pc' := 11) rfl ?_
    refine g_iloadN d37_11 rfl (pc' := 12) rfl ?_
    refine g_caload d37_12 Ae (ofNat_lt q (by omega)).1 (nat_i32 (by omega)) (hVE j ch hch) (pc' := 13) rfl ?_
    refine g_icmp_ne_f d37_13 rfl (pc' := 16) rfl ?_
    refine g_iconst d37_16 (v := 1) rfl (pc' := 17) rfl ?_
    refine g_goto d37_17 (pc' := 21) (by decide) rfl ?_
    exact g_ireturnN d37_21 rfl (by simp) (z := 1) rfl ⟨rfl, rfl⟩ (by decide) (by decide)
  ·
    refine g_icmp_ge_t d37_2 (by rw [Int32.lt_iff_toInt_lt, ofNat_toInt (by omega), ofNat_toInt (by omega)]; omega) (pc' := 16) (by decide) rfl ?_
    refine g_iconst d37_16 (v := 1) rfl (pc' := 17) rfl ?_
    refine g_goto d37_17 (pc' := 21) (by decide) rfl ?_
    exact g_ireturnN d37_21 rfl (by simp) (z := 1) rfl ⟨rfl, rfl⟩ (by decide) (by decide)
theorem ef_c_law (m : MethodId) (x0 : Int32) (x1 : Int32) (x2 : Int32) (x3 : Int32)  : entryFrame m #[(.int x0), (.int x1), (.int x2), (.int x3)] maxLocals = mkF m 0 #[.val (.int x0), .val (.int x1), .val (.int x2), .val (.int x3), .unset, .unset, .unset, .unset, .unset, .unset, .unset, .unset, .unset] [] := by first | (simp [entryFrame, mkF, argsToLocals, Value.category, maxLocals]; done) | rfl
set_option maxRecDepth 65536 in
set_option maxHeartbeats 40000000 in
theorem c_law {l : Launch} {Z : State} {n0 : Nat} {a0 : Array Value} (hw : Hw a0 Z) (p0 p1 p2 p3 z : Int32) (sf : Value) (h0 : Heap) (hC : Sta Z Z.heap "java/lang/String" "COMPACT_STRINGS" "Z" (.int z)) (hz : ¬ z = 0) (hF : Sta Z Z.heap "jdk/internal/util/Preconditions" "SIOOBE_FORMATTER" "Ljava/util/function/BiFunction;" sf) (rsf : sf.isRef = true) :
    Con l Z n0 ELs x code maxLocals ret tables_1 room_1 #[(.int p0), (.int p1), (.int p2), (.int p3)] h0 [] false (fun w h => w = .int 1) := by
  refine con_of (plainFor_of_name pn_10) (fun mt => ef_c_law mt p0 p1 p2 p3 ) ?_
  intro K
  obtain ⟨ld, hld, hld3⟩ := and3n (p2.toUInt32 >>> ((1 : Int32) &&& 31).toUInt32).toInt32
  obtain ⟨tr, htr, htr3⟩ := and3n (p2.toUInt32 >>> ((3 : Int32) &&& 31).toUInt32).toInt32
  have hws : ∀ d ∈ StrChars.Road.words, d.before a0 Z = true := fun d hd => hw d ((by decide +kernel : ∀ d ∈ StrChars.Road.words, d ∈ tables_1) d hd)
  refine g_iloadN at_0 rfl (pc' := 1) rfl ?_
  refine g_iconst at_1 (v := 1) rfl (pc' := 2) rfl ?_
  refine g_iand at_2 rfl (pc' := 3) rfl ?_
  by_cases q : p2 &&& 1 = 0
  ·
    refine g_if_eq_t at_3 q (pc' := 10) (by decide) rfl ?_
    refine g_iconst at_10 (v := 0) rfl (pc' := 11) rfl ?_
    refine g_istore at_11 (L' := #[.val (.int p0), .val (.int p1), .val (.int p2), .val (.int p3), .val (.int 0), .unset, .unset, .unset, .unset, .unset, .unset, .unset, .unset]) rfl (pc' := 13) rfl ?_
    refine g_iloadN at_13 rfl (pc' := 14) rfl ?_
    refine g_iconst at_14 (v := 1) rfl (pc' := 15) rfl ?_
    refine g_iushr at_15 rfl (pc' := 16) rfl ?_
    refine g_iconst at_16 (v := 3) rfl (pc' := 17) rfl ?_
    refine g_iand at_17 (v := (Int32.ofNat ld)) hld (pc' := 18) rfl ?_
    refine g_istore at_18 (L' := #[.val (.int p0), .val (.int p1), .val (.int p2), .val (.int p3), .val (.int 0), .val (.int (Int32.ofNat ld)), .unset, .unset, .unset, .unset, .unset, .unset, .unset]) rfl (pc' := 20) rfl ?_
    refine g_iloadN at_20 rfl (pc' := 21) rfl ?_
    refine g_iconst at_21 (v := 3) rfl (pc' := 22) rfl ?_
    refine g_iushr at_22 rfl (pc' := 23) rfl ?_
    refine g_iconst at_23 (v := 3) rfl (pc' := 24) rfl ?_
    refine g_iand at_24 (v := (Int32.ofNat tr)) htr (pc' := 25) rfl ?_
    refine g_istore at_25 (L' := #[.val (.int p0), .val (.int p1), .val (.int p2), .val (.int p3), .val (.int 0), .val (.int (Int32.ofNat ld)), .val (.int (Int32.ofNat tr)), .unset, .unset, .unset, .unset, .unset, .unset]) rfl (pc' := 27) rfl ?_
    refine g_iload at_27 rfl (pc' := 29) rfl ?_
    refine g_if_eq_t at_29 rfl (pc' := 39) (by decide) rfl ?_
    refine g_bipush at_39 (v := 7) rfl (pc' := 41) rfl ?_
    refine g_newA at_41 (w_0 hw) rfl (by decide) (cap := 7) (by decide) (by decide) (by decide) (by decide) (pc' := 43) rfl ?_
    intro fa h1 g1 Kn1 A_fa sz_fa
    replace A_fa : Ia Z h1 fa .char [0, 0, 0, 0, 0, 0, 0] := A_fa
    refine g_astore at_43 rfl (L' := #[.val (.int p0), .val (.int p1), .val (.int p2), .val (.int p3), .val (.int 0), .val (.int (Int32.ofNat ld)), .val (.int (Int32.ofNat tr)), .val (.ref fa), .unset, .unset, .unset, .unset, .unset]) rfl (pc' := 45) rfl ?_
    refine g_bipush at_45 (v := 7) rfl (pc' := 47) rfl ?_
    refine g_newA at_47 (w_0 hw) rfl (by decide) (cap := 7) (by decide) (by decide) (by decide) (by decide) (pc' := 49) rfl ?_
    intro ea h2 g2 Kn2 A_ea sz_ea
    replace A_ea : Ia Z h2 ea .char [0, 0, 0, 0, 0, 0, 0] := A_ea
    refine g_astore at_49 rfl (L' := #[.val (.int p0), .val (.int p1), .val (.int p2), .val (.int p3), .val (.int 0), .val (.int (Int32.ofNat ld)), .val (.int (Int32.ofNat tr)), .val (.ref fa), .val (.ref ea), .unset, .unset, .unset, .unset]) rfl (pc' := 51) rfl ?_
    refine g_iconst at_51 (v := 2) rfl (pc' := 52) rfl ?_
    refine g_newA at_52 (w_1 hw) rfl (by decide) (cap := 2) (by decide) (by decide) (by decide) (by decide) (pc' := 54) rfl ?_
    intro sa h3 g3 Kn3 A_sa sz_sa
    replace A_sa : Ia Z h3 sa .int [0, 0] := A_sa
    refine g_astore at_54 rfl (L' := #[.val (.int p0), .val (.int p1), .val (.int p2), .val (.int p3), .val (.int 0), .val (.int (Int32.ofNat ld)), .val (.int (Int32.ofNat tr)), .val (.ref fa), .val (.ref ea), .val (.ref sa), .unset, .unset, .unset]) rfl (pc' := 56) rfl ?_
    refine g_aload at_56 rfl rfl (pc' := 58) rfl ?_
    refine g_iloadN at_58 rfl (pc' := 59) rfl ?_
    refine g_iconst at_59 (v := 0) rfl (pc' := 60) rfl ?_
    refine g_staticN (W := 0) (argsL := [(.ref fa), (.int p3), (.int 0)]) (rest := []) at_60 (w_2 hw) (w_3 hw) (by decide) (lenOf pd_27 rfl) (c_fill hw fa _ p3 0 _ ((A_fa.keep Kn2 nin0).keep Kn3 nin0) (by omega)) (w_5 hw) (w_4 hw) (by decide) (by decide) (allS ⟨(Or.inr sz_fa), (List.mem_of_getElem? (i := 2) rfl)⟩ all0) rfl (Nat.le_of_eq rfl) rfl (by decide) (by decide) (pc' := 63) rfl ?_
    intro w4 h4 q4 Kc4
    obtain ⟨d0, hd0, Af0⟩ := q4
    replace Af0 : Ia Z h4 fa .char [d0, 0, 0, 0, 0, 0, 0] := Af0
    refine g_aload at_63 rfl rfl (pc' := 65) rfl ?_
    refine g_iloadN at_65 rfl (pc' := 66) rfl ?_
    refine g_iconst at_66 (v := 1) rfl (pc' := 67) rfl ?_
    refine g_staticN (W := 0) (argsL := [(.ref fa), (.int p3), (.int 1)]) (rest := []) at_67 (w_2 hw) (w_3 hw) (by decide) (lenOf pd_27 rfl) (c_fill hw fa _ p3 1 _ Af0 (by omega)) (w_5 hw) (w_4 hw) (by decide) (by decide) (allS ⟨(Or.inr sz_fa), (List.mem_of_getElem? (i := 2) rfl)⟩ all0) rfl (Nat.le_of_eq rfl) rfl (by decide) (by decide) (pc' := 70) rfl ?_
    intro w5 h5 q5 Kc5
    obtain ⟨d1, hd1, Af1⟩ := q5
    replace Af1 : Ia Z h5 fa .char [d0, d1, 0, 0, 0, 0, 0] := Af1
    refine g_aload at_70 rfl rfl (pc' := 72) rfl ?_
    refine g_iloadN at_72 rfl (pc' := 73) rfl ?_
    refine g_iconst at_73 (v := 2) rfl (pc' := 74) rfl ?_
    refine g_staticN (W := 0) (argsL := [(.ref fa), (.int p3), (.int 2)]) (rest := []) at_74 (w_2 hw) (w_3 hw) (by decide) (lenOf pd_27 rfl) (c_fill hw fa _ p3 2 _ Af1 (by omega)) (w_5 hw) (w_4 hw) (by decide) (by decide) (allS ⟨(Or.inr sz_fa), (List.mem_of_getElem? (i := 2) rfl)⟩ all0) rfl (Nat.le_of_eq rfl) rfl (by decide) (by decide) (pc' := 77) rfl ?_
    intro w6 h6 q6 Kc6
    obtain ⟨d2, hd2, Af2⟩ := q6
    replace Af2 : Ia Z h6 fa .char [d0, d1, d2, 0, 0, 0, 0] := Af2
    refine g_aload at_77 rfl rfl (pc' := 79) rfl ?_
    refine g_iloadN at_79 rfl (pc' := 80) rfl ?_
    refine g_iconst at_80 (v := 3) rfl (pc' := 81) rfl ?_
    refine g_staticN (W := 0) (argsL := [(.ref fa), (.int p3), (.int 3)]) (rest := []) at_81 (w_2 hw) (w_3 hw) (by decide) (lenOf pd_27 rfl) (c_fill hw fa _ p3 3 _ Af2 (by omega)) (w_5 hw) (w_4 hw) (by decide) (by decide) (allS ⟨(Or.inr sz_fa), (List.mem_of_getElem? (i := 2) rfl)⟩ all0) rfl (Nat.le_of_eq rfl) rfl (by decide) (by decide) (pc' := 84) rfl ?_
    intro w7 h7 q7 Kc7
    obtain ⟨d3, hd3, Af3⟩ := q7
    replace Af3 : Ia Z h7 fa .char [d0, d1, d2, d3, 0, 0, 0] := Af3
    refine g_aload at_84 rfl rfl (pc' := 86) rfl ?_
    refine g_iloadN at_86 rfl (pc' := 87) rfl ?_
    refine g_iconst at_87 (v := 4) rfl (pc' := 88) rfl ?_
    refine g_staticN (W := 0) (argsL := [(.ref fa), (.int p3), (.int 4)]) (rest := []) at_88 (w_2 hw) (w_3 hw) (by decide) (lenOf pd_27 rfl) (c_fill hw fa _ p3 4 _ Af3 (by omega)) (w_5 hw) (w_4 hw) (by decide) (by decide) (allS ⟨(Or.inr sz_fa), (List.mem_of_getElem? (i := 2) rfl)⟩ all0) rfl (Nat.le_of_eq rfl) rfl (by decide) (by decide) (pc' := 91) rfl ?_
    intro w8 h8 q8 Kc8
    obtain ⟨d4, hd4, Af4⟩ := q8
    replace Af4 : Ia Z h8 fa .char [d0, d1, d2, d3, d4, 0, 0] := Af4
    refine g_aload at_91 rfl rfl (pc' := 93) rfl ?_
    refine g_iloadN at_93 rfl (pc' := 94) rfl ?_
    refine g_iconst at_94 (v := 5) rfl (pc' := 95) rfl ?_
    refine g_staticN (W := 0) (argsL := [(.ref fa), (.int p3), (.int 5)]) (rest := []) at_95 (w_2 hw) (w_3 hw) (by decide) (lenOf pd_27 rfl) (c_fill hw fa _ p3 5 _ Af4 (by omega)) (w_5 hw) (w_4 hw) (by decide) (by decide) (allS ⟨(Or.inr sz_fa), (List.mem_of_getElem? (i := 2) rfl)⟩ all0) rfl (Nat.le_of_eq rfl) rfl (by decide) (by decide) (pc' := 98) rfl ?_
    intro w9 h9 q9 Kc9
    obtain ⟨d5, hd5, Af5⟩ := q9
    replace Af5 : Ia Z h9 fa .char [d0, d1, d2, d3, d4, d5, 0] := Af5
    refine g_aload at_98 rfl rfl (pc' := 100) rfl ?_
    refine g_iloadN at_100 rfl (pc' := 101) rfl ?_
    refine g_bipush at_101 (v := 6) rfl (pc' := 103) rfl ?_
    refine g_staticN (W := 0) (argsL := [(.ref fa), (.int p3), (.int 6)]) (rest := []) at_103 (w_2 hw) (w_3 hw) (by decide) (lenOf pd_27 rfl) (c_fill hw fa _ p3 6 _ Af5 (by omega)) (w_5 hw) (w_4 hw) (by decide) (by decide) (allS ⟨(Or.inr sz_fa), (List.mem_of_getElem? (i := 2) rfl)⟩ all0) rfl (Nat.le_of_eq rfl) rfl (by decide) (by decide) (pc' := 106) rfl ?_
    intro w10 h10 q10 Kc10
    obtain ⟨d6, hd6, Af6⟩ := q10
    replace Af6 : Ia Z h10 fa .char [d0, d1, d2, d3, d4, d5, d6] := Af6
    refine g_aload at_106 rfl rfl (pc' := 108) rfl ?_
    refine g_iloadN at_108 rfl (pc' := 109) rfl ?_
    refine g_bipush at_109 (v := 7) rfl (pc' := 111) rfl ?_
    refine g_staticN (W := 0) (argsL := [(.ref fa), (.int p3), (.int 7)]) (rest := []) at_111 (w_2 hw) (w_3 hw) (by decide) (lenOf pd_27 rfl) (c_fill hw fa _ p3 7 _ Af6 (by omega)) (w_5 hw) (w_4 hw) (by decide) (by decide) (allS ⟨(Or.inr sz_fa), (List.mem_of_getElem? (i := 2) rfl)⟩ all0) rfl (Nat.le_of_eq rfl) rfl (by decide) (by decide) (pc' := 114) rfl ?_
    intro w11 h11 q11 Kc11
    obtain ⟨d7, hd7, Af7⟩ := q11
    replace Af7 : Ia Z h11 fa .char [d0, d1, d2, d3, d4, d5, d6] := Af7
    refine g_aload at_114 rfl rfl (pc' := 116) rfl ?_
    refine g_iloadN at_116 rfl (pc' := 117) rfl ?_
    refine g_bipush at_117 (v := 8) rfl (pc' := 119) rfl ?_
    refine g_staticN (W := 0) (argsL := [(.ref fa), (.int p3), (.int 8)]) (rest := []) at_119 (w_2 hw) (w_3 hw) (by decide) (lenOf pd_27 rfl) (c_fill hw fa _ p3 8 _ Af7 (by omega)) (w_5 hw) (w_4 hw) (by decide) (by decide) (allS ⟨(Or.inr sz_fa), (List.mem_of_getElem? (i := 2) rfl)⟩ all0) rfl (Nat.le_of_eq rfl) rfl (by decide) (by decide) (pc' := 122) rfl ?_
    intro w12 h12 q12 Kc12
    obtain ⟨d8, hd8, Af8⟩ := q12
    replace Af8 : Ia Z h12 fa .char [d0, d1, d2, d3, d4, d5, d6] := Af8
    refine g_iload at_122 rfl (pc' := 124) rfl ?_
    refine g_if_eq_t at_124 rfl (pc' := 279) (by decide) rfl ?_
    have hw0 : ∀ d ∈ ([d0, d1, d2, d3, d4, d5, d6] : List Int32), isW d = true := by simp [hd0, hd1, hd2, hd3, hd4, hd5, hd6]
    refine g_bipush at_279 (v := 7) rfl (pc' := 281) rfl ?_
    refine g_iload at_281 rfl (pc' := 283) rfl ?_
    refine g_isub at_283 (v := (Int32.ofNat (7 - ld))) (ofNat_sub (a := 7) (by omega) (by omega)) (pc' := 284) rfl ?_
    refine g_iload at_284 rfl (pc' := 286) rfl ?_
    refine g_isub at_286 (v := (Int32.ofNat (7 - ld - tr))) (ofNat_sub (by omega) (by omega)) (pc' := 287) rfl ?_
    refine g_istore at_287 (L' := #[.val (.int p0), .val (.int p1), .val (.int p2), .val (.int p3), .val (.int 0), .val (.int (Int32.ofNat ld)), .val (.int (Int32.ofNat tr)), .val (.ref fa), .val (.ref ea), .val (.ref sa), .val (.int (Int32.ofNat (7 - ld - tr))), .unset, .unset]) rfl (pc' := 289) rfl ?_
    have I0 : IB (7 - ld - tr) ld 0 _ [0, 0, 0, 0, 0, 0, 0] 0 := IB.start (n := (7 - ld - tr)) (ld := ld) (F := [d0, d1, d2, d3, d4, d5, d6]) (by omega) rfl rfl hw0
    refine g_aload at_289 rfl rfl (pc' := 291) rfl ?_
    refine g_aload at_291 rfl rfl (pc' := 293) rfl ?_
    refine g_aload at_293 rfl rfl (pc' := 295) rfl ?_
    refine g_iconst at_295 (v := 0) rfl (pc' := 296) rfl ?_
    refine g_iload at_296 rfl (pc' := 298) rfl ?_
    refine g_iload at_298 rfl (pc' := 300) rfl ?_
    refine g_iloadN at_300 rfl (pc' := 301) rfl ?_
    refine g_iloadN at_301 rfl (pc' := 302) rfl ?_
    refine g_staticN (W := 0) (argsL := [(.ref fa), (.ref ea), (.ref sa), (.int 0), (.int (Int32.ofNat (7 - ld - tr))), (.int (Int32.ofNat ld)), (.int p0), (.int p1)]) (rest := []) at_302 (w_6 hw) (w_7 hw) (by decide) (lenOf pd_28 rfl) (c_bstep hw fa ea sa _ _ 0 0 (7 - ld - tr) ld p0 p1 _ Af8 ((((((((((A_ea.keep Kn3 nin0).keep Kc4 (ninS (Ne.symm (Nat.ne_of_lt (Nat.lt_of_lt_of_le (A_fa).lt (Nat.le_of_eq g2.symm)))) nin0)).keep Kc5 (ninS (Ne.symm (Nat.ne_of_lt (Nat.lt_of_lt_of_le (A_fa).lt (Nat.le_of_eq g2.symm)))) nin0)).keep Kc6 (ninS (Ne.symm (Nat.ne_of_lt (Nat.lt_of_lt_of_le (A_fa).lt (Nat.le_of_eq g2.symm)))) nin0)).keep Kc7 (ninS (Ne.symm (Nat.ne_of_lt (Nat.lt_of_lt_of_le (A_fa).lt (Nat.le_of_eq g2.symm)))) nin0)).keep Kc8 (ninS (Ne.symm (Nat.ne_of_lt (Nat.lt_of_lt_of_le (A_fa).lt (Nat.le_of_eq g2.symm)))) nin0)).keep Kc9 (ninS (Ne.symm (Nat.ne_of_lt (Nat.lt_of_lt_of_le (A_fa).lt (Nat.le_of_eq g2.symm)))) nin0)).keep Kc10 (ninS (Ne.symm (Nat.ne_of_lt (Nat.lt_of_lt_of_le (A_fa).lt (Nat.le_of_eq g2.symm)))) nin0)).keep Kc11 (ninS (Ne.symm (Nat.ne_of_lt (Nat.lt_of_lt_of_le (A_fa).lt (Nat.le_of_eq g2.symm)))) nin0)).keep Kc12 (ninS (Ne.symm (Nat.ne_of_lt (Nat.lt_of_lt_of_le (A_fa).lt (Nat.le_of_eq g2.symm)))) nin0)) (((((((((A_sa.keep Kc4 (ninS (Ne.symm (Nat.ne_of_lt (Nat.lt_of_lt_of_le ((A_fa.keep Kn2 nin0)).lt (Nat.le_of_eq g3.symm)))) nin0)).keep Kc5 (ninS (Ne.symm (Nat.ne_of_lt (Nat.lt_of_lt_of_le ((A_fa.keep Kn2 nin0)).lt (Nat.le_of_eq g3.symm)))) nin0)).keep Kc6 (ninS (Ne.symm (Nat.ne_of_lt (Nat.lt_of_lt_of_le ((A_fa.keep Kn2 nin0)).lt (Nat.le_of_eq g3.symm)))) nin0)).keep Kc7 (ninS (Ne.symm (Nat.ne_of_lt (Nat.lt_of_lt_of_le ((A_fa.keep Kn2 nin0)).lt (Nat.le_of_eq g3.symm)))) nin0)).keep Kc8 (ninS (Ne.symm (Nat.ne_of_lt (Nat.lt_of_lt_of_le ((A_fa.keep Kn2 nin0)).lt (Nat.le_of_eq g3.symm)))) nin0)).keep Kc9 (ninS (Ne.symm (Nat.ne_of_lt (Nat.lt_of_lt_of_le ((A_fa.keep Kn2 nin0)).lt (Nat.le_of_eq g3.symm)))) nin0)).keep Kc10 (ninS (Ne.symm (Nat.ne_of_lt (Nat.lt_of_lt_of_le ((A_fa.keep Kn2 nin0)).lt (Nat.le_of_eq g3.symm)))) nin0)).keep Kc11 (ninS (Ne.symm (Nat.ne_of_lt (Nat.lt_of_lt_of_le ((A_fa.keep Kn2 nin0)).lt (Nat.le_of_eq g3.symm)))) nin0)).keep Kc12 (ninS (Ne.symm (Nat.ne_of_lt (Nat.lt_of_lt_of_le ((A_fa.keep Kn2 nin0)).lt (Nat.le_of_eq g3.symm)))) nin0)) (Nat.ne_of_lt (Nat.lt_of_lt_of_le (A_fa).lt (Nat.le_of_eq g2.symm))) (Nat.ne_of_lt (Nat.lt_of_lt_of_le ((A_fa.keep Kn2 nin0)).lt (Nat.le_of_eq g3.symm))) (Nat.ne_of_lt (Nat.lt_of_lt_of_le (A_ea).lt (Nat.le_of_eq g3.symm))) I0 (by omega) (by omega)) (w_8 hw) (w_4 hw) (by decide) (by decide) (allS ⟨(Or.inr sz_fa), (List.mem_of_getElem? (i := 2) rfl)⟩ (allS ⟨(Or.inr sz_ea), (List.mem_of_getElem? (i := 1) rfl)⟩ (allS ⟨(Or.inr sz_sa), (List.mem_of_getElem? (i := 0) rfl)⟩ all0))) rfl (Nat.le_of_eq rfl) rfl (by decide) (by decide) (pc' := 305) rfl ?_
    intro w13 h13 q13 Kc13
    obtain ⟨F1, E1, K1, I1, Bf1, Be1, Bs1⟩ := q13
    refine g_aload at_305 rfl rfl (pc' := 307) rfl ?_
    refine g_aload at_307 rfl rfl (pc' := 309) rfl ?_
    refine g_aload at_309 rfl rfl (pc' := 311) rfl ?_
    refine g_iconst at_311 (v := 1) rfl (pc' := 312) rfl ?_
    refine g_iload at_312 rfl (pc' := 314) rfl ?_
    refine g_iload at_314 rfl (pc' := 316) rfl ?_
    refine g_iloadN at_316 rfl (pc' := 317) rfl ?_
    refine g_iloadN at_317 rfl (pc' := 318) rfl ?_
    refine g_staticN (W := 0) (argsL := [(.ref fa), (.ref ea), (.ref sa), (.int 1), (.int (Int32.ofNat (7 - ld - tr))), (.int (Int32.ofNat ld)), (.int p0), (.int p1)]) (rest := []) at_318 (w_6 hw) (w_7 hw) (by decide) (lenOf pd_28 rfl) (c_bstep hw fa ea sa _ _ K1 1 (7 - ld - tr) ld p0 p1 _ Bf1 Be1 Bs1 (Nat.ne_of_lt (Nat.lt_of_lt_of_le (A_fa).lt (Nat.le_of_eq g2.symm))) (Nat.ne_of_lt (Nat.lt_of_lt_of_le ((A_fa.keep Kn2 nin0)).lt (Nat.le_of_eq g3.symm))) (Nat.ne_of_lt (Nat.lt_of_lt_of_le (A_ea).lt (Nat.le_of_eq g3.symm))) I1 (by omega) (by omega)) (w_8 hw) (w_4 hw) (by decide) (by decide) (allS ⟨(Or.inr sz_fa), (List.mem_of_getElem? (i := 2) rfl)⟩ (allS ⟨(Or.inr sz_ea), (List.mem_of_getElem? (i := 1) rfl)⟩ (allS ⟨(Or.inr sz_sa), (List.mem_of_getElem? (i := 0) rfl)⟩ all0))) rfl (Nat.le_of_eq rfl) rfl (by decide) (by decide) (pc' := 321) rfl ?_
    intro w14 h14 q14 Kc14
    obtain ⟨F2, E2, K2, I2, Bf2, Be2, Bs2⟩ := q14
    refine g_aload at_321 rfl rfl (pc' := 323) rfl ?_
    refine g_aload at_323 rfl rfl (pc' := 325) rfl ?_
    refine g_aload at_325 rfl rfl (pc' := 327) rfl ?_
    refine g_iconst at_327 (v := 2) rfl (pc' := 328) rfl ?_
    refine g_iload at_328 rfl (pc' := 330) rfl ?_
    refine g_iload at_330 rfl (pc' := 332) rfl ?_
    refine g_iloadN at_332 rfl (pc' := 333) rfl ?_
    refine g_iloadN at_333 rfl (pc' := 334) rfl ?_
    refine g_staticN (W := 0) (argsL := [(.ref fa), (.ref ea), (.ref sa), (.int 2), (.int (Int32.ofNat (7 - ld - tr))), (.int (Int32.ofNat ld)), (.int p0), (.int p1)]) (rest := []) at_334 (w_6 hw) (w_7 hw) (by decide) (lenOf pd_28 rfl) (c_bstep hw fa ea sa _ _ K2 2 (7 - ld - tr) ld p0 p1 _ Bf2 Be2 Bs2 (Nat.ne_of_lt (Nat.lt_of_lt_of_le (A_fa).lt (Nat.le_of_eq g2.symm))) (Nat.ne_of_lt (Nat.lt_of_lt_of_le ((A_fa.keep Kn2 nin0)).lt (Nat.le_of_eq g3.symm))) (Nat.ne_of_lt (Nat.lt_of_lt_of_le (A_ea).lt (Nat.le_of_eq g3.symm))) I2 (by omega) (by omega)) (w_8 hw) (w_4 hw) (by decide) (by decide) (allS ⟨(Or.inr sz_fa), (List.mem_of_getElem? (i := 2) rfl)⟩ (allS ⟨(Or.inr sz_ea), (List.mem_of_getElem? (i := 1) rfl)⟩ (allS ⟨(Or.inr sz_sa), (List.mem_of_getElem? (i := 0) rfl)⟩ all0))) rfl (Nat.le_of_eq rfl) rfl (by decide) (by decide) (pc' := 337) rfl ?_
    intro w15 h15 q15 Kc15
    obtain ⟨F3, E3, K3, I3, Bf3, Be3, Bs3⟩ := q15
    refine g_aload at_337 rfl rfl (pc' := 339) rfl ?_
    refine g_aload at_339 rfl rfl (pc' := 341) rfl ?_
    refine g_aload at_341 rfl rfl (pc' := 343) rfl ?_
    refine g_iconst at_343 (v := 3) rfl (pc' := 344) rfl ?_
    refine g_iload at_344 rfl (pc' := 346) rfl ?_
    refine g_iload at_346 rfl (pc' := 348) rfl ?_
    refine g_iloadN at_348 rfl (pc' := 349) rfl ?_
    refine g_iloadN at_349 rfl (pc' := 350) rfl ?_
    refine g_staticN (W := 0) (argsL := [(.ref fa), (.ref ea), (.ref sa), (.int 3), (.int (Int32.ofNat (7 - ld - tr))), (.int (Int32.ofNat ld)), (.int p0), (.int p1)]) (rest := []) at_350 (w_6 hw) (w_7 hw) (by decide) (lenOf pd_28 rfl) (c_bstep hw fa ea sa _ _ K3 3 (7 - ld - tr) ld p0 p1 _ Bf3 Be3 Bs3 (Nat.ne_of_lt (Nat.lt_of_lt_of_le (A_fa).lt (Nat.le_of_eq g2.symm))) (Nat.ne_of_lt (Nat.lt_of_lt_of_le ((A_fa.keep Kn2 nin0)).lt (Nat.le_of_eq g3.symm))) (Nat.ne_of_lt (Nat.lt_of_lt_of_le (A_ea).lt (Nat.le_of_eq g3.symm))) I3 (by omega) (by omega)) (w_8 hw) (w_4 hw) (by decide) (by decide) (allS ⟨(Or.inr sz_fa), (List.mem_of_getElem? (i := 2) rfl)⟩ (allS ⟨(Or.inr sz_ea), (List.mem_of_getElem? (i := 1) rfl)⟩ (allS ⟨(Or.inr sz_sa), (List.mem_of_getElem? (i := 0) rfl)⟩ all0))) rfl (Nat.le_of_eq rfl) rfl (by decide) (by decide) (pc' := 353) rfl ?_
    intro w16 h16 q16 Kc16
    obtain ⟨F4, E4, K4, I4, Bf4, Be4, Bs4⟩ := q16
    refine g_aload at_353 rfl rfl (pc' := 355) rfl ?_
    refine g_aload at_355 rfl rfl (pc' := 357) rfl ?_
    refine g_aload at_357 rfl rfl (pc' := 359) rfl ?_
    refine g_iconst at_359 (v := 4) rfl (pc' := 360) rfl ?_
    refine g_iload at_360 rfl (pc' := 362) rfl ?_
    refine g_iload at_362 rfl (pc' := 364) rfl ?_
    refine g_iloadN at_364 rfl (pc' := 365) rfl ?_
    refine g_iloadN at_365 rfl (pc' := 366) rfl ?_
    refine g_staticN (W := 0) (argsL := [(.ref fa), (.ref ea), (.ref sa), (.int 4), (.int (Int32.ofNat (7 - ld - tr))), (.int (Int32.ofNat ld)), (.int p0), (.int p1)]) (rest := []) at_366 (w_6 hw) (w_7 hw) (by decide) (lenOf pd_28 rfl) (c_bstep hw fa ea sa _ _ K4 4 (7 - ld - tr) ld p0 p1 _ Bf4 Be4 Bs4 (Nat.ne_of_lt (Nat.lt_of_lt_of_le (A_fa).lt (Nat.le_of_eq g2.symm))) (Nat.ne_of_lt (Nat.lt_of_lt_of_le ((A_fa.keep Kn2 nin0)).lt (Nat.le_of_eq g3.symm))) (Nat.ne_of_lt (Nat.lt_of_lt_of_le (A_ea).lt (Nat.le_of_eq g3.symm))) I4 (by omega) (by omega)) (w_8 hw) (w_4 hw) (by decide) (by decide) (allS ⟨(Or.inr sz_fa), (List.mem_of_getElem? (i := 2) rfl)⟩ (allS ⟨(Or.inr sz_ea), (List.mem_of_getElem? (i := 1) rfl)⟩ (allS ⟨(Or.inr sz_sa), (List.mem_of_getElem? (i := 0) rfl)⟩ all0))) rfl (Nat.le_of_eq rfl) rfl (by decide) (by decide) (pc' := 369) rfl ?_
    intro w17 h17 q17 Kc17
    obtain ⟨F5, E5, K5, I5, Bf5, Be5, Bs5⟩ := q17
    refine g_aload at_369 rfl rfl (pc' := 371) rfl ?_
    refine g_aload at_371 rfl rfl (pc' := 373) rfl ?_
    refine g_aload at_373 rfl rfl (pc' := 375) rfl ?_
    refine g_iconst at_375 (v := 5) rfl (pc' := 376) rfl ?_
    refine g_iload at_376 rfl (pc' := 378) rfl ?_
    refine g_iload at_378 rfl (pc' := 380) rfl ?_
    refine g_iloadN at_380 rfl (pc' := 381) rfl ?_
    refine g_iloadN at_381 rfl (pc' := 382) rfl ?_
    refine g_staticN (W := 0) (argsL := [(.ref fa), (.ref ea), (.ref sa), (.int 5), (.int (Int32.ofNat (7 - ld - tr))), (.int (Int32.ofNat ld)), (.int p0), (.int p1)]) (rest := []) at_382 (w_6 hw) (w_7 hw) (by decide) (lenOf pd_28 rfl) (c_bstep hw fa ea sa _ _ K5 5 (7 - ld - tr) ld p0 p1 _ Bf5 Be5 Bs5 (Nat.ne_of_lt (Nat.lt_of_lt_of_le (A_fa).lt (Nat.le_of_eq g2.symm))) (Nat.ne_of_lt (Nat.lt_of_lt_of_le ((A_fa.keep Kn2 nin0)).lt (Nat.le_of_eq g3.symm))) (Nat.ne_of_lt (Nat.lt_of_lt_of_le (A_ea).lt (Nat.le_of_eq g3.symm))) I5 (by omega) (by omega)) (w_8 hw) (w_4 hw) (by decide) (by decide) (allS ⟨(Or.inr sz_fa), (List.mem_of_getElem? (i := 2) rfl)⟩ (allS ⟨(Or.inr sz_ea), (List.mem_of_getElem? (i := 1) rfl)⟩ (allS ⟨(Or.inr sz_sa), (List.mem_of_getElem? (i := 0) rfl)⟩ all0))) rfl (Nat.le_of_eq rfl) rfl (by decide) (by decide) (pc' := 385) rfl ?_
    intro w18 h18 q18 Kc18
    obtain ⟨F6, E6, K6, I6, Bf6, Be6, Bs6⟩ := q18
    refine g_aload at_385 rfl rfl (pc' := 387) rfl ?_
    refine g_aload at_387 rfl rfl (pc' := 389) rfl ?_
    refine g_aload at_389 rfl rfl (pc' := 391) rfl ?_
    refine g_bipush at_391 (v := 6) rfl (pc' := 393) rfl ?_
    refine g_iload at_393 rfl (pc' := 395) rfl ?_
    refine g_iload at_395 rfl (pc' := 397) rfl ?_
    refine g_iloadN at_397 rfl (pc' := 398) rfl ?_
    refine g_iloadN at_398 rfl (pc' := 399) rfl ?_
    refine g_staticN (W := 0) (argsL := [(.ref fa), (.ref ea), (.ref sa), (.int 6), (.int (Int32.ofNat (7 - ld - tr))), (.int (Int32.ofNat ld)), (.int p0), (.int p1)]) (rest := []) at_399 (w_6 hw) (w_7 hw) (by decide) (lenOf pd_28 rfl) (c_bstep hw fa ea sa _ _ K6 6 (7 - ld - tr) ld p0 p1 _ Bf6 Be6 Bs6 (Nat.ne_of_lt (Nat.lt_of_lt_of_le (A_fa).lt (Nat.le_of_eq g2.symm))) (Nat.ne_of_lt (Nat.lt_of_lt_of_le ((A_fa.keep Kn2 nin0)).lt (Nat.le_of_eq g3.symm))) (Nat.ne_of_lt (Nat.lt_of_lt_of_le (A_ea).lt (Nat.le_of_eq g3.symm))) I6 (by omega) (by omega)) (w_8 hw) (w_4 hw) (by decide) (by decide) (allS ⟨(Or.inr sz_fa), (List.mem_of_getElem? (i := 2) rfl)⟩ (allS ⟨(Or.inr sz_ea), (List.mem_of_getElem? (i := 1) rfl)⟩ (allS ⟨(Or.inr sz_sa), (List.mem_of_getElem? (i := 0) rfl)⟩ all0))) rfl (Nat.le_of_eq rfl) rfl (by decide) (by decide) (pc' := 402) rfl ?_
    intro w19 h19 q19 Kc19
    obtain ⟨F7, E7, K7, I7, Bf7, Be7, Bs7⟩ := q19
    have lF := I7.lens.1
    obtain ⟨V, htl, hB, hKV, hpos, hV16, hVE, hbd⟩ := I7.fin (by omega) (by omega)
    refine g_aload at_402 rfl rfl (pc' := 404) rfl ?_
    refine g_iconst at_404 (v := 0) rfl (pc' := 405) rfl ?_
    refine g_iaload at_405 Bs7 (by decide) (i := 0) rfl rfl (pc' := 406) rfl ?_
    refine g_istore at_406 (L' := #[.val (.int p0), .val (.int p1), .val (.int p2), .val (.int p3), .val (.int 0), .val (.int (Int32.ofNat ld)), .val (.int (Int32.ofNat tr)), .val (.ref fa), .val (.ref ea), .val (.ref sa), .val (.int (Int32.ofNat K7)), .unset, .unset]) rfl (pc' := 408) rfl ?_
    refine g_new at_408 (w_15 hw) (w_16 hw) (w_17 hw) (by decide) (by decide) (pc' := 411) rfl ?_
    intro xs h20 g20 Kn20 E_xs D20 sz_xs
    have F_coder_xs : Fld Z h20 xs "java/lang/String" "coder" "B" (.int 0) := D20 (Or.inr (w_41 hw)) (ty := .byte) (by decide)
    have F_value_xs : Fld Z h20 xs "java/lang/String" "value" "[B" .null := D20 (Or.inr (w_43 hw)) (ty := (.array .byte)) (by decide)
    refine g_dup at_411 rfl (pc' := 412) rfl ?_
    refine g_aload at_412 rfl rfl (pc' := 414) rfl ?_
    refine g_initB (W := 1) (argsL := [(.ref fa)]) (rest := [(.ref xs)]) at_414 rfl (w_18 hw) (w_19 hw) (w_20 hw) (by decide) (lenOf pd_29 rfl) (bk_str (len := 7) hws (w_16 hw) sz_xs E_xs F_value_xs F_coder_xs (Bf7.keep Kn20 nin0) hC hz lF (by decide) (by decide) hbd (by decide) (by decide)) (fun _ _ _ _ q => ⟨q.2.1, q.2.2.1⟩) (allS (List.mem_of_getElem? (i := 0) rfl) all0) rfl (Nat.le_of_eq rfl) rfl (by decide) (by decide) (pc' := 417) rfl ?_
    intro v21 h21 L21 q21
    obtain ⟨rfl, -, Kc21, ts, hts, Ss⟩ := q21
    refine g_static (W := 0) (argsL := [(.ref xs)]) (rest := []) at_417 (w_44 hw) (w_45 hw) (by decide) (lenOf pd_30 rfl) (c_parseB hw xs ts _ V z sf _ hC hz hF rsf Ss (by omega) hpos hV16 htl hB) (w_47 hw) (w_46 hw) (by decide) (by decide) (fun _ q => nomatch q) rfl (Nat.le_of_eq rfl) rfl (by decide) (by decide) (pc' := 420) rfl ?_
    intro w22 h22 q22 Kc22
    obtain ⟨r, v, tv, rfl, Er, Fr, Sv⟩ := q22
    refine g_astore at_420 rfl (L' := #[.val (.int p0), .val (.int p1), .val (.int p2), .val (.int p3), .val (.int 0), .val (.int (Int32.ofNat ld)), .val (.int (Int32.ofNat tr)), .val (.ref fa), .val (.ref ea), .val (.ref sa), .val (.int (Int32.ofNat K7)), .val (.ref r), .unset]) rfl (pc' := 422) rfl ?_
    refine g_aload at_422 rfl rfl (pc' := 424) rfl ?_
    refine g_virt (W := 0) (argsL := []) (rest := []) at_424 (w_154 hw) (w_155 hw) (nf_self (w_157 hw)) (w_157 hw) (w_156 hw) (by decide) (lenOf pd_21 rfl) Er (c_value hw r v _ Fr) (w_158 hw) (w_46 hw) (by decide) (by decide) (fun _ q => nomatch q) rfl (Nat.le_of_eq rfl) rfl (by decide) (by decide) (pc' := 427) rfl ?_
    intro w23 h23 q23 Kc23
    obtain ⟨rfl, rfl⟩ := q23
    refine g_astore at_427 rfl (L' := #[.val (.int p0), .val (.int p1), .val (.int p2), .val (.int p3), .val (.int 0), .val (.int (Int32.ofNat ld)), .val (.int (Int32.ofNat tr)), .val (.ref fa), .val (.ref ea), .val (.ref sa), .val (.int (Int32.ofNat K7)), .val (.ref r), .val (.ref v)]) rfl (pc' := 429) rfl ?_
    refine g_aload at_429 rfl rfl (pc' := 431) rfl ?_
    refine g_virt (W := 0) (argsL := []) (rest := []) at_431 (w_159 hw) (w_59 hw) (nf_self (w_61 hw)) (w_61 hw) (w_60 hw) (by decide) (lenOf pd_9 rfl) Sv.1 (c_len hw v tv V z _ hC hz Sv) (w_62 hw) (w_17 hw) (by decide) (by decide) (fun _ q => nomatch q) rfl (Nat.le_of_eq rfl) rfl (by decide) (by decide) (pc' := 434) rfl ?_
    intro w24 h24 q24 Kc24
    obtain ⟨rfl, rfl⟩ := q24
    refine g_iload at_434 rfl (pc' := 436) rfl ?_
    refine g_icmp_ne_f at_436 (by rw [hKV]) (pc' := 439) rfl ?_
    refine g_aload at_439 rfl rfl (pc' := 441) rfl ?_
    refine g_aload at_441 rfl rfl (pc' := 443) rfl ?_
    refine g_iload at_443 rfl (pc' := 445) rfl ?_
    refine g_iconst at_445 (v := 0) rfl (pc' := 446) rfl ?_
    refine g_static (W := 0) (argsL := [(.ref v), (.ref ea), (.int (Int32.ofNat K7)), (.int 0)]) (rest := []) at_446 (w_160 hw) (w_161 hw) (by decide) (lenOf pd_31 rfl) (c_same hw v ea tv V _ _ 0 z sf _ hC hz hF rsf Sv (((Be7.keep Kn20 nin0).keep Kc21 (ninS (Nat.ne_of_lt (Nat.lt_of_lt_of_le (Be7).lt (Nat.le_of_eq g20.symm))) nin0)).keep Kc22 nin0) hKV hVE (by omega)) (w_162 hw) (w_4 hw) (by decide) (by decide) (fun _ q => nomatch q) rfl (Nat.le_of_eq rfl) rfl (by decide) (by decide) (pc' := 449) rfl ?_
    intro w25 h25 q25 Kc25
    obtain ⟨rfl, rfl⟩ := q25
    refine g_if_eq_f at_449 (by decide) (pc' := 452) rfl ?_
    refine g_aload at_452 rfl rfl (pc' := 454) rfl ?_
    refine g_aload at_454 rfl rfl (pc' := 456) rfl ?_
    refine g_iload at_456 rfl (pc' := 458) rfl ?_
    refine g_iconst at_458 (v := 1) rfl (pc' := 459) rfl ?_
    refine g_static (W := 0) (argsL := [(.ref v), (.ref ea), (.int (Int32.ofNat K7)), (.int 1)]) (rest := []) at_459 (w_160 hw) (w_161 hw) (by decide) (lenOf pd_31 rfl) (c_same hw v ea tv V _ _ 1 z sf _ hC hz hF rsf Sv (((Be7.keep Kn20 nin0).keep Kc21 (ninS (Nat.ne_of_lt (Nat.lt_of_lt_of_le (Be7).lt (Nat.le_of_eq g20.symm))) nin0)).keep Kc22 nin0) hKV hVE (by omega)) (w_162 hw) (w_4 hw) (by decide) (by decide) (fun _ q => nomatch q) rfl (Nat.le_of_eq rfl) rfl (by decide) (by decide) (pc' := 462) rfl ?_
    intro w26 h26 q26 Kc26
    obtain ⟨rfl, rfl⟩ := q26
    refine g_if_eq_f at_462 (by decide) (pc' := 465) rfl ?_
    refine g_aload at_465 rfl rfl (pc' := 467) rfl ?_
    refine g_aload at_467 rfl rfl (pc' := 469) rfl ?_
    refine g_iload at_469 rfl (pc' := 471) rfl ?_
    refine g_iconst at_471 (v := 2) rfl (pc' := 472) rfl ?_
    refine g_static (W := 0) (argsL := [(.ref v), (.ref ea), (.int (Int32.ofNat K7)), (.int 2)]) (rest := []) at_472 (w_160 hw) (w_161 hw) (by decide) (lenOf pd_31 rfl) (c_same hw v ea tv V _ _ 2 z sf _ hC hz hF rsf Sv (((Be7.keep Kn20 nin0).keep Kc21 (ninS (Nat.ne_of_lt (Nat.lt_of_lt_of_le (Be7).lt (Nat.le_of_eq g20.symm))) nin0)).keep Kc22 nin0) hKV hVE (by omega)) (w_162 hw) (w_4 hw) (by decide) (by decide) (fun _ q => nomatch q) rfl (Nat.le_of_eq rfl) rfl (by decide) (by decide) (pc' := 475) rfl ?_
    intro w27 h27 q27 Kc27
    obtain ⟨rfl, rfl⟩ := q27
    refine g_if_eq_f at_475 (by decide) (pc' := 478) rfl ?_
    refine g_aload at_478 rfl rfl (pc' := 480) rfl ?_
    refine g_aload at_480 rfl rfl (pc' := 482) rfl ?_
    refine g_iload at_482 rfl (pc' := 484) rfl ?_
    refine g_iconst at_484 (v := 3) rfl (pc' := 485) rfl ?_
    refine g_static (W := 0) (argsL := [(.ref v), (.ref ea), (.int (Int32.ofNat K7)), (.int 3)]) (rest := []) at_485 (w_160 hw) (w_161 hw) (by decide) (lenOf pd_31 rfl) (c_same hw v ea tv V _ _ 3 z sf _ hC hz hF rsf Sv (((Be7.keep Kn20 nin0).keep Kc21 (ninS (Nat.ne_of_lt (Nat.lt_of_lt_of_le (Be7).lt (Nat.le_of_eq g20.symm))) nin0)).keep Kc22 nin0) hKV hVE (by omega)) (w_162 hw) (w_4 hw) (by decide) (by decide) (fun _ q => nomatch q) rfl (Nat.le_of_eq rfl) rfl (by decide) (by decide) (pc' := 488) rfl ?_
    intro w28 h28 q28 Kc28
    obtain ⟨rfl, rfl⟩ := q28
    refine g_if_eq_f at_488 (by decide) (pc' := 491) rfl ?_
    refine g_aload at_491 rfl rfl (pc' := 493) rfl ?_
    refine g_aload at_493 rfl rfl (pc' := 495) rfl ?_
    refine g_iload at_495 rfl (pc' := 497) rfl ?_
    refine g_iconst at_497 (v := 4) rfl (pc' := 498) rfl ?_
    refine g_static (W := 0) (argsL := [(.ref v), (.ref ea), (.int (Int32.ofNat K7)), (.int 4)]) (rest := []) at_498 (w_160 hw) (w_161 hw) (by decide) (lenOf pd_31 rfl) (c_same hw v ea tv V _ _ 4 z sf _ hC hz hF rsf Sv (((Be7.keep Kn20 nin0).keep Kc21 (ninS (Nat.ne_of_lt (Nat.lt_of_lt_of_le (Be7).lt (Nat.le_of_eq g20.symm))) nin0)).keep Kc22 nin0) hKV hVE (by omega)) (w_162 hw) (w_4 hw) (by decide) (by decide) (fun _ q => nomatch q) rfl (Nat.le_of_eq rfl) rfl (by decide) (by decide) (pc' := 501) rfl ?_
    intro w29 h29 q29 Kc29
    obtain ⟨rfl, rfl⟩ := q29
    refine g_if_eq_f at_501 (by decide) (pc' := 504) rfl ?_
    refine g_aload at_504 rfl rfl (pc' := 506) rfl ?_
    refine g_aload at_506 rfl rfl (pc' := 508) rfl ?_
    refine g_iload at_508 rfl (pc' := 510) rfl ?_
    refine g_iconst at_510 (v := 5) rfl (pc' := 511) rfl ?_
    refine g_static (W := 0) (argsL := [(.ref v), (.ref ea), (.int (Int32.ofNat K7)), (.int 5)]) (rest := []) at_511 (w_160 hw) (w_161 hw) (by decide) (lenOf pd_31 rfl) (c_same hw v ea tv V _ _ 5 z sf _ hC hz hF rsf Sv (((Be7.keep Kn20 nin0).keep Kc21 (ninS (Nat.ne_of_lt (Nat.lt_of_lt_of_le (Be7).lt (Nat.le_of_eq g20.symm))) nin0)).keep Kc22 nin0) hKV hVE (by omega)) (w_162 hw) (w_4 hw) (by decide) (by decide) (fun _ q => nomatch q) rfl (Nat.le_of_eq rfl) rfl (by decide) (by decide) (pc' := 514) rfl ?_
    intro w30 h30 q30 Kc30
    obtain ⟨rfl, rfl⟩ := q30
    refine g_if_eq_f at_514 (by decide) (pc' := 517) rfl ?_
    refine g_aload at_517 rfl rfl (pc' := 519) rfl ?_
    refine g_aload at_519 rfl rfl (pc' := 521) rfl ?_
    refine g_iload at_521 rfl (pc' := 523) rfl ?_
    refine g_bipush at_523 (v := 6) rfl (pc' := 525) rfl ?_
    refine g_static (W := 0) (argsL := [(.ref v), (.ref ea), (.int (Int32.ofNat K7)), (.int 6)]) (rest := []) at_525 (w_160 hw) (w_161 hw) (by decide) (lenOf pd_31 rfl) (c_same hw v ea tv V _ _ 6 z sf _ hC hz hF rsf Sv (((Be7.keep Kn20 nin0).keep Kc21 (ninS (Nat.ne_of_lt (Nat.lt_of_lt_of_le (Be7).lt (Nat.le_of_eq g20.symm))) nin0)).keep Kc22 nin0) hKV hVE (by omega)) (w_162 hw) (w_4 hw) (by decide) (by decide) (fun _ q => nomatch q) rfl (Nat.le_of_eq rfl) rfl (by decide) (by decide) (pc' := 528) rfl ?_
    intro w31 h31 q31 Kc31
    obtain ⟨rfl, rfl⟩ := q31
    refine g_if_eq_f at_528 (by decide) (pc' := 531) rfl ?_
    refine g_iconst at_531 (v := 1) rfl (pc' := 532) rfl ?_
    refine g_goto at_532 (pc' := 536) (by decide) rfl ?_
    exact g_ireturnN at_536 rfl (by simp) (z := 1) rfl rfl (by decide) (by decide)
  ·
    refine g_if_eq_f at_3 q (pc' := 6) rfl ?_
    refine g_iconst at_6 (v := 1) rfl (pc' := 7) rfl ?_
    refine g_goto at_7 (pc' := 11) (by decide) rfl ?_
    refine g_istore at_11 (L' := #[.val (.int p0), .val (.int p1), .val (.int p2), .val (.int p3), .val (.int 1), .unset, .unset, .unset, .unset, .unset, .unset, .unset, .unset]) rfl (pc' := 13) rfl ?_
    refine g_iloadN at_13 rfl (pc' := 14) rfl ?_
    refine g_iconst at_14 (v := 1) rfl (pc' := 15) rfl ?_
    refine g_iushr at_15 rfl (pc' := 16) rfl ?_
    refine g_iconst at_16 (v := 3) rfl (pc' := 17) rfl ?_
    refine g_iand at_17 (v := (Int32.ofNat ld)) hld (pc' := 18) rfl ?_
    refine g_istore at_18 (L' := #[.val (.int p0), .val (.int p1), .val (.int p2), .val (.int p3), .val (.int 1), .val (.int (Int32.ofNat ld)), .unset, .unset, .unset, .unset, .unset, .unset, .unset]) rfl (pc' := 20) rfl ?_
    refine g_iloadN at_20 rfl (pc' := 21) rfl ?_
    refine g_iconst at_21 (v := 3) rfl (pc' := 22) rfl ?_
    refine g_iushr at_22 rfl (pc' := 23) rfl ?_
    refine g_iconst at_23 (v := 3) rfl (pc' := 24) rfl ?_
    refine g_iand at_24 (v := (Int32.ofNat tr)) htr (pc' := 25) rfl ?_
    refine g_istore at_25 (L' := #[.val (.int p0), .val (.int p1), .val (.int p2), .val (.int p3), .val (.int 1), .val (.int (Int32.ofNat ld)), .val (.int (Int32.ofNat tr)), .unset, .unset, .unset, .unset, .unset, .unset]) rfl (pc' := 27) rfl ?_
    refine g_iload at_27 rfl (pc' := 29) rfl ?_
    refine g_if_eq_f at_29 (by decide) (pc' := 32) rfl ?_
    refine g_bipush at_32 (v := 9) rfl (pc' := 34) rfl ?_
    refine g_newA at_34 (w_0 hw) rfl (by decide) (cap := 9) (by decide) (by decide) (by decide) (by decide) (pc' := 36) rfl ?_
    intro fa h32 g32 Kn32 A_fa sz_fa
    replace A_fa : Ia Z h32 fa .char [0, 0, 0, 0, 0, 0, 0, 0, 0] := A_fa
    refine g_goto at_36 (pc' := 43) (by decide) rfl ?_
    refine g_astore at_43 rfl (L' := #[.val (.int p0), .val (.int p1), .val (.int p2), .val (.int p3), .val (.int 1), .val (.int (Int32.ofNat ld)), .val (.int (Int32.ofNat tr)), .val (.ref fa), .unset, .unset, .unset, .unset, .unset]) rfl (pc' := 45) rfl ?_
    refine g_bipush at_45 (v := 7) rfl (pc' := 47) rfl ?_
    refine g_newA at_47 (w_0 hw) rfl (by decide) (cap := 7) (by decide) (by decide) (by decide) (by decide) (pc' := 49) rfl ?_
    intro ea h33 g33 Kn33 A_ea sz_ea
    replace A_ea : Ia Z h33 ea .char [0, 0, 0, 0, 0, 0, 0] := A_ea
    refine g_astore at_49 rfl (L' := #[.val (.int p0), .val (.int p1), .val (.int p2), .val (.int p3), .val (.int 1), .val (.int (Int32.ofNat ld)), .val (.int (Int32.ofNat tr)), .val (.ref fa), .val (.ref ea), .unset, .unset, .unset, .unset]) rfl (pc' := 51) rfl ?_
    refine g_iconst at_51 (v := 2) rfl (pc' := 52) rfl ?_
    refine g_newA at_52 (w_1 hw) rfl (by decide) (cap := 2) (by decide) (by decide) (by decide) (by decide) (pc' := 54) rfl ?_
    intro sa h34 g34 Kn34 A_sa sz_sa
    replace A_sa : Ia Z h34 sa .int [0, 0] := A_sa
    refine g_astore at_54 rfl (L' := #[.val (.int p0), .val (.int p1), .val (.int p2), .val (.int p3), .val (.int 1), .val (.int (Int32.ofNat ld)), .val (.int (Int32.ofNat tr)), .val (.ref fa), .val (.ref ea), .val (.ref sa), .unset, .unset, .unset]) rfl (pc' := 56) rfl ?_
    refine g_aload at_56 rfl rfl (pc' := 58) rfl ?_
    refine g_iloadN at_58 rfl (pc' := 59) rfl ?_
    refine g_iconst at_59 (v := 0) rfl (pc' := 60) rfl ?_
    refine g_staticN (W := 0) (argsL := [(.ref fa), (.int p3), (.int 0)]) (rest := []) at_60 (w_2 hw) (w_3 hw) (by decide) (lenOf pd_27 rfl) (c_fill hw fa _ p3 0 _ ((A_fa.keep Kn33 nin0).keep Kn34 nin0) (by omega)) (w_5 hw) (w_4 hw) (by decide) (by decide) (allS ⟨(Or.inr sz_fa), (List.mem_of_getElem? (i := 2) rfl)⟩ all0) rfl (Nat.le_of_eq rfl) rfl (by decide) (by decide) (pc' := 63) rfl ?_
    intro w35 h35 q35 Kc35
    obtain ⟨d0, hd0, Af0⟩ := q35
    replace Af0 : Ia Z h35 fa .char [d0, 0, 0, 0, 0, 0, 0, 0, 0] := Af0
    refine g_aload at_63 rfl rfl (pc' := 65) rfl ?_
    refine g_iloadN at_65 rfl (pc' := 66) rfl ?_
    refine g_iconst at_66 (v := 1) rfl (pc' := 67) rfl ?_
    refine g_staticN (W := 0) (argsL := [(.ref fa), (.int p3), (.int 1)]) (rest := []) at_67 (w_2 hw) (w_3 hw) (by decide) (lenOf pd_27 rfl) (c_fill hw fa _ p3 1 _ Af0 (by omega)) (w_5 hw) (w_4 hw) (by decide) (by decide) (allS ⟨(Or.inr sz_fa), (List.mem_of_getElem? (i := 2) rfl)⟩ all0) rfl (Nat.le_of_eq rfl) rfl (by decide) (by decide) (pc' := 70) rfl ?_
    intro w36 h36 q36 Kc36
    obtain ⟨d1, hd1, Af1⟩ := q36
    replace Af1 : Ia Z h36 fa .char [d0, d1, 0, 0, 0, 0, 0, 0, 0] := Af1
    refine g_aload at_70 rfl rfl (pc' := 72) rfl ?_
    refine g_iloadN at_72 rfl (pc' := 73) rfl ?_
    refine g_iconst at_73 (v := 2) rfl (pc' := 74) rfl ?_
    refine g_staticN (W := 0) (argsL := [(.ref fa), (.int p3), (.int 2)]) (rest := []) at_74 (w_2 hw) (w_3 hw) (by decide) (lenOf pd_27 rfl) (c_fill hw fa _ p3 2 _ Af1 (by omega)) (w_5 hw) (w_4 hw) (by decide) (by decide) (allS ⟨(Or.inr sz_fa), (List.mem_of_getElem? (i := 2) rfl)⟩ all0) rfl (Nat.le_of_eq rfl) rfl (by decide) (by decide) (pc' := 77) rfl ?_
    intro w37 h37 q37 Kc37
    obtain ⟨d2, hd2, Af2⟩ := q37
    replace Af2 : Ia Z h37 fa .char [d0, d1, d2, 0, 0, 0, 0, 0, 0] := Af2
    refine g_aload at_77 rfl rfl (pc' := 79) rfl ?_
    refine g_iloadN at_79 rfl (pc' := 80) rfl ?_
    refine g_iconst at_80 (v := 3) rfl (pc' := 81) rfl ?_
    refine g_staticN (W := 0) (argsL := [(.ref fa), (.int p3), (.int 3)]) (rest := []) at_81 (w_2 hw) (w_3 hw) (by decide) (lenOf pd_27 rfl) (c_fill hw fa _ p3 3 _ Af2 (by omega)) (w_5 hw) (w_4 hw) (by decide) (by decide) (allS ⟨(Or.inr sz_fa), (List.mem_of_getElem? (i := 2) rfl)⟩ all0) rfl (Nat.le_of_eq rfl) rfl (by decide) (by decide) (pc' := 84) rfl ?_
    intro w38 h38 q38 Kc38
    obtain ⟨d3, hd3, Af3⟩ := q38
    replace Af3 : Ia Z h38 fa .char [d0, d1, d2, d3, 0, 0, 0, 0, 0] := Af3
    refine g_aload at_84 rfl rfl (pc' := 86) rfl ?_
    refine g_iloadN at_86 rfl (pc' := 87) rfl ?_
    refine g_iconst at_87 (v := 4) rfl (pc' := 88) rfl ?_
    refine g_staticN (W := 0) (argsL := [(.ref fa), (.int p3), (.int 4)]) (rest := []) at_88 (w_2 hw) (w_3 hw) (by decide) (lenOf pd_27 rfl) (c_fill hw fa _ p3 4 _ Af3 (by omega)) (w_5 hw) (w_4 hw) (by decide) (by decide) (allS ⟨(Or.inr sz_fa), (List.mem_of_getElem? (i := 2) rfl)⟩ all0) rfl (Nat.le_of_eq rfl) rfl (by decide) (by decide) (pc' := 91) rfl ?_
    intro w39 h39 q39 Kc39
    obtain ⟨d4, hd4, Af4⟩ := q39
    replace Af4 : Ia Z h39 fa .char [d0, d1, d2, d3, d4, 0, 0, 0, 0] := Af4
    refine g_aload at_91 rfl rfl (pc' := 93) rfl ?_
    refine g_iloadN at_93 rfl (pc' := 94) rfl ?_
    refine g_iconst at_94 (v := 5) rfl (pc' := 95) rfl ?_
    refine g_staticN (W := 0) (argsL := [(.ref fa), (.int p3), (.int 5)]) (rest := []) at_95 (w_2 hw) (w_3 hw) (by decide) (lenOf pd_27 rfl) (c_fill hw fa _ p3 5 _ Af4 (by omega)) (w_5 hw) (w_4 hw) (by decide) (by decide) (allS ⟨(Or.inr sz_fa), (List.mem_of_getElem? (i := 2) rfl)⟩ all0) rfl (Nat.le_of_eq rfl) rfl (by decide) (by decide) (pc' := 98) rfl ?_
    intro w40 h40 q40 Kc40
    obtain ⟨d5, hd5, Af5⟩ := q40
    replace Af5 : Ia Z h40 fa .char [d0, d1, d2, d3, d4, d5, 0, 0, 0] := Af5
    refine g_aload at_98 rfl rfl (pc' := 100) rfl ?_
    refine g_iloadN at_100 rfl (pc' := 101) rfl ?_
    refine g_bipush at_101 (v := 6) rfl (pc' := 103) rfl ?_
    refine g_staticN (W := 0) (argsL := [(.ref fa), (.int p3), (.int 6)]) (rest := []) at_103 (w_2 hw) (w_3 hw) (by decide) (lenOf pd_27 rfl) (c_fill hw fa _ p3 6 _ Af5 (by omega)) (w_5 hw) (w_4 hw) (by decide) (by decide) (allS ⟨(Or.inr sz_fa), (List.mem_of_getElem? (i := 2) rfl)⟩ all0) rfl (Nat.le_of_eq rfl) rfl (by decide) (by decide) (pc' := 106) rfl ?_
    intro w41 h41 q41 Kc41
    obtain ⟨d6, hd6, Af6⟩ := q41
    replace Af6 : Ia Z h41 fa .char [d0, d1, d2, d3, d4, d5, d6, 0, 0] := Af6
    refine g_aload at_106 rfl rfl (pc' := 108) rfl ?_
    refine g_iloadN at_108 rfl (pc' := 109) rfl ?_
    refine g_bipush at_109 (v := 7) rfl (pc' := 111) rfl ?_
    refine g_staticN (W := 0) (argsL := [(.ref fa), (.int p3), (.int 7)]) (rest := []) at_111 (w_2 hw) (w_3 hw) (by decide) (lenOf pd_27 rfl) (c_fill hw fa _ p3 7 _ Af6 (by omega)) (w_5 hw) (w_4 hw) (by decide) (by decide) (allS ⟨(Or.inr sz_fa), (List.mem_of_getElem? (i := 2) rfl)⟩ all0) rfl (Nat.le_of_eq rfl) rfl (by decide) (by decide) (pc' := 114) rfl ?_
    intro w42 h42 q42 Kc42
    obtain ⟨d7, hd7, Af7⟩ := q42
    replace Af7 : Ia Z h42 fa .char [d0, d1, d2, d3, d4, d5, d6, d7, 0] := Af7
    refine g_aload at_114 rfl rfl (pc' := 116) rfl ?_
    refine g_iloadN at_116 rfl (pc' := 117) rfl ?_
    refine g_bipush at_117 (v := 8) rfl (pc' := 119) rfl ?_
    refine g_staticN (W := 0) (argsL := [(.ref fa), (.int p3), (.int 8)]) (rest := []) at_119 (w_2 hw) (w_3 hw) (by decide) (lenOf pd_27 rfl) (c_fill hw fa _ p3 8 _ Af7 (by omega)) (w_5 hw) (w_4 hw) (by decide) (by decide) (allS ⟨(Or.inr sz_fa), (List.mem_of_getElem? (i := 2) rfl)⟩ all0) rfl (Nat.le_of_eq rfl) rfl (by decide) (by decide) (pc' := 122) rfl ?_
    intro w43 h43 q43 Kc43
    obtain ⟨d8, hd8, Af8⟩ := q43
    replace Af8 : Ia Z h43 fa .char [d0, d1, d2, d3, d4, d5, d6, d7, d8] := Af8
    refine g_iload at_122 rfl (pc' := 124) rfl ?_
    refine g_if_eq_f at_124 (by decide) (pc' := 127) rfl ?_
    have hw0 : ∀ d ∈ ([d0, d1, d2, d3, d4, d5, d6, d7, d8] : List Int32), isW d = true := by simp [hd0, hd1, hd2, hd3, hd4, hd5, hd6, hd7, hd8]
    refine g_bipush at_127 (v := 7) rfl (pc' := 129) rfl ?_
    refine g_iload at_129 rfl (pc' := 131) rfl ?_
    refine g_isub at_131 (v := (Int32.ofNat (7 - ld))) (ofNat_sub (a := 7) (by omega) (by omega)) (pc' := 132) rfl ?_
    refine g_iload at_132 rfl (pc' := 134) rfl ?_
    refine g_isub at_134 (v := (Int32.ofNat (7 - ld - tr))) (ofNat_sub (by omega) (by omega)) (pc' := 135) rfl ?_
    refine g_istore at_135 (L' := #[.val (.int p0), .val (.int p1), .val (.int p2), .val (.int p3), .val (.int 1), .val (.int (Int32.ofNat ld)), .val (.int (Int32.ofNat tr)), .val (.ref fa), .val (.ref ea), .val (.ref sa), .val (.int (Int32.ofNat (7 - ld - tr))), .unset, .unset]) rfl (pc' := 137) rfl ?_
    refine g_aload at_137 rfl rfl (pc' := 139) rfl ?_
    refine g_iload at_139 rfl (pc' := 141) rfl ?_
    refine g_bipush at_141 (v := 34) rfl (pc' := 143) rfl ?_
    refine g_castore at_143 Af8 (ofNat_lt (n := 10) (show ld < 10 by omega) (by omega)).1 (nat_i32 (show ld < 2 ^ 31 by omega)) (by simp; omega) (Or.inr sz_fa) (List.mem_of_getElem? (i := 2) rfl) (pc' := 144) rfl ?_
    intro h44 Kw44 A_fa_44
    replace A_fa_44 : Ia Z h44 fa .char (([d0, d1, d2, d3, d4, d5, d6, d7, d8] : List Int32).set ld 34) := (by rw [show nar .char 34 = 34 from by decide] at A_fa_44; exact A_fa_44)
    refine g_aload at_144 rfl rfl (pc' := 146) rfl ?_
    refine g_iload at_146 rfl (pc' := 148) rfl ?_
    refine g_iload at_148 rfl (pc' := 150) rfl ?_
    refine g_iadd at_150 (v := (Int32.ofNat (ld + (7 - ld - tr)))) (ofNat_add (by omega)) (pc' := 151) rfl ?_
    refine g_iconst at_151 (v := 1) rfl (pc' := 152) rfl ?_
    refine g_iadd at_152 (v := (Int32.ofNat (ld + (7 - ld - tr) + 1))) (ofNat_succ (by omega)) (pc' := 153) rfl ?_
    refine g_bipush at_153 (v := 34) rfl (pc' := 155) rfl ?_
    refine g_castore at_155 A_fa_44 (ofNat_lt (n := 10) (show ld + (7 - ld - tr) + 1 < 10 by omega) (by omega)).1 (nat_i32 (show ld + (7 - ld - tr) + 1 < 2 ^ 31 by omega)) (by simp; omega) (Or.inr sz_fa) (List.mem_of_getElem? (i := 2) rfl) (pc' := 156) rfl ?_
    intro h45 Kw45 A_fa_45
    replace A_fa_45 : Ia Z h45 fa .char ((([d0, d1, d2, d3, d4, d5, d6, d7, d8] : List Int32).set ld 34).set (ld + (7 - ld - tr) + 1) 34) := (by rw [show nar .char 34 = 34 from by decide] at A_fa_45; exact A_fa_45)
    have I0 : IQ (7 - ld - tr) ld 0 _ [0, 0, 0, 0, 0, 0, 0] 0 0 := IQ.start (m := (7 - ld - tr)) (ld := ld) (F := [d0, d1, d2, d3, d4, d5, d6, d7, d8]) (by omega) rfl rfl hw0
    refine g_aload at_156 rfl rfl (pc' := 158) rfl ?_
    refine g_aload at_158 rfl rfl (pc' := 160) rfl ?_
    refine g_aload at_160 rfl rfl (pc' := 162) rfl ?_
    refine g_iconst at_162 (v := 0) rfl (pc' := 163) rfl ?_
    refine g_iload at_163 rfl (pc' := 165) rfl ?_
    refine g_iload at_165 rfl (pc' := 167) rfl ?_
    refine g_iloadN at_167 rfl (pc' := 168) rfl ?_
    refine g_iloadN at_168 rfl (pc' := 169) rfl ?_
    refine g_iloadN at_169 rfl (pc' := 170) rfl ?_
    refine g_staticN (W := 0) (argsL := [(.ref fa), (.ref ea), (.ref sa), (.int 0), (.int (Int32.ofNat (7 - ld - tr))), (.int (Int32.ofNat ld)), (.int p0), (.int p1), (.int p3)]) (rest := []) at_170 (w_164 hw) (w_165 hw) (by decide) (lenOf pd_32 rfl) (c_qstep hw fa ea sa _ _ 0 0 (7 - ld - tr) ld 0 p0 p1 p3 _ A_fa_45 ((((((((((((A_ea.keep Kn34 nin0).keep Kc35 (ninS (Ne.symm (Nat.ne_of_lt (Nat.lt_of_lt_of_le (A_fa).lt (Nat.le_of_eq g33.symm)))) nin0)).keep Kc36 (ninS (Ne.symm (Nat.ne_of_lt (Nat.lt_of_lt_of_le (A_fa).lt (Nat.le_of_eq g33.symm)))) nin0)).keep Kc37 (ninS (Ne.symm (Nat.ne_of_lt (Nat.lt_of_lt_of_le (A_fa).lt (Nat.le_of_eq g33.symm)))) nin0)).keep Kc38 (ninS (Ne.symm (Nat.ne_of_lt (Nat.lt_of_lt_of_le (A_fa).lt (Nat.le_of_eq g33.symm)))) nin0)).keep Kc39 (ninS (Ne.symm (Nat.ne_of_lt (Nat.lt_of_lt_of_le (A_fa).lt (Nat.le_of_eq g33.symm)))) nin0)).keep Kc40 (ninS (Ne.symm (Nat.ne_of_lt (Nat.lt_of_lt_of_le (A_fa).lt (Nat.le_of_eq g33.symm)))) nin0)).keep Kc41 (ninS (Ne.symm (Nat.ne_of_lt (Nat.lt_of_lt_of_le (A_fa).lt (Nat.le_of_eq g33.symm)))) nin0)).keep Kc42 (ninS (Ne.symm (Nat.ne_of_lt (Nat.lt_of_lt_of_le (A_fa).lt (Nat.le_of_eq g33.symm)))) nin0)).keep Kc43 (ninS (Ne.symm (Nat.ne_of_lt (Nat.lt_of_lt_of_le (A_fa).lt (Nat.le_of_eq g33.symm)))) nin0)).keep Kw44 (ninS (Ne.symm (Nat.ne_of_lt (Nat.lt_of_lt_of_le (A_fa).lt (Nat.le_of_eq g33.symm)))) nin0)).keep Kw45 (ninS (Ne.symm (Nat.ne_of_lt (Nat.lt_of_lt_of_le (A_fa).lt (Nat.le_of_eq g33.symm)))) nin0)) (((((((((((A_sa.keep Kc35 (ninS (Ne.symm (Nat.ne_of_lt (Nat.lt_of_lt_of_le ((A_fa.keep Kn33 nin0)).lt (Nat.le_of_eq g34.symm)))) nin0)).keep Kc36 (ninS (Ne.symm (Nat.ne_of_lt (Nat.lt_of_lt_of_le ((A_fa.keep Kn33 nin0)).lt (Nat.le_of_eq g34.symm)))) nin0)).keep Kc37 (ninS (Ne.symm (Nat.ne_of_lt (Nat.lt_of_lt_of_le ((A_fa.keep Kn33 nin0)).lt (Nat.le_of_eq g34.symm)))) nin0)).keep Kc38 (ninS (Ne.symm (Nat.ne_of_lt (Nat.lt_of_lt_of_le ((A_fa.keep Kn33 nin0)).lt (Nat.le_of_eq g34.symm)))) nin0)).keep Kc39 (ninS (Ne.symm (Nat.ne_of_lt (Nat.lt_of_lt_of_le ((A_fa.keep Kn33 nin0)).lt (Nat.le_of_eq g34.symm)))) nin0)).keep Kc40 (ninS (Ne.symm (Nat.ne_of_lt (Nat.lt_of_lt_of_le ((A_fa.keep Kn33 nin0)).lt (Nat.le_of_eq g34.symm)))) nin0)).keep Kc41 (ninS (Ne.symm (Nat.ne_of_lt (Nat.lt_of_lt_of_le ((A_fa.keep Kn33 nin0)).lt (Nat.le_of_eq g34.symm)))) nin0)).keep Kc42 (ninS (Ne.symm (Nat.ne_of_lt (Nat.lt_of_lt_of_le ((A_fa.keep Kn33 nin0)).lt (Nat.le_of_eq g34.symm)))) nin0)).keep Kc43 (ninS (Ne.symm (Nat.ne_of_lt (Nat.lt_of_lt_of_le ((A_fa.keep Kn33 nin0)).lt (Nat.le_of_eq g34.symm)))) nin0)).keep Kw44 (ninS (Ne.symm (Nat.ne_of_lt (Nat.lt_of_lt_of_le ((A_fa.keep Kn33 nin0)).lt (Nat.le_of_eq g34.symm)))) nin0)).keep Kw45 (ninS (Ne.symm (Nat.ne_of_lt (Nat.lt_of_lt_of_le ((A_fa.keep Kn33 nin0)).lt (Nat.le_of_eq g34.symm)))) nin0)) (Nat.ne_of_lt (Nat.lt_of_lt_of_le (A_fa).lt (Nat.le_of_eq g33.symm))) (Nat.ne_of_lt (Nat.lt_of_lt_of_le ((A_fa.keep Kn33 nin0)).lt (Nat.le_of_eq g34.symm))) (Nat.ne_of_lt (Nat.lt_of_lt_of_le (A_ea).lt (Nat.le_of_eq g34.symm))) I0 (by omega)) (w_166 hw) (w_4 hw) (by decide) (by decide) (allS ⟨(Or.inr sz_fa), (List.mem_of_getElem? (i := 2) rfl)⟩ (allS ⟨(Or.inr sz_ea), (List.mem_of_getElem? (i := 1) rfl)⟩ (allS ⟨(Or.inr sz_sa), (List.mem_of_getElem? (i := 0) rfl)⟩ all0))) rfl (Nat.le_of_eq rfl) rfl (by decide) (by decide) (pc' := 173) rfl ?_
    intro w46 h46 q46 Kc46
    obtain ⟨F1, E1, K1, x1, I1, Bf1, Be1, Bs1⟩ := q46
    refine g_aload at_173 rfl rfl (pc' := 175) rfl ?_
    refine g_aload at_175 rfl rfl (pc' := 177) rfl ?_
    refine g_aload at_177 rfl rfl (pc' := 179) rfl ?_
    refine g_iconst at_179 (v := 1) rfl (pc' := 180) rfl ?_
    refine g_iload at_180 rfl (pc' := 182) rfl ?_
    refine g_iload at_182 rfl (pc' := 184) rfl ?_
    refine g_iloadN at_184 rfl (pc' := 185) rfl ?_
    refine g_iloadN at_185 rfl (pc' := 186) rfl ?_
    refine g_iloadN at_186 rfl (pc' := 187) rfl ?_
    refine g_staticN (W := 0) (argsL := [(.ref fa), (.ref ea), (.ref sa), (.int 1), (.int (Int32.ofNat (7 - ld - tr))), (.int (Int32.ofNat ld)), (.int p0), (.int p1), (.int p3)]) (rest := []) at_187 (w_164 hw) (w_165 hw) (by decide) (lenOf pd_32 rfl) (c_qstep hw fa ea sa _ _ K1 1 (7 - ld - tr) ld x1 p0 p1 p3 _ Bf1 Be1 Bs1 (Nat.ne_of_lt (Nat.lt_of_lt_of_le (A_fa).lt (Nat.le_of_eq g33.symm))) (Nat.ne_of_lt (Nat.lt_of_lt_of_le ((A_fa.keep Kn33 nin0)).lt (Nat.le_of_eq g34.symm))) (Nat.ne_of_lt (Nat.lt_of_lt_of_le (A_ea).lt (Nat.le_of_eq g34.symm))) I1 (by omega)) (w_166 hw) (w_4 hw) (by decide) (by decide) (allS ⟨(Or.inr sz_fa), (List.mem_of_getElem? (i := 2) rfl)⟩ (allS ⟨(Or.inr sz_ea), (List.mem_of_getElem? (i := 1) rfl)⟩ (allS ⟨(Or.inr sz_sa), (List.mem_of_getElem? (i := 0) rfl)⟩ all0))) rfl (Nat.le_of_eq rfl) rfl (by decide) (by decide) (pc' := 190) rfl ?_
    intro w47 h47 q47 Kc47
    obtain ⟨F2, E2, K2, x2, I2, Bf2, Be2, Bs2⟩ := q47
    refine g_aload at_190 rfl rfl (pc' := 192) rfl ?_
    refine g_aload at_192 rfl rfl (pc' := 194) rfl ?_
    refine g_aload at_194 rfl rfl (pc' := 196) rfl ?_
    refine g_iconst at_196 (v := 2) rfl (pc' := 197) rfl ?_
    refine g_iload at_197 rfl (pc' := 199) rfl ?_
    refine g_iload at_199 rfl (pc' := 201) rfl ?_
    refine g_iloadN at_201 rfl (pc' := 202) rfl ?_
    refine g_iloadN at_202 rfl (pc' := 203) rfl ?_
    refine g_iloadN at_203 rfl (pc' := 204) rfl ?_
    refine g_staticN (W := 0) (argsL := [(.ref fa), (.ref ea), (.ref sa), (.int 2), (.int (Int32.ofNat (7 - ld - tr))), (.int (Int32.ofNat ld)), (.int p0), (.int p1), (.int p3)]) (rest := []) at_204 (w_164 hw) (w_165 hw) (by decide) (lenOf pd_32 rfl) (c_qstep hw fa ea sa _ _ K2 2 (7 - ld - tr) ld x2 p0 p1 p3 _ Bf2 Be2 Bs2 (Nat.ne_of_lt (Nat.lt_of_lt_of_le (A_fa).lt (Nat.le_of_eq g33.symm))) (Nat.ne_of_lt (Nat.lt_of_lt_of_le ((A_fa.keep Kn33 nin0)).lt (Nat.le_of_eq g34.symm))) (Nat.ne_of_lt (Nat.lt_of_lt_of_le (A_ea).lt (Nat.le_of_eq g34.symm))) I2 (by omega)) (w_166 hw) (w_4 hw) (by decide) (by decide) (allS ⟨(Or.inr sz_fa), (List.mem_of_getElem? (i := 2) rfl)⟩ (allS ⟨(Or.inr sz_ea), (List.mem_of_getElem? (i := 1) rfl)⟩ (allS ⟨(Or.inr sz_sa), (List.mem_of_getElem? (i := 0) rfl)⟩ all0))) rfl (Nat.le_of_eq rfl) rfl (by decide) (by decide) (pc' := 207) rfl ?_
    intro w48 h48 q48 Kc48
    obtain ⟨F3, E3, K3, x3, I3, Bf3, Be3, Bs3⟩ := q48
    refine g_aload at_207 rfl rfl (pc' := 209) rfl ?_
    refine g_aload at_209 rfl rfl (pc' := 211) rfl ?_
    refine g_aload at_211 rfl rfl (pc' := 213) rfl ?_
    refine g_iconst at_213 (v := 3) rfl (pc' := 214) rfl ?_
    refine g_iload at_214 rfl (pc' := 216) rfl ?_
    refine g_iload at_216 rfl (pc' := 218) rfl ?_
    refine g_iloadN at_218 rfl (pc' := 219) rfl ?_
    refine g_iloadN at_219 rfl (pc' := 220) rfl ?_
    refine g_iloadN at_220 rfl (pc' := 221) rfl ?_
    refine g_staticN (W := 0) (argsL := [(.ref fa), (.ref ea), (.ref sa), (.int 3), (.int (Int32.ofNat (7 - ld - tr))), (.int (Int32.ofNat ld)), (.int p0), (.int p1), (.int p3)]) (rest := []) at_221 (w_164 hw) (w_165 hw) (by decide) (lenOf pd_32 rfl) (c_qstep hw fa ea sa _ _ K3 3 (7 - ld - tr) ld x3 p0 p1 p3 _ Bf3 Be3 Bs3 (Nat.ne_of_lt (Nat.lt_of_lt_of_le (A_fa).lt (Nat.le_of_eq g33.symm))) (Nat.ne_of_lt (Nat.lt_of_lt_of_le ((A_fa.keep Kn33 nin0)).lt (Nat.le_of_eq g34.symm))) (Nat.ne_of_lt (Nat.lt_of_lt_of_le (A_ea).lt (Nat.le_of_eq g34.symm))) I3 (by omega)) (w_166 hw) (w_4 hw) (by decide) (by decide) (allS ⟨(Or.inr sz_fa), (List.mem_of_getElem? (i := 2) rfl)⟩ (allS ⟨(Or.inr sz_ea), (List.mem_of_getElem? (i := 1) rfl)⟩ (allS ⟨(Or.inr sz_sa), (List.mem_of_getElem? (i := 0) rfl)⟩ all0))) rfl (Nat.le_of_eq rfl) rfl (by decide) (by decide) (pc' := 224) rfl ?_
    intro w49 h49 q49 Kc49
    obtain ⟨F4, E4, K4, x4, I4, Bf4, Be4, Bs4⟩ := q49
    refine g_aload at_224 rfl rfl (pc' := 226) rfl ?_
    refine g_aload at_226 rfl rfl (pc' := 228) rfl ?_
    refine g_aload at_228 rfl rfl (pc' := 230) rfl ?_
    refine g_iconst at_230 (v := 4) rfl (pc' := 231) rfl ?_
    refine g_iload at_231 rfl (pc' := 233) rfl ?_
    refine g_iload at_233 rfl (pc' := 235) rfl ?_
    refine g_iloadN at_235 rfl (pc' := 236) rfl ?_
    refine g_iloadN at_236 rfl (pc' := 237) rfl ?_
    refine g_iloadN at_237 rfl (pc' := 238) rfl ?_
    refine g_staticN (W := 0) (argsL := [(.ref fa), (.ref ea), (.ref sa), (.int 4), (.int (Int32.ofNat (7 - ld - tr))), (.int (Int32.ofNat ld)), (.int p0), (.int p1), (.int p3)]) (rest := []) at_238 (w_164 hw) (w_165 hw) (by decide) (lenOf pd_32 rfl) (c_qstep hw fa ea sa _ _ K4 4 (7 - ld - tr) ld x4 p0 p1 p3 _ Bf4 Be4 Bs4 (Nat.ne_of_lt (Nat.lt_of_lt_of_le (A_fa).lt (Nat.le_of_eq g33.symm))) (Nat.ne_of_lt (Nat.lt_of_lt_of_le ((A_fa.keep Kn33 nin0)).lt (Nat.le_of_eq g34.symm))) (Nat.ne_of_lt (Nat.lt_of_lt_of_le (A_ea).lt (Nat.le_of_eq g34.symm))) I4 (by omega)) (w_166 hw) (w_4 hw) (by decide) (by decide) (allS ⟨(Or.inr sz_fa), (List.mem_of_getElem? (i := 2) rfl)⟩ (allS ⟨(Or.inr sz_ea), (List.mem_of_getElem? (i := 1) rfl)⟩ (allS ⟨(Or.inr sz_sa), (List.mem_of_getElem? (i := 0) rfl)⟩ all0))) rfl (Nat.le_of_eq rfl) rfl (by decide) (by decide) (pc' := 241) rfl ?_
    intro w50 h50 q50 Kc50
    obtain ⟨F5, E5, K5, x5, I5, Bf5, Be5, Bs5⟩ := q50
    refine g_aload at_241 rfl rfl (pc' := 243) rfl ?_
    refine g_aload at_243 rfl rfl (pc' := 245) rfl ?_
    refine g_aload at_245 rfl rfl (pc' := 247) rfl ?_
    refine g_iconst at_247 (v := 5) rfl (pc' := 248) rfl ?_
    refine g_iload at_248 rfl (pc' := 250) rfl ?_
    refine g_iload at_250 rfl (pc' := 252) rfl ?_
    refine g_iloadN at_252 rfl (pc' := 253) rfl ?_
    refine g_iloadN at_253 rfl (pc' := 254) rfl ?_
    refine g_iloadN at_254 rfl (pc' := 255) rfl ?_
    refine g_staticN (W := 0) (argsL := [(.ref fa), (.ref ea), (.ref sa), (.int 5), (.int (Int32.ofNat (7 - ld - tr))), (.int (Int32.ofNat ld)), (.int p0), (.int p1), (.int p3)]) (rest := []) at_255 (w_164 hw) (w_165 hw) (by decide) (lenOf pd_32 rfl) (c_qstep hw fa ea sa _ _ K5 5 (7 - ld - tr) ld x5 p0 p1 p3 _ Bf5 Be5 Bs5 (Nat.ne_of_lt (Nat.lt_of_lt_of_le (A_fa).lt (Nat.le_of_eq g33.symm))) (Nat.ne_of_lt (Nat.lt_of_lt_of_le ((A_fa.keep Kn33 nin0)).lt (Nat.le_of_eq g34.symm))) (Nat.ne_of_lt (Nat.lt_of_lt_of_le (A_ea).lt (Nat.le_of_eq g34.symm))) I5 (by omega)) (w_166 hw) (w_4 hw) (by decide) (by decide) (allS ⟨(Or.inr sz_fa), (List.mem_of_getElem? (i := 2) rfl)⟩ (allS ⟨(Or.inr sz_ea), (List.mem_of_getElem? (i := 1) rfl)⟩ (allS ⟨(Or.inr sz_sa), (List.mem_of_getElem? (i := 0) rfl)⟩ all0))) rfl (Nat.le_of_eq rfl) rfl (by decide) (by decide) (pc' := 258) rfl ?_
    intro w51 h51 q51 Kc51
    obtain ⟨F6, E6, K6, x6, I6, Bf6, Be6, Bs6⟩ := q51
    refine g_aload at_258 rfl rfl (pc' := 260) rfl ?_
    refine g_aload at_260 rfl rfl (pc' := 262) rfl ?_
    refine g_aload at_262 rfl rfl (pc' := 264) rfl ?_
    refine g_bipush at_264 (v := 6) rfl (pc' := 266) rfl ?_
    refine g_iload at_266 rfl (pc' := 268) rfl ?_
    refine g_iload at_268 rfl (pc' := 270) rfl ?_
    refine g_iloadN at_270 rfl (pc' := 271) rfl ?_
    refine g_iloadN at_271 rfl (pc' := 272) rfl ?_
    refine g_iloadN at_272 rfl (pc' := 273) rfl ?_
    refine g_staticN (W := 0) (argsL := [(.ref fa), (.ref ea), (.ref sa), (.int 6), (.int (Int32.ofNat (7 - ld - tr))), (.int (Int32.ofNat ld)), (.int p0), (.int p1), (.int p3)]) (rest := []) at_273 (w_164 hw) (w_165 hw) (by decide) (lenOf pd_32 rfl) (c_qstep hw fa ea sa _ _ K6 6 (7 - ld - tr) ld x6 p0 p1 p3 _ Bf6 Be6 Bs6 (Nat.ne_of_lt (Nat.lt_of_lt_of_le (A_fa).lt (Nat.le_of_eq g33.symm))) (Nat.ne_of_lt (Nat.lt_of_lt_of_le ((A_fa.keep Kn33 nin0)).lt (Nat.le_of_eq g34.symm))) (Nat.ne_of_lt (Nat.lt_of_lt_of_le (A_ea).lt (Nat.le_of_eq g34.symm))) I6 (by omega)) (w_166 hw) (w_4 hw) (by decide) (by decide) (allS ⟨(Or.inr sz_fa), (List.mem_of_getElem? (i := 2) rfl)⟩ (allS ⟨(Or.inr sz_ea), (List.mem_of_getElem? (i := 1) rfl)⟩ (allS ⟨(Or.inr sz_sa), (List.mem_of_getElem? (i := 0) rfl)⟩ all0))) rfl (Nat.le_of_eq rfl) rfl (by decide) (by decide) (pc' := 276) rfl ?_
    intro w52 h52 q52 Kc52
    obtain ⟨F7, E7, K7, x7, I7, Bf7, Be7, Bs7⟩ := q52
    refine g_goto at_276 (pc' := 402) (by decide) rfl ?_
    have lF := I7.lens.1
    obtain ⟨mid, V, htl, hm16, hU, hKV, hpos, hV16, hVE, hbd⟩ := I7.fin (by omega)
    refine g_aload at_402 rfl rfl (pc' := 404) rfl ?_
    refine g_iconst at_404 (v := 0) rfl (pc' := 405) rfl ?_
    refine g_iaload at_405 Bs7 (by decide) (i := 0) rfl rfl (pc' := 406) rfl ?_
    refine g_istore at_406 (L' := #[.val (.int p0), .val (.int p1), .val (.int p2), .val (.int p3), .val (.int 1), .val (.int (Int32.ofNat ld)), .val (.int (Int32.ofNat tr)), .val (.ref fa), .val (.ref ea), .val (.ref sa), .val (.int (Int32.ofNat K7)), .unset, .unset]) rfl (pc' := 408) rfl ?_
    refine g_new at_408 (w_15 hw) (w_16 hw) (w_17 hw) (by decide) (by decide) (pc' := 411) rfl ?_
    intro xs h53 g53 Kn53 E_xs D53 sz_xs
    have F_coder_xs : Fld Z h53 xs "java/lang/String" "coder" "B" (.int 0) := D53 (Or.inr (w_41 hw)) (ty := .byte) (by decide)
    have F_value_xs : Fld Z h53 xs "java/lang/String" "value" "[B" .null := D53 (Or.inr (w_43 hw)) (ty := (.array .byte)) (by decide)
    refine g_dup at_411 rfl (pc' := 412) rfl ?_
    refine g_aload at_412 rfl rfl (pc' := 414) rfl ?_
    refine g_initB (W := 1) (argsL := [(.ref fa)]) (rest := [(.ref xs)]) at_414 rfl (w_18 hw) (w_19 hw) (w_20 hw) (by decide) (lenOf pd_29 rfl) (bk_str (len := 9) hws (w_16 hw) sz_xs E_xs F_value_xs F_coder_xs (Bf7.keep Kn53 nin0) hC hz lF (by decide) (by decide) hbd (by decide) (by decide)) (fun _ _ _ _ q => ⟨q.2.1, q.2.2.1⟩) (allS (List.mem_of_getElem? (i := 0) rfl) all0) rfl (Nat.le_of_eq rfl) rfl (by decide) (by decide) (pc' := 417) rfl ?_
    intro v54 h54 L54 q54
    obtain ⟨rfl, -, Kc54, ts, hts, Ss⟩ := q54
    refine g_static (W := 0) (argsL := [(.ref xs)]) (rest := []) at_417 (w_44 hw) (w_45 hw) (by decide) (lenOf pd_30 rfl) (c_parseQ hw xs ts _ mid V z sf _ hC hz hF rsf Ss (by omega) hpos hV16 htl hm16 hU) (w_47 hw) (w_46 hw) (by decide) (by decide) (fun _ q => nomatch q) rfl (Nat.le_of_eq rfl) rfl (by decide) (by decide) (pc' := 420) rfl ?_
    intro w55 h55 q55 Kc55
    obtain ⟨r, v, tv, rfl, Er, Fr, Sv⟩ := q55
    refine g_astore at_420 rfl (L' := #[.val (.int p0), .val (.int p1), .val (.int p2), .val (.int p3), .val (.int 1), .val (.int (Int32.ofNat ld)), .val (.int (Int32.ofNat tr)), .val (.ref fa), .val (.ref ea), .val (.ref sa), .val (.int (Int32.ofNat K7)), .val (.ref r), .unset]) rfl (pc' := 422) rfl ?_
    refine g_aload at_422 rfl rfl (pc' := 424) rfl ?_
    refine g_virt (W := 0) (argsL := []) (rest := []) at_424 (w_154 hw) (w_155 hw) (nf_self (w_157 hw)) (w_157 hw) (w_156 hw) (by decide) (lenOf pd_21 rfl) Er (c_value hw r v _ Fr) (w_158 hw) (w_46 hw) (by decide) (by decide) (fun _ q => nomatch q) rfl (Nat.le_of_eq rfl) rfl (by decide) (by decide) (pc' := 427) rfl ?_
    intro w56 h56 q56 Kc56
    obtain ⟨rfl, rfl⟩ := q56
    refine g_astore at_427 rfl (L' := #[.val (.int p0), .val (.int p1), .val (.int p2), .val (.int p3), .val (.int 1), .val (.int (Int32.ofNat ld)), .val (.int (Int32.ofNat tr)), .val (.ref fa), .val (.ref ea), .val (.ref sa), .val (.int (Int32.ofNat K7)), .val (.ref r), .val (.ref v)]) rfl (pc' := 429) rfl ?_
    refine g_aload at_429 rfl rfl (pc' := 431) rfl ?_
    refine g_virt (W := 0) (argsL := []) (rest := []) at_431 (w_159 hw) (w_59 hw) (nf_self (w_61 hw)) (w_61 hw) (w_60 hw) (by decide) (lenOf pd_9 rfl) Sv.1 (c_len hw v tv V z _ hC hz Sv) (w_62 hw) (w_17 hw) (by decide) (by decide) (fun _ q => nomatch q) rfl (Nat.le_of_eq rfl) rfl (by decide) (by decide) (pc' := 434) rfl ?_
    intro w57 h57 q57 Kc57
    obtain ⟨rfl, rfl⟩ := q57
    refine g_iload at_434 rfl (pc' := 436) rfl ?_
    refine g_icmp_ne_f at_436 (by rw [hKV]) (pc' := 439) rfl ?_
    refine g_aload at_439 rfl rfl (pc' := 441) rfl ?_
    refine g_aload at_441 rfl rfl (pc' := 443) rfl ?_
    refine g_iload at_443 rfl (pc' := 445) rfl ?_
    refine g_iconst at_445 (v := 0) rfl (pc' := 446) rfl ?_
    refine g_static (W := 0) (argsL := [(.ref v), (.ref ea), (.int (Int32.ofNat K7)), (.int 0)]) (rest := []) at_446 (w_160 hw) (w_161 hw) (by decide) (lenOf pd_31 rfl) (c_same hw v ea tv V _ _ 0 z sf _ hC hz hF rsf Sv (((Be7.keep Kn53 nin0).keep Kc54 (ninS (Nat.ne_of_lt (Nat.lt_of_lt_of_le (Be7).lt (Nat.le_of_eq g53.symm))) nin0)).keep Kc55 nin0) hKV hVE (by omega)) (w_162 hw) (w_4 hw) (by decide) (by decide) (fun _ q => nomatch q) rfl (Nat.le_of_eq rfl) rfl (by decide) (by decide) (pc' := 449) rfl ?_
    intro w58 h58 q58 Kc58
    obtain ⟨rfl, rfl⟩ := q58
    refine g_if_eq_f at_449 (by decide) (pc' := 452) rfl ?_
    refine g_aload at_452 rfl rfl (pc' := 454) rfl ?_
    refine g_aload at_454 rfl rfl (pc' := 456) rfl ?_
    refine g_iload at_456 rfl (pc' := 458) rfl ?_
    refine g_iconst at_458 (v := 1) rfl (pc' := 459) rfl ?_
    refine g_static (W := 0) (argsL := [(.ref v), (.ref ea), (.int (Int32.ofNat K7)), (.int 1)]) (rest := []) at_459 (w_160 hw) (w_161 hw) (by decide) (lenOf pd_31 rfl) (c_same hw v ea tv V _ _ 1 z sf _ hC hz hF rsf Sv (((Be7.keep Kn53 nin0).keep Kc54 (ninS (Nat.ne_of_lt (Nat.lt_of_lt_of_le (Be7).lt (Nat.le_of_eq g53.symm))) nin0)).keep Kc55 nin0) hKV hVE (by omega)) (w_162 hw) (w_4 hw) (by decide) (by decide) (fun _ q => nomatch q) rfl (Nat.le_of_eq rfl) rfl (by decide) (by decide) (pc' := 462) rfl ?_
    intro w59 h59 q59 Kc59
    obtain ⟨rfl, rfl⟩ := q59
    refine g_if_eq_f at_462 (by decide) (pc' := 465) rfl ?_
    refine g_aload at_465 rfl rfl (pc' := 467) rfl ?_
    refine g_aload at_467 rfl rfl (pc' := 469) rfl ?_
    refine g_iload at_469 rfl (pc' := 471) rfl ?_
    refine g_iconst at_471 (v := 2) rfl (pc' := 472) rfl ?_
    refine g_static (W := 0) (argsL := [(.ref v), (.ref ea), (.int (Int32.ofNat K7)), (.int 2)]) (rest := []) at_472 (w_160 hw) (w_161 hw) (by decide) (lenOf pd_31 rfl) (c_same hw v ea tv V _ _ 2 z sf _ hC hz hF rsf Sv (((Be7.keep Kn53 nin0).keep Kc54 (ninS (Nat.ne_of_lt (Nat.lt_of_lt_of_le (Be7).lt (Nat.le_of_eq g53.symm))) nin0)).keep Kc55 nin0) hKV hVE (by omega)) (w_162 hw) (w_4 hw) (by decide) (by decide) (fun _ q => nomatch q) rfl (Nat.le_of_eq rfl) rfl (by decide) (by decide) (pc' := 475) rfl ?_
    intro w60 h60 q60 Kc60
    obtain ⟨rfl, rfl⟩ := q60
    refine g_if_eq_f at_475 (by decide) (pc' := 478) rfl ?_
    refine g_aload at_478 rfl rfl (pc' := 480) rfl ?_
    refine g_aload at_480 rfl rfl (pc' := 482) rfl ?_
    refine g_iload at_482 rfl (pc' := 484) rfl ?_
    refine g_iconst at_484 (v := 3) rfl (pc' := 485) rfl ?_
    refine g_static (W := 0) (argsL := [(.ref v), (.ref ea), (.int (Int32.ofNat K7)), (.int 3)]) (rest := []) at_485 (w_160 hw) (w_161 hw) (by decide) (lenOf pd_31 rfl) (c_same hw v ea tv V _ _ 3 z sf _ hC hz hF rsf Sv (((Be7.keep Kn53 nin0).keep Kc54 (ninS (Nat.ne_of_lt (Nat.lt_of_lt_of_le (Be7).lt (Nat.le_of_eq g53.symm))) nin0)).keep Kc55 nin0) hKV hVE (by omega)) (w_162 hw) (w_4 hw) (by decide) (by decide) (fun _ q => nomatch q) rfl (Nat.le_of_eq rfl) rfl (by decide) (by decide) (pc' := 488) rfl ?_
    intro w61 h61 q61 Kc61
    obtain ⟨rfl, rfl⟩ := q61
    refine g_if_eq_f at_488 (by decide) (pc' := 491) rfl ?_
    refine g_aload at_491 rfl rfl (pc' := 493) rfl ?_
    refine g_aload at_493 rfl rfl (pc' := 495) rfl ?_
    refine g_iload at_495 rfl (pc' := 497) rfl ?_
    refine g_iconst at_497 (v := 4) rfl (pc' := 498) rfl ?_
    refine g_static (W := 0) (argsL := [(.ref v), (.ref ea), (.int (Int32.ofNat K7)), (.int 4)]) (rest := []) at_498 (w_160 hw) (w_161 hw) (by decide) (lenOf pd_31 rfl) (c_same hw v ea tv V _ _ 4 z sf _ hC hz hF rsf Sv (((Be7.keep Kn53 nin0).keep Kc54 (ninS (Nat.ne_of_lt (Nat.lt_of_lt_of_le (Be7).lt (Nat.le_of_eq g53.symm))) nin0)).keep Kc55 nin0) hKV hVE (by omega)) (w_162 hw) (w_4 hw) (by decide) (by decide) (fun _ q => nomatch q) rfl (Nat.le_of_eq rfl) rfl (by decide) (by decide) (pc' := 501) rfl ?_
    intro w62 h62 q62 Kc62
    obtain ⟨rfl, rfl⟩ := q62
    refine g_if_eq_f at_501 (by decide) (pc' := 504) rfl ?_
    refine g_aload at_504 rfl rfl (pc' := 506) rfl ?_
    refine g_aload at_506 rfl rfl (pc' := 508) rfl ?_
    refine g_iload at_508 rfl (pc' := 510) rfl ?_
    refine g_iconst at_510 (v := 5) rfl (pc' := 511) rfl ?_
    refine g_static (W := 0) (argsL := [(.ref v), (.ref ea), (.int (Int32.ofNat K7)), (.int 5)]) (rest := []) at_511 (w_160 hw) (w_161 hw) (by decide) (lenOf pd_31 rfl) (c_same hw v ea tv V _ _ 5 z sf _ hC hz hF rsf Sv (((Be7.keep Kn53 nin0).keep Kc54 (ninS (Nat.ne_of_lt (Nat.lt_of_lt_of_le (Be7).lt (Nat.le_of_eq g53.symm))) nin0)).keep Kc55 nin0) hKV hVE (by omega)) (w_162 hw) (w_4 hw) (by decide) (by decide) (fun _ q => nomatch q) rfl (Nat.le_of_eq rfl) rfl (by decide) (by decide) (pc' := 514) rfl ?_
    intro w63 h63 q63 Kc63
    obtain ⟨rfl, rfl⟩ := q63
    refine g_if_eq_f at_514 (by decide) (pc' := 517) rfl ?_
    refine g_aload at_517 rfl rfl (pc' := 519) rfl ?_
    refine g_aload at_519 rfl rfl (pc' := 521) rfl ?_
    refine g_iload at_521 rfl (pc' := 523) rfl ?_
    refine g_bipush at_523 (v := 6) rfl (pc' := 525) rfl ?_
    refine g_static (W := 0) (argsL := [(.ref v), (.ref ea), (.int (Int32.ofNat K7)), (.int 6)]) (rest := []) at_525 (w_160 hw) (w_161 hw) (by decide) (lenOf pd_31 rfl) (c_same hw v ea tv V _ _ 6 z sf _ hC hz hF rsf Sv (((Be7.keep Kn53 nin0).keep Kc54 (ninS (Nat.ne_of_lt (Nat.lt_of_lt_of_le (Be7).lt (Nat.le_of_eq g53.symm))) nin0)).keep Kc55 nin0) hKV hVE (by omega)) (w_162 hw) (w_4 hw) (by decide) (by decide) (fun _ q => nomatch q) rfl (Nat.le_of_eq rfl) rfl (by decide) (by decide) (pc' := 528) rfl ?_
    intro w64 h64 q64 Kc64
    obtain ⟨rfl, rfl⟩ := q64
    refine g_if_eq_f at_528 (by decide) (pc' := 531) rfl ?_
    refine g_iconst at_531 (v := 1) rfl (pc' := 532) rfl ?_
    refine g_goto at_532 (pc' := 536) (by decide) rfl ?_
    exact g_ireturnN at_536 rfl (by simp) (z := 1) rfl rfl (by decide) (by decide)
set_option maxRecDepth 65536 in
set_option maxHeartbeats 40000000 in
theorem comes_1 {Post : Tables → Env → Array Value → State → Outcome → State → Prop} (hpost : ∀ tb e args s v u, (limb_1_1.after args s (.returned v) u = true ∧ limb_1_2.after args s (.returned v) u = true ∧ True) → ReturnedEndW s (.returned v) u (Jvm.fieldLocs frame_1_writes args s ++ Jvm.arrayLocs frame_1_arrays args s ++ Jvm.staticLocs frame_1_statics s) 40 1280 → Post tb e args s (.returned v) u) :
    ArmFor flags0 classFile x code maxLocals ret World_1 tables_1 room_1 Calls_1 rest_1 Pre_1 Post := by
  intro l hfl _ _ p e ha hc hk s m args below hf hArg hHeap happ hP
  obtain ⟨hcalls, hrest, hpre⟩ := hP
  obtain ⟨-, -, -, hnamed, -, -, -, hat⟩ := (Spec.applies_iff hf).mp happ
  obtain ⟨hg, hn⟩ := and_e (Cond.before_iff.mp (show (Jvm.Cond.and given_1 narrow_1).before args s = true from hpre))
  obtain ⟨g1, g2⟩ := and_e hg
  obtain ⟨g3, g4⟩ := and_e g2
  obtain ⟨g5, g6⟩ := and_e g4
  obtain ⟨g7, g8⟩ := and_e g6
  obtain ⟨w0, w1, w2, w3, rfl⟩ : ∃ w0 w1 w2 w3 : Value, args = #[w0, w1, w2, w3] := by
    have hs : args.size = 4 := by simpa [Cond.value, given_1] using g1
    obtain ⟨L⟩ := args
    match L, hs with
    | [w0, w1, w2, w3], _ => exact ⟨w0, w1, w2, w3, rfl⟩
  have hw : Hw #[w0, w1, w2, w3] s := fun d (hd : d ∈ tables_1) => atoms_spec (ws := Jvm.Cond.code x code maxLocals ret :: tables_1) hat d (List.mem_cons_of_mem _ hd)
  have hfit : Fit s := fun {y c} hc i hi => by
    obtain ⟨ha, rfl⟩ := Array.getElem?_eq_some_iff.mp hc
    have q := List.all_eq_true.mp ((Array.all_eq_true_iff_forall_mem.mp hHeap) _ (Array.getElem_mem ha)) i (List.mem_range.mpr hi)
    simpa [Array.getElem?_eq_getElem hi] using q
  obtain ⟨hsets, hown0⟩ := atoms_of _ (rest_1_c_eq ▸ (show rest_1_c.before _ s = true from hrest))
  have hr0 := Cond.before_iff.mp hown0
  obtain ⟨zz, e_zz⟩ := is_v (Cond.before_iff.mp (hsets _ (List.mem_of_getElem? (i := 1) rfl)))
  have hC : Sta s s.heap "java/lang/String" "COMPACT_STRINGS" "Z" (.int zz) := Sta.start e_zz (Or.inl (hsets _ (List.mem_of_getElem? (i := 0) rfl)))
  have hz : ¬ zz = 0 := gotF (Cond.eq_ints e_zz (Term.int_eval (0))) (not_v (Cond.before_iff.mp (hsets _ (List.mem_of_getElem? (i := 2) rfl))))
  obtain ⟨sf, e_sf, rsf⟩ := isR_v (Cond.before_iff.mp (hsets _ (List.mem_of_getElem? (i := 8) rfl)))
  have hSF : Sta s s.heap "jdk/internal/util/Preconditions" "SIOOBE_FORMATTER" "Ljava/util/function/BiFunction;" sf := Sta.start e_sf (Or.inl (hsets _ (List.mem_of_getElem? (i := 7) rfl)))
  obtain ⟨i0, ei0⟩ := is_v g3
  obtain rfl : w0 = (.int i0) := Option.some.inj ei0
  obtain ⟨i1, ei1⟩ := is_v g5
  obtain rfl : w1 = (.int i1) := Option.some.inj ei1
  obtain ⟨i2, ei2⟩ := is_v g7
  obtain rfl : w2 = (.int i2) := Option.some.inj ei2
  obtain ⟨i3, ei3⟩ := is_v g8
  obtain rfl : w3 = (.int i3) := Option.some.inj ei3
  have hEW : EW s (#[] : Array Value) ELs := EW.nil
  have hCH : CHv s ELs s.vm s.heap := fun p hp => nomatch hp
  have C := c_law (l := l) (n0 := s.heap.size) hw i0 i1 i2 i3 zz sf s.heap hC hz hSF rsf
  obtain ⟨n, o, h1, h2, h3, v, L, rfl, ⟨⟨w, rfl, rfl, -, -⟩, N⟩, -, hq⟩ := C (Old.start s) (fun _ q => nomatch q) ⟨_, hEW⟩ p e ha hc hk s m _ below hf ((Spec.applies_iff_loose hf).mp happ).1 ⟨rfl, State.Warmed39.refl s, rfl, hCH, fun _ q => nomatch q⟩ trivial
  refine ⟨n, _, h1, h2, h3, hpost _ _ _ _ (some (.int 1)) _ ⟨Cond.after_iff.mpr rfl, Cond.after_iff.mpr (eq_i res_at (Term.int_eval (1)) rfl), trivial⟩ ⟨hq.1, hq.2.1, hq.2.2.1, (hq.2.2.2.sift fun y hy => Or.inr ((N y hy).elim (fun q => nomatch q) id)).mono (by decide) (by decide)⟩⟩
theorem main_1_1 : Claimed_1_1 := comes_1 fun _ _ _ _ _ _ h hF => ⟨h.1, hF⟩
theorem main_1_2 : Claimed_1_2 := comes_1 fun _ _ _ _ _ _ h hF => ⟨h.2.1, hF⟩
end Jvm.Pilot.@@N@@
namespace Jvm.Pilot.@@N@@
open Jvm Jvm.ClassFile Sem Op Lib Jvm.Free Jvm.Stand Jvm.Pilot.@@N@@.Jvm.D
/-! MADE BY PROGRAM (witnessworld.py) out of the Statement's table words and the real class files: 28 classes; the members and pool entries that the words name. The judged class is class 1, her method 1. -/
namespace start1
open Jvm.ClassFile
def u (s : String) : CpInfo := .utf8 (stringToUtf16 s)
/-- a pool by its gaps: so many unusable entries, then the entry; so many at the end -/
def gap : Nat → List CpInfo → List CpInfo
  | 0, r => r
  | n + 1, r => .unusable :: gap n r
def poolList (es : List (Nat × CpInfo)) (last : Nat) : List CpInfo := es.foldr (fun e r => gap e.1 (e.2 :: r)) (gap last [])
def pool (es : List (Nat × CpInfo)) (last : Nat) : Array CpInfo := ⟨poolList es last⟩
def fileOf (pool : Array CpInfo) (this : Nat) (attrs : Array Attribute := #[]) (ms : Array MethodInfo := #[]) (fl : Nat := 33) (sup : Nat := 0) (ifs : Array Nat := #[]) (fds : Array FieldInfo := #[]) : ClassFile where
  minorVersion := 0
  majorVersion := 65
  constantPool := pool
  accessFlags := fl
  thisClass := this
  superClass := sup
  interfaces := ifs
  fields := fds
  methods := ms
  attributes := attrs
def plain (name : String) (sup : Option ClassId) : Class where
  name := name
  kind := .ordinary
  loader := none
  accessFlags := 33
  super := sup
  interfaces := #[]
  cf := none
  fields := #[]
  methods := #[]
  instanceTypes := #[]
  staticTypes := #[]
  resolved := #[]
  callSites := []
  init := .initialized
  statics := none
  mirror := none

def pool0 : Array CpInfo := pool [(5, u "<init>"), (0, u "()V"), (1, .class_ 10), (1, u "java/lang/Object")] 113

def k0c0 : Code := { maxStack := 0, maxLocals := 1, code := object_method_1_code, exceptionTable := #[], attributes := #[] }
def k0m0 : Method := { name := "<init>", desc := "()V", sig := { parameters := [], returnType := none }, accessFlags := 1, code := some k0c0 }
/-- java/lang/Object -/
def k0 : Class := { plain "java/lang/Object" none with
  accessFlags := 33
  interfaces := #[]
  cf := some (fileOf pool0 8 #[] #[{ accessFlags := 1, nameIndex := 5, descriptorIndex := 6, attributes := #[] }] 33 0 #[] #[])
  fields := #[]
  methods := #[k0m0]
  instanceTypes := #[]
  staticTypes := #[]
  resolved := Array.replicate 124 none
  statics := none }

def pool1 : Array CpInfo := pool [(2, .class_ 4), (1, u "java/lang/Object"), (0, u "<init>"), (0, u "()V"), (0, .methodref 8 9), (0, .class_ 10), (0, .nameAndType 11 12), (0, u "com/example/anemone/anemone/IdempotencyKeyParsePinLaw"), (0, u "fillWs"), (0, u "([CII)V"), (0, .methodref 8 14), (0, .nameAndType 15 16), (0, u "quotedStep"), (0, u "([C[C[IIIIIII)V"), (0, .methodref 8 18), (0, .nameAndType 19 20), (0, u "bareStep"), (0, u "([C[C[IIIIII)V"), (0, .class_ 22), (0, u "java/lang/String"), (0, .methodref 21 24), (0, .nameAndType 5 25), (0, u "([C)V"), (0, .methodref 27 28), (0, .class_ 29), (0, .nameAndType 30 31), (0, u "com/example/anemone/anemone/IdempotencyKey"), (0, u "parse"), (0, u "(Ljava/lang/String;)Lcom/example/anemone/anemone/IdempotencyKey;"), (0, .methodref 27 33), (0, .nameAndType 34 35), (0, u "value"), (0, u "()Ljava/lang/String;"), (0, .methodref 21 37), (0, .nameAndType 38 39), (0, u "length"), (0, u "()I"), (0, .methodref 8 41), (0, .nameAndType 42 43), (0, u "same"), (0, u "(Ljava/lang/String;[CII)Z"), (0, .methodref 21 45), (0, .nameAndType 46 47), (0, u "charAt"), (0, u "(I)C"), (0, .methodref 8 49), (0, .nameAndType 50 51), (0, u "byteAt"), (0, u "(III)I"), (0, .methodref 8 53), (0, .nameAndType 54 47), (0, u "bareChar"), (0, .methodref 8 56), (0, .nameAndType 57 47), (0, u "plainQuotedChar"), (2, u "law"), (0, u "(IIII)Z")] 7

def k1m0 : Method := { name := "<init>", desc := "()V", sig := { parameters := [], returnType := none }, accessFlags := 2, code := none }
def k1c1 : Code := { maxStack := 9, maxLocals := 13, code := code, exceptionTable := #[], attributes := #[] }
def k1m1 : Method := { name := "law", desc := "(IIII)Z", sig := { parameters := [.int, .int, .int, .int], returnType := some .boolean }, accessFlags := 9, code := some k1c1 }
def k1c2 : Code := { maxStack := 3, maxLocals := 4, code := method_3_code, exceptionTable := #[], attributes := #[] }
def k1m2 : Method := { name := "same", desc := "(Ljava/lang/String;[CII)Z", sig := { parameters := [(.object "java/lang/String"), (.array .char), .int, .int], returnType := some .boolean }, accessFlags := 10, code := some k1c2 }
def k1c3 : Code := { maxStack := 4, maxLocals := 3, code := method_4_code, exceptionTable := #[], attributes := #[] }
def k1m3 : Method := { name := "fillWs", desc := "([CII)V", sig := { parameters := [(.array .char), .int, .int], returnType := none }, accessFlags := 10, code := some k1c3 }
def k1c4 : Code := { maxStack := 3, maxLocals := 4, code := method_5_code, exceptionTable := #[], attributes := #[] }
def k1m4 : Method := { name := "byteAt", desc := "(III)I", sig := { parameters := [.int, .int, .int], returnType := some .int }, accessFlags := 10, code := some k1c4 }
def k1c5 : Code := { maxStack := 3, maxLocals := 2, code := method_6_code, exceptionTable := #[], attributes := #[] }
def k1m5 : Method := { name := "bareChar", desc := "(I)C", sig := { parameters := [.int], returnType := some .char }, accessFlags := 10, code := some k1c5 }
def k1c6 : Code := { maxStack := 3, maxLocals := 2, code := method_7_code, exceptionTable := #[], attributes := #[] }
def k1m6 : Method := { name := "plainQuotedChar", desc := "(I)C", sig := { parameters := [.int], returnType := some .char }, accessFlags := 10, code := some k1c6 }
def k1c7 : Code := { maxStack := 4, maxLocals := 9, code := method_8_code, exceptionTable := #[], attributes := #[] }
def k1m7 : Method := { name := "bareStep", desc := "([C[C[IIIIII)V", sig := { parameters := [(.array .char), (.array .char), (.array .int), .int, .int, .int, .int, .int], returnType := none }, accessFlags := 10, code := some k1c7 }
def k1c8 : Code := { maxStack := 4, maxLocals := 12, code := method_9_code, exceptionTable := #[], attributes := #[] }
def k1m8 : Method := { name := "quotedStep", desc := "([C[C[IIIIIII)V", sig := { parameters := [(.array .char), (.array .char), (.array .int), .int, .int, .int, .int, .int, .int], returnType := none }, accessFlags := 10, code := some k1c8 }
/-- com/example/anemone/anemone/IdempotencyKeyParsePinLaw -/
def k1 : Class := { plain "com/example/anemone/anemone/IdempotencyKeyParsePinLaw" (some 0) with
  accessFlags := 49
  interfaces := #[]
  cf := some (fileOf pool1 8 #[] #[{ accessFlags := 2, nameIndex := 5, descriptorIndex := 6, attributes := #[] }, { accessFlags := 9, nameIndex := 60, descriptorIndex := 61, attributes := #[] }, { accessFlags := 10, nameIndex := 42, descriptorIndex := 43, attributes := #[] }, { accessFlags := 10, nameIndex := 11, descriptorIndex := 12, attributes := #[] }, { accessFlags := 10, nameIndex := 50, descriptorIndex := 51, attributes := #[] }, { accessFlags := 10, nameIndex := 54, descriptorIndex := 47, attributes := #[] }, { accessFlags := 10, nameIndex := 57, descriptorIndex := 47, attributes := #[] }, { accessFlags := 10, nameIndex := 19, descriptorIndex := 20, attributes := #[] }, { accessFlags := 10, nameIndex := 15, descriptorIndex := 16, attributes := #[] }] 49 2 #[] #[])
  fields := #[]
  methods := #[k1m0, k1m1, k1m2, k1m3, k1m4, k1m5, k1m6, k1m7, k1m8]
  instanceTypes := #[]
  staticTypes := #[]
  resolved := Array.replicate 69 none
  statics := none }

def pool2 : Array CpInfo := pool [(1, .class_ 2), (0, u "java/io/Serializable"), (0, .class_ 4), (0, u "java/lang/Object")] 2

/-- java/io/Serializable -/
def k2 : Class := { plain "java/io/Serializable" (some 0) with
  accessFlags := 1537
  interfaces := #[]
  cf := some (fileOf pool2 1 #[] #[] 1537 3 #[] #[])
  fields := #[]
  methods := #[]
  instanceTypes := #[]
  staticTypes := #[]
  resolved := Array.replicate 7 none
  statics := none }

def pool3 : Array CpInfo := pool [(1, .class_ 2), (0, u "java/lang/Comparable"), (0, .class_ 4), (0, u "java/lang/Object")] 7

/-- java/lang/Comparable -/
def k3 : Class := { plain "java/lang/Comparable" (some 0) with
  accessFlags := 1537
  interfaces := #[]
  cf := some (fileOf pool3 1 #[] #[] 1537 3 #[] #[])
  fields := #[]
  methods := #[]
  instanceTypes := #[]
  staticTypes := #[]
  resolved := Array.replicate 12 none
  statics := none }

def pool4 : Array CpInfo := pool [(2, .class_ 4), (1, u "java/lang/CharSequence"), (42, .class_ 48), (0, u "java/lang/CharSequence$1CodePointIterator"), (10, .class_ 60), (0, u "java/lang/CharSequence$1CharIterator"), (5, .class_ 67), (0, u "java/lang/Object")] 63

/-- java/lang/CharSequence -/
def k4 : Class := { plain "java/lang/CharSequence" (some 0) with
  accessFlags := 1537
  interfaces := #[]
  cf := some (fileOf pool4 2 #[.nestMembers #[47, 59]] #[] 1537 66 #[] #[])
  fields := #[]
  methods := #[]
  instanceTypes := #[]
  staticTypes := #[]
  resolved := Array.replicate 131 none
  statics := none }

def pool5 : Array CpInfo := pool [(1, .class_ 2), (0, u "java/lang/constant/Constable"), (0, .class_ 4), (0, u "java/lang/Object")] 6

/-- java/lang/constant/Constable -/
def k5 : Class := { plain "java/lang/constant/Constable" (some 0) with
  accessFlags := 1537
  interfaces := #[]
  cf := some (fileOf pool5 1 #[] #[] 1537 3 #[] #[])
  fields := #[]
  methods := #[]
  instanceTypes := #[]
  staticTypes := #[]
  resolved := Array.replicate 11 none
  statics := none }

def pool6 : Array CpInfo := pool [(1, .class_ 2), (0, u "java/lang/constant/ConstantDesc"), (0, .class_ 4), (0, u "java/lang/Object")] 32

/-- java/lang/constant/ConstantDesc -/
def k6 : Class := { plain "java/lang/constant/ConstantDesc" (some 0) with
  accessFlags := 1537
  interfaces := #[]
  cf := some (fileOf pool6 1 #[] #[] 1537 3 #[] #[])
  fields := #[]
  methods := #[]
  instanceTypes := #[]
  staticTypes := #[]
  resolved := Array.replicate 37 none
  statics := none }

def pool7 : Array CpInfo := pool [(1, .methodref 2 3), (0, .class_ 4), (0, .nameAndType 5 6), (0, u "java/lang/Object"), (0, u "<init>"), (0, u "()V"), (2, .fieldref 10 11), (0, .class_ 12), (0, .nameAndType 13 14), (0, u "java/lang/String"), (0, u "value"), (0, u "[B"), (0, .fieldref 10 16), (0, .nameAndType 17 18), (0, u "coder"), (0, u "B"), (2, u "hash"), (0, u "I"), (2, u "hashIsZero"), (0, u "Z"), (0, .methodref 10 28), (0, .nameAndType 5 29), (0, u "([CIILjava/lang/Void;)V"), (8, .fieldref 10 39), (0, .nameAndType 40 26), (0, u "COMPACT_STRINGS"), (1, .class_ 44), (1, u "java/lang/StringUTF16"), (0, u "compress"), (1, .methodref 42 48), (0, .nameAndType 49 50), (0, u "coderFromArrayLen"), (0, u "([BI)B"), (3, .methodref 55 56), (0, .class_ 57), (0, .nameAndType 58 59), (0, u "java/util/Arrays"), (0, u "copyOfRange"), (0, u "([BII)[B"), (47, .class_ 109), (1, u "java/lang/StringLatin1"), (32, u "()Z"), (34, .methodref 42 178), (0, .nameAndType 45 179), (0, u "([CII)[B"), (31, u "([BB)V"), (122, u "()I"), (0, .methodref 10 336), (0, .nameAndType 17 337), (0, u "()B"), (2, u "()[B"), (22, u "([BI)C"), (27, u "(II)V"), (35, u "(I)C"), (61, .methodref 10 490), (0, .nameAndType 5 491), (0, u "(Ljava/lang/AbstractStringBuilder;Ljava/lang/Void;)V"), (0, .methodref 10 493), (0, .nameAndType 494 142), (0, u "isLatin1"), (0, .methodref 107 496), (0, .nameAndType 497 363), (0, u "charAt"), (3, u "checkIndex"), (3, .methodref 10 506), (0, .nameAndType 507 334), (0, u "length"), (5, u "checkFromToIndex"), (7, .methodref 10 522), (0, .nameAndType 523 524), (0, u "checkBoundsBeginEnd"), (0, u "(III)V"), (24, .methodref 550 506), (0, .class_ 551), (0, u "java/lang/AbstractStringBuilder"), (0, .methodref 550 553), (0, .nameAndType 554 340), (0, u "getValue"), (20, .class_ 576), (0, u "java/lang/CharSequence"), (22, u "CASE_INSENSITIVE_ORDER"), (0, u "Ljava/util/Comparator;"), (82, u "substring"), (0, u "(II)Ljava/lang/String;"), (0, .methodref 107 686), (0, .nameAndType 687 688), (0, u "newString"), (0, u "([BII)Ljava/lang/String;"), (3, u "isEmpty"), (317, u "([C)V"), (36, .methodref 550 493), (5, .fieldref 1054 1055), (0, .class_ 1056), (0, .nameAndType 1057 1058), (0, u "jdk/internal/util/Preconditions"), (0, u "SIOOBE_FORMATTER"), (0, u "Ljava/util/function/BiFunction;"), (0, .methodref 1054 1060), (0, .nameAndType 501 1061), (0, u "(IILjava/util/function/BiFunction;)I"), (0, .methodref 1054 1063), (0, .nameAndType 513 1064), (0, u "(IIILjava/util/function/BiFunction;)I"), (36, u "serialPersistentFields"), (0, u "[Ljava/io/ObjectStreamField;"), (0, .class_ 1104), (0, u "java/lang/String$CaseInsensitiveComparator"), (1, .class_ 1107), (0, u "java/io/Serializable"), (0, .class_ 1109), (0, u "java/lang/Comparable"), (0, .class_ 1111), (0, u "java/lang/constant/Constable"), (0, .class_ 1113), (0, u "java/lang/constant/ConstantDesc"), (2, u "serialVersionUID"), (0, u "J"), (3, u "REPL"), (0, u "C"), (2, u "LATIN1"), (1, u "UTF16"), (105, u "(Ljava/lang/StringBuilder;)V")] 217

def k7m0 : Method := { name := "<init>", desc := "()V", sig := { parameters := [], returnType := none }, accessFlags := 1, code := none }
def k7c1 : Code := { maxStack := 5, maxLocals := 2, code := jdk_42_method_3_code, exceptionTable := #[], attributes := #[] }
def k7m1 : Method := { name := "<init>", desc := "([C)V", sig := { parameters := [(.array .char)], returnType := none }, accessFlags := 1, code := some k7c1 }
def k7c2 : Code := { maxStack := 3, maxLocals := 2, code := jdk_42_method_53_code, exceptionTable := #[], attributes := #[] }
def k7m2 : Method := { name := "<init>", desc := "(Ljava/lang/StringBuilder;)V", sig := { parameters := [(.object "java/lang/StringBuilder")], returnType := none }, accessFlags := 1, code := some k7c2 }
def k7c3 : Code := { maxStack := 2, maxLocals := 1, code := jdk_42_method_54_code, exceptionTable := #[], attributes := #[] }
def k7m3 : Method := { name := "length", desc := "()I", sig := { parameters := [], returnType := some .int }, accessFlags := 1, code := some k7c3 }
def k7c4 : Code := { maxStack := 1, maxLocals := 1, code := jdk_42_method_55_code, exceptionTable := #[], attributes := #[] }
def k7m4 : Method := { name := "isEmpty", desc := "()Z", sig := { parameters := [], returnType := some .boolean }, accessFlags := 1, code := some k7c4 }
def k7c5 : Code := { maxStack := 2, maxLocals := 2, code := jdk_42_method_56_code, exceptionTable := #[], attributes := #[] }
def k7m5 : Method := { name := "charAt", desc := "(I)C", sig := { parameters := [.int], returnType := some .char }, accessFlags := 1, code := some k7c5 }
def k7c6 : Code := { maxStack := 3, maxLocals := 5, code := jdk_42_method_92_code, exceptionTable := #[], attributes := #[] }
def k7m6 : Method := { name := "substring", desc := "(II)Ljava/lang/String;", sig := { parameters := [.int, .int], returnType := some (.object "java/lang/String") }, accessFlags := 1, code := some k7c6 }
def k7c7 : Code := { maxStack := 4, maxLocals := 6, code := jdk_42_method_149_code, exceptionTable := #[], attributes := #[] }
def k7m7 : Method := { name := "<init>", desc := "([CIILjava/lang/Void;)V", sig := { parameters := [(.array .char), .int, .int, (.object "java/lang/Void")], returnType := none }, accessFlags := 2, code := some k7c7 }
def k7c8 : Code := { maxStack := 5, maxLocals := 5, code := jdk_42_method_150_code, exceptionTable := #[], attributes := #[] }
def k7m8 : Method := { name := "<init>", desc := "(Ljava/lang/AbstractStringBuilder;Ljava/lang/Void;)V", sig := { parameters := [(.object "java/lang/AbstractStringBuilder"), (.object "java/lang/Void")], returnType := none }, accessFlags := 0, code := some k7c8 }
def k7c9 : Code := { maxStack := 2, maxLocals := 3, code := jdk_42_method_151_code, exceptionTable := #[], attributes := #[] }
def k7m9 : Method := { name := "<init>", desc := "([BB)V", sig := { parameters := [(.array .byte), .byte], returnType := none }, accessFlags := 0, code := some k7c9 }
def k7c10 : Code := { maxStack := 1, maxLocals := 1, code := jdk_42_method_152_code, exceptionTable := #[], attributes := #[] }
def k7m10 : Method := { name := "coder", desc := "()B", sig := { parameters := [], returnType := some .byte }, accessFlags := 0, code := some k7c10 }
def k7c11 : Code := { maxStack := 1, maxLocals := 1, code := jdk_42_method_154_code, exceptionTable := #[], attributes := #[] }
def k7m11 : Method := { name := "isLatin1", desc := "()Z", sig := { parameters := [], returnType := some .boolean }, accessFlags := 0, code := some k7c11 }
def k7c12 : Code := { maxStack := 3, maxLocals := 2, code := jdk_42_method_155_code, exceptionTable := #[], attributes := #[] }
def k7m12 : Method := { name := "checkIndex", desc := "(II)V", sig := { parameters := [.int, .int], returnType := none }, accessFlags := 8, code := some k7c12 }
def k7c13 : Code := { maxStack := 4, maxLocals := 3, code := jdk_42_method_158_code, exceptionTable := #[], attributes := #[] }
def k7m13 : Method := { name := "checkBoundsBeginEnd", desc := "(III)V", sig := { parameters := [.int, .int, .int], returnType := none }, accessFlags := 8, code := some k7c13 }
/-- java/lang/String -/
def k7 : Class := { plain "java/lang/String" (some 0) with
  accessFlags := 49
  interfaces := #[2, 3, 4, 5, 6]
  cf := some (fileOf pool7 10 #[.nestMembers #[1103]] #[{ accessFlags := 1, nameIndex := 5, descriptorIndex := 6, attributes := #[] }, { accessFlags := 1, nameIndex := 5, descriptorIndex := 1010, attributes := #[] }, { accessFlags := 1, nameIndex := 5, descriptorIndex := 1233, attributes := #[] }, { accessFlags := 1, nameIndex := 507, descriptorIndex := 334, attributes := #[] }, { accessFlags := 1, nameIndex := 692, descriptorIndex := 142, attributes := #[] }, { accessFlags := 1, nameIndex := 497, descriptorIndex := 427, attributes := #[] }, { accessFlags := 1, nameIndex := 683, descriptorIndex := 684, attributes := #[] }, { accessFlags := 2, nameIndex := 5, descriptorIndex := 29, attributes := #[] }, { accessFlags := 0, nameIndex := 5, descriptorIndex := 491, attributes := #[] }, { accessFlags := 0, nameIndex := 5, descriptorIndex := 211, attributes := #[] }, { accessFlags := 0, nameIndex := 17, descriptorIndex := 337, attributes := #[] }, { accessFlags := 0, nameIndex := 494, descriptorIndex := 142, attributes := #[] }, { accessFlags := 8, nameIndex := 501, descriptorIndex := 391, attributes := #[] }, { accessFlags := 8, nameIndex := 523, descriptorIndex := 524, attributes := #[] }] 49 2 #[1106, 1108, 575, 1110, 1112] #[{ accessFlags := 18, nameIndex := 13, descriptorIndex := 14, attributes := #[] }, { accessFlags := 18, nameIndex := 17, descriptorIndex := 18, attributes := #[] }, { accessFlags := 2, nameIndex := 21, descriptorIndex := 22, attributes := #[] }, { accessFlags := 2, nameIndex := 25, descriptorIndex := 26, attributes := #[] }, { accessFlags := 26, nameIndex := 1116, descriptorIndex := 1117, attributes := #[] }, { accessFlags := 24, nameIndex := 40, descriptorIndex := 26, attributes := #[] }, { accessFlags := 26, nameIndex := 1101, descriptorIndex := 1102, attributes := #[] }, { accessFlags := 26, nameIndex := 1121, descriptorIndex := 1122, attributes := #[] }, { accessFlags := 25, nameIndex := 599, descriptorIndex := 600, attributes := #[] }, { accessFlags := 24, nameIndex := 1125, descriptorIndex := 18, attributes := #[] }, { accessFlags := 24, nameIndex := 1127, descriptorIndex := 18, attributes := #[] }])
  fields := #[{ name := "value", type := (.array .byte), accessFlags := 18, slot := 0, constantValue := 0 }, { name := "coder", type := .byte, accessFlags := 18, slot := 1, constantValue := 0 }, { name := "hash", type := .int, accessFlags := 2, slot := 2, constantValue := 0 }, { name := "hashIsZero", type := .boolean, accessFlags := 2, slot := 3, constantValue := 0 }, { name := "serialVersionUID", type := .long, accessFlags := 26, slot := 0, constantValue := 0 }, { name := "COMPACT_STRINGS", type := .boolean, accessFlags := 24, slot := 1, constantValue := 0 }, { name := "serialPersistentFields", type := (.array (.object "java/io/ObjectStreamField")), accessFlags := 26, slot := 2, constantValue := 0 }, { name := "REPL", type := .char, accessFlags := 26, slot := 3, constantValue := 0 }, { name := "CASE_INSENSITIVE_ORDER", type := (.object "java/util/Comparator"), accessFlags := 25, slot := 4, constantValue := 0 }, { name := "LATIN1", type := .byte, accessFlags := 24, slot := 5, constantValue := 0 }, { name := "UTF16", type := .byte, accessFlags := 24, slot := 6, constantValue := 0 }]
  methods := #[k7m0, k7m1, k7m2, k7m3, k7m4, k7m5, k7m6, k7m7, k7m8, k7m9, k7m10, k7m11, k7m12, k7m13]
  instanceTypes := #[(.array .byte), .byte, .int, .boolean]
  staticTypes := #[.long, .boolean, (.array (.object "java/io/ObjectStreamField")), .char, (.object "java/util/Comparator"), .byte, .byte]
  resolved := Array.replicate 1451 none
  statics := some 0 }

def pool8 : Array CpInfo := pool [(6, .class_ 8), (1, u "java/lang/Object"), (0, u "<init>"), (0, u "()V"), (1, .class_ 14), (1, u "java/lang/StringUTF16"), (31, u "$assertionsDisabled"), (0, u "Z"), (13, u "HI_BYTE_SHIFT"), (0, u "I"), (2, u "LO_BYTE_SHIFT"), (49, .methodref 12 116), (0, .nameAndType 117 118), (0, u "compress"), (0, u "([CI[BII)I"), (3, u "([CII)[B"), (138, u "coderFromArrayLen"), (0, u "([BI)B"), (106, .class_ 371), (1, u "java/lang/StringUTF16$LinesSpliterator"), (58, u "MAX_LENGTH"), (196, .class_ 628), (0, u "java/lang/StringUTF16$CodePointsSpliterator"), (0, .class_ 630), (0, u "java/lang/StringUTF16$CharsSpliterator")] 4

def k8m0 : Method := { name := "<init>", desc := "()V", sig := { parameters := [], returnType := none }, accessFlags := 0, code := none }
def k8c1 : Code := { maxStack := 2, maxLocals := 2, code := jdk_52_method_15_code, exceptionTable := #[], attributes := #[] }
def k8m1 : Method := { name := "coderFromArrayLen", desc := "([BI)B", sig := { parameters := [(.array .byte), .int], returnType := some .byte }, accessFlags := 8, code := some k8c1 }
def k8c2 : Code := { maxStack := 5, maxLocals := 6, code := jdk_52_method_16_code, exceptionTable := #[], attributes := #[] }
def k8m2 : Method := { name := "compress", desc := "([CII)[B", sig := { parameters := [(.array .char), .int, .int], returnType := some (.array .byte) }, accessFlags := 9, code := some k8c2 }
def k8c3 : Code := { maxStack := 3, maxLocals := 7, code := jdk_52_method_21_code, exceptionTable := #[], attributes := #[] }
def k8m3 : Method := { name := "compress", desc := "([CI[BII)I", sig := { parameters := [(.array .char), .int, (.array .byte), .int, .int], returnType := some .int }, accessFlags := 9, code := some k8c3 }
/-- java/lang/StringUTF16 -/
def k8 : Class := { plain "java/lang/StringUTF16" (some 0) with
  accessFlags := 48
  interfaces := #[]
  cf := some (fileOf pool8 12 #[.nestMembers #[627, 629, 369]] #[{ accessFlags := 0, nameIndex := 9, descriptorIndex := 10, attributes := #[] }, { accessFlags := 8, nameIndex := 261, descriptorIndex := 262, attributes := #[] }, { accessFlags := 9, nameIndex := 117, descriptorIndex := 122, attributes := #[] }, { accessFlags := 9, nameIndex := 117, descriptorIndex := 118, attributes := #[] }] 48 6 #[] #[{ accessFlags := 26, nameIndex := 61, descriptorIndex := 62, attributes := #[] }, { accessFlags := 26, nameIndex := 65, descriptorIndex := 62, attributes := #[] }, { accessFlags := 24, nameIndex := 430, descriptorIndex := 62, attributes := #[] }, { accessFlags := 4120, nameIndex := 46, descriptorIndex := 47, attributes := #[] }])
  fields := #[{ name := "HI_BYTE_SHIFT", type := .int, accessFlags := 26, slot := 0, constantValue := 0 }, { name := "LO_BYTE_SHIFT", type := .int, accessFlags := 26, slot := 1, constantValue := 0 }, { name := "MAX_LENGTH", type := .int, accessFlags := 24, slot := 2, constantValue := 0 }, { name := "$assertionsDisabled", type := .boolean, accessFlags := 4120, slot := 3, constantValue := 0 }]
  methods := #[k8m0, k8m1, k8m2, k8m3]
  instanceTypes := #[]
  staticTypes := #[.int, .int, .int, .boolean]
  resolved := Array.replicate 635 none
  statics := none }

def pool9 : Array CpInfo := pool [(1, .methodref 2 3), (0, .class_ 4), (0, .nameAndType 5 6), (0, u "java/lang/Object"), (0, u "<init>"), (0, u "()V"), (0, .class_ 8), (0, u "java/lang/Record")] 13

def k9c0 : Code := { maxStack := 1, maxLocals := 1, code := jdk_30_method_1_code, exceptionTable := #[], attributes := #[] }
def k9m0 : Method := { name := "<init>", desc := "()V", sig := { parameters := [], returnType := none }, accessFlags := 4, code := some k9c0 }
/-- java/lang/Record -/
def k9 : Class := { plain "java/lang/Record" (some 0) with
  accessFlags := 1057
  interfaces := #[]
  cf := some (fileOf pool9 7 #[] #[{ accessFlags := 4, nameIndex := 5, descriptorIndex := 6, attributes := #[] }] 1057 2 #[] #[])
  fields := #[]
  methods := #[k9m0]
  instanceTypes := #[]
  staticTypes := #[]
  resolved := Array.replicate 22 none
  statics := none }

def pool10 : Array CpInfo := pool [(1, .methodref 2 3), (0, .class_ 4), (0, .nameAndType 5 6), (0, u "java/lang/Record"), (0, u "<init>"), (0, u "()V"), (0, .fieldref 8 9), (0, .class_ 10), (0, .nameAndType 11 12), (0, u "com/example/anemone/anemone/IdempotencyKey"), (0, u "value"), (0, u "Ljava/lang/String;"), (0, .string 14), (0, u "field"), (0, .methodref 16 17), (0, .class_ 18), (0, .nameAndType 19 20), (0, u "java/util/Objects"), (0, u "requireNonNull"), (0, u "(Ljava/lang/Object;Ljava/lang/String;)Ljava/lang/Object;"), (0, .methodref 8 22), (0, .nameAndType 23 24), (0, u "withoutSurroundingWhitespace"), (0, u "(Ljava/lang/String;)Ljava/lang/String;"), (0, .methodref 26 27), (0, .class_ 28), (0, .nameAndType 29 30), (0, u "java/lang/String"), (0, u "isEmpty"), (0, u "()Z"), (0, .methodref 26 32), (0, .nameAndType 33 34), (0, u "charAt"), (0, u "(I)C"), (0, .methodref 8 36), (0, .nameAndType 37 24), (0, u "unquote"), (0, .methodref 8 39), (0, .nameAndType 40 41), (0, u "requireBare"), (0, u "(Ljava/lang/String;)V"), (0, .methodref 26 43), (0, .nameAndType 44 45), (0, u "length"), (0, u "()I"), (5, .nameAndType 5 41), (0, .methodref 8 51), (0, .class_ 54), (0, u "java/lang/StringBuilder"), (0, .methodref 53 56), (0, .nameAndType 5 57), (0, u "(I)V"), (2, .methodref 53 61), (0, .nameAndType 62 63), (0, u "append"), (0, u "(C)Ljava/lang/StringBuilder;"), (0, .methodref 8 65), (0, .nameAndType 66 67), (0, u "isPrintable"), (0, u "(C)Z"), (6, .methodref 53 75), (0, .nameAndType 76 77), (0, u "toString"), (0, u "()Ljava/lang/String;"), (2, .methodref 8 81), (0, .nameAndType 82 67), (0, u "isSpaceOrTab"), (0, .methodref 26 84), (0, .nameAndType 85 86), (0, u "substring"), (0, u "(II)Ljava/lang/String;"), (23, u "METHODS"), (0, u "Ljava/util/Set;"), (0, u "FIELD_NAME"), (5, u "MAX_LENGTH"), (0, u "I"), (1, u "QUOTE"), (0, u "C"), (1, u "BACKSLASH"), (1, u "COMMA"), (1, u "SPACE"), (1, u "TAB"), (1, u "LOWEST_PRINTABLE"), (0, u "HIGHEST_PRINTABLE"), (1, u "NOT_PRINTABLE"), (3, u "parse"), (0, u "(Ljava/lang/String;)Lcom/example/anemone/anemone/IdempotencyKey;")] 22

def k10c0 : Code := { maxStack := 2, maxLocals := 2, code := prog_8_method_1_code, exceptionTable := #[], attributes := #[] }
def k10m0 : Method := { name := "<init>", desc := "(Ljava/lang/String;)V", sig := { parameters := [(.object "java/lang/String")], returnType := none }, accessFlags := 0, code := some k10c0 }
def k10c1 : Code := { maxStack := 3, maxLocals := 3, code := prog_8_method_2_code, exceptionTable := #[], attributes := #[] }
def k10m1 : Method := { name := "parse", desc := "(Ljava/lang/String;)Lcom/example/anemone/anemone/IdempotencyKey;", sig := { parameters := [(.object "java/lang/String")], returnType := some (.object "com/example/anemone/anemone/IdempotencyKey") }, accessFlags := 8, code := some k10c1 }
def k10c2 : Code := { maxStack := 3, maxLocals := 6, code := prog_8_method_3_code, exceptionTable := #[], attributes := #[] }
def k10m2 : Method := { name := "unquote", desc := "(Ljava/lang/String;)Ljava/lang/String;", sig := { parameters := [(.object "java/lang/String")], returnType := some (.object "java/lang/String") }, accessFlags := 10, code := some k10c2 }
def k10c3 : Code := { maxStack := 3, maxLocals := 3, code := prog_8_method_4_code, exceptionTable := #[], attributes := #[] }
def k10m3 : Method := { name := "requireBare", desc := "(Ljava/lang/String;)V", sig := { parameters := [(.object "java/lang/String")], returnType := none }, accessFlags := 10, code := some k10c3 }
def k10c4 : Code := { maxStack := 3, maxLocals := 3, code := prog_8_method_5_code, exceptionTable := #[], attributes := #[] }
def k10m4 : Method := { name := "withoutSurroundingWhitespace", desc := "(Ljava/lang/String;)Ljava/lang/String;", sig := { parameters := [(.object "java/lang/String")], returnType := some (.object "java/lang/String") }, accessFlags := 10, code := some k10c4 }
def k10c5 : Code := { maxStack := 2, maxLocals := 1, code := prog_8_method_6_code, exceptionTable := #[], attributes := #[] }
def k10m5 : Method := { name := "isSpaceOrTab", desc := "(C)Z", sig := { parameters := [.char], returnType := some .boolean }, accessFlags := 10, code := some k10c5 }
def k10c6 : Code := { maxStack := 2, maxLocals := 1, code := prog_8_method_7_code, exceptionTable := #[], attributes := #[] }
def k10m6 : Method := { name := "isPrintable", desc := "(C)Z", sig := { parameters := [.char], returnType := some .boolean }, accessFlags := 10, code := some k10c6 }
def k10c7 : Code := { maxStack := 1, maxLocals := 1, code := prog_8_method_11_code, exceptionTable := #[], attributes := #[] }
def k10m7 : Method := { name := "value", desc := "()Ljava/lang/String;", sig := { parameters := [], returnType := some (.object "java/lang/String") }, accessFlags := 1, code := some k10c7 }
/-- com/example/anemone/anemone/IdempotencyKey -/
def k10 : Class := { plain "com/example/anemone/anemone/IdempotencyKey" (some 9) with
  accessFlags := 48
  interfaces := #[]
  cf := some (fileOf pool10 8 #[] #[{ accessFlags := 0, nameIndex := 5, descriptorIndex := 41, attributes := #[] }, { accessFlags := 8, nameIndex := 139, descriptorIndex := 140, attributes := #[] }, { accessFlags := 10, nameIndex := 37, descriptorIndex := 24, attributes := #[] }, { accessFlags := 10, nameIndex := 40, descriptorIndex := 41, attributes := #[] }, { accessFlags := 10, nameIndex := 23, descriptorIndex := 24, attributes := #[] }, { accessFlags := 10, nameIndex := 82, descriptorIndex := 67, attributes := #[] }, { accessFlags := 10, nameIndex := 66, descriptorIndex := 67, attributes := #[] }, { accessFlags := 1, nameIndex := 11, descriptorIndex := 77, attributes := #[] }] 48 2 #[] #[{ accessFlags := 18, nameIndex := 11, descriptorIndex := 12, attributes := #[] }, { accessFlags := 24, nameIndex := 112, descriptorIndex := 12, attributes := #[] }, { accessFlags := 24, nameIndex := 110, descriptorIndex := 111, attributes := #[] }, { accessFlags := 24, nameIndex := 118, descriptorIndex := 119, attributes := #[] }, { accessFlags := 26, nameIndex := 121, descriptorIndex := 122, attributes := #[] }, { accessFlags := 26, nameIndex := 124, descriptorIndex := 122, attributes := #[] }, { accessFlags := 26, nameIndex := 126, descriptorIndex := 122, attributes := #[] }, { accessFlags := 26, nameIndex := 128, descriptorIndex := 122, attributes := #[] }, { accessFlags := 26, nameIndex := 130, descriptorIndex := 122, attributes := #[] }, { accessFlags := 26, nameIndex := 132, descriptorIndex := 122, attributes := #[] }, { accessFlags := 26, nameIndex := 133, descriptorIndex := 122, attributes := #[] }, { accessFlags := 26, nameIndex := 135, descriptorIndex := 12, attributes := #[] }])
  fields := #[{ name := "value", type := (.object "java/lang/String"), accessFlags := 18, slot := 0, constantValue := 0 }, { name := "FIELD_NAME", type := (.object "java/lang/String"), accessFlags := 24, slot := 0, constantValue := 0 }, { name := "METHODS", type := (.object "java/util/Set"), accessFlags := 24, slot := 1, constantValue := 0 }, { name := "MAX_LENGTH", type := .int, accessFlags := 24, slot := 2, constantValue := 0 }, { name := "QUOTE", type := .char, accessFlags := 26, slot := 3, constantValue := 0 }, { name := "BACKSLASH", type := .char, accessFlags := 26, slot := 4, constantValue := 0 }, { name := "COMMA", type := .char, accessFlags := 26, slot := 5, constantValue := 0 }, { name := "SPACE", type := .char, accessFlags := 26, slot := 6, constantValue := 0 }, { name := "TAB", type := .char, accessFlags := 26, slot := 7, constantValue := 0 }, { name := "LOWEST_PRINTABLE", type := .char, accessFlags := 26, slot := 8, constantValue := 0 }, { name := "HIGHEST_PRINTABLE", type := .char, accessFlags := 26, slot := 9, constantValue := 0 }, { name := "NOT_PRINTABLE", type := (.object "java/lang/String"), accessFlags := 26, slot := 10, constantValue := 0 }]
  methods := #[k10m0, k10m1, k10m2, k10m3, k10m4, k10m5, k10m6, k10m7]
  instanceTypes := #[(.object "java/lang/String")]
  staticTypes := #[(.object "java/lang/String"), (.object "java/util/Set"), .int, .char, .char, .char, .char, .char, .char, .char, (.object "java/lang/String")]
  resolved := Array.replicate 163 none
  statics := none }

def pool11 : Array CpInfo := pool [(2, .class_ 4), (1, u "java/lang/Object"), (0, u "<init>"), (0, u "()V"), (35, .class_ 44), (1, u "java/util/Objects"), (0, u "requireNonNull"), (48, u "(Ljava/lang/Object;Ljava/lang/String;)Ljava/lang/Object;")] 89

def k11m0 : Method := { name := "<init>", desc := "()V", sig := { parameters := [], returnType := none }, accessFlags := 2, code := none }
def k11c1 : Code := { maxStack := 3, maxLocals := 2, code := jdk_31_method_11_code, exceptionTable := #[], attributes := #[] }
def k11m1 : Method := { name := "requireNonNull", desc := "(Ljava/lang/Object;Ljava/lang/String;)Ljava/lang/Object;", sig := { parameters := [(.object "java/lang/Object"), (.object "java/lang/String")], returnType := some (.object "java/lang/Object") }, accessFlags := 9, code := some k11c1 }
/-- java/util/Objects -/
def k11 : Class := { plain "java/util/Objects" (some 0) with
  accessFlags := 49
  interfaces := #[]
  cf := some (fileOf pool11 42 #[] #[{ accessFlags := 2, nameIndex := 5, descriptorIndex := 6, attributes := #[] }, { accessFlags := 9, nameIndex := 45, descriptorIndex := 94, attributes := #[] }] 49 2 #[] #[])
  fields := #[]
  methods := #[k11m0, k11m1]
  instanceTypes := #[]
  staticTypes := #[]
  resolved := Array.replicate 184 none
  statics := none }

def pool12 : Array CpInfo := pool [(1, .class_ 2), (0, u "java/lang/String"), (1, .class_ 6), (1, u "java/lang/Object"), (0, u "<init>"), (0, u "()V"), (0, .methodref 1 10), (0, .nameAndType 11 12), (0, u "checkIndex"), (0, u "(II)V"), (1, .class_ 16), (1, u "java/lang/StringLatin1"), (36, u "([BI)C"), (36, u "canEncode"), (14, u "(C)Z"), (6, .methodref 1 113), (0, .nameAndType 7 114), (0, u "([BB)V"), (6, u "$assertionsDisabled"), (0, u "Z"), (8, .class_ 133), (1, u "java/util/Arrays"), (62, u "newString"), (0, u "([BII)Ljava/lang/String;"), (23, .class_ 223), (1, u "java/lang/StringLatin1$LinesSpliterator"), (8, .methodref 131 233), (0, .nameAndType 234 235), (0, u "copyOfRange"), (0, u "([BII)[B"), (16, u "charAt"), (137, .class_ 391), (0, u "java/lang/StringLatin1$CharsSpliterator")] 3

def k12m0 : Method := { name := "<init>", desc := "()V", sig := { parameters := [], returnType := none }, accessFlags := 0, code := none }
def k12c1 : Code := { maxStack := 2, maxLocals := 2, code := jdk_43_method_2_code, exceptionTable := #[], attributes := #[] }
def k12m1 : Method := { name := "charAt", desc := "([BI)C", sig := { parameters := [(.array .byte), .int], returnType := some .char }, accessFlags := 9, code := some k12c1 }
def k12c2 : Code := { maxStack := 2, maxLocals := 1, code := jdk_43_method_3_code, exceptionTable := #[], attributes := #[] }
def k12m2 : Method := { name := "canEncode", desc := "(C)Z", sig := { parameters := [.char], returnType := some .boolean }, accessFlags := 9, code := some k12c2 }
def k12c3 : Code := { maxStack := 6, maxLocals := 3, code := jdk_43_method_47_code, exceptionTable := #[], attributes := #[] }
def k12m3 : Method := { name := "newString", desc := "([BII)Ljava/lang/String;", sig := { parameters := [(.array .byte), .int, .int], returnType := some (.object "java/lang/String") }, accessFlags := 9, code := some k12c3 }
/-- java/lang/StringLatin1 -/
def k12 : Class := { plain "java/lang/StringLatin1" (some 0) with
  accessFlags := 48
  interfaces := #[]
  cf := some (fileOf pool12 14 #[.nestMembers #[390, 221]] #[{ accessFlags := 0, nameIndex := 7, descriptorIndex := 8, attributes := #[] }, { accessFlags := 9, nameIndex := 252, descriptorIndex := 53, attributes := #[] }, { accessFlags := 9, nameIndex := 90, descriptorIndex := 105, attributes := #[] }, { accessFlags := 9, nameIndex := 196, descriptorIndex := 197, attributes := #[] }] 48 4 #[] #[{ accessFlags := 4120, nameIndex := 121, descriptorIndex := 122, attributes := #[] }])
  fields := #[{ name := "$assertionsDisabled", type := .boolean, accessFlags := 4120, slot := 0, constantValue := 0 }]
  methods := #[k12m0, k12m1, k12m2, k12m3]
  instanceTypes := #[]
  staticTypes := #[.boolean]
  resolved := Array.replicate 395 none
  statics := none }

def pool13 : Array CpInfo := pool [(2, .class_ 4), (1, u "java/lang/Object"), (0, u "<init>"), (0, u "()V"), (17, .class_ 26), (1, u "jdk/internal/util/Preconditions"), (6, u "checkIndex"), (13, u "checkFromToIndex"), (7, .class_ 56), (0, u "jdk/internal/util/Preconditions$4"), (57, .class_ 115), (0, u "jdk/internal/util/Preconditions$1"), (7, u "SIOOBE_FORMATTER"), (0, u "Ljava/util/function/BiFunction;"), (0, .class_ 126), (0, u "jdk/internal/util/Preconditions$2"), (3, u "AIOOBE_FORMATTER"), (0, .class_ 132), (0, u "jdk/internal/util/Preconditions$3"), (3, u "IOOBE_FORMATTER"), (41, u "(IILjava/util/function/BiFunction;)I"), (4, u "(IIILjava/util/function/BiFunction;)I")] 10

def k13m0 : Method := { name := "<init>", desc := "()V", sig := { parameters := [], returnType := none }, accessFlags := 1, code := none }
def k13c1 : Code := { maxStack := 3, maxLocals := 3, code := jdk_41_method_11_code, exceptionTable := #[], attributes := #[] }
def k13m1 : Method := { name := "checkIndex", desc := "(IILjava/util/function/BiFunction;)I", sig := { parameters := [.int, .int, (.object "java/util/function/BiFunction")], returnType := some .int }, accessFlags := 9, code := some k13c1 }
def k13c2 : Code := { maxStack := 4, maxLocals := 4, code := jdk_41_method_12_code, exceptionTable := #[], attributes := #[] }
def k13m2 : Method := { name := "checkFromToIndex", desc := "(IIILjava/util/function/BiFunction;)I", sig := { parameters := [.int, .int, .int, (.object "java/util/function/BiFunction")], returnType := some .int }, accessFlags := 9, code := some k13c2 }
/-- jdk/internal/util/Preconditions -/
def k13 : Class := { plain "jdk/internal/util/Preconditions" (some 0) with
  accessFlags := 33
  interfaces := #[]
  cf := some (fileOf pool13 24 #[.nestMembers #[55, 131, 125, 114]] #[{ accessFlags := 1, nameIndex := 5, descriptorIndex := 6, attributes := #[] }, { accessFlags := 9, nameIndex := 33, descriptorIndex := 178, attributes := #[] }, { accessFlags := 9, nameIndex := 47, descriptorIndex := 183, attributes := #[] }] 33 2 #[] #[{ accessFlags := 25, nameIndex := 123, descriptorIndex := 124, attributes := #[] }, { accessFlags := 25, nameIndex := 130, descriptorIndex := 124, attributes := #[] }, { accessFlags := 25, nameIndex := 136, descriptorIndex := 124, attributes := #[] }])
  fields := #[{ name := "SIOOBE_FORMATTER", type := (.object "java/util/function/BiFunction"), accessFlags := 25, slot := 0, constantValue := 0 }, { name := "AIOOBE_FORMATTER", type := (.object "java/util/function/BiFunction"), accessFlags := 25, slot := 1, constantValue := 0 }, { name := "IOOBE_FORMATTER", type := (.object "java/util/function/BiFunction"), accessFlags := 25, slot := 2, constantValue := 0 }]
  methods := #[k13m0, k13m1, k13m2]
  instanceTypes := #[]
  staticTypes := #[(.object "java/util/function/BiFunction"), (.object "java/util/function/BiFunction"), (.object "java/util/function/BiFunction")]
  resolved := Array.replicate 194 none
  statics := some 1 }

def pool14 : Array CpInfo := pool [(2, .class_ 4), (1, u "java/lang/Object"), (0, u "<init>"), (0, u "()V"), (7, .class_ 16), (1, u "java/util/Arrays"), (57, .class_ 76), (1, u "java/util/Arrays$NaturalOrder"), (36, .class_ 115), (1, u "java/util/Arrays$LegacyMergeSort"), (1, u "Z"), (21, u "copyOfRange"), (10, .methodref 151 152), (0, .class_ 153), (0, .nameAndType 154 155), (0, u "java/lang/System"), (0, u "arraycopy"), (0, u "(Ljava/lang/Object;ILjava/lang/Object;II)V"), (148, .methodref 305 306), (0, .class_ 307), (0, .nameAndType 308 309), (0, u "java/lang/Math"), (0, u "min"), (0, u "(II)I"), (29, .methodref 14 340), (0, .nameAndType 341 342), (0, u "copyOfRangeByte"), (0, u "([BII)[B"), (0, .methodref 14 344), (0, .nameAndType 345 346), (0, u "checkLength"), (0, u "(II)V"), (28, .class_ 376), (0, u "java/util/Arrays$ArrayList"), (68, u "$assertionsDisabled"), (269, u "MIN_ARRAY_SORT_GRAN"), (0, u "I"), (2, u "INSERTIONSORT_THRESHOLD"), (255, .class_ 976), (0, u "java/util/Arrays$ArrayItr")] 52

def k14m0 : Method := { name := "<init>", desc := "()V", sig := { parameters := [], returnType := none }, accessFlags := 2, code := none }
def k14c1 : Code := { maxStack := 4, maxLocals := 2, code := jdk_65_method_131_code, exceptionTable := #[], attributes := #[] }
def k14m1 : Method := { name := "checkLength", desc := "(II)V", sig := { parameters := [.int, .int], returnType := none }, accessFlags := 10, code := some k14c1 }
def k14c2 : Code := { maxStack := 3, maxLocals := 3, code := jdk_65_method_132_code, exceptionTable := #[], attributes := #[] }
def k14m2 : Method := { name := "copyOfRange", desc := "([BII)[B", sig := { parameters := [(.array .byte), .int, .int], returnType := some (.array .byte) }, accessFlags := 9, code := some k14c2 }
def k14c3 : Code := { maxStack := 6, maxLocals := 5, code := jdk_65_method_133_code, exceptionTable := #[], attributes := #[] }
def k14m3 : Method := { name := "copyOfRangeByte", desc := "([BII)[B", sig := { parameters := [(.array .byte), .int, .int], returnType := some (.array .byte) }, accessFlags := 10, code := some k14c3 }
/-- java/util/Arrays -/
def k14 : Class := { plain "java/util/Arrays" (some 0) with
  accessFlags := 49
  interfaces := #[]
  cf := some (fileOf pool14 14 #[.nestMembers #[975, 375, 113, 74]] #[{ accessFlags := 2, nameIndex := 5, descriptorIndex := 6, attributes := #[] }, { accessFlags := 10, nameIndex := 345, descriptorIndex := 346, attributes := #[] }, { accessFlags := 9, nameIndex := 139, descriptorIndex := 342, attributes := #[] }, { accessFlags := 10, nameIndex := 341, descriptorIndex := 342, attributes := #[] }] 49 2 #[] #[{ accessFlags := 26, nameIndex := 715, descriptorIndex := 716, attributes := #[] }, { accessFlags := 26, nameIndex := 719, descriptorIndex := 716, attributes := #[] }, { accessFlags := 4120, nameIndex := 445, descriptorIndex := 117, attributes := #[] }])
  fields := #[{ name := "MIN_ARRAY_SORT_GRAN", type := .int, accessFlags := 26, slot := 0, constantValue := 0 }, { name := "INSERTIONSORT_THRESHOLD", type := .int, accessFlags := 26, slot := 1, constantValue := 0 }, { name := "$assertionsDisabled", type := .boolean, accessFlags := 4120, slot := 2, constantValue := 0 }]
  methods := #[k14m0, k14m1, k14m2, k14m3]
  instanceTypes := #[]
  staticTypes := #[.int, .int, .boolean]
  resolved := Array.replicate 1029 none
  statics := none }

def pool15 : Array CpInfo := pool [(1, .class_ 2), (0, u "java/lang/Math"), (1, .class_ 6), (1, u "java/lang/Object"), (0, u "<init>"), (0, u "()V"), (89, .class_ 100), (1, u "java/lang/Math$RandomNumberGeneratorHolder"), (71, u "negativeZeroFloatBits"), (0, u "J"), (2, u "negativeZeroDoubleBits"), (24, u "min"), (43, u "$assertionsDisabled"), (0, u "Z"), (88, u "(II)I"), (2, u "twoToTheDoubleScaleDown"), (0, u "D"), (4, u "twoToTheDoubleScaleUp"), (9, u "E"), (3, u "PI"), (2, u "TAU"), (2, u "DEGREES_TO_RADIANS"), (0, u "RADIANS_TO_DEGREES")] 94

def k15m0 : Method := { name := "<init>", desc := "()V", sig := { parameters := [], returnType := none }, accessFlags := 2, code := none }
def k15c1 : Code := { maxStack := 2, maxLocals := 2, code := jdk_29_method_69_code, exceptionTable := #[], attributes := #[] }
def k15m1 : Method := { name := "min", desc := "(II)I", sig := { parameters := [.int, .int], returnType := some .int }, accessFlags := 9, code := some k15c1 }
/-- java/lang/Math -/
def k15 : Class := { plain "java/lang/Math" (some 0) with
  accessFlags := 49
  interfaces := #[]
  cf := some (fileOf pool15 1 #[.nestMembers #[98]] #[{ accessFlags := 2, nameIndex := 7, descriptorIndex := 8, attributes := #[] }, { accessFlags := 9, nameIndex := 201, descriptorIndex := 335, attributes := #[] }] 49 4 #[] #[{ accessFlags := 25, nameIndex := 354, descriptorIndex := 339, attributes := #[] }, { accessFlags := 25, nameIndex := 358, descriptorIndex := 339, attributes := #[] }, { accessFlags := 25, nameIndex := 361, descriptorIndex := 339, attributes := #[] }, { accessFlags := 26, nameIndex := 364, descriptorIndex := 339, attributes := #[] }, { accessFlags := 26, nameIndex := 365, descriptorIndex := 339, attributes := #[] }, { accessFlags := 26, nameIndex := 172, descriptorIndex := 173, attributes := #[] }, { accessFlags := 26, nameIndex := 176, descriptorIndex := 173, attributes := #[] }, { accessFlags := 8, nameIndex := 344, descriptorIndex := 339, attributes := #[] }, { accessFlags := 8, nameIndex := 338, descriptorIndex := 339, attributes := #[] }, { accessFlags := 4120, nameIndex := 245, descriptorIndex := 246, attributes := #[] }])
  fields := #[{ name := "E", type := .double, accessFlags := 25, slot := 0, constantValue := 0 }, { name := "PI", type := .double, accessFlags := 25, slot := 1, constantValue := 0 }, { name := "TAU", type := .double, accessFlags := 25, slot := 2, constantValue := 0 }, { name := "DEGREES_TO_RADIANS", type := .double, accessFlags := 26, slot := 3, constantValue := 0 }, { name := "RADIANS_TO_DEGREES", type := .double, accessFlags := 26, slot := 4, constantValue := 0 }, { name := "negativeZeroFloatBits", type := .long, accessFlags := 26, slot := 5, constantValue := 0 }, { name := "negativeZeroDoubleBits", type := .long, accessFlags := 26, slot := 6, constantValue := 0 }, { name := "twoToTheDoubleScaleUp", type := .double, accessFlags := 8, slot := 7, constantValue := 0 }, { name := "twoToTheDoubleScaleDown", type := .double, accessFlags := 8, slot := 8, constantValue := 0 }, { name := "$assertionsDisabled", type := .boolean, accessFlags := 4120, slot := 9, constantValue := 0 }]
  methods := #[k15m0, k15m1]
  instanceTypes := #[]
  staticTypes := #[.double, .double, .double, .double, .double, .long, .long, .double, .double, .boolean]
  resolved := Array.replicate 460 none
  statics := none }

def pool16 : Array CpInfo := pool [(2, .class_ 4), (1, u "java/lang/Object"), (0, u "<init>"), (0, u "()V"), (1, .class_ 10), (1, u "java/lang/System"), (0, u "allowSecurityManager"), (0, u "I"), (16, u "cons"), (0, u "Ljava/io/Console;"), (77, .class_ 110), (1, u "java/lang/System$CallersHolder"), (43, u "initialErrStream"), (0, u "Ljava/io/PrintStream;"), (19, u "security"), (0, u "Ljava/lang/SecurityManager;"), (31, .class_ 209), (0, u "java/lang/System$1"), (7, u "props"), (0, u "Ljava/util/Properties;"), (2, u "lineSeparator"), (0, u "Ljava/lang/String;"), (96, .class_ 321), (1, u "java/lang/System$LoggerFinder"), (5, .class_ 328), (0, u "java/lang/System$Logger"), (67, u "err"), (2, u "out"), (91, u "notSupportedJnuEncoding"), (15, u "in"), (17, u "initialIn"), (0, u "Ljava/io/InputStream;"), (35, u "bootLayer"), (0, u "Ljava/lang/ModuleLayer;"), (99, .class_ 664), (0, u "java/lang/System$2"), (9, u "NEVER"), (2, u "MAYBE"), (49, u "arraycopy"), (0, u "(Ljava/lang/Object;ILjava/lang/Object;II)V"), (72, .class_ 802), (0, u "java/lang/System$Logger$Level")] 31

def k16m0 : Method := { name := "<init>", desc := "()V", sig := { parameters := [], returnType := none }, accessFlags := 2, code := none }
def k16m1 : Method := { name := "arraycopy", desc := "(Ljava/lang/Object;ILjava/lang/Object;II)V", sig := { parameters := [(.object "java/lang/Object"), .int, (.object "java/lang/Object"), .int, .int], returnType := none }, accessFlags := 265, code := none }
/-- java/lang/System -/
def k16 : Class := { plain "java/lang/System" (some 0) with
  accessFlags := 49
  interfaces := #[]
  cf := some (fileOf pool16 8 #[.nestMembers #[319, 327, 801, 108, 663, 208]] #[{ accessFlags := 2, nameIndex := 5, descriptorIndex := 6, attributes := #[] }, { accessFlags := 265, nameIndex := 727, descriptorIndex := 728, attributes := #[] }] 49 2 #[] #[{ accessFlags := 25, nameIndex := 507, descriptorIndex := 526, attributes := #[] }, { accessFlags := 25, nameIndex := 399, descriptorIndex := 155, attributes := #[] }, { accessFlags := 25, nameIndex := 396, descriptorIndex := 155, attributes := #[] }, { accessFlags := 10, nameIndex := 525, descriptorIndex := 526, attributes := #[] }, { accessFlags := 26, nameIndex := 674, descriptorIndex := 12, attributes := #[] }, { accessFlags := 26, nameIndex := 677, descriptorIndex := 12, attributes := #[] }, { accessFlags := 10, nameIndex := 11, descriptorIndex := 12, attributes := #[] }, { accessFlags := 74, nameIndex := 175, descriptorIndex := 176, attributes := #[] }, { accessFlags := 10, nameIndex := 491, descriptorIndex := 222, attributes := #[] }, { accessFlags := 74, nameIndex := 29, descriptorIndex := 30, attributes := #[] }, { accessFlags := 74, nameIndex := 154, descriptorIndex := 155, attributes := #[] }, { accessFlags := 10, nameIndex := 217, descriptorIndex := 218, attributes := #[] }, { accessFlags := 10, nameIndex := 221, descriptorIndex := 222, attributes := #[] }, { accessFlags := 8, nameIndex := 562, descriptorIndex := 563, attributes := #[] }])
  fields := #[{ name := "in", type := (.object "java/io/InputStream"), accessFlags := 25, slot := 0, constantValue := 0 }, { name := "out", type := (.object "java/io/PrintStream"), accessFlags := 25, slot := 1, constantValue := 0 }, { name := "err", type := (.object "java/io/PrintStream"), accessFlags := 25, slot := 2, constantValue := 0 }, { name := "initialIn", type := (.object "java/io/InputStream"), accessFlags := 10, slot := 3, constantValue := 0 }, { name := "NEVER", type := .int, accessFlags := 26, slot := 4, constantValue := 0 }, { name := "MAYBE", type := .int, accessFlags := 26, slot := 5, constantValue := 0 }, { name := "allowSecurityManager", type := .int, accessFlags := 10, slot := 6, constantValue := 0 }, { name := "security", type := (.object "java/lang/SecurityManager"), accessFlags := 74, slot := 7, constantValue := 0 }, { name := "notSupportedJnuEncoding", type := (.object "java/lang/String"), accessFlags := 10, slot := 8, constantValue := 0 }, { name := "cons", type := (.object "java/io/Console"), accessFlags := 74, slot := 9, constantValue := 0 }, { name := "initialErrStream", type := (.object "java/io/PrintStream"), accessFlags := 74, slot := 10, constantValue := 0 }, { name := "props", type := (.object "java/util/Properties"), accessFlags := 10, slot := 11, constantValue := 0 }, { name := "lineSeparator", type := (.object "java/lang/String"), accessFlags := 10, slot := 12, constantValue := 0 }, { name := "bootLayer", type := (.object "java/lang/ModuleLayer"), accessFlags := 8, slot := 13, constantValue := 0 }]
  methods := #[k16m0, k16m1]
  instanceTypes := #[]
  staticTypes := #[(.object "java/io/InputStream"), (.object "java/io/PrintStream"), (.object "java/io/PrintStream"), (.object "java/io/InputStream"), .int, .int, .int, (.object "java/lang/SecurityManager"), (.object "java/lang/String"), (.object "java/io/Console"), (.object "java/io/PrintStream"), (.object "java/util/Properties"), (.object "java/lang/String"), (.object "java/lang/ModuleLayer")]
  resolved := Array.replicate 834 none
  statics := none }

def pool17 : Array CpInfo := pool [(1, .class_ 2), (0, u "java/lang/Appendable"), (0, .class_ 4), (0, u "java/lang/Object")] 9

/-- java/lang/Appendable -/
def k17 : Class := { plain "java/lang/Appendable" (some 0) with
  accessFlags := 1537
  interfaces := #[]
  cf := some (fileOf pool17 1 #[] #[] 1537 3 #[] #[])
  fields := #[]
  methods := #[]
  instanceTypes := #[]
  staticTypes := #[]
  resolved := Array.replicate 14 none
  statics := none }

def pool18 : Array CpInfo := pool [(1, .class_ 2), (0, u "java/lang/String"), (0, .methodref 4 5), (0, .class_ 6), (0, .nameAndType 7 8), (0, u "java/lang/Object"), (0, u "<init>"), (0, u "()V"), (1, .class_ 12), (1, u "java/lang/AbstractStringBuilder"), (0, u "EMPTYVALUE"), (0, u "[B"), (0, .fieldref 10 16), (0, .nameAndType 17 14), (0, u "value"), (0, .fieldref 1 19), (0, .nameAndType 20 21), (0, u "COMPACT_STRINGS"), (0, u "Z"), (0, .fieldref 10 23), (0, .nameAndType 24 25), (0, u "coder"), (0, u "B"), (8, u "length"), (0, u "()I"), (9, u "append"), (2, .class_ 49), (0, u "java/lang/CharSequence"), (25, u "maybeLatin1"), (3, .fieldref 10 80), (0, .nameAndType 81 82), (0, u "count"), (0, u "I"), (0, .methodref 10 84), (0, .nameAndType 85 86), (0, u "isLatin1"), (0, u "()Z"), (1, .class_ 90), (1, u "java/lang/StringLatin1"), (9, .methodref 10 101), (0, .nameAndType 102 103), (0, u "ensureCapacityInternal"), (0, u "(I)V"), (87, .methodref 88 192), (0, .nameAndType 193 194), (0, u "canEncode"), (0, u "(C)Z"), (97, u "(C)Ljava/lang/AbstractStringBuilder;"), (110, u "()[B"), (40, .class_ 445), (0, u "java/lang/Appendable"), (106, u "getValue")] 56

def k18m0 : Method := { name := "<init>", desc := "()V", sig := { parameters := [], returnType := none }, accessFlags := 0, code := none }
def k18c1 : Code := { maxStack := 2, maxLocals := 2, code := jdk_68_method_2_code, exceptionTable := #[], attributes := #[] }
def k18m1 : Method := { name := "<init>", desc := "(I)V", sig := { parameters := [.int], returnType := none }, accessFlags := 0, code := some k18c1 }
def k18c2 : Code := { maxStack := 1, maxLocals := 1, code := jdk_68_method_6_code, exceptionTable := #[], attributes := #[] }
def k18m2 : Method := { name := "length", desc := "()I", sig := { parameters := [], returnType := some .int }, accessFlags := 1, code := some k18c2 }
def k18c3 : Code := { maxStack := 4, maxLocals := 3, code := jdk_68_method_9_code, exceptionTable := #[], attributes := #[] }
def k18m3 : Method := { name := "ensureCapacityInternal", desc := "(I)V", sig := { parameters := [.int], returnType := none }, accessFlags := 2, code := some k18c3 }
def k18c4 : Code := { maxStack := 5, maxLocals := 2, code := jdk_68_method_31_code, exceptionTable := #[], attributes := #[] }
def k18m4 : Method := { name := "append", desc := "(C)Ljava/lang/AbstractStringBuilder;", sig := { parameters := [.char], returnType := some (.object "java/lang/AbstractStringBuilder") }, accessFlags := 1, code := some k18c4 }
def k18c5 : Code := { maxStack := 1, maxLocals := 1, code := jdk_68_method_64_code, exceptionTable := #[], attributes := #[] }
def k18m5 : Method := { name := "getValue", desc := "()[B", sig := { parameters := [], returnType := some (.array .byte) }, accessFlags := 16, code := some k18c5 }
def k18c6 : Code := { maxStack := 1, maxLocals := 1, code := jdk_68_method_68_code, exceptionTable := #[], attributes := #[] }
def k18m6 : Method := { name := "isLatin1", desc := "()Z", sig := { parameters := [], returnType := some .boolean }, accessFlags := 16, code := some k18c6 }
/-- java/lang/AbstractStringBuilder -/
def k18 : Class := { plain "java/lang/AbstractStringBuilder" (some 0) with
  accessFlags := 1056
  interfaces := #[17, 4]
  cf := some (fileOf pool18 10 #[] #[{ accessFlags := 0, nameIndex := 7, descriptorIndex := 8, attributes := #[] }, { accessFlags := 0, nameIndex := 7, descriptorIndex := 103, attributes := #[] }, { accessFlags := 1, nameIndex := 34, descriptorIndex := 35, attributes := #[] }, { accessFlags := 2, nameIndex := 102, descriptorIndex := 103, attributes := #[] }, { accessFlags := 1, nameIndex := 45, descriptorIndex := 292, attributes := #[] }, { accessFlags := 16, nameIndex := 552, descriptorIndex := 403, attributes := #[] }, { accessFlags := 16, nameIndex := 85, descriptorIndex := 86, attributes := #[] }] 1056 4 #[444, 48] #[{ accessFlags := 0, nameIndex := 17, descriptorIndex := 14, attributes := #[] }, { accessFlags := 0, nameIndex := 24, descriptorIndex := 25, attributes := #[] }, { accessFlags := 0, nameIndex := 75, descriptorIndex := 21, attributes := #[] }, { accessFlags := 0, nameIndex := 81, descriptorIndex := 82, attributes := #[] }, { accessFlags := 26, nameIndex := 13, descriptorIndex := 14, attributes := #[] }])
  fields := #[{ name := "value", type := (.array .byte), accessFlags := 0, slot := 0, constantValue := 0 }, { name := "coder", type := .byte, accessFlags := 0, slot := 1, constantValue := 0 }, { name := "maybeLatin1", type := .boolean, accessFlags := 0, slot := 2, constantValue := 0 }, { name := "count", type := .int, accessFlags := 0, slot := 3, constantValue := 0 }, { name := "EMPTYVALUE", type := (.array .byte), accessFlags := 26, slot := 0, constantValue := 0 }]
  methods := #[k18m0, k18m1, k18m2, k18m3, k18m4, k18m5, k18m6]
  instanceTypes := #[(.array .byte), .byte, .boolean, .int]
  staticTypes := #[(.array .byte)]
  resolved := Array.replicate 609 none
  statics := none }

def pool19 : Array CpInfo := pool [(1, .methodref 2 3), (0, .class_ 4), (0, .nameAndType 5 6), (0, u "java/lang/AbstractStringBuilder"), (0, u "<init>"), (0, u "(I)V"), (11, .class_ 20), (1, u "java/lang/String"), (3, .class_ 26), (1, u "java/lang/StringBuilder"), (0, u "append"), (22, .methodref 2 51), (0, .nameAndType 27 52), (0, u "(C)Ljava/lang/AbstractStringBuilder;"), (84, .methodref 18 138), (0, .nameAndType 5 139), (0, u "(Ljava/lang/StringBuilder;)V"), (5, u "()V"), (10, u "()I"), (129, u "(C)Ljava/lang/StringBuilder;"), (56, .methodref 2 344), (0, .nameAndType 345 156), (0, u "length"), (3, .class_ 350), (0, u "java/lang/Appendable"), (0, .class_ 352), (0, u "java/io/Serializable"), (0, .class_ 354), (0, u "java/lang/Comparable"), (0, .class_ 356), (0, u "java/lang/CharSequence"), (0, u "serialVersionUID"), (0, u "J"), (40, u "toString"), (0, u "()Ljava/lang/String;")] 21

def k19m0 : Method := { name := "<init>", desc := "()V", sig := { parameters := [], returnType := none }, accessFlags := 1, code := none }
def k19c1 : Code := { maxStack := 2, maxLocals := 2, code := jdk_67_method_2_code, exceptionTable := #[], attributes := #[] }
def k19m1 : Method := { name := "<init>", desc := "(I)V", sig := { parameters := [.int], returnType := none }, accessFlags := 1, code := some k19c1 }
def k19c2 : Code := { maxStack := 2, maxLocals := 2, code := jdk_67_method_14_code, exceptionTable := #[], attributes := #[] }
def k19m2 : Method := { name := "append", desc := "(C)Ljava/lang/StringBuilder;", sig := { parameters := [.char], returnType := some (.object "java/lang/StringBuilder") }, accessFlags := 1, code := some k19c2 }
def k19c3 : Code := { maxStack := 3, maxLocals := 1, code := jdk_67_method_42_code, exceptionTable := #[], attributes := #[] }
def k19m3 : Method := { name := "toString", desc := "()Ljava/lang/String;", sig := { parameters := [], returnType := some (.object "java/lang/String") }, accessFlags := 1, code := some k19c3 }
def k19c4 : Code := { maxStack := 1, maxLocals := 1, code := jdk_67_method_93_code, exceptionTable := #[], attributes := #[] }
def k19m4 : Method := { name := "length", desc := "()I", sig := { parameters := [], returnType := some .int }, accessFlags := 4161, code := some k19c4 }
/-- java/lang/StringBuilder -/
def k19 : Class := { plain "java/lang/StringBuilder" (some 18) with
  accessFlags := 49
  interfaces := #[17, 2, 3, 4]
  cf := some (fileOf pool19 24 #[] #[{ accessFlags := 1, nameIndex := 5, descriptorIndex := 145, attributes := #[] }, { accessFlags := 1, nameIndex := 5, descriptorIndex := 6, attributes := #[] }, { accessFlags := 1, nameIndex := 27, descriptorIndex := 286, attributes := #[] }, { accessFlags := 1, nameIndex := 399, descriptorIndex := 400, attributes := #[] }, { accessFlags := 4161, nameIndex := 345, descriptorIndex := 156, attributes := #[] }] 49 2 #[349, 351, 353, 355] #[{ accessFlags := 24, nameIndex := 357, descriptorIndex := 358, attributes := #[] }])
  fields := #[{ name := "serialVersionUID", type := .long, accessFlags := 24, slot := 0, constantValue := 0 }]
  methods := #[k19m0, k19m1, k19m2, k19m3, k19m4]
  instanceTypes := #[(.array .byte), .byte, .boolean, .int]
  staticTypes := #[.long]
  resolved := Array.replicate 422 none
  statics := none }

def pool20 : Array CpInfo := pool [(9, u "<init>"), (6, .class_ 18), (1, u "java/lang/Object"), (0, u "()V"), (1, .class_ 23), (1, u "jdk/internal/util/ArraysSupport"), (0, u "LOG2_ARRAY_LONG_INDEX_SCALE"), (0, u "I"), (2, u "U"), (0, u "Ljdk/internal/misc/Unsafe;"), (8, u "BIG_ENDIAN"), (0, u "Z"), (8, u "LOG2_BYTE_BIT_SIZE"), (4, u "LOG2_ARRAY_INT_INDEX_SCALE"), (54, u "JLA"), (0, u "Ljdk/internal/access/JavaLangAccess;"), (11, u "LOG2_ARRAY_BOOLEAN_INDEX_SCALE"), (9, u "LOG2_ARRAY_BYTE_INDEX_SCALE"), (5, u "LOG2_ARRAY_CHAR_INDEX_SCALE"), (5, u "LOG2_ARRAY_SHORT_INDEX_SCALE"), (18, u "LOG2_ARRAY_FLOAT_INDEX_SCALE"), (24, u "LOG2_ARRAY_DOUBLE_INDEX_SCALE"), (89, u "T_BOOLEAN"), (2, u "T_CHAR"), (1, u "T_FLOAT"), (1, u "T_DOUBLE"), (1, u "T_BYTE"), (1, u "T_SHORT"), (1, u "T_INT"), (1, u "T_LONG"), (1, u "SOFT_MAX_ARRAY_LENGTH")] 83

def k20m0 : Method := { name := "<init>", desc := "()V", sig := { parameters := [], returnType := none }, accessFlags := 2, code := none }
/-- jdk/internal/util/ArraysSupport -/
def k20 : Class := { plain "jdk/internal/util/ArraysSupport" (some 0) with
  accessFlags := 33
  interfaces := #[]
  cf := some (fileOf pool20 21 #[] #[{ accessFlags := 2, nameIndex := 9, descriptorIndex := 19, attributes := #[] }] 33 16 #[] #[{ accessFlags := 24, nameIndex := 28, descriptorIndex := 29, attributes := #[] }, { accessFlags := 26, nameIndex := 38, descriptorIndex := 39, attributes := #[] }, { accessFlags := 25, nameIndex := 121, descriptorIndex := 25, attributes := #[] }, { accessFlags := 25, nameIndex := 131, descriptorIndex := 25, attributes := #[] }, { accessFlags := 25, nameIndex := 137, descriptorIndex := 25, attributes := #[] }, { accessFlags := 25, nameIndex := 143, descriptorIndex := 25, attributes := #[] }, { accessFlags := 25, nameIndex := 53, descriptorIndex := 25, attributes := #[] }, { accessFlags := 25, nameIndex := 24, descriptorIndex := 25, attributes := #[] }, { accessFlags := 25, nameIndex := 162, descriptorIndex := 25, attributes := #[] }, { accessFlags := 25, nameIndex := 187, descriptorIndex := 25, attributes := #[] }, { accessFlags := 26, nameIndex := 48, descriptorIndex := 25, attributes := #[] }, { accessFlags := 25, nameIndex := 277, descriptorIndex := 25, attributes := #[] }, { accessFlags := 25, nameIndex := 280, descriptorIndex := 25, attributes := #[] }, { accessFlags := 25, nameIndex := 282, descriptorIndex := 25, attributes := #[] }, { accessFlags := 25, nameIndex := 284, descriptorIndex := 25, attributes := #[] }, { accessFlags := 25, nameIndex := 286, descriptorIndex := 25, attributes := #[] }, { accessFlags := 25, nameIndex := 288, descriptorIndex := 25, attributes := #[] }, { accessFlags := 25, nameIndex := 290, descriptorIndex := 25, attributes := #[] }, { accessFlags := 25, nameIndex := 292, descriptorIndex := 25, attributes := #[] }, { accessFlags := 26, nameIndex := 108, descriptorIndex := 109, attributes := #[] }, { accessFlags := 25, nameIndex := 294, descriptorIndex := 25, attributes := #[] }])
  fields := #[{ name := "U", type := (.object "jdk/internal/misc/Unsafe"), accessFlags := 24, slot := 0, constantValue := 0 }, { name := "BIG_ENDIAN", type := .boolean, accessFlags := 26, slot := 1, constantValue := 0 }, { name := "LOG2_ARRAY_BOOLEAN_INDEX_SCALE", type := .int, accessFlags := 25, slot := 2, constantValue := 0 }, { name := "LOG2_ARRAY_BYTE_INDEX_SCALE", type := .int, accessFlags := 25, slot := 3, constantValue := 0 }, { name := "LOG2_ARRAY_CHAR_INDEX_SCALE", type := .int, accessFlags := 25, slot := 4, constantValue := 0 }, { name := "LOG2_ARRAY_SHORT_INDEX_SCALE", type := .int, accessFlags := 25, slot := 5, constantValue := 0 }, { name := "LOG2_ARRAY_INT_INDEX_SCALE", type := .int, accessFlags := 25, slot := 6, constantValue := 0 }, { name := "LOG2_ARRAY_LONG_INDEX_SCALE", type := .int, accessFlags := 25, slot := 7, constantValue := 0 }, { name := "LOG2_ARRAY_FLOAT_INDEX_SCALE", type := .int, accessFlags := 25, slot := 8, constantValue := 0 }, { name := "LOG2_ARRAY_DOUBLE_INDEX_SCALE", type := .int, accessFlags := 25, slot := 9, constantValue := 0 }, { name := "LOG2_BYTE_BIT_SIZE", type := .int, accessFlags := 26, slot := 10, constantValue := 0 }, { name := "T_BOOLEAN", type := .int, accessFlags := 25, slot := 11, constantValue := 0 }, { name := "T_CHAR", type := .int, accessFlags := 25, slot := 12, constantValue := 0 }, { name := "T_FLOAT", type := .int, accessFlags := 25, slot := 13, constantValue := 0 }, { name := "T_DOUBLE", type := .int, accessFlags := 25, slot := 14, constantValue := 0 }, { name := "T_BYTE", type := .int, accessFlags := 25, slot := 15, constantValue := 0 }, { name := "T_SHORT", type := .int, accessFlags := 25, slot := 16, constantValue := 0 }, { name := "T_INT", type := .int, accessFlags := 25, slot := 17, constantValue := 0 }, { name := "T_LONG", type := .int, accessFlags := 25, slot := 18, constantValue := 0 }, { name := "JLA", type := (.object "jdk/internal/access/JavaLangAccess"), accessFlags := 26, slot := 19, constantValue := 0 }, { name := "SOFT_MAX_ARRAY_LENGTH", type := .int, accessFlags := 25, slot := 20, constantValue := 0 }]
  methods := #[k20m0]
  instanceTypes := #[]
  staticTypes := #[(.object "jdk/internal/misc/Unsafe"), .boolean, .int, .int, .int, .int, .int, .int, .int, .int, .int, .int, .int, .int, .int, .int, .int, .int, .int, (.object "jdk/internal/access/JavaLangAccess"), .int]
  resolved := Array.replicate 378 none
  statics := none }

def pool21 : Array CpInfo := pool [(1, u "java/lang/Cloneable"), (0, .class_ 1), (0, u "java/lang/Object"), (0, .class_ 3)] 3

/-- java/lang/Cloneable -/
def k21 : Class := { plain "java/lang/Cloneable" (some 0) with
  accessFlags := 1537
  interfaces := #[]
  cf := some (fileOf pool21 2 #[] #[] 1537 4 #[] #[])
  fields := #[]
  methods := #[]
  instanceTypes := #[]
  staticTypes := #[]
  resolved := Array.replicate 8 none
  statics := none }

/-- the primitive byte -/
def k22 : Class := { plain "byte" none with kind := .primitive 'B', accessFlags := 0x411 }
/-- [B -/
def k23 : Class := { plain "[B" (some 0) with kind := .array 22 .byte, interfaces := #[21, 2], accessFlags := 1041 }

/-- the primitive char -/
def k24 : Class := { plain "char" none with kind := .primitive 'C', accessFlags := 0x411 }
/-- [C -/
def k25 : Class := { plain "[C" (some 0) with kind := .array 24 .char, interfaces := #[21, 2], accessFlags := 1041 }

/-- the primitive int -/
def k26 : Class := { plain "int" none with kind := .primitive 'I', accessFlags := 0x411 }
/-- [I -/
def k27 : Class := { plain "[I" (some 0) with kind := .array 26 .int, interfaces := #[21, 2], accessFlags := 1041 }

def heap : Heap := #[{ cls := 7, slots := #[.long 0, .int 1, .null, .int 0, .null, .int 0, .int 0], vm := .statics 7 },
  { cls := 13, slots := #[.null, .null, .null], vm := .statics 13 }]
def classes : Array Class := #[k0, k1, k2, k3, k4, k5, k6, k7, k8, k9, k10, k11, k12, k13, k14, k15, k16, k17, k18, k19, k20, k21, k22, k23, k24, k25, k26, k27]
def interned : List (Array UInt16 × Addr) := []
def slotsUsed : Nat := 10
def theMethod : MethodId := ⟨1, 1⟩
def args0 : Array Value := #[.int 5, .int 3, .int 7, .int 11]
def aboutOver (below : List Frame) : State where
  vm := { classes := classes, interned := interned.toArray }
  heap := heap
  slotsUsed := slotsUsed
  threads := #[{ frames := .invoking theMethod args0 :: below }]
def below0 : List Frame := [.native { method := ⟨0, 0⟩, args := #[] }]
def about1 : State := aboutOver below0
def p0 : Program := .bare "" "" ""
def e0 : Env := launch0.env 0 0 0
theorem w_frames : about1.frames = Frame.invoking theMethod args0 :: below0 := rfl
set_option maxRecDepth 65536 in
theorem w_args : argsFit about1.vm theMethod args0 = true := by decide +kernel
set_option maxRecDepth 65536 in
theorem w_heap : heapFits about1 = true := by decide +kernel
set_option maxRecDepth 65536 in
theorem w_runnable : about1.curStatus? = some .runnable := by decide +kernel
set_option maxRecDepth 65536 in
theorem w_alone : about1.alone = true := by decide +kernel
set_option maxRecDepth 65536 in
theorem w_named : about1.methodNamed? x = some theMethod := by decide +kernel
set_option maxRecDepth 65536 in
theorem w_hears : about1.hears theMethod below0 = true := by decide +kernel
set_option maxRecDepth 65536 in
theorem w_ripe : about1.ripe theMethod args0 below0 = true := by decide +kernel
theorem w_running : about1.status = .running := rfl
set_option maxRecDepth 65536 in
theorem w_room : about1.hasRoom e0.platform room_1 = true :=
  launch0.hasRoom_least _ room_1 (by decide +kernel) (by decide +kernel) (by decide +kernel) (by decide +kernel) (by decide +kernel) (by decide +kernel)
theorem allAtoms_all (ts : List Jvm.Cond) (a : Array Jvm.Value) (st : Jvm.State) : (allAtoms ts).before a st = ts.all (fun c => c.before a st) := by
  induction ts with
  | nil => rfl
  | cons c t ih =>
    show (Jvm.Cond.and c (allAtoms t)).before a st = _
    rw [Jvm.Cond.before_and, ih, List.all_cons]
def words1 : List Jvm.Cond := Jvm.Cond.code x code maxLocals ret :: tables_1
/-- a 'code' word, met by the world's own term for the bytes: nothing is compared byte by byte -/
theorem code_word {y : MethodName} {bytes : ByteArray} {mx : Nat} {rt : Option FieldType} {a : Array Value} {s : State} {m : MethodId} {meth : Method} {c : Code} (h1 : s.methodNamed? y = some m) (h2 : s.vm.method? m = some meth) (h3 : meth.code = some c) (h4 : c.code = bytes)
    (h5 : (c.maxLocals == mx && c.exceptionTable.isEmpty && decide (c.maxStack ≤ mostOperands) && decide (meth.sig.returnType = rt) && !meth.locks && decide (parseMethodDescriptor y.desc = some meth.sig)) = true) : (Jvm.Cond.code y bytes mx rt).before a s = true := by
  simp only [Bool.and_eq_true, beq_iff_eq, Bool.not_eq_true', decide_eq_true_eq] at h5
  obtain ⟨⟨⟨⟨⟨g1, g2⟩, g3⟩, g4⟩, g5⟩, g6⟩ := h5
  simp [Cond.before, Cond.holds, Cond.value, h1, h2, h3, h4, g1, g2, g3, g4, g5, g6]
def isCode : Jvm.Cond → Bool
  | .code _ _ _ _ => true
  | _ => false
theorem all_split {L : List Jvm.Cond} {P : Jvm.Cond → Bool} (h1 : L.all (fun c => isCode c || P c) = true) (h2 : ∀ c ∈ L.filter isCode, P c = true) : L.all P = true := by
  refine List.all_eq_true.mpr fun c hc => ?_
  have h := List.all_eq_true.mp h1 c hc
  rcases Bool.eq_false_or_eq_true (isCode c) with hi | hi
  · exact h2 c (List.mem_filter.mpr ⟨hc, hi⟩)
  · simpa [hi] using h
set_option maxRecDepth 65536 in
theorem w_c0 : (Jvm.Cond.code x code maxLocals ret).before args0 about1 = true := code_word (m := ⟨1, 1⟩) (meth := k1m1) (c := k1c1) (by decide +kernel) rfl rfl rfl (by decide +kernel)
set_option maxRecDepth 65536 in
theorem w_c1 : (Jvm.Cond.code ({ cls := "com/example/anemone/anemone/IdempotencyKeyParsePinLaw", name := "fillWs", desc := "([CII)V" } : Jvm.MethodName) method_4_code (3 : Nat) (Option.none : Option Jvm.ClassFile.FieldType)).before args0 about1 = true := code_word (m := ⟨1, 3⟩) (meth := k1m3) (c := k1c3) (by decide +kernel) rfl rfl rfl (by decide +kernel)
set_option maxRecDepth 65536 in
theorem w_c2 : (Jvm.Cond.code ({ cls := "com/example/anemone/anemone/IdempotencyKeyParsePinLaw", name := "bareStep", desc := "([C[C[IIIIII)V" } : Jvm.MethodName) method_8_code (9 : Nat) (Option.none : Option Jvm.ClassFile.FieldType)).before args0 about1 = true := code_word (m := ⟨1, 7⟩) (meth := k1m7) (c := k1c7) (by decide +kernel) rfl rfl rfl (by decide +kernel)
set_option maxRecDepth 65536 in
theorem w_c3 : (Jvm.Cond.code ({ cls := "com/example/anemone/anemone/IdempotencyKeyParsePinLaw", name := "byteAt", desc := "(III)I" } : Jvm.MethodName) method_5_code (4 : Nat) (Option.some Jvm.ClassFile.FieldType.int)).before args0 about1 = true := code_word (m := ⟨1, 4⟩) (meth := k1m4) (c := k1c4) (by decide +kernel) rfl rfl rfl (by decide +kernel)
set_option maxRecDepth 65536 in
theorem w_c4 : (Jvm.Cond.code ({ cls := "com/example/anemone/anemone/IdempotencyKeyParsePinLaw", name := "bareChar", desc := "(I)C" } : Jvm.MethodName) method_6_code (2 : Nat) (Option.some Jvm.ClassFile.FieldType.char)).before args0 about1 = true := code_word (m := ⟨1, 5⟩) (meth := k1m5) (c := k1c5) (by decide +kernel) rfl rfl rfl (by decide +kernel)
set_option maxRecDepth 65536 in
theorem w_c5 : (Jvm.Cond.code ({ cls := "java/lang/String", name := "<init>", desc := "([C)V" } : Jvm.MethodName) jdk_42_method_3_code (2 : Nat) (Option.none : Option Jvm.ClassFile.FieldType)).before args0 about1 = true := code_word (m := ⟨7, 1⟩) (meth := k7m1) (c := k7c1) (by decide +kernel) rfl rfl rfl (by decide +kernel)
set_option maxRecDepth 65536 in
theorem w_c6 : (Jvm.Cond.code ({ cls := "java/lang/String", name := "<init>", desc := "([CIILjava/lang/Void;)V" } : Jvm.MethodName) jdk_42_method_149_code (6 : Nat) (Option.none : Option Jvm.ClassFile.FieldType)).before args0 about1 = true := code_word (m := ⟨7, 7⟩) (meth := k7m7) (c := k7c7) (by decide +kernel) rfl rfl rfl (by decide +kernel)
set_option maxRecDepth 65536 in
theorem w_c7 : (Jvm.Cond.code ({ cls := "java/lang/Object", name := "<init>", desc := "()V" } : Jvm.MethodName) object_method_1_code (1 : Nat) (Option.none : Option Jvm.ClassFile.FieldType)).before args0 about1 = true := code_word (m := ⟨0, 0⟩) (meth := k0m0) (c := k0c0) (by decide +kernel) rfl rfl rfl (by decide +kernel)
set_option maxRecDepth 65536 in
theorem w_c8 : (Jvm.Cond.code ({ cls := "java/lang/StringUTF16", name := "compress", desc := "([CII)[B" } : Jvm.MethodName) jdk_52_method_16_code (6 : Nat) (Option.some (Jvm.ClassFile.FieldType.array Jvm.ClassFile.FieldType.byte))).before args0 about1 = true := code_word (m := ⟨8, 2⟩) (meth := k8m2) (c := k8c2) (by decide +kernel) rfl rfl rfl (by decide +kernel)
set_option maxRecDepth 65536 in
theorem w_c9 : (Jvm.Cond.code ({ cls := "java/lang/StringUTF16", name := "compress", desc := "([CI[BII)I" } : Jvm.MethodName) jdk_52_method_21_code (7 : Nat) (Option.some Jvm.ClassFile.FieldType.int)).before args0 about1 = true := code_word (m := ⟨8, 3⟩) (meth := k8m3) (c := k8c3) (by decide +kernel) rfl rfl rfl (by decide +kernel)
set_option maxRecDepth 65536 in
theorem w_c10 : (Jvm.Cond.code ({ cls := "java/lang/StringUTF16", name := "coderFromArrayLen", desc := "([BI)B" } : Jvm.MethodName) jdk_52_method_15_code (2 : Nat) (Option.some Jvm.ClassFile.FieldType.byte)).before args0 about1 = true := code_word (m := ⟨8, 1⟩) (meth := k8m1) (c := k8c1) (by decide +kernel) rfl rfl rfl (by decide +kernel)
set_option maxRecDepth 65536 in
theorem w_c11 : (Jvm.Cond.code ({ cls := "com/example/anemone/anemone/IdempotencyKey", name := "parse", desc := "(Ljava/lang/String;)Lcom/example/anemone/anemone/IdempotencyKey;" } : Jvm.MethodName) prog_8_method_2_code (3 : Nat) (Option.some (Jvm.ClassFile.FieldType.object "com/example/anemone/anemone/IdempotencyKey"))).before args0 about1 = true := code_word (m := ⟨10, 1⟩) (meth := k10m1) (c := k10c1) (by decide +kernel) rfl rfl rfl (by decide +kernel)
set_option maxRecDepth 65536 in
theorem w_c12 : (Jvm.Cond.code ({ cls := "java/util/Objects", name := "requireNonNull", desc := "(Ljava/lang/Object;Ljava/lang/String;)Ljava/lang/Object;" } : Jvm.MethodName) jdk_31_method_11_code (2 : Nat) (Option.some (Jvm.ClassFile.FieldType.object "java/lang/Object"))).before args0 about1 = true := code_word (m := ⟨11, 1⟩) (meth := k11m1) (c := k11c1) (by decide +kernel) rfl rfl rfl (by decide +kernel)
set_option maxRecDepth 65536 in
theorem w_c13 : (Jvm.Cond.code ({ cls := "com/example/anemone/anemone/IdempotencyKey", name := "withoutSurroundingWhitespace", desc := "(Ljava/lang/String;)Ljava/lang/String;" } : Jvm.MethodName) prog_8_method_5_code (3 : Nat) (Option.some (Jvm.ClassFile.FieldType.object "java/lang/String"))).before args0 about1 = true := code_word (m := ⟨10, 4⟩) (meth := k10m4) (c := k10c4) (by decide +kernel) rfl rfl rfl (by decide +kernel)
set_option maxRecDepth 65536 in
theorem w_c14 : (Jvm.Cond.code ({ cls := "java/lang/String", name := "length", desc := "()I" } : Jvm.MethodName) jdk_42_method_54_code (1 : Nat) (Option.some Jvm.ClassFile.FieldType.int)).before args0 about1 = true := code_word (m := ⟨7, 3⟩) (meth := k7m3) (c := k7c3) (by decide +kernel) rfl rfl rfl (by decide +kernel)
set_option maxRecDepth 65536 in
theorem w_c15 : (Jvm.Cond.code ({ cls := "java/lang/String", name := "coder", desc := "()B" } : Jvm.MethodName) jdk_42_method_152_code (1 : Nat) (Option.some Jvm.ClassFile.FieldType.byte)).before args0 about1 = true := code_word (m := ⟨7, 10⟩) (meth := k7m10) (c := k7c10) (by decide +kernel) rfl rfl rfl (by decide +kernel)
set_option maxRecDepth 65536 in
theorem w_c16 : (Jvm.Cond.code ({ cls := "java/lang/String", name := "charAt", desc := "(I)C" } : Jvm.MethodName) jdk_42_method_56_code (2 : Nat) (Option.some Jvm.ClassFile.FieldType.char)).before args0 about1 = true := code_word (m := ⟨7, 5⟩) (meth := k7m5) (c := k7c5) (by decide +kernel) rfl rfl rfl (by decide +kernel)
set_option maxRecDepth 65536 in
theorem w_c17 : (Jvm.Cond.code ({ cls := "java/lang/String", name := "isLatin1", desc := "()Z" } : Jvm.MethodName) jdk_42_method_154_code (1 : Nat) (Option.some Jvm.ClassFile.FieldType.boolean)).before args0 about1 = true := code_word (m := ⟨7, 11⟩) (meth := k7m11) (c := k7c11) (by decide +kernel) rfl rfl rfl (by decide +kernel)
set_option maxRecDepth 65536 in
theorem w_c18 : (Jvm.Cond.code ({ cls := "java/lang/StringLatin1", name := "charAt", desc := "([BI)C" } : Jvm.MethodName) jdk_43_method_2_code (2 : Nat) (Option.some Jvm.ClassFile.FieldType.char)).before args0 about1 = true := code_word (m := ⟨12, 1⟩) (meth := k12m1) (c := k12c1) (by decide +kernel) rfl rfl rfl (by decide +kernel)
set_option maxRecDepth 65536 in
theorem w_c19 : (Jvm.Cond.code ({ cls := "java/lang/String", name := "checkIndex", desc := "(II)V" } : Jvm.MethodName) jdk_42_method_155_code (2 : Nat) (Option.none : Option Jvm.ClassFile.FieldType)).before args0 about1 = true := code_word (m := ⟨7, 12⟩) (meth := k7m12) (c := k7c12) (by decide +kernel) rfl rfl rfl (by decide +kernel)
set_option maxRecDepth 65536 in
theorem w_c20 : (Jvm.Cond.code ({ cls := "jdk/internal/util/Preconditions", name := "checkIndex", desc := "(IILjava/util/function/BiFunction;)I" } : Jvm.MethodName) jdk_41_method_11_code (3 : Nat) (Option.some Jvm.ClassFile.FieldType.int)).before args0 about1 = true := code_word (m := ⟨13, 1⟩) (meth := k13m1) (c := k13c1) (by decide +kernel) rfl rfl rfl (by decide +kernel)
set_option maxRecDepth 65536 in
theorem w_c21 : (Jvm.Cond.code ({ cls := "com/example/anemone/anemone/IdempotencyKey", name := "isSpaceOrTab", desc := "(C)Z" } : Jvm.MethodName) prog_8_method_6_code (1 : Nat) (Option.some Jvm.ClassFile.FieldType.boolean)).before args0 about1 = true := code_word (m := ⟨10, 5⟩) (meth := k10m5) (c := k10c5) (by decide +kernel) rfl rfl rfl (by decide +kernel)
set_option maxRecDepth 65536 in
theorem w_c22 : (Jvm.Cond.code ({ cls := "java/lang/String", name := "substring", desc := "(II)Ljava/lang/String;" } : Jvm.MethodName) jdk_42_method_92_code (5 : Nat) (Option.some (Jvm.ClassFile.FieldType.object "java/lang/String"))).before args0 about1 = true := code_word (m := ⟨7, 6⟩) (meth := k7m6) (c := k7c6) (by decide +kernel) rfl rfl rfl (by decide +kernel)
set_option maxRecDepth 65536 in
theorem w_c23 : (Jvm.Cond.code ({ cls := "java/lang/String", name := "checkBoundsBeginEnd", desc := "(III)V" } : Jvm.MethodName) jdk_42_method_158_code (3 : Nat) (Option.none : Option Jvm.ClassFile.FieldType)).before args0 about1 = true := code_word (m := ⟨7, 13⟩) (meth := k7m13) (c := k7c13) (by decide +kernel) rfl rfl rfl (by decide +kernel)
set_option maxRecDepth 65536 in
theorem w_c24 : (Jvm.Cond.code ({ cls := "jdk/internal/util/Preconditions", name := "checkFromToIndex", desc := "(IIILjava/util/function/BiFunction;)I" } : Jvm.MethodName) jdk_41_method_12_code (4 : Nat) (Option.some Jvm.ClassFile.FieldType.int)).before args0 about1 = true := code_word (m := ⟨13, 2⟩) (meth := k13m2) (c := k13c2) (by decide +kernel) rfl rfl rfl (by decide +kernel)
set_option maxRecDepth 65536 in
theorem w_c25 : (Jvm.Cond.code ({ cls := "java/lang/StringLatin1", name := "newString", desc := "([BII)Ljava/lang/String;" } : Jvm.MethodName) jdk_43_method_47_code (3 : Nat) (Option.some (Jvm.ClassFile.FieldType.object "java/lang/String"))).before args0 about1 = true := code_word (m := ⟨12, 3⟩) (meth := k12m3) (c := k12c3) (by decide +kernel) rfl rfl rfl (by decide +kernel)
set_option maxRecDepth 65536 in
theorem w_c26 : (Jvm.Cond.code ({ cls := "java/util/Arrays", name := "copyOfRange", desc := "([BII)[B" } : Jvm.MethodName) jdk_65_method_132_code (3 : Nat) (Option.some (Jvm.ClassFile.FieldType.array Jvm.ClassFile.FieldType.byte))).before args0 about1 = true := code_word (m := ⟨14, 2⟩) (meth := k14m2) (c := k14c2) (by decide +kernel) rfl rfl rfl (by decide +kernel)
set_option maxRecDepth 65536 in
theorem w_c27 : (Jvm.Cond.code ({ cls := "java/util/Arrays", name := "copyOfRangeByte", desc := "([BII)[B" } : Jvm.MethodName) jdk_65_method_133_code (5 : Nat) (Option.some (Jvm.ClassFile.FieldType.array Jvm.ClassFile.FieldType.byte))).before args0 about1 = true := code_word (m := ⟨14, 3⟩) (meth := k14m3) (c := k14c3) (by decide +kernel) rfl rfl rfl (by decide +kernel)
set_option maxRecDepth 65536 in
theorem w_c28 : (Jvm.Cond.code ({ cls := "java/util/Arrays", name := "checkLength", desc := "(II)V" } : Jvm.MethodName) jdk_65_method_131_code (2 : Nat) (Option.none : Option Jvm.ClassFile.FieldType)).before args0 about1 = true := code_word (m := ⟨14, 1⟩) (meth := k14m1) (c := k14c1) (by decide +kernel) rfl rfl rfl (by decide +kernel)
set_option maxRecDepth 65536 in
theorem w_c29 : (Jvm.Cond.code ({ cls := "java/lang/Math", name := "min", desc := "(II)I" } : Jvm.MethodName) jdk_29_method_69_code (2 : Nat) (Option.some Jvm.ClassFile.FieldType.int)).before args0 about1 = true := code_word (m := ⟨15, 1⟩) (meth := k15m1) (c := k15c1) (by decide +kernel) rfl rfl rfl (by decide +kernel)
set_option maxRecDepth 65536 in
theorem w_c30 : (Jvm.Cond.code ({ cls := "java/lang/String", name := "<init>", desc := "([BB)V" } : Jvm.MethodName) jdk_42_method_151_code (3 : Nat) (Option.none : Option Jvm.ClassFile.FieldType)).before args0 about1 = true := code_word (m := ⟨7, 9⟩) (meth := k7m9) (c := k7c9) (by decide +kernel) rfl rfl rfl (by decide +kernel)
set_option maxRecDepth 65536 in
theorem w_c31 : (Jvm.Cond.code ({ cls := "java/lang/String", name := "isEmpty", desc := "()Z" } : Jvm.MethodName) jdk_42_method_55_code (1 : Nat) (Option.some Jvm.ClassFile.FieldType.boolean)).before args0 about1 = true := code_word (m := ⟨7, 4⟩) (meth := k7m4) (c := k7c4) (by decide +kernel) rfl rfl rfl (by decide +kernel)
set_option maxRecDepth 65536 in
theorem w_c32 : (Jvm.Cond.code ({ cls := "com/example/anemone/anemone/IdempotencyKey", name := "requireBare", desc := "(Ljava/lang/String;)V" } : Jvm.MethodName) prog_8_method_4_code (3 : Nat) (Option.none : Option Jvm.ClassFile.FieldType)).before args0 about1 = true := code_word (m := ⟨10, 3⟩) (meth := k10m3) (c := k10c3) (by decide +kernel) rfl rfl rfl (by decide +kernel)
set_option maxRecDepth 65536 in
theorem w_c33 : (Jvm.Cond.code ({ cls := "com/example/anemone/anemone/IdempotencyKey", name := "isPrintable", desc := "(C)Z" } : Jvm.MethodName) prog_8_method_7_code (1 : Nat) (Option.some Jvm.ClassFile.FieldType.boolean)).before args0 about1 = true := code_word (m := ⟨10, 6⟩) (meth := k10m6) (c := k10c6) (by decide +kernel) rfl rfl rfl (by decide +kernel)
set_option maxRecDepth 65536 in
theorem w_c34 : (Jvm.Cond.code ({ cls := "com/example/anemone/anemone/IdempotencyKey", name := "<init>", desc := "(Ljava/lang/String;)V" } : Jvm.MethodName) prog_8_method_1_code (2 : Nat) (Option.none : Option Jvm.ClassFile.FieldType)).before args0 about1 = true := code_word (m := ⟨10, 0⟩) (meth := k10m0) (c := k10c0) (by decide +kernel) rfl rfl rfl (by decide +kernel)
set_option maxRecDepth 65536 in
theorem w_c35 : (Jvm.Cond.code ({ cls := "java/lang/Record", name := "<init>", desc := "()V" } : Jvm.MethodName) jdk_30_method_1_code (1 : Nat) (Option.none : Option Jvm.ClassFile.FieldType)).before args0 about1 = true := code_word (m := ⟨9, 0⟩) (meth := k9m0) (c := k9c0) (by decide +kernel) rfl rfl rfl (by decide +kernel)
set_option maxRecDepth 65536 in
theorem w_c36 : (Jvm.Cond.code ({ cls := "com/example/anemone/anemone/IdempotencyKey", name := "value", desc := "()Ljava/lang/String;" } : Jvm.MethodName) prog_8_method_11_code (1 : Nat) (Option.some (Jvm.ClassFile.FieldType.object "java/lang/String"))).before args0 about1 = true := code_word (m := ⟨10, 7⟩) (meth := k10m7) (c := k10c7) (by decide +kernel) rfl rfl rfl (by decide +kernel)
set_option maxRecDepth 65536 in
theorem w_c37 : (Jvm.Cond.code ({ cls := "com/example/anemone/anemone/IdempotencyKeyParsePinLaw", name := "same", desc := "(Ljava/lang/String;[CII)Z" } : Jvm.MethodName) method_3_code (4 : Nat) (Option.some Jvm.ClassFile.FieldType.boolean)).before args0 about1 = true := code_word (m := ⟨1, 2⟩) (meth := k1m2) (c := k1c2) (by decide +kernel) rfl rfl rfl (by decide +kernel)
set_option maxRecDepth 65536 in
theorem w_c38 : (Jvm.Cond.code ({ cls := "com/example/anemone/anemone/IdempotencyKeyParsePinLaw", name := "quotedStep", desc := "([C[C[IIIIIII)V" } : Jvm.MethodName) method_9_code (12 : Nat) (Option.none : Option Jvm.ClassFile.FieldType)).before args0 about1 = true := code_word (m := ⟨1, 8⟩) (meth := k1m8) (c := k1c8) (by decide +kernel) rfl rfl rfl (by decide +kernel)
set_option maxRecDepth 65536 in
theorem w_c39 : (Jvm.Cond.code ({ cls := "com/example/anemone/anemone/IdempotencyKey", name := "unquote", desc := "(Ljava/lang/String;)Ljava/lang/String;" } : Jvm.MethodName) prog_8_method_3_code (6 : Nat) (Option.some (Jvm.ClassFile.FieldType.object "java/lang/String"))).before args0 about1 = true := code_word (m := ⟨10, 2⟩) (meth := k10m2) (c := k10c2) (by decide +kernel) rfl rfl rfl (by decide +kernel)
set_option maxRecDepth 65536 in
theorem w_c40 : (Jvm.Cond.code ({ cls := "java/lang/StringBuilder", name := "<init>", desc := "(I)V" } : Jvm.MethodName) jdk_67_method_2_code (2 : Nat) (Option.none : Option Jvm.ClassFile.FieldType)).before args0 about1 = true := code_word (m := ⟨19, 1⟩) (meth := k19m1) (c := k19c1) (by decide +kernel) rfl rfl rfl (by decide +kernel)
set_option maxRecDepth 65536 in
theorem w_c41 : (Jvm.Cond.code ({ cls := "java/lang/AbstractStringBuilder", name := "<init>", desc := "(I)V" } : Jvm.MethodName) jdk_68_method_2_code (2 : Nat) (Option.none : Option Jvm.ClassFile.FieldType)).before args0 about1 = true := code_word (m := ⟨18, 1⟩) (meth := k18m1) (c := k18c1) (by decide +kernel) rfl rfl rfl (by decide +kernel)
set_option maxRecDepth 65536 in
theorem w_c42 : (Jvm.Cond.code ({ cls := "java/lang/StringBuilder", name := "append", desc := "(C)Ljava/lang/StringBuilder;" } : Jvm.MethodName) jdk_67_method_14_code (2 : Nat) (Option.some (Jvm.ClassFile.FieldType.object "java/lang/StringBuilder"))).before args0 about1 = true := code_word (m := ⟨19, 2⟩) (meth := k19m2) (c := k19c2) (by decide +kernel) rfl rfl rfl (by decide +kernel)
set_option maxRecDepth 65536 in
theorem w_c43 : (Jvm.Cond.code ({ cls := "java/lang/AbstractStringBuilder", name := "append", desc := "(C)Ljava/lang/AbstractStringBuilder;" } : Jvm.MethodName) jdk_68_method_31_code (2 : Nat) (Option.some (Jvm.ClassFile.FieldType.object "java/lang/AbstractStringBuilder"))).before args0 about1 = true := code_word (m := ⟨18, 4⟩) (meth := k18m4) (c := k18c4) (by decide +kernel) rfl rfl rfl (by decide +kernel)
set_option maxRecDepth 65536 in
theorem w_c44 : (Jvm.Cond.code ({ cls := "java/lang/AbstractStringBuilder", name := "ensureCapacityInternal", desc := "(I)V" } : Jvm.MethodName) jdk_68_method_9_code (3 : Nat) (Option.none : Option Jvm.ClassFile.FieldType)).before args0 about1 = true := code_word (m := ⟨18, 3⟩) (meth := k18m3) (c := k18c3) (by decide +kernel) rfl rfl rfl (by decide +kernel)
set_option maxRecDepth 65536 in
theorem w_c45 : (Jvm.Cond.code ({ cls := "java/lang/AbstractStringBuilder", name := "isLatin1", desc := "()Z" } : Jvm.MethodName) jdk_68_method_68_code (1 : Nat) (Option.some Jvm.ClassFile.FieldType.boolean)).before args0 about1 = true := code_word (m := ⟨18, 6⟩) (meth := k18m6) (c := k18c6) (by decide +kernel) rfl rfl rfl (by decide +kernel)
set_option maxRecDepth 65536 in
theorem w_c46 : (Jvm.Cond.code ({ cls := "java/lang/StringLatin1", name := "canEncode", desc := "(C)Z" } : Jvm.MethodName) jdk_43_method_3_code (1 : Nat) (Option.some Jvm.ClassFile.FieldType.boolean)).before args0 about1 = true := code_word (m := ⟨12, 2⟩) (meth := k12m2) (c := k12c2) (by decide +kernel) rfl rfl rfl (by decide +kernel)
set_option maxRecDepth 65536 in
theorem w_c47 : (Jvm.Cond.code ({ cls := "java/lang/StringBuilder", name := "toString", desc := "()Ljava/lang/String;" } : Jvm.MethodName) jdk_67_method_42_code (1 : Nat) (Option.some (Jvm.ClassFile.FieldType.object "java/lang/String"))).before args0 about1 = true := code_word (m := ⟨19, 3⟩) (meth := k19m3) (c := k19c3) (by decide +kernel) rfl rfl rfl (by decide +kernel)
set_option maxRecDepth 65536 in
theorem w_c48 : (Jvm.Cond.code ({ cls := "java/lang/String", name := "<init>", desc := "(Ljava/lang/StringBuilder;)V" } : Jvm.MethodName) jdk_42_method_53_code (2 : Nat) (Option.none : Option Jvm.ClassFile.FieldType)).before args0 about1 = true := code_word (m := ⟨7, 2⟩) (meth := k7m2) (c := k7c2) (by decide +kernel) rfl rfl rfl (by decide +kernel)
set_option maxRecDepth 65536 in
theorem w_c49 : (Jvm.Cond.code ({ cls := "java/lang/String", name := "<init>", desc := "(Ljava/lang/AbstractStringBuilder;Ljava/lang/Void;)V" } : Jvm.MethodName) jdk_42_method_150_code (5 : Nat) (Option.none : Option Jvm.ClassFile.FieldType)).before args0 about1 = true := code_word (m := ⟨7, 8⟩) (meth := k7m8) (c := k7c8) (by decide +kernel) rfl rfl rfl (by decide +kernel)
set_option maxRecDepth 65536 in
theorem w_c50 : (Jvm.Cond.code ({ cls := "java/lang/AbstractStringBuilder", name := "getValue", desc := "()[B" } : Jvm.MethodName) jdk_68_method_64_code (1 : Nat) (Option.some (Jvm.ClassFile.FieldType.array Jvm.ClassFile.FieldType.byte))).before args0 about1 = true := code_word (m := ⟨18, 5⟩) (meth := k18m5) (c := k18c5) (by decide +kernel) rfl rfl rfl (by decide +kernel)
set_option maxRecDepth 65536 in
theorem w_c51 : (Jvm.Cond.code ({ cls := "java/lang/StringBuilder", name := "length", desc := "()I" } : Jvm.MethodName) jdk_67_method_93_code (1 : Nat) (Option.some Jvm.ClassFile.FieldType.int)).before args0 about1 = true := code_word (m := ⟨19, 4⟩) (meth := k19m4) (c := k19c4) (by decide +kernel) rfl rfl rfl (by decide +kernel)
set_option maxRecDepth 65536 in
theorem w_c52 : (Jvm.Cond.code ({ cls := "java/lang/AbstractStringBuilder", name := "length", desc := "()I" } : Jvm.MethodName) jdk_68_method_6_code (1 : Nat) (Option.some Jvm.ClassFile.FieldType.int)).before args0 about1 = true := code_word (m := ⟨18, 2⟩) (meth := k18m2) (c := k18c2) (by decide +kernel) rfl rfl rfl (by decide +kernel)
set_option maxRecDepth 65536 in
theorem w_c53 : (Jvm.Cond.code ({ cls := "com/example/anemone/anemone/IdempotencyKeyParsePinLaw", name := "plainQuotedChar", desc := "(I)C" } : Jvm.MethodName) method_7_code (2 : Nat) (Option.some Jvm.ClassFile.FieldType.char)).before args0 about1 = true := code_word (m := ⟨1, 6⟩) (meth := k1m6) (c := k1c6) (by decide +kernel) rfl rfl rfl (by decide +kernel)
def codes1 : List Jvm.Cond := [Jvm.Cond.code x code maxLocals ret, Jvm.Cond.code ({ cls := "com/example/anemone/anemone/IdempotencyKeyParsePinLaw", name := "fillWs", desc := "([CII)V" } : Jvm.MethodName) method_4_code (3 : Nat) (Option.none : Option Jvm.ClassFile.FieldType), Jvm.Cond.code ({ cls := "com/example/anemone/anemone/IdempotencyKeyParsePinLaw", name := "bareStep", desc := "([C[C[IIIIII)V" } : Jvm.MethodName) method_8_code (9 : Nat) (Option.none : Option Jvm.ClassFile.FieldType), Jvm.Cond.code ({ cls := "com/example/anemone/anemone/IdempotencyKeyParsePinLaw", name := "byteAt", desc := "(III)I" } : Jvm.MethodName) method_5_code (4 : Nat) (Option.some Jvm.ClassFile.FieldType.int), Jvm.Cond.code ({ cls := "com/example/anemone/anemone/IdempotencyKeyParsePinLaw", name := "bareChar", desc := "(I)C" } : Jvm.MethodName) method_6_code (2 : Nat) (Option.some Jvm.ClassFile.FieldType.char), Jvm.Cond.code ({ cls := "java/lang/String", name := "<init>", desc := "([C)V" } : Jvm.MethodName) jdk_42_method_3_code (2 : Nat) (Option.none : Option Jvm.ClassFile.FieldType), Jvm.Cond.code ({ cls := "java/lang/String", name := "<init>", desc := "([CIILjava/lang/Void;)V" } : Jvm.MethodName) jdk_42_method_149_code (6 : Nat) (Option.none : Option Jvm.ClassFile.FieldType), Jvm.Cond.code ({ cls := "java/lang/Object", name := "<init>", desc := "()V" } : Jvm.MethodName) object_method_1_code (1 : Nat) (Option.none : Option Jvm.ClassFile.FieldType), Jvm.Cond.code ({ cls := "java/lang/StringUTF16", name := "compress", desc := "([CII)[B" } : Jvm.MethodName) jdk_52_method_16_code (6 : Nat) (Option.some (Jvm.ClassFile.FieldType.array Jvm.ClassFile.FieldType.byte)), Jvm.Cond.code ({ cls := "java/lang/StringUTF16", name := "compress", desc := "([CI[BII)I" } : Jvm.MethodName) jdk_52_method_21_code (7 : Nat) (Option.some Jvm.ClassFile.FieldType.int), Jvm.Cond.code ({ cls := "java/lang/StringUTF16", name := "coderFromArrayLen", desc := "([BI)B" } : Jvm.MethodName) jdk_52_method_15_code (2 : Nat) (Option.some Jvm.ClassFile.FieldType.byte), Jvm.Cond.code ({ cls := "com/example/anemone/anemone/IdempotencyKey", name := "parse", desc := "(Ljava/lang/String;)Lcom/example/anemone/anemone/IdempotencyKey;" } : Jvm.MethodName) prog_8_method_2_code (3 : Nat) (Option.some (Jvm.ClassFile.FieldType.object "com/example/anemone/anemone/IdempotencyKey")), Jvm.Cond.code ({ cls := "java/util/Objects", name := "requireNonNull", desc := "(Ljava/lang/Object;Ljava/lang/String;)Ljava/lang/Object;" } : Jvm.MethodName) jdk_31_method_11_code (2 : Nat) (Option.some (Jvm.ClassFile.FieldType.object "java/lang/Object")), Jvm.Cond.code ({ cls := "com/example/anemone/anemone/IdempotencyKey", name := "withoutSurroundingWhitespace", desc := "(Ljava/lang/String;)Ljava/lang/String;" } : Jvm.MethodName) prog_8_method_5_code (3 : Nat) (Option.some (Jvm.ClassFile.FieldType.object "java/lang/String")), Jvm.Cond.code ({ cls := "java/lang/String", name := "length", desc := "()I" } : Jvm.MethodName) jdk_42_method_54_code (1 : Nat) (Option.some Jvm.ClassFile.FieldType.int), Jvm.Cond.code ({ cls := "java/lang/String", name := "coder", desc := "()B" } : Jvm.MethodName) jdk_42_method_152_code (1 : Nat) (Option.some Jvm.ClassFile.FieldType.byte), Jvm.Cond.code ({ cls := "java/lang/String", name := "charAt", desc := "(I)C" } : Jvm.MethodName) jdk_42_method_56_code (2 : Nat) (Option.some Jvm.ClassFile.FieldType.char), Jvm.Cond.code ({ cls := "java/lang/String", name := "isLatin1", desc := "()Z" } : Jvm.MethodName) jdk_42_method_154_code (1 : Nat) (Option.some Jvm.ClassFile.FieldType.boolean), Jvm.Cond.code ({ cls := "java/lang/StringLatin1", name := "charAt", desc := "([BI)C" } : Jvm.MethodName) jdk_43_method_2_code (2 : Nat) (Option.some Jvm.ClassFile.FieldType.char), Jvm.Cond.code ({ cls := "java/lang/String", name := "checkIndex", desc := "(II)V" } : Jvm.MethodName) jdk_42_method_155_code (2 : Nat) (Option.none : Option Jvm.ClassFile.FieldType), Jvm.Cond.code ({ cls := "jdk/internal/util/Preconditions", name := "checkIndex", desc := "(IILjava/util/function/BiFunction;)I" } : Jvm.MethodName) jdk_41_method_11_code (3 : Nat) (Option.some Jvm.ClassFile.FieldType.int), Jvm.Cond.code ({ cls := "com/example/anemone/anemone/IdempotencyKey", name := "isSpaceOrTab", desc := "(C)Z" } : Jvm.MethodName) prog_8_method_6_code (1 : Nat) (Option.some Jvm.ClassFile.FieldType.boolean), Jvm.Cond.code ({ cls := "java/lang/String", name := "substring", desc := "(II)Ljava/lang/String;" } : Jvm.MethodName) jdk_42_method_92_code (5 : Nat) (Option.some (Jvm.ClassFile.FieldType.object "java/lang/String")), Jvm.Cond.code ({ cls := "java/lang/String", name := "checkBoundsBeginEnd", desc := "(III)V" } : Jvm.MethodName) jdk_42_method_158_code (3 : Nat) (Option.none : Option Jvm.ClassFile.FieldType), Jvm.Cond.code ({ cls := "jdk/internal/util/Preconditions", name := "checkFromToIndex", desc := "(IIILjava/util/function/BiFunction;)I" } : Jvm.MethodName) jdk_41_method_12_code (4 : Nat) (Option.some Jvm.ClassFile.FieldType.int), Jvm.Cond.code ({ cls := "java/lang/StringLatin1", name := "newString", desc := "([BII)Ljava/lang/String;" } : Jvm.MethodName) jdk_43_method_47_code (3 : Nat) (Option.some (Jvm.ClassFile.FieldType.object "java/lang/String")), Jvm.Cond.code ({ cls := "java/util/Arrays", name := "copyOfRange", desc := "([BII)[B" } : Jvm.MethodName) jdk_65_method_132_code (3 : Nat) (Option.some (Jvm.ClassFile.FieldType.array Jvm.ClassFile.FieldType.byte)), Jvm.Cond.code ({ cls := "java/util/Arrays", name := "copyOfRangeByte", desc := "([BII)[B" } : Jvm.MethodName) jdk_65_method_133_code (5 : Nat) (Option.some (Jvm.ClassFile.FieldType.array Jvm.ClassFile.FieldType.byte)), Jvm.Cond.code ({ cls := "java/util/Arrays", name := "checkLength", desc := "(II)V" } : Jvm.MethodName) jdk_65_method_131_code (2 : Nat) (Option.none : Option Jvm.ClassFile.FieldType), Jvm.Cond.code ({ cls := "java/lang/Math", name := "min", desc := "(II)I" } : Jvm.MethodName) jdk_29_method_69_code (2 : Nat) (Option.some Jvm.ClassFile.FieldType.int), Jvm.Cond.code ({ cls := "java/lang/String", name := "<init>", desc := "([BB)V" } : Jvm.MethodName) jdk_42_method_151_code (3 : Nat) (Option.none : Option Jvm.ClassFile.FieldType), Jvm.Cond.code ({ cls := "java/lang/String", name := "isEmpty", desc := "()Z" } : Jvm.MethodName) jdk_42_method_55_code (1 : Nat) (Option.some Jvm.ClassFile.FieldType.boolean), Jvm.Cond.code ({ cls := "com/example/anemone/anemone/IdempotencyKey", name := "requireBare", desc := "(Ljava/lang/String;)V" } : Jvm.MethodName) prog_8_method_4_code (3 : Nat) (Option.none : Option Jvm.ClassFile.FieldType), Jvm.Cond.code ({ cls := "com/example/anemone/anemone/IdempotencyKey", name := "isPrintable", desc := "(C)Z" } : Jvm.MethodName) prog_8_method_7_code (1 : Nat) (Option.some Jvm.ClassFile.FieldType.boolean), Jvm.Cond.code ({ cls := "com/example/anemone/anemone/IdempotencyKey", name := "<init>", desc := "(Ljava/lang/String;)V" } : Jvm.MethodName) prog_8_method_1_code (2 : Nat) (Option.none : Option Jvm.ClassFile.FieldType), Jvm.Cond.code ({ cls := "java/lang/Record", name := "<init>", desc := "()V" } : Jvm.MethodName) jdk_30_method_1_code (1 : Nat) (Option.none : Option Jvm.ClassFile.FieldType), Jvm.Cond.code ({ cls := "com/example/anemone/anemone/IdempotencyKey", name := "value", desc := "()Ljava/lang/String;" } : Jvm.MethodName) prog_8_method_11_code (1 : Nat) (Option.some (Jvm.ClassFile.FieldType.object "java/lang/String")), Jvm.Cond.code ({ cls := "com/example/anemone/anemone/IdempotencyKeyParsePinLaw", name := "same", desc := "(Ljava/lang/String;[CII)Z" } : Jvm.MethodName) method_3_code (4 : Nat) (Option.some Jvm.ClassFile.FieldType.boolean), Jvm.Cond.code ({ cls := "com/example/anemone/anemone/IdempotencyKeyParsePinLaw", name := "quotedStep", desc := "([C[C[IIIIIII)V" } : Jvm.MethodName) method_9_code (12 : Nat) (Option.none : Option Jvm.ClassFile.FieldType), Jvm.Cond.code ({ cls := "com/example/anemone/anemone/IdempotencyKey", name := "unquote", desc := "(Ljava/lang/String;)Ljava/lang/String;" } : Jvm.MethodName) prog_8_method_3_code (6 : Nat) (Option.some (Jvm.ClassFile.FieldType.object "java/lang/String")), Jvm.Cond.code ({ cls := "java/lang/StringBuilder", name := "<init>", desc := "(I)V" } : Jvm.MethodName) jdk_67_method_2_code (2 : Nat) (Option.none : Option Jvm.ClassFile.FieldType), Jvm.Cond.code ({ cls := "java/lang/AbstractStringBuilder", name := "<init>", desc := "(I)V" } : Jvm.MethodName) jdk_68_method_2_code (2 : Nat) (Option.none : Option Jvm.ClassFile.FieldType), Jvm.Cond.code ({ cls := "java/lang/StringBuilder", name := "append", desc := "(C)Ljava/lang/StringBuilder;" } : Jvm.MethodName) jdk_67_method_14_code (2 : Nat) (Option.some (Jvm.ClassFile.FieldType.object "java/lang/StringBuilder")), Jvm.Cond.code ({ cls := "java/lang/AbstractStringBuilder", name := "append", desc := "(C)Ljava/lang/AbstractStringBuilder;" } : Jvm.MethodName) jdk_68_method_31_code (2 : Nat) (Option.some (Jvm.ClassFile.FieldType.object "java/lang/AbstractStringBuilder")), Jvm.Cond.code ({ cls := "java/lang/AbstractStringBuilder", name := "ensureCapacityInternal", desc := "(I)V" } : Jvm.MethodName) jdk_68_method_9_code (3 : Nat) (Option.none : Option Jvm.ClassFile.FieldType), Jvm.Cond.code ({ cls := "java/lang/AbstractStringBuilder", name := "isLatin1", desc := "()Z" } : Jvm.MethodName) jdk_68_method_68_code (1 : Nat) (Option.some Jvm.ClassFile.FieldType.boolean), Jvm.Cond.code ({ cls := "java/lang/StringLatin1", name := "canEncode", desc := "(C)Z" } : Jvm.MethodName) jdk_43_method_3_code (1 : Nat) (Option.some Jvm.ClassFile.FieldType.boolean), Jvm.Cond.code ({ cls := "java/lang/StringBuilder", name := "toString", desc := "()Ljava/lang/String;" } : Jvm.MethodName) jdk_67_method_42_code (1 : Nat) (Option.some (Jvm.ClassFile.FieldType.object "java/lang/String")), Jvm.Cond.code ({ cls := "java/lang/String", name := "<init>", desc := "(Ljava/lang/StringBuilder;)V" } : Jvm.MethodName) jdk_42_method_53_code (2 : Nat) (Option.none : Option Jvm.ClassFile.FieldType), Jvm.Cond.code ({ cls := "java/lang/String", name := "<init>", desc := "(Ljava/lang/AbstractStringBuilder;Ljava/lang/Void;)V" } : Jvm.MethodName) jdk_42_method_150_code (5 : Nat) (Option.none : Option Jvm.ClassFile.FieldType), Jvm.Cond.code ({ cls := "java/lang/AbstractStringBuilder", name := "getValue", desc := "()[B" } : Jvm.MethodName) jdk_68_method_64_code (1 : Nat) (Option.some (Jvm.ClassFile.FieldType.array Jvm.ClassFile.FieldType.byte)), Jvm.Cond.code ({ cls := "java/lang/StringBuilder", name := "length", desc := "()I" } : Jvm.MethodName) jdk_67_method_93_code (1 : Nat) (Option.some Jvm.ClassFile.FieldType.int), Jvm.Cond.code ({ cls := "java/lang/AbstractStringBuilder", name := "length", desc := "()I" } : Jvm.MethodName) jdk_68_method_6_code (1 : Nat) (Option.some Jvm.ClassFile.FieldType.int), Jvm.Cond.code ({ cls := "com/example/anemone/anemone/IdempotencyKeyParsePinLaw", name := "plainQuotedChar", desc := "(I)C" } : Jvm.MethodName) method_7_code (2 : Nat) (Option.some Jvm.ClassFile.FieldType.char)]
set_option maxRecDepth 65536 in
theorem codes_eq : words1.filter isCode = codes1 := rfl
theorem w_codes : ∀ c ∈ words1.filter isCode, c.before args0 about1 = true := by
  rw [codes_eq]
  intro c hc
  simp only [codes1, List.mem_cons, List.not_mem_nil, or_false] at hc
  rcases hc with rfl | rfl | rfl | rfl | rfl | rfl | rfl | rfl | rfl | rfl | rfl | rfl | rfl | rfl | rfl | rfl | rfl | rfl | rfl | rfl | rfl | rfl | rfl | rfl | rfl | rfl | rfl | rfl | rfl | rfl | rfl | rfl | rfl | rfl | rfl | rfl | rfl | rfl | rfl | rfl | rfl | rfl | rfl | rfl | rfl | rfl | rfl | rfl | rfl | rfl | rfl | rfl | rfl | rfl
  · exact w_c0
  · exact w_c1
  · exact w_c2
  · exact w_c3
  · exact w_c4
  · exact w_c5
  · exact w_c6
  · exact w_c7
  · exact w_c8
  · exact w_c9
  · exact w_c10
  · exact w_c11
  · exact w_c12
  · exact w_c13
  · exact w_c14
  · exact w_c15
  · exact w_c16
  · exact w_c17
  · exact w_c18
  · exact w_c19
  · exact w_c20
  · exact w_c21
  · exact w_c22
  · exact w_c23
  · exact w_c24
  · exact w_c25
  · exact w_c26
  · exact w_c27
  · exact w_c28
  · exact w_c29
  · exact w_c30
  · exact w_c31
  · exact w_c32
  · exact w_c33
  · exact w_c34
  · exact w_c35
  · exact w_c36
  · exact w_c37
  · exact w_c38
  · exact w_c39
  · exact w_c40
  · exact w_c41
  · exact w_c42
  · exact w_c43
  · exact w_c44
  · exact w_c45
  · exact w_c46
  · exact w_c47
  · exact w_c48
  · exact w_c49
  · exact w_c50
  · exact w_c51
  · exact w_c52
  · exact w_c53
set_option maxRecDepth 65536 in
theorem w_t1 : (words1.take 24).all (fun c => isCode c || c.before args0 about1) = true := by decide +kernel
set_option maxRecDepth 65536 in
theorem w_t2 : ((words1.drop 24).take 24).all (fun c => isCode c || c.before args0 about1) = true := by decide +kernel
set_option maxRecDepth 65536 in
theorem w_t3 : (((words1.drop 24).drop 24).take 24).all (fun c => isCode c || c.before args0 about1) = true := by decide +kernel
set_option maxRecDepth 65536 in
theorem w_t4 : ((((words1.drop 24).drop 24).drop 24).take 24).all (fun c => isCode c || c.before args0 about1) = true := by decide +kernel
set_option maxRecDepth 65536 in
theorem w_t5 : (((((words1.drop 24).drop 24).drop 24).drop 24).take 24).all (fun c => isCode c || c.before args0 about1) = true := by decide +kernel
set_option maxRecDepth 65536 in
theorem w_t6 : ((((((words1.drop 24).drop 24).drop 24).drop 24).drop 24).take 24).all (fun c => isCode c || c.before args0 about1) = true := by decide +kernel
set_option maxRecDepth 65536 in
theorem w_t7 : (((((((words1.drop 24).drop 24).drop 24).drop 24).drop 24).drop 24).take 24).all (fun c => isCode c || c.before args0 about1) = true := by decide +kernel
set_option maxRecDepth 65536 in
theorem w_t8 : ((((((((words1.drop 24).drop 24).drop 24).drop 24).drop 24).drop 24).drop 24).take 24).all (fun c => isCode c || c.before args0 about1) = true := by decide +kernel
set_option maxRecDepth 65536 in
theorem w_t9 : (((((((((words1.drop 24).drop 24).drop 24).drop 24).drop 24).drop 24).drop 24).drop 24).take 24).all (fun c => isCode c || c.before args0 about1) = true := by decide +kernel
set_option maxRecDepth 65536 in
theorem w_t10 : ((((((((((words1.drop 24).drop 24).drop 24).drop 24).drop 24).drop 24).drop 24).drop 24).drop 24).take 24).all (fun c => isCode c || c.before args0 about1) = true := by decide +kernel
set_option maxRecDepth 65536 in
theorem w_t11 : ((((((((((words1.drop 24).drop 24).drop 24).drop 24).drop 24).drop 24).drop 24).drop 24).drop 24).drop 24).all (fun c => isCode c || c.before args0 about1) = true := by decide +kernel
theorem w_tables : (allAtoms (Jvm.Cond.code x code maxLocals ret :: tables_1)).before args0 about1 = true := by
  rw [allAtoms_all]
  show words1.all (fun c => c.before args0 about1) = true
  refine all_split ?_ w_codes
  rw [← List.take_append_drop 24 words1, List.all_append, w_t1, ← List.take_append_drop 24 (words1.drop 24), List.all_append, w_t2, ← List.take_append_drop 24 ((words1.drop 24).drop 24), List.all_append, w_t3, ← List.take_append_drop 24 (((words1.drop 24).drop 24).drop 24), List.all_append, w_t4, ← List.take_append_drop 24 ((((words1.drop 24).drop 24).drop 24).drop 24), List.all_append, w_t5, ← List.take_append_drop 24 (((((words1.drop 24).drop 24).drop 24).drop 24).drop 24), List.all_append, w_t6, ← List.take_append_drop 24 ((((((words1.drop 24).drop 24).drop 24).drop 24).drop 24).drop 24), List.all_append, w_t7, ← List.take_append_drop 24 (((((((words1.drop 24).drop 24).drop 24).drop 24).drop 24).drop 24).drop 24), List.all_append, w_t8, ← List.take_append_drop 24 ((((((((words1.drop 24).drop 24).drop 24).drop 24).drop 24).drop 24).drop 24).drop 24), List.all_append, w_t9, ← List.take_append_drop 24 (((((((((words1.drop 24).drop 24).drop 24).drop 24).drop 24).drop 24).drop 24).drop 24).drop 24), List.all_append, w_t10, w_t11]
  rfl
set_option maxRecDepth 65536 in
theorem w_rest : rest_1_c.before args0 about1 = true := by decide +kernel
set_option maxRecDepth 65536 in
theorem w_case : (Jvm.Cond.and given_1 narrow_1).before args0 about1 = true := by decide +kernel
theorem w_applies : (headSpec (Jvm.Cond.code x code maxLocals ret :: tables_1) room_1).applies x e0.platform about1 = true :=
  (Spec.applies_iff w_frames).mpr ⟨w_running, w_runnable, w_alone, w_named, w_hears, w_ripe, w_room, w_tables⟩
theorem atStart : AtStart classFile x code maxLocals ret World_1 tables_1 room_1 Calls_1 rest_1 Pre_1 launch0 p0 e0 about1 theMethod args0 below0 :=
  ⟨lists_1, trivial, launch0.admits_env _ _ _, launch0.least_env, fairChoices_fair.cas, fairChoices_fair.clock, w_frames, w_args, w_heap, w_applies, trivial, w_rest, w_case⟩
end start1
theorem witness_1 : WitnessClaimed_1 := ⟨start1.p0, start1.e0, start1.about1, start1.theMethod, start1.args0, start1.below0, start1.atStart⟩
end Jvm.Pilot.@@N@@
