import JvmDerived
import JvmDerived.Pilot.@@N@@Statement
import JvmDerived.Pilot.@@N@@Code
set_option linter.unusedVariables false
set_option linter.unusedSimpArgs false
namespace Jvm.Pilot.@@N@@
open Jvm Jvm.ClassFile Sem Op Lib Jvm.Free Jvm.Stand Jvm.LawKit Jvm.RoadKit Bundle Jvm.Pilot.@@N@@.Jvm.D
/-! the run of one body: Cx holds what is fixed while it runs -/
abbrev Cx : Type := Program × Env × State × MethodId × Array Value × List Frame × Method × Code
abbrev kp (K : Cx) : Program := K.1
abbrev ke (K : Cx) : Env := K.2.1
abbrev ks (K : Cx) : State := K.2.2.1
abbrev km (K : Cx) : MethodId := K.2.2.2.1
abbrev ka (K : Cx) : Array Value := K.2.2.2.2.1
abbrev kb (K : Cx) : List Frame := K.2.2.2.2.2.1
abbrev kt (K : Cx) : Method := K.2.2.2.2.2.2.1
abbrev kc (K : Cx) : Code := K.2.2.2.2.2.2.2
/-- what is returned: nothing where the method is void -/
def Rv (ret : Option FieldType) (w : Value) : Option Value := match ret with
  | none => none
  | some _ => some w
/-- the places written lie in 'ws' or are new -/
def Nw (h0 : Heap) (ws : List Addr) (L : List Loc) : Prop := ∀ x ∈ L, x.base ∈ ws ∨ h0.size ≤ x.base
theorem Nw.nil {h0 : Heap} {ws : List Addr} : Nw h0 ws [] := fun _ q => nomatch q
theorem Nw.app {h0 : Heap} {ws : List Addr} {L L' : List Loc} (a : Nw h0 ws L) (b : Nw h0 ws L') : Nw h0 ws (L ++ L') := fun x q => (List.mem_append.mp q).elim (a x) (b x)
theorem Nw.one {h0 : Heap} {ws : List Addr} {L : List Loc} {a : Addr} {i : Nat} (p : Nw h0 ws L) (q : a ∈ ws ∨ h0.size ≤ a) : Nw h0 ws (L ++ [⟨a, i⟩]) := p.app fun x hx => by cases List.mem_singleton.mp hx; exact q
theorem keep_same {s t : State} {L : List Loc} {k n : Nat} {h0 : Heap} {ws : List Addr} (F : s.sameButNew t L k n) (e : s.heap = h0) (N : Nw h0 ws L) : Keep h0 t.heap ws := by
  subst e
  obtain ⟨-, h2, -, -, -, h3⟩ := F
  refine ⟨h2, fun x c hc hx => ?_, fun x c hc => ?_⟩
  · obtain ⟨c', q1, q2, q3, q4⟩ := h3 x c hc
    have lt := (Array.getElem?_eq_some_iff.mp hc).1
    have : c'.slots = c.slots := Array.ext_getElem? fun i => q4 i fun hm => (N _ hm).elim hx fun q => Nat.not_lt.mpr q lt
    rw [q1, q2, this]
  · obtain ⟨c', q1, q2, q3, -⟩ := h3 x c hc
    exact ⟨c', q1, by rw [q2], by rw [q2], q3⟩
def Ok (Z : State) (n0 : Nat) (EL : List (String × Nat)) (mn : MethodName) (bytes : ByteArray) (ml : Nat) (ret : Option FieldType) (h0 : Heap) (ws : List Addr) (K : Cx) : Prop :=
  (kp K).tables.exec = Jvm.exec ∧ (kc K).code = bytes ∧ (kc K).maxLocals = ml ∧ (ks K).vm.findClass mn.cls = some (km K).cls ∧ (kt K).name = mn.name ∧ Z.Warmed39 (ks K).vm ∧ (kt K).sig.returnType = ret ∧ (kt K).locks = false ∧ (ks K).heap = h0 ∧ Old Z n0 h0 ∧ (∀ x ∈ ws, n0 ≤ x) ∧ ∃ a0, EW Z a0 EL
/-- where the run stands: over the true start with the tables vm0 (a constant may have been interned since) -/
def Sd (l : Launch) (Z : State) (EL : List (String × Nat)) (mn : MethodName) (R : Room) (h0 : Heap) (ws : List Addr) (K : Cx) (sf : List Addr) (h : Heap) (k n : Nat) (T : State) (locs : List Loc) (vm0 : Vm) (k0 : Nat) : Prop :=
  Stand (kp K) l (ke K) R ((ks K).setVm vm0) (km K) (ka K) (kb K) (kt K) (kc K) T locs k n ∧ T.heap = h ∧ Nw h0 ws locs ∧ (ks K).Since vm0 k0 ∧ k0 ≤ h.size ∧ Z.Warmed39 vm0 ∧ vm0.findClass mn.cls = some (km K).cls ∧ CHr Z EL (ks K).vm h0 vm0 h ∧ ∀ x ∈ sf, x < h.size ∧ Safe Z EL vm0 h x
/-- from the frame (pc, Ls, st), with the heap h, k cells and n slots made, the body's run ends, and Q holds of what it returns and of its last heap; sf: objects that are no constant's String nor its bytes -/
def Go (l : Launch) (Z : State) (n0 : Nat) (EL : List (String × Nat)) (mn : MethodName) (bytes : ByteArray) (ml : Nat) (ret : Option FieldType) (R : Room) (h0 : Heap) (ws : List Addr) (fr : Bool) (Q : Value → Heap → Prop) (K : Cx) (sf : List Addr) (h : Heap) (k n pc : Nat) (Ls : Array Slot) (st : List Value) : Prop :=
  Ok Z n0 EL mn bytes ml ret h0 ws K → ∀ (T : State) (locs : List Loc) (vm0 : Vm) (k0 : Nat), Sd l Z EL mn R h0 ws K sf h k n T locs vm0 k0 →
    ∃ s₂ w L, Steps (kp K).tables (ke K) (kb K) (T.setTop (mkF (km K) pc Ls st)) s₂ ∧ s₂.status = .running ∧ Ended s₂ (kb K) (.returned (Rv ret w)) ∧ Q w s₂.heap ∧ Nw h0 ws L ∧ (fr = true → ∀ a, w = .ref a → a < s₂.heap.size ∧ Safe Z EL s₂.vm s₂.heap a) ∧ CHr Z EL (ks K).vm h0 s₂.vm s₂.heap ∧ ReturnedEndW (ks K) (.returned (Rv ret w)) s₂ L R.cells R.slots
/-- what a contract leaves, beside the frame -/
def Qe (Z : State) (EL : List (String × Nat)) (ret : Option FieldType) (h0 : Heap) (ws : List Addr) (fr : Bool) (Q : Value → Heap → Prop) (v : Option Value) (vm' : Vm) (h' : Heap) (L : List Loc) : Prop :=
  (∃ w, v = Rv ret w ∧ Q w h' ∧ Keep h0 h' ws ∧ (fr = true → ∀ a, w = .ref a → a < h'.size ∧ Safe Z EL vm' h' a)) ∧ Nw h0 ws L
/-- a body's contract: called with 'as' at the heap h0 it returns, Q holds, and it writes none of the old cells but those in ws -/
def Con (l : Launch) (Z : State) (n0 : Nat) (EL : List (String × Nat)) (mn : MethodName) (bytes : ByteArray) (ml : Nat) (ret : Option FieldType) (wl : List Jvm.Cond) (R : Room) (as : Array Value) (h0 : Heap) (ws : List Addr) (fr : Bool) (Q : Value → Heap → Prop) : Prop :=
  Old Z n0 h0 → (∀ x ∈ ws, n0 ≤ x) → (∃ a0, EW Z a0 EL) → MetFree l mn (head1 (Jvm.Cond.code mn bytes ml ret :: wl) R) (fun a U => a = as ∧ Z.Warmed39 U.vm ∧ U.heap = h0 ∧ CHv Z EL U.vm h0 ∧ ∀ x ∈ ws, x < h0.size ∧ Safe Z EL U.vm h0 x) (fun _ _ _ _ _ => True)
    (fun _ U o U' => ∃ v L, o = .returned v ∧ Qe Z EL ret h0 ws fr Q v U'.vm U'.heap L ∧ CHr Z EL U.vm U.heap U'.vm U'.heap ∧ ReturnedEndW U o U' L R.cells R.slots)
section Base
variable {l : Launch} {Z : State} {n0 : Nat} {EL : List (String × Nat)} {mn : MethodName} {bytes : ByteArray} {ml : Nat} {ret : Option FieldType} {R : Room} {h0 : Heap} {ws : List Addr} {fr : Bool} {Q : Value → Heap → Prop} {K : Cx} {sf : List Addr} {h : Heap} {k n pc pc' : Nat} {Ls : Array Slot} {st : List Value} {a0 : Array Value}
theorem con_of {wl : List Jvm.Cond} {as : Array Value} (hp : plainFor mn = true) (hef : ∀ m, entryFrame m as ml = mkF m 0 Ls []) (G : ∀ K, Go l Z n0 EL mn bytes ml ret R h0 ws fr Q K ws h0 0 0 0 Ls []) : Con l Z n0 EL mn bytes ml ret wl R as h0 ws fr Q := by
  intro ho hws hEL
  refine MetFree.of_bodySF hp hisR ?_
  intro p e s m args below meth c s₁ Bd hml0 hP hK
  obtain ⟨rfl, hZ, hh, hC, hSf⟩ := hP
  have X0 := Stand.of_body Bd
  have hown := findClass_of_methodNamed Bd.named
  obtain ⟨s₂, w, L, h1, h2, h3, h4, h5, h6, h7, h8⟩ := G (p, e, s, m, args, below, meth, c) ⟨Bd.exec, Bd.bytes, hml0, hown, (name_of_methodNamed Bd.named Bd.method).1, hZ, Bd.returns, Bd.notSynchronized, hh, ho, hws, hEL⟩ s₁ [] s.vm 0 ⟨X0, by rw [← hh, Bd.state]; rfl, Nw.nil, (State.WarmedH.refl s).since 0, Nat.zero_le _, hZ, hown, CHr.refl hC, hSf⟩
  exact ⟨s₂, _, castTop (hef m) h1, h2, h3, _, L, rfl, ⟨⟨w, rfl, h4, (keep_same h8.2.2.2 hh h5 :), h6⟩, h5⟩, by rw [show s.heap = h0 from hh]; exact h7, h8⟩
theorem con_mono {wl : List Jvm.Cond} {as : Array Value} {Q' : Value → Heap → Prop} (C : Con l Z n0 EL mn bytes ml ret wl R as h0 ws fr Q) (H : ∀ w h', Keep h0 h' ws → Q w h' → Q' w h') : Con l Z n0 EL mn bytes ml ret wl R as h0 ws fr Q' := by
  intro ho hws hEL p e ha hc hk s m args below hf happ hP hK
  obtain ⟨n, o, h1, h2, h3, v, L, q1, ⟨⟨w, q2, q3, q4, q4'⟩, q5⟩, q6⟩ := C ho hws hEL p e ha hc hk s m args below hf happ hP hK
  exact ⟨n, o, h1, h2, h3, v, L, q1, ⟨⟨w, q2, H w _ q4 q3, q4, q4'⟩, q5⟩, q6⟩
theorem old_at (ok : Ok Z n0 EL mn bytes ml ret h0 ws K) {T : State} {locs : List Loc} {vm0 : Vm} {k0 : Nat} (X : Sd l Z EL mn R h0 ws K sf h k n T locs vm0 k0) : Old Z n0 h ∧ Keep h0 h ws := by
  obtain ⟨-, -, -, -, -, -, -, -, eh, ho, hws, -⟩ := ok
  have Kp : Keep h0 T.heap ws := (keep_same X.1.same eh X.2.2.1 :)
  exact ⟨X.2.1 ▸ ho.keep Kp hws, X.2.1 ▸ Kp⟩
theorem go_old (G : Old Z n0 h → Keep h0 h ws → Go l Z n0 EL mn bytes ml ret R h0 ws fr Q K sf h k n pc Ls st) : Go l Z n0 EL mn bytes ml ret R h0 ws fr Q K sf h k n pc Ls st := fun ok T locs vm0 k0 X =>
  G (old_at ok X).1 (old_at ok X).2 ok T locs vm0 k0 X
theorem go_mono {k' n' : Nat} (hk : k ≤ k') (hn : n ≤ n') (G : Go l Z n0 EL mn bytes ml ret R h0 ws fr Q K sf h k' n' pc Ls st) : Go l Z n0 EL mn bytes ml ret R h0 ws fr Q K sf h k n pc Ls st := fun ok T locs vm0 k0 X =>
  G ok T locs vm0 k0 ⟨{ X.1 with same := X.1.same.mono hk hn }, X.2⟩
theorem go_sf {sf' : List Addr} (hs : ∀ x ∈ sf', x ∈ sf) (G : Go l Z n0 EL mn bytes ml ret R h0 ws fr Q K sf' h k n pc Ls st) : Go l Z n0 EL mn bytes ml ret R h0 ws fr Q K sf h k n pc Ls st := fun ok T locs vm0 k0 ⟨a1, a2, a3, a4, a5, a6, a7, a8, a9⟩ =>
  G ok T locs vm0 k0 ⟨a1, a2, a3, a4, a5, a6, a7, a8, fun x hx => a9 x (hs x hx)⟩
theorem go_add {a : Addr} (hE : EL = []) (ha : a < h.size) (G : Go l Z n0 EL mn bytes ml ret R h0 ws fr Q K (a :: sf) h k n pc Ls st) : Go l Z n0 EL mn bytes ml ret R h0 ws fr Q K sf h k n pc Ls st := fun ok T locs vm0 k0 ⟨a1, a2, a3, a4, a5, a6, a7, a8, a9⟩ =>
  G ok T locs vm0 k0 ⟨a1, a2, a3, a4, a5, a6, a7, a8, fun x hx => (List.mem_cons.mp hx).elim (fun q => by subst q hE; exact ⟨ha, fun ⟨p, hp, _⟩ => nomatch hp⟩) (a9 x)⟩
theorem g_pure {Ls' : Array Slot} {st' : List Value} (S : ∀ T t, At T (km K) (kc K) (kb K) → (kp K).tables.exec = Jvm.exec → Steps (kp K).tables (ke K) (kb K) (T.setTop (mkF (km K) pc' Ls' st')) t → (kc K).code = bytes → Steps (kp K).tables (ke K) (kb K) (T.setTop (mkF (km K) pc Ls st)) t)
    (G : Go l Z n0 EL mn bytes ml ret R h0 ws fr Q K sf h k n pc' Ls' st') : Go l Z n0 EL mn bytes ml ret R h0 ws fr Q K sf h k n pc Ls st := fun ok T locs vm0 k0 X => by
  obtain ⟨s₂, w, L, h1, r⟩ := G ok T locs vm0 k0 X
  exact ⟨s₂, w, L, S T _ X.1.here ok.1 h1 ok.2.1, r⟩
theorem g_law {Ls' : Array Slot} {st' : List Value} (S : ∀ (s' T : State) (locs : List Loc), (kp K).tables.exec = Jvm.exec → (kc K).code = bytes → (kc K).maxLocals = ml → s'.vm.findClass mn.cls = some (km K).cls → (kt K).name = mn.name → Z.Warmed39 s'.vm → Stand (kp K) l (ke K) R s' (km K) (ka K) (kb K) (kt K) (kc K) T locs k n → T.heap = h → Old Z n0 h → ∃ T', Stand (kp K) l (ke K) R s' (km K) (ka K) (kb K) (kt K) (kc K) T' locs k n ∧ T'.heap = h ∧ ∀ t, Steps (kp K).tables (ke K) (kb K) (T'.setTop (mkF (km K) pc' Ls' st')) t → Steps (kp K).tables (ke K) (kb K) (T.setTop (mkF (km K) pc Ls st)) t)
    (G : Go l Z n0 EL mn bytes ml ret R h0 ws fr Q K sf h k n pc' Ls' st') : Go l Z n0 EL mn bytes ml ret R h0 ws fr Q K sf h k n pc Ls st := fun ok T locs vm0 k0 X => by
  have ho := (old_at ok X).1
  obtain ⟨a1, a2, a3, a4, a5, a6, a7, a8, a9⟩ := X
  obtain ⟨T', X', e', S'⟩ := S ((ks K).setVm vm0) T locs ok.1 ok.2.1 ok.2.2.1 a7 ok.2.2.2.2.1 a6 a1 a2 ho
  obtain ⟨s₂, w, L, h1, r⟩ := G ok T' locs vm0 k0 ⟨X', e', a3, a4, a5, a6, a7, a8, a9⟩
  exact ⟨s₂, w, L, S' _ h1, r⟩
theorem g_wr {a : Addr} {i : Nat} {v : Value} {Ls' : Array Slot} {st' : List Value} (S : ∀ (s' T : State) (locs : List Loc), (kp K).tables.exec = Jvm.exec → (kc K).code = bytes → (kc K).maxLocals = ml → s'.vm.findClass mn.cls = some (km K).cls → (kt K).name = mn.name → Z.Warmed39 s'.vm → Stand (kp K) l (ke K) R s' (km K) (ka K) (kb K) (kt K) (kc K) T locs k n → T.heap = h → Old Z n0 h → ∃ T' h', Stand (kp K) l (ke K) R s' (km K) (ka K) (kb K) (kt K) (kc K) T' (locs ++ [⟨a, i⟩]) k n ∧ T'.heap = h' ∧ Wr h h' a i v ∧ ∀ t, Steps (kp K).tables (ke K) (kb K) (T'.setTop (mkF (km K) pc' Ls' st')) t → Steps (kp K).tables (ke K) (kb K) (T.setTop (mkF (km K) pc Ls st)) t)
    (hin : a ∈ ws ∨ h0.size ≤ a) (hsf : a ∈ sf) (G : ∀ h', Wr h h' a i v → Go l Z n0 EL mn bytes ml ret R h0 ws fr Q K sf h' k n pc' Ls' st') : Go l Z n0 EL mn bytes ml ret R h0 ws fr Q K sf h k n pc Ls st := fun ok T locs vm0 k0 X => by
  have ho := (old_at ok X).1
  obtain ⟨a1, a2, a3, a4, a5, a6, a7, a8, a9⟩ := X
  obtain ⟨T', h', X', e', W, S'⟩ := S ((ks K).setVm vm0) T locs ok.1 ok.2.1 ok.2.2.1 a7 ok.2.2.2.2.1 a6 a1 a2 ho
  have Sa := (a9 a hsf).2
  obtain ⟨s₂, w, L, h1, r⟩ := G h' W ok T' _ vm0 k0 ⟨X', e', a3.one hin, a4, by rw [W.size]; exact a5, a6, a7, a8.trans (CHr.wr W Sa a8.1), fun x hx => ⟨by rw [W.size]; exact (a9 x hx).1, Safe.wr W Sa a8.1 (a9 x hx).2⟩⟩
  exact ⟨s₂, w, L, S' _ h1, r⟩
theorem g_ext {P : Heap → Prop} {k' n' : Nat} {Ls' : Array Slot} {st' : List Value} (S : ∀ (s' T : State) (locs : List Loc), (kp K).tables.exec = Jvm.exec → (kc K).code = bytes → (kc K).maxLocals = ml → s'.vm.findClass mn.cls = some (km K).cls → (kt K).name = mn.name → Z.Warmed39 s'.vm → Stand (kp K) l (ke K) R s' (km K) (ka K) (kb K) (kt K) (kc K) T locs k n → T.heap = h → Old Z n0 h → ∃ T' h', Stand (kp K) l (ke K) R s' (km K) (ka K) (kb K) (kt K) (kc K) T' locs k' n' ∧ T'.heap = h' ∧ Ext h h' ∧ h.size < h'.size ∧ P h' ∧ ∀ t, Steps (kp K).tables (ke K) (kb K) (T'.setTop (mkF (km K) pc' Ls' st')) t → Steps (kp K).tables (ke K) (kb K) (T.setTop (mkF (km K) pc Ls st)) t)
    (G : ∀ h', Ext h h' → P h' → h0.size ≤ h.size → Go l Z n0 EL mn bytes ml ret R h0 ws fr Q K (h.size :: sf) h' k' n' pc' Ls' st') : Go l Z n0 EL mn bytes ml ret R h0 ws fr Q K sf h k n pc Ls st := fun ok T locs vm0 k0 X => by
  obtain ⟨ho, hKp⟩ := old_at ok X
  obtain ⟨a1, a2, a3, a4, a5, a6, a7, a8, a9⟩ := X
  obtain ⟨T', h', X', e', E, hlt, p, S'⟩ := S ((ks K).setVm vm0) T locs ok.1 ok.2.1 ok.2.2.1 a7 ok.2.2.2.2.1 a6 a1 a2 ho
  obtain ⟨s₂, w, L, h1, r⟩ := G h' E p hKp.1 ok T' _ vm0 k0 ⟨X', e', a3, a4, Nat.le_trans a5 E.1, a6, a7, a8.trans (CHr.ext E a8.1), fun x hx => (List.mem_cons.mp hx).elim (fun q => by subst q; exact ⟨hlt, Safe.ext E a8.1 (Safe.new (Nat.le_refl _))⟩) fun q => ⟨Nat.lt_of_lt_of_le (a9 x q).1 E.1, Safe.ext E a8.1 (a9 x q).2⟩⟩
  exact ⟨s₂, w, L, S' _ h1, r⟩
theorem g_ret {w : Value} (S : ∀ (s' T : State) (locs : List Loc), (kp K).tables.exec = Jvm.exec → (kc K).code = bytes → Stand (kp K) l (ke K) R s' (km K) (ka K) (kb K) (kt K) (kc K) T locs k n → (kt K).sig.returnType = ret → ∀ fs, (∀ (f : JFrame) (acts : List Action), f.method = km K → f.locked = none → f.entered = [] → (doReturn (ke K) (T.setTop f) acts (Rv ret w)).1 = T.setFrames fs) → Steps (kp K).tables (ke K) (kb K) (T.setTop (mkF (km K) pc Ls st)) (T.setFrames fs))
    (hq : Q w h) (hfr : fr = true → ∀ a, w = .ref a → a ∈ sf) (hk : k ≤ R.cells) (hn : n ≤ R.slots) : Go l Z n0 EL mn bytes ml ret R h0 ws fr Q K sf h k n pc Ls st := fun ok T locs vm0 k0 X => by
  obtain ⟨hx, hb, -, -, -, -, hret, hlk, -, -, -, _, hEL⟩ := ok
  obtain ⟨a1, a2, a3, a4, a5, a6, a7, a8, a9⟩ := X
  obtain ⟨fs, hl, hrun, hended, r1, r2, r3, r4⟩ := a1.leaveW a4 (by rw [a2]; exact a5) (v := Rv ret w) (fun q => by rw [hret] at q; subst q; rfl) hlk
  have A := CHv.at a1 a6 hEL a8.1
  subst a2
  exact ⟨_, w, locs, S _ T locs hx hb a1 hret fs hl, hrun, hended, hq, a3, fun e a hw => ⟨(a9 a (hfr e a hw)).1, A.safe (a9 a (hfr e a hw)).1 (a9 a (hfr e a hw)).2⟩, a8.trans A, r1, r2, r3, r4.mono hk hn⟩
theorem g_fr {P : Heap → Prop} {b : Addr} {Ls' : Array Slot} {st' : List Value} (S : ∀ (s' T : State) (locs : List Loc), (kp K).tables.exec = Jvm.exec → (kc K).code = bytes → (kc K).maxLocals = ml → s'.vm.findClass mn.cls = some (km K).cls → (kt K).name = mn.name → Z.Warmed39 s'.vm → Stand (kp K) l (ke K) R s' (km K) (ka K) (kb K) (kt K) (kc K) T locs k n → T.heap = h → Old Z n0 h → Fr h0.size locs → ∃ T' h' L, Stand (kp K) l (ke K) R s' (km K) (ka K) (kb K) (kt K) (kc K) T' L k n ∧ T'.heap = h' ∧ Fr h0.size L ∧ Keep h h' [b] ∧ P h' ∧ ∀ t, Steps (kp K).tables (ke K) (kb K) (T'.setTop (mkF (km K) pc' Ls' st')) t → Steps (kp K).tables (ke K) (kb K) (T.setTop (mkF (km K) pc Ls st)) t)
    (hsf : b ∈ sf) (G : ∀ h', Keep h h' [b] → P h' → Go l Z n0 EL mn bytes ml ret R h0 [] fr Q K sf h' k n pc' Ls' st') : Go l Z n0 EL mn bytes ml ret R h0 [] fr Q K sf h k n pc Ls st := fun ok T locs vm0 k0 X => by
  have ho := (old_at ok X).1
  obtain ⟨a1, a2, a3, a4, a5, a6, a7, a8, a9⟩ := X
  obtain ⟨T', h', L, X', e', F, Kp, p, S'⟩ := S ((ks K).setVm vm0) T locs ok.1 ok.2.1 ok.2.2.1 a7 ok.2.2.2.2.1 a6 a1 a2 ho (fun y hy => (a3 y hy).elim (fun q => nomatch q) id)
  have hs : ∀ x ∈ [b], Safe Z EL vm0 h x := fun x hx => by cases List.mem_singleton.mp hx; exact (a9 b hsf).2
  obtain ⟨s₂, w, L2, h1, r⟩ := G h' Kp p ok T' L vm0 k0 ⟨X', e', fun y hy => Or.inr (F y hy), a4, Nat.le_trans a5 Kp.1, a6, a7, a8.trans (CHr.keep Kp hs a8.1), fun x hx => ⟨Nat.lt_of_lt_of_le (a9 x hx).1 Kp.1, Safe.keep Kp hs a8.1 (a9 x hx).2⟩⟩
  exact ⟨s₂, w, L2, S' _ h1, r⟩
theorem g_call {kc' nc : Nat} {rest : List Value} {wsb : List Addr} {Qc : Option Value → Heap → List Loc → Prop} (S : ∀ (s' T : State) (locs : List Loc), (kp K).tables.exec = Jvm.exec → (kc K).code = bytes → (kc K).maxLocals = ml → s'.vm.findClass mn.cls = some (km K).cls → (kt K).name = mn.name → Z.Warmed39 s'.vm → Stand (kp K) l (ke K) R s' (km K) (ka K) (kb K) (kt K) (kc K) T locs k n → T.heap = h → Old Z n0 h → Keep h0 h ws → ∃ v T' L, Stand (kp K) l (ke K) R s' (km K) (ka K) (kb K) (kt K) (kc K) T' (locs ++ L) (k + kc') (n + nc) ∧ Qc v T'.heap L ∧ ∀ t, Steps (kp K).tables (ke K) (kb K) (T'.setTop (mkF (km K) pc' Ls (v.toList ++ rest))) t → Steps (kp K).tables (ke K) (kb K) (T.setTop (mkF (km K) pc Ls st)) t)
    (hQ : Keep h0 h ws → ∀ v h' L, Qc v h' L → Nw h0 ws L ∧ Keep h h' wsb) (hsf : ∀ x ∈ wsb, x ∈ sf) (G : ∀ v h' L, Qc v h' L → Go l Z n0 EL mn bytes ml ret R h0 ws fr Q K sf h' (k + kc') (n + nc) pc' Ls (v.toList ++ rest)) : Go l Z n0 EL mn bytes ml ret R h0 ws fr Q K sf h k n pc Ls st := fun ok T locs vm0 k0 X => by
  obtain ⟨ho, hKp⟩ := old_at ok X
  obtain ⟨a1, a2, a3, a4, a5, a6, a7, a8, a9⟩ := X
  obtain ⟨v, T', L, X', hq, S'⟩ := S ((ks K).setVm vm0) T locs ok.1 ok.2.1 ok.2.2.1 a7 ok.2.2.2.2.1 a6 a1 a2 ho hKp
  obtain ⟨q1, q2⟩ := hQ hKp _ _ _ hq
  have hs : ∀ x ∈ wsb, Safe Z EL vm0 h x := fun x hx => (a9 x (hsf x hx)).2
  obtain ⟨s₂, w, L2, h1, r⟩ := G v _ L hq ok T' _ vm0 k0 ⟨X', rfl, a3.app q1, a4, Nat.le_trans a5 q2.1, a6, a7, a8.trans (CHr.keep q2 hs a8.1), fun x hx => ⟨Nat.lt_of_lt_of_le (a9 x hx).1 q2.1, Safe.keep q2 hs a8.1 (a9 x hx).2⟩⟩
  exact ⟨s₂, w, L2, S' _ h1, r⟩
theorem backOfX {p : Program} {e : Env} {s : State} {args : Array Value} {below : List Frame} {vm0 : Vm} {y : MethodName} {bytes : ByteArray} {maxL : Nat} {ret : Option FieldType} {rm : Room} {len W : Nat} {as' : Array Value} {Qv : Option Value → Vm → Heap → List Loc → Prop}
    (hM : MetFree l y (head1 [Jvm.Cond.code y bytes maxL ret] rm) (fun a U => a = as' ∧ Z.Warmed39 U.vm ∧ U.heap = h ∧ CHv Z EL U.vm h ∧ ∀ x ∈ ws, x < h.size ∧ Safe Z EL U.vm h x) (fun _ _ _ _ _ => True) (fun _ U o U' => ∃ v L, o = .returned v ∧ Qv v U'.vm U'.heap L ∧ CHr Z EL U.vm U.heap U'.vm U'.heap ∧ ReturnedEndW U o U' L rm.cells rm.slots))
    (hZ : Z.Warmed39 vm0) (wc : (Jvm.Cond.code y bytes maxL ret).before a0 Z = true) (wz : (Jvm.Cond.initialized y.cls).before a0 Z = true) (hf : rm.frames + 1 ≤ R.frames) (hl : W + (maxL + 11) + rm.locals ≤ R.locals) {a1 : Array Value} (hEL : EW Z a1 EL) (H : CHv Z EL vm0 h) (Sf : ∀ x ∈ ws, x < h.size ∧ Safe Z EL vm0 h x) :
    BackS l R p e below (s.setVm vm0) args y len W (fun A a => a = as' ∧ A.U.heap = h ∧ A.cells + rm.cells ≤ R.cells ∧ A.slots + rm.slots ≤ R.slots)
      (fun A _ v B => ∃ L, Qv v B.U.vm B.U.heap L ∧ B.locs = A.locs ++ L ∧ B.cells = A.cells + rm.cells ∧ B.slots = A.slots + rm.slots ∧ CHr Z EL vm0 h B.U.vm B.U.heap) :=
  BackS.of_freeW (bytes := bytes) (maxL := maxL) (ret := ret) (E := fun _ first o t L k n => k = rm.cells ∧ n = rm.slots ∧ (∃ v, o = .returned v ∧ Qv v t.vm t.heap L) ∧ CHr Z EL first.vm first.heap t.vm t.heap) hM hf hl
    (fun m meth c A a Y hp => have hU : Z.Warmed39 A.U.vm := wtrans (s := s.setVm vm0) hZ Y.warmed
      ⟨by show (Jvm.Cond.and _ .tt).before a A.U = true; rw [Cond.before_and, mv hU wc]; rfl, mv hU wc, mv hU wz, hp.2.2.1, hp.2.2.2⟩)
    (fun m meth c A a g mk Y hp => ⟨hp.1, wtrans (s := s.setVm vm0) hZ Y.warmed, hp.2.1, (CHv.at Y hZ hEL H).1, fun x hx => ⟨(Sf x hx).1, (CHv.at Y hZ hEL H).safe (Sf x hx).1 (Sf x hx).2⟩⟩) (fun _ _ _ _ _ _ _ _ _ => trivial)
    (fun _ _ _ _ ⟨v, L, h1, h2, h3, h4⟩ => ⟨L, _, _, h4, rfl, rfl, ⟨v, h1, h2⟩, h3⟩)
    (fun m meth c A a g mk v t L k n Y hp _ _ ⟨e1, e2, ⟨v', e3, e4⟩, e5⟩ => by
      cases e3; subst e1 e2
      refine ⟨L, e4, rfl, rfl, rfl, (CHv.at Y hZ hEL H).trans ?_⟩
      rw [← hp.2.1]; exact e5)
end Base
section Rules
variable {l : Launch} {Z : State} {n0 : Nat} {EL : List (String × Nat)} {mn : MethodName} {bytes : ByteArray} {ml : Nat} {ret : Option FieldType} {R : Room} {h0 : Heap} {ws : List Addr} {fr : Bool} {Q : Value → Heap → Prop} {K : Cx} {sf : List Addr} {h : Heap} {k n pc pc' : Nat} {Ls : Array Slot} {st : List Value} {a0 : Array Value}
theorem g_iadd {x y v : Int32} (hd : decode bytes pc = .ok (.iadd, 1)) (hv : x + y = v) (hp : pc + 1 = pc') (G : Go l Z n0 EL mn bytes ml ret R h0 ws fr Q K sf h k n pc' Ls (.int v :: st)) : Go l Z n0 EL mn bytes ml ret R h0 ws fr Q K sf h k n pc Ls (.int y :: .int x :: st) :=
  g_pure (fun T t H hx k e => by subst hp e hv; exact XS.iadd H hx rfl hd rfl k) G
theorem g_isub {x y v : Int32} (hd : decode bytes pc = .ok (.isub, 1)) (hv : x - y = v) (hp : pc + 1 = pc') (G : Go l Z n0 EL mn bytes ml ret R h0 ws fr Q K sf h k n pc' Ls (.int v :: st)) : Go l Z n0 EL mn bytes ml ret R h0 ws fr Q K sf h k n pc Ls (.int y :: .int x :: st) :=
  g_pure (fun T t H hx k e => by subst hp e hv; exact XS.isub H hx rfl hd rfl k) G
theorem g_imul {x y v : Int32} (hd : decode bytes pc = .ok (.imul, 1)) (hv : x * y = v) (hp : pc + 1 = pc') (G : Go l Z n0 EL mn bytes ml ret R h0 ws fr Q K sf h k n pc' Ls (.int v :: st)) : Go l Z n0 EL mn bytes ml ret R h0 ws fr Q K sf h k n pc Ls (.int y :: .int x :: st) :=
  g_pure (fun T t H hx k e => by subst hp e hv; exact XS.imul H hx rfl hd rfl k) G
theorem g_iand {x y v : Int32} (hd : decode bytes pc = .ok (.iand, 1)) (hv : x &&& y = v) (hp : pc + 1 = pc') (G : Go l Z n0 EL mn bytes ml ret R h0 ws fr Q K sf h k n pc' Ls (.int v :: st)) : Go l Z n0 EL mn bytes ml ret R h0 ws fr Q K sf h k n pc Ls (.int y :: .int x :: st) :=
  g_pure (fun T t H hx k e => by subst hp e hv; exact XS.iand H hx rfl hd rfl k) G
theorem g_ior {x y v : Int32} (hd : decode bytes pc = .ok (.ior, 1)) (hv : x ||| y = v) (hp : pc + 1 = pc') (G : Go l Z n0 EL mn bytes ml ret R h0 ws fr Q K sf h k n pc' Ls (.int v :: st)) : Go l Z n0 EL mn bytes ml ret R h0 ws fr Q K sf h k n pc Ls (.int y :: .int x :: st) :=
  g_pure (fun T t H hx k e => by subst hp e hv; exact XS.ior H hx rfl hd rfl k) G
theorem g_ixor {x y v : Int32} (hd : decode bytes pc = .ok (.ixor, 1)) (hv : x ^^^ y = v) (hp : pc + 1 = pc') (G : Go l Z n0 EL mn bytes ml ret R h0 ws fr Q K sf h k n pc' Ls (.int v :: st)) : Go l Z n0 EL mn bytes ml ret R h0 ws fr Q K sf h k n pc Ls (.int y :: .int x :: st) :=
  g_pure (fun T t H hx k e => by subst hp e hv; exact XS.ixor H hx rfl hd rfl k) G
theorem g_ishl {x y v : Int32} (hd : decode bytes pc = .ok (.ishl, 1)) (hv : x <<< (y &&& 31) = v) (hp : pc + 1 = pc') (G : Go l Z n0 EL mn bytes ml ret R h0 ws fr Q K sf h k n pc' Ls (.int v :: st)) : Go l Z n0 EL mn bytes ml ret R h0 ws fr Q K sf h k n pc Ls (.int y :: .int x :: st) :=
  g_pure (fun T t H hx k e => by subst hp e hv; exact XS.ishl H hx rfl hd rfl k) G
theorem g_ishr {x y v : Int32} (hd : decode bytes pc = .ok (.ishr, 1)) (hv : x >>> (y &&& 31) = v) (hp : pc + 1 = pc') (G : Go l Z n0 EL mn bytes ml ret R h0 ws fr Q K sf h k n pc' Ls (.int v :: st)) : Go l Z n0 EL mn bytes ml ret R h0 ws fr Q K sf h k n pc Ls (.int y :: .int x :: st) :=
  g_pure (fun T t H hx k e => by subst hp e hv; exact XS.ishr H hx rfl hd rfl k) G
theorem g_iushr {x y v : Int32} (hd : decode bytes pc = .ok (.iushr, 1)) (hv : (x.toUInt32 >>> (y &&& 31).toUInt32).toInt32 = v) (hp : pc + 1 = pc') (G : Go l Z n0 EL mn bytes ml ret R h0 ws fr Q K sf h k n pc' Ls (.int v :: st)) : Go l Z n0 EL mn bytes ml ret R h0 ws fr Q K sf h k n pc Ls (.int y :: .int x :: st) :=
  g_pure (fun T t H hx k e => by subst hp e hv; exact XS.iushr H hx rfl hd rfl k) G
theorem g_ladd {x y v : Int64} (hd : decode bytes pc = .ok (.ladd, 1)) (hv : x + y = v) (hp : pc + 1 = pc') (G : Go l Z n0 EL mn bytes ml ret R h0 ws fr Q K sf h k n pc' Ls (.long v :: st)) : Go l Z n0 EL mn bytes ml ret R h0 ws fr Q K sf h k n pc Ls (.long y :: .long x :: st) :=
  g_pure (fun T t H hx k e => by subst hp e hv; exact XS.ladd H hx rfl hd rfl k) G
theorem g_lsub {x y v : Int64} (hd : decode bytes pc = .ok (.lsub, 1)) (hv : x - y = v) (hp : pc + 1 = pc') (G : Go l Z n0 EL mn bytes ml ret R h0 ws fr Q K sf h k n pc' Ls (.long v :: st)) : Go l Z n0 EL mn bytes ml ret R h0 ws fr Q K sf h k n pc Ls (.long y :: .long x :: st) :=
  g_pure (fun T t H hx k e => by subst hp e hv; exact XS.lsub H hx rfl hd rfl k) G
theorem g_lmul {x y v : Int64} (hd : decode bytes pc = .ok (.lmul, 1)) (hv : x * y = v) (hp : pc + 1 = pc') (G : Go l Z n0 EL mn bytes ml ret R h0 ws fr Q K sf h k n pc' Ls (.long v :: st)) : Go l Z n0 EL mn bytes ml ret R h0 ws fr Q K sf h k n pc Ls (.long y :: .long x :: st) :=
  g_pure (fun T t H hx k e => by subst hp e hv; exact XS.lmul H hx rfl hd rfl k) G
theorem g_land {x y v : Int64} (hd : decode bytes pc = .ok (.land, 1)) (hv : x &&& y = v) (hp : pc + 1 = pc') (G : Go l Z n0 EL mn bytes ml ret R h0 ws fr Q K sf h k n pc' Ls (.long v :: st)) : Go l Z n0 EL mn bytes ml ret R h0 ws fr Q K sf h k n pc Ls (.long y :: .long x :: st) :=
  g_pure (fun T t H hx k e => by subst hp e hv; exact XS.land H hx rfl hd rfl k) G
theorem g_irem {x y v : Int32} (hd : decode bytes pc = .ok (.irem, 1)) (hy : y ≠ 0) (hv : x % y = v) (hp : pc + 1 = pc') (G : Go l Z n0 EL mn bytes ml ret R h0 ws fr Q K sf h k n pc' Ls (.int v :: st)) : Go l Z n0 EL mn bytes ml ret R h0 ws fr Q K sf h k n pc Ls (.int y :: .int x :: st) :=
  g_pure (fun T t H hx k e => by subst hp e hv; exact XS.irem H hx rfl hd rfl hy (by rw [irem_eq_mod]; exact k)) G
theorem g_idiv {x y v : Int32} (hd : decode bytes pc = .ok (.idiv, 1)) (hy : y ≠ 0) (hv : x / y = v) (hp : pc + 1 = pc') (G : Go l Z n0 EL mn bytes ml ret R h0 ws fr Q K sf h k n pc' Ls (.int v :: st)) : Go l Z n0 EL mn bytes ml ret R h0 ws fr Q K sf h k n pc Ls (.int y :: .int x :: st) :=
  g_pure (fun T t H hx k e => by subst hp e hv; exact XS.idiv H hx rfl hd rfl hy k) G
theorem g_lrem {x y v : Int64} (hd : decode bytes pc = .ok (.lrem, 1)) (hy : y ≠ 0) (hv : x % y = v) (hp : pc + 1 = pc') (G : Go l Z n0 EL mn bytes ml ret R h0 ws fr Q K sf h k n pc' Ls (.long v :: st)) : Go l Z n0 EL mn bytes ml ret R h0 ws fr Q K sf h k n pc Ls (.long y :: .long x :: st) :=
  g_pure (fun T t H hx k e => by subst hp e hv; exact XS.lrem H hx rfl hd rfl hy (by rw [lrem_mod]; exact k)) G
theorem g_lcmp {x y : Int64} {v : Int32} (hd : decode bytes pc = .ok (.lcmp, 1)) (hv : lcmpW x y = v) (hp : pc + 1 = pc') (G : Go l Z n0 EL mn bytes ml ret R h0 ws fr Q K sf h k n pc' Ls (.int v :: st)) : Go l Z n0 EL mn bytes ml ret R h0 ws fr Q K sf h k n pc Ls (.long y :: .long x :: st) :=
  g_pure (fun T t H hx k e => by subst hp e hv; exact XS.lcmp H hx rfl hd rfl k) G
theorem g_ineg {x : Int32} {v : Int32} (hd : decode bytes pc = .ok (.ineg, 1)) (hv : -x = v) (hp : pc + 1 = pc') (G : Go l Z n0 EL mn bytes ml ret R h0 ws fr Q K sf h k n pc' Ls (.int v :: st)) : Go l Z n0 EL mn bytes ml ret R h0 ws fr Q K sf h k n pc Ls (.int x :: st) :=
  g_pure (fun T t H hx k e => by subst hp e hv; exact XS.ineg H hx rfl hd rfl k) G
theorem g_i2c {x : Int32} {v : Int32} (hd : decode bytes pc = .ok (.i2c, 1)) (hv : x.toUInt32.toUInt16.toUInt32.toInt32 = v) (hp : pc + 1 = pc') (G : Go l Z n0 EL mn bytes ml ret R h0 ws fr Q K sf h k n pc' Ls (.int v :: st)) : Go l Z n0 EL mn bytes ml ret R h0 ws fr Q K sf h k n pc Ls (.int x :: st) :=
  g_pure (fun T t H hx k e => by subst hp e hv; exact XS.i2c H hx rfl hd rfl k) G
theorem g_i2b {x : Int32} {v : Int32} (hd : decode bytes pc = .ok (.i2b, 1)) (hv : x.toInt8.toInt32 = v) (hp : pc + 1 = pc') (G : Go l Z n0 EL mn bytes ml ret R h0 ws fr Q K sf h k n pc' Ls (.int v :: st)) : Go l Z n0 EL mn bytes ml ret R h0 ws fr Q K sf h k n pc Ls (.int x :: st) :=
  g_pure (fun T t H hx k e => by subst hp e hv; exact XS.i2b H hx rfl hd rfl k) G
theorem g_i2s {x : Int32} {v : Int32} (hd : decode bytes pc = .ok (.i2s, 1)) (hv : x.toInt16.toInt32 = v) (hp : pc + 1 = pc') (G : Go l Z n0 EL mn bytes ml ret R h0 ws fr Q K sf h k n pc' Ls (.int v :: st)) : Go l Z n0 EL mn bytes ml ret R h0 ws fr Q K sf h k n pc Ls (.int x :: st) :=
  g_pure (fun T t H hx k e => by subst hp e hv; exact XS.i2s H hx rfl hd rfl k) G
theorem g_i2l {x : Int32} {v : Int64} (hd : decode bytes pc = .ok (.i2l, 1)) (hv : x.toInt64 = v) (hp : pc + 1 = pc') (G : Go l Z n0 EL mn bytes ml ret R h0 ws fr Q K sf h k n pc' Ls (.long v :: st)) : Go l Z n0 EL mn bytes ml ret R h0 ws fr Q K sf h k n pc Ls (.int x :: st) :=
  g_pure (fun T t H hx k e => by subst hp e hv; exact XS.i2l H hx rfl hd rfl k) G
theorem g_l2i {x : Int64} {v : Int32} (hd : decode bytes pc = .ok (.l2i, 1)) (hv : x.toInt32 = v) (hp : pc + 1 = pc') (G : Go l Z n0 EL mn bytes ml ret R h0 ws fr Q K sf h k n pc' Ls (.int v :: st)) : Go l Z n0 EL mn bytes ml ret R h0 ws fr Q K sf h k n pc Ls (.long x :: st) :=
  g_pure (fun T t H hx k e => by subst hp e hv; exact XS.l2i H hx rfl hd rfl k) G
theorem g_iload {i : Nat} {x : Int32} (hd : decode bytes pc = .ok (.iload i, 2)) (hl : Ls[i]? = some (.val (.int x))) (hp : pc + 2 = pc') (G : Go l Z n0 EL mn bytes ml ret R h0 ws fr Q K sf h k n pc' Ls (.int x :: st)) : Go l Z n0 EL mn bytes ml ret R h0 ws fr Q K sf h k n pc Ls st :=
  g_pure (fun T t H hx k e => by subst hp e; exact XS.iload H hx rfl hd hl k) G
theorem g_iloadN {i : Fin 4} {x : Int32} (hd : decode bytes pc = .ok (.iload_n i, 1)) (hl : Ls[i.val]? = some (.val (.int x))) (hp : pc + 1 = pc') (G : Go l Z n0 EL mn bytes ml ret R h0 ws fr Q K sf h k n pc' Ls (.int x :: st)) : Go l Z n0 EL mn bytes ml ret R h0 ws fr Q K sf h k n pc Ls st :=
  g_pure (fun T t H hx k e => by subst hp e; exact XS.iloadN H hx rfl hd hl k) G
theorem g_lload {i : Nat} {x : Int64} (hd : decode bytes pc = .ok (.lload i, 2)) (hl : Ls[i]? = some (.val (.long x))) (hp : pc + 2 = pc') (G : Go l Z n0 EL mn bytes ml ret R h0 ws fr Q K sf h k n pc' Ls (.long x :: st)) : Go l Z n0 EL mn bytes ml ret R h0 ws fr Q K sf h k n pc Ls st :=
  g_pure (fun T t H hx k e => by subst hp e; exact XS.lload H hx rfl hd hl k) G
theorem g_lloadN {i : Fin 4} {x : Int64} (hd : decode bytes pc = .ok (.lload_n i, 1)) (hl : Ls[i.val]? = some (.val (.long x))) (hp : pc + 1 = pc') (G : Go l Z n0 EL mn bytes ml ret R h0 ws fr Q K sf h k n pc' Ls (.long x :: st)) : Go l Z n0 EL mn bytes ml ret R h0 ws fr Q K sf h k n pc Ls st :=
  g_pure (fun T t H hx k e => by subst hp e; exact XS.lloadN H hx rfl hd hl k) G
theorem g_aload {i : Nat} {x : Value} (hd : decode bytes pc = .ok (.aload i, 2)) (hl : Ls[i]? = some (.val (x))) (hv : x.isRef = true) (hp : pc + 2 = pc') (G : Go l Z n0 EL mn bytes ml ret R h0 ws fr Q K sf h k n pc' Ls (x :: st)) : Go l Z n0 EL mn bytes ml ret R h0 ws fr Q K sf h k n pc Ls st :=
  g_pure (fun T t H hx k e => by subst hp e; exact XS.aload H hx rfl hd hl hv k) G
theorem g_aloadN {i : Fin 4} {x : Value} (hd : decode bytes pc = .ok (.aload_n i, 1)) (hl : Ls[i.val]? = some (.val (x))) (hv : x.isRef = true) (hp : pc + 1 = pc') (G : Go l Z n0 EL mn bytes ml ret R h0 ws fr Q K sf h k n pc' Ls (x :: st)) : Go l Z n0 EL mn bytes ml ret R h0 ws fr Q K sf h k n pc Ls st :=
  g_pure (fun T t H hx k e => by subst hp e; exact XS.aloadN H hx rfl hd hl hv k) G
theorem g_istore {i : Nat} {x : Int32} {L' : Array Slot} (hd : decode bytes pc = .ok (.istore i, 2)) (hl : storeLocals Ls i (.int x) = some L') (hp : pc + 2 = pc') (G : Go l Z n0 EL mn bytes ml ret R h0 ws fr Q K sf h k n pc' L' st) : Go l Z n0 EL mn bytes ml ret R h0 ws fr Q K sf h k n pc Ls (.int x :: st) :=
  g_pure (fun T t H hx k e => by subst hp e; exact XS.istore H hx rfl hd rfl hl k) G
theorem g_istoreN {i : Fin 4} {x : Int32} {L' : Array Slot} (hd : decode bytes pc = .ok (.istore_n i, 1)) (hl : storeLocals Ls i.val (.int x) = some L') (hp : pc + 1 = pc') (G : Go l Z n0 EL mn bytes ml ret R h0 ws fr Q K sf h k n pc' L' st) : Go l Z n0 EL mn bytes ml ret R h0 ws fr Q K sf h k n pc Ls (.int x :: st) :=
  g_pure (fun T t H hx k e => by subst hp e; exact XS.istoreN H hx rfl hd rfl hl k) G
theorem g_lstore {i : Nat} {x : Int64} {L' : Array Slot} (hd : decode bytes pc = .ok (.lstore i, 2)) (hl : storeLocals Ls i (.long x) = some L') (hp : pc + 2 = pc') (G : Go l Z n0 EL mn bytes ml ret R h0 ws fr Q K sf h k n pc' L' st) : Go l Z n0 EL mn bytes ml ret R h0 ws fr Q K sf h k n pc Ls (.long x :: st) :=
  g_pure (fun T t H hx k e => by subst hp e; exact XS.lstore H hx rfl hd rfl hl k) G
theorem g_lstoreN {i : Fin 4} {x : Int64} {L' : Array Slot} (hd : decode bytes pc = .ok (.lstore_n i, 1)) (hl : storeLocals Ls i.val (.long x) = some L') (hp : pc + 1 = pc') (G : Go l Z n0 EL mn bytes ml ret R h0 ws fr Q K sf h k n pc' L' st) : Go l Z n0 EL mn bytes ml ret R h0 ws fr Q K sf h k n pc Ls (.long x :: st) :=
  g_pure (fun T t H hx k e => by subst hp e; exact XS.lstoreN H hx rfl hd rfl hl k) G
theorem g_astore {i : Nat} {x : Value} {L' : Array Slot} (hd : decode bytes pc = .ok (.astore i, 2)) (hv : x.isRef = true) (hl : storeLocals Ls i (x) = some L') (hp : pc + 2 = pc') (G : Go l Z n0 EL mn bytes ml ret R h0 ws fr Q K sf h k n pc' L' st) : Go l Z n0 EL mn bytes ml ret R h0 ws fr Q K sf h k n pc Ls (x :: st) :=
  g_pure (fun T t H hx k e => by subst hp e; exact XS.astore H hx rfl hd rfl hv hl k) G
theorem g_astoreN {i : Fin 4} {x : Value} {L' : Array Slot} (hd : decode bytes pc = .ok (.astore_n i, 1)) (hv : x.isRef = true) (hl : storeLocals Ls i.val (x) = some L') (hp : pc + 1 = pc') (G : Go l Z n0 EL mn bytes ml ret R h0 ws fr Q K sf h k n pc' L' st) : Go l Z n0 EL mn bytes ml ret R h0 ws fr Q K sf h k n pc Ls (x :: st) :=
  g_pure (fun T t H hx k e => by subst hp e; exact XS.astoreN H hx rfl hd rfl hv hl k) G
theorem g_iinc {i : Nat} {x v y : Int32} {cst : Int} {L' : Array Slot} (hd : decode bytes pc = .ok (.iinc i cst, 3)) (hv : Int32.ofInt cst = v) (hl : Ls[i]? = some (.val (.int x))) (hy : x + v = y) (hl' : storeLocals Ls i (.int y) = some L') (hp : pc + 3 = pc') (G : Go l Z n0 EL mn bytes ml ret R h0 ws fr Q K sf h k n pc' L' st) : Go l Z n0 EL mn bytes ml ret R h0 ws fr Q K sf h k n pc Ls st :=
  g_pure (fun T t H hx k e => by subst hp e hv hy; exact XS.iinc H hx rfl hd hl hl' k) G
theorem g_iconst {i : Int} {v : Int32} (hd : decode bytes pc = .ok (.iconst i, 1)) (hv : Int32.ofInt i = v) (hp : pc + 1 = pc') (G : Go l Z n0 EL mn bytes ml ret R h0 ws fr Q K sf h k n pc' Ls (.int v :: st)) : Go l Z n0 EL mn bytes ml ret R h0 ws fr Q K sf h k n pc Ls st :=
  g_pure (fun T t H hx k e => by subst hp e hv; exact XS.iconst H hx rfl hd k) G
theorem g_bipush {i : Int} {v : Int32} (hd : decode bytes pc = .ok (.bipush i, 2)) (hv : (Int8.ofInt i).toInt32 = v) (hp : pc + 2 = pc') (G : Go l Z n0 EL mn bytes ml ret R h0 ws fr Q K sf h k n pc' Ls (.int v :: st)) : Go l Z n0 EL mn bytes ml ret R h0 ws fr Q K sf h k n pc Ls st :=
  g_pure (fun T t H hx k e => by subst hp e hv; exact XS.bipush H hx rfl hd k) G
theorem g_sipush {i : Int} {v : Int32} (hd : decode bytes pc = .ok (.sipush i, 3)) (hv : (Int16.ofInt i).toInt32 = v) (hp : pc + 3 = pc') (G : Go l Z n0 EL mn bytes ml ret R h0 ws fr Q K sf h k n pc' Ls (.int v :: st)) : Go l Z n0 EL mn bytes ml ret R h0 ws fr Q K sf h k n pc Ls st :=
  g_pure (fun T t H hx k e => by subst hp e hv; exact XS.sipush H hx rfl hd k) G
theorem g_lconst {i : Fin 2} {v : Int64} (hd : decode bytes pc = .ok (.lconst i, 1)) (hv : Int64.ofNat i = v) (hp : pc + 1 = pc') (G : Go l Z n0 EL mn bytes ml ret R h0 ws fr Q K sf h k n pc' Ls (.long v :: st)) : Go l Z n0 EL mn bytes ml ret R h0 ws fr Q K sf h k n pc Ls st :=
  g_pure (fun T t H hx k e => by subst hp e hv; exact XS.lconst H hx rfl hd k) G
theorem g_null (hd : decode bytes pc = .ok (.aconst_null, 1)) (hp : pc + 1 = pc') (G : Go l Z n0 EL mn bytes ml ret R h0 ws fr Q K sf h k n pc' Ls (.null :: st)) : Go l Z n0 EL mn bytes ml ret R h0 ws fr Q K sf h k n pc Ls st :=
  g_pure (fun T t H hx k e => by subst hp e; exact XS.aconstNull H hx rfl hd k) G
theorem g_dup {x : Value} (hd : decode bytes pc = .ok (.dup, 1)) (hc : x.category = 1) (hp : pc + 1 = pc') (G : Go l Z n0 EL mn bytes ml ret R h0 ws fr Q K sf h k n pc' Ls (x :: x :: st)) : Go l Z n0 EL mn bytes ml ret R h0 ws fr Q K sf h k n pc Ls (x :: st) :=
  g_pure (fun T t H hx k e => by subst hp e; exact XS.dup H hx rfl hd rfl hc k) G
theorem g_pop {x : Value} (hd : decode bytes pc = .ok (.pop, 1)) (hc : x.category = 1) (hp : pc + 1 = pc') (G : Go l Z n0 EL mn bytes ml ret R h0 ws fr Q K sf h k n pc' Ls st) : Go l Z n0 EL mn bytes ml ret R h0 ws fr Q K sf h k n pc Ls (x :: st) :=
  g_pure (fun T t H hx k e => by subst hp e; exact XS.pop H hx rfl hd rfl hc k) G
theorem g_dupx1 {x y : Value} (hd : decode bytes pc = .ok (.dup_x1, 1)) (hc : x.category = 1) (hc' : y.category = 1) (hp : pc + 1 = pc') (G : Go l Z n0 EL mn bytes ml ret R h0 ws fr Q K sf h k n pc' Ls (x :: y :: x :: st)) : Go l Z n0 EL mn bytes ml ret R h0 ws fr Q K sf h k n pc Ls (x :: y :: st) :=
  g_pure (fun T t H hx k e => by subst hp e; exact XT.dupX1 H hx rfl hd rfl hc hc' k) G
theorem g_icmp_eq_t {x y : Int32} {o : Int} (hd : decode bytes pc = .ok (.if_icmp .eq o, 3)) (hc : x = y) (ho : 0 ≤ (pc : Int) + o) (hp : ((pc : Int) + o).toNat = pc') (G : Go l Z n0 EL mn bytes ml ret R h0 ws fr Q K sf h k n pc' Ls st) : Go l Z n0 EL mn bytes ml ret R h0 ws fr Q K sf h k n pc Ls (.int y :: .int x :: st) :=
  g_pure (fun T t H hx k e => by subst e; exact XS.icmpYes H hx rfl rfl hd rfl (XT.ii_eq_t hc) ho hp k) G
theorem g_icmp_eq_f {x y : Int32} {o : Int} (hd : decode bytes pc = .ok (.if_icmp .eq o, 3)) (hc : ¬ x = y) (hp : pc + 3 = pc') (G : Go l Z n0 EL mn bytes ml ret R h0 ws fr Q K sf h k n pc' Ls st) : Go l Z n0 EL mn bytes ml ret R h0 ws fr Q K sf h k n pc Ls (.int y :: .int x :: st) :=
  g_pure (fun T t H hx k e => by subst hp e; exact XS.icmpNo H hx rfl hd rfl (XT.ii_eq_f hc) k) G
theorem g_if_eq_t {x : Int32} {o : Int} (hd : decode bytes pc = .ok (.ifCond .eq o, 3)) (hc : x = 0) (ho : 0 ≤ (pc : Int) + o) (hp : ((pc : Int) + o).toNat = pc') (G : Go l Z n0 EL mn bytes ml ret R h0 ws fr Q K sf h k n pc' Ls st) : Go l Z n0 EL mn bytes ml ret R h0 ws fr Q K sf h k n pc Ls (.int x :: st) :=
  g_pure (fun T t H hx k e => by subst e; exact XS.ifYes H hx rfl rfl hd rfl (XT.i0_eq_t hc) ho hp k) G
theorem g_if_eq_f {x : Int32} {o : Int} (hd : decode bytes pc = .ok (.ifCond .eq o, 3)) (hc : ¬ x = 0) (hp : pc + 3 = pc') (G : Go l Z n0 EL mn bytes ml ret R h0 ws fr Q K sf h k n pc' Ls st) : Go l Z n0 EL mn bytes ml ret R h0 ws fr Q K sf h k n pc Ls (.int x :: st) :=
  g_pure (fun T t H hx k e => by subst hp e; exact XS.ifNo H hx rfl hd rfl (XT.i0_eq_f hc) k) G
theorem g_icmp_ne_t {x y : Int32} {o : Int} (hd : decode bytes pc = .ok (.if_icmp .ne o, 3)) (hc : ¬ x = y) (ho : 0 ≤ (pc : Int) + o) (hp : ((pc : Int) + o).toNat = pc') (G : Go l Z n0 EL mn bytes ml ret R h0 ws fr Q K sf h k n pc' Ls st) : Go l Z n0 EL mn bytes ml ret R h0 ws fr Q K sf h k n pc Ls (.int y :: .int x :: st) :=
  g_pure (fun T t H hx k e => by subst e; exact XS.icmpYes H hx rfl rfl hd rfl (XT.ii_ne_t hc) ho hp k) G
theorem g_icmp_ne_f {x y : Int32} {o : Int} (hd : decode bytes pc = .ok (.if_icmp .ne o, 3)) (hc : x = y) (hp : pc + 3 = pc') (G : Go l Z n0 EL mn bytes ml ret R h0 ws fr Q K sf h k n pc' Ls st) : Go l Z n0 EL mn bytes ml ret R h0 ws fr Q K sf h k n pc Ls (.int y :: .int x :: st) :=
  g_pure (fun T t H hx k e => by subst hp e; exact XS.icmpNo H hx rfl hd rfl (XT.ii_ne_f hc) k) G
theorem g_if_ne_t {x : Int32} {o : Int} (hd : decode bytes pc = .ok (.ifCond .ne o, 3)) (hc : ¬ x = 0) (ho : 0 ≤ (pc : Int) + o) (hp : ((pc : Int) + o).toNat = pc') (G : Go l Z n0 EL mn bytes ml ret R h0 ws fr Q K sf h k n pc' Ls st) : Go l Z n0 EL mn bytes ml ret R h0 ws fr Q K sf h k n pc Ls (.int x :: st) :=
  g_pure (fun T t H hx k e => by subst e; exact XS.ifYes H hx rfl rfl hd rfl (XT.i0_ne_t hc) ho hp k) G
theorem g_if_ne_f {x : Int32} {o : Int} (hd : decode bytes pc = .ok (.ifCond .ne o, 3)) (hc : x = 0) (hp : pc + 3 = pc') (G : Go l Z n0 EL mn bytes ml ret R h0 ws fr Q K sf h k n pc' Ls st) : Go l Z n0 EL mn bytes ml ret R h0 ws fr Q K sf h k n pc Ls (.int x :: st) :=
  g_pure (fun T t H hx k e => by subst hp e; exact XS.ifNo H hx rfl hd rfl (XT.i0_ne_f hc) k) G
theorem g_icmp_lt_t {x y : Int32} {o : Int} (hd : decode bytes pc = .ok (.if_icmp .lt o, 3)) (hc : x < y) (ho : 0 ≤ (pc : Int) + o) (hp : ((pc : Int) + o).toNat = pc') (G : Go l Z n0 EL mn bytes ml ret R h0 ws fr Q K sf h k n pc' Ls st) : Go l Z n0 EL mn bytes ml ret R h0 ws fr Q K sf h k n pc Ls (.int y :: .int x :: st) :=
  g_pure (fun T t H hx k e => by subst e; exact XS.icmpYes H hx rfl rfl hd rfl (XT.ii_lt_t hc) ho hp k) G
theorem g_icmp_lt_f {x y : Int32} {o : Int} (hd : decode bytes pc = .ok (.if_icmp .lt o, 3)) (hc : ¬ x < y) (hp : pc + 3 = pc') (G : Go l Z n0 EL mn bytes ml ret R h0 ws fr Q K sf h k n pc' Ls st) : Go l Z n0 EL mn bytes ml ret R h0 ws fr Q K sf h k n pc Ls (.int y :: .int x :: st) :=
  g_pure (fun T t H hx k e => by subst hp e; exact XS.icmpNo H hx rfl hd rfl (XT.ii_lt_f hc) k) G
theorem g_if_lt_t {x : Int32} {o : Int} (hd : decode bytes pc = .ok (.ifCond .lt o, 3)) (hc : x < 0) (ho : 0 ≤ (pc : Int) + o) (hp : ((pc : Int) + o).toNat = pc') (G : Go l Z n0 EL mn bytes ml ret R h0 ws fr Q K sf h k n pc' Ls st) : Go l Z n0 EL mn bytes ml ret R h0 ws fr Q K sf h k n pc Ls (.int x :: st) :=
  g_pure (fun T t H hx k e => by subst e; exact XS.ifYes H hx rfl rfl hd rfl (XT.i0_lt_t hc) ho hp k) G
theorem g_if_lt_f {x : Int32} {o : Int} (hd : decode bytes pc = .ok (.ifCond .lt o, 3)) (hc : ¬ x < 0) (hp : pc + 3 = pc') (G : Go l Z n0 EL mn bytes ml ret R h0 ws fr Q K sf h k n pc' Ls st) : Go l Z n0 EL mn bytes ml ret R h0 ws fr Q K sf h k n pc Ls (.int x :: st) :=
  g_pure (fun T t H hx k e => by subst hp e; exact XS.ifNo H hx rfl hd rfl (XT.i0_lt_f hc) k) G
theorem g_icmp_ge_t {x y : Int32} {o : Int} (hd : decode bytes pc = .ok (.if_icmp .ge o, 3)) (hc : ¬ x < y) (ho : 0 ≤ (pc : Int) + o) (hp : ((pc : Int) + o).toNat = pc') (G : Go l Z n0 EL mn bytes ml ret R h0 ws fr Q K sf h k n pc' Ls st) : Go l Z n0 EL mn bytes ml ret R h0 ws fr Q K sf h k n pc Ls (.int y :: .int x :: st) :=
  g_pure (fun T t H hx k e => by subst e; exact XS.icmpYes H hx rfl rfl hd rfl (XT.ii_ge_t hc) ho hp k) G
theorem g_icmp_ge_f {x y : Int32} {o : Int} (hd : decode bytes pc = .ok (.if_icmp .ge o, 3)) (hc : x < y) (hp : pc + 3 = pc') (G : Go l Z n0 EL mn bytes ml ret R h0 ws fr Q K sf h k n pc' Ls st) : Go l Z n0 EL mn bytes ml ret R h0 ws fr Q K sf h k n pc Ls (.int y :: .int x :: st) :=
  g_pure (fun T t H hx k e => by subst hp e; exact XS.icmpNo H hx rfl hd rfl (XT.ii_ge_f hc) k) G
theorem g_if_ge_t {x : Int32} {o : Int} (hd : decode bytes pc = .ok (.ifCond .ge o, 3)) (hc : ¬ x < 0) (ho : 0 ≤ (pc : Int) + o) (hp : ((pc : Int) + o).toNat = pc') (G : Go l Z n0 EL mn bytes ml ret R h0 ws fr Q K sf h k n pc' Ls st) : Go l Z n0 EL mn bytes ml ret R h0 ws fr Q K sf h k n pc Ls (.int x :: st) :=
  g_pure (fun T t H hx k e => by subst e; exact XS.ifYes H hx rfl rfl hd rfl (XT.i0_ge_t hc) ho hp k) G
theorem g_if_ge_f {x : Int32} {o : Int} (hd : decode bytes pc = .ok (.ifCond .ge o, 3)) (hc : x < 0) (hp : pc + 3 = pc') (G : Go l Z n0 EL mn bytes ml ret R h0 ws fr Q K sf h k n pc' Ls st) : Go l Z n0 EL mn bytes ml ret R h0 ws fr Q K sf h k n pc Ls (.int x :: st) :=
  g_pure (fun T t H hx k e => by subst hp e; exact XS.ifNo H hx rfl hd rfl (XT.i0_ge_f hc) k) G
theorem g_icmp_gt_t {x y : Int32} {o : Int} (hd : decode bytes pc = .ok (.if_icmp .gt o, 3)) (hc : y < x) (ho : 0 ≤ (pc : Int) + o) (hp : ((pc : Int) + o).toNat = pc') (G : Go l Z n0 EL mn bytes ml ret R h0 ws fr Q K sf h k n pc' Ls st) : Go l Z n0 EL mn bytes ml ret R h0 ws fr Q K sf h k n pc Ls (.int y :: .int x :: st) :=
  g_pure (fun T t H hx k e => by subst e; exact XS.icmpYes H hx rfl rfl hd rfl (XT.ii_gt_t hc) ho hp k) G
theorem g_icmp_gt_f {x y : Int32} {o : Int} (hd : decode bytes pc = .ok (.if_icmp .gt o, 3)) (hc : ¬ y < x) (hp : pc + 3 = pc') (G : Go l Z n0 EL mn bytes ml ret R h0 ws fr Q K sf h k n pc' Ls st) : Go l Z n0 EL mn bytes ml ret R h0 ws fr Q K sf h k n pc Ls (.int y :: .int x :: st) :=
  g_pure (fun T t H hx k e => by subst hp e; exact XS.icmpNo H hx rfl hd rfl (XT.ii_gt_f hc) k) G
theorem g_if_gt_t {x : Int32} {o : Int} (hd : decode bytes pc = .ok (.ifCond .gt o, 3)) (hc : 0 < x) (ho : 0 ≤ (pc : Int) + o) (hp : ((pc : Int) + o).toNat = pc') (G : Go l Z n0 EL mn bytes ml ret R h0 ws fr Q K sf h k n pc' Ls st) : Go l Z n0 EL mn bytes ml ret R h0 ws fr Q K sf h k n pc Ls (.int x :: st) :=
  g_pure (fun T t H hx k e => by subst e; exact XS.ifYes H hx rfl rfl hd rfl (XT.i0_gt_t hc) ho hp k) G
theorem g_if_gt_f {x : Int32} {o : Int} (hd : decode bytes pc = .ok (.ifCond .gt o, 3)) (hc : ¬ 0 < x) (hp : pc + 3 = pc') (G : Go l Z n0 EL mn bytes ml ret R h0 ws fr Q K sf h k n pc' Ls st) : Go l Z n0 EL mn bytes ml ret R h0 ws fr Q K sf h k n pc Ls (.int x :: st) :=
  g_pure (fun T t H hx k e => by subst hp e; exact XS.ifNo H hx rfl hd rfl (XT.i0_gt_f hc) k) G
theorem g_icmp_le_t {x y : Int32} {o : Int} (hd : decode bytes pc = .ok (.if_icmp .le o, 3)) (hc : ¬ y < x) (ho : 0 ≤ (pc : Int) + o) (hp : ((pc : Int) + o).toNat = pc') (G : Go l Z n0 EL mn bytes ml ret R h0 ws fr Q K sf h k n pc' Ls st) : Go l Z n0 EL mn bytes ml ret R h0 ws fr Q K sf h k n pc Ls (.int y :: .int x :: st) :=
  g_pure (fun T t H hx k e => by subst e; exact XS.icmpYes H hx rfl rfl hd rfl (XT.ii_le_t hc) ho hp k) G
theorem g_icmp_le_f {x y : Int32} {o : Int} (hd : decode bytes pc = .ok (.if_icmp .le o, 3)) (hc : y < x) (hp : pc + 3 = pc') (G : Go l Z n0 EL mn bytes ml ret R h0 ws fr Q K sf h k n pc' Ls st) : Go l Z n0 EL mn bytes ml ret R h0 ws fr Q K sf h k n pc Ls (.int y :: .int x :: st) :=
  g_pure (fun T t H hx k e => by subst hp e; exact XS.icmpNo H hx rfl hd rfl (XT.ii_le_f hc) k) G
theorem g_if_le_t {x : Int32} {o : Int} (hd : decode bytes pc = .ok (.ifCond .le o, 3)) (hc : ¬ 0 < x) (ho : 0 ≤ (pc : Int) + o) (hp : ((pc : Int) + o).toNat = pc') (G : Go l Z n0 EL mn bytes ml ret R h0 ws fr Q K sf h k n pc' Ls st) : Go l Z n0 EL mn bytes ml ret R h0 ws fr Q K sf h k n pc Ls (.int x :: st) :=
  g_pure (fun T t H hx k e => by subst e; exact XS.ifYes H hx rfl rfl hd rfl (XT.i0_le_t hc) ho hp k) G
theorem g_if_le_f {x : Int32} {o : Int} (hd : decode bytes pc = .ok (.ifCond .le o, 3)) (hc : 0 < x) (hp : pc + 3 = pc') (G : Go l Z n0 EL mn bytes ml ret R h0 ws fr Q K sf h k n pc' Ls st) : Go l Z n0 EL mn bytes ml ret R h0 ws fr Q K sf h k n pc Ls (.int x :: st) :=
  g_pure (fun T t H hx k e => by subst hp e; exact XS.ifNo H hx rfl hd rfl (XT.i0_le_f hc) k) G
theorem g_acmp_eq_t {x y : Value} {o : Int} (hd : decode bytes pc = .ok (.if_acmp .eq o, 3)) (hx' : x.isRef = true) (hy' : y.isRef = true) (hc : x = y) (ho : 0 ≤ (pc : Int) + o) (hp : ((pc : Int) + o).toNat = pc') (G : Go l Z n0 EL mn bytes ml ret R h0 ws fr Q K sf h k n pc' Ls st) : Go l Z n0 EL mn bytes ml ret R h0 ws fr Q K sf h k n pc Ls (y :: x :: st) :=
  g_pure (fun T t H hx k e => by subst e; exact XT.acmpYes H hx rfl rfl hd rfl hx' hy' (XT.aa_eq_t hc) ho hp k) G
theorem g_acmp_eq_f {x y : Value} {o : Int} (hd : decode bytes pc = .ok (.if_acmp .eq o, 3)) (hx' : x.isRef = true) (hy' : y.isRef = true) (hc : ¬ x = y) (hp : pc + 3 = pc') (G : Go l Z n0 EL mn bytes ml ret R h0 ws fr Q K sf h k n pc' Ls st) : Go l Z n0 EL mn bytes ml ret R h0 ws fr Q K sf h k n pc Ls (y :: x :: st) :=
  g_pure (fun T t H hx k e => by subst hp e; exact XT.acmpNo H hx rfl hd rfl hx' hy' (XT.aa_eq_f hc) k) G
theorem g_acmp_ne_t {x y : Value} {o : Int} (hd : decode bytes pc = .ok (.if_acmp .ne o, 3)) (hx' : x.isRef = true) (hy' : y.isRef = true) (hc : ¬ x = y) (ho : 0 ≤ (pc : Int) + o) (hp : ((pc : Int) + o).toNat = pc') (G : Go l Z n0 EL mn bytes ml ret R h0 ws fr Q K sf h k n pc' Ls st) : Go l Z n0 EL mn bytes ml ret R h0 ws fr Q K sf h k n pc Ls (y :: x :: st) :=
  g_pure (fun T t H hx k e => by subst e; exact XT.acmpYes H hx rfl rfl hd rfl hx' hy' (XT.aa_ne_t hc) ho hp k) G
theorem g_acmp_ne_f {x y : Value} {o : Int} (hd : decode bytes pc = .ok (.if_acmp .ne o, 3)) (hx' : x.isRef = true) (hy' : y.isRef = true) (hc : x = y) (hp : pc + 3 = pc') (G : Go l Z n0 EL mn bytes ml ret R h0 ws fr Q K sf h k n pc' Ls st) : Go l Z n0 EL mn bytes ml ret R h0 ws fr Q K sf h k n pc Ls (y :: x :: st) :=
  g_pure (fun T t H hx k e => by subst hp e; exact XT.acmpNo H hx rfl hd rfl hx' hy' (XT.aa_ne_f hc) k) G
theorem g_ifnull_t {o : Int} (hd : decode bytes pc = .ok (.ifnull o, 3)) (ho : 0 ≤ (pc : Int) + o) (hp : ((pc : Int) + o).toNat = pc') (G : Go l Z n0 EL mn bytes ml ret R h0 ws fr Q K sf h k n pc' Ls st) : Go l Z n0 EL mn bytes ml ret R h0 ws fr Q K sf h k n pc Ls (.null :: st) :=
  g_pure (fun T t H hx k e => by subst e; exact XS.ifnullYes H hx rfl rfl hd rfl ho hp k) G
theorem g_ifnull_f {b : Addr} {o : Int} (hd : decode bytes pc = .ok (.ifnull o, 3)) (hp : pc + 3 = pc') (G : Go l Z n0 EL mn bytes ml ret R h0 ws fr Q K sf h k n pc' Ls st) : Go l Z n0 EL mn bytes ml ret R h0 ws fr Q K sf h k n pc Ls (.ref b :: st) :=
  g_pure (fun T t H hx k e => by subst hp e; exact XS.ifnullNo H hx rfl hd rfl k) G
theorem g_ifnonnull_t {b : Addr} {o : Int} (hd : decode bytes pc = .ok (.ifnonnull o, 3)) (ho : 0 ≤ (pc : Int) + o) (hp : ((pc : Int) + o).toNat = pc') (G : Go l Z n0 EL mn bytes ml ret R h0 ws fr Q K sf h k n pc' Ls st) : Go l Z n0 EL mn bytes ml ret R h0 ws fr Q K sf h k n pc Ls (.ref b :: st) :=
  g_pure (fun T t H hx k e => by subst e; exact XS.ifnonnullYes H hx rfl rfl hd rfl ho hp k) G
theorem g_ifnonnull_f {o : Int} (hd : decode bytes pc = .ok (.ifnonnull o, 3)) (hp : pc + 3 = pc') (G : Go l Z n0 EL mn bytes ml ret R h0 ws fr Q K sf h k n pc' Ls st) : Go l Z n0 EL mn bytes ml ret R h0 ws fr Q K sf h k n pc Ls (.null :: st) :=
  g_pure (fun T t H hx k e => by subst hp e; exact XS.ifnonnullNo H hx rfl hd rfl k) G
theorem g_goto {o : Int} (hd : decode bytes pc = .ok (.goto o, 3)) (ho : 0 ≤ (pc : Int) + o) (hp : ((pc : Int) + o).toNat = pc') (G : Go l Z n0 EL mn bytes ml ret R h0 ws fr Q K sf h k n pc' Ls st) : Go l Z n0 EL mn bytes ml ret R h0 ws fr Q K sf h k n pc Ls st :=
  g_pure (fun T t H hx k e => by subst e; exact XS.goto H hx rfl rfl hd ho hp k) G
theorem g_ldcI {idx : Nat} {v : Int32} (hd : decode bytes pc = .ok (.ldc idx, 2)) (w : (Jvm.Cond.constant mn.cls idx v).before a0 Z = true) (hp : pc + 2 = pc') (G : Go l Z n0 EL mn bytes ml ret R h0 ws fr Q K sf h k n pc' Ls (.int v :: st)) : Go l Z n0 EL mn bytes ml ret R h0 ws fr Q K sf h k n pc Ls st :=
  g_law (fun s' T locs hx hb hml hown hnm hZ X e ho => ⟨T, X, e, fun t s => by subst hb hp; exact X.ldcInt hx hown (mvT hZ w) (g := mkF (km K) pc Ls st) rfl hd t s⟩) G
theorem g_ldcwI {idx : Nat} {v : Int32} (hd : decode bytes pc = .ok (.ldc_w idx, 3)) (w : (Jvm.Cond.constant mn.cls idx v).before a0 Z = true) (hp : pc + 3 = pc') (G : Go l Z n0 EL mn bytes ml ret R h0 ws fr Q K sf h k n pc' Ls (.int v :: st)) : Go l Z n0 EL mn bytes ml ret R h0 ws fr Q K sf h k n pc Ls st :=
  g_law (fun s' T locs hx hb hml hown hnm hZ X e ho => ⟨T, X, e, fun t s => by subst hb hp; exact X.ldcwInt hx hown (mvT hZ w) (g := mkF (km K) pc Ls st) rfl hd t s⟩) G
theorem g_ldcJ {idx : Nat} {v : Int64} (hd : decode bytes pc = .ok (.ldc2_w idx, 3)) (w : (Jvm.Cond.constantLong mn.cls idx v).before a0 Z = true) (hp : pc + 3 = pc') (G : Go l Z n0 EL mn bytes ml ret R h0 ws fr Q K sf h k n pc' Ls (.long v :: st)) : Go l Z n0 EL mn bytes ml ret R h0 ws fr Q K sf h k n pc Ls st :=
  g_law (fun s' T locs hx hb hml hown hnm hZ X e ho => ⟨T, X, e, fun t s => by subst hb hp; exact X.ldc2Long hx hown (mvT hZ w) (g := mkF (km K) pc Ls st) rfl hd t s⟩) G
theorem g_getF {idx : Nat} {R0 O nm d : String} {a : Addr} {v : Value} (hd : decode bytes pc = .ok (.getfield idx, 3)) (w : (Jvm.Cond.fieldLink mn.cls idx R0 nm d).before a0 Z = true) (via : Via Z R0 O nm d) (F : Fld Z h a O nm d v) (hp : pc + 3 = pc') (G : Go l Z n0 EL mn bytes ml ret R h0 ws fr Q K sf h k n pc' Ls (v :: st)) : Go l Z n0 EL mn bytes ml ret R h0 ws fr Q K sf h k n pc Ls (.ref a :: st) :=
  g_law (fun s' T locs hx hb hml hown hnm hZ X e ho => by
    subst hb hp
    exact getF X hx hZ hown (host := "") (Or.inl w) via e F (g := mkF (km K) pc Ls (.ref a :: st)) rfl rfl hd) G
theorem g_getS {idx : Nat} {R0 O nm d : String} {v : Value} (hd : decode bytes pc = .ok (.getstatic idx, 3)) (w : (Jvm.Cond.fieldLink mn.cls idx R0 nm d).before a0 Z = true) (via : Via Z R0 O nm d) (F : Sta Z Z.heap O nm d v) (hp : pc + 3 = pc') (G : Go l Z n0 EL mn bytes ml ret R h0 ws fr Q K sf h k n pc' Ls (v :: st)) : Go l Z n0 EL mn bytes ml ret R h0 ws fr Q K sf h k n pc Ls st :=
  g_law (fun s' T locs hx hb hml hown hnm hZ X e ho => by
    subst hb hp
    exact getS X hx hZ hown (host := "") w via e (F.ext ho.2) (g := mkF (km K) pc Ls st) rfl hd) G
theorem g_putF {idx kk : Nat} {R0 O nm d C : String} {ty : FieldType} {a : Addr} {v v' old : Value} (hd : decode bytes pc = .ok (.putfield idx, 3)) (w : (Jvm.Cond.fieldLink mn.cls idx R0 nm d).before a0 Z = true) (via : Via Z R0 O nm d) (F : Fld Z h a O nm d old) (E : Exa Z h a C)
    (L : (Jvm.Cond.lays C O nm d).before a0 Z = true ∨ ((Jvm.Cond.laysFinal C O nm d).before a0 Z = true ∧ mn.cls = O ∧ mn.name = "<init>")) (wi : (Jvm.Cond.instantiable C kk).before a0 Z = true) (hty : parseFieldDescriptor d = some ty) (hn : narrow ty v = v') (hf : fits ty v' = true)
    (hin : a ∈ ws ∨ h0.size ≤ a) (hsf : a ∈ sf) (hp : pc + 3 = pc') (G : ∀ h', Wr h h' a (Jvm.RoadKit.slotOf Z O nm d) v' → Go l Z n0 EL mn bytes ml ret R h0 ws fr Q K sf h' k n pc' Ls st) : Go l Z n0 EL mn bytes ml ret R h0 ws fr Q K sf h k n pc Ls (v :: .ref a :: st) :=
  g_wr (fun s' T locs hx hb hml hown hnm hZ X e ho => by
    subst hb hp
    exact putFN X hx hZ hown w via e F E (L.imp id fun q => ⟨q.1, q.2.1, hnm.trans q.2.2⟩) wi hty hn hf (g := mkF (km K) pc Ls (v :: .ref a :: st)) rfl rfl hd) hin hsf G
theorem g_new {idx c : Nat} {C : String} (hd : decode bytes pc = .ok (.new idx, 3)) (w : (Jvm.Cond.classLink mn.cls idx C).before a0 Z = true) (wi : (Jvm.Cond.instantiable C c).before a0 Z = true) (wz : (Jvm.Cond.initialized C).before a0 Z = true) (hk : k + 1 ≤ R.cells) (hl : n + c ≤ R.slots) (hp : pc + 3 = pc')
    (G : ∀ a h', a = h.size → Keep h h' [] → Exa Z h' a C → (∀ {O nm d : String} {ty : FieldType}, Laid Z a0 C O nm d → parseFieldDescriptor d = some ty → Fld Z h' a O nm d (defaultValue ty)) → h0.size ≤ a → Go l Z n0 EL mn bytes ml ret R h0 ws fr Q K (a :: sf) h' (k + 1) (n + c) pc' Ls (.ref a :: st)) : Go l Z n0 EL mn bytes ml ret R h0 ws fr Q K sf h k n pc Ls st :=
  g_ext (P := fun h' => Exa Z h' h.size C ∧ ∀ {O nm d : String} {ty : FieldType}, Laid Z a0 C O nm d → parseFieldDescriptor d = some ty → Fld Z h' h.size O nm d (defaultValue ty)) (fun s' T locs hx hb hml hown hnm hZ X e ho => by
    subst hb hp
    obtain ⟨T', h', X', e', E, A, D, -, S⟩ := newO X hx hZ hown w wi wz e (g := mkF (km K) pc Ls st) rfl hd hk hl
    exact ⟨T', h', X', e', E, A.lt, ⟨A, D⟩, S⟩) (fun h' E q hsz => G _ h' rfl ((Keep.refl _ _).ext E) q.1 q.2 hsz)
theorem g_initO {idx W : Nat} {a : Addr} (hd : decode bytes pc = .ok (.invokespecial idx, 3)) (w1 : (Jvm.Cond.methodLink mn.cls idx Lib.objectInit).before a0 Z = true) (w2 : (Jvm.Cond.instanceMethod Lib.objectInit).before a0 Z = true) (w3 : (Jvm.Cond.code Lib.objectInit ⟨#[0xb1]⟩ 1 none).before a0 Z = true)
    (hsz : Ls.size = ml) (hf : 1 ≤ R.frames) (hW : (st.map fun v => v.category).sum ≤ W) (hl : W + 12 ≤ R.locals) (hp : pc + 3 = pc') (G : Go l Z n0 EL mn bytes ml ret R h0 ws fr Q K sf h k n pc' Ls st) : Go l Z n0 EL mn bytes ml ret R h0 ws fr Q K sf h k n pc Ls (.ref a :: st) :=
  g_law (fun s' T locs hx hb hml hown hnm hZ X e ho => by
    subst hb hp
    exact initO X hx hZ hown w1 w2 w3 e (g := mkF (km K) pc Ls (.ref a :: st)) rfl (hsz.trans hml.symm) rfl hd hf (W := W) (by show 2 * 0 + _ ≤ _; omega) hl) G
theorem g_cast {idx : Nat} {C : String} {a : Addr} (hd : decode bytes pc = .ok (.checkcast idx, 3)) (w : (Jvm.Cond.classLink mn.cls idx C).before a0 Z = true) (F : Ins Z h a C true) (hp : pc + 3 = pc') (G : Go l Z n0 EL mn bytes ml ret R h0 ws fr Q K sf h k n pc' Ls (.ref a :: st)) : Go l Z n0 EL mn bytes ml ret R h0 ws fr Q K sf h k n pc Ls (.ref a :: st) :=
  g_law (fun s' T locs hx hb hml hown hnm hZ X e ho => by
    subst hb hp
    exact castY X hx hZ hown w e F (g := mkF (km K) pc Ls (.ref a :: st)) rfl rfl hd) G
theorem g_instY {idx : Nat} {C : String} {a : Addr} (hd : decode bytes pc = .ok (.instanceof idx, 3)) (w : (Jvm.Cond.classLink mn.cls idx C).before a0 Z = true) (F : Ins Z h a C true) (hp : pc + 3 = pc') (G : Go l Z n0 EL mn bytes ml ret R h0 ws fr Q K sf h k n pc' Ls (.int 1 :: st)) : Go l Z n0 EL mn bytes ml ret R h0 ws fr Q K sf h k n pc Ls (.ref a :: st) :=
  g_law (fun s' T locs hx hb hml hown hnm hZ X e ho => by
    subst hb hp
    exact instY X hx hZ hown w e F (g := mkF (km K) pc Ls (.ref a :: st)) rfl rfl hd) G
theorem g_instN {idx : Nat} {C C' : String} {a : Addr} (hd : decode bytes pc = .ok (.instanceof idx, 3)) (w : (Jvm.Cond.classLink mn.cls idx C).before a0 Z = true) (E : Exa Z h a C') (F : ∃ c t, Z.vm.findClass C' = some c ∧ Z.vm.findClass C = some t ∧ Z.vm.assignable c t = false) (hp : pc + 3 = pc') (G : Go l Z n0 EL mn bytes ml ret R h0 ws fr Q K sf h k n pc' Ls (.int 0 :: st)) : Go l Z n0 EL mn bytes ml ret R h0 ws fr Q K sf h k n pc Ls (.ref a :: st) :=
  g_law (fun s' T locs hx hb hml hown hnm hZ X e ho => by
    subst hb hp
    exact instNo X hx hZ hown w e E F (g := mkF (km K) pc Ls (.ref a :: st)) rfl rfl hd) G
/-- an array of kind ty that holds the list vs -/
def Ia (Z : State) (h : Heap) (a : Addr) (ty : FieldType) (vs : List Int32) : Prop := ∃ c : Cell, Arr Z h a c ty ∧ c.slots.toList = vs.map Value.int ∧ vs.length < 2 ^ 31 ∧ ∀ v ∈ vs, fits ty (.int v) = true
theorem Ia.keep {h' : Heap} {a : Addr} {ty : FieldType} {vs : List Int32} (A : Ia Z h a ty vs) (Kp : Keep h h' ws) (q : a ∉ ws) : Ia Z h' a ty vs := by obtain ⟨c, A, r⟩ := A; exact ⟨c, ⟨Kp.2.1 a c A.1 q, A.2⟩, r⟩
theorem Ia.lt {a : Addr} {ty : FieldType} {vs : List Int32} (A : Ia Z h a ty vs) : a < h.size := by obtain ⟨c, A, r⟩ := A; exact A.lt
theorem Ia.arv {a : Addr} {ty : FieldType} {vs : List Int32} (A : Ia Z h a ty vs) : ∃ k, Arv Z h a k ty (Int32.ofNat vs.length) (vs.map Value.int) (.int 0) := by
  obtain ⟨c, A, e, hl, hf⟩ := A
  have es : c.slots.size = vs.length := by rw [← Array.length_toList, e, List.length_map]
  have ei : (Int32.ofNat vs.length).toInt = vs.length := Int32.toInt_ofNat_of_lt hl
  refine ⟨c.cls, c, A, rfl, ?_, ?_, fun i hi => ?_, fun i hi => ?_⟩
  · rw [es, Int32.toNatClampNeg, ei]; rfl
  · rw [Int32.lt_iff_toInt_lt, ei]; exact fun q => by have : (0 : Int32).toInt = 0 := rfl; omega
  · have hi' : i < vs.length := es ▸ hi
    rw [← Array.getElem?_toList, e]; simp [List.getD_eq_getElem?_getD, hi']
  · have hi' : i < vs.length := es ▸ hi
    simp only [List.getD_eq_getElem?_getD, List.getElem?_map, List.getElem?_eq_getElem hi', Option.map_some, Option.getD_some]
    exact hf _ (List.getElem_mem hi')
theorem ia_of {a : Addr} {kk : ClassId} {ty : FieldType} {z : Int32} {vs : List Int32} {us : List Value} {d : Value} (A : Arv Z h a kk ty z us d) (e : us = vs.map Value.int) (hz : z.toNatClampNeg = vs.length) : Ia Z h a ty vs := by
  obtain ⟨c, A, -, hs, h0', H, F⟩ := A
  have es : c.slots.size = vs.length := hs.trans hz
  subst e
  have hl : vs.length < 2 ^ 31 := by have := z.toInt_lt; rw [← hz, Int32.toNatClampNeg]; omega
  refine ⟨c, A, ?_, hl, fun v hv => ?_⟩
  · refine List.ext_getElem? fun i => ?_
    rw [Array.getElem?_toList]
    by_cases q : i < vs.length
    · rw [H i (es ▸ q)]; simp [List.getD_eq_getElem?_getD, q]
    · rw [Array.getElem?_eq_none (by omega)]; simp [q]
  · obtain ⟨i, hi, rfl⟩ := List.mem_iff_getElem.mp hv
    have := F i (es ▸ hi)
    simpa [List.getD_eq_getElem?_getD, hi] using this
theorem Ia.fits {a : Addr} {ty : FieldType} {vs : List Int32} (A : Ia Z h a ty vs) : ∀ v ∈ vs, Jvm.fits ty (.int v) = true := by obtain ⟨c, A, r⟩ := A; exact r.2.2
theorem Ia.short {a : Addr} {ty : FieldType} {vs : List Int32} (A : Ia Z h a ty vs) : vs.length < 2 ^ 31 := by obtain ⟨c, A, r⟩ := A; exact r.2.1
theorem g_newA {aty : ArrayType} {x : Int32} {cap : Nat} (hd : decode bytes pc = .ok (.newarray aty, 2)) (w : (Jvm.Cond.arrayClass (newarray.typeOf aty)).before a0 Z = true) (hz : defaultValue (newarray.typeOf aty) = .int 0) (hx0 : ¬ x < 0) (hcap : x.toNatClampNeg ≤ cap) (hb8 : cap * 8 ≤ 536870912) (hk : k + 1 ≤ R.cells) (hl : n + cap ≤ R.slots) (hp : pc + 2 = pc')
    (G : ∀ a h', a = h.size → Keep h h' [] → Ia Z h' a (newarray.typeOf aty) (List.replicate x.toNatClampNeg 0) → h0.size ≤ a → Go l Z n0 EL mn bytes ml ret R h0 ws fr Q K (a :: sf) h' (k + 1) (n + cap) pc' Ls (.ref a :: st)) : Go l Z n0 EL mn bytes ml ret R h0 ws fr Q K sf h k n pc Ls (.int x :: st) :=
  g_ext (P := fun h' => Ia Z h' h.size (newarray.typeOf aty) (List.replicate x.toNatClampNeg 0)) (fun s' T locs hx hb hml hown hnm hZ X e ho => by
    subst hb hp
    obtain ⟨T', h', cA, X', e', E, A, S⟩ := newP X hx hZ w e (g := mkF (km K) pc Ls (.int x :: st)) rfl hd rfl hx0 hcap hb8 hk hl
    have V := Arv.new A hx0
    rw [hz] at V
    exact ⟨T', h', X', e', E, A.lt, ia_of (vs := List.replicate x.toNatClampNeg 0) (V.pad (pad_rep [] (.int 0) x.toNatClampNeg)) (by simp) (by simp), S⟩) (fun h' E q hsz => G _ h' rfl ((Keep.refl _ _).ext E) q hsz)
theorem ia_inb {vs : List Int32} {j : Int32} {i : Nat} {c : Cell} (e : c.slots.toList = vs.map Value.int) (h0 : ¬ j < 0) (hj : j.toNatClampNeg = i) (hi : i < vs.length) : ¬ (j < 0 ∨ c.slots.size ≤ j.toNatClampNeg) := by
  have es : c.slots.size = vs.length := by rw [← Array.length_toList, e, List.length_map]
  rintro (q | q)
  · exact h0 q
  · omega
theorem ia_get {vs : List Int32} {i : Nat} {x : Int32} {c : Cell} (e : c.slots.toList = vs.map Value.int) (hi : vs[i]? = some x) : c.slots[i]? = some (.int x) := by
  rw [← Array.getElem?_toList, e, List.getElem?_map, hi]; rfl
theorem ia_put {h' : Heap} {a : Addr} {ty : FieldType} {vs : List Int32} {i : Nat} {x : Int32} (A : Ia Z h a ty vs) (W : Wr h h' a i (.int x)) (hx : Jvm.fits ty (.int x) = true) : Ia Z h' a ty (vs.set i x) := by
  obtain ⟨c, A, e, hs, hf⟩ := A
  refine ⟨_, A.same W, ?_, by simpa using hs, fun v hv => ?_⟩
  · rw [Cell.setSlot, Array.toList_setIfInBounds, e, List.map_set]
  · rcases List.mem_or_eq_of_mem_set hv with q | rfl
    · exact hf v q
    · exact hx
theorem g_caload {a : Addr} {vs : List Int32} {j x : Int32} {i : Nat} (hd : decode bytes pc = .ok (.caload, 1)) (A : Ia Z h a .char vs) (hj0 : ¬ j < 0) (hj : j.toNatClampNeg = i) (hi : vs[i]? = some x) (hp : pc + 1 = pc') (G : Go l Z n0 EL mn bytes ml ret R h0 ws fr Q K sf h k n pc' Ls (.int x :: st)) : Go l Z n0 EL mn bytes ml ret R h0 ws fr Q K sf h k n pc Ls (.int j :: .ref a :: st) :=
  g_law (fun s' T locs hx hb hml hown hnm hZ X e ho => ⟨T, X, e, fun t s => by
    subst hb hp
    obtain ⟨c, A1, A2, A3, A4⟩ := A
    exact X.caload hx (j := j) (v := .int x) (by rw [e]; exact A1.1) (State.isArrayOf_alike hZ.alike A1.2.1) A1.2.2 (ia_inb A2 hj0 hj (List.getElem?_eq_some_iff.mp hi).1) (by rw [hj]; exact ia_get A2 hi) (g := mkF (km K) pc Ls (.int j :: .ref a :: st)) rfl rfl hd t s⟩) G
theorem g_baload {a : Addr} {vs : List Int32} {j x : Int32} {i : Nat} (hd : decode bytes pc = .ok (.baload, 1)) (A : Ia Z h a .byte vs) (hj0 : ¬ j < 0) (hj : j.toNatClampNeg = i) (hi : vs[i]? = some x) (hp : pc + 1 = pc') (G : Go l Z n0 EL mn bytes ml ret R h0 ws fr Q K sf h k n pc' Ls (.int x :: st)) : Go l Z n0 EL mn bytes ml ret R h0 ws fr Q K sf h k n pc Ls (.int j :: .ref a :: st) :=
  g_law (fun s' T locs hx hb hml hown hnm hZ X e ho => ⟨T, X, e, fun t s => by
    subst hb hp
    obtain ⟨c, A1, A2, A3, A4⟩ := A
    exact X.baloadBytes hx (j := j) (v := .int x) (by rw [e]; exact A1.1) (State.isArrayOf_alike hZ.alike A1.2.1) A1.2.2 (ia_inb A2 hj0 hj (List.getElem?_eq_some_iff.mp hi).1) (by rw [hj]; exact ia_get A2 hi) (g := mkF (km K) pc Ls (.int j :: .ref a :: st)) rfl rfl hd t s⟩) G
theorem g_iaload {a : Addr} {vs : List Int32} {j x : Int32} {i : Nat} (hd : decode bytes pc = .ok (.iaload, 1)) (A : Ia Z h a .int vs) (hj0 : ¬ j < 0) (hj : j.toNatClampNeg = i) (hi : vs[i]? = some x) (hp : pc + 1 = pc') (G : Go l Z n0 EL mn bytes ml ret R h0 ws fr Q K sf h k n pc' Ls (.int x :: st)) : Go l Z n0 EL mn bytes ml ret R h0 ws fr Q K sf h k n pc Ls (.int j :: .ref a :: st) :=
  g_law (fun s' T locs hx hb hml hown hnm hZ X e ho => ⟨T, X, e, fun t s => by
    subst hb hp
    obtain ⟨c, A1, A2, A3, A4⟩ := A
    exact X.iaload hx (j := j) (v := .int x) (by rw [e]; exact A1.1) (State.isArrayOf_alike hZ.alike A1.2.1) A1.2.2 (ia_inb A2 hj0 hj (List.getElem?_eq_some_iff.mp hi).1) (by rw [hj]; exact ia_get A2 hi) (g := mkF (km K) pc Ls (.int j :: .ref a :: st)) rfl rfl hd t s⟩) G
theorem g_castore {a : Addr} {vs : List Int32} {j x : Int32} {i : Nat} (hd : decode bytes pc = .ok (.castore, 1)) (A : Ia Z h a .char vs) (hj0 : ¬ j < 0) (hj : j.toNatClampNeg = i) (hi : i < vs.length) (hin : a ∈ ws ∨ h0.size ≤ a) (hsf : a ∈ sf) (hp : pc + 1 = pc') (G : ∀ h', Keep h h' [a] → Ia Z h' a .char (vs.set i (nar .char x)) → Go l Z n0 EL mn bytes ml ret R h0 ws fr Q K sf h' k n pc' Ls st) : Go l Z n0 EL mn bytes ml ret R h0 ws fr Q K sf h k n pc Ls (.int x :: .int j :: .ref a :: st) :=
  g_wr (i := i) (v := .int (nar .char x)) (fun s' T locs hx hb hml hown hnm hZ X e ho => by
    subst hb hp hj
    obtain ⟨c, A1, A2, A3, A4⟩ := A
    exact stC X hx hZ e A1 (j := j) (ia_inb A2 hj0 rfl hi) (g := mkF (km K) pc Ls (.int x :: .int j :: .ref a :: st)) rfl rfl hd) hin hsf (fun h' W => G h' (Keep.of_wr W) (ia_put A W (fits_nar_char _)))
theorem g_bastore {a : Addr} {vs : List Int32} {j x : Int32} {i : Nat} (hd : decode bytes pc = .ok (.bastore, 1)) (A : Ia Z h a .byte vs) (hj0 : ¬ j < 0) (hj : j.toNatClampNeg = i) (hi : i < vs.length) (hin : a ∈ ws ∨ h0.size ≤ a) (hsf : a ∈ sf) (hp : pc + 1 = pc') (G : ∀ h', Keep h h' [a] → Ia Z h' a .byte (vs.set i (nar .byte x)) → Go l Z n0 EL mn bytes ml ret R h0 ws fr Q K sf h' k n pc' Ls st) : Go l Z n0 EL mn bytes ml ret R h0 ws fr Q K sf h k n pc Ls (.int x :: .int j :: .ref a :: st) :=
  g_wr (i := i) (v := .int (nar .byte x)) (fun s' T locs hx hb hml hown hnm hZ X e ho => by
    subst hb hp hj
    obtain ⟨c, A1, A2, A3, A4⟩ := A
    exact stB X hx hZ e A1 (j := j) (ia_inb A2 hj0 rfl hi) (g := mkF (km K) pc Ls (.int x :: .int j :: .ref a :: st)) rfl rfl hd) hin hsf (fun h' W => G h' (Keep.of_wr W) (ia_put A W (fits_nar_byte _)))
theorem g_iastore {a : Addr} {vs : List Int32} {j x : Int32} {i : Nat} (hd : decode bytes pc = .ok (.iastore, 1)) (A : Ia Z h a .int vs) (hj0 : ¬ j < 0) (hj : j.toNatClampNeg = i) (hi : i < vs.length) (hin : a ∈ ws ∨ h0.size ≤ a) (hsf : a ∈ sf) (hp : pc + 1 = pc') (G : ∀ h', Keep h h' [a] → Ia Z h' a .int (vs.set i x) → Go l Z n0 EL mn bytes ml ret R h0 ws fr Q K sf h' k n pc' Ls st) : Go l Z n0 EL mn bytes ml ret R h0 ws fr Q K sf h k n pc Ls (.int x :: .int j :: .ref a :: st) :=
  g_wr (i := i) (v := .int x) (fun s' T locs hx hb hml hown hnm hZ X e ho => by
    subst hb hp hj
    obtain ⟨c, A1, A2, A3, A4⟩ := A
    exact stI X hx hZ e A1 (j := j) (ia_inb A2 hj0 rfl hi) (g := mkF (km K) pc Ls (.int x :: .int j :: .ref a :: st)) rfl rfl hd) hin hsf (fun h' W => G h' (Keep.of_wr W) (ia_put A W rfl))
theorem nat_i32 {n : Nat} (h : n < 2 ^ 31) : (Int32.ofNat n).toNatClampNeg = n := by rw [Int32.toNatClampNeg, Int32.toInt_ofNat_of_lt h]; rfl
theorem g_acopy {idx W : Nat} {a b : Addr} {vs vd : List Int32} {sp dp nn : Int32} {i j m : Nat} (hd : decode bytes pc = .ok (.invokestatic idx, 3)) (w1 : (Jvm.Cond.methodLink mn.cls idx Jvm.Stand.acN).before a0 Z = true) (w2 : (Jvm.Cond.native Jvm.Stand.acN).before a0 Z = true) (w3 : (Jvm.Cond.static Jvm.Stand.acN).before a0 Z = true) (w4 : (Jvm.Cond.initialized "java/lang/System").before a0 Z = true)
    (A : Ia Z h a .byte vs) (B : Ia Z h b .byte vd) (h1 : ¬ sp < 0) (e1 : sp.toNatClampNeg = i) (h2 : ¬ dp < 0) (e2 : dp.toNatClampNeg = j) (h3 : ¬ nn < 0) (e3 : nn.toNatClampNeg = m) (h4 : i + m ≤ vs.length) (h5 : j + m ≤ vd.length)
    (hsz : Ls.size = ml) (hf : 1 ≤ R.frames) (hW : (st.map fun v => v.category).sum ≤ W) (hlo : W + (nativeFrameWords "java/lang/System" "arraycopy" 5 + 11) ≤ R.locals) (hin : h0.size ≤ b) (hsf : b ∈ sf) (hp : pc + 3 = pc')
    (G : ∀ h', Keep h h' [b] → Ia Z h' b .byte (vd.take j ++ (vs.drop i).take m ++ vd.drop (j + m)) → Go l Z n0 EL mn bytes ml ret R h0 [] fr Q K sf h' k n pc' Ls st) : Go l Z n0 EL mn bytes ml ret R h0 [] fr Q K sf h k n pc Ls (.int nn :: .int dp :: .ref b :: .int sp :: .ref a :: st) :=
  g_fr (P := fun h' => Ia Z h' b .byte (vd.take j ++ (vs.drop i).take m ++ vd.drop (j + m))) (b := b) (fun s' T locs hx hb hml hown hnm hZ X e ho N => by
    subst hb hp e1 e2 e3
    obtain ⟨kA, Av⟩ := A.arv
    obtain ⟨kB, Bv⟩ := B.arv
    obtain ⟨T', h', L, X', e', F, Kp, V, S⟩ := cpA X hx hZ hown w1 w2 w3 w4 e Av Bv (us := ((vs.drop sp.toNatClampNeg).take nn.toNatClampNeg).map Value.int) (Or.inl ⟨rfl, rfl⟩) h1 h2 h3 (by rw [nat_i32 A.short]; exact h4) (by rw [nat_i32 B.short]; exact h5)
      (by
        refine List.ext_getElem? fun q => ?_
        by_cases c1 : q < nn.toNatClampNeg
        · have c2 : sp.toNatClampNeg + q < vs.length := by omega
          simp [List.getElem?_take, c1, c2, List.getD_eq_getElem?_getD]
        · simp [List.getElem?_take, c1]) (by rw [List.length_map]; exact h5) N hin (g := mkF (km K) pc Ls (.int nn :: .int dp :: .ref b :: .int sp :: .ref a :: st)) rfl (hsz.trans hml.symm) rfl hd hf (W := W) (by show 2 * 0 + _ ≤ _; omega) hlo
    refine ⟨T', h', L, X', e', F, Kp, ia_of V (by simp [List.map_take, List.map_drop]) (by rw [nat_i32 B.short]; simp only [List.length_append, List.length_take, List.length_drop]; omega), S⟩) hsf G
theorem g_alen {a : Addr} {ty : FieldType} {vs : List Int32} {x : Int32} (hd : decode bytes pc = .ok (.arraylength, 1)) (A : Ia Z h a ty vs) (hv : Int32.ofNat vs.length = x) (hp : pc + 1 = pc') (G : Go l Z n0 EL mn bytes ml ret R h0 ws fr Q K sf h k n pc' Ls (.int x :: st)) : Go l Z n0 EL mn bytes ml ret R h0 ws fr Q K sf h k n pc Ls (.ref a :: st) :=
  g_law (fun s' T locs hx hb hml hown hnm hZ X e ho => ⟨T, X, e, fun t s => by
    subst hb hp hv
    obtain ⟨c, A1, A2, A3, A4⟩ := A
    have es : c.slots.size = vs.length := by rw [← Array.length_toList, A2, List.length_map]
    refine X.arraylength hx (by rw [e]; exact A1.1) (State.isArrayOf_alike hZ.alike A1.2.1) (g := mkF (km K) pc Ls (.ref a :: st)) rfl rfl hd t ?_
    rw [es]; exact s⟩) G
-- returns
theorem g_ireturn {x : Int32} (hd : decode bytes pc = .ok (.ireturn, 1)) (hr : ret = some .int) (hq : Q (.int x) h) (hk : k ≤ R.cells) (hn : n ≤ R.slots) : Go l Z n0 EL mn bytes ml ret R h0 ws fr Q K sf h k n pc Ls (.int x :: st) :=
  g_ret (w := .int x) (fun s' T locs hx hb X hret fs hl => by subst hb hr; exact retOut X hx hret rfl (Or.inl ⟨rfl, Or.inl rfl, x, rfl⟩) hd hl) hq (fun _ _ e => nomatch e) hk hn
theorem g_ireturnN {x z : Int32} {t : FieldType} (hd : decode bytes pc = .ok (.ireturn, 1)) (hr : ret = some t) (ht : t = .boolean ∨ t = .byte ∨ t = .char ∨ t = .short) (hz : nar t x = z) (hq : Q (.int z) h) (hk : k ≤ R.cells) (hn : n ≤ R.slots) : Go l Z n0 EL mn bytes ml ret R h0 ws fr Q K sf h k n pc Ls (.int x :: st) :=
  g_ret (w := .int z) (fun s' T locs hx hb X hret fs hl => by subst hb hr hz; exact retN X hx hret ht hd hl) hq (fun _ _ e => nomatch e) hk hn
theorem g_lreturn {x : Int64} (hd : decode bytes pc = .ok (.lreturn, 1)) (hr : ret = some .long) (hq : Q (.long x) h) (hk : k ≤ R.cells) (hn : n ≤ R.slots) : Go l Z n0 EL mn bytes ml ret R h0 ws fr Q K sf h k n pc Ls (.long x :: st) :=
  g_ret (w := .long x) (fun s' T locs hx hb X hret fs hl => by subst hb hr; exact retOut X hx hret rfl (Or.inr (Or.inl ⟨rfl, rfl, x, rfl⟩)) hd hl) hq (fun _ _ e => nomatch e) hk hn
theorem g_areturnF {x : Value} {t : FieldType} (hd : decode bytes pc = .ok (.areturn, 1)) (hr : ret = some t) (ht : t.isReference = true) (hv : x.isRef = true) (hq : Q x h) (hfr : fr = true → ∀ a, x = .ref a → a ∈ sf) (hk : k ≤ R.cells) (hn : n ≤ R.slots) : Go l Z n0 EL mn bytes ml ret R h0 ws fr Q K sf h k n pc Ls (x :: st) :=
  g_ret (w := x) (fun s' T locs hx hb X hret fs hl => by
    subst hb hr
    have hnw : narrow t x = x := by rcases ref_cases hv with rfl | ⟨b, rfl⟩ <;> cases t <;> first | rfl | cases ht
    exact retOut X hx hret hnw (Or.inr (Or.inr (Or.inr (Or.inr ⟨rfl, ht, hv⟩)))) hd hl) hq hfr hk hn
theorem g_areturn {x : Value} {t : FieldType} (hd : decode bytes pc = .ok (.areturn, 1)) (hr : ret = some t) (ht : t.isReference = true) (hv : x.isRef = true) (hq : Q x h) (hk : k ≤ R.cells) (hn : n ≤ R.slots) (hfr : fr = false := by rfl) : Go l Z n0 EL mn bytes ml ret R h0 ws fr Q K sf h k n pc Ls (x :: st) :=
  g_areturnF hd hr ht hv hq (fun q => by rw [hfr] at q; cases q) hk hn
theorem g_return (hd : decode bytes pc = .ok (.return_, 1)) (hr : ret = none) (hq : Q .null h) (hk : k ≤ R.cells) (hn : n ≤ R.slots) : Go l Z n0 EL mn bytes ml ret R h0 ws fr Q K sf h k n pc Ls [] :=
  g_ret (w := .null) (fun s' T locs hx hb X hret fs hl => by subst hb hr; exact X.returnOut hx hret hd hl) hq (fun _ _ e => nomatch e) hk hn
-- calls by a Back form
def Bk (l : Launch) (Z : State) (n0 : Nat) (R : Room) (h0 : Heap) (ws : List Addr) (h : Heap) (y : MethodName) (W kc' nc : Nat) (as : Array Value) (Qc : Option Value → Heap → List Loc → Prop) : Prop :=
  ∀ (p : Program) (e : Env) (below : List Frame) (s : State) (args : Array Value), Z.Warmed39 s.vm → Old Z n0 h → Keep h0 h ws → Back l R p e below s args y 3 W (fun A a => a = as ∧ A.U.heap = h ∧ A.cells + kc' ≤ R.cells ∧ A.slots + nc ≤ R.slots) (fun A _ v B => ∃ L, Qc v B.U.heap L ∧ B.locs = A.locs ++ L ∧ B.cells = A.cells + kc' ∧ B.slots = A.slots + nc)
theorem nf_self {y : MethodName} {C : String} (w : (Jvm.Cond.selects C y y).before a0 Z = true) : ∀ s : State, Z.Warmed39 s.vm → NotFace s y := fun s hZ => notFace_of_selects (args := #[]) (mvT hZ w)
theorem g_staticB {idx W kc' nc : Nat} {y : MethodName} {ret' : Option FieldType} {bytes' : ByteArray} {maxL : Nat} {argsL rest : List Value} {wsb : List Addr} {Qc : Option Value → Heap → List Loc → Prop} (hd : decode bytes pc = .ok (.invokestatic idx, 3)) (wl : (Jvm.Cond.methodLink mn.cls idx y).before a0 Z = true) (wst : (Jvm.Cond.static y).before a0 Z = true) (wz : (Jvm.Cond.initialized y.cls).before a0 Z = true) (wc : (Jvm.Cond.code y bytes' maxL ret').before a0 Z = true) (hy : y.cls ≠ "java/lang/invoke/MethodHandle" ∧ y.cls ≠ "java/lang/invoke/VarHandle") (hlen : ∀ sig, parseMethodDescriptor y.desc = some sig → argsL.length = sig.parameters.length)
    (B : Bk l Z n0 R h0 ws h y W kc' nc argsL.toArray Qc) (hQ : Keep h0 h ws → ∀ v h' L, Qc v h' L → Nw h0 ws L ∧ Keep h h' wsb) (hsf : ∀ x ∈ wsb, x ∈ sf)
    (hs : st = argsL.reverse ++ rest) (hW : (rest.map fun v => v.category).sum ≤ W) (hsz : Ls.size = ml) (hk : k + kc' ≤ R.cells) (hn : n + nc ≤ R.slots) (hp : pc + 3 = pc')
    (G : ∀ v h' L, Qc v h' L → Go l Z n0 EL mn bytes ml ret R h0 ws fr Q K sf h' (k + kc') (n + nc) pc' Ls (v.toList ++ rest)) : Go l Z n0 EL mn bytes ml ret R h0 ws fr Q K sf h k n pc Ls st :=
  g_call (fun s' T locs hx hb hml hown hnm hZ X e ho hKp => by
    subst hb hp
    obtain ⟨v, vm₁, ⟨T', L', c', s''⟩, -, X', ⟨Lc, hQ', e1, e2, e3⟩, S⟩ := Jvm.LawKit.callS X hx (y := y) hown (mvT hZ wl) (mvT hZ wst) (mvT hZ wz) (mvT hZ wc) hy (B _ _ _ _ _ hZ ho hKp) (g := mkF (km K) pc Ls st) rfl (hsz.trans hml.symm) (argsL := argsL) (rest := rest) hlen hs (by show 2 * 0 + _ ≤ _; omega) hd (fun _ _ => ⟨rfl, e, hk, hn⟩)
    dsimp only [Pt.U, Pt.locs, Pt.cells, Pt.slots] at X' e1 e2 e3 S hQ'
    subst e1 e2 e3
    exact ⟨v, T', Lc, X', hQ', S⟩) hQ hsf G
theorem g_initB {idx W kc' nc : Nat} {y : MethodName} {bytes' : ByteArray} {maxL : Nat} {a : Addr} {argsL rest : List Value} {wsb : List Addr} {Qc : Option Value → Heap → List Loc → Prop} (hd : decode bytes pc = .ok (.invokespecial idx, 3)) (hy1 : y.name = "<init>") (wl : (Jvm.Cond.methodLink mn.cls idx y).before a0 Z = true) (wst : (Jvm.Cond.instanceMethod y).before a0 Z = true) (wc : (Jvm.Cond.code y bytes' maxL none).before a0 Z = true) (hy : y.cls ≠ "java/lang/invoke/MethodHandle" ∧ y.cls ≠ "java/lang/invoke/VarHandle") (hlen : ∀ sig, parseMethodDescriptor y.desc = some sig → argsL.length = sig.parameters.length)
    (B : Bk l Z n0 R h0 ws h y W kc' nc (.ref a :: argsL).toArray Qc) (hQ : Keep h0 h ws → ∀ v h' L, Qc v h' L → Nw h0 ws L ∧ Keep h h' wsb) (hsf : ∀ x ∈ wsb, x ∈ sf)
    (hs : st = argsL.reverse ++ .ref a :: rest) (hW : (rest.map fun v => v.category).sum ≤ W) (hsz : Ls.size = ml) (hk : k + kc' ≤ R.cells) (hn : n + nc ≤ R.slots) (hp : pc + 3 = pc')
    (G : ∀ v h' L, Qc v h' L → Go l Z n0 EL mn bytes ml ret R h0 ws fr Q K sf h' (k + kc') (n + nc) pc' Ls (v.toList ++ rest)) : Go l Z n0 EL mn bytes ml ret R h0 ws fr Q K sf h k n pc Ls st :=
  g_call (fun s' T locs hx hb hml hown hnm hZ X e ho hKp => by
    subst hb hp
    obtain ⟨v, vm₁, ⟨T', L', c', s''⟩, -, X', ⟨Lc, hQ', e1, e2, e3⟩, S⟩ := X.specialBack hx (y := y) hy1 hown (mvT hZ wl) (mvT hZ wst) (mvT hZ wc) hy (B _ _ _ _ _ hZ ho hKp) (g := mkF (km K) pc Ls st) rfl (hsz.trans hml.symm) (Steps.refl _) (a := a) (argsL := argsL) (rest := rest) hlen hs (by show 2 * 0 + _ ≤ _; omega) hd (fun _ _ => ⟨rfl, e, hk, hn⟩)
    dsimp only [Pt.U, Pt.locs, Pt.cells, Pt.slots] at X' e1 e2 e3 S hQ'
    subst e1 e2 e3
    exact ⟨v, T', Lc, X', hQ', fun t u => S.trans u⟩) hQ hsf G
theorem g_virtB {idx W kc' nc : Nat} {y : MethodName} {a : Addr} {z : MethodName} {C : String} {argsL rest : List Value} {wsb : List Addr} {Qc : Option Value → Heap → List Loc → Prop} (hd : decode bytes pc = .ok (.invokevirtual idx, 3)) (wl : (Jvm.Cond.methodLink mn.cls idx y).before a0 Z = true) (wd : (Jvm.Cond.declares y).before a0 Z = true) (hnf : ∀ s : State, Z.Warmed39 s.vm → NotFace s y) (wsel : (Jvm.Cond.selects C y z).before a0 Z = true) (wst : (Jvm.Cond.instanceMethod z).before a0 Z = true) (hy : y.cls ≠ "java/lang/invoke/MethodHandle" ∧ y.cls ≠ "java/lang/invoke/VarHandle") (hlen : ∀ sig, parseMethodDescriptor y.desc = some sig → argsL.length = sig.parameters.length) (E : Exa Z h a C)
    (B : Bk l Z n0 R h0 ws h z W kc' nc (.ref a :: argsL).toArray Qc) (hQ : Keep h0 h ws → ∀ v h' L, Qc v h' L → Nw h0 ws L ∧ Keep h h' wsb) (hsf : ∀ x ∈ wsb, x ∈ sf)
    (hs : st = argsL.reverse ++ .ref a :: rest) (hW : (rest.map fun v => v.category).sum ≤ W) (hsz : Ls.size = ml) (hk : k + kc' ≤ R.cells) (hn : n + nc ≤ R.slots) (hp : pc + 3 = pc')
    (G : ∀ v h' L, Qc v h' L → Go l Z n0 EL mn bytes ml ret R h0 ws fr Q K sf h' (k + kc') (n + nc) pc' Ls (v.toList ++ rest)) : Go l Z n0 EL mn bytes ml ret R h0 ws fr Q K sf h k n pc Ls st :=
  g_call (fun s' T locs hx hb hml hown hnm hZ X e ho hKp => by
    subst hb hp
    obtain ⟨cq, kq, q1, q2, q3⟩ := isOf hZ e E
    obtain ⟨v, vm₁, ⟨T', L', c', s''⟩, -, X', ⟨Lc, hQ', e1, e2, e3⟩, S⟩ := X.virtualBack hx (y := y) (z := z) hown (mvT hZ wl) (mvT hZ wd) (hnf _ hZ) (mvT hZ wsel) (mvT hZ wst) hy (B _ _ _ _ _ hZ ho hKp) q1 q3 (g := mkF (km K) pc Ls st) rfl (hsz.trans hml.symm) (Steps.refl _) (argsL := argsL) (rest := rest) hlen hs (by show 2 * 0 + _ ≤ _; omega) hd (fun _ _ => ⟨rfl, e, hk, hn⟩)
    dsimp only [Pt.U, Pt.locs, Pt.cells, Pt.slots] at X' e1 e2 e3 S hQ'
    subst e1 e2 e3
    exact ⟨v, T', Lc, X', hQ', fun t u => S.trans u⟩) hQ hsf G
/-- the object that a callee hands back as one of its own making -/
def frs (fr : Bool) (w : Value) : List Addr := match fr, w with
  | true, .ref a => [a]
  | _, _ => []
theorem frs_safe {fr' : Bool} {w : Value} {P : Addr → Prop} (q : fr' = true → ∀ a, w = .ref a → P a) (r : ∀ x ∈ sf, P x) : ∀ x ∈ frs fr' w ++ sf, P x := fun x hx => by
  rcases List.mem_append.mp hx with hx | hx
  · cases fr' with
    | false => cases hx
    | true => cases w <;> first | (cases List.mem_singleton.mp hx; exact q rfl _ rfl) | cases hx
  · exact r x hx
theorem g_static {idx W maxL : Nat} {y : MethodName} {bytes' : ByteArray} {t : FieldType} {argsL rest : List Value} {rm : Room} {ws' : List Addr} {fr' : Bool} {Q' : Value → Heap → Prop} (hd : decode bytes pc = .ok (.invokestatic idx, 3)) (wl : (Jvm.Cond.methodLink mn.cls idx y).before a0 Z = true) (wst : (Jvm.Cond.static y).before a0 Z = true) (hy : y.cls ≠ "java/lang/invoke/MethodHandle" ∧ y.cls ≠ "java/lang/invoke/VarHandle") (hlen : ∀ sig, parseMethodDescriptor y.desc = some sig → argsL.length = sig.parameters.length)
    (C' : Con l Z n0 EL y bytes' maxL (some t) [] rm argsL.toArray h ws' fr' Q') (wc : (Jvm.Cond.code y bytes' maxL (some t)).before a0 Z = true) (wz : (Jvm.Cond.initialized y.cls).before a0 Z = true) (hf : rm.frames + 1 ≤ R.frames) (hl : W + (maxL + 11) + rm.locals ≤ R.locals) (hws : ∀ x ∈ ws', (x ∈ ws ∨ h0.size ≤ x) ∧ x ∈ sf)
    (hs : st = argsL.reverse ++ rest) (hW : (rest.map fun v => v.category).sum ≤ W) (hsz : Ls.size = ml) (hk : k + rm.cells ≤ R.cells) (hn : n + rm.slots ≤ R.slots) (hp : pc + 3 = pc')
    (G : ∀ w h', Q' w h' → Keep h h' ws' → Go l Z n0 EL mn bytes ml ret R h0 ws fr Q K (frs fr' w ++ sf) h' (k + rm.cells) (n + rm.slots) pc' Ls (w :: rest)) : Go l Z n0 EL mn bytes ml ret R h0 ws fr Q K sf h k n pc Ls st :=
  fun ok T locs vm0 k0 Xs => by
  obtain ⟨ho, hKp⟩ := old_at ok Xs
  have ok' := ok
  obtain ⟨X, e, a3, a4, a5, hZ0, hown0, a8, a9⟩ := Xs
  obtain ⟨hx, hb, hml, -, hnm, -, -, -, -, ho0, hn1, a1, hEL⟩ := ok
  have hZ : Z.Warmed39 ((ks K).setVm vm0).vm := hZ0
  have hown : ((ks K).setVm vm0).vm.findClass mn.cls = some (km K).cls := hown0
  have B := backOfX (R := R) (p := kp K) (e := ke K) (s := ks K) (args := ka K) (below := kb K) (len := 3) (W := W) (C' ho (fun x hx => (hws x hx).1.elim (hn1 x) fun q => Nat.le_trans (ho0.1 ▸ ho0.2.1) q) ⟨a1, hEL⟩) hZ0 wc wz hf hl hEL a8.1 (fun x hx => a9 x (hws x hx).2)
  subst hb hp
  obtain ⟨v, vm₁, ⟨T', L', c', s''⟩, -, X', hS, hgr, ⟨Lc, ⟨⟨w, rfl, q5, q6, q7⟩, q8⟩, e1, e2, e3, q4⟩, S⟩ := callSS X hx (y := y) hown (mvT hZ wl) (mvT hZ wst) (mvT hZ wz) (mvT hZ wc) hy B (g := mkF (km K) pc Ls st) rfl (hsz.trans hml.symm) (argsL := argsL) (rest := rest) hlen hs (by show 2 * 0 + _ ≤ _; omega) hd (fun _ _ => ⟨rfl, e, hk, hn⟩)
  dsimp only [Pt.U, Pt.locs, Pt.cells, Pt.slots] at X' e1 e2 e3 S hS hgr q4 q5 q6 q7
  subst e1 e2 e3
  have nw : Nw h0 ws Lc := fun x hx => (q8 x hx).elim (fun q => (hws _ q).1) fun q => Or.inr (Nat.le_trans hKp.1 q)
  obtain ⟨s₂, u, L2, h1, r⟩ := G w _ q5 q6 ok' T' _ T'.vm T'.heap.size ⟨X', rfl, a3.app nw, a4.trans hS (Nat.le_trans (by rw [← e] at a5; exact a5) hgr), Nat.le_refl _, State.Warmed39.trans hZ hS.1, (hS.1.alike.findClass _ _).trans hown, a8.trans q4, frs_safe q7 fun x hx => ⟨Nat.lt_of_lt_of_le (a9 x hx).1 q6.1, q4.safe (a9 x hx).1 (a9 x hx).2⟩⟩
  exact ⟨s₂, u, L2, S.trans h1, r⟩
theorem g_staticN {idx W maxL : Nat} {y : MethodName} {bytes' : ByteArray} {argsL rest : List Value} {rm : Room} {ws' : List Addr} {fr' : Bool} {Q' : Value → Heap → Prop} (hd : decode bytes pc = .ok (.invokestatic idx, 3)) (wl : (Jvm.Cond.methodLink mn.cls idx y).before a0 Z = true) (wst : (Jvm.Cond.static y).before a0 Z = true) (hy : y.cls ≠ "java/lang/invoke/MethodHandle" ∧ y.cls ≠ "java/lang/invoke/VarHandle") (hlen : ∀ sig, parseMethodDescriptor y.desc = some sig → argsL.length = sig.parameters.length)
    (C' : Con l Z n0 EL y bytes' maxL none [] rm argsL.toArray h ws' fr' Q') (wc : (Jvm.Cond.code y bytes' maxL none).before a0 Z = true) (wz : (Jvm.Cond.initialized y.cls).before a0 Z = true) (hf : rm.frames + 1 ≤ R.frames) (hl : W + (maxL + 11) + rm.locals ≤ R.locals) (hws : ∀ x ∈ ws', (x ∈ ws ∨ h0.size ≤ x) ∧ x ∈ sf)
    (hs : st = argsL.reverse ++ rest) (hW : (rest.map fun v => v.category).sum ≤ W) (hsz : Ls.size = ml) (hk : k + rm.cells ≤ R.cells) (hn : n + rm.slots ≤ R.slots) (hp : pc + 3 = pc')
    (G : ∀ w h', Q' w h' → Keep h h' ws' → Go l Z n0 EL mn bytes ml ret R h0 ws fr Q K sf h' (k + rm.cells) (n + rm.slots) pc' Ls rest) : Go l Z n0 EL mn bytes ml ret R h0 ws fr Q K sf h k n pc Ls st :=
  fun ok T locs vm0 k0 Xs => by
  obtain ⟨ho, hKp⟩ := old_at ok Xs
  have ok' := ok
  obtain ⟨X, e, a3, a4, a5, hZ0, hown0, a8, a9⟩ := Xs
  obtain ⟨hx, hb, hml, -, hnm, -, -, -, -, ho0, hn1, a1, hEL⟩ := ok
  have hZ : Z.Warmed39 ((ks K).setVm vm0).vm := hZ0
  have hown : ((ks K).setVm vm0).vm.findClass mn.cls = some (km K).cls := hown0
  have B := backOfX (R := R) (p := kp K) (e := ke K) (s := ks K) (args := ka K) (below := kb K) (len := 3) (W := W) (C' ho (fun x hx => (hws x hx).1.elim (hn1 x) fun q => Nat.le_trans (ho0.1 ▸ ho0.2.1) q) ⟨a1, hEL⟩) hZ0 wc wz hf hl hEL a8.1 (fun x hx => a9 x (hws x hx).2)
  subst hb hp
  obtain ⟨v, vm₁, ⟨T', L', c', s''⟩, -, X', hS, hgr, ⟨Lc, ⟨⟨w, rfl, q5, q6, q7⟩, q8⟩, e1, e2, e3, q4⟩, S⟩ := callSS X hx (y := y) hown (mvT hZ wl) (mvT hZ wst) (mvT hZ wz) (mvT hZ wc) hy B (g := mkF (km K) pc Ls st) rfl (hsz.trans hml.symm) (argsL := argsL) (rest := rest) hlen hs (by show 2 * 0 + _ ≤ _; omega) hd (fun _ _ => ⟨rfl, e, hk, hn⟩)
  dsimp only [Pt.U, Pt.locs, Pt.cells, Pt.slots] at X' e1 e2 e3 S hS hgr q4 q5 q6 q7
  subst e1 e2 e3
  have nw : Nw h0 ws Lc := fun x hx => (q8 x hx).elim (fun q => (hws _ q).1) fun q => Or.inr (Nat.le_trans hKp.1 q)
  obtain ⟨s₂, u, L2, h1, r⟩ := G w _ q5 q6 ok' T' _ T'.vm T'.heap.size ⟨X', rfl, a3.app nw, a4.trans hS (Nat.le_trans (by rw [← e] at a5; exact a5) hgr), Nat.le_refl _, State.Warmed39.trans hZ hS.1, (hS.1.alike.findClass _ _).trans hown, a8.trans q4, fun x hx => ⟨Nat.lt_of_lt_of_le (a9 x hx).1 q6.1, q4.safe (a9 x hx).1 (a9 x hx).2⟩⟩
  exact ⟨s₂, u, L2, S.trans h1, r⟩
theorem g_init {idx W maxL : Nat} {y : MethodName} {bytes' : ByteArray} {a : Addr} {argsL rest : List Value} {rm : Room} {ws' : List Addr} {fr' : Bool} {Q' : Value → Heap → Prop} (hd : decode bytes pc = .ok (.invokespecial idx, 3)) (hy1 : y.name = "<init>") (wl : (Jvm.Cond.methodLink mn.cls idx y).before a0 Z = true) (wst : (Jvm.Cond.instanceMethod y).before a0 Z = true) (hy : y.cls ≠ "java/lang/invoke/MethodHandle" ∧ y.cls ≠ "java/lang/invoke/VarHandle") (hlen : ∀ sig, parseMethodDescriptor y.desc = some sig → argsL.length = sig.parameters.length)
    (C' : Con l Z n0 EL y bytes' maxL none [] rm (.ref a :: argsL).toArray h ws' fr' Q') (wc : (Jvm.Cond.code y bytes' maxL none).before a0 Z = true) (wz : (Jvm.Cond.initialized y.cls).before a0 Z = true) (hf : rm.frames + 1 ≤ R.frames) (hl : W + (maxL + 11) + rm.locals ≤ R.locals) (hws : ∀ x ∈ ws', (x ∈ ws ∨ h0.size ≤ x) ∧ x ∈ sf)
    (hs : st = argsL.reverse ++ .ref a :: rest) (hW : (rest.map fun v => v.category).sum ≤ W) (hsz : Ls.size = ml) (hk : k + rm.cells ≤ R.cells) (hn : n + rm.slots ≤ R.slots) (hp : pc + 3 = pc')
    (G : ∀ w h', Q' w h' → Keep h h' ws' → Go l Z n0 EL mn bytes ml ret R h0 ws fr Q K sf h' (k + rm.cells) (n + rm.slots) pc' Ls rest) : Go l Z n0 EL mn bytes ml ret R h0 ws fr Q K sf h k n pc Ls st :=
  fun ok T locs vm0 k0 Xs => by
  obtain ⟨ho, hKp⟩ := old_at ok Xs
  have ok' := ok
  obtain ⟨X, e, a3, a4, a5, hZ0, hown0, a8, a9⟩ := Xs
  obtain ⟨hx, hb, hml, -, hnm, -, -, -, -, ho0, hn1, a1, hEL⟩ := ok
  have hZ : Z.Warmed39 ((ks K).setVm vm0).vm := hZ0
  have hown : ((ks K).setVm vm0).vm.findClass mn.cls = some (km K).cls := hown0
  have B := backOfX (R := R) (p := kp K) (e := ke K) (s := ks K) (args := ka K) (below := kb K) (len := 3) (W := W) (C' ho (fun x hx => (hws x hx).1.elim (hn1 x) fun q => Nat.le_trans (ho0.1 ▸ ho0.2.1) q) ⟨a1, hEL⟩) hZ0 wc wz hf hl hEL a8.1 (fun x hx => a9 x (hws x hx).2)
  subst hb hp
  obtain ⟨v, vm₁, ⟨T', L', c', s''⟩, -, X', hS, hgr, ⟨Lc, ⟨⟨w, rfl, q5, q6, q7⟩, q8⟩, e1, e2, e3, q4⟩, S⟩ := X.specialBackS hx (y := y) hy1 hown (mvT hZ wl) (mvT hZ wst) (mvT hZ wc) hy B (g := mkF (km K) pc Ls st) rfl (hsz.trans hml.symm) (Steps.refl _) (a := a) (argsL := argsL) (rest := rest) hlen hs (by show 2 * 0 + _ ≤ _; omega) hd (fun _ _ => ⟨rfl, e, hk, hn⟩)
  dsimp only [Pt.U, Pt.locs, Pt.cells, Pt.slots] at X' e1 e2 e3 S hS hgr q4 q5 q6 q7
  subst e1 e2 e3
  have nw : Nw h0 ws Lc := fun x hx => (q8 x hx).elim (fun q => (hws _ q).1) fun q => Or.inr (Nat.le_trans hKp.1 q)
  obtain ⟨s₂, u, L2, h1, r⟩ := G w _ q5 q6 ok' T' _ T'.vm T'.heap.size ⟨X', rfl, a3.app nw, a4.trans hS (Nat.le_trans (by rw [← e] at a5; exact a5) hgr), Nat.le_refl _, State.Warmed39.trans hZ hS.1, (hS.1.alike.findClass _ _).trans hown, a8.trans q4, fun x hx => ⟨Nat.lt_of_lt_of_le (a9 x hx).1 q6.1, q4.safe (a9 x hx).1 (a9 x hx).2⟩⟩
  exact ⟨s₂, u, L2, S.trans h1, r⟩
theorem g_virt {idx W maxL : Nat} {y : MethodName} {bytes' : ByteArray} {t : FieldType} {a : Addr} {z : MethodName} {C : String} {argsL rest : List Value} {rm : Room} {ws' : List Addr} {fr' : Bool} {Q' : Value → Heap → Prop} (hd : decode bytes pc = .ok (.invokevirtual idx, 3)) (wl : (Jvm.Cond.methodLink mn.cls idx y).before a0 Z = true) (wd : (Jvm.Cond.declares y).before a0 Z = true) (hnf : ∀ s : State, Z.Warmed39 s.vm → NotFace s y) (wsel : (Jvm.Cond.selects C y z).before a0 Z = true) (wst : (Jvm.Cond.instanceMethod z).before a0 Z = true) (hy : y.cls ≠ "java/lang/invoke/MethodHandle" ∧ y.cls ≠ "java/lang/invoke/VarHandle") (hlen : ∀ sig, parseMethodDescriptor y.desc = some sig → argsL.length = sig.parameters.length) (E : Exa Z h a C)
    (C' : Con l Z n0 EL z bytes' maxL (some t) [] rm (.ref a :: argsL).toArray h ws' fr' Q') (wc : (Jvm.Cond.code z bytes' maxL (some t)).before a0 Z = true) (wz : (Jvm.Cond.initialized z.cls).before a0 Z = true) (hf : rm.frames + 1 ≤ R.frames) (hl : W + (maxL + 11) + rm.locals ≤ R.locals) (hws : ∀ x ∈ ws', (x ∈ ws ∨ h0.size ≤ x) ∧ x ∈ sf)
    (hs : st = argsL.reverse ++ .ref a :: rest) (hW : (rest.map fun v => v.category).sum ≤ W) (hsz : Ls.size = ml) (hk : k + rm.cells ≤ R.cells) (hn : n + rm.slots ≤ R.slots) (hp : pc + 3 = pc')
    (G : ∀ w h', Q' w h' → Keep h h' ws' → Go l Z n0 EL mn bytes ml ret R h0 ws fr Q K (frs fr' w ++ sf) h' (k + rm.cells) (n + rm.slots) pc' Ls (w :: rest)) : Go l Z n0 EL mn bytes ml ret R h0 ws fr Q K sf h k n pc Ls st :=
  fun ok T locs vm0 k0 Xs => by
  obtain ⟨ho, hKp⟩ := old_at ok Xs
  have ok' := ok
  obtain ⟨X, e, a3, a4, a5, hZ0, hown0, a8, a9⟩ := Xs
  obtain ⟨hx, hb, hml, -, hnm, -, -, -, -, ho0, hn1, a1, hEL⟩ := ok
  have hZ : Z.Warmed39 ((ks K).setVm vm0).vm := hZ0
  have hown : ((ks K).setVm vm0).vm.findClass mn.cls = some (km K).cls := hown0
  have B := backOfX (R := R) (p := kp K) (e := ke K) (s := ks K) (args := ka K) (below := kb K) (len := 3) (W := W) (C' ho (fun x hx => (hws x hx).1.elim (hn1 x) fun q => Nat.le_trans (ho0.1 ▸ ho0.2.1) q) ⟨a1, hEL⟩) hZ0 wc wz hf hl hEL a8.1 (fun x hx => a9 x (hws x hx).2)
  subst hb hp
  obtain ⟨cq, kq, q1, q2, q3⟩ := isOf hZ e E
  obtain ⟨v, vm₁, ⟨T', L', c', s''⟩, -, X', hS, hgr, ⟨Lc, ⟨⟨w, rfl, q5, q6, q7⟩, q8⟩, e1, e2, e3, q4⟩, S⟩ := X.virtualBackS hx (y := y) (z := z) hown (mvT hZ wl) (mvT hZ wd) (hnf _ hZ) (mvT hZ wsel) (mvT hZ wst) hy B q1 q3 (g := mkF (km K) pc Ls st) rfl (hsz.trans hml.symm) (Steps.refl _) (argsL := argsL) (rest := rest) hlen hs (by show 2 * 0 + _ ≤ _; omega) hd (fun _ _ => ⟨rfl, e, hk, hn⟩)
  dsimp only [Pt.U, Pt.locs, Pt.cells, Pt.slots] at X' e1 e2 e3 S hS hgr q4 q5 q6 q7
  subst e1 e2 e3
  have nw : Nw h0 ws Lc := fun x hx => (q8 x hx).elim (fun q => (hws _ q).1) fun q => Or.inr (Nat.le_trans hKp.1 q)
  obtain ⟨s₂, u, L2, h1, r⟩ := G w _ q5 q6 ok' T' _ T'.vm T'.heap.size ⟨X', rfl, a3.app nw, a4.trans hS (Nat.le_trans (by rw [← e] at a5; exact a5) hgr), Nat.le_refl _, State.Warmed39.trans hZ hS.1, (hS.1.alike.findClass _ _).trans hown, a8.trans q4, frs_safe q7 fun x hx => ⟨Nat.lt_of_lt_of_le (a9 x hx).1 q6.1, q4.safe (a9 x hx).1 (a9 x hx).2⟩⟩
  exact ⟨s₂, u, L2, S.trans h1, r⟩
theorem g_virtN {idx W maxL : Nat} {y : MethodName} {bytes' : ByteArray} {a : Addr} {z : MethodName} {C : String} {argsL rest : List Value} {rm : Room} {ws' : List Addr} {fr' : Bool} {Q' : Value → Heap → Prop} (hd : decode bytes pc = .ok (.invokevirtual idx, 3)) (wl : (Jvm.Cond.methodLink mn.cls idx y).before a0 Z = true) (wd : (Jvm.Cond.declares y).before a0 Z = true) (hnf : ∀ s : State, Z.Warmed39 s.vm → NotFace s y) (wsel : (Jvm.Cond.selects C y z).before a0 Z = true) (wst : (Jvm.Cond.instanceMethod z).before a0 Z = true) (hy : y.cls ≠ "java/lang/invoke/MethodHandle" ∧ y.cls ≠ "java/lang/invoke/VarHandle") (hlen : ∀ sig, parseMethodDescriptor y.desc = some sig → argsL.length = sig.parameters.length) (E : Exa Z h a C)
    (C' : Con l Z n0 EL z bytes' maxL none [] rm (.ref a :: argsL).toArray h ws' fr' Q') (wc : (Jvm.Cond.code z bytes' maxL none).before a0 Z = true) (wz : (Jvm.Cond.initialized z.cls).before a0 Z = true) (hf : rm.frames + 1 ≤ R.frames) (hl : W + (maxL + 11) + rm.locals ≤ R.locals) (hws : ∀ x ∈ ws', (x ∈ ws ∨ h0.size ≤ x) ∧ x ∈ sf)
    (hs : st = argsL.reverse ++ .ref a :: rest) (hW : (rest.map fun v => v.category).sum ≤ W) (hsz : Ls.size = ml) (hk : k + rm.cells ≤ R.cells) (hn : n + rm.slots ≤ R.slots) (hp : pc + 3 = pc')
    (G : ∀ w h', Q' w h' → Keep h h' ws' → Go l Z n0 EL mn bytes ml ret R h0 ws fr Q K sf h' (k + rm.cells) (n + rm.slots) pc' Ls rest) : Go l Z n0 EL mn bytes ml ret R h0 ws fr Q K sf h k n pc Ls st :=
  fun ok T locs vm0 k0 Xs => by
  obtain ⟨ho, hKp⟩ := old_at ok Xs
  have ok' := ok
  obtain ⟨X, e, a3, a4, a5, hZ0, hown0, a8, a9⟩ := Xs
  obtain ⟨hx, hb, hml, -, hnm, -, -, -, -, ho0, hn1, a1, hEL⟩ := ok
  have hZ : Z.Warmed39 ((ks K).setVm vm0).vm := hZ0
  have hown : ((ks K).setVm vm0).vm.findClass mn.cls = some (km K).cls := hown0
  have B := backOfX (R := R) (p := kp K) (e := ke K) (s := ks K) (args := ka K) (below := kb K) (len := 3) (W := W) (C' ho (fun x hx => (hws x hx).1.elim (hn1 x) fun q => Nat.le_trans (ho0.1 ▸ ho0.2.1) q) ⟨a1, hEL⟩) hZ0 wc wz hf hl hEL a8.1 (fun x hx => a9 x (hws x hx).2)
  subst hb hp
  obtain ⟨cq, kq, q1, q2, q3⟩ := isOf hZ e E
  obtain ⟨v, vm₁, ⟨T', L', c', s''⟩, -, X', hS, hgr, ⟨Lc, ⟨⟨w, rfl, q5, q6, q7⟩, q8⟩, e1, e2, e3, q4⟩, S⟩ := X.virtualBackS hx (y := y) (z := z) hown (mvT hZ wl) (mvT hZ wd) (hnf _ hZ) (mvT hZ wsel) (mvT hZ wst) hy B q1 q3 (g := mkF (km K) pc Ls st) rfl (hsz.trans hml.symm) (Steps.refl _) (argsL := argsL) (rest := rest) hlen hs (by show 2 * 0 + _ ≤ _; omega) hd (fun _ _ => ⟨rfl, e, hk, hn⟩)
  dsimp only [Pt.U, Pt.locs, Pt.cells, Pt.slots] at X' e1 e2 e3 S hS hgr q4 q5 q6 q7
  subst e1 e2 e3
  have nw : Nw h0 ws Lc := fun x hx => (q8 x hx).elim (fun q => (hws _ q).1) fun q => Or.inr (Nat.le_trans hKp.1 q)
  obtain ⟨s₂, u, L2, h1, r⟩ := G w _ q5 q6 ok' T' _ T'.vm T'.heap.size ⟨X', rfl, a3.app nw, a4.trans hS (Nat.le_trans (by rw [← e] at a5; exact a5) hgr), Nat.le_refl _, State.Warmed39.trans hZ hS.1, (hS.1.alike.findClass _ _).trans hown, a8.trans q4, fun x hx => ⟨Nat.lt_of_lt_of_le (a9 x hx).1 q6.1, q4.safe (a9 x hx).1 (a9 x hx).2⟩⟩
  exact ⟨s₂, u, L2, S.trans h1, r⟩
theorem bytes_lit {text : String} : text.toList.map (fun c => Value.int (Jvm.Lit.byteI c.toNat.toUInt16)) = (text.toList.map fun c => Jvm.Lit.byteI c.toNat.toUInt16).map Value.int := by rw [List.map_map]; rfl
/-- ldc of a constant of EL: its text is read -/
theorem g_ldcC {idx m : Nat} {text : String} (hd : decode bytes pc = .ok (.ldc idx, 2)) (w : (Jvm.Cond.stringLink mn.cls idx text).before a0 Z = true) (wS : ∀ a ∈ Bundle.stringAtoms, a.before a0 Z = true) (hmem : (mn.cls, idx) ∈ EL) (ht : ∀ c ∈ text.toList, c.toNat < 256) (hl31 : text.toList.length < 2 ^ 31) (hm : 4 * text.toList.length ≤ m) (hbig : m ≤ 536870912) (hk : k + 2 ≤ R.cells) (hn : n + (m + 4) ≤ R.slots) (hp : pc + 2 = pc')
    (G : ∀ a b h', Keep h h' [] → Exa Z h' a "java/lang/String" → Fld Z h' a "java/lang/String" "coder" "B" (.int 0) → Fld Z h' a "java/lang/String" "value" "[B" (.ref b) → Ia Z h' b .byte (text.toList.map fun c => Jvm.Lit.byteI c.toNat.toUInt16) → (∀ x ∈ sf, x ≠ a ∧ x ≠ b) → Go l Z n0 EL mn bytes ml ret R h0 ws fr Q K sf h' (k + 2) (n + (m + 4)) pc' Ls (.ref a :: st)) : Go l Z n0 EL mn bytes ml ret R h0 ws fr Q K sf h k n pc Ls st := fun ok T locs vm0 k0 X => by
  have ok' := ok
  obtain ⟨hx, hb, hml, -, hnm, -, -, -, -, -, -, a1, hEL⟩ := ok
  obtain ⟨X, e, a3, a4, a5, hZ, hown, a8, a9⟩ := X
  subst hb hp
  obtain ⟨a, T', h', k1, b, kk, X', e', E, hS, hk1, hZ', hown', E1, F1, F2, V, -, -, hC, -, hne, S⟩ := ldcCH X hx hZ hown w wS e a4 a5 hEL hmem a8.1 (z := Int32.ofNat text.toList.length) ⟨ht, bytes_lit⟩ (by rw [Int32.lt_iff_toInt_lt, Int32.toInt_ofNat_of_lt hl31]; have : (0 : Int32).toInt = 0 := rfl; omega) (by rw [Int32.toNatClampNeg, Int32.toInt_ofNat_of_lt hl31]; simp) (g := mkF (km K) pc Ls st) rfl hd hm hbig hk hn
  have V' := ia_of V rfl (by rw [Int32.toNatClampNeg, Int32.toInt_ofNat_of_lt hl31]; simp)
  have sf' : ∀ x ∈ sf, x < h'.size ∧ Safe Z EL T'.vm h' x := fun x hx => ⟨Nat.lt_of_lt_of_le (a9 x hx).1 E.1, hC.safe (a9 x hx).1 (a9 x hx).2⟩
  obtain ⟨s₂, u, L2, h1, r⟩ := G a b h' ((Keep.refl _ _).ext E) E1 F1 F2 V' (fun x hx => hne x (sf' x hx).2) ok' T' _ T'.vm k1 ⟨X', e', a3, hS, hk1, hZ', hown', a8.trans hC, sf'⟩
  exact ⟨s₂, u, L2, S _ h1, r⟩
/-- ldc of any constant, opaque -/
theorem g_ldcO {idx m : Nat} {text : String} (hd : decode bytes pc = .ok (.ldc idx, 2)) (w : (Jvm.Cond.stringLink mn.cls idx text).before a0 Z = true) (wS : ∀ a ∈ Bundle.stringAtoms, a.before a0 Z = true) (hm : 4 * text.toList.length ≤ m) (hbig : m ≤ 536870912) (hk : k + 2 ≤ R.cells) (hn : n + (m + 4) ≤ R.slots) (hp : pc + 2 = pc')
    (G : ∀ a h', Keep h h' [] → Go l Z n0 EL mn bytes ml ret R h0 ws fr Q K sf h' (k + 2) (n + (m + 4)) pc' Ls (.ref a :: st)) : Go l Z n0 EL mn bytes ml ret R h0 ws fr Q K sf h k n pc Ls st := fun ok T locs vm0 k0 X => by
  have ok' := ok
  obtain ⟨hx, hb, hml, -, hnm, -, -, -, -, -, -, a1, hEL⟩ := ok
  obtain ⟨X, e, a3, a4, a5, hZ, hown, a8, a9⟩ := X
  subst hb hp
  obtain ⟨a, T', h', k1, X', e', E, hS, hk1, hZ', hown', hC, -, S⟩ := ldcOH X hx hZ hown w wS e a4 a5 hEL a8.1 (g := mkF (km K) pc Ls st) rfl hd hm hbig hk hn
  obtain ⟨s₂, u, L2, h1, r⟩ := G a h' ((Keep.refl _ _).ext E) ok' T' _ T'.vm k1 ⟨X', e', a3, hS, hk1, hZ', hown', a8.trans hC, fun x hx => ⟨Nat.lt_of_lt_of_le (a9 x hx).1 E.1, hC.safe (a9 x hx).1 (a9 x hx).2⟩⟩
  exact ⟨s₂, u, L2, S _ h1, r⟩
end Rules
end Jvm.Pilot.@@N@@
/- laws to paste: Road.backV (cut by pick.py; bodies as the Statement names them) -/
namespace Jvm.Pilot.@@N@@
namespace StrChars
open Jvm Sem ClassFile Op Lib Jvm.Stand Jvm.Free.XT Jvm.Free.ALB Jvm.Free.JM Jvm.Free
open Jvm.Lib.Cold (StaticIs)
/-- a char array whose places are chars -/
def Ch (a : Addr) (A : Cell) (U : State) : Prop := Arr .char a A U ∧ Typed .char A
theorem Ch.mv {a : Addr} {A : Cell} {U U' : State} (h : Ch a A U) (hal : U.vm.Alike U'.vm) (hh : U'.heap = U.heap) : Ch a A U' := ⟨h.1.mv hal hh, h.2⟩
theorem Ch.keep {a : Addr} {A : Cell} {U U' : State} (h : Ch a A U) (hal : U.vm.Alike U'.vm) (hk : U'.heap[a]? = some A) : Ch a A U' := ⟨h.1.keep hal hk, h.2⟩
/-- what place i of a char[]'s cell holds -/
def cv (A : Cell) (i : Nat) : Int32 := match A.slots[i]? with | some (.int x) => x | _ => 0
theorem Ch.get {a : Addr} {A : Cell} {U : State} (h : Ch a A U) {i : Nat} (hi : i < A.slots.size) : A.slots[i]? = some (.int (cv A i)) := by
  have e := Array.getElem?_eq_getElem hi
  have f := h.2 i _ e
  unfold cv; rw [e]
  generalize A.slots[i] = v at f
  cases v <;> simp [fits] at f ⊢
/-- the byte that i2b leaves of a char -/
def lo8 (x : Int32) : Int32 := x.toInt8.toInt32
theorem fits_lo8 (y : Int32) : fits .byte (.int (lo8 y)) = true := by
  have h1 := y.toInt8.le_toInt
  have h2 := y.toInt8.toInt_lt
  simp only [lo8, fits, Bool.and_eq_true, decide_eq_true_eq, Int32.le_iff_toInt_le, Int8.toInt_toInt32, show (-128 : Int32).toInt = -128 from by decide, show (127 : Int32).toInt = 127 from by decide]
  omega
/-- A' is A but that each place j of lo .. hi - 1 holds f j -/
def Laid (A A' : Cell) (lo hi : Nat) (f : Nat → Value) : Prop := A'.cls = A.cls ∧ A'.vm = A.vm ∧ A'.slots.size = A.slots.size ∧ ∀ i, A'.slots[i]? = if lo ≤ i ∧ i < hi then some (f i) else A.slots[i]?
theorem Laid.zero (A : Cell) (lo : Nat) (f : Nat → Value) : Laid A A lo (lo + 0) f := ⟨rfl, rfl, rfl, fun i => by rw [if_neg (by omega)]⟩
theorem Laid.step {A Ak : Cell} {lo k : Nat} {f : Nat → Value} {v : Value} (h : Laid A Ak lo k f) (hlo : lo ≤ k) (hk : k < Ak.slots.size) (hv : v = f k) : Laid A (Ak.setSlot k v) lo (k + 1) f := by
  refine ⟨h.1, h.2.1, by simpa [Cell.setSlot] using h.2.2.1, fun i => ?_⟩
  by_cases e : k = i
  · subst e; rw [Cell.slots_setSlot_self v hk, if_pos (by omega), hv]
  · rw [Cell.slots_setSlot_ne v e, h.2.2.2 i]
    by_cases q : lo ≤ i ∧ i < k
    · rw [if_pos q, if_pos (by omega)]
    · rw [if_neg q, if_neg (by omega)]
def U16 : String := "java/lang/StringUTF16"
namespace Cmp5
def yN : MethodName := ⟨"java/lang/StringUTF16", "compress", "([CI[BII)I"⟩
abbrev yB : ByteArray := jdk_52_method_21_code
theorem d0 : decode yB 0 = .ok (.iconst 0, 1) := by decide +kernel
theorem d1 : decode yB 1 = .ok (.istore 5, 2) := by decide +kernel
theorem d3 : decode yB 3 = .ok (.iload 5, 2) := by decide +kernel
theorem d5 : decode yB 5 = .ok (.iload 4, 2) := by decide +kernel
theorem d7 : decode yB 7 = .ok (.if_icmp (.ge) 37, 3) := by decide +kernel
theorem d10 : decode yB 10 = .ok (.aload_n 0, 1) := by decide +kernel
theorem d11 : decode yB 11 = .ok (.iload_n 1, 1) := by decide +kernel
theorem d12 : decode yB 12 = .ok (.caload, 1) := by decide +kernel
theorem d13 : decode yB 13 = .ok (.istore 6, 2) := by decide +kernel
theorem d15 : decode yB 15 = .ok (.iload 6, 2) := by decide +kernel
theorem d17 : decode yB 17 = .ok (.sipush 255, 3) := by decide +kernel
theorem d20 : decode yB 20 = .ok (.if_icmp (.le) 6, 3) := by decide +kernel
theorem d26 : decode yB 26 = .ok (.aload_n 2, 1) := by decide +kernel
theorem d27 : decode yB 27 = .ok (.iload_n 3, 1) := by decide +kernel
theorem d28 : decode yB 28 = .ok (.iload 6, 2) := by decide +kernel
theorem d30 : decode yB 30 = .ok (.i2b, 1) := by decide +kernel
theorem d31 : decode yB 31 = .ok (.bastore, 1) := by decide +kernel
theorem d32 : decode yB 32 = .ok (.iinc 1 1, 3) := by decide +kernel
theorem d35 : decode yB 35 = .ok (.iinc 3 1, 3) := by decide +kernel
theorem d38 : decode yB 38 = .ok (.iinc 5 1, 3) := by decide +kernel
theorem d41 : decode yB 41 = .ok (.goto (-38), 3) := by decide +kernel
theorem d44 : decode yB 44 = .ok (.iload 4, 2) := by decide +kernel
theorem d46 : decode yB 46 = .ok (.ireturn, 1) := by decide +kernel
def site : List Cond := []
def tab : Cond := tabOf yN yB 7 (some .int) site
def P (b : Addr) (A : Cell) (d : Addr) (B : Cell) (o q len : Nat) (args : Array Value) (s : State) : Prop := args = #[.ref b, .int (Int32.ofNat o), .ref d, .int (Int32.ofNat q), .int (Int32.ofNat len)] ∧ Ch b A s ∧ Arr .byte d B s ∧ b ≠ d ∧ o + len ≤ A.slots.size ∧ q + len ≤ B.slots.size ∧ ∀ i, i < len → ¬ 255 < cv A (o + i)
def E (b : Addr) (A : Cell) (d : Addr) (B : Cell) (o q len : Nat) (r : Option Value) (s u : State) : Prop := r = some (.int (Int32.ofNat len)) ∧ ∃ B', Put d B' s u ∧ Laid B B' q (q + len) (fun j => Value.int (lo8 (cv A (o + (j - q)))))
/-- no char of the range above 255: len; the places written hold each char's low byte -/
theorem law (l : Launch) (b : Addr) (A : Cell) (d : Addr) (B : Cell) (o q len : Nat) : Law l yN 5 5 0 0 yB 7 (some .int) site (P b A d B o q len) (E b A d B o q len) (copyLocs d q len) 0 0 := by
  refine Law.of_walk (plainFor_of_name (by decide +kernel)) (by decide +kernel) (by decide +kernel) (by decide) (fun _ _ h => by rw [h.1]; rfl) (fun _ U U' hal hh h => ⟨h.1, h.2.1.mv hal hh, h.2.2.1.mv hal hh, h.2.2.2⟩) (fun r U U' V V' h1 hal h2 h => ⟨h.1, h.2.elim fun B' q => ⟨B', q.1.mv h1 h2, q.2⟩⟩) ?_
  intro p e s m args below meth c s₁ X0 hexec hbytes hml hret hlk hnm hown hh0 W hP
  obtain ⟨rfl, hA, hB, hne, l1, l2, hp⟩ := hP
  have c1 : Steps p.tables e below (s₁.setTop (entryFrame m #[.ref b, .int (Int32.ofNat o), .ref d, .int (Int32.ofNat q), .int (Int32.ofNat len)] 7)) (s₁.setTop (mkF m 0 #[.val (.ref b), .val (.int (Int32.ofNat o)), .val (.ref d), .val (.int (Int32.ofNat q)), .val (.int (Int32.ofNat len)), .unset, .unset] [])) := entry rfl
  have hA0 := hA.1.mv X0.warmed.alike hh0
  have hB0 := hB.mv X0.warmed.alike hh0
  have a31 := hA.1.2.2.2
  have c2 : Steps p.tables e below (s₁.setTop (entryFrame m #[.ref b, .int (Int32.ofNat o), .ref d, .int (Int32.ofNat q), .int (Int32.ofNat len)] 7)) (s₁.setTop (mkF m 3 #[.val (.ref b), .val (.int (Int32.ofNat o)), .val (.ref d), .val (.int (Int32.ofNat q)), .val (.int (Int32.ofNat len)), .val (.int 0), .unset] [])) := c1.trans (by
    refine iconstV X0.here hexec rfl 0 (hb hbytes d0) (by decide) ?_
    refine XS.istore X0.here hexec rfl (hb hbytes d1) rfl rfl ?_
    exact Steps.refl _)
  have loop : ∀ (r i : Nat), i + r = len → ∀ (z : Slot), (z = .unset ∨ ∃ w, z = .val w ∧ w.category = 1) → ∀ (Tl : State) (Bk : Cell), Stand p l e { frames := 0, locals := 0, cells := 0, slots := 0 } s m #[.ref b, .int (Int32.ofNat o), .ref d, .int (Int32.ofNat q), .int (Int32.ofNat len)] below meth c Tl ([] ++ copyLocs d q i) 0 0 → Put d Bk s₁ Tl → Laid B Bk q (q + i) (fun j => Value.int (lo8 (cv A (o + (j - q))))) →
      Steps p.tables e below (s₁.setTop (entryFrame m #[.ref b, .int (Int32.ofNat o), .ref d, .int (Int32.ofNat q), .int (Int32.ofNat len)] 7)) (Tl.setTop (mkF m 3 #[.val (.ref b), .val (.int (Int32.ofNat (o + i))), .val (.ref d), .val (.int (Int32.ofNat (q + i))), .val (.int (Int32.ofNat len)), .val (.int (Int32.ofNat i)), z] [])) → ∃ (T' : State) (B' : Cell) (z' : Slot), Stand p l e { frames := 0, locals := 0, cells := 0, slots := 0 } s m #[.ref b, .int (Int32.ofNat o), .ref d, .int (Int32.ofNat q), .int (Int32.ofNat len)] below meth c T' ([] ++ copyLocs d q len) 0 0 ∧ Put d B' s₁ T' ∧ Laid B B' q (q + len) (fun j => Value.int (lo8 (cv A (o + (j - q))))) ∧
      Steps p.tables e below (s₁.setTop (entryFrame m #[.ref b, .int (Int32.ofNat o), .ref d, .int (Int32.ofNat q), .int (Int32.ofNat len)] 7)) (T'.setTop (mkF m 3 #[.val (.ref b), .val (.int (Int32.ofNat (o + len))), .val (.ref d), .val (.int (Int32.ofNat (q + len))), .val (.int (Int32.ofNat len)), .val (.int (Int32.ofNat len)), z'] [])) := by
    intro r
    induction r with
    | zero =>
      intro i hi z hz Tl Bk Xl pl fl cl
      have hil : i = len := by omega
      rw [hil] at Xl fl cl
      exact ⟨Tl, Bk, z, Xl, pl, fl, cl⟩
    | succ r ih =>
      intro i hi z hz Tl Bk Xl pl fl cl
      have all := X0.warmed.alike.symm.trans Xl.warmed.alike
      have hAl := hA0.keep all (pl.other hne hA0.1)
      have hBk := hB0.like all pl.1 fl.1 fl.2.1 fl.2.2.1
      have hlt : q + i < Bk.slots.size := by rw [fl.2.2.1]; omega
      have c3 : Steps p.tables e below (s₁.setTop (entryFrame m #[.ref b, .int (Int32.ofNat o), .ref d, .int (Int32.ofNat q), .int (Int32.ofNat len)] 7)) (Tl.setTop (mkF m 12 #[.val (.ref b), .val (.int (Int32.ofNat (o + i))), .val (.ref d), .val (.int (Int32.ofNat (q + i))), .val (.int (Int32.ofNat len)), .val (.int (Int32.ofNat i)), z] [.int (Int32.ofNat (o + i)), .ref b])) := cl.trans (by
        refine XS.iload Xl.here hexec rfl (hb hbytes d3) rfl ?_
        refine XS.iload Xl.here hexec rfl (hb hbytes d5) rfl ?_
        refine XS.icmpNo Xl.here hexec rfl (hb hbytes d7) rfl (ii_ge_f (lt32 (by omega) (by omega))) ?_
        refine XS.aloadN Xl.here hexec rfl (hb hbytes d10) rfl rfl ?_
        refine XS.iloadN Xl.here hexec rfl (hb hbytes d11) rfl ?_
        exact Steps.refl _)
      have c4 : Steps p.tables e below (s₁.setTop (entryFrame m #[.ref b, .int (Int32.ofNat o), .ref d, .int (Int32.ofNat q), .int (Int32.ofNat len)] 7)) (Tl.setTop (mkF m 13 #[.val (.ref b), .val (.int (Int32.ofNat (o + i))), .val (.ref d), .val (.int (Int32.ofNat (q + i))), .val (.int (Int32.ofNat len)), .val (.int (Int32.ofNat i)), z] [.int (cv A (o + i))])) := c3.trans (by
        refine Xl.aget hexec hAl rfl (hA.get (i := o + i) (by omega)) rfl rfl (hb hbytes d12) ?_
        exact Steps.refl _)
      have c5 : Steps p.tables e below (s₁.setTop (entryFrame m #[.ref b, .int (Int32.ofNat o), .ref d, .int (Int32.ofNat q), .int (Int32.ofNat len)] 7)) (Tl.setTop (mkF m 15 #[.val (.ref b), .val (.int (Int32.ofNat (o + i))), .val (.ref d), .val (.int (Int32.ofNat (q + i))), .val (.int (Int32.ofNat len)), .val (.int (Int32.ofNat i)), .val (.int (cv A (o + i)))] [])) := c4.trans (by
        refine XS.istoreS Xl.here hexec rfl (hb hbytes d13) rfl rfl hz ?_
        exact Steps.refl _)
      have c6 : Steps p.tables e below (s₁.setTop (entryFrame m #[.ref b, .int (Int32.ofNat o), .ref d, .int (Int32.ofNat q), .int (Int32.ofNat len)] 7)) (Tl.setTop (mkF m 31 #[.val (.ref b), .val (.int (Int32.ofNat (o + i))), .val (.ref d), .val (.int (Int32.ofNat (q + i))), .val (.int (Int32.ofNat len)), .val (.int (Int32.ofNat i)), .val (.int (cv A (o + i)))] [.int (lo8 (cv A (o + i))), .int (Int32.ofNat (q + i)), .ref d])) := c5.trans (by
        refine XS.iload Xl.here hexec rfl (hb hbytes d15) rfl ?_
        refine sipushV Xl.here hexec rfl 255 (hb hbytes d17) (by decide) ?_
        refine XS.icmpYes Xl.here hexec rfl (pc0 := 20) rfl (hb hbytes d20) rfl (ii_le_t (hp i (by omega))) (by decide) rfl ?_
        refine XS.aloadN Xl.here hexec rfl (hb hbytes d26) rfl rfl ?_
        refine XS.iloadN Xl.here hexec rfl (hb hbytes d27) rfl ?_
        refine XS.iload Xl.here hexec rfl (hb hbytes d28) rfl ?_
        refine i2b Xl.here hexec rfl (hb hbytes d30) rfl ?_
        exact Steps.refl _)
      obtain ⟨T7, X7, p7, st7⟩ := Xl.aput hexec hBk rfl hlt rfl (fits_lo8 (cv A (o + i))) (g := (mkF m 31 #[.val (.ref b), .val (.int (Int32.ofNat (o + i))), .val (.ref d), .val (.int (Int32.ofNat (q + i))), .val (.int (Int32.ofNat len)), .val (.int (Int32.ofNat i)), .val (.int (cv A (o + i)))] [.int (lo8 (cv A (o + i))), .int (Int32.ofNat (q + i)), .ref d])) rfl (rest := []) rfl (hb hbytes d31)
      have c8 : Steps p.tables e below (s₁.setTop (entryFrame m #[.ref b, .int (Int32.ofNat o), .ref d, .int (Int32.ofNat q), .int (Int32.ofNat len)] 7)) (T7.setTop (mkF m 32 #[.val (.ref b), .val (.int (Int32.ofNat (o + i))), .val (.ref d), .val (.int (Int32.ofNat (q + i))), .val (.int (Int32.ofNat len)), .val (.int (Int32.ofNat i)), .val (.int (cv A (o + i)))] [])) := c6.trans (st7 _ (Steps.refl _))
      have c9 : Steps p.tables e below (s₁.setTop (entryFrame m #[.ref b, .int (Int32.ofNat o), .ref d, .int (Int32.ofNat q), .int (Int32.ofNat len)] 7)) (T7.setTop (mkF m 3 #[.val (.ref b), .val (.int (Int32.ofNat (o + i) + 1)), .val (.ref d), .val (.int (Int32.ofNat (q + i) + 1)), .val (.int (Int32.ofNat len)), .val (.int (Int32.ofNat i + 1)), .val (.int (cv A (o + i)))] [])) := c8.trans (by
        refine iincV X7.here hexec rfl 1 (hb hbytes d32) (by decide) rfl rfl ?_
        refine iincV X7.here hexec rfl 1 (hb hbytes d35) (by decide) rfl rfl ?_
        refine iincV X7.here hexec rfl 1 (hb hbytes d38) (by decide) rfl rfl ?_
        refine XS.goto X7.here hexec rfl (pc0 := 41) rfl (hb hbytes d41) (by decide) rfl ?_
        exact Steps.refl _)
      have c10 : Steps p.tables e below (s₁.setTop (entryFrame m #[.ref b, .int (Int32.ofNat o), .ref d, .int (Int32.ofNat q), .int (Int32.ofNat len)] 7)) (T7.setTop (mkF m 3 #[.val (.ref b), .val (.int (Int32.ofNat (o + (i + 1)))), .val (.ref d), .val (.int (Int32.ofNat (q + (i + 1)))), .val (.int (Int32.ofNat len)), .val (.int (Int32.ofNat (i + 1))), .val (.int (cv A (o + i)))] [])) := by
        have := c9
        rw [succ32, succ32, succ32] at this
        exact this
      exact ih (i + 1) (by omega) _ (Or.inr ⟨_, rfl, rfl⟩) T7 _ (by rw [copyLocs_step, ← List.append_assoc]; exact X7) (pl.trans p7) (fl.step (by omega) hlt (by simp)) c10
  obtain ⟨T9, B9, z9, X9, p9, f9, g9⟩ := loop len 0 (by omega) .unset (Or.inl rfl) s₁ B (by simpa [copyLocs] using X0) ⟨hB0.1, fun _ _ => rfl, rfl⟩ (Laid.zero _ _ _) c2
  have c11 : Steps p.tables e below (s₁.setTop (entryFrame m #[.ref b, .int (Int32.ofNat o), .ref d, .int (Int32.ofNat q), .int (Int32.ofNat len)] 7)) (T9.setTop (mkF m 46 #[.val (.ref b), .val (.int (Int32.ofNat (o + len))), .val (.ref d), .val (.int (Int32.ofNat (q + len))), .val (.int (Int32.ofNat len)), .val (.int (Int32.ofNat len)), z9] [.int (Int32.ofNat len)])) := g9.trans (by
    refine XS.iload X9.here hexec rfl (hb hbytes d3) rfl ?_
    refine XS.iload X9.here hexec rfl (hb hbytes d5) rfl ?_
    refine XS.icmpYes X9.here hexec rfl (pc0 := 7) rfl (hb hbytes d7) rfl (ii_ge_t (nlt32 (by omega) (Nat.le_refl _))) (by decide) rfl ?_
    refine XS.iload X9.here hexec rfl (hb hbytes d44) rfl ?_
    exact Steps.refl _)
  exact ⟨T9, some (.int (Int32.ofNat len)), _, _, _, X9, by simp, rfl, rfl, (fun h => by cases h), ⟨rfl, B9, p9.from hh0, f9⟩, fun fs hl => c11.trans (X9.ireturnOut hexec hret rfl (Or.inl rfl) (hb hbytes d46) hl)⟩
end Cmp5
namespace Cmp3
def yN : MethodName := ⟨"java/lang/StringUTF16", "compress", "([CII)[B"⟩
abbrev yB : ByteArray := jdk_52_method_16_code
theorem d0 : decode yB 0 = .ok (.iload_n 2, 1) := by decide +kernel
theorem d1 : decode yB 1 = .ok (.newarray .byte, 2) := by decide +kernel
theorem d3 : decode yB 3 = .ok (.astore_n 3, 1) := by decide +kernel
theorem d4 : decode yB 4 = .ok (.aload_n 0, 1) := by decide +kernel
theorem d5 : decode yB 5 = .ok (.iload_n 1, 1) := by decide +kernel
theorem d6 : decode yB 6 = .ok (.aload_n 3, 1) := by decide +kernel
theorem d7 : decode yB 7 = .ok (.iconst 0, 1) := by decide +kernel
theorem d8 : decode yB 8 = .ok (.iload_n 2, 1) := by decide +kernel
theorem d9 : decode yB 9 = .ok (.invokestatic 115, 3) := by decide +kernel
theorem d12 : decode yB 12 = .ok (.istore 4, 2) := by decide +kernel
theorem d14 : decode yB 14 = .ok (.iload 4, 2) := by decide +kernel
theorem d16 : decode yB 16 = .ok (.iload_n 2, 1) := by decide +kernel
theorem d17 : decode yB 17 = .ok (.if_icmp (.eq) 40, 3) := by decide +kernel
theorem d57 : decode yB 57 = .ok (.aload_n 3, 1) := by decide +kernel
theorem d58 : decode yB 58 = .ok (.areturn, 1) := by decide +kernel
def site : List Cond := [.arrayClass .byte, Cmp5.tab] ++ staticW U16 115 Cmp5.yN
def tab : Cond := tabOf yN yB 6 (some (.array .byte)) site
def P (b : Addr) (A : Cell) (o len : Nat) (args : Array Value) (s : State) : Prop := args = #[.ref b, .int (Int32.ofNat o), .int (Int32.ofNat len)] ∧ Ch b A s ∧ o + len ≤ A.slots.size ∧ len ≤ 536870912 ∧ ∀ i, i < len → ¬ 255 < cv A (o + i)
def E (b : Addr) (A : Cell) (o len : Nat) (r : Option Value) (s u : State) : Prop := NewArr .byte "[B" len (fun j => .int (lo8 (cv A (o + j)))) r s u ∧ u.heap.size = s.heap.size + 1
/-- no char of the range above 255: a new byte[] of their low bytes -/
theorem law (l : Launch) (b : Addr) (A : Cell) (o len : Nat) : Law l yN 3 3 1 18 yB 6 (some (.array .byte)) site (P b A o len) (E b A o len) [] 1 len := by
  refine Law.of_walk (plainFor_of_name (by decide +kernel)) (by decide +kernel) (by decide +kernel) (by decide) (fun _ _ h => by rw [h.1]; rfl) (fun _ U U' hal hh h => ⟨h.1, h.2.1.mv hal hh, h.2.2⟩) (fun r U U' V V' h1 hal h2 h => ⟨NewArr.mv r U U' V V' h1 hal h2 h.1, by rw [h1, h2]; exact h.2⟩) ?_
  intro p e s m args below meth c s₁ X0 hexec hbytes hml hret hlk hnm hown hh0 W hP
  obtain ⟨rfl, hA, l1, l2, hp⟩ := hP
  have a31 := hA.1.2.2.2
  have c1 : Steps p.tables e below (s₁.setTop (entryFrame m #[.ref b, .int (Int32.ofNat o), .int (Int32.ofNat len)] 6)) (s₁.setTop (mkF m 0 #[.val (.ref b), .val (.int (Int32.ofNat o)), .val (.int (Int32.ofNat len)), .unset, .unset, .unset] [])) := entry rfl
  have c2 : Steps p.tables e below (s₁.setTop (entryFrame m #[.ref b, .int (Int32.ofNat o), .int (Int32.ofNat len)] 6)) (s₁.setTop (mkF m 1 #[.val (.ref b), .val (.int (Int32.ofNat o)), .val (.int (Int32.ofNat len)), .unset, .unset, .unset] [.int (Int32.ofNat len)])) := c1.trans (by
    refine XS.iloadN X0.here hexec rfl (hb hbytes d0) rfl ?_
    exact Steps.refl _)
  obtain ⟨T3, B3, X3, ba3, bs3, bv3, bh3, bf3, st3⟩ := X0.anew hexec (atype := .byte) (wk W (.arrayClass .byte)) rfl (by show len * 1 ≤ _; omega) (by omega) (g := (mkF m 1 #[.val (.ref b), .val (.int (Int32.ofNat o)), .val (.int (Int32.ofNat len)), .unset, .unset, .unset] [.int (Int32.ofNat len)])) rfl (hb hbytes d1) (rest := []) rfl (Nat.le_refl _) (by show 0 + len ≤ len; omega)
  rw [hh0] at ba3 st3
  have kp3 : XT.Kept s T3 := (XT.Kept.of_eq hh0).push bh3
  have hA3 := hA.keep X3.warmed.alike (kp3 _ _ hA.1.1)
  have hne : b ≠ s.heap.size := hA.1.ne
  have c4 : Steps p.tables e below (s₁.setTop (entryFrame m #[.ref b, .int (Int32.ofNat o), .int (Int32.ofNat len)] 6)) (T3.setTop (mkF m 3 #[.val (.ref b), .val (.int (Int32.ofNat o)), .val (.int (Int32.ofNat len)), .unset, .unset, .unset] [.ref s.heap.size])) := c2.trans (st3 _ (Steps.refl _))
  have c5 : Steps p.tables e below (s₁.setTop (entryFrame m #[.ref b, .int (Int32.ofNat o), .int (Int32.ofNat len)] 6)) (T3.setTop (mkF m 9 #[.val (.ref b), .val (.int (Int32.ofNat o)), .val (.int (Int32.ofNat len)), .val (.ref s.heap.size), .unset, .unset] [.int (Int32.ofNat len), .int 0, .ref s.heap.size, .int (Int32.ofNat o), .ref b])) := c4.trans (by
    refine XS.astoreN X3.here hexec rfl (hb hbytes d3) rfl rfl rfl ?_
    refine XS.aloadN X3.here hexec rfl (hb hbytes d4) rfl rfl ?_
    refine XS.iloadN X3.here hexec rfl (hb hbytes d5) rfl ?_
    refine XS.aloadN X3.here hexec rfl (hb hbytes d6) rfl rfl ?_
    refine iconstV X3.here hexec rfl 0 (hb hbytes d7) (by decide) ?_
    refine XS.iloadN X3.here hexec rfl (hb hbytes d8) rfl ?_
    exact Steps.refl _)
  obtain ⟨v6, T6, X6, E6, g6⟩ := X3.callS hexec (Cmp5.law l b A s.heap.size B3 o 0 len) hown (wks W (staticW U16 115 Cmp5.yN)) (wk W Cmp5.tab) (W := 0) (Nat.le_of_ble_eq_true rfl) (Nat.le_of_ble_eq_true rfl) (Nat.le_refl _) (by show 0 + len + 0 ≤ len; omega) (g := (mkF m 9 #[.val (.ref b), .val (.int (Int32.ofNat o)), .val (.int (Int32.ofNat len)), .val (.ref s.heap.size), .unset, .unset] [.int (Int32.ofNat len), .int (Int32.ofNat 0), .ref s.heap.size, .int (Int32.ofNat o), .ref b])) rfl (by rw [hml]; rfl) c5 (argsL := [.ref b, .int (Int32.ofNat o), .ref s.heap.size, .int (Int32.ofNat 0), .int (Int32.ofNat len)]) (rest := []) rfl rfl (by show 2 * 0 + 0 ≤ _; decide) (hb hbytes d9) (⟨rfl, hA3, ba3, hne, l1, by rw [bs3]; simp, hp⟩)
  obtain ⟨rfl, B6, p6, f6⟩ := E6
  have c7 : Steps p.tables e below (s₁.setTop (entryFrame m #[.ref b, .int (Int32.ofNat o), .int (Int32.ofNat len)] 6)) (T6.setTop (mkF m 12 #[.val (.ref b), .val (.int (Int32.ofNat o)), .val (.int (Int32.ofNat len)), .val (.ref s.heap.size), .unset, .unset] [.int (Int32.ofNat len)])) := g6
  have c8 : Steps p.tables e below (s₁.setTop (entryFrame m #[.ref b, .int (Int32.ofNat o), .int (Int32.ofNat len)] 6)) (T6.setTop (mkF m 58 #[.val (.ref b), .val (.int (Int32.ofNat o)), .val (.int (Int32.ofNat len)), .val (.ref s.heap.size), .val (.int (Int32.ofNat len)), .unset] [.ref s.heap.size])) := c7.trans (by
    refine XS.istore X6.here hexec rfl (hb hbytes d12) rfl rfl ?_
    refine XS.iload X6.here hexec rfl (hb hbytes d14) rfl ?_
    refine XS.iloadN X6.here hexec rfl (hb hbytes d16) rfl ?_
    refine XS.icmpYes X6.here hexec rfl (pc0 := 17) rfl (hb hbytes d17) rfl (ii_eq_t rfl) (by decide) rfl ?_
    refine XS.aloadN X6.here hexec rfl (hb hbytes d57) rfl rfl ?_
    exact Steps.refl _)
  have X8 := X6.wide (L' := []) (cells' := 1) (slots' := len) (fun x hx hlt => by
    simp only [List.nil_append, copyLocs, List.mem_map, List.mem_range] at hx
    obtain ⟨i, -, rfl⟩ := hx
    exact absurd hlt (Nat.lt_irrefl _)) (Nat.le_refl _) (by omega)
  exact ⟨T6, some (.ref s.heap.size), _, _, _, X8, rfl, rfl, rfl, (fun h => by cases h), ⟨⟨rfl, B6, ba3.like (X3.warmed.alike.symm.trans X6.warmed.alike) p6.1 f6.1 f6.2.1 f6.2.2.1, f6.2.1.trans bv3, by rw [X6.warmed.alike.findClass, f6.1]; exact bf3, by rw [f6.2.2.1, bs3]; simp, fun j hj => by rw [f6.2.2.2 j, if_pos (by omega)]; rfl, kp3.put p6 (Nat.le_refl _)⟩, by rw [p6.2.2, bh3, hh0]; simp⟩, fun fs hl => c8.trans (X8.areturnOut hexec rfl hret rfl (hb hbytes d58) hl)⟩
end Cmp3
namespace CodL
def yN : MethodName := ⟨"java/lang/StringUTF16", "coderFromArrayLen", "([BI)B"⟩
abbrev yB : ByteArray := jdk_52_method_15_code
theorem d0 : decode yB 0 = .ok (.iload_n 1, 1) := by decide +kernel
theorem d1 : decode yB 1 = .ok (.aload_n 0, 1) := by decide +kernel
theorem d2 : decode yB 2 = .ok (.arraylength, 1) := by decide +kernel
theorem d3 : decode yB 3 = .ok (.isub, 1) := by decide +kernel
theorem d4 : decode yB 4 = .ok (.bipush 31, 2) := by decide +kernel
theorem d6 : decode yB 6 = .ok (.iushr, 1) := by decide +kernel
theorem d7 : decode yB 7 = .ok (.i2b, 1) := by decide +kernel
theorem d8 : decode yB 8 = .ok (.ireturn, 1) := by decide +kernel
def site : List Cond := []
def tab : Cond := tabOf yN yB 2 (some .byte) site
def P (d : Addr) (B : Cell) (args : Array Value) (s : State) : Prop := args = #[.ref d, .int (Int32.ofNat B.slots.size)] ∧ Arr .byte d B s
def E (r : Option Value) (s u : State) : Prop := XT.PureE (some (.int 0)) r s u
/-- an array as long as the number of chars: LATIN1 -/
theorem law (l : Launch) (d : Addr) (B : Cell) : Law l yN 2 2 0 0 yB 2 (some .byte) site (P d B) E [] 0 0 := by
  refine Law.of_walk (plainFor_of_name (by decide +kernel)) (by decide +kernel) (by decide +kernel) (by decide) (fun _ _ h => by rw [h.1]; rfl) (fun _ U U' hal hh h => ⟨h.1, h.2.mv hal hh⟩) (fun r U U' V V' h1 hal h2 h => XT.PureE.mv r U U' V V' h1 hal h2 h) ?_
  intro p e s m args below meth c s₁ X0 hexec hbytes hml hret hlk hnm hown hh0 W hP
  obtain ⟨rfl, hB⟩ := hP
  have hB0 := hB.mv X0.warmed.alike hh0
  have c1 : Steps p.tables e below (s₁.setTop (entryFrame m #[.ref d, .int (Int32.ofNat B.slots.size)] 2)) (s₁.setTop (mkF m 0 #[.val (.ref d), .val (.int (Int32.ofNat B.slots.size))] [])) := entry rfl
  have c2 : Steps p.tables e below (s₁.setTop (entryFrame m #[.ref d, .int (Int32.ofNat B.slots.size)] 2)) (s₁.setTop (mkF m 2 #[.val (.ref d), .val (.int (Int32.ofNat B.slots.size))] [.ref d, .int (Int32.ofNat B.slots.size)])) := c1.trans (by
    refine XS.iloadN X0.here hexec rfl (hb hbytes d0) rfl ?_
    refine XS.aloadN X0.here hexec rfl (hb hbytes d1) rfl rfl ?_
    exact Steps.refl _)
  have c3 : Steps p.tables e below (s₁.setTop (entryFrame m #[.ref d, .int (Int32.ofNat B.slots.size)] 2)) (s₁.setTop (mkF m 8 #[.val (.ref d), .val (.int (Int32.ofNat B.slots.size))] [.int (lo8 (ushr (Int32.ofNat B.slots.size - Int32.ofNat B.slots.size) 31))])) := c2.trans (by
    refine X0.alen hexec hB0 rfl rfl (hb hbytes d2) ?_
    refine XS.isub X0.here hexec rfl (hb hbytes d3) rfl ?_
    refine bipushV X0.here hexec rfl 31 (hb hbytes d4) (by decide) ?_
    refine iushr X0.here hexec rfl (hb hbytes d6) rfl ?_
    refine i2b X0.here hexec rfl (hb hbytes d7) rfl ?_
    exact Steps.refl _)
  have e0 : lo8 (ushr (Int32.ofNat B.slots.size - Int32.ofNat B.slots.size) 31) = 0 := by rw [Int32.sub_self]; decide
  rw [e0] at c3
  exact ⟨s₁, some (.int 0), _, _, _, X0, rfl, rfl, rfl, (fun h => by cases h), ⟨rfl, hh0⟩, fun fs hl => c3.trans (X0.ireturnOut hexec hret rfl (Or.inr (Or.inr (Or.inl rfl))) (hb hbytes d8) hl)⟩
end CodL
/-- the String at a is Latin-1 over a new byte[] (the heap's one new cell): the low bytes of the len chars of A from o on; every cell but a is kept -/
def Got (a : Addr) (D : Cell) (fV fC : Field) (A : Cell) (o len : Nat) (r : Option Value) (s u : State) : Prop := r = none ∧ ∃ D' V : Cell, Blank "java/lang/String" a D' u ∧ Same D D' [fV.slot, fC.slot] ∧ D'.slots[fV.slot]? = some (.ref s.heap.size) ∧ D'.slots[fC.slot]? = some (.int 0) ∧ Arr .byte s.heap.size V u ∧ V.vm = .none ∧ u.vm.findClass "[B" = some V.cls ∧ V.slots.size = len ∧ (∀ j, j < len → V.slots[j]? = some (.int (lo8 (cv A (o + j))))) ∧ (∀ (y : Addr) (c : Cell), y ≠ a → s.heap[y]? = some c → u.heap[y]? = some c) ∧ u.heap.size = s.heap.size + 1
theorem Got.mv {a : Addr} {D A : Cell} {fV fC : Field} {o len : Nat} : ∀ r (U U' V V' : State), U'.heap = U.heap → V.vm.Alike V'.vm → V'.heap = V.heap → Got a D fV fC A o len r U V → Got a D fV fC A o len r U' V' :=
  fun r U U' V V' h1 hal h2 ⟨e0, D', X, a1, a2, a3, a4, a5, a6, a7, a8, a9, a10, a11⟩ => ⟨e0, D', X, a1.mv hal h2, a2, by rw [h1]; exact a3, a4, by rw [h1]; exact a5.mv hal h2, a6, by rw [hal.findClass]; exact a7, a8, a9, by rw [h1, h2]; exact a10, by rw [h1, h2]; exact a11⟩
namespace New4
def yN : MethodName := ⟨"java/lang/String", "<init>", "([CIILjava/lang/Void;)V"⟩
abbrev yB : ByteArray := jdk_42_method_149_code
theorem d0 : decode yB 0 = .ok (.aload_n 0, 1) := by decide +kernel
theorem d1 : decode yB 1 = .ok (.invokespecial 1, 3) := by decide +kernel
theorem d4 : decode yB 4 = .ok (.iload_n 3, 1) := by decide +kernel
theorem d5 : decode yB 5 = .ok (.ifCond (.ne) 22, 3) := by decide +kernel
theorem d27 : decode yB 27 = .ok (.getstatic 38, 3) := by decide +kernel
theorem d30 : decode yB 30 = .ok (.ifCond (.eq) 28, 3) := by decide +kernel
theorem d33 : decode yB 33 = .ok (.aload_n 1, 1) := by decide +kernel
theorem d34 : decode yB 34 = .ok (.iload_n 2, 1) := by decide +kernel
theorem d35 : decode yB 35 = .ok (.iload_n 3, 1) := by decide +kernel
theorem d36 : decode yB 36 = .ok (.invokestatic 177, 3) := by decide +kernel
theorem d39 : decode yB 39 = .ok (.astore 5, 2) := by decide +kernel
theorem d41 : decode yB 41 = .ok (.aload_n 0, 1) := by decide +kernel
theorem d42 : decode yB 42 = .ok (.aload 5, 2) := by decide +kernel
theorem d44 : decode yB 44 = .ok (.iload_n 3, 1) := by decide +kernel
theorem d45 : decode yB 45 = .ok (.invokestatic 47, 3) := by decide +kernel
theorem d48 : decode yB 48 = .ok (.putfield 15, 3) := by decide +kernel
theorem d51 : decode yB 51 = .ok (.aload_n 0, 1) := by decide +kernel
theorem d52 : decode yB 52 = .ok (.aload 5, 2) := by decide +kernel
theorem d54 : decode yB 54 = .ok (.putfield 9, 3) := by decide +kernel
theorem d57 : decode yB 57 = .ok (.return_, 1) := by decide +kernel
def site : List Cond := [.fieldLink "java/lang/String" 38 "java/lang/String" "COMPACT_STRINGS" "Z", Cmp3.tab, CodL.tab, .laysFinal "java/lang/String" "java/lang/String" "value" "[B", .fieldLink "java/lang/String" 9 "java/lang/String" "value" "[B", .laysFinal "java/lang/String" "java/lang/String" "coder" "B", .fieldLink "java/lang/String" 15 "java/lang/String" "coder" "B"] ++ objW "java/lang/String" 1 ++ staticW "java/lang/String" 177 Cmp3.yN ++ staticW "java/lang/String" 47 CodL.yN
def tab : Cond := tabOf yN yB 6 none site
def P (a : Addr) (D : Cell) (fV fC : Field) (b : Addr) (A : Cell) (z : Int32) (o len : Nat) (args : Array Value) (s : State) : Prop := args = #[.ref a, .ref b, .int (Int32.ofNat o), .int (Int32.ofNat len), .null] ∧ Blank "java/lang/String" a D s ∧ Found "java/lang/String" "value" "[B" fV s ∧ Found "java/lang/String" "coder" "B" fC s ∧ Ch b A s ∧ StaticIs s "java/lang/String" "COMPACT_STRINGS" "Z" (.int z) ∧ ¬ z = 0 ∧ 0 < len ∧ o + len ≤ A.slots.size ∧ len ≤ 536870912 ∧ ∀ i, i < len → ¬ 255 < cv A (o + i)
def E (a : Addr) (D : Cell) (fV fC : Field) (A : Cell) (o len : Nat) (r : Option Value) (s u : State) : Prop := Got a D fV fC A o len r s u
/-- len > 0, no char of the range above 255: a Latin-1 String of their low bytes -/
theorem law (l : Launch) (a : Addr) (D : Cell) (fV fC : Field) (b : Addr) (A : Cell) (z : Int32) (o len : Nat) : Law l yN 5 4 2 35 yB 6 none site (P a D fV fC b A z o len) (E a D fV fC A o len) [⟨a, fC.slot⟩, ⟨a, fV.slot⟩] 1 len := by
  refine Law.of_walk (plainFor_of_name (by decide +kernel)) (by decide +kernel) (by decide +kernel) (by decide) (fun _ _ h => by rw [h.1]; rfl) (fun _ U U' hal hh h => ⟨h.1, h.2.1.mv hal hh, h.2.2.1.al hal, h.2.2.2.1.al hal, h.2.2.2.2.1.mv hal hh, h.2.2.2.2.2.1.there hal hh, h.2.2.2.2.2.2⟩) (fun r U U' V V' h1 hal h2 h => Got.mv r U U' V V' h1 hal h2 h) ?_
  intro p e s m args below meth c s₁ X0 hexec hbytes hml hret hlk hnm hown hh0 W hP
  obtain ⟨rfl, hB, f1, f2, hA, s1, hz, l0, l1, l2, hp⟩ := hP
  have a31 := hA.1.2.2.2
  have c1 : Steps p.tables e below (s₁.setTop (entryFrame m #[.ref a, .ref b, .int (Int32.ofNat o), .int (Int32.ofNat len), .null] 6)) (s₁.setTop (mkF m 0 #[.val (.ref a), .val (.ref b), .val (.int (Int32.ofNat o)), .val (.int (Int32.ofNat len)), .val .null, .unset] [])) := entry rfl
  have c2 : Steps p.tables e below (s₁.setTop (entryFrame m #[.ref a, .ref b, .int (Int32.ofNat o), .int (Int32.ofNat len), .null] 6)) (s₁.setTop (mkF m 1 #[.val (.ref a), .val (.ref b), .val (.int (Int32.ofNat o)), .val (.int (Int32.ofNat len)), .val .null, .unset] [.ref a])) := c1.trans (by
    refine XS.aloadN X0.here hexec rfl (hb hbytes d0) rfl rfl ?_
    exact Steps.refl _)
  obtain ⟨T3, X3, q3, st3⟩ := X0.oinit hexec hown (wks W (objW "java/lang/String" 1)) (g := (mkF m 1 #[.val (.ref a), .val (.ref b), .val (.int (Int32.ofNat o)), .val (.int (Int32.ofNat len)), .val .null, .unset] [.ref a])) rfl (by rw [hml]; rfl) (rest := []) rfl (hb hbytes d1) (W := 0) (by show 2 * 0 + 0 ≤ _; decide) (Nat.le_of_ble_eq_true rfl) (Nat.le_of_ble_eq_true rfl)
  have hh3 := q3.trans hh0
  have c4 : Steps p.tables e below (s₁.setTop (entryFrame m #[.ref a, .ref b, .int (Int32.ofNat o), .int (Int32.ofNat len), .null] 6)) (T3.setTop (mkF m 27 #[.val (.ref a), .val (.ref b), .val (.int (Int32.ofNat o)), .val (.int (Int32.ofNat len)), .val .null, .unset] [])) := (c2.trans (st3 _ (Steps.refl _))).trans (by
    refine XS.iloadN X3.here hexec rfl (hb hbytes d4) rfl ?_
    refine XS.ifYes X3.here hexec rfl (pc0 := 5) rfl (hb hbytes d5) rfl (i0_ne_t (nz32 (by omega) l0)) (by decide) rfl ?_
    exact Steps.refl _)
  obtain ⟨T5, X5, q5, st5⟩ := X3.sget hexec hown (wk W (.fieldLink "java/lang/String" 38 "java/lang/String" "COMPACT_STRINGS" "Z")) s1 (fun _ _ h => by rw [hh3]; exact h) (g := (mkF m 27 #[.val (.ref a), .val (.ref b), .val (.int (Int32.ofNat o)), .val (.int (Int32.ofNat len)), .val .null, .unset] [])) rfl (hb hbytes d27)
  have hh5 := q5.trans hh3
  have c6 : Steps p.tables e below (s₁.setTop (entryFrame m #[.ref a, .ref b, .int (Int32.ofNat o), .int (Int32.ofNat len), .null] 6)) (T5.setTop (mkF m 30 #[.val (.ref a), .val (.ref b), .val (.int (Int32.ofNat o)), .val (.int (Int32.ofNat len)), .val .null, .unset] [.int z])) := c4.trans (st5 _ (Steps.refl _))
  have c7 : Steps p.tables e below (s₁.setTop (entryFrame m #[.ref a, .ref b, .int (Int32.ofNat o), .int (Int32.ofNat len), .null] 6)) (T5.setTop (mkF m 36 #[.val (.ref a), .val (.ref b), .val (.int (Int32.ofNat o)), .val (.int (Int32.ofNat len)), .val .null, .unset] [.int (Int32.ofNat len), .int (Int32.ofNat o), .ref b])) := c6.trans (by
    refine XS.ifNo X5.here hexec rfl (hb hbytes d30) rfl (i0_eq_f hz) ?_
    refine XS.aloadN X5.here hexec rfl (hb hbytes d33) rfl rfl ?_
    refine XS.iloadN X5.here hexec rfl (hb hbytes d34) rfl ?_
    refine XS.iloadN X5.here hexec rfl (hb hbytes d35) rfl ?_
    exact Steps.refl _)
  obtain ⟨v8, T8, X8, E8, g8⟩ := X5.callS hexec (Cmp3.law l b A o len) hown (wks W (staticW "java/lang/String" 177 Cmp3.yN)) (wk W Cmp3.tab) (W := 0) (Nat.le_of_ble_eq_true rfl) (Nat.le_of_ble_eq_true rfl) (Nat.le_refl _) (by show 0 + len ≤ len; omega) (g := (mkF m 36 #[.val (.ref a), .val (.ref b), .val (.int (Int32.ofNat o)), .val (.int (Int32.ofNat len)), .val .null, .unset] [.int (Int32.ofNat len), .int (Int32.ofNat o), .ref b])) rfl (by rw [hml]; rfl) c7 (argsL := [.ref b, .int (Int32.ofNat o), .int (Int32.ofNat len)]) (rest := []) rfl rfl (by show 2 * 0 + 0 ≤ _; decide) (hb hbytes d36) (⟨rfl, hA.mv X5.warmed.alike hh5, l1, l2, hp⟩)
  obtain ⟨e8, z8⟩ := E8
  obtain ⟨rfl, N, n1, n2, n3, n4, n5, n6⟩ := NewArr.mv _ T5 s _ _ hh5.symm (Vm.Alike.refl _) rfl e8
  rw [hh5] at z8
  have hB1 := hB.keep X8.warmed.alike (n6 _ _ hB.1)
  have hne : s.heap.size ≠ a := (Nat.ne_of_lt (Array.getElem?_eq_some_iff.mp hB.1).1).symm
  have c9 : Steps p.tables e below (s₁.setTop (entryFrame m #[.ref a, .ref b, .int (Int32.ofNat o), .int (Int32.ofNat len), .null] 6)) (T8.setTop (mkF m 39 #[.val (.ref a), .val (.ref b), .val (.int (Int32.ofNat o)), .val (.int (Int32.ofNat len)), .val .null, .unset] [.ref s.heap.size])) := g8
  have c10 : Steps p.tables e below (s₁.setTop (entryFrame m #[.ref a, .ref b, .int (Int32.ofNat o), .int (Int32.ofNat len), .null] 6)) (T8.setTop (mkF m 45 #[.val (.ref a), .val (.ref b), .val (.int (Int32.ofNat o)), .val (.int (Int32.ofNat len)), .val .null, .val (.ref s.heap.size)] [.int (Int32.ofNat N.slots.size), .ref s.heap.size, .ref a])) := by
    have hc : Steps p.tables e below (s₁.setTop (entryFrame m #[.ref a, .ref b, .int (Int32.ofNat o), .int (Int32.ofNat len), .null] 6)) (T8.setTop (mkF m 45 #[.val (.ref a), .val (.ref b), .val (.int (Int32.ofNat o)), .val (.int (Int32.ofNat len)), .val .null, .val (.ref s.heap.size)] [.int (Int32.ofNat len), .ref s.heap.size, .ref a])) := c9.trans (by
      refine XS.astore X8.here hexec rfl (hb hbytes d39) rfl rfl rfl ?_
      refine XS.aloadN X8.here hexec rfl (hb hbytes d41) rfl rfl ?_
      refine XS.aload X8.here hexec rfl (hb hbytes d42) rfl rfl ?_
      refine XS.iloadN X8.here hexec rfl (hb hbytes d44) rfl ?_
      exact Steps.refl _)
    rw [n4]; exact hc
  obtain ⟨v11, T11, X11, E11, g11⟩ := X8.callS hexec (CodL.law l s.heap.size N) hown (wks W (staticW "java/lang/String" 47 CodL.yN)) (wk W CodL.tab) (W := 1) (Nat.le_of_ble_eq_true rfl) (Nat.le_of_ble_eq_true rfl) (Nat.le_refl _) (by show 0 + len + 0 ≤ len; omega) (g := (mkF m 45 #[.val (.ref a), .val (.ref b), .val (.int (Int32.ofNat o)), .val (.int (Int32.ofNat len)), .val .null, .val (.ref s.heap.size)] [.int (Int32.ofNat N.slots.size), .ref s.heap.size, .ref a])) rfl (by rw [hml]; rfl) c10 (argsL := [.ref s.heap.size, .int (Int32.ofNat N.slots.size)]) (rest := [.ref a]) rfl rfl (by show 2 * 0 + (1 + 0) ≤ _; decide) (hb hbytes d45) (⟨rfl, n1⟩)
  obtain ⟨rfl, q11⟩ := E11
  have hB11 := hB1.mv (X8.warmed.alike.symm.trans X11.warmed.alike) q11
  have c12 : Steps p.tables e below (s₁.setTop (entryFrame m #[.ref a, .ref b, .int (Int32.ofNat o), .int (Int32.ofNat len), .null] 6)) (T11.setTop (mkF m 48 #[.val (.ref a), .val (.ref b), .val (.int (Int32.ofNat o)), .val (.int (Int32.ofNat len)), .val .null, .val (.ref s.heap.size)] [.int 0, .ref a])) := g11
  obtain ⟨T13, X13, p13, bl13, sl13, st13⟩ := X11.finit hexec hown (wk W (.fieldLink "java/lang/String" 15 "java/lang/String" "coder" "B")) (Or.inr ⟨_, (wk W (.laysFinal "java/lang/String" "java/lang/String" "coder" "B"))⟩) (Or.inl ⟨rfl, hnm⟩) f2 (Or.inl rfl) hB11 (t := .byte) (by decide +kernel) rfl (g := (mkF m 48 #[.val (.ref a), .val (.ref b), .val (.int (Int32.ofNat o)), .val (.int (Int32.ofNat len)), .val .null, .val (.ref s.heap.size)] [.int 0, .ref a])) rfl (rest := []) rfl (hb hbytes d48)
  have c14 : Steps p.tables e below (s₁.setTop (entryFrame m #[.ref a, .ref b, .int (Int32.ofNat o), .int (Int32.ofNat len), .null] 6)) (T13.setTop (mkF m 54 #[.val (.ref a), .val (.ref b), .val (.int (Int32.ofNat o)), .val (.int (Int32.ofNat len)), .val .null, .val (.ref s.heap.size)] [.ref s.heap.size, .ref a])) := (c12.trans (st13 _ (Steps.refl _))).trans (by
    refine XS.aloadN X13.here hexec rfl (hb hbytes d51) rfl rfl ?_
    refine XS.aload X13.here hexec rfl (hb hbytes d52) rfl rfl ?_
    exact Steps.refl _)
  obtain ⟨T15, X15, p15, bl15, sl15, st15⟩ := X13.finit hexec hown (wk W (.fieldLink "java/lang/String" 9 "java/lang/String" "value" "[B")) (Or.inr ⟨_, (wk W (.laysFinal "java/lang/String" "java/lang/String" "value" "[B"))⟩) (Or.inl ⟨rfl, hnm⟩) f1 (Or.inl rfl) bl13 (t := (.array .byte)) (by decide +kernel) rfl (g := (mkF m 54 #[.val (.ref a), .val (.ref b), .val (.int (Int32.ofNat o)), .val (.int (Int32.ofNat len)), .val .null, .val (.ref s.heap.size)] [.ref s.heap.size, .ref a])) rfl (rest := []) rfl (hb hbytes d54)
  have c16 : Steps p.tables e below (s₁.setTop (entryFrame m #[.ref a, .ref b, .int (Int32.ofNat o), .int (Int32.ofNat len), .null] 6)) (T15.setTop (mkF m 57 #[.val (.ref a), .val (.ref b), .val (.int (Int32.ofNat o)), .val (.int (Int32.ofNat len)), .val .null, .val (.ref s.heap.size)] [])) := c14.trans (st15 _ (Steps.refl _))
  have ap := apart (Or.inr ⟨_, (wk W (.laysFinal "java/lang/String" "java/lang/String" "value" "[B"))⟩) (Or.inr ⟨_, (wk W (.laysFinal "java/lang/String" "java/lang/String" "coder" "B"))⟩) f1 f2 (t₁ := .array .byte) (t₂ := .byte) (by decide +kernel) (by decide +kernel) (by decide)
  have al := X8.warmed.alike.symm.trans X15.warmed.alike
  have n7 : T11.heap[s.heap.size]? = some N := by rw [q11]; exact n1.1
  exact ⟨T15, none, _, _, _, X15, by simp, rfl, by omega, (fun _ => rfl), ⟨rfl, _, N, bl15, ((Same.refl D _).set _ (by simp)).set _ (by simp), sl15, (Cell.slots_setSlot_ne _ ap).trans sl13, n1.keep al (p15.other hne (p13.other hne n7)), n2, by rw [al.findClass]; exact n3, n4, n5, fun y c h1 h2 => p15.other h1 (p13.other h1 (by rw [q11]; exact n6 y c h2)), by rw [p15.2.2, p13.2.2, q11]; exact z8⟩, fun fs hl => c16.trans (X15.returnOut hexec hret (hb hbytes d57) hl)⟩
end New4
namespace New1
def yN : MethodName := ⟨"java/lang/String", "<init>", "([C)V"⟩
abbrev yB : ByteArray := jdk_42_method_3_code
theorem d0 : decode yB 0 = .ok (.aload_n 0, 1) := by decide +kernel
theorem d1 : decode yB 1 = .ok (.aload_n 1, 1) := by decide +kernel
theorem d2 : decode yB 2 = .ok (.iconst 0, 1) := by decide +kernel
theorem d3 : decode yB 3 = .ok (.aload_n 1, 1) := by decide +kernel
theorem d4 : decode yB 4 = .ok (.arraylength, 1) := by decide +kernel
theorem d5 : decode yB 5 = .ok (.aconst_null, 1) := by decide +kernel
theorem d6 : decode yB 6 = .ok (.invokespecial 27, 3) := by decide +kernel
theorem d9 : decode yB 9 = .ok (.return_, 1) := by decide +kernel
def site : List Cond := [New4.tab] ++ initW "java/lang/String" 27 New4.yN
def tab : Cond := tabOf yN yB 2 none site
def P (a : Addr) (D : Cell) (fV fC : Field) (b : Addr) (A : Cell) (z : Int32) (args : Array Value) (s : State) : Prop := args = #[.ref a, .ref b] ∧ Blank "java/lang/String" a D s ∧ Found "java/lang/String" "value" "[B" fV s ∧ Found "java/lang/String" "coder" "B" fC s ∧ Ch b A s ∧ StaticIs s "java/lang/String" "COMPACT_STRINGS" "Z" (.int z) ∧ ¬ z = 0 ∧ 0 < A.slots.size ∧ A.slots.size ≤ 536870912 ∧ ∀ i, i < A.slots.size → ¬ 255 < cv A i
def E (a : Addr) (D : Cell) (fV fC : Field) (A : Cell) (r : Option Value) (s u : State) : Prop := Got a D fV fC A 0 A.slots.size r s u
/-- new String(chars), not empty, no char above 255: a Latin-1 String of their low bytes -/
theorem law (l : Launch) (a : Addr) (D : Cell) (fV fC : Field) (b : Addr) (A : Cell) (z : Int32) : Law l yN 2 1 3 52 yB 2 none site (P a D fV fC b A z) (E a D fV fC A) [⟨a, fC.slot⟩, ⟨a, fV.slot⟩] 1 A.slots.size := by
  refine Law.of_walk (plainFor_of_name (by decide +kernel)) (by decide +kernel) (by decide +kernel) (by decide) (fun _ _ h => by rw [h.1]; rfl) (fun _ U U' hal hh h => ⟨h.1, h.2.1.mv hal hh, h.2.2.1.al hal, h.2.2.2.1.al hal, h.2.2.2.2.1.mv hal hh, h.2.2.2.2.2.1.there hal hh, h.2.2.2.2.2.2⟩) (fun r U U' V V' h1 hal h2 h => Got.mv r U U' V V' h1 hal h2 h) ?_
  intro p e s m args below meth c s₁ X0 hexec hbytes hml hret hlk hnm hown hh0 W hP
  obtain ⟨rfl, hB, f1, f2, hA, s1, hz, l0, l2, hp⟩ := hP
  have c1 : Steps p.tables e below (s₁.setTop (entryFrame m #[.ref a, .ref b] 2)) (s₁.setTop (mkF m 0 #[.val (.ref a), .val (.ref b)] [])) := entry rfl
  have c2 : Steps p.tables e below (s₁.setTop (entryFrame m #[.ref a, .ref b] 2)) (s₁.setTop (mkF m 6 #[.val (.ref a), .val (.ref b)] [.null, .int (Int32.ofNat A.slots.size), .int 0, .ref b, .ref a])) := c1.trans (by
    refine XS.aloadN X0.here hexec rfl (hb hbytes d0) rfl rfl ?_
    refine XS.aloadN X0.here hexec rfl (hb hbytes d1) rfl rfl ?_
    refine iconstV X0.here hexec rfl 0 (hb hbytes d2) (by decide) ?_
    refine XS.aloadN X0.here hexec rfl (hb hbytes d3) rfl rfl ?_
    refine X0.alen hexec (hA.1.mv X0.warmed.alike hh0) rfl rfl (hb hbytes d4) ?_
    refine XS.aconstNull X0.here hexec rfl (hb hbytes d5) ?_
    exact Steps.refl _)
  obtain ⟨v3, T3, X3, E3, g3⟩ := X0.callN hexec (New4.law l a D fV fC b A z 0 A.slots.size) rfl hown (wks W (initW "java/lang/String" 27 New4.yN)) (W New4.tab (by simp only [site, List.mem_cons, List.mem_append, true_or, or_true])) (W := 0) (Nat.le_of_ble_eq_true rfl) (Nat.le_of_ble_eq_true rfl) (Nat.le_refl _) (by show 0 + A.slots.size ≤ A.slots.size; omega) (g := (mkF m 6 #[.val (.ref a), .val (.ref b)] [.null, .int (Int32.ofNat A.slots.size), .int (Int32.ofNat 0), .ref b, .ref a])) rfl (by rw [hml]; rfl) c2 (argsL := [.ref b, .int (Int32.ofNat 0), .int (Int32.ofNat A.slots.size), .null]) (rest := []) rfl rfl (by show 2 * 0 + 0 ≤ _; decide) (hb hbytes d6) (⟨rfl, hB.mv X0.warmed.alike hh0, f1.al X0.warmed.alike, f2.al X0.warmed.alike, hA.mv X0.warmed.alike hh0, s1.there X0.warmed.alike hh0, hz, l0, by omega, l2, fun i hi => by rw [Nat.zero_add]; exact hp i hi⟩)
  have e0 := Got.mv _ s₁ s _ _ hh0.symm (Vm.Alike.refl _) rfl E3
  obtain rfl := e0.1
  have c4 : Steps p.tables e below (s₁.setTop (entryFrame m #[.ref a, .ref b] 2)) (T3.setTop (mkF m 9 #[.val (.ref a), .val (.ref b)] [])) := g3
  exact ⟨T3, none, _, _, _, X3, by simp, rfl, by omega, (fun _ => rfl), e0, fun fs hl => c4.trans (X3.returnOut hexec hret (hb hbytes d9) hl)⟩
theorem pays {l : Launch} {R : Room} {p : Program} {e : Env} {below : List Frame} {s : State} {sargs : Array Value} {len W : Nat} (a : Addr) (D : Cell) (fV fC : Field) (b : Addr) (A : Cell) (z : Int32) (htab : tab.before sargs s = true) (hfr : 4 ≤ R.frames) (hlo : W + 65 ≤ R.locals) :
    Back l R p e below s sargs yN len W (fun A₁ a₁ => A₁.cells + 1 ≤ R.cells ∧ A₁.slots + A.slots.size ≤ R.slots ∧ P a D fV fC b A z a₁ A₁.U) (fun A₁ _ v₁ B₁ => E a D fV fC A v₁ A₁.U B₁.U ∧ B₁.locs = A₁.locs ++ [⟨a, fC.slot⟩, ⟨a, fV.slot⟩] ∧ B₁.cells = A₁.cells + 1 ∧ B₁.slots = A₁.slots + A.slots.size) :=
  (law l a D fV fC b A z).pays htab hfr (by omega)
end New1
end StrChars
namespace StrChars.Road
open Jvm Sem ClassFile Op Lib Jvm.Stand Jvm.Free Jvm.Free.XT
open Jvm.Lib.Cold (StaticIs)
abbrev ST : String := "java/lang/String"
/-- every table word that New1's law asks, flat -/
abbrev words : List Jvm.Cond := [.code New1.yN New1.yB 2 none, .initialized ST, .methodLink ST 27 New4.yN, .instanceMethod New4.yN,
  .code New4.yN New4.yB 6 none, .fieldLink ST 38 ST "COMPACT_STRINGS" "Z", .laysFinal ST ST "value" "[B", .fieldLink ST 9 ST "value" "[B", .laysFinal ST ST "coder" "B", .fieldLink ST 15 ST "coder" "B",
  .methodLink ST 1 Lib.objectInit, .instanceMethod Lib.objectInit, .code Lib.objectInit ⟨#[0xb1]⟩ 1 none, .methodLink ST 177 Cmp3.yN, .static Cmp3.yN, .methodLink ST 47 CodL.yN, .static CodL.yN,
  .code Cmp3.yN Cmp3.yB 6 (some (.array .byte)), .initialized U16, .arrayClass .byte, .methodLink U16 115 Cmp5.yN, .static Cmp5.yN, .code Cmp5.yN Cmp5.yB 7 (some .int), .code CodL.yN CodL.yB 2 (some .byte)]
theorem tab_of {a : Array Value} {s : State} (h : ∀ w ∈ words, w.before a s = true) : New1.tab.before a s = true := by
  have h5 : Cmp5.tab.before a s = true := unparts (wk h (.code Cmp5.yN Cmp5.yB 7 (some .int))) (wks h (.initialized Cmp5.yN.cls :: Cmp5.site))
  have hc : CodL.tab.before a s = true := unparts (wk h (.code CodL.yN CodL.yB 2 (some .byte))) (wks h (.initialized CodL.yN.cls :: CodL.site))
  have q5 : ∀ w ∈ Cmp5.tab :: words, w.before a s = true := fun w hw => (List.mem_cons.mp hw).elim (fun e => e ▸ h5) (h w)
  have h3 : Cmp3.tab.before a s = true := unparts (wk q5 (.code Cmp3.yN Cmp3.yB 6 (some (.array .byte)))) (wks q5 (.initialized Cmp3.yN.cls :: Cmp3.site))
  have q3 : ∀ w ∈ Cmp3.tab :: CodL.tab :: words, w.before a s = true := fun w hw => (List.mem_cons.mp hw).elim (fun e => e ▸ h3) fun hw => (List.mem_cons.mp hw).elim (fun e => e ▸ hc) (h w)
  have h4 : New4.tab.before a s = true := unparts (wk q3 (.code New4.yN New4.yB 6 none)) (wks q3 (.initialized New4.yN.cls :: New4.site))
  have q4 : ∀ w ∈ New4.tab :: words, w.before a s = true := fun w hw => (List.mem_cons.mp hw).elim (fun e => e ▸ h4) (h w)
  exact unparts (wk q4 (.code New1.yN New1.yB 2 none)) (wks q4 (.initialized New1.yN.cls :: New1.site))
/-- the words ride from the start Z to the walk's own state -/
theorem moved {Z s : State} {a0 args : Array Value} (hZ : Z.Warmed39 s.vm) (hw : ∀ d ∈ words, d.before a0 Z = true) : ∀ d ∈ words, d.before args s = true := fun d hd => by
  have q := hw d hd
  have t : ∀ d ∈ words, d = .arrayClass .byte ∨ (d.onTables && d.keepsFace) = true := by decide +kernel
  rcases t d hd with rfl | t
  · exact RoadKit.mvA hZ q
  · exact RoadKit.mv hZ q t
/-- WHAT COMES BACK, over the tables of the start Z: h the heap at the call, h' behind it -/
def Q (Z : State) (x : Addr) (A : Cell) (h : Heap) (v : Option Value) (h' : Heap) (L : List Loc) : Prop := v = none ∧ (∀ y ∈ L, y.base = x) ∧ RoadKit.Keep h h' [x] ∧ h'.size = h.size + 1 ∧ RoadKit.Exa Z h' x ST ∧ RoadKit.Fld Z h' x ST "value" "[B" (.ref h.size) ∧ RoadKit.Fld Z h' x ST "coder" "B" (.int 0) ∧
  (∃ V : Cell, RoadKit.Arr Z h' h.size V .byte ∧ V.vm = .none ∧ Z.vm.findClass "[B" = some V.cls ∧ V.slots.size = A.slots.size ∧ ∀ j, j < A.slots.size → V.slots[j]? = some (.int (lo8 (cv A j)))) ∧
  ∀ (O n d : String) (w : Value), RoadKit.Fld Z h x O n d w → RoadKit.slotOf Z O n d ≠ RoadKit.slotOf Z ST "value" "[B" → RoadKit.slotOf Z O n d ≠ RoadKit.slotOf Z ST "coder" "B" → RoadKit.Fld Z h' x O n d w
/-- **new String(chars) AT A CALL, IN THE ROAD'S FORM**: for specialBack behind newO: x the fresh String, b the char[] with the cell A -/
theorem back {p : Program} {l : Launch} {e : Env} {R : Room} {s : State} {args : Array Value} {below : List Frame} {len W : Nat} {Z : State} {a0 : Array Value} {h : Heap} (hZ : Z.Warmed39 s.vm) (hw : ∀ d ∈ words, d.before a0 Z = true) {kI : Nat} (wi : (Jvm.Cond.instantiable ST kI).before a0 Z = true)
    {x b : Addr} {A : Cell} {z : Int32} {v0 c0 : Value} (E : RoadKit.Exa Z h x ST) (V : RoadKit.Fld Z h x ST "value" "[B" v0) (C : RoadKit.Fld Z h x ST "coder" "B" c0) (K : RoadKit.Arr Z h b A .char) (hty : Typed .char A) (S : RoadKit.Sta Z h ST "COMPACT_STRINGS" "Z" (.int z)) (hz : ¬ z = 0)
    (l0 : 0 < A.slots.size) (l2 : A.slots.size ≤ 536870912) (hp : ∀ i, i < A.slots.size → ¬ 255 < cv A i) (hfr : 4 ≤ R.frames) (hlo : W + 65 ≤ R.locals) :
    Back l R p e below s args New1.yN len W (fun P a => a = #[.ref x, .ref b] ∧ P.U.heap = h ∧ P.cells + 1 ≤ R.cells ∧ P.slots + A.slots.size ≤ R.slots)
      (fun P _ v B => ∃ L, Q Z x A h v B.U.heap L ∧ B.locs = P.locs ++ L ∧ B.cells = P.cells + 1 ∧ B.slots = P.slots + A.slots.size) := by
  intro m meth c P g ig mk a X hg hsize hdg hW hn hp'
  obtain ⟨rfl, rfl, r1, r2⟩ := hp'
  have al : Z.vm.Alike P.U.vm := hZ.alike.trans X.warmed.alike
  obtain ⟨D, cfV, kV, iV, fV, hD, gV, stV, knV, obV, asV, slV⟩ := id V
  obtain ⟨D', cfC, kC, iC, fC, hD', gC, stC, -, -, asC, slC⟩ := id C
  cases hD.symm.trans hD'
  obtain ⟨D2, kD, e1, e2, e3, e4, e5⟩ := id E
  cases hD.symm.trans e1
  obtain ⟨c2, k2, i1, i2, i3, -⟩ := Cond.instantiable_spec wi
  cases e2.symm.trans i1
  cases e3.symm.trans i2
  obtain ⟨kU, u1, u2⟩ := al.2.2 _ _ e3
  have hB : Blank ST x D P.U := ⟨hD, ⟨knV, fun q hq => by rw [hq] at obV; cases obV⟩, by rw [al.findClass]; exact e2, kU, u1, by rw [u2]; exact i3, by rw [u2]; exact e5 i3⟩
  have F1 : Found ST "value" "[B" fV P.U := ⟨SBG.found_only al ⟨cfV, kV, iV, gV⟩, stV⟩
  have F2 : Found ST "coder" "B" fC P.U := ⟨SBG.found_only al ⟨cfC, kC, iC, gC⟩, stC⟩
  have hA : Ch b A P.U := ⟨⟨K.1, State.isArrayOf_alike al K.2.1, K.2.2, by omega⟩, hty⟩
  have hS : StaticIs P.U ST "COMPACT_STRINGS" "Z" (.int z) := by
    obtain ⟨cfS, iS, kS, fS, st, cS, t1, t2, t3, t4, t5, t6, t7⟩ := S
    exact StaticIs.there (s := { Z with heap := P.U.heap }) ⟨cfS, iS, kS, fS, st, cS, t1, t2, t3, t4, t5, (fun q => by rw [q] at t6; cases t6), t7⟩ al rfl
  obtain ⟨v, B, X', ⟨⟨hv, E', V', q1, q2, q3, q4, q5, q6, q7, q8, q9, q10, q11⟩, hl, hc, hs⟩, st⟩ := New1.pays x D fV fC b A z (tab_of (moved hZ hw)) hfr hlo m meth c P g ig mk _ X hg hsize hdg hW hn ⟨r1, r2, rfl, hB, F1, F2, hA, hS, hz, l0, l2, hp⟩
  have al' : Z.vm.Alike B.U.vm := hZ.alike.trans X'.warmed.alike
  have hsz : E'.slots.size = D.slots.size := by
    obtain ⟨-, -, -, kB, w1, w2, w3⟩ := q1
    obtain ⟨kB', y1, y2⟩ := al'.2.2 _ _ e3
    rw [q2.2.1] at w1
    cases w1.symm.trans y1
    rw [w3, e5 i3, y2]
  refine ⟨v, B, X', ⟨_, ⟨hv, ?_, ⟨by omega, fun y cy hy hn' => q10 y cy (by simpa using hn') hy, fun y cy hy => ?_⟩, q11, ⟨E', _, q1.1, by rw [q2.2.1]; exact e2, by rw [q2.2.1]; exact e3, by rw [q2.1]; exact obV, fun _ => by rw [hsz]; exact e5 i3⟩,
    ⟨E', cfV, kV, iV, fV, q1.1, gV, stV, by rw [q2.1]; exact knV, by rw [q2.1]; exact obV, by rw [q2.2.1]; exact asV, q3⟩, ⟨E', cfC, kC, iC, fC, q1.1, gC, stC, by rw [q2.1]; exact knV, by rw [q2.1]; exact obV, by rw [q2.2.1]; exact asC, q4⟩,
    ⟨V', ⟨q5.1, State.isArrayOf_alike al'.symm q5.2.1, q5.2.2.1⟩, q6, by rw [← al'.findClass]; exact q7, q8, fun j hj => by have := q9 j hj; rwa [Nat.zero_add] at this⟩, fun O n d w F n1 n2 => ?_⟩, hl, hc, hs⟩, st⟩
  · intro y hy
    simp only [List.mem_cons, List.not_mem_nil, or_false] at hy
    rcases hy with rfl | rfl <;> rfl
  · by_cases q : y = x
    · subst q
      cases hD.symm.trans hy
      exact ⟨E', q1.1, q2.2.1, q2.1, hsz⟩
    · exact ⟨cy, q10 y cy q hy, rfl, rfl, rfl⟩
  · obtain ⟨D3, cf, k, i, f, g1, g2, g3, g4, g5, g6, g7⟩ := F
    cases hD.symm.trans g1
    simp only [RoadKit.slotOf, g2, gV, gC, Option.map_some, Option.getD_some] at n1 n2
    exact ⟨E', cf, k, i, f, q1.1, g2, g3, by rw [q2.1]; exact g4, by rw [q2.1]; exact g5, by rw [q2.2.1]; exact g6, by rw [q2.2.2 f.slot (by simp [n1, n2])]; exact g7⟩
end StrChars.Road
namespace StrChars.Road
open Jvm Sem ClassFile Op Lib Jvm.Stand Jvm.Free Jvm.Free.XT
/-- WHAT COMES BACK, the byte[] as a list of values -/
def QA (Z : State) (x : Addr) (zn : Int32) (cs : List Int32) (h : Heap) (v : Option Value) (h' : Heap) (L : List Loc) : Prop := v = none ∧ (∀ y ∈ L, y.base = x) ∧ RoadKit.Keep h h' [x] ∧ h'.size = h.size + 1 ∧ RoadKit.Exa Z h' x ST ∧ RoadKit.Fld Z h' x ST "value" "[B" (.ref h.size) ∧ RoadKit.Fld Z h' x ST "coder" "B" (.int 0) ∧
  (∃ kb, Z.vm.findClass "[B" = some kb ∧ RoadKit.Arv Z h' h.size kb .byte zn (cs.map fun c => .int (lo8 c)) (.int 0)) ∧
  ∀ (O n d : String) (w : Value), RoadKit.Fld Z h x O n d w → RoadKit.slotOf Z O n d ≠ RoadKit.slotOf Z ST "value" "[B" → RoadKit.slotOf Z O n d ≠ RoadKit.slotOf Z ST "coder" "B" → RoadKit.Fld Z h' x O n d w
/-- **new String(chars) AT A CALL, THE ARRAYS AS LISTS**: the char[] at b holds cs, not empty, no char above 255 -/
theorem backArv {p : Program} {l : Launch} {e : Env} {R : Room} {s : State} {args : Array Value} {below : List Frame} {len W : Nat} {Z : State} {a0 : Array Value} {h : Heap} (hZ : Z.Warmed39 s.vm) (hw : ∀ d ∈ words, d.before a0 Z = true) {kI : Nat} (wi : (Jvm.Cond.instantiable ST kI).before a0 Z = true)
    {x b : Addr} {k : ClassId} {zn z : Int32} {cs : List Int32} {dv v0 c0 : Value} (E : RoadKit.Exa Z h x ST) (V : RoadKit.Fld Z h x ST "value" "[B" v0) (C : RoadKit.Fld Z h x ST "coder" "B" c0) (K : RoadKit.Arv Z h b k .char zn (cs.map Value.int) dv) (S : RoadKit.Sta Z h ST "COMPACT_STRINGS" "Z" (.int z)) (hz : ¬ z = 0)
    (hlen : zn.toNatClampNeg = cs.length) (h0 : 0 < cs.length) (hbig : cs.length ≤ 536870912) (hall : ∀ c ∈ cs, ¬ 255 < c) (hfr : 4 ≤ R.frames) (hlo : W + 65 ≤ R.locals) :
    Back l R p e below s args New1.yN len W (fun P a => a = #[.ref x, .ref b] ∧ P.U.heap = h ∧ P.cells + 1 ≤ R.cells ∧ P.slots + cs.length ≤ R.slots)
      (fun P _ v B => ∃ L, QA Z x zn cs h v B.U.heap L ∧ B.locs = P.locs ++ L ∧ B.cells = P.cells + 1 ∧ B.slots = P.slots + cs.length) := by
  obtain ⟨A, K1, K2, K3, K4, K5, K6⟩ := K
  have e : A.slots.size = cs.length := K3.trans hlen
  have hat : ∀ (i : Nat) (hi : i < cs.length), A.slots[i]? = some (.int cs[i]) := fun i hi => by rw [K5 i (by omega)]; simp [List.getD_eq_getElem?_getD, hi]
  have hcv : ∀ (i : Nat) (hi : i < cs.length), cv A i = cs[i] := fun i hi => by unfold cv; rw [hat i hi]
  have hty : Typed .char A := fun i v hv => by
    have hi : i < A.slots.size := (Array.getElem?_eq_some_iff.mp hv).1
    have q := K5 i hi
    rw [hv] at q
    rw [Option.some.inj q]
    exact K6 i hi
  refine Back.mono (back hZ hw wi E V C K1 hty S hz (by omega) (by omega) (fun i hi => by rw [hcv i (by omega)]; exact hall _ (List.getElem_mem _)) hfr hlo) (fun P a hp => ⟨hp.1, hp.2.1, hp.2.2.1, by rw [e]; exact hp.2.2.2⟩) (fun P a v B hp hq => ?_)
  obtain ⟨L, ⟨q1, q2, q3, q4, q5, q6, q7, ⟨V', v1, v2, v3, v4, v5⟩, q9⟩, hl, hc, hs⟩ := hq
  refine ⟨L, ⟨q1, q2, q3, q4, q5, q6, q7, ⟨V'.cls, v3, V', v1, rfl, by rw [v4, e, hlen], K4, fun i hi => ?_, fun i hi => ?_⟩, q9⟩, hl, hc, by rw [hs, e]⟩
  · have hi' : i < cs.length := by omega
    rw [v5 i (by omega), hcv i hi']; simp [List.getD_eq_getElem?_getD, hi']
  · have hi' : i < cs.length := by omega
    simp only [List.getD_eq_getElem?_getD, List.getElem?_map, List.getElem?_eq_getElem hi', Option.map_some, Option.getD_some]
    exact fits_lo8 _
end StrChars.Road
namespace StrChars.Road
open Jvm Sem ClassFile Op Lib Jvm.Stand Jvm.Free Jvm.Free.XT
/-- WHAT COMES BACK, in the writer's own shape -/
def QV (Z : State) (x : Addr) (N : Int32) (bs : List Int32) (h : Heap) (n0 : Nat) (v : Option Value) (h' : Heap) (L : List Loc) : Prop := v = none ∧ RoadKit.Fr n0 L ∧ RoadKit.Keep h h' [x] ∧ RoadKit.Exa Z h' x ST ∧ RoadKit.Fld Z h' x ST "coder" "B" (.int 0) ∧
  ∃ (t : Addr) (kb : ClassId), n0 ≤ t ∧ h.size ≤ t ∧ ¬ t = x ∧ RoadKit.Fld Z h' x ST "value" "[B" (.ref t) ∧ RoadKit.Arv Z h' t kb .byte N (bs.map Value.int) (.int 0)
/-- **new String(chars) AT A CALL, FOR THE WRITER**: a char[] of n known ints, each 0 to 255 -/
theorem backV {p : Program} {l : Launch} {e : Env} {R : Room} {s : State} {args : Array Value} {below : List Frame} {len W : Nat} {Z : State} {a0 : Array Value} {h : Heap} (hZ : Z.Warmed39 s.vm) (hw : ∀ d ∈ words, d.before a0 Z = true) {kI : Nat} (wi : (Jvm.Cond.instantiable ST kI).before a0 Z = true)
    {x b : Addr} {kC : ClassId} {cs bs : List Int32} {d v0 c0 : Value} {z N : Int32} {n n0 : Nat} (hx0 : n0 ≤ x) (hh0 : n0 ≤ h.size) (E : RoadKit.Exa Z h x ST) (V : RoadKit.Fld Z h x ST "value" "[B" v0) (C : RoadKit.Fld Z h x ST "coder" "B" c0) (K : RoadKit.Arv Z h b kC .char N (cs.map Value.int) d) (S : RoadKit.Sta Z h ST "COMPACT_STRINGS" "Z" (.int z)) (hz : ¬ z = 0)
    (hn : cs.length = n) (hN : N = Int32.ofNat n) (l0 : 0 < n) (l2 : n ≤ 4000) (hp : ∀ c ∈ cs, ¬ c < 0 ∧ ¬ (255 : Int32) < c) (hb : bs = cs.map (fun c => c.toInt8.toInt32)) (hfr : 4 ≤ R.frames) (hlo : W + 65 ≤ R.locals) :
    Back l R p e below s args (⟨"java/lang/String", "<init>", "([C)V"⟩ : MethodName) len W (fun P a => a = #[.ref x, .ref b] ∧ P.U.heap = h ∧ P.cells + 1 ≤ R.cells ∧ P.slots + n ≤ R.slots)
      (fun P _ v B => ∃ L, QV Z x N bs h n0 v B.U.heap L ∧ B.locs = P.locs ++ L ∧ B.cells = P.cells + 1 ∧ B.slots = P.slots + n) := by
  subst hn hN hb
  refine Back.mono (backArv hZ hw wi E V C K S hz (n32 (by omega)) l0 (by omega) (fun c hc => (hp c hc).2) hfr hlo) (fun P a hp => hp) (fun P a v B hp hq => ?_)
  obtain ⟨L, ⟨q1, q2, q3, q4, q5, q6, q7, ⟨kb, v1, v2⟩, q9⟩, hl, hc, hs⟩ := hq
  exact ⟨L, ⟨q1, fun y hy => by rw [q2 y hy]; exact hx0, q3, q5, q7, h.size, kb, hh0, Nat.le_refl _, Nat.ne_of_gt E.lt, q6, by rw [List.map_map]; exact v2⟩, hl, hc, hs⟩
end StrChars.Road
end Jvm.Pilot.@@N@@
namespace Jvm.Pilot.@@N@@
open Jvm Jvm.ClassFile Sem Op Lib Jvm.Free Jvm.Stand Jvm.LawKit Jvm.RoadKit Bundle Jvm.Pilot.@@N@@.Jvm.D
def Hw (a0 : Array Value) (Z : State) : Prop := ∀ d ∈ tables_1, d.before a0 Z = true
theorem hSA {a0 : Array Value} {Z : State} (hw : Hw a0 Z) : ∀ d ∈ Bundle.stringAtoms, d.before a0 Z = true := fun d hd => hw d ((by decide +kernel : ∀ d ∈ Bundle.stringAtoms, d ∈ tables_1) d hd)
def ELs : List (String × Nat) := [("java/lang/String", 7), ("java/lang/StringLatin1", 151)]
/-- a Latin-1 String of the chars cs: its bytes lie at t -/
def St (Z : State) (h : Heap) (x t : Addr) (cs : List Int32) : Prop := Exa Z h x "java/lang/String" ∧ Fld Z h x "java/lang/String" "coder" "B" (.int 0) ∧ Fld Z h x "java/lang/String" "value" "[B" (.ref t) ∧ Ia Z h t .byte (cs.map fun c => c.toInt8.toInt32) ∧ ∀ c ∈ cs, ¬ c < 0 ∧ ¬ (255 : Int32) < c
theorem St.keep {Z : State} {h h' : Heap} {x t : Addr} {cs : List Int32} {ws : List Addr} (S : St Z h x t cs) (K : Keep h h' ws) (q : x ∉ ws) (q' : t ∉ ws) : St Z h' x t cs := ⟨S.1.keep K, S.2.1.keep K q, S.2.2.1.keep K q, S.2.2.2.1.keep K q', S.2.2.2.2⟩
theorem St.keep0 {Z : State} {h h' : Heap} {x t : Addr} {cs : List Int32} (S : St Z h x t cs) (K : Keep h h' []) : St Z h' x t cs := S.keep K nin0 nin0
theorem St.lt {Z : State} {h : Heap} {x t : Addr} {cs : List Int32} (S : St Z h x t cs) : x < h.size := S.1.lt
/-- what new String(char[]) leaves: the String x, its bytes at the new array t -/
def Qs (Z : State) (x : Addr) (cs : List Int32) (h h0 : Heap) (ws : List Addr) (v : Option Value) (h' : Heap) (L : List Loc) : Prop := v = none ∧ Nw h0 ws L ∧ Keep h h' [x] ∧ ∃ t, h.size ≤ t ∧ St Z h' x t cs
theorem bk_str {l : Launch} {Z : State} {n0 : Nat} {R : Room} {h0 h : Heap} {ws : List Addr} {a0 : Array Value} {W kI : Nat} (hws : ∀ d ∈ StrChars.Road.words, d.before a0 Z = true) (wi : (Jvm.Cond.instantiable "java/lang/String" kI).before a0 Z = true)
    {x b : Addr} {cs : List Int32} {v0 c0 : Value} {z : Int32} {len : Nat} (hx : h0.size ≤ x) (E : Exa Z h x "java/lang/String") (V : Fld Z h x "java/lang/String" "value" "[B" v0) (C : Fld Z h x "java/lang/String" "coder" "B" c0) (A : Ia Z h b .char cs) (S : Sta Z Z.heap "java/lang/String" "COMPACT_STRINGS" "Z" (.int z)) (hz : ¬ z = 0)
    (hl : cs.length = len) (l0 : 0 < len) (l2 : len ≤ 4000) (hp : ∀ c ∈ cs, ¬ c < 0 ∧ ¬ (255 : Int32) < c) (hfr : 4 ≤ R.frames) (hlo : W + 65 ≤ R.locals) :
    Bk l Z n0 R h0 ws h (⟨"java/lang/String", "<init>", "([C)V"⟩ : MethodName) W 1 len #[.ref x, .ref b] (Qs Z x cs h h0 ws) := fun p e below s args hZ ho hk => by
  obtain ⟨kA, Av⟩ := A.arv
  refine Back.mono (StrChars.Road.backV hZ hws wi (cs := cs) (bs := cs.map fun c => c.toInt8.toInt32) (n := len) (n0 := h0.size) hx hk.1 E V C Av (S.ext ho.2) hz hl (by rw [hl]) l0 l2 hp rfl hfr hlo) (fun P a hp => hp) (fun P a v B _ hq => ?_)
  obtain ⟨L, ⟨q1, q2, q3, q4, q5, t, kb, q6, q7, q8, q9, q10⟩, hl', hc, hs⟩ := hq
  refine ⟨L, ⟨q1, fun y hy => Or.inr (q2 y hy), q3, t, q7, q4, q5, q9, ia_of q10 rfl ?_, hp⟩, hl', hc, hs⟩
  rw [List.length_map, hl, Int32.toNatClampNeg, Int32.toInt_ofNat_of_lt (by omega)]; rfl
theorem low8 (x : Int32) : ¬ nar .char ((x &&& (255 : Int32)).toUInt32.toUInt16.toUInt32.toInt32) < 0 ∧ ¬ (255 : Int32) < nar .char ((x &&& (255 : Int32)).toUInt32.toUInt16.toUInt32.toInt32) := by
  have h1 := c_mask x 255 8 (by decide) (by decide)
  have h2 := c_i2c (x &&& 255)
  have h3 := c_i2c ((x &&& 255).toUInt32.toUInt16.toUInt32.toInt32)
  have e1 : (255 : Int32).toInt = 255 := by decide
  have e2 : (0 : Int32).toInt = 0 := by decide
  show ¬ ((x &&& (255 : Int32)).toUInt32.toUInt16.toUInt32.toInt32).toUInt32.toUInt16.toUInt32.toInt32 < 0 ∧ ¬ (255 : Int32) < ((x &&& (255 : Int32)).toUInt32.toUInt16.toUInt32.toInt32).toUInt32.toUInt16.toUInt32.toInt32
  rw [Int32.lt_iff_toInt_lt, Int32.lt_iff_toInt_lt, e1, e2]
  omega
theorem low8' (x : Int32) : ¬ (x &&& (255 : Int32)).toUInt32.toUInt16.toUInt32.toInt32 < 0 ∧ ¬ (255 : Int32) < (x &&& (255 : Int32)).toUInt32.toUInt16.toUInt32.toInt32 := by
  have h1 := c_mask x 255 8 (by decide) (by decide)
  have h2 := c_i2c (x &&& 255)
  have e1 : (255 : Int32).toInt = 255 := by decide
  have e2 : (0 : Int32).toInt = 0 := by decide
  rw [Int32.lt_iff_toInt_lt, Int32.lt_iff_toInt_lt, e1, e2]
  omega
theorem shr0 (x : Int32) : x >>> (0 &&& 31) = x := by
  rw [← Int32.toInt_inj, c_ishr x 0 0 (by decide)]; simp
/-- a byte read back is the char -/
theorem lo8 (c : Int32) (h : ¬ c < 0 ∧ ¬ (255 : Int32) < c) : (c.toInt8.toInt32 &&& 255).toUInt32.toUInt16.toUInt32.toInt32 = c ∧ nar .char c = c ∧ c.toUInt32.toUInt16.toUInt32.toInt32 = c := by
  have e1 : (255 : Int32).toInt = 255 := by decide
  have e2 : (0 : Int32).toInt = 0 := by decide
  have h1 := c_i2b c
  have h2 := c_mask c.toInt8.toInt32 255 8 (by decide) (by decide)
  have h3 := c_i2c (c.toInt8.toInt32 &&& 255)
  have h4 := c_i2c c
  rw [Int32.lt_iff_toInt_lt, Int32.lt_iff_toInt_lt, e1, e2] at h
  refine ⟨Int32.toInt_inj.mp (by omega), Int32.toInt_inj.mp ?_, Int32.toInt_inj.mp (by omega)⟩
  show c.toUInt32.toUInt16.toUInt32.toInt32.toInt = _
  omega
theorem ofNat_lt {i n : Nat} (h : i < n) (hn : n < 2 ^ 31) : ¬ Int32.ofNat i < 0 ∧ Int32.ofNat i < Int32.ofNat n ∧ (Int32.ofNat i).toNatClampNeg = i := by
  have e2 : (0 : Int32).toInt = 0 := by decide
  rw [Int32.lt_iff_toInt_lt, Int32.lt_iff_toInt_lt, Int32.toInt_ofNat_of_lt (by omega), Int32.toInt_ofNat_of_lt hn, Int32.toNatClampNeg, Int32.toInt_ofNat_of_lt (by omega), e2]
  omega
theorem ofNat_toInt {n : Nat} (h : n < 2 ^ 31) : (Int32.ofNat n).toInt = n := Int32.toInt_ofNat_of_lt h
theorem ofNat_le {a b : Nat} (h : a ≤ b) (hb : b < 2 ^ 31) : ¬ Int32.ofNat a < 0 ∧ ¬ Int32.ofNat b < Int32.ofNat a := by
  have e2 : (0 : Int32).toInt = 0 := by decide
  rw [Int32.lt_iff_toInt_lt, Int32.lt_iff_toInt_lt, ofNat_toInt hb, ofNat_toInt (by omega), e2]
  omega
theorem ofNat_inj {a b : Nat} (ha : a < 2 ^ 31) (hb : b < 2 ^ 31) : Int32.ofNat a = Int32.ofNat b ↔ a = b := by
  rw [← Int32.toInt_inj, ofNat_toInt ha, ofNat_toInt hb]; omega
theorem ofNat_sub {a b : Nat} (h : b ≤ a) (ha : a < 2 ^ 31) : Int32.ofNat a - Int32.ofNat b = Int32.ofNat (a - b) := by
  rw [← Int32.toInt_inj, ofNat_toInt (by omega)]
  have q := c_isub (Int32.ofNat a) (Int32.ofNat b); have r := rng32 (Int32.ofNat a - Int32.ofNat b)
  rw [ofNat_toInt ha, ofNat_toInt (by omega)] at q; omega
theorem ofNat_add {a b : Nat} (h : a + b < 2 ^ 31) : Int32.ofNat a + Int32.ofNat b = Int32.ofNat (a + b) := by
  rw [← Int32.toInt_inj, ofNat_toInt h]
  have q := c_iadd (Int32.ofNat a) (Int32.ofNat b); have r := rng32 (Int32.ofNat a + Int32.ofNat b)
  rw [ofNat_toInt (by omega), ofNat_toInt (by omega)] at q; omega
theorem ofNat_succ {a : Nat} (h : a + 1 < 2 ^ 31) : Int32.ofNat a + 1 = Int32.ofNat (a + 1) := ofNat_add (b := 1) h
theorem ofNat_pred {a : Nat} (h : 0 < a) (ha : a < 2 ^ 31) : Int32.ofNat a - 1 = Int32.ofNat (a - 1) := ofNat_sub (b := 1) h ha
theorem ofNat_pred' {a : Nat} (h : 0 < a) (ha : a < 2 ^ 31) : Int32.ofNat a + (-1) = Int32.ofNat (a - 1) := by
  rw [← ofNat_pred h ha]
  rw [← Int32.toInt_inj]
  have q := c_isub (Int32.ofNat a) 1; have r := rng32 (Int32.ofNat a - 1); have q' := c_iadd (Int32.ofNat a) (-1); have r' := rng32 (Int32.ofNat a + (-1))
  have e1 : (1 : Int32).toInt = 1 := by decide
  have e2 : (-1 : Int32).toInt = -1 := by decide
  omega
/-- the four white signs -/
def isW (c : Int32) : Bool := c = 32 || c = 9 || c = 13 || c = 10
def trimL (cs : List Int32) : List Int32 := ((cs.dropWhile isW).reverse.dropWhile isW).reverse
theorem dropWhile_at (p : Int32 → Bool) : ∀ (cs : List Int32) (b : Nat), (∀ i (h : i < cs.length), i < b → p cs[i] = true) → (∀ h : b < cs.length, p cs[b] = false) → b ≤ cs.length → cs.dropWhile p = cs.drop b
  | [], b, _, _, _ => by simp
  | c :: cs, 0, _, h2, _ => by
    have := h2 (by simp)
    simp only [List.getElem_cons_zero] at this
    simp [List.dropWhile, this]
  | c :: cs, b + 1, h1, h2, h3 => by
    have hc := h1 0 (by simp) (by omega)
    simp only [List.getElem_cons_zero] at hc
    simp only [List.dropWhile, hc, List.drop_succ_cons]
    refine dropWhile_at p cs b (fun i h hi => ?_) (fun h => ?_) (by simpa using h3)
    · have := h1 (i + 1) (by simpa using h) (by omega); simpa using this
    · have := h2 (by simpa using h); simpa using this
theorem trim_at (cs : List Int32) (b e : Nat) (hbe : b ≤ e) (hel : e ≤ cs.length) (h1 : ∀ i (h : i < cs.length), i < b → isW cs[i] = true) (h2 : ∀ h : b < cs.length, isW cs[b] = false) (h3 : ∀ i (h : i < cs.length), e ≤ i → isW cs[i] = true) (h4 : b < e → ∀ h : e - 1 < cs.length, isW cs[e - 1] = false) : (cs.drop b).take (e - b) = trimL cs := by
  unfold trimL
  rw [dropWhile_at isW cs b h1 h2 (by omega), dropWhile_at isW (cs.drop b).reverse (cs.length - e)]
  · rw [List.drop_reverse, List.reverse_reverse]
    congr 1
    simp only [List.length_drop]; omega
  · intro i h hi
    simp only [List.length_reverse, List.length_drop] at h
    simp only [List.getElem_reverse, List.length_drop, List.getElem_drop]
    exact h3 _ _ (by omega)
  · intro h
    simp only [List.length_reverse, List.length_drop] at h
    simp only [List.getElem_reverse, List.length_drop, List.getElem_drop]
    have hb : b < e := by omega
    have q := h4 hb (by omega)
    have e1 : b + (cs.length - b - 1 - (cs.length - e)) = e - 1 := by omega
    simp only [e1]; exact q
  · simp only [List.length_reverse, List.length_drop]; omega
theorem range_w (x : Int32) : ¬ (x &&& 255).toUInt32.toUInt16.toUInt32.toInt32 < 0 ∧ ¬ (255 : Int32) < (x &&& 255).toUInt32.toUInt16.toUInt32.toInt32 := low8' x
theorem mod5 (p : Int32) : (p &&& 2147483647) % 5 = 0 ∨ (p &&& 2147483647) % 5 = 1 ∨ (p &&& 2147483647) % 5 = 2 ∨ (p &&& 2147483647) % 5 = 3 ∨ (p &&& 2147483647) % 5 = 4 := by
  have h1 := c_mask p 2147483647 31 (by decide) (by decide)
  have h2 := (c_irem (p &&& 2147483647) 5 5 (by decide)).1 (by rw [h1]; omega)
  have e : ∀ (v : Int32), ((p &&& 2147483647) % 5).toInt = v.toInt → (p &&& 2147483647) % 5 = v := fun v => Int32.toInt_inj.mp
  have e0 : (0 : Int32).toInt = 0 := by decide
  have e1 : (1 : Int32).toInt = 1 := by decide
  have e2 : (2 : Int32).toInt = 2 := by decide
  have e3 : (3 : Int32).toInt = 3 := by decide
  have e4 : (4 : Int32).toInt = 4 := by decide
  have : ((p &&& 2147483647) % 5).toInt = 0 ∨ ((p &&& 2147483647) % 5).toInt = 1 ∨ ((p &&& 2147483647) % 5).toInt = 2 ∨ ((p &&& 2147483647) % 5).toInt = 3 ∨ ((p &&& 2147483647) % 5).toInt = 4 := by omega
  rcases this with q | q | q | q | q
  · exact Or.inl (e 0 (by rw [q, e0]))
  · exact Or.inr (Or.inl (e 1 (by rw [q, e1])))
  · exact Or.inr (Or.inr (Or.inl (e 2 (by rw [q, e2]))))
  · exact Or.inr (Or.inr (Or.inr (Or.inl (e 3 (by rw [q, e3])))))
  · exact Or.inr (Or.inr (Or.inr (Or.inr (e 4 (by rw [q, e4])))))
theorem all1 {c0 c1 c2 c3 : Int32} (b0 : (¬ c0 < 0 ∧ ¬ (255 : Int32) < c0)) (b1 : (¬ c1 < 0 ∧ ¬ (255 : Int32) < c1)) (b2 : (¬ c2 < 0 ∧ ¬ (255 : Int32) < c2)) (b3 : (¬ c3 < 0 ∧ ¬ (255 : Int32) < c3)) : ∀ c ∈ ([c0] : List Int32), ¬ c < 0 ∧ ¬ (255 : Int32) < c := fun c hc => by
  simp only [List.mem_cons, List.not_mem_nil, or_false] at hc
  subst hc
  exact b0
theorem all2 {c0 c1 c2 c3 : Int32} (b0 : (¬ c0 < 0 ∧ ¬ (255 : Int32) < c0)) (b1 : (¬ c1 < 0 ∧ ¬ (255 : Int32) < c1)) (b2 : (¬ c2 < 0 ∧ ¬ (255 : Int32) < c2)) (b3 : (¬ c3 < 0 ∧ ¬ (255 : Int32) < c3)) : ∀ c ∈ ([c0, c1] : List Int32), ¬ c < 0 ∧ ¬ (255 : Int32) < c := fun c hc => by
  simp only [List.mem_cons, List.not_mem_nil, or_false] at hc
  rcases hc with rfl | rfl
  · exact b0
  · exact b1
theorem all3 {c0 c1 c2 c3 : Int32} (b0 : (¬ c0 < 0 ∧ ¬ (255 : Int32) < c0)) (b1 : (¬ c1 < 0 ∧ ¬ (255 : Int32) < c1)) (b2 : (¬ c2 < 0 ∧ ¬ (255 : Int32) < c2)) (b3 : (¬ c3 < 0 ∧ ¬ (255 : Int32) < c3)) : ∀ c ∈ ([c0, c1, c2] : List Int32), ¬ c < 0 ∧ ¬ (255 : Int32) < c := fun c hc => by
  simp only [List.mem_cons, List.not_mem_nil, or_false] at hc
  rcases hc with rfl | rfl | rfl
  · exact b0
  · exact b1
  · exact b2
theorem all4 {c0 c1 c2 c3 : Int32} (b0 : (¬ c0 < 0 ∧ ¬ (255 : Int32) < c0)) (b1 : (¬ c1 < 0 ∧ ¬ (255 : Int32) < c1)) (b2 : (¬ c2 < 0 ∧ ¬ (255 : Int32) < c2)) (b3 : (¬ c3 < 0 ∧ ¬ (255 : Int32) < c3)) : ∀ c ∈ ([c0, c1, c2, c3] : List Int32), ¬ c < 0 ∧ ¬ (255 : Int32) < c := fun c hc => by
  simp only [List.mem_cons, List.not_mem_nil, or_false] at hc
  rcases hc with rfl | rfl | rfl | rfl
  · exact b0
  · exact b1
  · exact b2
  · exact b3
theorem w_0 {a0 : Array Value} {Z : State} (hw : Hw a0 Z) : (Jvm.Cond.constant "com/example/antiphon/antiphon/model/XmlInputTrimmedPinLaw" (7 : Nat) (2147483647 : Int32)).before a0 Z = true := hw _ (List.mem_of_getElem? (i := 0) rfl)
theorem w_1 {a0 : Array Value} {Z : State} (hw : Hw a0 Z) : (Jvm.Cond.arrayClass Jvm.ClassFile.FieldType.char).before a0 Z = true := hw _ (List.mem_of_getElem? (i := 1) rfl)
theorem w_2 {a0 : Array Value} {Z : State} (hw : Hw a0 Z) : (Jvm.Cond.methodLink "com/example/antiphon/antiphon/model/XmlInputTrimmedPinLaw" (8 : Nat) ({ cls := "com/example/antiphon/antiphon/model/XmlInputTrimmedPinLaw", name := "ch", desc := "(I)C" } : Jvm.MethodName)).before a0 Z = true := hw _ (List.mem_of_getElem? (i := 2) rfl)
theorem w_3 {a0 : Array Value} {Z : State} (hw : Hw a0 Z) : (Jvm.Cond.static ({ cls := "com/example/antiphon/antiphon/model/XmlInputTrimmedPinLaw", name := "ch", desc := "(I)C" } : Jvm.MethodName)).before a0 Z = true := hw _ (List.mem_of_getElem? (i := 3) rfl)
theorem w_4 {a0 : Array Value} {Z : State} (hw : Hw a0 Z) : (Jvm.Cond.initialized "com/example/antiphon/antiphon/model/XmlInputTrimmedPinLaw").before a0 Z = true := hw _ (List.mem_of_getElem? (i := 4) rfl)
theorem w_5 {a0 : Array Value} {Z : State} (hw : Hw a0 Z) : (Jvm.Cond.code ({ cls := "com/example/antiphon/antiphon/model/XmlInputTrimmedPinLaw", name := "ch", desc := "(I)C" } : Jvm.MethodName) method_2_code (2 : Nat) (Option.some Jvm.ClassFile.FieldType.char)).before a0 Z = true := hw _ (List.mem_of_getElem? (i := 5) rfl)
theorem w_6 {a0 : Array Value} {Z : State} (hw : Hw a0 Z) : (Jvm.Cond.classLink "com/example/antiphon/antiphon/model/XmlInputTrimmedPinLaw" (14 : Nat) "java/lang/String").before a0 Z = true := hw _ (List.mem_of_getElem? (i := 6) rfl)
theorem w_7 {a0 : Array Value} {Z : State} (hw : Hw a0 Z) : (Jvm.Cond.instantiable "java/lang/String" (4 : Nat)).before a0 Z = true := hw _ (List.mem_of_getElem? (i := 7) rfl)
theorem w_8 {a0 : Array Value} {Z : State} (hw : Hw a0 Z) : (Jvm.Cond.initialized "java/lang/String").before a0 Z = true := hw _ (List.mem_of_getElem? (i := 8) rfl)
theorem w_9 {a0 : Array Value} {Z : State} (hw : Hw a0 Z) : (Jvm.Cond.methodLink "com/example/antiphon/antiphon/model/XmlInputTrimmedPinLaw" (16 : Nat) ({ cls := "java/lang/String", name := "<init>", desc := "([C)V" } : Jvm.MethodName)).before a0 Z = true := hw _ (List.mem_of_getElem? (i := 9) rfl)
theorem w_10 {a0 : Array Value} {Z : State} (hw : Hw a0 Z) : (Jvm.Cond.instanceMethod ({ cls := "java/lang/String", name := "<init>", desc := "([C)V" } : Jvm.MethodName)).before a0 Z = true := hw _ (List.mem_of_getElem? (i := 10) rfl)
theorem w_11 {a0 : Array Value} {Z : State} (hw : Hw a0 Z) : (Jvm.Cond.code ({ cls := "java/lang/String", name := "<init>", desc := "([C)V" } : Jvm.MethodName) jdk_42_method_3_code (2 : Nat) (Option.none : Option Jvm.ClassFile.FieldType)).before a0 Z = true := hw _ (List.mem_of_getElem? (i := 11) rfl)
theorem w_12 {a0 : Array Value} {Z : State} (hw : Hw a0 Z) : (Jvm.Cond.methodLink "java/lang/String" (27 : Nat) ({ cls := "java/lang/String", name := "<init>", desc := "([CIILjava/lang/Void;)V" } : Jvm.MethodName)).before a0 Z = true := hw _ (List.mem_of_getElem? (i := 12) rfl)
theorem w_13 {a0 : Array Value} {Z : State} (hw : Hw a0 Z) : (Jvm.Cond.instanceMethod ({ cls := "java/lang/String", name := "<init>", desc := "([CIILjava/lang/Void;)V" } : Jvm.MethodName)).before a0 Z = true := hw _ (List.mem_of_getElem? (i := 13) rfl)
theorem w_15 {a0 : Array Value} {Z : State} (hw : Hw a0 Z) : (Jvm.Cond.code ({ cls := "java/lang/String", name := "<init>", desc := "([CIILjava/lang/Void;)V" } : Jvm.MethodName) jdk_42_method_149_code (6 : Nat) (Option.none : Option Jvm.ClassFile.FieldType)).before a0 Z = true := hw _ (List.mem_of_getElem? (i := 15) rfl)
theorem w_16 {a0 : Array Value} {Z : State} (hw : Hw a0 Z) : (Jvm.Cond.methodLink "java/lang/String" (1 : Nat) ({ cls := "java/lang/Object", name := "<init>", desc := "()V" } : Jvm.MethodName)).before a0 Z = true := hw _ (List.mem_of_getElem? (i := 16) rfl)
theorem w_17 {a0 : Array Value} {Z : State} (hw : Hw a0 Z) : (Jvm.Cond.instanceMethod ({ cls := "java/lang/Object", name := "<init>", desc := "()V" } : Jvm.MethodName)).before a0 Z = true := hw _ (List.mem_of_getElem? (i := 17) rfl)
theorem w_18 {a0 : Array Value} {Z : State} (hw : Hw a0 Z) : (Jvm.Cond.code ({ cls := "java/lang/Object", name := "<init>", desc := "()V" } : Jvm.MethodName) object_method_1_code (1 : Nat) (Option.none : Option Jvm.ClassFile.FieldType)).before a0 Z = true := hw _ (List.mem_of_getElem? (i := 18) rfl)
theorem w_19 {a0 : Array Value} {Z : State} (hw : Hw a0 Z) : (Jvm.Cond.stringLink "java/lang/String" (7 : Nat) "").before a0 Z = true := hw _ (List.mem_of_getElem? (i := 19) rfl)
theorem w_20 {a0 : Array Value} {Z : State} (hw : Hw a0 Z) : (Jvm.Cond.arrayClass Jvm.ClassFile.FieldType.byte).before a0 Z = true := hw _ (List.mem_of_getElem? (i := 20) rfl)
theorem w_21 {a0 : Array Value} {Z : State} (hw : Hw a0 Z) : (Jvm.Cond.laysFinal "java/lang/String" "java/lang/String" "value" "[B").before a0 Z = true := hw _ (List.mem_of_getElem? (i := 21) rfl)
theorem w_22 {a0 : Array Value} {Z : State} (hw : Hw a0 Z) : (Jvm.Cond.laysFinal "java/lang/String" "java/lang/String" "coder" "B").before a0 Z = true := hw _ (List.mem_of_getElem? (i := 22) rfl)
theorem w_25 {a0 : Array Value} {Z : State} (hw : Hw a0 Z) : (Jvm.Cond.fieldLink "java/lang/String" (9 : Nat) "java/lang/String" "value" "[B").before a0 Z = true := hw _ (List.mem_of_getElem? (i := 25) rfl)
theorem w_26 {a0 : Array Value} {Z : State} (hw : Hw a0 Z) : (Jvm.Cond.fieldLink "java/lang/String" (15 : Nat) "java/lang/String" "coder" "B").before a0 Z = true := hw _ (List.mem_of_getElem? (i := 26) rfl)
theorem w_27 {a0 : Array Value} {Z : State} (hw : Hw a0 Z) : (Jvm.Cond.methodLink "com/example/antiphon/antiphon/model/XmlInputTrimmedPinLaw" (23 : Nat) ({ cls := "com/example/antiphon/antiphon/model/XmlInput", name := "trimmed", desc := "(Ljava/lang/String;)Ljava/lang/String;" } : Jvm.MethodName)).before a0 Z = true := hw _ (List.mem_of_getElem? (i := 27) rfl)
theorem w_28 {a0 : Array Value} {Z : State} (hw : Hw a0 Z) : (Jvm.Cond.static ({ cls := "com/example/antiphon/antiphon/model/XmlInput", name := "trimmed", desc := "(Ljava/lang/String;)Ljava/lang/String;" } : Jvm.MethodName)).before a0 Z = true := hw _ (List.mem_of_getElem? (i := 28) rfl)
theorem w_29 {a0 : Array Value} {Z : State} (hw : Hw a0 Z) : (Jvm.Cond.initialized "com/example/antiphon/antiphon/model/XmlInput").before a0 Z = true := hw _ (List.mem_of_getElem? (i := 29) rfl)
theorem w_30 {a0 : Array Value} {Z : State} (hw : Hw a0 Z) : (Jvm.Cond.code ({ cls := "com/example/antiphon/antiphon/model/XmlInput", name := "trimmed", desc := "(Ljava/lang/String;)Ljava/lang/String;" } : Jvm.MethodName) prog_111_method_24_code (3 : Nat) (Option.some (Jvm.ClassFile.FieldType.object "java/lang/String"))).before a0 Z = true := hw _ (List.mem_of_getElem? (i := 30) rfl)
theorem w_31 {a0 : Array Value} {Z : State} (hw : Hw a0 Z) : (Jvm.Cond.methodLink "com/example/antiphon/antiphon/model/XmlInput" (335 : Nat) ({ cls := "java/lang/String", name := "length", desc := "()I" } : Jvm.MethodName)).before a0 Z = true := hw _ (List.mem_of_getElem? (i := 31) rfl)
theorem w_32 {a0 : Array Value} {Z : State} (hw : Hw a0 Z) : (Jvm.Cond.declares ({ cls := "java/lang/String", name := "length", desc := "()I" } : Jvm.MethodName)).before a0 Z = true := hw _ (List.mem_of_getElem? (i := 32) rfl)
theorem w_33 {a0 : Array Value} {Z : State} (hw : Hw a0 Z) : (Jvm.Cond.instanceMethod ({ cls := "java/lang/String", name := "length", desc := "()I" } : Jvm.MethodName)).before a0 Z = true := hw _ (List.mem_of_getElem? (i := 33) rfl)
theorem w_34 {a0 : Array Value} {Z : State} (hw : Hw a0 Z) : (Jvm.Cond.selects "java/lang/String" ({ cls := "java/lang/String", name := "length", desc := "()I" } : Jvm.MethodName) ({ cls := "java/lang/String", name := "length", desc := "()I" } : Jvm.MethodName)).before a0 Z = true := hw _ (List.mem_of_getElem? (i := 34) rfl)
theorem w_35 {a0 : Array Value} {Z : State} (hw : Hw a0 Z) : (Jvm.Cond.code ({ cls := "java/lang/String", name := "length", desc := "()I" } : Jvm.MethodName) jdk_42_method_54_code (1 : Nat) (Option.some Jvm.ClassFile.FieldType.int)).before a0 Z = true := hw _ (List.mem_of_getElem? (i := 35) rfl)
theorem w_36 {a0 : Array Value} {Z : State} (hw : Hw a0 Z) : (Jvm.Cond.methodLink "java/lang/String" (335 : Nat) ({ cls := "java/lang/String", name := "coder", desc := "()B" } : Jvm.MethodName)).before a0 Z = true := hw _ (List.mem_of_getElem? (i := 36) rfl)
theorem w_37 {a0 : Array Value} {Z : State} (hw : Hw a0 Z) : (Jvm.Cond.declares ({ cls := "java/lang/String", name := "coder", desc := "()B" } : Jvm.MethodName)).before a0 Z = true := hw _ (List.mem_of_getElem? (i := 37) rfl)
theorem w_38 {a0 : Array Value} {Z : State} (hw : Hw a0 Z) : (Jvm.Cond.instanceMethod ({ cls := "java/lang/String", name := "coder", desc := "()B" } : Jvm.MethodName)).before a0 Z = true := hw _ (List.mem_of_getElem? (i := 38) rfl)
theorem w_39 {a0 : Array Value} {Z : State} (hw : Hw a0 Z) : (Jvm.Cond.selects "java/lang/String" ({ cls := "java/lang/String", name := "coder", desc := "()B" } : Jvm.MethodName) ({ cls := "java/lang/String", name := "coder", desc := "()B" } : Jvm.MethodName)).before a0 Z = true := hw _ (List.mem_of_getElem? (i := 39) rfl)
theorem w_40 {a0 : Array Value} {Z : State} (hw : Hw a0 Z) : (Jvm.Cond.code ({ cls := "java/lang/String", name := "coder", desc := "()B" } : Jvm.MethodName) jdk_42_method_152_code (1 : Nat) (Option.some Jvm.ClassFile.FieldType.byte)).before a0 Z = true := hw _ (List.mem_of_getElem? (i := 40) rfl)
theorem w_41 {a0 : Array Value} {Z : State} (hw : Hw a0 Z) : (Jvm.Cond.fieldLink "java/lang/String" (38 : Nat) "java/lang/String" "COMPACT_STRINGS" "Z").before a0 Z = true := hw _ (List.mem_of_getElem? (i := 41) rfl)
theorem w_42 {a0 : Array Value} {Z : State} (hw : Hw a0 Z) : (Jvm.Cond.methodLink "com/example/antiphon/antiphon/model/XmlInput" (327 : Nat) ({ cls := "java/lang/String", name := "substring", desc := "(II)Ljava/lang/String;" } : Jvm.MethodName)).before a0 Z = true := hw _ (List.mem_of_getElem? (i := 42) rfl)
theorem w_43 {a0 : Array Value} {Z : State} (hw : Hw a0 Z) : (Jvm.Cond.declares ({ cls := "java/lang/String", name := "substring", desc := "(II)Ljava/lang/String;" } : Jvm.MethodName)).before a0 Z = true := hw _ (List.mem_of_getElem? (i := 43) rfl)
theorem w_44 {a0 : Array Value} {Z : State} (hw : Hw a0 Z) : (Jvm.Cond.instanceMethod ({ cls := "java/lang/String", name := "substring", desc := "(II)Ljava/lang/String;" } : Jvm.MethodName)).before a0 Z = true := hw _ (List.mem_of_getElem? (i := 44) rfl)
theorem w_45 {a0 : Array Value} {Z : State} (hw : Hw a0 Z) : (Jvm.Cond.selects "java/lang/String" ({ cls := "java/lang/String", name := "substring", desc := "(II)Ljava/lang/String;" } : Jvm.MethodName) ({ cls := "java/lang/String", name := "substring", desc := "(II)Ljava/lang/String;" } : Jvm.MethodName)).before a0 Z = true := hw _ (List.mem_of_getElem? (i := 45) rfl)
theorem w_46 {a0 : Array Value} {Z : State} (hw : Hw a0 Z) : (Jvm.Cond.code ({ cls := "java/lang/String", name := "substring", desc := "(II)Ljava/lang/String;" } : Jvm.MethodName) jdk_42_method_92_code (5 : Nat) (Option.some (Jvm.ClassFile.FieldType.object "java/lang/String"))).before a0 Z = true := hw _ (List.mem_of_getElem? (i := 46) rfl)
theorem w_47 {a0 : Array Value} {Z : State} (hw : Hw a0 Z) : (Jvm.Cond.methodLink "java/lang/String" (505 : Nat) ({ cls := "java/lang/String", name := "length", desc := "()I" } : Jvm.MethodName)).before a0 Z = true := hw _ (List.mem_of_getElem? (i := 47) rfl)
theorem w_48 {a0 : Array Value} {Z : State} (hw : Hw a0 Z) : (Jvm.Cond.methodLink "java/lang/String" (521 : Nat) ({ cls := "java/lang/String", name := "checkBoundsBeginEnd", desc := "(III)V" } : Jvm.MethodName)).before a0 Z = true := hw _ (List.mem_of_getElem? (i := 48) rfl)
theorem w_49 {a0 : Array Value} {Z : State} (hw : Hw a0 Z) : (Jvm.Cond.static ({ cls := "java/lang/String", name := "checkBoundsBeginEnd", desc := "(III)V" } : Jvm.MethodName)).before a0 Z = true := hw _ (List.mem_of_getElem? (i := 49) rfl)
theorem w_50 {a0 : Array Value} {Z : State} (hw : Hw a0 Z) : (Jvm.Cond.code ({ cls := "java/lang/String", name := "checkBoundsBeginEnd", desc := "(III)V" } : Jvm.MethodName) jdk_42_method_158_code (3 : Nat) (Option.none : Option Jvm.ClassFile.FieldType)).before a0 Z = true := hw _ (List.mem_of_getElem? (i := 50) rfl)
theorem w_51 {a0 : Array Value} {Z : State} (hw : Hw a0 Z) : (Jvm.Cond.fieldLink "java/lang/String" (1053 : Nat) "jdk/internal/util/Preconditions" "SIOOBE_FORMATTER" "Ljava/util/function/BiFunction;").before a0 Z = true := hw _ (List.mem_of_getElem? (i := 51) rfl)
theorem w_52 {a0 : Array Value} {Z : State} (hw : Hw a0 Z) : (Jvm.Cond.initialized "jdk/internal/util/Preconditions").before a0 Z = true := hw _ (List.mem_of_getElem? (i := 52) rfl)
theorem w_53 {a0 : Array Value} {Z : State} (hw : Hw a0 Z) : (Jvm.Cond.methodLink "java/lang/String" (1062 : Nat) ({ cls := "jdk/internal/util/Preconditions", name := "checkFromToIndex", desc := "(IIILjava/util/function/BiFunction;)I" } : Jvm.MethodName)).before a0 Z = true := hw _ (List.mem_of_getElem? (i := 53) rfl)
theorem w_54 {a0 : Array Value} {Z : State} (hw : Hw a0 Z) : (Jvm.Cond.static ({ cls := "jdk/internal/util/Preconditions", name := "checkFromToIndex", desc := "(IIILjava/util/function/BiFunction;)I" } : Jvm.MethodName)).before a0 Z = true := hw _ (List.mem_of_getElem? (i := 54) rfl)
theorem w_55 {a0 : Array Value} {Z : State} (hw : Hw a0 Z) : (Jvm.Cond.code ({ cls := "jdk/internal/util/Preconditions", name := "checkFromToIndex", desc := "(IIILjava/util/function/BiFunction;)I" } : Jvm.MethodName) jdk_41_method_12_code (4 : Nat) (Option.some Jvm.ClassFile.FieldType.int)).before a0 Z = true := hw _ (List.mem_of_getElem? (i := 55) rfl)
theorem w_56 {a0 : Array Value} {Z : State} (hw : Hw a0 Z) : (Jvm.Cond.methodLink "com/example/antiphon/antiphon/model/XmlInputTrimmedPinLaw" (29 : Nat) ({ cls := "java/lang/String", name := "length", desc := "()I" } : Jvm.MethodName)).before a0 Z = true := hw _ (List.mem_of_getElem? (i := 56) rfl)
theorem w_67 {a0 : Array Value} {Z : State} (hw : Hw a0 Z) : (Jvm.Cond.methodLink "com/example/antiphon/antiphon/model/XmlInputTrimmedPinLaw" (19 : Nat) ({ cls := "com/example/antiphon/antiphon/model/XmlInputTrimmedPinLaw", name := "ws", desc := "(C)Z" } : Jvm.MethodName)).before a0 Z = true := hw _ (List.mem_of_getElem? (i := 67) rfl)
theorem w_68 {a0 : Array Value} {Z : State} (hw : Hw a0 Z) : (Jvm.Cond.static ({ cls := "com/example/antiphon/antiphon/model/XmlInputTrimmedPinLaw", name := "ws", desc := "(C)Z" } : Jvm.MethodName)).before a0 Z = true := hw _ (List.mem_of_getElem? (i := 68) rfl)
theorem w_69 {a0 : Array Value} {Z : State} (hw : Hw a0 Z) : (Jvm.Cond.code ({ cls := "com/example/antiphon/antiphon/model/XmlInputTrimmedPinLaw", name := "ws", desc := "(C)Z" } : Jvm.MethodName) method_3_code (1 : Nat) (Option.some Jvm.ClassFile.FieldType.boolean)).before a0 Z = true := hw _ (List.mem_of_getElem? (i := 69) rfl)
theorem w_70 {a0 : Array Value} {Z : State} (hw : Hw a0 Z) : (Jvm.Cond.methodLink "com/example/antiphon/antiphon/model/XmlInput" (341 : Nat) ({ cls := "java/lang/String", name := "charAt", desc := "(I)C" } : Jvm.MethodName)).before a0 Z = true := hw _ (List.mem_of_getElem? (i := 70) rfl)
theorem w_71 {a0 : Array Value} {Z : State} (hw : Hw a0 Z) : (Jvm.Cond.declares ({ cls := "java/lang/String", name := "charAt", desc := "(I)C" } : Jvm.MethodName)).before a0 Z = true := hw _ (List.mem_of_getElem? (i := 71) rfl)
theorem w_72 {a0 : Array Value} {Z : State} (hw : Hw a0 Z) : (Jvm.Cond.instanceMethod ({ cls := "java/lang/String", name := "charAt", desc := "(I)C" } : Jvm.MethodName)).before a0 Z = true := hw _ (List.mem_of_getElem? (i := 72) rfl)
theorem w_73 {a0 : Array Value} {Z : State} (hw : Hw a0 Z) : (Jvm.Cond.selects "java/lang/String" ({ cls := "java/lang/String", name := "charAt", desc := "(I)C" } : Jvm.MethodName) ({ cls := "java/lang/String", name := "charAt", desc := "(I)C" } : Jvm.MethodName)).before a0 Z = true := hw _ (List.mem_of_getElem? (i := 73) rfl)
theorem w_74 {a0 : Array Value} {Z : State} (hw : Hw a0 Z) : (Jvm.Cond.code ({ cls := "java/lang/String", name := "charAt", desc := "(I)C" } : Jvm.MethodName) jdk_42_method_56_code (2 : Nat) (Option.some Jvm.ClassFile.FieldType.char)).before a0 Z = true := hw _ (List.mem_of_getElem? (i := 74) rfl)
theorem w_75 {a0 : Array Value} {Z : State} (hw : Hw a0 Z) : (Jvm.Cond.methodLink "java/lang/String" (492 : Nat) ({ cls := "java/lang/String", name := "isLatin1", desc := "()Z" } : Jvm.MethodName)).before a0 Z = true := hw _ (List.mem_of_getElem? (i := 75) rfl)
theorem w_76 {a0 : Array Value} {Z : State} (hw : Hw a0 Z) : (Jvm.Cond.declares ({ cls := "java/lang/String", name := "isLatin1", desc := "()Z" } : Jvm.MethodName)).before a0 Z = true := hw _ (List.mem_of_getElem? (i := 76) rfl)
theorem w_77 {a0 : Array Value} {Z : State} (hw : Hw a0 Z) : (Jvm.Cond.instanceMethod ({ cls := "java/lang/String", name := "isLatin1", desc := "()Z" } : Jvm.MethodName)).before a0 Z = true := hw _ (List.mem_of_getElem? (i := 77) rfl)
theorem w_78 {a0 : Array Value} {Z : State} (hw : Hw a0 Z) : (Jvm.Cond.selects "java/lang/String" ({ cls := "java/lang/String", name := "isLatin1", desc := "()Z" } : Jvm.MethodName) ({ cls := "java/lang/String", name := "isLatin1", desc := "()Z" } : Jvm.MethodName)).before a0 Z = true := hw _ (List.mem_of_getElem? (i := 78) rfl)
theorem w_79 {a0 : Array Value} {Z : State} (hw : Hw a0 Z) : (Jvm.Cond.code ({ cls := "java/lang/String", name := "isLatin1", desc := "()Z" } : Jvm.MethodName) jdk_42_method_154_code (1 : Nat) (Option.some Jvm.ClassFile.FieldType.boolean)).before a0 Z = true := hw _ (List.mem_of_getElem? (i := 79) rfl)
theorem w_80 {a0 : Array Value} {Z : State} (hw : Hw a0 Z) : (Jvm.Cond.methodLink "java/lang/String" (495 : Nat) ({ cls := "java/lang/StringLatin1", name := "charAt", desc := "([BI)C" } : Jvm.MethodName)).before a0 Z = true := hw _ (List.mem_of_getElem? (i := 80) rfl)
theorem w_81 {a0 : Array Value} {Z : State} (hw : Hw a0 Z) : (Jvm.Cond.static ({ cls := "java/lang/StringLatin1", name := "charAt", desc := "([BI)C" } : Jvm.MethodName)).before a0 Z = true := hw _ (List.mem_of_getElem? (i := 81) rfl)
theorem w_82 {a0 : Array Value} {Z : State} (hw : Hw a0 Z) : (Jvm.Cond.initialized "java/lang/StringLatin1").before a0 Z = true := hw _ (List.mem_of_getElem? (i := 82) rfl)
theorem w_83 {a0 : Array Value} {Z : State} (hw : Hw a0 Z) : (Jvm.Cond.code ({ cls := "java/lang/StringLatin1", name := "charAt", desc := "([BI)C" } : Jvm.MethodName) jdk_43_method_2_code (2 : Nat) (Option.some Jvm.ClassFile.FieldType.char)).before a0 Z = true := hw _ (List.mem_of_getElem? (i := 83) rfl)
theorem w_84 {a0 : Array Value} {Z : State} (hw : Hw a0 Z) : (Jvm.Cond.methodLink "java/lang/StringLatin1" (9 : Nat) ({ cls := "java/lang/String", name := "checkIndex", desc := "(II)V" } : Jvm.MethodName)).before a0 Z = true := hw _ (List.mem_of_getElem? (i := 84) rfl)
theorem w_85 {a0 : Array Value} {Z : State} (hw : Hw a0 Z) : (Jvm.Cond.static ({ cls := "java/lang/String", name := "checkIndex", desc := "(II)V" } : Jvm.MethodName)).before a0 Z = true := hw _ (List.mem_of_getElem? (i := 85) rfl)
theorem w_86 {a0 : Array Value} {Z : State} (hw : Hw a0 Z) : (Jvm.Cond.code ({ cls := "java/lang/String", name := "checkIndex", desc := "(II)V" } : Jvm.MethodName) jdk_42_method_155_code (2 : Nat) (Option.none : Option Jvm.ClassFile.FieldType)).before a0 Z = true := hw _ (List.mem_of_getElem? (i := 86) rfl)
theorem w_87 {a0 : Array Value} {Z : State} (hw : Hw a0 Z) : (Jvm.Cond.methodLink "java/lang/String" (1059 : Nat) ({ cls := "jdk/internal/util/Preconditions", name := "checkIndex", desc := "(IILjava/util/function/BiFunction;)I" } : Jvm.MethodName)).before a0 Z = true := hw _ (List.mem_of_getElem? (i := 87) rfl)
theorem w_88 {a0 : Array Value} {Z : State} (hw : Hw a0 Z) : (Jvm.Cond.static ({ cls := "jdk/internal/util/Preconditions", name := "checkIndex", desc := "(IILjava/util/function/BiFunction;)I" } : Jvm.MethodName)).before a0 Z = true := hw _ (List.mem_of_getElem? (i := 88) rfl)
theorem w_89 {a0 : Array Value} {Z : State} (hw : Hw a0 Z) : (Jvm.Cond.code ({ cls := "jdk/internal/util/Preconditions", name := "checkIndex", desc := "(IILjava/util/function/BiFunction;)I" } : Jvm.MethodName) jdk_41_method_11_code (3 : Nat) (Option.some Jvm.ClassFile.FieldType.int)).before a0 Z = true := hw _ (List.mem_of_getElem? (i := 89) rfl)
theorem w_90 {a0 : Array Value} {Z : State} (hw : Hw a0 Z) : (Jvm.Cond.methodLink "com/example/antiphon/antiphon/model/XmlInput" (345 : Nat) ({ cls := "com/example/antiphon/antiphon/model/XmlInput", name := "isXmlSpace", desc := "(C)Z" } : Jvm.MethodName)).before a0 Z = true := hw _ (List.mem_of_getElem? (i := 90) rfl)
theorem w_91 {a0 : Array Value} {Z : State} (hw : Hw a0 Z) : (Jvm.Cond.static ({ cls := "com/example/antiphon/antiphon/model/XmlInput", name := "isXmlSpace", desc := "(C)Z" } : Jvm.MethodName)).before a0 Z = true := hw _ (List.mem_of_getElem? (i := 91) rfl)
theorem w_92 {a0 : Array Value} {Z : State} (hw : Hw a0 Z) : (Jvm.Cond.code ({ cls := "com/example/antiphon/antiphon/model/XmlInput", name := "isXmlSpace", desc := "(C)Z" } : Jvm.MethodName) prog_111_method_25_code (1 : Nat) (Option.some Jvm.ClassFile.FieldType.boolean)).before a0 Z = true := hw _ (List.mem_of_getElem? (i := 92) rfl)
theorem w_93 {a0 : Array Value} {Z : State} (hw : Hw a0 Z) : (Jvm.Cond.methodLink "java/lang/String" (685 : Nat) ({ cls := "java/lang/StringLatin1", name := "newString", desc := "([BII)Ljava/lang/String;" } : Jvm.MethodName)).before a0 Z = true := hw _ (List.mem_of_getElem? (i := 93) rfl)
theorem w_94 {a0 : Array Value} {Z : State} (hw : Hw a0 Z) : (Jvm.Cond.static ({ cls := "java/lang/StringLatin1", name := "newString", desc := "([BII)Ljava/lang/String;" } : Jvm.MethodName)).before a0 Z = true := hw _ (List.mem_of_getElem? (i := 94) rfl)
theorem w_95 {a0 : Array Value} {Z : State} (hw : Hw a0 Z) : (Jvm.Cond.code ({ cls := "java/lang/StringLatin1", name := "newString", desc := "([BII)Ljava/lang/String;" } : Jvm.MethodName) jdk_43_method_47_code (3 : Nat) (Option.some (Jvm.ClassFile.FieldType.object "java/lang/String"))).before a0 Z = true := hw _ (List.mem_of_getElem? (i := 95) rfl)
theorem w_96 {a0 : Array Value} {Z : State} (hw : Hw a0 Z) : (Jvm.Cond.classLink "java/lang/StringLatin1" (1 : Nat) "java/lang/String").before a0 Z = true := hw _ (List.mem_of_getElem? (i := 96) rfl)
theorem w_97 {a0 : Array Value} {Z : State} (hw : Hw a0 Z) : (Jvm.Cond.methodLink "java/lang/StringLatin1" (232 : Nat) ({ cls := "java/util/Arrays", name := "copyOfRange", desc := "([BII)[B" } : Jvm.MethodName)).before a0 Z = true := hw _ (List.mem_of_getElem? (i := 97) rfl)
theorem w_98 {a0 : Array Value} {Z : State} (hw : Hw a0 Z) : (Jvm.Cond.static ({ cls := "java/util/Arrays", name := "copyOfRange", desc := "([BII)[B" } : Jvm.MethodName)).before a0 Z = true := hw _ (List.mem_of_getElem? (i := 98) rfl)
theorem w_99 {a0 : Array Value} {Z : State} (hw : Hw a0 Z) : (Jvm.Cond.initialized "java/util/Arrays").before a0 Z = true := hw _ (List.mem_of_getElem? (i := 99) rfl)
theorem w_100 {a0 : Array Value} {Z : State} (hw : Hw a0 Z) : (Jvm.Cond.code ({ cls := "java/util/Arrays", name := "copyOfRange", desc := "([BII)[B" } : Jvm.MethodName) jdk_65_method_132_code (3 : Nat) (Option.some (Jvm.ClassFile.FieldType.array Jvm.ClassFile.FieldType.byte))).before a0 Z = true := hw _ (List.mem_of_getElem? (i := 100) rfl)
theorem w_101 {a0 : Array Value} {Z : State} (hw : Hw a0 Z) : (Jvm.Cond.methodLink "java/util/Arrays" (339 : Nat) ({ cls := "java/util/Arrays", name := "copyOfRangeByte", desc := "([BII)[B" } : Jvm.MethodName)).before a0 Z = true := hw _ (List.mem_of_getElem? (i := 101) rfl)
theorem w_102 {a0 : Array Value} {Z : State} (hw : Hw a0 Z) : (Jvm.Cond.static ({ cls := "java/util/Arrays", name := "copyOfRangeByte", desc := "([BII)[B" } : Jvm.MethodName)).before a0 Z = true := hw _ (List.mem_of_getElem? (i := 102) rfl)
theorem w_103 {a0 : Array Value} {Z : State} (hw : Hw a0 Z) : (Jvm.Cond.code ({ cls := "java/util/Arrays", name := "copyOfRangeByte", desc := "([BII)[B" } : Jvm.MethodName) jdk_65_method_133_code (5 : Nat) (Option.some (Jvm.ClassFile.FieldType.array Jvm.ClassFile.FieldType.byte))).before a0 Z = true := hw _ (List.mem_of_getElem? (i := 103) rfl)
theorem w_104 {a0 : Array Value} {Z : State} (hw : Hw a0 Z) : (Jvm.Cond.methodLink "java/util/Arrays" (343 : Nat) ({ cls := "java/util/Arrays", name := "checkLength", desc := "(II)V" } : Jvm.MethodName)).before a0 Z = true := hw _ (List.mem_of_getElem? (i := 104) rfl)
theorem w_105 {a0 : Array Value} {Z : State} (hw : Hw a0 Z) : (Jvm.Cond.static ({ cls := "java/util/Arrays", name := "checkLength", desc := "(II)V" } : Jvm.MethodName)).before a0 Z = true := hw _ (List.mem_of_getElem? (i := 105) rfl)
theorem w_106 {a0 : Array Value} {Z : State} (hw : Hw a0 Z) : (Jvm.Cond.code ({ cls := "java/util/Arrays", name := "checkLength", desc := "(II)V" } : Jvm.MethodName) jdk_65_method_131_code (2 : Nat) (Option.none : Option Jvm.ClassFile.FieldType)).before a0 Z = true := hw _ (List.mem_of_getElem? (i := 106) rfl)
theorem w_107 {a0 : Array Value} {Z : State} (hw : Hw a0 Z) : (Jvm.Cond.methodLink "java/util/Arrays" (304 : Nat) ({ cls := "java/lang/Math", name := "min", desc := "(II)I" } : Jvm.MethodName)).before a0 Z = true := hw _ (List.mem_of_getElem? (i := 107) rfl)
theorem w_108 {a0 : Array Value} {Z : State} (hw : Hw a0 Z) : (Jvm.Cond.static ({ cls := "java/lang/Math", name := "min", desc := "(II)I" } : Jvm.MethodName)).before a0 Z = true := hw _ (List.mem_of_getElem? (i := 108) rfl)
theorem w_109 {a0 : Array Value} {Z : State} (hw : Hw a0 Z) : (Jvm.Cond.initialized "java/lang/Math").before a0 Z = true := hw _ (List.mem_of_getElem? (i := 109) rfl)
theorem w_110 {a0 : Array Value} {Z : State} (hw : Hw a0 Z) : (Jvm.Cond.code ({ cls := "java/lang/Math", name := "min", desc := "(II)I" } : Jvm.MethodName) jdk_29_method_69_code (2 : Nat) (Option.some Jvm.ClassFile.FieldType.int)).before a0 Z = true := hw _ (List.mem_of_getElem? (i := 110) rfl)
theorem w_111 {a0 : Array Value} {Z : State} (hw : Hw a0 Z) : (Jvm.Cond.methodLink "java/util/Arrays" (150 : Nat) ({ cls := "java/lang/System", name := "arraycopy", desc := "(Ljava/lang/Object;ILjava/lang/Object;II)V" } : Jvm.MethodName)).before a0 Z = true := hw _ (List.mem_of_getElem? (i := 111) rfl)
theorem w_112 {a0 : Array Value} {Z : State} (hw : Hw a0 Z) : (Jvm.Cond.static ({ cls := "java/lang/System", name := "arraycopy", desc := "(Ljava/lang/Object;ILjava/lang/Object;II)V" } : Jvm.MethodName)).before a0 Z = true := hw _ (List.mem_of_getElem? (i := 112) rfl)
theorem w_113 {a0 : Array Value} {Z : State} (hw : Hw a0 Z) : (Jvm.Cond.initialized "java/lang/System").before a0 Z = true := hw _ (List.mem_of_getElem? (i := 113) rfl)
theorem w_114 {a0 : Array Value} {Z : State} (hw : Hw a0 Z) : (Jvm.Cond.native ({ cls := "java/lang/System", name := "arraycopy", desc := "(Ljava/lang/Object;ILjava/lang/Object;II)V" } : Jvm.MethodName)).before a0 Z = true := hw _ (List.mem_of_getElem? (i := 114) rfl)
theorem w_115 {a0 : Array Value} {Z : State} (hw : Hw a0 Z) : (Jvm.Cond.methodLink "java/lang/StringLatin1" (112 : Nat) ({ cls := "java/lang/String", name := "<init>", desc := "([BB)V" } : Jvm.MethodName)).before a0 Z = true := hw _ (List.mem_of_getElem? (i := 115) rfl)
theorem w_116 {a0 : Array Value} {Z : State} (hw : Hw a0 Z) : (Jvm.Cond.instanceMethod ({ cls := "java/lang/String", name := "<init>", desc := "([BB)V" } : Jvm.MethodName)).before a0 Z = true := hw _ (List.mem_of_getElem? (i := 116) rfl)
theorem w_117 {a0 : Array Value} {Z : State} (hw : Hw a0 Z) : (Jvm.Cond.code ({ cls := "java/lang/String", name := "<init>", desc := "([BB)V" } : Jvm.MethodName) jdk_42_method_151_code (3 : Nat) (Option.none : Option Jvm.ClassFile.FieldType)).before a0 Z = true := hw _ (List.mem_of_getElem? (i := 117) rfl)
theorem w_118 {a0 : Array Value} {Z : State} (hw : Hw a0 Z) : (Jvm.Cond.methodLink "com/example/antiphon/antiphon/model/XmlInputTrimmedPinLaw" (33 : Nat) ({ cls := "java/lang/String", name := "charAt", desc := "(I)C" } : Jvm.MethodName)).before a0 Z = true := hw _ (List.mem_of_getElem? (i := 118) rfl)
theorem w_119 {a0 : Array Value} {Z : State} (hw : Hw a0 Z) : (Jvm.Cond.stringLink "java/lang/StringLatin1" (151 : Nat) "").before a0 Z = true := hw _ (List.mem_of_getElem? (i := 119) rfl)
theorem d25_0 : decode jdk_29_method_69_code 0 = .ok (.iload_n 0, 1) := by decide +kernel
theorem d25_1 : decode jdk_29_method_69_code 1 = .ok (.iload_n 1, 1) := by decide +kernel
theorem d25_2 : decode jdk_29_method_69_code 2 = .ok (.if_icmp .gt 7, 3) := by decide +kernel
theorem d25_5 : decode jdk_29_method_69_code 5 = .ok (.iload_n 0, 1) := by decide +kernel
theorem d25_6 : decode jdk_29_method_69_code 6 = .ok (.goto 4, 3) := by decide +kernel
theorem d25_9 : decode jdk_29_method_69_code 9 = .ok (.iload_n 1, 1) := by decide +kernel
theorem d25_10 : decode jdk_29_method_69_code 10 = .ok (.ireturn, 1) := by decide +kernel
theorem d19_0 : decode jdk_41_method_11_code 0 = .ok (.iload_n 0, 1) := by decide +kernel
theorem d19_1 : decode jdk_41_method_11_code 1 = .ok (.ifCond .lt 8, 3) := by decide +kernel
theorem d19_4 : decode jdk_41_method_11_code 4 = .ok (.iload_n 0, 1) := by decide +kernel
theorem d19_5 : decode jdk_41_method_11_code 5 = .ok (.iload_n 1, 1) := by decide +kernel
theorem d19_6 : decode jdk_41_method_11_code 6 = .ok (.if_icmp .lt 10, 3) := by decide +kernel
theorem d19_16 : decode jdk_41_method_11_code 16 = .ok (.iload_n 0, 1) := by decide +kernel
theorem d19_17 : decode jdk_41_method_11_code 17 = .ok (.ireturn, 1) := by decide +kernel
theorem d10_0 : decode jdk_41_method_12_code 0 = .ok (.iload_n 0, 1) := by decide +kernel
theorem d10_1 : decode jdk_41_method_12_code 1 = .ok (.ifCond .lt 13, 3) := by decide +kernel
theorem d10_4 : decode jdk_41_method_12_code 4 = .ok (.iload_n 0, 1) := by decide +kernel
theorem d10_5 : decode jdk_41_method_12_code 5 = .ok (.iload_n 1, 1) := by decide +kernel
theorem d10_6 : decode jdk_41_method_12_code 6 = .ok (.if_icmp .gt 8, 3) := by decide +kernel
theorem d10_9 : decode jdk_41_method_12_code 9 = .ok (.iload_n 1, 1) := by decide +kernel
theorem d10_10 : decode jdk_41_method_12_code 10 = .ok (.iload_n 2, 1) := by decide +kernel
theorem d10_11 : decode jdk_41_method_12_code 11 = .ok (.if_icmp .le 11, 3) := by decide +kernel
theorem d10_22 : decode jdk_41_method_12_code 22 = .ok (.iload_n 0, 1) := by decide +kernel
theorem d10_23 : decode jdk_41_method_12_code 23 = .ok (.ireturn, 1) := by decide +kernel
theorem d3_0 : decode jdk_42_method_149_code 0 = .ok (.aload_n 0, 1) := by decide +kernel
theorem d3_1 : decode jdk_42_method_149_code 1 = .ok (.invokespecial 1, 3) := by decide +kernel
theorem d3_4 : decode jdk_42_method_149_code 4 = .ok (.iload_n 3, 1) := by decide +kernel
theorem d3_5 : decode jdk_42_method_149_code 5 = .ok (.ifCond .ne 22, 3) := by decide +kernel
theorem d3_8 : decode jdk_42_method_149_code 8 = .ok (.aload_n 0, 1) := by decide +kernel
theorem d3_9 : decode jdk_42_method_149_code 9 = .ok (.ldc 7, 2) := by decide +kernel
theorem d3_11 : decode jdk_42_method_149_code 11 = .ok (.getfield 9, 3) := by decide +kernel
theorem d3_14 : decode jdk_42_method_149_code 14 = .ok (.putfield 9, 3) := by decide +kernel
theorem d3_17 : decode jdk_42_method_149_code 17 = .ok (.aload_n 0, 1) := by decide +kernel
theorem d3_18 : decode jdk_42_method_149_code 18 = .ok (.ldc 7, 2) := by decide +kernel
theorem d3_20 : decode jdk_42_method_149_code 20 = .ok (.getfield 15, 3) := by decide +kernel
theorem d3_23 : decode jdk_42_method_149_code 23 = .ok (.putfield 15, 3) := by decide +kernel
theorem d3_26 : decode jdk_42_method_149_code 26 = .ok (.return_, 1) := by decide +kernel
theorem d26_0 : decode jdk_42_method_151_code 0 = .ok (.aload_n 0, 1) := by decide +kernel
theorem d26_1 : decode jdk_42_method_151_code 1 = .ok (.invokespecial 1, 3) := by decide +kernel
theorem d26_4 : decode jdk_42_method_151_code 4 = .ok (.aload_n 0, 1) := by decide +kernel
theorem d26_5 : decode jdk_42_method_151_code 5 = .ok (.aload_n 1, 1) := by decide +kernel
theorem d26_6 : decode jdk_42_method_151_code 6 = .ok (.putfield 9, 3) := by decide +kernel
theorem d26_9 : decode jdk_42_method_151_code 9 = .ok (.aload_n 0, 1) := by decide +kernel
theorem d26_10 : decode jdk_42_method_151_code 10 = .ok (.iload_n 2, 1) := by decide +kernel
theorem d26_11 : decode jdk_42_method_151_code 11 = .ok (.putfield 15, 3) := by decide +kernel
theorem d26_14 : decode jdk_42_method_151_code 14 = .ok (.return_, 1) := by decide +kernel
theorem d7_0 : decode jdk_42_method_152_code 0 = .ok (.getstatic 38, 3) := by decide +kernel
theorem d7_3 : decode jdk_42_method_152_code 3 = .ok (.ifCond .eq 10, 3) := by decide +kernel
theorem d7_6 : decode jdk_42_method_152_code 6 = .ok (.aload_n 0, 1) := by decide +kernel
theorem d7_7 : decode jdk_42_method_152_code 7 = .ok (.getfield 15, 3) := by decide +kernel
theorem d7_10 : decode jdk_42_method_152_code 10 = .ok (.goto 4, 3) := by decide +kernel
theorem d7_14 : decode jdk_42_method_152_code 14 = .ok (.ireturn, 1) := by decide +kernel
theorem d16_0 : decode jdk_42_method_154_code 0 = .ok (.getstatic 38, 3) := by decide +kernel
theorem d16_3 : decode jdk_42_method_154_code 3 = .ok (.ifCond .eq 14, 3) := by decide +kernel
theorem d16_6 : decode jdk_42_method_154_code 6 = .ok (.aload_n 0, 1) := by decide +kernel
theorem d16_7 : decode jdk_42_method_154_code 7 = .ok (.getfield 15, 3) := by decide +kernel
theorem d16_10 : decode jdk_42_method_154_code 10 = .ok (.ifCond .ne 7, 3) := by decide +kernel
theorem d16_13 : decode jdk_42_method_154_code 13 = .ok (.iconst 1, 1) := by decide +kernel
theorem d16_14 : decode jdk_42_method_154_code 14 = .ok (.goto 4, 3) := by decide +kernel
theorem d16_18 : decode jdk_42_method_154_code 18 = .ok (.ireturn, 1) := by decide +kernel
theorem d18_0 : decode jdk_42_method_155_code 0 = .ok (.iload_n 0, 1) := by decide +kernel
theorem d18_1 : decode jdk_42_method_155_code 1 = .ok (.iload_n 1, 1) := by decide +kernel
theorem d18_2 : decode jdk_42_method_155_code 2 = .ok (.getstatic 1053, 3) := by decide +kernel
theorem d18_5 : decode jdk_42_method_155_code 5 = .ok (.invokestatic 1059, 3) := by decide +kernel
theorem d18_8 : decode jdk_42_method_155_code 8 = .ok (.pop, 1) := by decide +kernel
theorem d18_9 : decode jdk_42_method_155_code 9 = .ok (.return_, 1) := by decide +kernel
theorem d9_0 : decode jdk_42_method_158_code 0 = .ok (.iload_n 0, 1) := by decide +kernel
theorem d9_1 : decode jdk_42_method_158_code 1 = .ok (.iload_n 1, 1) := by decide +kernel
theorem d9_2 : decode jdk_42_method_158_code 2 = .ok (.iload_n 2, 1) := by decide +kernel
theorem d9_3 : decode jdk_42_method_158_code 3 = .ok (.getstatic 1053, 3) := by decide +kernel
theorem d9_6 : decode jdk_42_method_158_code 6 = .ok (.invokestatic 1062, 3) := by decide +kernel
theorem d9_9 : decode jdk_42_method_158_code 9 = .ok (.pop, 1) := by decide +kernel
theorem d9_10 : decode jdk_42_method_158_code 10 = .ok (.return_, 1) := by decide +kernel
theorem d2_0 : decode jdk_42_method_3_code 0 = .ok (.aload_n 0, 1) := by decide +kernel
theorem d2_1 : decode jdk_42_method_3_code 1 = .ok (.aload_n 1, 1) := by decide +kernel
theorem d2_2 : decode jdk_42_method_3_code 2 = .ok (.iconst 0, 1) := by decide +kernel
theorem d2_3 : decode jdk_42_method_3_code 3 = .ok (.aload_n 1, 1) := by decide +kernel
theorem d2_4 : decode jdk_42_method_3_code 4 = .ok (.arraylength, 1) := by decide +kernel
theorem d2_5 : decode jdk_42_method_3_code 5 = .ok (.aconst_null, 1) := by decide +kernel
theorem d2_6 : decode jdk_42_method_3_code 6 = .ok (.invokespecial 27, 3) := by decide +kernel
theorem d2_9 : decode jdk_42_method_3_code 9 = .ok (.return_, 1) := by decide +kernel
theorem d6_0 : decode jdk_42_method_54_code 0 = .ok (.aload_n 0, 1) := by decide +kernel
theorem d6_1 : decode jdk_42_method_54_code 1 = .ok (.getfield 9, 3) := by decide +kernel
theorem d6_4 : decode jdk_42_method_54_code 4 = .ok (.arraylength, 1) := by decide +kernel
theorem d6_5 : decode jdk_42_method_54_code 5 = .ok (.aload_n 0, 1) := by decide +kernel
theorem d6_6 : decode jdk_42_method_54_code 6 = .ok (.invokevirtual 335, 3) := by decide +kernel
theorem d6_9 : decode jdk_42_method_54_code 9 = .ok (.ishr, 1) := by decide +kernel
theorem d6_10 : decode jdk_42_method_54_code 10 = .ok (.ireturn, 1) := by decide +kernel
theorem d15_0 : decode jdk_42_method_56_code 0 = .ok (.aload_n 0, 1) := by decide +kernel
theorem d15_1 : decode jdk_42_method_56_code 1 = .ok (.invokevirtual 492, 3) := by decide +kernel
theorem d15_4 : decode jdk_42_method_56_code 4 = .ok (.ifCond .eq 12, 3) := by decide +kernel
theorem d15_7 : decode jdk_42_method_56_code 7 = .ok (.aload_n 0, 1) := by decide +kernel
theorem d15_8 : decode jdk_42_method_56_code 8 = .ok (.getfield 9, 3) := by decide +kernel
theorem d15_11 : decode jdk_42_method_56_code 11 = .ok (.iload_n 1, 1) := by decide +kernel
theorem d15_12 : decode jdk_42_method_56_code 12 = .ok (.invokestatic 495, 3) := by decide +kernel
theorem d15_15 : decode jdk_42_method_56_code 15 = .ok (.ireturn, 1) := by decide +kernel
theorem d8_0 : decode jdk_42_method_92_code 0 = .ok (.aload_n 0, 1) := by decide +kernel
theorem d8_1 : decode jdk_42_method_92_code 1 = .ok (.invokevirtual 505, 3) := by decide +kernel
theorem d8_4 : decode jdk_42_method_92_code 4 = .ok (.istore_n 3, 1) := by decide +kernel
theorem d8_5 : decode jdk_42_method_92_code 5 = .ok (.iload_n 1, 1) := by decide +kernel
theorem d8_6 : decode jdk_42_method_92_code 6 = .ok (.iload_n 2, 1) := by decide +kernel
theorem d8_7 : decode jdk_42_method_92_code 7 = .ok (.iload_n 3, 1) := by decide +kernel
theorem d8_8 : decode jdk_42_method_92_code 8 = .ok (.invokestatic 521, 3) := by decide +kernel
theorem d8_11 : decode jdk_42_method_92_code 11 = .ok (.iload_n 1, 1) := by decide +kernel
theorem d8_12 : decode jdk_42_method_92_code 12 = .ok (.ifCond .ne 10, 3) := by decide +kernel
theorem d8_15 : decode jdk_42_method_92_code 15 = .ok (.iload_n 2, 1) := by decide +kernel
theorem d8_16 : decode jdk_42_method_92_code 16 = .ok (.iload_n 3, 1) := by decide +kernel
theorem d8_17 : decode jdk_42_method_92_code 17 = .ok (.if_icmp .ne 5, 3) := by decide +kernel
theorem d8_20 : decode jdk_42_method_92_code 20 = .ok (.aload_n 0, 1) := by decide +kernel
theorem d8_21 : decode jdk_42_method_92_code 21 = .ok (.areturn, 1) := by decide +kernel
theorem d8_22 : decode jdk_42_method_92_code 22 = .ok (.iload_n 2, 1) := by decide +kernel
theorem d8_23 : decode jdk_42_method_92_code 23 = .ok (.iload_n 1, 1) := by decide +kernel
theorem d8_24 : decode jdk_42_method_92_code 24 = .ok (.isub, 1) := by decide +kernel
theorem d8_25 : decode jdk_42_method_92_code 25 = .ok (.istore 4, 2) := by decide +kernel
theorem d8_27 : decode jdk_42_method_92_code 27 = .ok (.aload_n 0, 1) := by decide +kernel
theorem d8_28 : decode jdk_42_method_92_code 28 = .ok (.invokevirtual 492, 3) := by decide +kernel
theorem d8_31 : decode jdk_42_method_92_code 31 = .ok (.ifCond .eq 16, 3) := by decide +kernel
theorem d8_34 : decode jdk_42_method_92_code 34 = .ok (.aload_n 0, 1) := by decide +kernel
theorem d8_35 : decode jdk_42_method_92_code 35 = .ok (.getfield 9, 3) := by decide +kernel
theorem d8_38 : decode jdk_42_method_92_code 38 = .ok (.iload_n 1, 1) := by decide +kernel
theorem d8_39 : decode jdk_42_method_92_code 39 = .ok (.iload 4, 2) := by decide +kernel
theorem d8_41 : decode jdk_42_method_92_code 41 = .ok (.invokestatic 685, 3) := by decide +kernel
theorem d8_44 : decode jdk_42_method_92_code 44 = .ok (.goto 13, 3) := by decide +kernel
theorem d8_57 : decode jdk_42_method_92_code 57 = .ok (.areturn, 1) := by decide +kernel
theorem d17_0 : decode jdk_43_method_2_code 0 = .ok (.iload_n 1, 1) := by decide +kernel
theorem d17_1 : decode jdk_43_method_2_code 1 = .ok (.aload_n 0, 1) := by decide +kernel
theorem d17_2 : decode jdk_43_method_2_code 2 = .ok (.arraylength, 1) := by decide +kernel
theorem d17_3 : decode jdk_43_method_2_code 3 = .ok (.invokestatic 9, 3) := by decide +kernel
theorem d17_6 : decode jdk_43_method_2_code 6 = .ok (.aload_n 0, 1) := by decide +kernel
theorem d17_7 : decode jdk_43_method_2_code 7 = .ok (.iload_n 1, 1) := by decide +kernel
theorem d17_8 : decode jdk_43_method_2_code 8 = .ok (.baload, 1) := by decide +kernel
theorem d17_9 : decode jdk_43_method_2_code 9 = .ok (.sipush 255, 3) := by decide +kernel
theorem d17_12 : decode jdk_43_method_2_code 12 = .ok (.iand, 1) := by decide +kernel
theorem d17_13 : decode jdk_43_method_2_code 13 = .ok (.i2c, 1) := by decide +kernel
theorem d17_14 : decode jdk_43_method_2_code 14 = .ok (.ireturn, 1) := by decide +kernel
theorem d21_0 : decode jdk_43_method_47_code 0 = .ok (.iload_n 2, 1) := by decide +kernel
theorem d21_1 : decode jdk_43_method_47_code 1 = .ok (.ifCond .ne 6, 3) := by decide +kernel
theorem d21_4 : decode jdk_43_method_47_code 4 = .ok (.ldc 151, 2) := by decide +kernel
theorem d21_6 : decode jdk_43_method_47_code 6 = .ok (.areturn, 1) := by decide +kernel
theorem d21_7 : decode jdk_43_method_47_code 7 = .ok (.new 1, 3) := by decide +kernel
theorem d21_10 : decode jdk_43_method_47_code 10 = .ok (.dup, 1) := by decide +kernel
theorem d21_11 : decode jdk_43_method_47_code 11 = .ok (.aload_n 0, 1) := by decide +kernel
theorem d21_12 : decode jdk_43_method_47_code 12 = .ok (.iload_n 1, 1) := by decide +kernel
theorem d21_13 : decode jdk_43_method_47_code 13 = .ok (.iload_n 1, 1) := by decide +kernel
theorem d21_14 : decode jdk_43_method_47_code 14 = .ok (.iload_n 2, 1) := by decide +kernel
theorem d21_15 : decode jdk_43_method_47_code 15 = .ok (.iadd, 1) := by decide +kernel
theorem d21_16 : decode jdk_43_method_47_code 16 = .ok (.invokestatic 232, 3) := by decide +kernel
theorem d21_19 : decode jdk_43_method_47_code 19 = .ok (.iconst 0, 1) := by decide +kernel
theorem d21_20 : decode jdk_43_method_47_code 20 = .ok (.invokespecial 112, 3) := by decide +kernel
theorem d21_23 : decode jdk_43_method_47_code 23 = .ok (.areturn, 1) := by decide +kernel
theorem d24_0 : decode jdk_65_method_131_code 0 = .ok (.iload_n 1, 1) := by decide +kernel
theorem d24_1 : decode jdk_65_method_131_code 1 = .ok (.iload_n 0, 1) := by decide +kernel
theorem d24_2 : decode jdk_65_method_131_code 2 = .ok (.if_icmp .ge 35, 3) := by decide +kernel
theorem d24_37 : decode jdk_65_method_131_code 37 = .ok (.return_, 1) := by decide +kernel
theorem d22_0 : decode jdk_65_method_132_code 0 = .ok (.iload_n 1, 1) := by decide +kernel
theorem d22_1 : decode jdk_65_method_132_code 1 = .ok (.ifCond .ne 9, 3) := by decide +kernel
theorem d22_4 : decode jdk_65_method_132_code 4 = .ok (.iload_n 2, 1) := by decide +kernel
theorem d22_5 : decode jdk_65_method_132_code 5 = .ok (.aload_n 0, 1) := by decide +kernel
theorem d22_6 : decode jdk_65_method_132_code 6 = .ok (.arraylength, 1) := by decide +kernel
theorem d22_7 : decode jdk_65_method_132_code 7 = .ok (.if_icmp .eq 10, 3) := by decide +kernel
theorem d22_10 : decode jdk_65_method_132_code 10 = .ok (.aload_n 0, 1) := by decide +kernel
theorem d22_11 : decode jdk_65_method_132_code 11 = .ok (.iload_n 1, 1) := by decide +kernel
theorem d22_12 : decode jdk_65_method_132_code 12 = .ok (.iload_n 2, 1) := by decide +kernel
theorem d22_13 : decode jdk_65_method_132_code 13 = .ok (.invokestatic 339, 3) := by decide +kernel
theorem d22_16 : decode jdk_65_method_132_code 16 = .ok (.areturn, 1) := by decide +kernel
theorem d23_0 : decode jdk_65_method_133_code 0 = .ok (.iload_n 1, 1) := by decide +kernel
theorem d23_1 : decode jdk_65_method_133_code 1 = .ok (.iload_n 2, 1) := by decide +kernel
theorem d23_2 : decode jdk_65_method_133_code 2 = .ok (.invokestatic 343, 3) := by decide +kernel
theorem d23_5 : decode jdk_65_method_133_code 5 = .ok (.iload_n 2, 1) := by decide +kernel
theorem d23_6 : decode jdk_65_method_133_code 6 = .ok (.iload_n 1, 1) := by decide +kernel
theorem d23_7 : decode jdk_65_method_133_code 7 = .ok (.isub, 1) := by decide +kernel
theorem d23_8 : decode jdk_65_method_133_code 8 = .ok (.istore_n 3, 1) := by decide +kernel
theorem d23_9 : decode jdk_65_method_133_code 9 = .ok (.iload_n 3, 1) := by decide +kernel
theorem d23_10 : decode jdk_65_method_133_code 10 = .ok (.newarray .byte, 2) := by decide +kernel
theorem d23_12 : decode jdk_65_method_133_code 12 = .ok (.astore 4, 2) := by decide +kernel
theorem d23_14 : decode jdk_65_method_133_code 14 = .ok (.aload_n 0, 1) := by decide +kernel
theorem d23_15 : decode jdk_65_method_133_code 15 = .ok (.iload_n 1, 1) := by decide +kernel
theorem d23_16 : decode jdk_65_method_133_code 16 = .ok (.aload 4, 2) := by decide +kernel
theorem d23_18 : decode jdk_65_method_133_code 18 = .ok (.iconst 0, 1) := by decide +kernel
theorem d23_19 : decode jdk_65_method_133_code 19 = .ok (.aload_n 0, 1) := by decide +kernel
theorem d23_20 : decode jdk_65_method_133_code 20 = .ok (.arraylength, 1) := by decide +kernel
theorem d23_21 : decode jdk_65_method_133_code 21 = .ok (.iload_n 1, 1) := by decide +kernel
theorem d23_22 : decode jdk_65_method_133_code 22 = .ok (.isub, 1) := by decide +kernel
theorem d23_23 : decode jdk_65_method_133_code 23 = .ok (.iload_n 3, 1) := by decide +kernel
theorem d23_24 : decode jdk_65_method_133_code 24 = .ok (.invokestatic 304, 3) := by decide +kernel
theorem d23_27 : decode jdk_65_method_133_code 27 = .ok (.invokestatic 150, 3) := by decide +kernel
theorem d23_30 : decode jdk_65_method_133_code 30 = .ok (.aload 4, 2) := by decide +kernel
theorem d23_32 : decode jdk_65_method_133_code 32 = .ok (.areturn, 1) := by decide +kernel
theorem d1_0 : decode method_2_code 0 = .ok (.iload_n 0, 1) := by decide +kernel
theorem d1_1 : decode method_2_code 1 = .ok (.bipush 7, 2) := by decide +kernel
theorem d1_3 : decode method_2_code 3 = .ok (.iand, 1) := by decide +kernel
theorem d1_4 : decode method_2_code 4 = .ok (.istore_n 1, 1) := by decide +kernel
theorem d1_5 : decode method_2_code 5 = .ok (.iload_n 1, 1) := by decide +kernel
theorem d1_6 : decode method_2_code 6 = .ok (.ifCond .ne 6, 3) := by decide +kernel
theorem d1_9 : decode method_2_code 9 = .ok (.bipush 32, 2) := by decide +kernel
theorem d1_11 : decode method_2_code 11 = .ok (.ireturn, 1) := by decide +kernel
theorem d1_12 : decode method_2_code 12 = .ok (.iload_n 1, 1) := by decide +kernel
theorem d1_13 : decode method_2_code 13 = .ok (.iconst 1, 1) := by decide +kernel
theorem d1_14 : decode method_2_code 14 = .ok (.if_icmp .ne 6, 3) := by decide +kernel
theorem d1_17 : decode method_2_code 17 = .ok (.bipush 9, 2) := by decide +kernel
theorem d1_19 : decode method_2_code 19 = .ok (.ireturn, 1) := by decide +kernel
theorem d1_20 : decode method_2_code 20 = .ok (.iload_n 1, 1) := by decide +kernel
theorem d1_21 : decode method_2_code 21 = .ok (.iconst 2, 1) := by decide +kernel
theorem d1_22 : decode method_2_code 22 = .ok (.if_icmp .ne 6, 3) := by decide +kernel
theorem d1_25 : decode method_2_code 25 = .ok (.bipush 13, 2) := by decide +kernel
theorem d1_27 : decode method_2_code 27 = .ok (.ireturn, 1) := by decide +kernel
theorem d1_28 : decode method_2_code 28 = .ok (.iload_n 1, 1) := by decide +kernel
theorem d1_29 : decode method_2_code 29 = .ok (.iconst 3, 1) := by decide +kernel
theorem d1_30 : decode method_2_code 30 = .ok (.if_icmp .ne 6, 3) := by decide +kernel
theorem d1_33 : decode method_2_code 33 = .ok (.bipush 10, 2) := by decide +kernel
theorem d1_35 : decode method_2_code 35 = .ok (.ireturn, 1) := by decide +kernel
theorem d1_36 : decode method_2_code 36 = .ok (.iload_n 0, 1) := by decide +kernel
theorem d1_37 : decode method_2_code 37 = .ok (.iconst 3, 1) := by decide +kernel
theorem d1_38 : decode method_2_code 38 = .ok (.iushr, 1) := by decide +kernel
theorem d1_39 : decode method_2_code 39 = .ok (.sipush 255, 3) := by decide +kernel
theorem d1_42 : decode method_2_code 42 = .ok (.iand, 1) := by decide +kernel
theorem d1_43 : decode method_2_code 43 = .ok (.i2c, 1) := by decide +kernel
theorem d1_44 : decode method_2_code 44 = .ok (.ireturn, 1) := by decide +kernel
theorem d14_0 : decode method_3_code 0 = .ok (.iload_n 0, 1) := by decide +kernel
theorem d14_1 : decode method_3_code 1 = .ok (.bipush 32, 2) := by decide +kernel
theorem d14_3 : decode method_3_code 3 = .ok (.if_icmp .eq 21, 3) := by decide +kernel
theorem d14_6 : decode method_3_code 6 = .ok (.iload_n 0, 1) := by decide +kernel
theorem d14_7 : decode method_3_code 7 = .ok (.bipush 9, 2) := by decide +kernel
theorem d14_9 : decode method_3_code 9 = .ok (.if_icmp .eq 15, 3) := by decide +kernel
theorem d14_12 : decode method_3_code 12 = .ok (.iload_n 0, 1) := by decide +kernel
theorem d14_13 : decode method_3_code 13 = .ok (.bipush 13, 2) := by decide +kernel
theorem d14_15 : decode method_3_code 15 = .ok (.if_icmp .eq 9, 3) := by decide +kernel
theorem d14_18 : decode method_3_code 18 = .ok (.iload_n 0, 1) := by decide +kernel
theorem d14_19 : decode method_3_code 19 = .ok (.bipush 10, 2) := by decide +kernel
theorem d14_21 : decode method_3_code 21 = .ok (.if_icmp .ne 7, 3) := by decide +kernel
theorem d14_24 : decode method_3_code 24 = .ok (.iconst 1, 1) := by decide +kernel
theorem d14_25 : decode method_3_code 25 = .ok (.goto 4, 3) := by decide +kernel
theorem d14_28 : decode method_3_code 28 = .ok (.iconst 0, 1) := by decide +kernel
theorem d14_29 : decode method_3_code 29 = .ok (.ireturn, 1) := by decide +kernel
theorem d5_0 : decode prog_111_method_24_code 0 = .ok (.iconst 0, 1) := by decide +kernel
theorem d5_1 : decode prog_111_method_24_code 1 = .ok (.istore_n 1, 1) := by decide +kernel
theorem d5_2 : decode prog_111_method_24_code 2 = .ok (.aload_n 0, 1) := by decide +kernel
theorem d5_3 : decode prog_111_method_24_code 3 = .ok (.invokevirtual 335, 3) := by decide +kernel
theorem d5_6 : decode prog_111_method_24_code 6 = .ok (.istore_n 2, 1) := by decide +kernel
theorem d5_7 : decode prog_111_method_24_code 7 = .ok (.iload_n 1, 1) := by decide +kernel
theorem d5_8 : decode prog_111_method_24_code 8 = .ok (.iload_n 2, 1) := by decide +kernel
theorem d5_9 : decode prog_111_method_24_code 9 = .ok (.if_icmp .ge 20, 3) := by decide +kernel
theorem d5_12 : decode prog_111_method_24_code 12 = .ok (.aload_n 0, 1) := by decide +kernel
theorem d5_13 : decode prog_111_method_24_code 13 = .ok (.iload_n 1, 1) := by decide +kernel
theorem d5_14 : decode prog_111_method_24_code 14 = .ok (.invokevirtual 341, 3) := by decide +kernel
theorem d5_17 : decode prog_111_method_24_code 17 = .ok (.invokestatic 345, 3) := by decide +kernel
theorem d5_20 : decode prog_111_method_24_code 20 = .ok (.ifCond .eq 9, 3) := by decide +kernel
theorem d5_23 : decode prog_111_method_24_code 23 = .ok (.iinc 1 1, 3) := by decide +kernel
theorem d5_26 : decode prog_111_method_24_code 26 = .ok (.goto (-19), 3) := by decide +kernel
theorem d5_29 : decode prog_111_method_24_code 29 = .ok (.iload_n 2, 1) := by decide +kernel
theorem d5_30 : decode prog_111_method_24_code 30 = .ok (.iload_n 1, 1) := by decide +kernel
theorem d5_31 : decode prog_111_method_24_code 31 = .ok (.if_icmp .le 22, 3) := by decide +kernel
theorem d5_34 : decode prog_111_method_24_code 34 = .ok (.aload_n 0, 1) := by decide +kernel
theorem d5_35 : decode prog_111_method_24_code 35 = .ok (.iload_n 2, 1) := by decide +kernel
theorem d5_36 : decode prog_111_method_24_code 36 = .ok (.iconst 1, 1) := by decide +kernel
theorem d5_37 : decode prog_111_method_24_code 37 = .ok (.isub, 1) := by decide +kernel
theorem d5_38 : decode prog_111_method_24_code 38 = .ok (.invokevirtual 341, 3) := by decide +kernel
theorem d5_41 : decode prog_111_method_24_code 41 = .ok (.invokestatic 345, 3) := by decide +kernel
theorem d5_44 : decode prog_111_method_24_code 44 = .ok (.ifCond .eq 9, 3) := by decide +kernel
theorem d5_47 : decode prog_111_method_24_code 47 = .ok (.iinc 2 (-1), 3) := by decide +kernel
theorem d5_50 : decode prog_111_method_24_code 50 = .ok (.goto (-21), 3) := by decide +kernel
theorem d5_53 : decode prog_111_method_24_code 53 = .ok (.aload_n 0, 1) := by decide +kernel
theorem d5_54 : decode prog_111_method_24_code 54 = .ok (.iload_n 1, 1) := by decide +kernel
theorem d5_55 : decode prog_111_method_24_code 55 = .ok (.iload_n 2, 1) := by decide +kernel
theorem d5_56 : decode prog_111_method_24_code 56 = .ok (.invokevirtual 327, 3) := by decide +kernel
theorem d5_59 : decode prog_111_method_24_code 59 = .ok (.areturn, 1) := by decide +kernel
theorem d20_0 : decode prog_111_method_25_code 0 = .ok (.iload_n 0, 1) := by decide +kernel
theorem d20_1 : decode prog_111_method_25_code 1 = .ok (.bipush 32, 2) := by decide +kernel
theorem d20_3 : decode prog_111_method_25_code 3 = .ok (.if_icmp .eq 21, 3) := by decide +kernel
theorem d20_6 : decode prog_111_method_25_code 6 = .ok (.iload_n 0, 1) := by decide +kernel
theorem d20_7 : decode prog_111_method_25_code 7 = .ok (.bipush 9, 2) := by decide +kernel
theorem d20_9 : decode prog_111_method_25_code 9 = .ok (.if_icmp .eq 15, 3) := by decide +kernel
theorem d20_12 : decode prog_111_method_25_code 12 = .ok (.iload_n 0, 1) := by decide +kernel
theorem d20_13 : decode prog_111_method_25_code 13 = .ok (.bipush 13, 2) := by decide +kernel
theorem d20_15 : decode prog_111_method_25_code 15 = .ok (.if_icmp .eq 9, 3) := by decide +kernel
theorem d20_18 : decode prog_111_method_25_code 18 = .ok (.iload_n 0, 1) := by decide +kernel
theorem d20_19 : decode prog_111_method_25_code 19 = .ok (.bipush 10, 2) := by decide +kernel
theorem d20_21 : decode prog_111_method_25_code 21 = .ok (.if_icmp .ne 7, 3) := by decide +kernel
theorem d20_24 : decode prog_111_method_25_code 24 = .ok (.iconst 1, 1) := by decide +kernel
theorem d20_25 : decode prog_111_method_25_code 25 = .ok (.goto 4, 3) := by decide +kernel
theorem d20_28 : decode prog_111_method_25_code 28 = .ok (.iconst 0, 1) := by decide +kernel
theorem d20_29 : decode prog_111_method_25_code 29 = .ok (.ireturn, 1) := by decide +kernel
theorem pd_0 : parseMethodDescriptor "([CIILjava/lang/Void;)V" = some ⟨[(.array .char), .int, .int, (.object "java/lang/Void")], none⟩ := by decide +kernel
theorem pd_1 : parseMethodDescriptor "()B" = some ⟨[], some .byte⟩ := by decide +kernel
theorem pd_2 : parseMethodDescriptor "(IILjava/util/function/BiFunction;)I" = some ⟨[.int, .int, (.object "java/util/function/BiFunction")], some .int⟩ := by decide +kernel
theorem pd_3 : parseMethodDescriptor "(II)V" = some ⟨[.int, .int], none⟩ := by decide +kernel
theorem pd_4 : parseMethodDescriptor "()Z" = some ⟨[], some .boolean⟩ := by decide +kernel
theorem pd_5 : parseMethodDescriptor "([BI)C" = some ⟨[(.array .byte), .int], some .char⟩ := by decide +kernel
theorem pd_6 : parseMethodDescriptor "(IIILjava/util/function/BiFunction;)I" = some ⟨[.int, .int, .int, (.object "java/util/function/BiFunction")], some .int⟩ := by decide +kernel
theorem pd_7 : parseMethodDescriptor "(II)I" = some ⟨[.int, .int], some .int⟩ := by decide +kernel
theorem pd_8 : parseMethodDescriptor "([BII)[B" = some ⟨[(.array .byte), .int, .int], some (.array .byte)⟩ := by decide +kernel
theorem pd_9 : parseMethodDescriptor "([BB)V" = some ⟨[(.array .byte), .byte], none⟩ := by decide +kernel
theorem pd_10 : parseMethodDescriptor "()I" = some ⟨[], some .int⟩ := by decide +kernel
theorem pd_11 : parseMethodDescriptor "(III)V" = some ⟨[.int, .int, .int], none⟩ := by decide +kernel
theorem pd_12 : parseMethodDescriptor "([BII)Ljava/lang/String;" = some ⟨[(.array .byte), .int, .int], some (.object "java/lang/String")⟩ := by decide +kernel
theorem pd_13 : parseMethodDescriptor "(II)Ljava/lang/String;" = some ⟨[.int, .int], some (.object "java/lang/String")⟩ := by decide +kernel
theorem pd_14 : parseMethodDescriptor "(I)C" = some ⟨[.int], some .char⟩ := by decide +kernel
theorem pd_15 : parseMethodDescriptor "(C)Z" = some ⟨[.char], some .boolean⟩ := by decide +kernel
theorem pd_16 : parseMethodDescriptor "([C)V" = some ⟨[(.array .char)], none⟩ := by decide +kernel
theorem pd_17 : parseMethodDescriptor "(Ljava/lang/String;)Ljava/lang/String;" = some ⟨[(.object "java/lang/String")], some (.object "java/lang/String")⟩ := by decide +kernel
theorem pn_0 : plainName "java/lang/String" = true := by first | (simp [plainName, overriddenIn]; done) | decide +kernel
theorem pn_1 : plainName "jdk/internal/util/Preconditions" = true := by first | (simp [plainName, overriddenIn]; done) | decide +kernel
theorem pn_2 : plainName "java/lang/StringLatin1" = true := by first | (simp [plainName, overriddenIn]; done) | decide +kernel
theorem pn_3 : plainName "java/util/Arrays" = true := by first | (simp [plainName, overriddenIn]; done) | decide +kernel
theorem pn_4 : plainFor (⟨"java/lang/Math", "min", "(II)I"⟩ : MethodName) = true := Jvm.Free.JP.mathPlain rfl (by decide +kernel)
theorem pn_5 : plainName "com/example/antiphon/antiphon/model/XmlInputTrimmedPinLaw" = true := by first | (simp [plainName, overriddenIn]; done) | decide +kernel
theorem pn_6 : plainName "com/example/antiphon/antiphon/model/XmlInput" = true := by first | (simp [plainName, overriddenIn]; done) | decide +kernel
theorem ef_c_strbb (m : MethodId) (x0 : Addr) (x1 : Addr) (x2 : Int32)  : entryFrame m #[(.ref x0), (.ref x1), (.int x2)] 3 = mkF m 0 #[.val (.ref x0), .val (.ref x1), .val (.int x2)] [] := by first | (simp [entryFrame, mkF, argsToLocals, Value.category]; done) | rfl
set_option maxRecDepth 65536 in
set_option maxHeartbeats 40000000 in
theorem c_strbb {l : Launch} {Z : State} {n0 : Nat} {a0 : Array Value} (hw : Hw a0 Z) (x : Addr) (t : Addr) (cd : Int32) (u_value : Value) (u_coder : Value)  (h0 : Heap) (E0 : Exa Z h0 x "java/lang/String") (F_value : Fld Z h0 x "java/lang/String" "value" "[B" u_value) (F_coder : Fld Z h0 x "java/lang/String" "coder" "B" u_coder)  :
    Con l Z n0 ELs (⟨"java/lang/String", "<init>", "([BB)V"⟩ : MethodName) jdk_42_method_151_code 3 none [] ({ frames := 1, cells := 0, slots := 0, locals := 12 } : Room) #[(.ref x), (.ref t), (.int cd)] h0 [x] false (fun w h => Exa Z h x "java/lang/String" ∧ Fld Z h x "java/lang/String" "value" "[B" (.ref t) ∧ Fld Z h x "java/lang/String" "coder" "B" (.int (nar .byte cd))) := by
  refine con_of (plainFor_of_name pn_0) (fun mt => ef_c_strbb mt x t cd ) ?_
  intro K
  refine g_aloadN d26_0 rfl rfl (pc' := 1) rfl ?_
  refine g_initO (W := 0) d26_1 (w_16 hw) (w_17 hw) (w_18 hw) rfl (by decide) (Nat.le_of_eq rfl) (by decide) (pc' := 4) rfl ?_
  refine g_aloadN d26_4 rfl rfl (pc' := 5) rfl ?_
  refine g_aloadN d26_5 rfl rfl (pc' := 6) rfl ?_
  refine g_putF (ty := (.array .byte)) d26_6 (w_25 hw) Via.refl F_value E0 (Or.inr ⟨(w_21 hw), rfl, rfl⟩) (w_7 hw) (by decide) rfl rfl (Or.inl (List.mem_of_getElem? (i := 0) rfl)) (List.mem_of_getElem? (i := 0) rfl) (pc' := 9) rfl ?_
  intro h1 W1
  have Kw1 := Keep.of_wr W1
  have G1_value := F_value.same W1
  have G1_coder := F_coder.other W1 (Or.inr (slot_ne (Or.inr (w_22 hw)) (Or.inr (w_21 hw)) (by decide) (t := .byte) (t' := (.array .byte)) (by decide) (by decide)))
  refine g_aloadN d26_9 rfl rfl (pc' := 10) rfl ?_
  refine g_iloadN d26_10 rfl (pc' := 11) rfl ?_
  refine g_putF (ty := .byte) d26_11 (w_26 hw) Via.refl G1_coder (E0.keep Kw1) (Or.inr ⟨(w_22 hw), rfl, rfl⟩) (w_7 hw) (by decide) (v' := (.int (nar .byte cd))) rfl (fits_nar_byte _) (Or.inl (List.mem_of_getElem? (i := 0) rfl)) (List.mem_of_getElem? (i := 0) rfl) (pc' := 14) rfl ?_
  intro h2 W2
  have Kw2 := Keep.of_wr W2
  have G2_coder := G1_coder.same W2
  have G2_value := G1_value.other W2 (Or.inr (slot_ne (Or.inr (w_21 hw)) (Or.inr (w_22 hw)) (by decide) (t := (.array .byte)) (t' := .byte) (by decide) (by decide)))
  exact g_return d26_14 rfl ⟨((E0.keep Kw1).keep Kw2), G2_value, G2_coder⟩ (by decide) (by decide)
theorem ef_c_strv0 (m : MethodId) (x0 : Addr) (x1 : Addr) (x2 : Int32) (x3 : Int32)  : entryFrame m #[(.ref x0), (.ref x1), (.int x2), (.int x3), .null] 6 = mkF m 0 #[.val (.ref x0), .val (.ref x1), .val (.int x2), .val (.int x3), .val .null, .unset] [] := by first | (simp [entryFrame, mkF, argsToLocals, Value.category]; done) | rfl
set_option maxRecDepth 65536 in
set_option maxHeartbeats 40000000 in
theorem c_strv0 {l : Launch} {Z : State} {n0 : Nat} {a0 : Array Value} (hw : Hw a0 Z) (x b : Addr) (u_value u_coder : Value) (h0 : Heap) (E0 : Exa Z h0 x "java/lang/String") (F_value : Fld Z h0 x "java/lang/String" "value" "[B" u_value) (F_coder : Fld Z h0 x "java/lang/String" "coder" "B" u_coder) :
    Con l Z n0 ELs (⟨"java/lang/String", "<init>", "([CIILjava/lang/Void;)V"⟩ : MethodName) jdk_42_method_149_code 6 none [] ({ frames := 1, cells := 4, slots := 8, locals := 12 } : Room) #[(.ref x), (.ref b), (.int 0), (.int 0), .null] h0 [x] false (fun w h => ∃ t, St Z h x t []) := by
  refine con_of (plainFor_of_name pn_0) (fun mt => ef_c_strv0 mt x b 0 0 ) ?_
  intro K
  refine g_aloadN d3_0 rfl rfl (pc' := 1) rfl ?_
  refine g_initO (W := 0) d3_1 (w_16 hw) (w_17 hw) (w_18 hw) rfl (by decide) (Nat.le_of_eq rfl) (by decide) (pc' := 4) rfl ?_
  refine g_iloadN d3_4 rfl (pc' := 5) rfl ?_
  refine g_if_ne_f d3_5 rfl (pc' := 8) rfl ?_
  refine g_aloadN d3_8 rfl rfl (pc' := 9) rfl ?_
  refine g_ldcC (m := 0) d3_9 (w_19 hw) (hSA hw) (by decide) (by decide) (by decide) (by decide) (by decide) (by decide) (by decide) (pc' := 11) rfl ?_
  intro la t_la h1 Kl1 E_la C_la V_la A_la ne_la
  refine g_getF d3_11 (w_25 hw) Via.refl V_la (pc' := 14) rfl ?_
  refine g_putF (ty := (.array .byte)) d3_14 (w_25 hw) Via.refl (F_value.keep Kl1 nin0) (E0.keep Kl1) (Or.inr ⟨(w_21 hw), rfl, rfl⟩) (w_7 hw) (by decide) rfl rfl (Or.inl (List.mem_of_getElem? (i := 0) rfl)) (List.mem_of_getElem? (i := 0) rfl) (pc' := 17) rfl ?_
  intro h2 W2
  have Kw2 := Keep.of_wr W2
  have G2_value := (F_value.keep Kl1 nin0).same W2
  have G2_coder := (F_coder.keep Kl1 nin0).other W2 (Or.inr (slot_ne (Or.inr (w_22 hw)) (Or.inr (w_21 hw)) (by decide) (t := .byte) (t' := (.array .byte)) (by decide) (by decide)))
  refine g_aloadN d3_17 rfl rfl (pc' := 18) rfl ?_
  refine g_ldcC (m := 0) d3_18 (w_19 hw) (hSA hw) (by decide) (by decide) (by decide) (by decide) (by decide) (by decide) (by decide) (pc' := 20) rfl ?_
  intro lb t_lb h3 Kl3 E_lb C_lb V_lb A_lb ne_lb
  refine g_getF d3_20 (w_26 hw) Via.refl C_lb (pc' := 23) rfl ?_
  refine g_putF (ty := .byte) d3_23 (w_26 hw) Via.refl (G2_coder.keep Kl3 nin0) (((E0.keep Kl1).keep Kw2).keep Kl3) (Or.inr ⟨(w_22 hw), rfl, rfl⟩) (w_7 hw) (by decide) (v' := (.int (nar .byte 0))) rfl (fits_nar_byte _) (Or.inl (List.mem_of_getElem? (i := 0) rfl)) (List.mem_of_getElem? (i := 0) rfl) (pc' := 26) rfl ?_
  intro h4 W4
  have Kw4 := Keep.of_wr W4
  have G4_coder := (G2_coder.keep Kl3 nin0).same W4
  have G4_value := (G2_value.keep Kl3 nin0).other W4 (Or.inr (slot_ne (Or.inr (w_21 hw)) (Or.inr (w_22 hw)) (by decide) (t := (.array .byte)) (t' := .byte) (by decide) (by decide)))
  exact g_return d3_26 rfl ⟨t_la, ((((E0.keep Kl1).keep Kw2).keep Kl3).keep Kw4), G4_coder, G4_value, (((A_la.keep Kw2 (ninS (Ne.symm (ne_la _ (List.mem_of_getElem? (i := 0) rfl)).2) nin0)).keep Kl3 nin0).keep Kw4 (ninS (Ne.symm (ne_la _ (List.mem_of_getElem? (i := 0) rfl)).2) nin0)), by simp⟩ (by decide) (by decide)
theorem ef_c_str0 (m : MethodId) (x0 : Addr) (x1 : Addr)  : entryFrame m #[(.ref x0), (.ref x1)] 2 = mkF m 0 #[.val (.ref x0), .val (.ref x1)] [] := by first | (simp [entryFrame, mkF, argsToLocals, Value.category]; done) | rfl
set_option maxRecDepth 65536 in
set_option maxHeartbeats 40000000 in
theorem c_str0 {l : Launch} {Z : State} {n0 : Nat} {a0 : Array Value} (hw : Hw a0 Z) (x b : Addr) (u_value u_coder : Value) (h0 : Heap) (E0 : Exa Z h0 x "java/lang/String") (F_value : Fld Z h0 x "java/lang/String" "value" "[B" u_value) (F_coder : Fld Z h0 x "java/lang/String" "coder" "B" u_coder) (Ab : Ia Z h0 b .char []) :
    Con l Z n0 ELs (⟨"java/lang/String", "<init>", "([C)V"⟩ : MethodName) jdk_42_method_3_code 2 none [] ({ frames := 2, cells := 4, slots := 8, locals := 40 } : Room) #[(.ref x), (.ref b)] h0 [x] false (fun w h => ∃ t, St Z h x t []) := by
  refine con_of (plainFor_of_name pn_0) (fun mt => ef_c_str0 mt x b ) ?_
  intro K
  refine g_aloadN d2_0 rfl rfl (pc' := 1) rfl ?_
  refine g_aloadN d2_1 rfl rfl (pc' := 2) rfl ?_
  refine g_iconst d2_2 (v := 0) rfl (pc' := 3) rfl ?_
  refine g_aloadN d2_3 rfl rfl (pc' := 4) rfl ?_
  refine g_alen d2_4 Ab (x := 0) rfl (pc' := 5) rfl ?_
  refine g_null d2_5 (pc' := 6) rfl ?_
  refine g_init (W := 0) (argsL := [(.ref b), (.int 0), (.int 0), .null]) (rest := []) d2_6 rfl (w_12 hw) (w_13 hw) (by decide) (lenOf pd_0 rfl) (c_strv0 hw x b _ _ _ E0 F_value F_coder) (w_15 hw) (w_8 hw) (by decide) (by decide) (allS ⟨(Or.inl (List.mem_of_getElem? (i := 0) rfl)), (List.mem_of_getElem? (i := 0) rfl)⟩ all0) rfl (Nat.le_of_eq rfl) rfl (by decide) (by decide) (pc' := 9) rfl ?_
  intro w1 h1 q1 Kc1
  exact g_return d2_9 rfl q1 (by decide) (by decide)
theorem ef_c_coder (m : MethodId) (x0 : Addr)  : entryFrame m #[(.ref x0)] 1 = mkF m 0 #[.val (.ref x0)] [] := by first | (simp [entryFrame, mkF, argsToLocals, Value.category]; done) | rfl
set_option maxRecDepth 65536 in
set_option maxHeartbeats 40000000 in
theorem c_coder {l : Launch} {Z : State} {n0 : Nat} {a0 : Array Value} (hw : Hw a0 Z) (x : Addr) (cd z : Int32) (h0 : Heap) (hC : Sta Z Z.heap "java/lang/String" "COMPACT_STRINGS" "Z" (.int z)) (hz : ¬ z = 0) (F : Fld Z h0 x "java/lang/String" "coder" "B" (.int cd)) (hcd : nar .byte cd = cd) :
    Con l Z n0 ELs (⟨"java/lang/String", "coder", "()B"⟩ : MethodName) jdk_42_method_152_code 1 (some .byte) [] ({ frames := 0, cells := 0, slots := 0, locals := 0 } : Room) #[(.ref x)] h0 [] false (fun w h => w = .int cd ∧ h0 = h) := by
  refine con_of (plainFor_of_name pn_0) (fun mt => ef_c_coder mt x ) ?_
  intro K
  refine g_getS d7_0 (w_41 hw) Via.refl hC (pc' := 3) rfl ?_
  refine g_if_eq_f d7_3 hz (pc' := 6) rfl ?_
  refine g_aloadN d7_6 rfl rfl (pc' := 7) rfl ?_
  refine g_getF d7_7 (w_26 hw) Via.refl F (pc' := 10) rfl ?_
  refine g_goto d7_10 (pc' := 14) (by decide) rfl ?_
  exact g_ireturnN d7_14 rfl (by simp) hcd ⟨rfl, rfl⟩ (by decide) (by decide)
theorem ef_c_len (m : MethodId) (x0 : Addr)  : entryFrame m #[(.ref x0)] 1 = mkF m 0 #[.val (.ref x0)] [] := by first | (simp [entryFrame, mkF, argsToLocals, Value.category]; done) | rfl
set_option maxRecDepth 65536 in
set_option maxHeartbeats 40000000 in
theorem c_len {l : Launch} {Z : State} {n0 : Nat} {a0 : Array Value} (hw : Hw a0 Z) (x t : Addr) (cs : List Int32) (z : Int32) (h0 : Heap) (hC : Sta Z Z.heap "java/lang/String" "COMPACT_STRINGS" "Z" (.int z)) (hz : ¬ z = 0) (S : St Z h0 x t cs) :
    Con l Z n0 ELs (⟨"java/lang/String", "length", "()I"⟩ : MethodName) jdk_42_method_54_code 1 (some .int) [] ({ frames := 1, cells := 0, slots := 0, locals := 13 } : Room) #[(.ref x)] h0 [] false (fun w h => w = .int (Int32.ofNat cs.length) ∧ h0 = h) := by
  refine con_of (plainFor_of_name pn_0) (fun mt => ef_c_len mt x ) ?_
  intro K
  refine g_aloadN d6_0 rfl rfl (pc' := 1) rfl ?_
  refine g_getF d6_1 (w_25 hw) Via.refl S.2.2.1 (pc' := 4) rfl ?_
  refine g_alen d6_4 S.2.2.2.1 (x := (Int32.ofNat cs.length)) (by rw [List.length_map]) (pc' := 5) rfl ?_
  refine g_aloadN d6_5 rfl rfl (pc' := 6) rfl ?_
  refine g_virt (W := 1) (argsL := []) (rest := [(.int (Int32.ofNat cs.length))]) d6_6 (w_36 hw) (w_37 hw) (nf_self (w_39 hw)) (w_39 hw) (w_38 hw) (by decide) (lenOf pd_1 rfl) S.1 (c_coder hw x 0 z _ hC hz S.2.1 rfl) (w_40 hw) (w_8 hw) (by decide) (by decide) (fun _ q => nomatch q) rfl (Nat.le_of_eq rfl) rfl (by decide) (by decide) (pc' := 9) rfl ?_
  intro w1 h1 q1 Kc1
  obtain ⟨rfl, rfl⟩ := q1
  refine g_ishr d6_9 (v := Int32.ofNat cs.length) (shr0 _) (pc' := 10) rfl ?_
  exact g_ireturn d6_10 rfl ⟨rfl, rfl⟩ (by decide) (by decide)
theorem ef_c_lat (m : MethodId) (x0 : Addr)  : entryFrame m #[(.ref x0)] 1 = mkF m 0 #[.val (.ref x0)] [] := by first | (simp [entryFrame, mkF, argsToLocals, Value.category]; done) | rfl
set_option maxRecDepth 65536 in
set_option maxHeartbeats 40000000 in
theorem c_lat {l : Launch} {Z : State} {n0 : Nat} {a0 : Array Value} (hw : Hw a0 Z) (x : Addr) (z : Int32) (h0 : Heap) (hC : Sta Z Z.heap "java/lang/String" "COMPACT_STRINGS" "Z" (.int z)) (hz : ¬ z = 0) (F : Fld Z h0 x "java/lang/String" "coder" "B" (.int 0)) :
    Con l Z n0 ELs (⟨"java/lang/String", "isLatin1", "()Z"⟩ : MethodName) jdk_42_method_154_code 1 (some .boolean) [] ({ frames := 0, cells := 0, slots := 0, locals := 0 } : Room) #[(.ref x)] h0 [] false (fun w h => w = .int 1 ∧ h0 = h) := by
  refine con_of (plainFor_of_name pn_0) (fun mt => ef_c_lat mt x ) ?_
  intro K
  refine g_getS d16_0 (w_41 hw) Via.refl hC (pc' := 3) rfl ?_
  refine g_if_eq_f d16_3 hz (pc' := 6) rfl ?_
  refine g_aloadN d16_6 rfl rfl (pc' := 7) rfl ?_
  refine g_getF d16_7 (w_26 hw) Via.refl F (pc' := 10) rfl ?_
  refine g_if_ne_f d16_10 rfl (pc' := 13) rfl ?_
  refine g_iconst d16_13 (v := 1) rfl (pc' := 14) rfl ?_
  refine g_goto d16_14 (pc' := 18) (by decide) rfl ?_
  exact g_ireturnN d16_18 rfl (by simp) (z := 1) rfl ⟨rfl, rfl⟩ (by decide) (by decide)
theorem ef_c_pci (m : MethodId) (x0 : Int32) (x1 : Int32) (x2 : Value) (hx2 : x2.isRef = true) : entryFrame m #[(.int x0), (.int x1), x2] 3 = mkF m 0 #[.val (.int x0), .val (.int x1), .val x2] [] := by rcases ref_cases hx2 with rfl | ⟨bx2, rfl⟩ <;> first | (simp [entryFrame, mkF, argsToLocals, Value.category]; done) | rfl
set_option maxRecDepth 65536 in
set_option maxHeartbeats 40000000 in
theorem c_pci {l : Launch} {Z : State} {n0 : Nat} {a0 : Array Value} (hw : Hw a0 Z) (i n : Int32) (sf : Value) (h0 : Heap) (rsf : sf.isRef = true) (hi : ¬ i < 0 ∧ i < n) :
    Con l Z n0 ELs (⟨"jdk/internal/util/Preconditions", "checkIndex", "(IILjava/util/function/BiFunction;)I"⟩ : MethodName) jdk_41_method_11_code 3 (some .int) [] ({ frames := 0, cells := 0, slots := 0, locals := 0 } : Room) #[(.int i), (.int n), sf] h0 [] false (fun w h => w = .int i ∧ h0 = h) := by
  refine con_of (plainFor_of_name pn_1) (fun mt => ef_c_pci mt i n sf rsf) ?_
  intro K
  refine g_iloadN d19_0 rfl (pc' := 1) rfl ?_
  refine g_if_lt_f d19_1 hi.1 (pc' := 4) rfl ?_
  refine g_iloadN d19_4 rfl (pc' := 5) rfl ?_
  refine g_iloadN d19_5 rfl (pc' := 6) rfl ?_
  refine g_icmp_lt_t d19_6 hi.2 (pc' := 16) (by decide) rfl ?_
  refine g_iloadN d19_16 rfl (pc' := 17) rfl ?_
  exact g_ireturn d19_17 rfl ⟨rfl, rfl⟩ (by decide) (by decide)
theorem ef_c_ci (m : MethodId) (x0 : Int32) (x1 : Int32)  : entryFrame m #[(.int x0), (.int x1)] 2 = mkF m 0 #[.val (.int x0), .val (.int x1)] [] := by first | (simp [entryFrame, mkF, argsToLocals, Value.category]; done) | rfl
set_option maxRecDepth 65536 in
set_option maxHeartbeats 40000000 in
theorem c_ci {l : Launch} {Z : State} {n0 : Nat} {a0 : Array Value} (hw : Hw a0 Z) (i n : Int32) (sf : Value) (h0 : Heap) (hF : Sta Z Z.heap "jdk/internal/util/Preconditions" "SIOOBE_FORMATTER" "Ljava/util/function/BiFunction;" sf) (rsf : sf.isRef = true) (hi : ¬ i < 0 ∧ i < n) :
    Con l Z n0 ELs (⟨"java/lang/String", "checkIndex", "(II)V"⟩ : MethodName) jdk_42_method_155_code 2 none [] ({ frames := 1, cells := 0, slots := 0, locals := 14 } : Room) #[(.int i), (.int n)] h0 [] false (fun w h => h0 = h) := by
  refine con_of (plainFor_of_name pn_0) (fun mt => ef_c_ci mt i n ) ?_
  intro K
  refine g_iloadN d18_0 rfl (pc' := 1) rfl ?_
  refine g_iloadN d18_1 rfl (pc' := 2) rfl ?_
  refine g_getS d18_2 (w_51 hw) Via.refl hF (pc' := 5) rfl ?_
  refine g_static (W := 0) (argsL := [(.int i), (.int n), sf]) (rest := []) d18_5 (w_87 hw) (w_88 hw) (by decide) (lenOf pd_2 rfl) (c_pci hw i n sf _ rsf hi) (w_89 hw) (w_52 hw) (by decide) (by decide) (fun _ q => nomatch q) rfl (Nat.le_of_eq rfl) rfl (by decide) (by decide) (pc' := 8) rfl ?_
  intro w1 h1 q1 Kc1
  obtain ⟨rfl, rfl⟩ := q1
  refine g_pop d18_8 rfl (pc' := 9) rfl ?_
  exact g_return d18_9 rfl rfl (by decide) (by decide)
theorem ef_c_lca (m : MethodId) (x0 : Addr) (x1 : Int32)  : entryFrame m #[(.ref x0), (.int x1)] 2 = mkF m 0 #[.val (.ref x0), .val (.int x1)] [] := by first | (simp [entryFrame, mkF, argsToLocals, Value.category]; done) | rfl
set_option maxRecDepth 65536 in
set_option maxHeartbeats 40000000 in
theorem c_lca {l : Launch} {Z : State} {n0 : Nat} {a0 : Array Value} (hw : Hw a0 Z) (t : Addr) (cs : List Int32) (i : Nat) (ch : Int32) (sf : Value) (h0 : Heap) (hF : Sta Z Z.heap "jdk/internal/util/Preconditions" "SIOOBE_FORMATTER" "Ljava/util/function/BiFunction;" sf) (rsf : sf.isRef = true) (A : Ia Z h0 t .byte (cs.map fun c => c.toInt8.toInt32)) (hi : cs[i]? = some ch) (hc : ¬ ch < 0 ∧ ¬ (255 : Int32) < ch) :
    Con l Z n0 ELs (⟨"java/lang/StringLatin1", "charAt", "([BI)C"⟩ : MethodName) jdk_43_method_2_code 2 (some .char) [] ({ frames := 2, cells := 0, slots := 0, locals := 27 } : Room) #[(.ref t), (.int (Int32.ofNat i))] h0 [] false (fun w h => w = .int ch ∧ h0 = h) := by
  refine con_of (plainFor_of_name pn_2) (fun mt => ef_c_lca mt t ((Int32.ofNat i)) ) ?_
  intro K
  have hb := ofNat_lt (List.getElem?_eq_some_iff.mp hi).1 (by simpa using A.short)
  refine g_iloadN d17_0 rfl (pc' := 1) rfl ?_
  refine g_aloadN d17_1 rfl rfl (pc' := 2) rfl ?_
  refine g_alen d17_2 A (x := (Int32.ofNat cs.length)) (by rw [List.length_map]) (pc' := 3) rfl ?_
  refine g_staticN (W := 0) (argsL := [(.int (Int32.ofNat i)), (.int (Int32.ofNat cs.length))]) (rest := []) d17_3 (w_84 hw) (w_85 hw) (by decide) (lenOf pd_3 rfl) (c_ci hw (Int32.ofNat i) (Int32.ofNat cs.length) sf _ hF rsf ⟨hb.1, hb.2.1⟩) (w_86 hw) (w_8 hw) (by decide) (by decide) (fun _ q => nomatch q) rfl (Nat.le_of_eq rfl) rfl (by decide) (by decide) (pc' := 6) rfl ?_
  intro w1 h1 q1 Kc1
  obtain rfl := q1
  refine g_aloadN d17_6 rfl rfl (pc' := 7) rfl ?_
  refine g_iloadN d17_7 rfl (pc' := 8) rfl ?_
  refine g_baload d17_8 A hb.1 hb.2.2 (by rw [List.getElem?_map, hi]; rfl) (pc' := 9) rfl ?_
  refine g_sipush d17_9 (v := 255) rfl (pc' := 12) rfl ?_
  refine g_iand d17_12 rfl (pc' := 13) rfl ?_
  refine g_i2c d17_13 (v := ch) (lo8 ch hc).1 (pc' := 14) rfl ?_
  exact g_ireturnN d17_14 rfl (by simp) (lo8 ch hc).2.1 ⟨rfl, rfl⟩ (by decide) (by decide)
theorem ef_c_charat (m : MethodId) (x0 : Addr) (x1 : Int32)  : entryFrame m #[(.ref x0), (.int x1)] 2 = mkF m 0 #[.val (.ref x0), .val (.int x1)] [] := by first | (simp [entryFrame, mkF, argsToLocals, Value.category]; done) | rfl
set_option maxRecDepth 65536 in
set_option maxHeartbeats 40000000 in
theorem c_charat {l : Launch} {Z : State} {n0 : Nat} {a0 : Array Value} (hw : Hw a0 Z) (x t : Addr) (cs : List Int32) (i : Nat) (ch z : Int32) (sf : Value) (h0 : Heap) (hC : Sta Z Z.heap "java/lang/String" "COMPACT_STRINGS" "Z" (.int z)) (hz : ¬ z = 0) (hF : Sta Z Z.heap "jdk/internal/util/Preconditions" "SIOOBE_FORMATTER" "Ljava/util/function/BiFunction;" sf) (rsf : sf.isRef = true) (S : St Z h0 x t cs) (hi : cs[i]? = some ch) :
    Con l Z n0 ELs (⟨"java/lang/String", "charAt", "(I)C"⟩ : MethodName) jdk_42_method_56_code 2 (some .char) [] ({ frames := 3, cells := 0, slots := 0, locals := 42 } : Room) #[(.ref x), (.int (Int32.ofNat i))] h0 [] false (fun w h => w = .int ch ∧ h0 = h) := by
  refine con_of (plainFor_of_name pn_0) (fun mt => ef_c_charat mt x ((Int32.ofNat i)) ) ?_
  intro K
  refine g_aloadN d15_0 rfl rfl (pc' := 1) rfl ?_
  refine g_virt (W := 0) (argsL := []) (rest := []) d15_1 (w_75 hw) (w_76 hw) (nf_self (w_78 hw)) (w_78 hw) (w_77 hw) (by decide) (lenOf pd_4 rfl) S.1 (c_lat hw x z _ hC hz S.2.1) (w_79 hw) (w_8 hw) (by decide) (by decide) (fun _ q => nomatch q) rfl (Nat.le_of_eq rfl) rfl (by decide) (by decide) (pc' := 4) rfl ?_
  intro w1 h1 q1 Kc1
  obtain ⟨rfl, rfl⟩ := q1
  refine g_if_eq_f d15_4 (by decide) (pc' := 7) rfl ?_
  refine g_aloadN d15_7 rfl rfl (pc' := 8) rfl ?_
  refine g_getF d15_8 (w_25 hw) Via.refl S.2.2.1 (pc' := 11) rfl ?_
  refine g_iloadN d15_11 rfl (pc' := 12) rfl ?_
  refine g_static (W := 0) (argsL := [(.ref t), (.int (Int32.ofNat i))]) (rest := []) d15_12 (w_80 hw) (w_81 hw) (by decide) (lenOf pd_5 rfl) (c_lca hw t cs i ch sf _ hF rsf S.2.2.2.1 hi (S.2.2.2.2 _ (List.mem_of_getElem? hi))) (w_83 hw) (w_82 hw) (by decide) (by decide) (fun _ q => nomatch q) rfl (Nat.le_of_eq rfl) rfl (by decide) (by decide) (pc' := 15) rfl ?_
  intro w2 h2 q2 Kc2
  obtain ⟨rfl, rfl⟩ := q2
  exact g_ireturnN d15_15 rfl (by simp) (lo8 ch (S.2.2.2.2 _ (List.mem_of_getElem? hi))).2.1 ⟨rfl, rfl⟩ (by decide) (by decide)
theorem ef_c_pft (m : MethodId) (x0 : Int32) (x1 : Int32) (x2 : Int32) (x3 : Value) (hx3 : x3.isRef = true) : entryFrame m #[(.int x0), (.int x1), (.int x2), x3] 4 = mkF m 0 #[.val (.int x0), .val (.int x1), .val (.int x2), .val x3] [] := by rcases ref_cases hx3 with rfl | ⟨bx3, rfl⟩ <;> first | (simp [entryFrame, mkF, argsToLocals, Value.category]; done) | rfl
set_option maxRecDepth 65536 in
set_option maxHeartbeats 40000000 in
theorem c_pft {l : Launch} {Z : State} {n0 : Nat} {a0 : Array Value} (hw : Hw a0 Z) (i j n : Int32) (sf : Value) (h0 : Heap) (rsf : sf.isRef = true) (hi : ¬ i < 0 ∧ ¬ j < i ∧ ¬ n < j) :
    Con l Z n0 ELs (⟨"jdk/internal/util/Preconditions", "checkFromToIndex", "(IIILjava/util/function/BiFunction;)I"⟩ : MethodName) jdk_41_method_12_code 4 (some .int) [] ({ frames := 0, cells := 0, slots := 0, locals := 0 } : Room) #[(.int i), (.int j), (.int n), sf] h0 [] false (fun w h => w = .int i ∧ h0 = h) := by
  refine con_of (plainFor_of_name pn_1) (fun mt => ef_c_pft mt i j n sf rsf) ?_
  intro K
  refine g_iloadN d10_0 rfl (pc' := 1) rfl ?_
  refine g_if_lt_f d10_1 hi.1 (pc' := 4) rfl ?_
  refine g_iloadN d10_4 rfl (pc' := 5) rfl ?_
  refine g_iloadN d10_5 rfl (pc' := 6) rfl ?_
  refine g_icmp_gt_f d10_6 hi.2.1 (pc' := 9) rfl ?_
  refine g_iloadN d10_9 rfl (pc' := 10) rfl ?_
  refine g_iloadN d10_10 rfl (pc' := 11) rfl ?_
  refine g_icmp_le_t d10_11 hi.2.2 (pc' := 22) (by decide) rfl ?_
  refine g_iloadN d10_22 rfl (pc' := 23) rfl ?_
  exact g_ireturn d10_23 rfl ⟨rfl, rfl⟩ (by decide) (by decide)
theorem ef_c_cbe (m : MethodId) (x0 : Int32) (x1 : Int32) (x2 : Int32)  : entryFrame m #[(.int x0), (.int x1), (.int x2)] 3 = mkF m 0 #[.val (.int x0), .val (.int x1), .val (.int x2)] [] := by first | (simp [entryFrame, mkF, argsToLocals, Value.category]; done) | rfl
set_option maxRecDepth 65536 in
set_option maxHeartbeats 40000000 in
theorem c_cbe {l : Launch} {Z : State} {n0 : Nat} {a0 : Array Value} (hw : Hw a0 Z) (i j n : Int32) (sf : Value) (h0 : Heap) (hF : Sta Z Z.heap "jdk/internal/util/Preconditions" "SIOOBE_FORMATTER" "Ljava/util/function/BiFunction;" sf) (rsf : sf.isRef = true) (hi : ¬ i < 0 ∧ ¬ j < i ∧ ¬ n < j) :
    Con l Z n0 ELs (⟨"java/lang/String", "checkBoundsBeginEnd", "(III)V"⟩ : MethodName) jdk_42_method_158_code 3 none [] ({ frames := 1, cells := 0, slots := 0, locals := 15 } : Room) #[(.int i), (.int j), (.int n)] h0 [] false (fun w h => h0 = h) := by
  refine con_of (plainFor_of_name pn_0) (fun mt => ef_c_cbe mt i j n ) ?_
  intro K
  refine g_iloadN d9_0 rfl (pc' := 1) rfl ?_
  refine g_iloadN d9_1 rfl (pc' := 2) rfl ?_
  refine g_iloadN d9_2 rfl (pc' := 3) rfl ?_
  refine g_getS d9_3 (w_51 hw) Via.refl hF (pc' := 6) rfl ?_
  refine g_static (W := 0) (argsL := [(.int i), (.int j), (.int n), sf]) (rest := []) d9_6 (w_53 hw) (w_54 hw) (by decide) (lenOf pd_6 rfl) (c_pft hw i j n sf _ rsf hi) (w_55 hw) (w_52 hw) (by decide) (by decide) (fun _ q => nomatch q) rfl (Nat.le_of_eq rfl) rfl (by decide) (by decide) (pc' := 9) rfl ?_
  intro w1 h1 q1 Kc1
  obtain ⟨rfl, rfl⟩ := q1
  refine g_pop d9_9 rfl (pc' := 10) rfl ?_
  exact g_return d9_10 rfl rfl (by decide) (by decide)
theorem ef_c_ckl (m : MethodId) (x0 : Int32) (x1 : Int32)  : entryFrame m #[(.int x0), (.int x1)] 2 = mkF m 0 #[.val (.int x0), .val (.int x1)] [] := by first | (simp [entryFrame, mkF, argsToLocals, Value.category]; done) | rfl
set_option maxRecDepth 65536 in
set_option maxHeartbeats 40000000 in
theorem c_ckl {l : Launch} {Z : State} {n0 : Nat} {a0 : Array Value} (hw : Hw a0 Z) (i j : Int32) (h0 : Heap) (hi : ¬ j < i) :
    Con l Z n0 ELs (⟨"java/util/Arrays", "checkLength", "(II)V"⟩ : MethodName) jdk_65_method_131_code 2 none [] ({ frames := 0, cells := 0, slots := 0, locals := 0 } : Room) #[(.int i), (.int j)] h0 [] false (fun w h => h0 = h) := by
  refine con_of (plainFor_of_name pn_3) (fun mt => ef_c_ckl mt i j ) ?_
  intro K
  refine g_iloadN d24_0 rfl (pc' := 1) rfl ?_
  refine g_iloadN d24_1 rfl (pc' := 2) rfl ?_
  refine g_icmp_ge_t d24_2 hi (pc' := 37) (by decide) rfl ?_
  exact g_return d24_37 rfl rfl (by decide) (by decide)
theorem ef_c_min (m : MethodId) (x0 : Int32) (x1 : Int32)  : entryFrame m #[(.int x0), (.int x1)] 2 = mkF m 0 #[.val (.int x0), .val (.int x1)] [] := by first | (simp [entryFrame, mkF, argsToLocals, Value.category]; done) | rfl
set_option maxRecDepth 65536 in
set_option maxHeartbeats 40000000 in
theorem c_min {l : Launch} {Z : State} {n0 : Nat} {a0 : Array Value} (hw : Hw a0 Z) (i j : Int32) (h0 : Heap) (hi : j < i) :
    Con l Z n0 ELs (⟨"java/lang/Math", "min", "(II)I"⟩ : MethodName) jdk_29_method_69_code 2 (some .int) [] ({ frames := 0, cells := 0, slots := 0, locals := 0 } : Room) #[(.int i), (.int j)] h0 [] false (fun w h => w = .int j ∧ h0 = h) := by
  refine con_of pn_4 (fun mt => ef_c_min mt i j ) ?_
  intro K
  refine g_iloadN d25_0 rfl (pc' := 1) rfl ?_
  refine g_iloadN d25_1 rfl (pc' := 2) rfl ?_
  refine g_icmp_gt_t d25_2 hi (pc' := 9) (by decide) rfl ?_
  refine g_iloadN d25_9 rfl (pc' := 10) rfl ?_
  exact g_ireturn d25_10 rfl ⟨rfl, rfl⟩ (by decide) (by decide)
theorem ef_c_min2 (m : MethodId) (x0 : Int32) (x1 : Int32)  : entryFrame m #[(.int x0), (.int x1)] 2 = mkF m 0 #[.val (.int x0), .val (.int x1)] [] := by first | (simp [entryFrame, mkF, argsToLocals, Value.category]; done) | rfl
set_option maxRecDepth 65536 in
set_option maxHeartbeats 40000000 in
theorem c_min2 {l : Launch} {Z : State} {n0 : Nat} {a0 : Array Value} (hw : Hw a0 Z) (i j : Int32) (h0 : Heap) (hi : ¬ j < i) :
    Con l Z n0 ELs (⟨"java/lang/Math", "min", "(II)I"⟩ : MethodName) jdk_29_method_69_code 2 (some .int) [] ({ frames := 0, cells := 0, slots := 0, locals := 0 } : Room) #[(.int i), (.int j)] h0 [] false (fun w h => w = .int i ∧ h0 = h) := by
  refine con_of pn_4 (fun mt => ef_c_min2 mt i j ) ?_
  intro K
  refine g_iloadN d25_0 rfl (pc' := 1) rfl ?_
  refine g_iloadN d25_1 rfl (pc' := 2) rfl ?_
  refine g_icmp_gt_f d25_2 hi (pc' := 5) rfl ?_
  refine g_iloadN d25_5 rfl (pc' := 6) rfl ?_
  refine g_goto d25_6 (pc' := 10) (by decide) rfl ?_
  exact g_ireturn d25_10 rfl ⟨rfl, rfl⟩ (by decide) (by decide)
theorem ef_c_crb (m : MethodId) (x0 : Addr) (x1 : Int32) (x2 : Int32)  : entryFrame m #[(.ref x0), (.int x1), (.int x2)] 5 = mkF m 0 #[.val (.ref x0), .val (.int x1), .val (.int x2), .unset, .unset] [] := by first | (simp [entryFrame, mkF, argsToLocals, Value.category]; done) | rfl
set_option maxRecDepth 65536 in
set_option maxHeartbeats 40000000 in
theorem c_crb {l : Launch} {Z : State} {n0 : Nat} {a0 : Array Value} (hw : Hw a0 Z) (t : Addr) (vs : List Int32) (b e : Nat) (h0 : Heap) (A : Ia Z h0 t .byte vs) (hbe : b ≤ e) (hel : e ≤ vs.length) (h16 : e - b ≤ 16) :
    Con l Z n0 ELs (⟨"java/util/Arrays", "copyOfRangeByte", "([BII)[B"⟩ : MethodName) jdk_65_method_133_code 5 (some (.array .byte)) [] ({ frames := 1, cells := 1, slots := 16, locals := 40 } : Room) #[(.ref t), (.int (Int32.ofNat b)), (.int (Int32.ofNat e))] h0 [] true (fun w h => ∃ d, w = .ref d ∧ h0.size ≤ d ∧ Ia Z h d .byte ((vs.drop b).take (e - b))) := by
  refine con_of (plainFor_of_name pn_3) (fun mt => ef_c_crb mt t ((Int32.ofNat b)) ((Int32.ofNat e)) ) ?_
  intro K
  have hsh := A.short
  have hmin : ∀ h1, Con l Z n0 ELs (⟨"java/lang/Math", "min", "(II)I"⟩ : MethodName) jdk_29_method_69_code 2 (some .int) [] ({ frames := 0, cells := 0, slots := 0, locals := 0 } : Room) #[(.int (Int32.ofNat (vs.length - b))), (.int (Int32.ofNat (e - b)))] h1 [] false (fun w h => w = .int (Int32.ofNat (e - b)) ∧ h1 = h) := fun h1 => by
    by_cases q : vs.length = e
    · subst q
      exact c_min2 hw _ _ _ (ofNat_le (Nat.le_refl _) (by omega)).2
    · exact c_min hw _ _ _ (by rw [Int32.lt_iff_toInt_lt, ofNat_toInt (by omega), ofNat_toInt (by omega)]; omega)
  refine g_iloadN d23_0 rfl (pc' := 1) rfl ?_
  refine g_iloadN d23_1 rfl (pc' := 2) rfl ?_
  refine g_staticN (W := 0) (argsL := [(.int (Int32.ofNat b)), (.int (Int32.ofNat e))]) (rest := []) d23_2 (w_104 hw) (w_105 hw) (by decide) (lenOf pd_3 rfl) (c_ckl hw (Int32.ofNat b) (Int32.ofNat e) _ (ofNat_le hbe (by omega)).2) (w_106 hw) (w_99 hw) (by decide) (by decide) (fun _ q => nomatch q) rfl (Nat.le_of_eq rfl) rfl (by decide) (by decide) (pc' := 5) rfl ?_
  intro w1 h1 q1 Kc1
  obtain rfl := q1
  refine g_iloadN d23_5 rfl (pc' := 6) rfl ?_
  refine g_iloadN d23_6 rfl (pc' := 7) rfl ?_
  refine g_isub d23_7 (v := (Int32.ofNat (e - b))) (ofNat_sub hbe (by omega)) (pc' := 8) rfl ?_
  refine g_istoreN d23_8 (L' := #[.val (.ref t), .val (.int (Int32.ofNat b)), .val (.int (Int32.ofNat e)), .val (.int (Int32.ofNat (e - b))), .unset]) rfl (pc' := 9) rfl ?_
  refine g_iloadN d23_9 rfl (pc' := 10) rfl ?_
  refine g_newA d23_10 (w_20 hw) rfl (ofNat_le (Nat.le_refl _) (by omega)).1 (cap := 16) (by rw [nat_i32 (by omega)]; omega) (by decide) (by decide) (by decide) (pc' := 12) rfl ?_
  intro d h2 g2 Kn2 A_d sz_d
  refine g_astore d23_12 rfl (L' := #[.val (.ref t), .val (.int (Int32.ofNat b)), .val (.int (Int32.ofNat e)), .val (.int (Int32.ofNat (e - b))), .val (.ref d)]) rfl (pc' := 14) rfl ?_
  refine g_aloadN d23_14 rfl rfl (pc' := 15) rfl ?_
  refine g_iloadN d23_15 rfl (pc' := 16) rfl ?_
  refine g_aload d23_16 rfl rfl (pc' := 18) rfl ?_
  refine g_iconst d23_18 (v := 0) rfl (pc' := 19) rfl ?_
  refine g_aloadN d23_19 rfl rfl (pc' := 20) rfl ?_
  refine g_alen d23_20 (A.keep Kn2 nin0) (x := (Int32.ofNat vs.length)) rfl (pc' := 21) rfl ?_
  refine g_iloadN d23_21 rfl (pc' := 22) rfl ?_
  refine g_isub d23_22 (v := (Int32.ofNat (vs.length - b))) (ofNat_sub (by omega) (by omega)) (pc' := 23) rfl ?_
  refine g_iloadN d23_23 rfl (pc' := 24) rfl ?_
  refine g_static (W := 4) (argsL := [(.int (Int32.ofNat (vs.length - b))), (.int (Int32.ofNat (e - b)))]) (rest := [(.int 0), (.ref d), (.int (Int32.ofNat b)), (.ref t)]) d23_24 (w_107 hw) (w_108 hw) (by decide) (lenOf pd_7 rfl) (hmin _) (w_110 hw) (w_109 hw) (by decide) (by decide) (fun _ q => nomatch q) rfl (Nat.le_of_eq rfl) rfl (by decide) (by decide) (pc' := 27) rfl ?_
  intro w3 h3 q3 Kc3
  obtain ⟨rfl, rfl⟩ := q3
  refine g_acopy (W := 0) d23_27 (w_111 hw) (w_114 hw) (w_112 hw) (w_113 hw) (A.keep Kn2 nin0) A_d (ofNat_le hbe (by omega)).1 (nat_i32 (by omega)) (by decide) (j := 0) rfl (ofNat_le (Nat.le_refl _) (by omega)).1 (nat_i32 (by omega)) (by omega) (by simp [nat_i32 (show e - b < 2 ^ 31 by omega)]) rfl (by decide) (Nat.le_of_eq rfl) (by decide) sz_d (List.mem_of_getElem? (i := 0) rfl) (pc' := 30) rfl ?_
  intro h4 Kw4 A_d_4
  refine g_aload d23_30 rfl rfl (pc' := 32) rfl ?_
  exact g_areturnF d23_32 rfl rfl rfl ⟨d, rfl, sz_d, by simpa [nat_i32 (show e - b < 2 ^ 31 by omega)] using A_d_4⟩ (fun _ _ e => by cases e; exact (List.mem_of_getElem? (i := 0) rfl)) (by decide) (by decide)
theorem ef_c_cor (m : MethodId) (x0 : Addr) (x1 : Int32) (x2 : Int32)  : entryFrame m #[(.ref x0), (.int x1), (.int x2)] 3 = mkF m 0 #[.val (.ref x0), .val (.int x1), .val (.int x2)] [] := by first | (simp [entryFrame, mkF, argsToLocals, Value.category]; done) | rfl
set_option maxRecDepth 65536 in
set_option maxHeartbeats 40000000 in
theorem c_cor {l : Launch} {Z : State} {n0 : Nat} {a0 : Array Value} (hw : Hw a0 Z) (t : Addr) (vs : List Int32) (b e : Nat) (h0 : Heap) (A : Ia Z h0 t .byte vs) (hbe : b ≤ e) (hel : e ≤ vs.length) (h16 : e - b ≤ 16) (hnw : ¬ (b = 0 ∧ e = vs.length)) :
    Con l Z n0 ELs (⟨"java/util/Arrays", "copyOfRange", "([BII)[B"⟩ : MethodName) jdk_65_method_132_code 3 (some (.array .byte)) [] ({ frames := 2, cells := 1, slots := 16, locals := 60 } : Room) #[(.ref t), (.int (Int32.ofNat b)), (.int (Int32.ofNat e))] h0 [] true (fun w h => ∃ d, w = .ref d ∧ h0.size ≤ d ∧ Ia Z h d .byte ((vs.drop b).take (e - b))) := by
  refine con_of (plainFor_of_name pn_3) (fun mt => ef_c_cor mt t ((Int32.ofNat b)) ((Int32.ofNat e)) ) ?_
  intro K
  have hsh := A.short
  refine g_iloadN d22_0 rfl (pc' := 1) rfl ?_
  by_cases q : (Int32.ofNat b) = 0
  · have hne : ¬ (Int32.ofNat e) = (Int32.ofNat vs.length) := fun z => hnw ⟨(ofNat_inj (a := b) (b := 0) (by omega) (by omega)).mp q, (ofNat_inj (by omega) (by omega)).mp z⟩
    refine g_if_ne_f d22_1 q (pc' := 4) rfl ?_
    refine g_iloadN d22_4 rfl (pc' := 5) rfl ?_
    refine g_aloadN d22_5 rfl rfl (pc' := 6) rfl ?_
    refine g_alen d22_6 A (x := (Int32.ofNat vs.length)) rfl (pc' := 7) rfl ?_
    refine g_icmp_eq_f d22_7 hne (pc' := 10) rfl ?_
    refine g_aloadN d22_10 rfl rfl (pc' := 11) rfl ?_
    refine g_iloadN d22_11 rfl (pc' := 12) rfl ?_
    refine g_iloadN d22_12 rfl (pc' := 13) rfl ?_
    refine g_static (W := 0) (argsL := [(.ref t), (.int (Int32.ofNat b)), (.int (Int32.ofNat e))]) (rest := []) d22_13 (w_101 hw) (w_102 hw) (by decide) (lenOf pd_8 rfl) (c_crb hw t vs b e _ A hbe hel h16) (w_103 hw) (w_99 hw) (by decide) (by decide) (fun _ q => nomatch q) rfl (Nat.le_of_eq rfl) rfl (by decide) (by decide) (pc' := 16) rfl ?_
    intro w2 h2 q2 Kc2
    obtain ⟨d, rfl, hd, Ad⟩ := q2
    exact g_areturnF d22_16 rfl rfl rfl ⟨d, rfl, hd, Ad⟩ (fun _ _ e => by cases e; exact (List.mem_of_getElem? (i := 0) rfl)) (by decide) (by decide)
  ·
    refine g_if_ne_t d22_1 q (pc' := 10) (by decide) rfl ?_
    refine g_aloadN d22_10 rfl rfl (pc' := 11) rfl ?_
    refine g_iloadN d22_11 rfl (pc' := 12) rfl ?_
    refine g_iloadN d22_12 rfl (pc' := 13) rfl ?_
    refine g_static (W := 0) (argsL := [(.ref t), (.int (Int32.ofNat b)), (.int (Int32.ofNat e))]) (rest := []) d22_13 (w_101 hw) (w_102 hw) (by decide) (lenOf pd_8 rfl) (c_crb hw t vs b e _ A hbe hel h16) (w_103 hw) (w_99 hw) (by decide) (by decide) (fun _ q => nomatch q) rfl (Nat.le_of_eq rfl) rfl (by decide) (by decide) (pc' := 16) rfl ?_
    intro w1 h1 q1 Kc1
    obtain ⟨d, rfl, hd, Ad⟩ := q1
    exact g_areturnF d22_16 rfl rfl rfl ⟨d, rfl, hd, Ad⟩ (fun _ _ e => by cases e; exact (List.mem_of_getElem? (i := 0) rfl)) (by decide) (by decide)
theorem ef_c_news (m : MethodId) (x0 : Addr) (x1 : Int32) (x2 : Int32)  : entryFrame m #[(.ref x0), (.int x1), (.int x2)] 3 = mkF m 0 #[.val (.ref x0), .val (.int x1), .val (.int x2)] [] := by first | (simp [entryFrame, mkF, argsToLocals, Value.category]; done) | rfl
set_option maxRecDepth 65536 in
set_option maxHeartbeats 40000000 in
theorem c_news {l : Launch} {Z : State} {n0 : Nat} {a0 : Array Value} (hw : Hw a0 Z) (t : Addr) (cs : List Int32) (b m : Nat) (h0 : Heap) (A : Ia Z h0 t .byte (cs.map fun c => c.toInt8.toInt32)) (hall : ∀ c ∈ cs, ¬ c < 0 ∧ ¬ (255 : Int32) < c) (hle : b + m ≤ cs.length) (h16 : m ≤ 16) (hnw : ¬ (b = 0 ∧ b + m = cs.length)) :
    Con l Z n0 ELs (⟨"java/lang/StringLatin1", "newString", "([BII)Ljava/lang/String;"⟩ : MethodName) jdk_43_method_47_code 3 (some (.object "java/lang/String")) [] ({ frames := 3, cells := 2, slots := 20, locals := 80 } : Room) #[(.ref t), (.int (Int32.ofNat b)), (.int (Int32.ofNat m))] h0 [] false (fun w h => ∃ x t', w = .ref x ∧ St Z h x t' ((cs.drop b).take m)) := by
  refine con_of (plainFor_of_name pn_2) (fun mt => ef_c_news mt t ((Int32.ofNat b)) ((Int32.ofNat m)) ) ?_
  intro K
  have hsh := A.short
  rw [List.length_map] at hsh
  refine g_iloadN d21_0 rfl (pc' := 1) rfl ?_
  by_cases q : (Int32.ofNat m) = 0
  · have hm0 : m = 0 := (ofNat_inj (a := m) (b := 0) (by omega) (by omega)).mp q
    refine g_if_ne_f d21_1 q (pc' := 4) rfl ?_
    refine g_ldcC (m := 0) d21_4 (w_119 hw) (hSA hw) (by decide) (by decide) (by decide) (by decide) (by decide) (by decide) (by decide) (pc' := 6) rfl ?_
    intro la t_la h1 Kl1 E_la C_la V_la A_la ne_la
    exact g_areturn d21_6 rfl rfl rfl ⟨la, t_la, rfl, E_la, C_la, V_la, by rw [hm0]; exact A_la, fun z hz => hall z (List.mem_of_mem_drop (List.mem_of_mem_take hz))⟩ (by decide) (by decide)
  ·
    refine g_if_ne_t d21_1 q (pc' := 7) (by decide) rfl ?_
    refine g_new d21_7 (w_96 hw) (w_7 hw) (w_8 hw) (by decide) (by decide) (pc' := 10) rfl ?_
    intro x h2 g2 Kn2 E_x D2 sz_x
    have F_value_x : Fld Z h2 x "java/lang/String" "value" "[B" .null := D2 (Or.inr (w_21 hw)) (ty := (.array .byte)) (by decide)
    have F_coder_x : Fld Z h2 x "java/lang/String" "coder" "B" (.int 0) := D2 (Or.inr (w_22 hw)) (ty := .byte) (by decide)
    refine g_dup d21_10 rfl (pc' := 11) rfl ?_
    refine g_aloadN d21_11 rfl rfl (pc' := 12) rfl ?_
    refine g_iloadN d21_12 rfl (pc' := 13) rfl ?_
    refine g_iloadN d21_13 rfl (pc' := 14) rfl ?_
    refine g_iloadN d21_14 rfl (pc' := 15) rfl ?_
    refine g_iadd d21_15 (v := (Int32.ofNat (b + m))) (ofNat_add (by omega)) (pc' := 16) rfl ?_
    refine g_static (W := 2) (argsL := [(.ref t), (.int (Int32.ofNat b)), (.int (Int32.ofNat (b + m)))]) (rest := [(.ref x), (.ref x)]) d21_16 (w_97 hw) (w_98 hw) (by decide) (lenOf pd_8 rfl) (c_cor hw t _ b (b + m) _ (A.keep Kn2 nin0) (by omega) (by rw [List.length_map]; exact hle) (by omega) (by rw [List.length_map]; exact hnw)) (w_100 hw) (w_99 hw) (by decide) (by decide) (fun _ q => nomatch q) rfl (Nat.le_of_eq rfl) rfl (by decide) (by decide) (pc' := 19) rfl ?_
    intro w3 h3 q3 Kc3
    obtain ⟨d, rfl, hd, Ad⟩ := q3
    refine g_iconst d21_19 (v := 0) rfl (pc' := 20) rfl ?_
    refine g_init (W := 1) (argsL := [(.ref d), (.int 0)]) (rest := [(.ref x)]) d21_20 rfl (w_115 hw) (w_116 hw) (by decide) (lenOf pd_9 rfl) (c_strbb hw x d 0 _ _ _ (E_x.keep Kc3) (F_value_x.keep Kc3 nin0) (F_coder_x.keep Kc3 nin0)) (w_117 hw) (w_8 hw) (by decide) (by decide) (allS ⟨(Or.inr sz_x), (List.mem_of_getElem? (i := 1) rfl)⟩ all0) rfl (Nat.le_of_eq rfl) rfl (by decide) (by decide) (pc' := 23) rfl ?_
    intro w4 h4 q4 Kc4
    obtain ⟨E1, V1, C1⟩ := q4
    have A1 := (Ad.keep Kc4 (ninS (Ne.symm (Nat.ne_of_lt (Nat.lt_of_lt_of_le (E_x).lt hd))) nin0))
    exact g_areturn d21_23 rfl rfl rfl ⟨x, d, rfl, E1, C1, V1, by simpa [List.map_take, List.map_drop] using A1, fun z hz => hall z (List.mem_of_mem_drop (List.mem_of_mem_take hz))⟩ (by decide) (by decide)
theorem ef_c_substr (m : MethodId) (x0 : Addr) (x1 : Int32) (x2 : Int32)  : entryFrame m #[(.ref x0), (.int x1), (.int x2)] 5 = mkF m 0 #[.val (.ref x0), .val (.int x1), .val (.int x2), .unset, .unset] [] := by first | (simp [entryFrame, mkF, argsToLocals, Value.category]; done) | rfl
set_option maxRecDepth 65536 in
set_option maxHeartbeats 40000000 in
theorem c_substr {l : Launch} {Z : State} {n0 : Nat} {a0 : Array Value} (hw : Hw a0 Z) (x t : Addr) (cs : List Int32) (b e : Nat) (z : Int32) (sf : Value) (h0 : Heap) (hC : Sta Z Z.heap "java/lang/String" "COMPACT_STRINGS" "Z" (.int z)) (hz : ¬ z = 0) (hF : Sta Z Z.heap "jdk/internal/util/Preconditions" "SIOOBE_FORMATTER" "Ljava/util/function/BiFunction;" sf) (rsf : sf.isRef = true) (S : St Z h0 x t cs) (hbe : b ≤ e) (hel : e ≤ cs.length) (h16 : cs.length ≤ 16) :
    Con l Z n0 ELs (⟨"java/lang/String", "substring", "(II)Ljava/lang/String;"⟩ : MethodName) jdk_42_method_92_code 5 (some (.object "java/lang/String")) [] ({ frames := 4, cells := 2, slots := 20, locals := 100 } : Room) #[(.ref x), (.int (Int32.ofNat b)), (.int (Int32.ofNat e))] h0 [] false (fun w h => ∃ x' t', w = .ref x' ∧ St Z h x' t' ((cs.drop b).take (e - b))) := by
  refine con_of (plainFor_of_name pn_0) (fun mt => ef_c_substr mt x ((Int32.ofNat b)) ((Int32.ofNat e)) ) ?_
  intro K
  have hsh := S.2.2.2.1.short
  rw [List.length_map] at hsh
  refine g_aloadN d8_0 rfl rfl (pc' := 1) rfl ?_
  refine g_virt (W := 0) (argsL := []) (rest := []) d8_1 (w_47 hw) (w_32 hw) (nf_self (w_34 hw)) (w_34 hw) (w_33 hw) (by decide) (lenOf pd_10 rfl) S.1 (c_len hw x t cs z _ hC hz S) (w_35 hw) (w_8 hw) (by decide) (by decide) (fun _ q => nomatch q) rfl (Nat.le_of_eq rfl) rfl (by decide) (by decide) (pc' := 4) rfl ?_
  intro w1 h1 q1 Kc1
  obtain ⟨rfl, rfl⟩ := q1
  refine g_istoreN d8_4 (L' := #[.val (.ref x), .val (.int (Int32.ofNat b)), .val (.int (Int32.ofNat e)), .val (.int (Int32.ofNat cs.length)), .unset]) rfl (pc' := 5) rfl ?_
  refine g_iloadN d8_5 rfl (pc' := 6) rfl ?_
  refine g_iloadN d8_6 rfl (pc' := 7) rfl ?_
  refine g_iloadN d8_7 rfl (pc' := 8) rfl ?_
  refine g_staticN (W := 0) (argsL := [(.int (Int32.ofNat b)), (.int (Int32.ofNat e)), (.int (Int32.ofNat cs.length))]) (rest := []) d8_8 (w_48 hw) (w_49 hw) (by decide) (lenOf pd_11 rfl) (c_cbe hw _ _ _ sf _ hF rsf ⟨(ofNat_le hbe (by omega)).1, (ofNat_le hbe (by omega)).2, (ofNat_le hel (by omega)).2⟩) (w_50 hw) (w_8 hw) (by decide) (by decide) (fun _ q => nomatch q) rfl (Nat.le_of_eq rfl) rfl (by decide) (by decide) (pc' := 11) rfl ?_
  intro w2 h2 q2 Kc2
  obtain rfl := q2
  refine g_iloadN d8_11 rfl (pc' := 12) rfl ?_
  by_cases q : (Int32.ofNat b) = 0
  · have hb0 : b = 0 := (ofNat_inj (a := b) (b := 0) (by omega) (by omega)).mp q
    by_cases q2 : (Int32.ofNat e) = (Int32.ofNat cs.length)
    · have he : e = cs.length := (ofNat_inj (by omega) (by omega)).mp q2
      refine g_if_ne_f d8_12 q (pc' := 15) rfl ?_
      refine g_iloadN d8_15 rfl (pc' := 16) rfl ?_
      refine g_iloadN d8_16 rfl (pc' := 17) rfl ?_
      refine g_icmp_ne_f d8_17 q2 (pc' := 20) rfl ?_
      refine g_aloadN d8_20 rfl rfl (pc' := 21) rfl ?_
      exact g_areturn d8_21 rfl rfl rfl ⟨x, t, rfl, by rw [hb0, he, Nat.sub_zero, List.drop_zero, List.take_length]; exact S⟩ (by decide) (by decide)
    · have he : ¬ e = cs.length := fun z => q2 (by rw [z])
      have hnw : ¬ (b = 0 ∧ b + (e - b) = cs.length) := fun z => he (by omega)
      refine g_if_ne_f d8_12 q (pc' := 15) rfl ?_
      refine g_iloadN d8_15 rfl (pc' := 16) rfl ?_
      refine g_iloadN d8_16 rfl (pc' := 17) rfl ?_
      refine g_icmp_ne_t d8_17 q2 (pc' := 22) (by decide) rfl ?_
      refine g_iloadN d8_22 rfl (pc' := 23) rfl ?_
      refine g_iloadN d8_23 rfl (pc' := 24) rfl ?_
      refine g_isub d8_24 (v := (Int32.ofNat (e - b))) (ofNat_sub hbe (by omega)) (pc' := 25) rfl ?_
      refine g_istore d8_25 (L' := #[.val (.ref x), .val (.int (Int32.ofNat b)), .val (.int (Int32.ofNat e)), .val (.int (Int32.ofNat cs.length)), .val (.int (Int32.ofNat (e - b)))]) rfl (pc' := 27) rfl ?_
      refine g_aloadN d8_27 rfl rfl (pc' := 28) rfl ?_
      refine g_virt (W := 0) (argsL := []) (rest := []) d8_28 (w_75 hw) (w_76 hw) (nf_self (w_78 hw)) (w_78 hw) (w_77 hw) (by decide) (lenOf pd_4 rfl) S.1 (c_lat hw x z _ hC hz S.2.1) (w_79 hw) (w_8 hw) (by decide) (by decide) (fun _ q => nomatch q) rfl (Nat.le_of_eq rfl) rfl (by decide) (by decide) (pc' := 31) rfl ?_
      intro w3 h3 q3 Kc3
      obtain ⟨rfl, rfl⟩ := q3
      refine g_if_eq_f d8_31 (by decide) (pc' := 34) rfl ?_
      refine g_aloadN d8_34 rfl rfl (pc' := 35) rfl ?_
      refine g_getF d8_35 (w_25 hw) Via.refl S.2.2.1 (pc' := 38) rfl ?_
      refine g_iloadN d8_38 rfl (pc' := 39) rfl ?_
      refine g_iload d8_39 rfl (pc' := 41) rfl ?_
      refine g_static (W := 0) (argsL := [(.ref t), (.int (Int32.ofNat b)), (.int (Int32.ofNat (e - b)))]) (rest := []) d8_41 (w_93 hw) (w_94 hw) (by decide) (lenOf pd_12 rfl) (c_news hw t cs b (e - b) _ S.2.2.2.1 S.2.2.2.2 (by omega) (by omega) hnw) (w_95 hw) (w_82 hw) (by decide) (by decide) (fun _ q => nomatch q) rfl (Nat.le_of_eq rfl) rfl (by decide) (by decide) (pc' := 44) rfl ?_
      intro w4 h4 q4 Kc4
      obtain ⟨x', t', rfl, S'⟩ := q4
      refine g_goto d8_44 (pc' := 57) (by decide) rfl ?_
      exact g_areturn d8_57 rfl rfl rfl ⟨x', t', rfl, S'⟩ (by decide) (by decide)
  · have hnw : ¬ (b = 0 ∧ b + (e - b) = cs.length) := fun z => q (congrArg Int32.ofNat z.1)
    refine g_if_ne_t d8_12 q (pc' := 22) (by decide) rfl ?_
    refine g_iloadN d8_22 rfl (pc' := 23) rfl ?_
    refine g_iloadN d8_23 rfl (pc' := 24) rfl ?_
    refine g_isub d8_24 (v := (Int32.ofNat (e - b))) (ofNat_sub hbe (by omega)) (pc' := 25) rfl ?_
    refine g_istore d8_25 (L' := #[.val (.ref x), .val (.int (Int32.ofNat b)), .val (.int (Int32.ofNat e)), .val (.int (Int32.ofNat cs.length)), .val (.int (Int32.ofNat (e - b)))]) rfl (pc' := 27) rfl ?_
    refine g_aloadN d8_27 rfl rfl (pc' := 28) rfl ?_
    refine g_virt (W := 0) (argsL := []) (rest := []) d8_28 (w_75 hw) (w_76 hw) (nf_self (w_78 hw)) (w_78 hw) (w_77 hw) (by decide) (lenOf pd_4 rfl) S.1 (c_lat hw x z _ hC hz S.2.1) (w_79 hw) (w_8 hw) (by decide) (by decide) (fun _ q => nomatch q) rfl (Nat.le_of_eq rfl) rfl (by decide) (by decide) (pc' := 31) rfl ?_
    intro w5 h5 q5 Kc5
    obtain ⟨rfl, rfl⟩ := q5
    refine g_if_eq_f d8_31 (by decide) (pc' := 34) rfl ?_
    refine g_aloadN d8_34 rfl rfl (pc' := 35) rfl ?_
    refine g_getF d8_35 (w_25 hw) Via.refl S.2.2.1 (pc' := 38) rfl ?_
    refine g_iloadN d8_38 rfl (pc' := 39) rfl ?_
    refine g_iload d8_39 rfl (pc' := 41) rfl ?_
    refine g_static (W := 0) (argsL := [(.ref t), (.int (Int32.ofNat b)), (.int (Int32.ofNat (e - b)))]) (rest := []) d8_41 (w_93 hw) (w_94 hw) (by decide) (lenOf pd_12 rfl) (c_news hw t cs b (e - b) _ S.2.2.2.1 S.2.2.2.2 (by omega) (by omega) hnw) (w_95 hw) (w_82 hw) (by decide) (by decide) (fun _ q => nomatch q) rfl (Nat.le_of_eq rfl) rfl (by decide) (by decide) (pc' := 44) rfl ?_
    intro w6 h6 q6 Kc6
    obtain ⟨x', t', rfl, S'⟩ := q6
    refine g_goto d8_44 (pc' := 57) (by decide) rfl ?_
    exact g_areturn d8_57 rfl rfl rfl ⟨x', t', rfl, S'⟩ (by decide) (by decide)
theorem ef_c_ws (m : MethodId) (x0 : Int32)  : entryFrame m #[(.int x0)] 1 = mkF m 0 #[.val (.int x0)] [] := by first | (simp [entryFrame, mkF, argsToLocals, Value.category]; done) | rfl
set_option maxRecDepth 65536 in
set_option maxHeartbeats 40000000 in
theorem c_ws {l : Launch} {Z : State} {n0 : Nat} {a0 : Array Value} (hw : Hw a0 Z) (ch : Int32) (h0 : Heap)  :
    Con l Z n0 ELs (⟨"com/example/antiphon/antiphon/model/XmlInputTrimmedPinLaw", "ws", "(C)Z"⟩ : MethodName) method_3_code 1 (some .boolean) [] ({ frames := 0, cells := 0, slots := 0, locals := 0 } : Room) #[(.int ch)] h0 [] false (fun w h => w = .int (if isW ch = true then 1 else 0) ∧ h0 = h) := by
  refine con_of (plainFor_of_name pn_5) (fun mt => ef_c_ws mt ch ) ?_
  intro K
  by_cases a : ch = 32
  ·
    refine g_iloadN d14_0 rfl (pc' := 1) rfl ?_
    refine g_bipush d14_1 (v := 32) rfl (pc' := 3) rfl ?_
    refine g_icmp_eq_t d14_3 a (pc' := 24) (by decide) rfl ?_
    refine g_iconst d14_24 (v := 1) rfl (pc' := 25) rfl ?_
    refine g_goto d14_25 (pc' := 29) (by decide) rfl ?_
    exact g_ireturnN d14_29 rfl (by simp) (z := 1) rfl ⟨by simp [isW, a], rfl⟩ (by decide) (by decide)
  · by_cases b : ch = 9
    ·
      refine g_iloadN d14_0 rfl (pc' := 1) rfl ?_
      refine g_bipush d14_1 (v := 32) rfl (pc' := 3) rfl ?_
      refine g_icmp_eq_f d14_3 a (pc' := 6) rfl ?_
      refine g_iloadN d14_6 rfl (pc' := 7) rfl ?_
      refine g_bipush d14_7 (v := 9) rfl (pc' := 9) rfl ?_
      refine g_icmp_eq_t d14_9 b (pc' := 24) (by decide) rfl ?_
      refine g_iconst d14_24 (v := 1) rfl (pc' := 25) rfl ?_
      refine g_goto d14_25 (pc' := 29) (by decide) rfl ?_
      exact g_ireturnN d14_29 rfl (by simp) (z := 1) rfl ⟨by simp [isW, a, b], rfl⟩ (by decide) (by decide)
    · by_cases d : ch = 13
      ·
        refine g_iloadN d14_0 rfl (pc' := 1) rfl ?_
        refine g_bipush d14_1 (v := 32) rfl (pc' := 3) rfl ?_
        refine g_icmp_eq_f d14_3 a (pc' := 6) rfl ?_
        refine g_iloadN d14_6 rfl (pc' := 7) rfl ?_
        refine g_bipush d14_7 (v := 9) rfl (pc' := 9) rfl ?_
        refine g_icmp_eq_f d14_9 b (pc' := 12) rfl ?_
        refine g_iloadN d14_12 rfl (pc' := 13) rfl ?_
        refine g_bipush d14_13 (v := 13) rfl (pc' := 15) rfl ?_
        refine g_icmp_eq_t d14_15 d (pc' := 24) (by decide) rfl ?_
        refine g_iconst d14_24 (v := 1) rfl (pc' := 25) rfl ?_
        refine g_goto d14_25 (pc' := 29) (by decide) rfl ?_
        exact g_ireturnN d14_29 rfl (by simp) (z := 1) rfl ⟨by simp [isW, a, b, d], rfl⟩ (by decide) (by decide)
      · by_cases e : ch = 10
        ·
          refine g_iloadN d14_0 rfl (pc' := 1) rfl ?_
          refine g_bipush d14_1 (v := 32) rfl (pc' := 3) rfl ?_
          refine g_icmp_eq_f d14_3 a (pc' := 6) rfl ?_
          refine g_iloadN d14_6 rfl (pc' := 7) rfl ?_
          refine g_bipush d14_7 (v := 9) rfl (pc' := 9) rfl ?_
          refine g_icmp_eq_f d14_9 b (pc' := 12) rfl ?_
          refine g_iloadN d14_12 rfl (pc' := 13) rfl ?_
          refine g_bipush d14_13 (v := 13) rfl (pc' := 15) rfl ?_
          refine g_icmp_eq_f d14_15 d (pc' := 18) rfl ?_
          refine g_iloadN d14_18 rfl (pc' := 19) rfl ?_
          refine g_bipush d14_19 (v := 10) rfl (pc' := 21) rfl ?_
          refine g_icmp_ne_f d14_21 e (pc' := 24) rfl ?_
          refine g_iconst d14_24 (v := 1) rfl (pc' := 25) rfl ?_
          refine g_goto d14_25 (pc' := 29) (by decide) rfl ?_
          exact g_ireturnN d14_29 rfl (by simp) (z := 1) rfl ⟨by simp [isW, a, b, d, e], rfl⟩ (by decide) (by decide)
        ·
          refine g_iloadN d14_0 rfl (pc' := 1) rfl ?_
          refine g_bipush d14_1 (v := 32) rfl (pc' := 3) rfl ?_
          refine g_icmp_eq_f d14_3 a (pc' := 6) rfl ?_
          refine g_iloadN d14_6 rfl (pc' := 7) rfl ?_
          refine g_bipush d14_7 (v := 9) rfl (pc' := 9) rfl ?_
          refine g_icmp_eq_f d14_9 b (pc' := 12) rfl ?_
          refine g_iloadN d14_12 rfl (pc' := 13) rfl ?_
          refine g_bipush d14_13 (v := 13) rfl (pc' := 15) rfl ?_
          refine g_icmp_eq_f d14_15 d (pc' := 18) rfl ?_
          refine g_iloadN d14_18 rfl (pc' := 19) rfl ?_
          refine g_bipush d14_19 (v := 10) rfl (pc' := 21) rfl ?_
          refine g_icmp_ne_t d14_21 e (pc' := 28) (by decide) rfl ?_
          refine g_iconst d14_28 (v := 0) rfl (pc' := 29) rfl ?_
          exact g_ireturnN d14_29 rfl (by simp) (z := 0) rfl ⟨by simp [isW, a, b, d, e], rfl⟩ (by decide) (by decide)
theorem ef_c_xs (m : MethodId) (x0 : Int32)  : entryFrame m #[(.int x0)] 1 = mkF m 0 #[.val (.int x0)] [] := by first | (simp [entryFrame, mkF, argsToLocals, Value.category]; done) | rfl
set_option maxRecDepth 65536 in
set_option maxHeartbeats 40000000 in
theorem c_xs {l : Launch} {Z : State} {n0 : Nat} {a0 : Array Value} (hw : Hw a0 Z) (ch : Int32) (h0 : Heap)  :
    Con l Z n0 ELs (⟨"com/example/antiphon/antiphon/model/XmlInput", "isXmlSpace", "(C)Z"⟩ : MethodName) prog_111_method_25_code 1 (some .boolean) [] ({ frames := 0, cells := 0, slots := 0, locals := 0 } : Room) #[(.int ch)] h0 [] false (fun w h => w = .int (if isW ch = true then 1 else 0) ∧ h0 = h) := by
  refine con_of (plainFor_of_name pn_6) (fun mt => ef_c_xs mt ch ) ?_
  intro K
  by_cases a : ch = 32
  ·
    refine g_iloadN d20_0 rfl (pc' := 1) rfl ?_
    refine g_bipush d20_1 (v := 32) rfl (pc' := 3) rfl ?_
    refine g_icmp_eq_t d20_3 a (pc' := 24) (by decide) rfl ?_
    refine g_iconst d20_24 (v := 1) rfl (pc' := 25) rfl ?_
    refine g_goto d20_25 (pc' := 29) (by decide) rfl ?_
    exact g_ireturnN d20_29 rfl (by simp) (z := 1) rfl ⟨by simp [isW, a], rfl⟩ (by decide) (by decide)
  · by_cases b : ch = 9
    ·
      refine g_iloadN d20_0 rfl (pc' := 1) rfl ?_
      refine g_bipush d20_1 (v := 32) rfl (pc' := 3) rfl ?_
      refine g_icmp_eq_f d20_3 a (pc' := 6) rfl ?_
      refine g_iloadN d20_6 rfl (pc' := 7) rfl ?_
      refine g_bipush d20_7 (v := 9) rfl (pc' := 9) rfl ?_
      refine g_icmp_eq_t d20_9 b (pc' := 24) (by decide) rfl ?_
      refine g_iconst d20_24 (v := 1) rfl (pc' := 25) rfl ?_
      refine g_goto d20_25 (pc' := 29) (by decide) rfl ?_
      exact g_ireturnN d20_29 rfl (by simp) (z := 1) rfl ⟨by simp [isW, a, b], rfl⟩ (by decide) (by decide)
    · by_cases d : ch = 13
      ·
        refine g_iloadN d20_0 rfl (pc' := 1) rfl ?_
        refine g_bipush d20_1 (v := 32) rfl (pc' := 3) rfl ?_
        refine g_icmp_eq_f d20_3 a (pc' := 6) rfl ?_
        refine g_iloadN d20_6 rfl (pc' := 7) rfl ?_
        refine g_bipush d20_7 (v := 9) rfl (pc' := 9) rfl ?_
        refine g_icmp_eq_f d20_9 b (pc' := 12) rfl ?_
        refine g_iloadN d20_12 rfl (pc' := 13) rfl ?_
        refine g_bipush d20_13 (v := 13) rfl (pc' := 15) rfl ?_
        refine g_icmp_eq_t d20_15 d (pc' := 24) (by decide) rfl ?_
        refine g_iconst d20_24 (v := 1) rfl (pc' := 25) rfl ?_
        refine g_goto d20_25 (pc' := 29) (by decide) rfl ?_
        exact g_ireturnN d20_29 rfl (by simp) (z := 1) rfl ⟨by simp [isW, a, b, d], rfl⟩ (by decide) (by decide)
      · by_cases e : ch = 10
        ·
          refine g_iloadN d20_0 rfl (pc' := 1) rfl ?_
          refine g_bipush d20_1 (v := 32) rfl (pc' := 3) rfl ?_
          refine g_icmp_eq_f d20_3 a (pc' := 6) rfl ?_
          refine g_iloadN d20_6 rfl (pc' := 7) rfl ?_
          refine g_bipush d20_7 (v := 9) rfl (pc' := 9) rfl ?_
          refine g_icmp_eq_f d20_9 b (pc' := 12) rfl ?_
          refine g_iloadN d20_12 rfl (pc' := 13) rfl ?_
          refine g_bipush d20_13 (v := 13) rfl (pc' := 15) rfl ?_
          refine g_icmp_eq_f d20_15 d (pc' := 18) rfl ?_
          refine g_iloadN d20_18 rfl (pc' := 19) rfl ?_
          refine g_bipush d20_19 (v := 10) rfl (pc' := 21) rfl ?_
          refine g_icmp_ne_f d20_21 e (pc' := 24) rfl ?_
          refine g_iconst d20_24 (v := 1) rfl (pc' := 25) rfl ?_
          refine g_goto d20_25 (pc' := 29) (by decide) rfl ?_
          exact g_ireturnN d20_29 rfl (by simp) (z := 1) rfl ⟨by simp [isW, a, b, d, e], rfl⟩ (by decide) (by decide)
        ·
          refine g_iloadN d20_0 rfl (pc' := 1) rfl ?_
          refine g_bipush d20_1 (v := 32) rfl (pc' := 3) rfl ?_
          refine g_icmp_eq_f d20_3 a (pc' := 6) rfl ?_
          refine g_iloadN d20_6 rfl (pc' := 7) rfl ?_
          refine g_bipush d20_7 (v := 9) rfl (pc' := 9) rfl ?_
          refine g_icmp_eq_f d20_9 b (pc' := 12) rfl ?_
          refine g_iloadN d20_12 rfl (pc' := 13) rfl ?_
          refine g_bipush d20_13 (v := 13) rfl (pc' := 15) rfl ?_
          refine g_icmp_eq_f d20_15 d (pc' := 18) rfl ?_
          refine g_iloadN d20_18 rfl (pc' := 19) rfl ?_
          refine g_bipush d20_19 (v := 10) rfl (pc' := 21) rfl ?_
          refine g_icmp_ne_t d20_21 e (pc' := 28) (by decide) rfl ?_
          refine g_iconst d20_28 (v := 0) rfl (pc' := 29) rfl ?_
          exact g_ireturnN d20_29 rfl (by simp) (z := 0) rfl ⟨by simp [isW, a, b, d, e], rfl⟩ (by decide) (by decide)
theorem ef_c_ch (m : MethodId) (x0 : Int32)  : entryFrame m #[(.int x0)] 2 = mkF m 0 #[.val (.int x0), .unset] [] := by first | (simp [entryFrame, mkF, argsToLocals, Value.category]; done) | rfl
set_option maxRecDepth 65536 in
set_option maxHeartbeats 40000000 in
theorem c_ch {l : Launch} {Z : State} {n0 : Nat} {a0 : Array Value} (hw : Hw a0 Z) (p : Int32) (h0 : Heap)  :
    Con l Z n0 ELs (⟨"com/example/antiphon/antiphon/model/XmlInputTrimmedPinLaw", "ch", "(I)C"⟩ : MethodName) method_2_code 2 (some .char) [] ({ frames := 0, cells := 0, slots := 0, locals := 0 } : Room) #[(.int p)] h0 [] false (fun w h => ∃ v, w = .int v ∧ (¬ v < 0 ∧ ¬ (255 : Int32) < v) ∧ h0 = h) := by
  refine con_of (plainFor_of_name pn_5) (fun mt => ef_c_ch mt p ) ?_
  intro K
  obtain ⟨s, hs⟩ : ∃ s, p &&& 7 = s := ⟨_, rfl⟩
  obtain ⟨v, hv⟩ : ∃ v, (((p.toUInt32 >>> (3 &&& 31).toUInt32).toInt32) &&& 255).toUInt32.toUInt16.toUInt32.toInt32 = v := ⟨_, rfl⟩
  have hb := low8' ((p.toUInt32 >>> (3 &&& 31).toUInt32).toInt32)
  rw [hv] at hb
  refine g_iloadN d1_0 rfl (pc' := 1) rfl ?_
  refine g_bipush d1_1 (v := 7) rfl (pc' := 3) rfl ?_
  refine g_iand d1_3 (v := s) hs (pc' := 4) rfl ?_
  refine g_istoreN d1_4 (L' := #[.val (.int p), .val (.int s)]) rfl (pc' := 5) rfl ?_
  refine g_iloadN d1_5 rfl (pc' := 6) rfl ?_
  by_cases a : s = 0
  ·
    refine g_if_ne_f d1_6 a (pc' := 9) rfl ?_
    refine g_bipush d1_9 (v := 32) rfl (pc' := 11) rfl ?_
    exact g_ireturnN d1_11 rfl (by simp) (z := 32) rfl ⟨32, rfl, by decide, rfl⟩ (by decide) (by decide)
  · by_cases b : s = 1
    ·
      refine g_if_ne_t d1_6 a (pc' := 12) (by decide) rfl ?_
      refine g_iloadN d1_12 rfl (pc' := 13) rfl ?_
      refine g_iconst d1_13 (v := 1) rfl (pc' := 14) rfl ?_
      refine g_icmp_ne_f d1_14 b (pc' := 17) rfl ?_
      refine g_bipush d1_17 (v := 9) rfl (pc' := 19) rfl ?_
      exact g_ireturnN d1_19 rfl (by simp) (z := 9) rfl ⟨9, rfl, by decide, rfl⟩ (by decide) (by decide)
    · by_cases d : s = 2
      ·
        refine g_if_ne_t d1_6 a (pc' := 12) (by decide) rfl ?_
        refine g_iloadN d1_12 rfl (pc' := 13) rfl ?_
        refine g_iconst d1_13 (v := 1) rfl (pc' := 14) rfl ?_
        refine g_icmp_ne_t d1_14 b (pc' := 20) (by decide) rfl ?_
        refine g_iloadN d1_20 rfl (pc' := 21) rfl ?_
        refine g_iconst d1_21 (v := 2) rfl (pc' := 22) rfl ?_
        refine g_icmp_ne_f d1_22 d (pc' := 25) rfl ?_
        refine g_bipush d1_25 (v := 13) rfl (pc' := 27) rfl ?_
        exact g_ireturnN d1_27 rfl (by simp) (z := 13) rfl ⟨13, rfl, by decide, rfl⟩ (by decide) (by decide)
      · by_cases e : s = 3
        ·
          refine g_if_ne_t d1_6 a (pc' := 12) (by decide) rfl ?_
          refine g_iloadN d1_12 rfl (pc' := 13) rfl ?_
          refine g_iconst d1_13 (v := 1) rfl (pc' := 14) rfl ?_
          refine g_icmp_ne_t d1_14 b (pc' := 20) (by decide) rfl ?_
          refine g_iloadN d1_20 rfl (pc' := 21) rfl ?_
          refine g_iconst d1_21 (v := 2) rfl (pc' := 22) rfl ?_
          refine g_icmp_ne_t d1_22 d (pc' := 28) (by decide) rfl ?_
          refine g_iloadN d1_28 rfl (pc' := 29) rfl ?_
          refine g_iconst d1_29 (v := 3) rfl (pc' := 30) rfl ?_
          refine g_icmp_ne_f d1_30 e (pc' := 33) rfl ?_
          refine g_bipush d1_33 (v := 10) rfl (pc' := 35) rfl ?_
          exact g_ireturnN d1_35 rfl (by simp) (z := 10) rfl ⟨10, rfl, by decide, rfl⟩ (by decide) (by decide)
        ·
          refine g_if_ne_t d1_6 a (pc' := 12) (by decide) rfl ?_
          refine g_iloadN d1_12 rfl (pc' := 13) rfl ?_
          refine g_iconst d1_13 (v := 1) rfl (pc' := 14) rfl ?_
          refine g_icmp_ne_t d1_14 b (pc' := 20) (by decide) rfl ?_
          refine g_iloadN d1_20 rfl (pc' := 21) rfl ?_
          refine g_iconst d1_21 (v := 2) rfl (pc' := 22) rfl ?_
          refine g_icmp_ne_t d1_22 d (pc' := 28) (by decide) rfl ?_
          refine g_iloadN d1_28 rfl (pc' := 29) rfl ?_
          refine g_iconst d1_29 (v := 3) rfl (pc' := 30) rfl ?_
          refine g_icmp_ne_t d1_30 e (pc' := 36) (by decide) rfl ?_
          refine g_iloadN d1_36 rfl (pc' := 37) rfl ?_
          refine g_iconst d1_37 (v := 3) rfl (pc' := 38) rfl ?_
          refine g_iushr d1_38 rfl (pc' := 39) rfl ?_
          refine g_sipush d1_39 (v := 255) rfl (pc' := 42) rfl ?_
          refine g_iand d1_42 rfl (pc' := 43) rfl ?_
          refine g_i2c d1_43 (v := v) hv (pc' := 44) rfl ?_
          exact g_ireturnN d1_44 rfl (by simp) (lo8 v hb).2.1 ⟨v, rfl, hb, rfl⟩ (by decide) (by decide)
theorem ef_c_trim (m : MethodId) (x0 : Addr)  : entryFrame m #[(.ref x0)] 3 = mkF m 0 #[.val (.ref x0), .unset, .unset] [] := by first | (simp [entryFrame, mkF, argsToLocals, Value.category]; done) | rfl
set_option maxRecDepth 65536 in
set_option maxHeartbeats 40000000 in
theorem c_trim {l : Launch} {Z : State} {n0 : Nat} {a0 : Array Value} (hw : Hw a0 Z) (x t : Addr) (cs : List Int32) (z : Int32) (sf : Value) (h0 : Heap) (hC : Sta Z Z.heap "java/lang/String" "COMPACT_STRINGS" "Z" (.int z)) (hz : ¬ z = 0) (hF : Sta Z Z.heap "jdk/internal/util/Preconditions" "SIOOBE_FORMATTER" "Ljava/util/function/BiFunction;" sf) (rsf : sf.isRef = true) (S : St Z h0 x t cs) (h16 : cs.length ≤ 16) :
    Con l Z n0 ELs (⟨"com/example/antiphon/antiphon/model/XmlInput", "trimmed", "(Ljava/lang/String;)Ljava/lang/String;"⟩ : MethodName) prog_111_method_24_code 3 (some (.object "java/lang/String")) [] ({ frames := 5, cells := 2, slots := 20, locals := 120 } : Room) #[(.ref x)] h0 [] false (fun w h => ∃ x' t', w = .ref x' ∧ St Z h x' t' (trimL cs)) := by
  refine con_of (plainFor_of_name pn_6) (fun mt => ef_c_trim mt x ) ?_
  intro K
  have hsh := S.2.2.2.1.short
  rw [List.length_map] at hsh
  have fin : ∀ b e : Nat, b ≤ e → e ≤ cs.length → (cs.drop b).take (e - b) = trimL cs → Go l Z n0 ELs (⟨"com/example/antiphon/antiphon/model/XmlInput", "trimmed", "(Ljava/lang/String;)Ljava/lang/String;"⟩ : MethodName) prog_111_method_24_code 3 (some (.object "java/lang/String")) ({ frames := 5, cells := 2, slots := 20, locals := 120 } : Room) h0 [] false (fun w h => ∃ x' t', w = .ref x' ∧ St Z h x' t' (trimL cs)) K [] h0 (0 + 0) (0 + 0) 53 #[.val (.ref x), .val (.int (Int32.ofNat b)), .val (.int (Int32.ofNat e))] [] := by
    intro b e hbe hel ht
    refine g_aloadN d5_53 rfl rfl (pc' := 54) rfl ?_
    refine g_iloadN d5_54 rfl (pc' := 55) rfl ?_
    refine g_iloadN d5_55 rfl (pc' := 56) rfl ?_
    refine g_virt (W := 0) (argsL := [(.int (Int32.ofNat b)), (.int (Int32.ofNat e))]) (rest := []) d5_56 (w_42 hw) (w_43 hw) (nf_self (w_45 hw)) (w_45 hw) (w_44 hw) (by decide) (lenOf pd_13 rfl) S.1 (c_substr hw x t cs b e z sf _ hC hz hF rsf S hbe hel h16) (w_46 hw) (w_8 hw) (by decide) (by decide) (fun _ q => nomatch q) rfl (Nat.le_of_eq rfl) rfl (by decide) (by decide) (pc' := 59) rfl ?_
    intro w1 h1 q1 Kc1
    obtain ⟨x', t', rfl, S'⟩ := q1
    exact g_areturn d5_59 rfl rfl rfl ⟨x', t', rfl, ht ▸ S'⟩ (by decide) (by decide)
  have lp2 : ∀ (m b e : Nat), e = b + m → e ≤ cs.length → (∀ i (h : i < cs.length), i < b → isW cs[i] = true) → (∀ h : b < cs.length, isW cs[b] = false) → (∀ i (h : i < cs.length), e ≤ i → isW cs[i] = true) → Go l Z n0 ELs (⟨"com/example/antiphon/antiphon/model/XmlInput", "trimmed", "(Ljava/lang/String;)Ljava/lang/String;"⟩ : MethodName) prog_111_method_24_code 3 (some (.object "java/lang/String")) ({ frames := 5, cells := 2, slots := 20, locals := 120 } : Room) h0 [] false (fun w h => ∃ x' t', w = .ref x' ∧ St Z h x' t' (trimL cs)) K [] h0 (0 + 0) (0 + 0) 29 #[.val (.ref x), .val (.int (Int32.ofNat b)), .val (.int (Int32.ofNat e))] [] := by
    intro m
    induction m with
    | zero =>
      intro b e he hel h1 h2 h3
      refine g_iloadN d5_29 rfl (pc' := 30) rfl ?_
      refine g_iloadN d5_30 rfl (pc' := 31) rfl ?_
      refine g_icmp_le_t d5_31 (by subst he; exact (ofNat_le (Nat.le_refl _) (by omega)).2) (pc' := 53) (by decide) rfl ?_
      exact fin b e (by omega) hel (trim_at cs b e (by omega) hel h1 h2 h3 (fun q => absurd q (by omega)))
    | succ m ih =>
      intro b e he hel h1 h2 h3
      have hi : e - 1 < cs.length := by omega
      have hlt := ofNat_lt (i := b) (n := e) (by omega) (by omega)
      refine g_iloadN d5_29 rfl (pc' := 30) rfl ?_
      refine g_iloadN d5_30 rfl (pc' := 31) rfl ?_
      refine g_icmp_le_f d5_31 hlt.2.1 (pc' := 34) rfl ?_
      refine g_aloadN d5_34 rfl rfl (pc' := 35) rfl ?_
      refine g_iloadN d5_35 rfl (pc' := 36) rfl ?_
      refine g_iconst d5_36 (v := 1) rfl (pc' := 37) rfl ?_
      refine g_isub d5_37 (v := (Int32.ofNat (e - 1))) (ofNat_pred (by omega) (by omega)) (pc' := 38) rfl ?_
      refine g_virt (W := 0) (argsL := [(.int (Int32.ofNat (e - 1)))]) (rest := []) d5_38 (w_70 hw) (w_71 hw) (nf_self (w_73 hw)) (w_73 hw) (w_72 hw) (by decide) (lenOf pd_14 rfl) S.1 (c_charat hw x t cs (e - 1) _ z sf _ hC hz hF rsf S (List.getElem?_eq_getElem hi)) (w_74 hw) (w_8 hw) (by decide) (by decide) (fun _ q => nomatch q) rfl (Nat.le_of_eq rfl) rfl (by decide) (by decide) (pc' := 41) rfl ?_
      intro w1 h1 q1 Kc1
      obtain ⟨rfl, rfl⟩ := q1
      refine g_static (W := 0) (argsL := [(.int (cs[e - 1]))]) (rest := []) d5_41 (w_90 hw) (w_91 hw) (by decide) (lenOf pd_15 rfl) (c_xs hw _ _) (w_92 hw) (w_29 hw) (by decide) (by decide) (fun _ q => nomatch q) rfl (Nat.le_of_eq rfl) rfl (by decide) (by decide) (pc' := 44) rfl ?_
      intro w2 h2 q2 Kc2
      obtain ⟨rfl, rfl⟩ := q2
      by_cases q : isW cs[e - 1] = true
      ·
        refine g_if_eq_f d5_44 (by rw [if_pos q]; decide) (pc' := 47) rfl ?_
        refine g_iinc d5_47 (v := (-1)) rfl rfl (y := (Int32.ofNat (e - 1))) (ofNat_pred' (by omega) (by omega)) (L' := #[.val (.ref x), .val (.int (Int32.ofNat b)), .val (.int (Int32.ofNat (e - 1)))]) rfl (pc' := 50) rfl ?_
        refine g_goto d5_50 (pc' := 29) (by decide) rfl ?_
        exact ih b (e - 1) (by omega) (by omega) h1 h2 (fun i h hi' => by
          by_cases r : i = e - 1
          · subst r; exact q
          · exact h3 i h (by omega))
      ·
        refine g_if_eq_t d5_44 (if_neg q) (pc' := 53) (by decide) rfl ?_
        exact fin b e (by omega) hel (trim_at cs b e (by omega) hel h1 h2 h3 (fun _ _ => by simpa using q))
  have lp1 : ∀ (m b : Nat), cs.length = b + m → (∀ i (h : i < cs.length), i < b → isW cs[i] = true) → Go l Z n0 ELs (⟨"com/example/antiphon/antiphon/model/XmlInput", "trimmed", "(Ljava/lang/String;)Ljava/lang/String;"⟩ : MethodName) prog_111_method_24_code 3 (some (.object "java/lang/String")) ({ frames := 5, cells := 2, slots := 20, locals := 120 } : Room) h0 [] false (fun w h => ∃ x' t', w = .ref x' ∧ St Z h x' t' (trimL cs)) K [] h0 (0 + 0) (0 + 0) 7 #[.val (.ref x), .val (.int (Int32.ofNat b)), .val (.int (Int32.ofNat cs.length))] [] := by
    intro m
    induction m with
    | zero =>
      intro b hb h1
      refine g_iloadN d5_7 rfl (pc' := 8) rfl ?_
      refine g_iloadN d5_8 rfl (pc' := 9) rfl ?_
      refine g_icmp_ge_t d5_9 (by rw [show b = cs.length by omega]; exact (ofNat_le (Nat.le_refl _) (by omega)).2) (pc' := 29) (by decide) rfl ?_
      exact lp2 0 b cs.length (by omega) (Nat.le_refl _) h1 (fun h => absurd h (by omega)) (fun i h hi => absurd h (by omega))
    | succ m ih =>
      intro b hb h1
      have hi : b < cs.length := by omega
      have hlt := ofNat_lt (i := b) (n := cs.length) (by omega) (by omega)
      refine g_iloadN d5_7 rfl (pc' := 8) rfl ?_
      refine g_iloadN d5_8 rfl (pc' := 9) rfl ?_
      refine g_icmp_ge_f d5_9 hlt.2.1 (pc' := 12) rfl ?_
      refine g_aloadN d5_12 rfl rfl (pc' := 13) rfl ?_
      refine g_iloadN d5_13 rfl (pc' := 14) rfl ?_
      refine g_virt (W := 0) (argsL := [(.int (Int32.ofNat b))]) (rest := []) d5_14 (w_70 hw) (w_71 hw) (nf_self (w_73 hw)) (w_73 hw) (w_72 hw) (by decide) (lenOf pd_14 rfl) S.1 (c_charat hw x t cs (b) _ z sf _ hC hz hF rsf S (List.getElem?_eq_getElem hi)) (w_74 hw) (w_8 hw) (by decide) (by decide) (fun _ q => nomatch q) rfl (Nat.le_of_eq rfl) rfl (by decide) (by decide) (pc' := 17) rfl ?_
      intro w1 h1 q1 Kc1
      obtain ⟨rfl, rfl⟩ := q1
      refine g_static (W := 0) (argsL := [(.int (cs[b]))]) (rest := []) d5_17 (w_90 hw) (w_91 hw) (by decide) (lenOf pd_15 rfl) (c_xs hw _ _) (w_92 hw) (w_29 hw) (by decide) (by decide) (fun _ q => nomatch q) rfl (Nat.le_of_eq rfl) rfl (by decide) (by decide) (pc' := 20) rfl ?_
      intro w2 h2 q2 Kc2
      obtain ⟨rfl, rfl⟩ := q2
      by_cases q : isW cs[b] = true
      ·
        refine g_if_eq_f d5_20 (by rw [if_pos q]; decide) (pc' := 23) rfl ?_
        refine g_iinc d5_23 (v := 1) rfl rfl (y := (Int32.ofNat (b + 1))) (ofNat_succ (by omega)) (L' := #[.val (.ref x), .val (.int (Int32.ofNat (b + 1))), .val (.int (Int32.ofNat cs.length))]) rfl (pc' := 26) rfl ?_
        refine g_goto d5_26 (pc' := 7) (by decide) rfl ?_
        exact ih (b + 1) (by omega) (fun i h hi' => by
          by_cases r : i = b
          · subst r; exact q
          · exact h1 i h (by omega))
      ·
        refine g_if_eq_t d5_20 (if_neg q) (pc' := 29) (by decide) rfl ?_
        exact lp2 (cs.length - b) b cs.length (by omega) (Nat.le_refl _) h1 (fun _ => by simpa using q) (fun i h hi => absurd h (by omega))
  refine g_iconst d5_0 (v := 0) rfl (pc' := 1) rfl ?_
  refine g_istoreN d5_1 (L' := #[.val (.ref x), .val (.int 0), .unset]) rfl (pc' := 2) rfl ?_
  refine g_aloadN d5_2 rfl rfl (pc' := 3) rfl ?_
  refine g_virt (W := 0) (argsL := []) (rest := []) d5_3 (w_31 hw) (w_32 hw) (nf_self (w_34 hw)) (w_34 hw) (w_33 hw) (by decide) (lenOf pd_10 rfl) S.1 (c_len hw x t cs z _ hC hz S) (w_35 hw) (w_8 hw) (by decide) (by decide) (fun _ q => nomatch q) rfl (Nat.le_of_eq rfl) rfl (by decide) (by decide) (pc' := 6) rfl ?_
  intro w1 h1 q1 Kc1
  obtain ⟨rfl, rfl⟩ := q1
  refine g_istoreN d5_6 (L' := #[.val (.ref x), .val (.int 0), .val (.int (Int32.ofNat cs.length))]) rfl (pc' := 7) rfl ?_
  exact lp1 cs.length 0 (by omega) (fun i h hi => absurd hi (by omega))
theorem c_lenN {l : Launch} {Z : State} {n0 : Nat} {a0 : Array Value} (hw : Hw a0 Z) (x t : Addr) (cs : List Int32) (m z : Int32) (h0 : Heap) (hC : Sta Z Z.heap "java/lang/String" "COMPACT_STRINGS" "Z" (.int z)) (hz : ¬ z = 0) (S : St Z h0 x t cs) (hm : Int32.ofNat cs.length = m) :
    Con l Z n0 ELs (⟨"java/lang/String", "length", "()I"⟩ : MethodName) jdk_42_method_54_code 1 (some .int) [] ({ frames := 1, cells := 0, slots := 0, locals := 13 } : Room) #[(.ref x)] h0 [] false (fun w h => w = .int m ∧ h0 = h) := hm ▸ c_len hw x t cs z h0 hC hz S
theorem ef_c_law (m : MethodId) (x0 : Int32) (x1 : Int32) (x2 : Int32) (x3 : Int32) (x4 : Int32)  : entryFrame m #[(.int x0), (.int x1), (.int x2), (.int x3), (.int x4)] maxLocals = mkF m 0 #[.val (.int x0), .val (.int x1), .val (.int x2), .val (.int x3), .val (.int x4), .unset, .unset, .unset, .unset, .unset, .unset, .unset, .unset, .unset, .unset, .unset] [] := by first | (simp [entryFrame, mkF, argsToLocals, Value.category, maxLocals]; done) | rfl
set_option maxRecDepth 65536 in
set_option maxHeartbeats 40000000 in
theorem c_law {l : Launch} {Z : State} {n0 : Nat} {a0 : Array Value} (hw : Hw a0 Z) (p0 p1 p2 p3 p4 z : Int32) (sf : Value) (h0 : Heap) (hC : Sta Z Z.heap "java/lang/String" "COMPACT_STRINGS" "Z" (.int z)) (hz : ¬ z = 0) (hF : Sta Z Z.heap "jdk/internal/util/Preconditions" "SIOOBE_FORMATTER" "Ljava/util/function/BiFunction;" sf) (rsf : sf.isRef = true) :
    Con l Z n0 ELs x code maxLocals ret tables_1 room_1 #[(.int p0), (.int p1), (.int p2), (.int p3), (.int p4)] h0 [] false (fun w h => w = .int 1) := by
  refine con_of (plainFor_of_name pn_5) (fun mt => ef_c_law mt p0 p1 p2 p3 p4 ) ?_
  intro K
  obtain ⟨nn, hnn⟩ : ∃ c, (p4 &&& 2147483647) % 5 = c := ⟨_, rfl⟩
  have hn5 := mod5 p4; rw [hnn] at hn5
  have hws : ∀ d ∈ StrChars.Road.words, d.before a0 Z = true := fun d hd => hw d ((by decide +kernel : ∀ d ∈ StrChars.Road.words, d ∈ tables_1) d hd)
  refine g_iload at_0 rfl (pc' := 2) rfl ?_
  refine g_ldcI at_2 (w_0 hw) (pc' := 4) rfl ?_
  refine g_iand at_4 rfl (pc' := 5) rfl ?_
  refine g_iconst at_5 (v := 5) rfl (pc' := 6) rfl ?_
  refine g_irem at_6 (by decide) (v := nn) hnn (pc' := 7) rfl ?_
  refine g_istore at_7 (L' := #[.val (.int p0), .val (.int p1), .val (.int p2), .val (.int p3), .val (.int p4), .val (.int nn), .unset, .unset, .unset, .unset, .unset, .unset, .unset, .unset, .unset, .unset]) rfl (pc' := 9) rfl ?_
  refine g_iconst at_9 (v := 4) rfl (pc' := 10) rfl ?_
  refine g_newA at_10 (w_1 hw) rfl (by decide) (cap := 4) (by decide) (by decide) (by decide) (by decide) (pc' := 12) rfl ?_
  intro ca h1 g1 Kn1 A_ca sz_ca
  replace A_ca : Ia Z h1 ca .char [0, 0, 0, 0] := A_ca
  refine g_astore at_12 rfl (L' := #[.val (.int p0), .val (.int p1), .val (.int p2), .val (.int p3), .val (.int p4), .val (.int nn), .val (.ref ca), .unset, .unset, .unset, .unset, .unset, .unset, .unset, .unset, .unset]) rfl (pc' := 14) rfl ?_
  refine g_aload at_14 rfl rfl (pc' := 16) rfl ?_
  refine g_iconst at_16 (v := 0) rfl (pc' := 17) rfl ?_
  refine g_iloadN at_17 rfl (pc' := 18) rfl ?_
  refine g_static (W := 2) (argsL := [(.int p0)]) (rest := [(.int 0), (.ref ca)]) at_18 (w_2 hw) (w_3 hw) (by decide) (lenOf pd_14 rfl) (c_ch hw p0 _) (w_5 hw) (w_4 hw) (by decide) (by decide) (fun _ q => nomatch q) rfl (Nat.le_of_eq rfl) rfl (by decide) (by decide) (pc' := 21) rfl ?_
  intro w2 h2 q2 Kc2
  obtain ⟨c0, rfl, b0, rfl⟩ := q2
  refine g_castore at_21 A_ca (by decide) (i := 0) rfl (Nat.le_of_ble_eq_true rfl) (Or.inr sz_ca) (List.mem_of_getElem? (i := 0) rfl) (pc' := 22) rfl ?_
  intro h3 Kw3 A_ca_3
  replace A_ca_3 : Ia Z h3 ca .char [c0, 0, 0, 0] := (by rw [(lo8 c0 b0).2.1] at A_ca_3; exact A_ca_3)
  refine g_aload at_22 rfl rfl (pc' := 24) rfl ?_
  refine g_iconst at_24 (v := 1) rfl (pc' := 25) rfl ?_
  refine g_iloadN at_25 rfl (pc' := 26) rfl ?_
  refine g_static (W := 2) (argsL := [(.int p1)]) (rest := [(.int 1), (.ref ca)]) at_26 (w_2 hw) (w_3 hw) (by decide) (lenOf pd_14 rfl) (c_ch hw p1 _) (w_5 hw) (w_4 hw) (by decide) (by decide) (fun _ q => nomatch q) rfl (Nat.le_of_eq rfl) rfl (by decide) (by decide) (pc' := 29) rfl ?_
  intro w4 h4 q4 Kc4
  obtain ⟨c1, rfl, b1, rfl⟩ := q4
  refine g_castore at_29 A_ca_3 (by decide) (i := 1) rfl (Nat.le_of_ble_eq_true rfl) (Or.inr sz_ca) (List.mem_of_getElem? (i := 0) rfl) (pc' := 30) rfl ?_
  intro h5 Kw5 A_ca_5
  replace A_ca_5 : Ia Z h5 ca .char [c0, c1, 0, 0] := (by rw [(lo8 c1 b1).2.1] at A_ca_5; exact A_ca_5)
  refine g_aload at_30 rfl rfl (pc' := 32) rfl ?_
  refine g_iconst at_32 (v := 2) rfl (pc' := 33) rfl ?_
  refine g_iloadN at_33 rfl (pc' := 34) rfl ?_
  refine g_static (W := 2) (argsL := [(.int p2)]) (rest := [(.int 2), (.ref ca)]) at_34 (w_2 hw) (w_3 hw) (by decide) (lenOf pd_14 rfl) (c_ch hw p2 _) (w_5 hw) (w_4 hw) (by decide) (by decide) (fun _ q => nomatch q) rfl (Nat.le_of_eq rfl) rfl (by decide) (by decide) (pc' := 37) rfl ?_
  intro w6 h6 q6 Kc6
  obtain ⟨c2, rfl, b2, rfl⟩ := q6
  refine g_castore at_37 A_ca_5 (by decide) (i := 2) rfl (Nat.le_of_ble_eq_true rfl) (Or.inr sz_ca) (List.mem_of_getElem? (i := 0) rfl) (pc' := 38) rfl ?_
  intro h7 Kw7 A_ca_7
  replace A_ca_7 : Ia Z h7 ca .char [c0, c1, c2, 0] := (by rw [(lo8 c2 b2).2.1] at A_ca_7; exact A_ca_7)
  refine g_aload at_38 rfl rfl (pc' := 40) rfl ?_
  refine g_iconst at_40 (v := 3) rfl (pc' := 41) rfl ?_
  refine g_iloadN at_41 rfl (pc' := 42) rfl ?_
  refine g_static (W := 2) (argsL := [(.int p3)]) (rest := [(.int 3), (.ref ca)]) at_42 (w_2 hw) (w_3 hw) (by decide) (lenOf pd_14 rfl) (c_ch hw p3 _) (w_5 hw) (w_4 hw) (by decide) (by decide) (fun _ q => nomatch q) rfl (Nat.le_of_eq rfl) rfl (by decide) (by decide) (pc' := 45) rfl ?_
  intro w8 h8 q8 Kc8
  obtain ⟨c3, rfl, b3, rfl⟩ := q8
  refine g_castore at_45 A_ca_7 (by decide) (i := 3) rfl (Nat.le_of_ble_eq_true rfl) (Or.inr sz_ca) (List.mem_of_getElem? (i := 0) rfl) (pc' := 46) rfl ?_
  intro h9 Kw9 A_ca_9
  replace A_ca_9 : Ia Z h9 ca .char [c0, c1, c2, c3] := (by rw [(lo8 c3 b3).2.1] at A_ca_9; exact A_ca_9)
  refine g_iload at_46 rfl (pc' := 48) rfl ?_
  rcases hn5 with rfl | rfl | rfl | rfl | rfl
  ·
    refine g_if_ne_f at_48 rfl (pc' := 51) rfl ?_
    refine g_new at_51 (w_6 hw) (w_7 hw) (w_8 hw) (by decide) (by decide) (pc' := 54) rfl ?_
    intro x h10 g10 Kn10 E_x D10 sz_x
    have F_value_x : Fld Z h10 x "java/lang/String" "value" "[B" .null := D10 (Or.inr (w_21 hw)) (ty := (.array .byte)) (by decide)
    have F_coder_x : Fld Z h10 x "java/lang/String" "coder" "B" (.int 0) := D10 (Or.inr (w_22 hw)) (ty := .byte) (by decide)
    refine g_dup at_54 rfl (pc' := 55) rfl ?_
    refine g_iconst at_55 (v := 0) rfl (pc' := 56) rfl ?_
    refine g_newA at_56 (w_1 hw) rfl (by decide) (cap := 0) (by decide) (by decide) (by decide) (by decide) (pc' := 58) rfl ?_
    intro cb h11 g11 Kn11 A_cb sz_cb
    replace A_cb : Ia Z h11 cb .char [] := A_cb
    refine g_init (W := 1) (argsL := [(.ref cb)]) (rest := [(.ref x)]) at_58 rfl (w_9 hw) (w_10 hw) (by decide) (lenOf pd_16 rfl) (c_str0 hw x cb _ _ _ (E_x.keep Kn11) (F_value_x.keep Kn11 nin0) (F_coder_x.keep Kn11 nin0) A_cb) (w_11 hw) (w_8 hw) (by decide) (by decide) (allS ⟨(Or.inr sz_x), (List.mem_of_getElem? (i := 1) rfl)⟩ all0) rfl (Nat.le_of_eq rfl) rfl (by decide) (by decide) (pc' := 61) rfl ?_
    intro w12 h12 q12 Kc12
    obtain ⟨ts, Ss⟩ := q12
    refine g_astore at_61 rfl (L' := #[.val (.int p0), .val (.int p1), .val (.int p2), .val (.int p3), .val (.int p4), .val (.int 0), .val (.ref ca), .val (.ref x), .unset, .unset, .unset, .unset, .unset, .unset, .unset, .unset]) rfl (pc' := 63) rfl ?_
    refine g_goto at_63 (pc' := 211) (by decide) rfl ?_
    refine g_iload at_211 rfl (pc' := 213) rfl ?_
    refine g_if_le_t at_213 (by decide) (pc' := 230) (by decide) rfl ?_
    refine g_iconst at_230 (v := 0) rfl (pc' := 231) rfl ?_
    refine g_istore at_231 (L' := #[.val (.int p0), .val (.int p1), .val (.int p2), .val (.int p3), .val (.int p4), .val (.int 0), .val (.ref ca), .val (.ref x), .val (.int 0), .unset, .unset, .unset, .unset, .unset, .unset, .unset]) rfl (pc' := 233) rfl ?_
    refine g_iload at_233 rfl (pc' := 235) rfl ?_
    refine g_iconst at_235 (v := 1) rfl (pc' := 236) rfl ?_
    refine g_icmp_le_t at_236 (by decide) (pc' := 253) (by decide) rfl ?_
    refine g_iconst at_253 (v := 0) rfl (pc' := 254) rfl ?_
    refine g_istore at_254 (L' := #[.val (.int p0), .val (.int p1), .val (.int p2), .val (.int p3), .val (.int p4), .val (.int 0), .val (.ref ca), .val (.ref x), .val (.int 0), .val (.int 0), .unset, .unset, .unset, .unset, .unset, .unset]) rfl (pc' := 256) rfl ?_
    refine g_iload at_256 rfl (pc' := 258) rfl ?_
    refine g_iconst at_258 (v := 2) rfl (pc' := 259) rfl ?_
    refine g_icmp_le_t at_259 (by decide) (pc' := 276) (by decide) rfl ?_
    refine g_iconst at_276 (v := 0) rfl (pc' := 277) rfl ?_
    refine g_istore at_277 (L' := #[.val (.int p0), .val (.int p1), .val (.int p2), .val (.int p3), .val (.int p4), .val (.int 0), .val (.ref ca), .val (.ref x), .val (.int 0), .val (.int 0), .val (.int 0), .unset, .unset, .unset, .unset, .unset]) rfl (pc' := 279) rfl ?_
    refine g_iload at_279 rfl (pc' := 281) rfl ?_
    refine g_iconst at_281 (v := 3) rfl (pc' := 282) rfl ?_
    refine g_icmp_le_t at_282 (by decide) (pc' := 299) (by decide) rfl ?_
    refine g_iconst at_299 (v := 0) rfl (pc' := 300) rfl ?_
    refine g_istore at_300 (L' := #[.val (.int p0), .val (.int p1), .val (.int p2), .val (.int p3), .val (.int p4), .val (.int 0), .val (.ref ca), .val (.ref x), .val (.int 0), .val (.int 0), .val (.int 0), .val (.int 0), .unset, .unset, .unset, .unset]) rfl (pc' := 302) rfl ?_
    refine g_iload at_302 rfl (pc' := 304) rfl ?_
    refine g_if_eq_t at_304 rfl (pc' := 313) (by decide) rfl ?_
    refine g_iload at_313 rfl (pc' := 315) rfl ?_
    refine g_if_eq_t at_315 rfl (pc' := 324) (by decide) rfl ?_
    refine g_iload at_324 rfl (pc' := 326) rfl ?_
    refine g_if_eq_t at_326 rfl (pc' := 335) (by decide) rfl ?_
    refine g_iload at_335 rfl (pc' := 337) rfl ?_
    refine g_if_eq_t at_337 rfl (pc' := 346) (by decide) rfl ?_
    refine g_iload at_346 rfl (pc' := 348) rfl ?_
    refine g_istore at_348 (L' := #[.val (.int p0), .val (.int p1), .val (.int p2), .val (.int p3), .val (.int p4), .val (.int 0), .val (.ref ca), .val (.ref x), .val (.int 0), .val (.int 0), .val (.int 0), .val (.int 0), .val (.int 0), .unset, .unset, .unset]) rfl (pc' := 350) rfl ?_
    refine g_iload at_350 rfl (pc' := 352) rfl ?_
    refine g_if_eq_t at_352 rfl (pc' := 361) (by decide) rfl ?_
    refine g_iload at_361 rfl (pc' := 363) rfl ?_
    refine g_if_eq_t at_363 rfl (pc' := 372) (by decide) rfl ?_
    refine g_iload at_372 rfl (pc' := 374) rfl ?_
    refine g_if_eq_t at_374 rfl (pc' := 383) (by decide) rfl ?_
    refine g_iload at_383 rfl (pc' := 385) rfl ?_
    refine g_if_eq_t at_385 rfl (pc' := 394) (by decide) rfl ?_
    refine g_iload at_394 rfl (pc' := 396) rfl ?_
    refine g_istore at_396 (L' := #[.val (.int p0), .val (.int p1), .val (.int p2), .val (.int p3), .val (.int p4), .val (.int 0), .val (.ref ca), .val (.ref x), .val (.int 0), .val (.int 0), .val (.int 0), .val (.int 0), .val (.int 0), .val (.int 0), .unset, .unset]) rfl (pc' := 398) rfl ?_
    refine g_aload at_398 rfl rfl (pc' := 400) rfl ?_
    refine g_static (W := 0) (argsL := [(.ref x)]) (rest := []) at_400 (w_27 hw) (w_28 hw) (by decide) (lenOf pd_17 rfl) (c_trim hw x _ _ z sf _ hC hz hF rsf Ss (Nat.le_of_ble_eq_true rfl)) (w_30 hw) (w_29 hw) (by decide) (by decide) (fun _ q => nomatch q) rfl (Nat.le_of_eq rfl) rfl (by decide) (by decide) (pc' := 403) rfl ?_
    intro w13 h13 q13 Kc13
    obtain ⟨sr, tr, rfl, Sr⟩ := q13
    have e13 : trimL [] = [] := by simp [trimL, List.dropWhile]
    rw [e13] at Sr
    refine g_astore at_403 rfl (L' := #[.val (.int p0), .val (.int p1), .val (.int p2), .val (.int p3), .val (.int p4), .val (.int 0), .val (.ref ca), .val (.ref x), .val (.int 0), .val (.int 0), .val (.int 0), .val (.int 0), .val (.int 0), .val (.int 0), .val (.ref sr), .unset]) rfl (pc' := 405) rfl ?_
    refine g_aload at_405 rfl rfl (pc' := 407) rfl ?_
    refine g_virt (W := 0) (argsL := []) (rest := []) at_407 (w_56 hw) (w_32 hw) (nf_self (w_34 hw)) (w_34 hw) (w_33 hw) (by decide) (lenOf pd_10 rfl) Sr.1 (c_lenN hw sr tr _ 0 z _ hC hz Sr rfl) (w_35 hw) (w_8 hw) (by decide) (by decide) (fun _ q => nomatch q) rfl (Nat.le_of_eq rfl) rfl (by decide) (by decide) (pc' := 410) rfl ?_
    intro w14 h14 q14 Kc14
    obtain ⟨rfl, rfl⟩ := q14
    refine g_iload at_410 rfl (pc' := 412) rfl ?_
    refine g_iload at_412 rfl (pc' := 414) rfl ?_
    refine g_isub at_414 (v := 0) rfl (pc' := 415) rfl ?_
    refine g_icmp_eq_t at_415 rfl (pc' := 420) (by decide) rfl ?_
    refine g_aload at_420 rfl rfl (pc' := 422) rfl ?_
    refine g_virt (W := 0) (argsL := []) (rest := []) at_422 (w_56 hw) (w_32 hw) (nf_self (w_34 hw)) (w_34 hw) (w_33 hw) (by decide) (lenOf pd_10 rfl) Sr.1 (c_lenN hw sr tr _ 0 z _ hC hz Sr rfl) (w_35 hw) (w_8 hw) (by decide) (by decide) (fun _ q => nomatch q) rfl (Nat.le_of_eq rfl) rfl (by decide) (by decide) (pc' := 425) rfl ?_
    intro w15 h15 q15 Kc15
    obtain ⟨rfl, rfl⟩ := q15
    refine g_istore at_425 (L' := #[.val (.int p0), .val (.int p1), .val (.int p2), .val (.int p3), .val (.int p4), .val (.int 0), .val (.ref ca), .val (.ref x), .val (.int 0), .val (.int 0), .val (.int 0), .val (.int 0), .val (.int 0), .val (.int 0), .val (.ref sr), .val (.int 0)]) rfl (pc' := 427) rfl ?_
    refine g_iload at_427 rfl (pc' := 429) rfl ?_
    refine g_if_le_t at_429 (by decide) (pc' := 446) (by decide) rfl ?_
    refine g_iload at_446 rfl (pc' := 448) rfl ?_
    refine g_iconst at_448 (v := 1) rfl (pc' := 449) rfl ?_
    refine g_icmp_le_t at_449 (by decide) (pc' := 468) (by decide) rfl ?_
    refine g_iload at_468 rfl (pc' := 470) rfl ?_
    refine g_iconst at_470 (v := 2) rfl (pc' := 471) rfl ?_
    refine g_icmp_le_t at_471 (by decide) (pc' := 490) (by decide) rfl ?_
    refine g_iload at_490 rfl (pc' := 492) rfl ?_
    refine g_iconst at_492 (v := 3) rfl (pc' := 493) rfl ?_
    refine g_icmp_le_t at_493 (by decide) (pc' := 512) (by decide) rfl ?_
    refine g_iconst at_512 (v := 1) rfl (pc' := 513) rfl ?_
    refine g_goto at_513 (pc' := 517) (by decide) rfl ?_
    exact g_ireturnN at_517 rfl (by simp) (z := 1) rfl rfl (by decide) (by decide)
  ·
    refine g_if_ne_t at_48 (by decide) (pc' := 66) (by decide) rfl ?_
    refine g_iload at_66 rfl (pc' := 68) rfl ?_
    refine g_iconst at_68 (v := 1) rfl (pc' := 69) rfl ?_
    refine g_icmp_ne_f at_69 rfl (pc' := 72) rfl ?_
    refine g_new at_72 (w_6 hw) (w_7 hw) (w_8 hw) (by decide) (by decide) (pc' := 75) rfl ?_
    intro x h16 g16 Kn16 E_x D16 sz_x
    have F_value_x : Fld Z h16 x "java/lang/String" "value" "[B" .null := D16 (Or.inr (w_21 hw)) (ty := (.array .byte)) (by decide)
    have F_coder_x : Fld Z h16 x "java/lang/String" "coder" "B" (.int 0) := D16 (Or.inr (w_22 hw)) (ty := .byte) (by decide)
    refine g_dup at_75 rfl (pc' := 76) rfl ?_
    refine g_iconst at_76 (v := 1) rfl (pc' := 77) rfl ?_
    refine g_newA at_77 (w_1 hw) rfl (by decide) (cap := 1) (by decide) (by decide) (by decide) (by decide) (pc' := 79) rfl ?_
    intro cb h17 g17 Kn17 A_cb sz_cb
    replace A_cb : Ia Z h17 cb .char [0] := A_cb
    refine g_dup at_79 rfl (pc' := 80) rfl ?_
    refine g_iconst at_80 (v := 0) rfl (pc' := 81) rfl ?_
    refine g_aload at_81 rfl rfl (pc' := 83) rfl ?_
    refine g_iconst at_83 (v := 0) rfl (pc' := 84) rfl ?_
    refine g_caload at_84 ((A_ca_9.keep Kn16 nin0).keep Kn17 nin0) (by decide) (i := 0) rfl rfl (pc' := 85) rfl ?_
    refine g_castore at_85 A_cb (by decide) (i := 0) rfl (Nat.le_of_ble_eq_true rfl) (Or.inr sz_cb) (List.mem_of_getElem? (i := 0) rfl) (pc' := 86) rfl ?_
    intro h18 Kw18 A_cb_18
    replace A_cb_18 : Ia Z h18 cb .char [c0] := (by rw [(lo8 c0 b0).2.1] at A_cb_18; exact A_cb_18)
    refine g_initB (W := 1) (argsL := [(.ref cb)]) (rest := [(.ref x)]) at_86 rfl (w_9 hw) (w_10 hw) (w_11 hw) (by decide) (lenOf pd_16 rfl) (bk_str (len := 1) hws (w_7 hw) sz_x ((E_x.keep Kn17).keep Kw18) ((F_value_x.keep Kn17 nin0).keep Kw18 (ninS (Nat.ne_of_lt (Nat.lt_of_lt_of_le (E_x).lt (Nat.le_of_eq g17.symm))) nin0)) ((F_coder_x.keep Kn17 nin0).keep Kw18 (ninS (Nat.ne_of_lt (Nat.lt_of_lt_of_le (E_x).lt (Nat.le_of_eq g17.symm))) nin0)) A_cb_18 hC hz rfl (by decide) (by decide) (all1 b0 b1 b2 b3) (by decide) (by decide)) (fun _ _ _ _ q => ⟨q.2.1, q.2.2.1⟩) (allS (List.mem_of_getElem? (i := 1) rfl) all0) rfl (Nat.le_of_eq rfl) rfl (by decide) (by decide) (pc' := 89) rfl ?_
    intro v19 h19 L19 q19
    obtain ⟨rfl, -, Kc19, ts, hts, Ss⟩ := q19
    refine g_astore at_89 rfl (L' := #[.val (.int p0), .val (.int p1), .val (.int p2), .val (.int p3), .val (.int p4), .val (.int 1), .val (.ref ca), .val (.ref x), .unset, .unset, .unset, .unset, .unset, .unset, .unset, .unset]) rfl (pc' := 91) rfl ?_
    refine g_goto at_91 (pc' := 211) (by decide) rfl ?_
    refine g_iload at_211 rfl (pc' := 213) rfl ?_
    refine g_if_le_f at_213 (by decide) (pc' := 216) rfl ?_
    refine g_aload at_216 rfl rfl (pc' := 218) rfl ?_
    refine g_iconst at_218 (v := 0) rfl (pc' := 219) rfl ?_
    refine g_caload at_219 ((((A_ca_9.keep Kn16 nin0).keep Kn17 nin0).keep Kw18 (ninS (Nat.ne_of_lt (Nat.lt_of_lt_of_le ((A_ca_9.keep Kn16 nin0)).lt (Nat.le_of_eq g17.symm))) nin0)).keep Kc19 (ninS (Nat.ne_of_lt (Nat.lt_of_lt_of_le (A_ca_9).lt (Nat.le_of_eq g16.symm))) nin0)) (by decide) (i := 0) rfl rfl (pc' := 220) rfl ?_
    refine g_static (W := 0) (argsL := [(.int c0)]) (rest := []) at_220 (w_67 hw) (w_68 hw) (by decide) (lenOf pd_15 rfl) (c_ws hw c0 _) (w_69 hw) (w_4 hw) (by decide) (by decide) (fun _ q => nomatch q) rfl (Nat.le_of_eq rfl) rfl (by decide) (by decide) (pc' := 223) rfl ?_
    intro w20 h20 q20 Kc20
    obtain ⟨rfl, rfl⟩ := q20
    rcases Bool.eq_false_or_eq_true (isW c0) with f0 | f0
    ·
      refine g_if_ne_t at_223 (by rw [if_pos f0]; decide) (pc' := 230) (by decide) rfl ?_
      refine g_iconst at_230 (v := 0) rfl (pc' := 231) rfl ?_
      refine g_istore at_231 (L' := #[.val (.int p0), .val (.int p1), .val (.int p2), .val (.int p3), .val (.int p4), .val (.int 1), .val (.ref ca), .val (.ref x), .val (.int 0), .unset, .unset, .unset, .unset, .unset, .unset, .unset]) rfl (pc' := 233) rfl ?_
      refine g_iload at_233 rfl (pc' := 235) rfl ?_
      refine g_iconst at_235 (v := 1) rfl (pc' := 236) rfl ?_
      refine g_icmp_le_t at_236 (by decide) (pc' := 253) (by decide) rfl ?_
      refine g_iconst at_253 (v := 0) rfl (pc' := 254) rfl ?_
      refine g_istore at_254 (L' := #[.val (.int p0), .val (.int p1), .val (.int p2), .val (.int p3), .val (.int p4), .val (.int 1), .val (.ref ca), .val (.ref x), .val (.int 0), .val (.int 0), .unset, .unset, .unset, .unset, .unset, .unset]) rfl (pc' := 256) rfl ?_
      refine g_iload at_256 rfl (pc' := 258) rfl ?_
      refine g_iconst at_258 (v := 2) rfl (pc' := 259) rfl ?_
      refine g_icmp_le_t at_259 (by decide) (pc' := 276) (by decide) rfl ?_
      refine g_iconst at_276 (v := 0) rfl (pc' := 277) rfl ?_
      refine g_istore at_277 (L' := #[.val (.int p0), .val (.int p1), .val (.int p2), .val (.int p3), .val (.int p4), .val (.int 1), .val (.ref ca), .val (.ref x), .val (.int 0), .val (.int 0), .val (.int 0), .unset, .unset, .unset, .unset, .unset]) rfl (pc' := 279) rfl ?_
      refine g_iload at_279 rfl (pc' := 281) rfl ?_
      refine g_iconst at_281 (v := 3) rfl (pc' := 282) rfl ?_
      refine g_icmp_le_t at_282 (by decide) (pc' := 299) (by decide) rfl ?_
      refine g_iconst at_299 (v := 0) rfl (pc' := 300) rfl ?_
      refine g_istore at_300 (L' := #[.val (.int p0), .val (.int p1), .val (.int p2), .val (.int p3), .val (.int p4), .val (.int 1), .val (.ref ca), .val (.ref x), .val (.int 0), .val (.int 0), .val (.int 0), .val (.int 0), .unset, .unset, .unset, .unset]) rfl (pc' := 302) rfl ?_
      refine g_iload at_302 rfl (pc' := 304) rfl ?_
      refine g_if_eq_t at_304 rfl (pc' := 313) (by decide) rfl ?_
      refine g_iload at_313 rfl (pc' := 315) rfl ?_
      refine g_if_eq_t at_315 rfl (pc' := 324) (by decide) rfl ?_
      refine g_iload at_324 rfl (pc' := 326) rfl ?_
      refine g_if_eq_t at_326 rfl (pc' := 335) (by decide) rfl ?_
      refine g_iload at_335 rfl (pc' := 337) rfl ?_
      refine g_if_eq_t at_337 rfl (pc' := 346) (by decide) rfl ?_
      refine g_iload at_346 rfl (pc' := 348) rfl ?_
      refine g_istore at_348 (L' := #[.val (.int p0), .val (.int p1), .val (.int p2), .val (.int p3), .val (.int p4), .val (.int 1), .val (.ref ca), .val (.ref x), .val (.int 0), .val (.int 0), .val (.int 0), .val (.int 0), .val (.int 1), .unset, .unset, .unset]) rfl (pc' := 350) rfl ?_
      refine g_iload at_350 rfl (pc' := 352) rfl ?_
      refine g_if_eq_t at_352 rfl (pc' := 361) (by decide) rfl ?_
      refine g_iload at_361 rfl (pc' := 363) rfl ?_
      refine g_if_eq_t at_363 rfl (pc' := 372) (by decide) rfl ?_
      refine g_iload at_372 rfl (pc' := 374) rfl ?_
      refine g_if_eq_t at_374 rfl (pc' := 383) (by decide) rfl ?_
      refine g_iload at_383 rfl (pc' := 385) rfl ?_
      refine g_if_eq_t at_385 rfl (pc' := 394) (by decide) rfl ?_
      refine g_iload at_394 rfl (pc' := 396) rfl ?_
      refine g_istore at_396 (L' := #[.val (.int p0), .val (.int p1), .val (.int p2), .val (.int p3), .val (.int p4), .val (.int 1), .val (.ref ca), .val (.ref x), .val (.int 0), .val (.int 0), .val (.int 0), .val (.int 0), .val (.int 1), .val (.int 1), .unset, .unset]) rfl (pc' := 398) rfl ?_
      refine g_aload at_398 rfl rfl (pc' := 400) rfl ?_
      refine g_static (W := 0) (argsL := [(.ref x)]) (rest := []) at_400 (w_27 hw) (w_28 hw) (by decide) (lenOf pd_17 rfl) (c_trim hw x _ _ z sf _ hC hz hF rsf Ss (Nat.le_of_ble_eq_true rfl)) (w_30 hw) (w_29 hw) (by decide) (by decide) (fun _ q => nomatch q) rfl (Nat.le_of_eq rfl) rfl (by decide) (by decide) (pc' := 403) rfl ?_
      intro w21 h21 q21 Kc21
      obtain ⟨sr, tr, rfl, Sr⟩ := q21
      have e21 : trimL [c0] = [] := by simp [trimL, List.dropWhile, f0]
      rw [e21] at Sr
      refine g_astore at_403 rfl (L' := #[.val (.int p0), .val (.int p1), .val (.int p2), .val (.int p3), .val (.int p4), .val (.int 1), .val (.ref ca), .val (.ref x), .val (.int 0), .val (.int 0), .val (.int 0), .val (.int 0), .val (.int 1), .val (.int 1), .val (.ref sr), .unset]) rfl (pc' := 405) rfl ?_
      refine g_aload at_405 rfl rfl (pc' := 407) rfl ?_
      refine g_virt (W := 0) (argsL := []) (rest := []) at_407 (w_56 hw) (w_32 hw) (nf_self (w_34 hw)) (w_34 hw) (w_33 hw) (by decide) (lenOf pd_10 rfl) Sr.1 (c_lenN hw sr tr _ 0 z _ hC hz Sr rfl) (w_35 hw) (w_8 hw) (by decide) (by decide) (fun _ q => nomatch q) rfl (Nat.le_of_eq rfl) rfl (by decide) (by decide) (pc' := 410) rfl ?_
      intro w22 h22 q22 Kc22
      obtain ⟨rfl, rfl⟩ := q22
      refine g_iload at_410 rfl (pc' := 412) rfl ?_
      refine g_iload at_412 rfl (pc' := 414) rfl ?_
      refine g_isub at_414 (v := 0) rfl (pc' := 415) rfl ?_
      refine g_icmp_eq_t at_415 rfl (pc' := 420) (by decide) rfl ?_
      refine g_aload at_420 rfl rfl (pc' := 422) rfl ?_
      refine g_virt (W := 0) (argsL := []) (rest := []) at_422 (w_56 hw) (w_32 hw) (nf_self (w_34 hw)) (w_34 hw) (w_33 hw) (by decide) (lenOf pd_10 rfl) Sr.1 (c_lenN hw sr tr _ 0 z _ hC hz Sr rfl) (w_35 hw) (w_8 hw) (by decide) (by decide) (fun _ q => nomatch q) rfl (Nat.le_of_eq rfl) rfl (by decide) (by decide) (pc' := 425) rfl ?_
      intro w23 h23 q23 Kc23
      obtain ⟨rfl, rfl⟩ := q23
      refine g_istore at_425 (L' := #[.val (.int p0), .val (.int p1), .val (.int p2), .val (.int p3), .val (.int p4), .val (.int 1), .val (.ref ca), .val (.ref x), .val (.int 0), .val (.int 0), .val (.int 0), .val (.int 0), .val (.int 1), .val (.int 1), .val (.ref sr), .val (.int 0)]) rfl (pc' := 427) rfl ?_
      refine g_iload at_427 rfl (pc' := 429) rfl ?_
      refine g_if_le_t at_429 (by decide) (pc' := 446) (by decide) rfl ?_
      refine g_iload at_446 rfl (pc' := 448) rfl ?_
      refine g_iconst at_448 (v := 1) rfl (pc' := 449) rfl ?_
      refine g_icmp_le_t at_449 (by decide) (pc' := 468) (by decide) rfl ?_
      refine g_iload at_468 rfl (pc' := 470) rfl ?_
      refine g_iconst at_470 (v := 2) rfl (pc' := 471) rfl ?_
      refine g_icmp_le_t at_471 (by decide) (pc' := 490) (by decide) rfl ?_
      refine g_iload at_490 rfl (pc' := 492) rfl ?_
      refine g_iconst at_492 (v := 3) rfl (pc' := 493) rfl ?_
      refine g_icmp_le_t at_493 (by decide) (pc' := 512) (by decide) rfl ?_
      refine g_iconst at_512 (v := 1) rfl (pc' := 513) rfl ?_
      refine g_goto at_513 (pc' := 517) (by decide) rfl ?_
      exact g_ireturnN at_517 rfl (by simp) (z := 1) rfl rfl (by decide) (by decide)
    ·
      refine g_if_ne_f at_223 (if_neg (by rw [f0]; decide)) (pc' := 226) rfl ?_
      refine g_iconst at_226 (v := 1) rfl (pc' := 227) rfl ?_
      refine g_goto at_227 (pc' := 231) (by decide) rfl ?_
      refine g_istore at_231 (L' := #[.val (.int p0), .val (.int p1), .val (.int p2), .val (.int p3), .val (.int p4), .val (.int 1), .val (.ref ca), .val (.ref x), .val (.int 1), .unset, .unset, .unset, .unset, .unset, .unset, .unset]) rfl (pc' := 233) rfl ?_
      refine g_iload at_233 rfl (pc' := 235) rfl ?_
      refine g_iconst at_235 (v := 1) rfl (pc' := 236) rfl ?_
      refine g_icmp_le_t at_236 (by decide) (pc' := 253) (by decide) rfl ?_
      refine g_iconst at_253 (v := 0) rfl (pc' := 254) rfl ?_
      refine g_istore at_254 (L' := #[.val (.int p0), .val (.int p1), .val (.int p2), .val (.int p3), .val (.int p4), .val (.int 1), .val (.ref ca), .val (.ref x), .val (.int 1), .val (.int 0), .unset, .unset, .unset, .unset, .unset, .unset]) rfl (pc' := 256) rfl ?_
      refine g_iload at_256 rfl (pc' := 258) rfl ?_
      refine g_iconst at_258 (v := 2) rfl (pc' := 259) rfl ?_
      refine g_icmp_le_t at_259 (by decide) (pc' := 276) (by decide) rfl ?_
      refine g_iconst at_276 (v := 0) rfl (pc' := 277) rfl ?_
      refine g_istore at_277 (L' := #[.val (.int p0), .val (.int p1), .val (.int p2), .val (.int p3), .val (.int p4), .val (.int 1), .val (.ref ca), .val (.ref x), .val (.int 1), .val (.int 0), .val (.int 0), .unset, .unset, .unset, .unset, .unset]) rfl (pc' := 279) rfl ?_
      refine g_iload at_279 rfl (pc' := 281) rfl ?_
      refine g_iconst at_281 (v := 3) rfl (pc' := 282) rfl ?_
      refine g_icmp_le_t at_282 (by decide) (pc' := 299) (by decide) rfl ?_
      refine g_iconst at_299 (v := 0) rfl (pc' := 300) rfl ?_
      refine g_istore at_300 (L' := #[.val (.int p0), .val (.int p1), .val (.int p2), .val (.int p3), .val (.int p4), .val (.int 1), .val (.ref ca), .val (.ref x), .val (.int 1), .val (.int 0), .val (.int 0), .val (.int 0), .unset, .unset, .unset, .unset]) rfl (pc' := 302) rfl ?_
      refine g_iload at_302 rfl (pc' := 304) rfl ?_
      refine g_if_eq_f at_304 (by decide) (pc' := 307) rfl ?_
      refine g_iconst at_307 (v := 0) rfl (pc' := 308) rfl ?_
      refine g_istore at_308 (L' := #[.val (.int p0), .val (.int p1), .val (.int p2), .val (.int p3), .val (.int p4), .val (.int 1), .val (.ref ca), .val (.ref x), .val (.int 1), .val (.int 0), .val (.int 0), .val (.int 0), .val (.int 0), .unset, .unset, .unset]) rfl (pc' := 310) rfl ?_
      refine g_goto at_310 (pc' := 350) (by decide) rfl ?_
      refine g_iload at_350 rfl (pc' := 352) rfl ?_
      refine g_if_eq_t at_352 rfl (pc' := 361) (by decide) rfl ?_
      refine g_iload at_361 rfl (pc' := 363) rfl ?_
      refine g_if_eq_t at_363 rfl (pc' := 372) (by decide) rfl ?_
      refine g_iload at_372 rfl (pc' := 374) rfl ?_
      refine g_if_eq_t at_374 rfl (pc' := 383) (by decide) rfl ?_
      refine g_iload at_383 rfl (pc' := 385) rfl ?_
      refine g_if_eq_f at_385 (by decide) (pc' := 388) rfl ?_
      refine g_iconst at_388 (v := 1) rfl (pc' := 389) rfl ?_
      refine g_istore at_389 (L' := #[.val (.int p0), .val (.int p1), .val (.int p2), .val (.int p3), .val (.int p4), .val (.int 1), .val (.ref ca), .val (.ref x), .val (.int 1), .val (.int 0), .val (.int 0), .val (.int 0), .val (.int 0), .val (.int 1), .unset, .unset]) rfl (pc' := 391) rfl ?_
      refine g_goto at_391 (pc' := 398) (by decide) rfl ?_
      refine g_aload at_398 rfl rfl (pc' := 400) rfl ?_
      refine g_static (W := 0) (argsL := [(.ref x)]) (rest := []) at_400 (w_27 hw) (w_28 hw) (by decide) (lenOf pd_17 rfl) (c_trim hw x _ _ z sf _ hC hz hF rsf Ss (Nat.le_of_ble_eq_true rfl)) (w_30 hw) (w_29 hw) (by decide) (by decide) (fun _ q => nomatch q) rfl (Nat.le_of_eq rfl) rfl (by decide) (by decide) (pc' := 403) rfl ?_
      intro w24 h24 q24 Kc24
      obtain ⟨sr, tr, rfl, Sr⟩ := q24
      have e24 : trimL [c0] = [c0] := by simp [trimL, List.dropWhile, f0]
      rw [e24] at Sr
      refine g_astore at_403 rfl (L' := #[.val (.int p0), .val (.int p1), .val (.int p2), .val (.int p3), .val (.int p4), .val (.int 1), .val (.ref ca), .val (.ref x), .val (.int 1), .val (.int 0), .val (.int 0), .val (.int 0), .val (.int 0), .val (.int 1), .val (.ref sr), .unset]) rfl (pc' := 405) rfl ?_
      refine g_aload at_405 rfl rfl (pc' := 407) rfl ?_
      refine g_virt (W := 0) (argsL := []) (rest := []) at_407 (w_56 hw) (w_32 hw) (nf_self (w_34 hw)) (w_34 hw) (w_33 hw) (by decide) (lenOf pd_10 rfl) Sr.1 (c_lenN hw sr tr _ 1 z _ hC hz Sr rfl) (w_35 hw) (w_8 hw) (by decide) (by decide) (fun _ q => nomatch q) rfl (Nat.le_of_eq rfl) rfl (by decide) (by decide) (pc' := 410) rfl ?_
      intro w25 h25 q25 Kc25
      obtain ⟨rfl, rfl⟩ := q25
      refine g_iload at_410 rfl (pc' := 412) rfl ?_
      refine g_iload at_412 rfl (pc' := 414) rfl ?_
      refine g_isub at_414 (v := 1) rfl (pc' := 415) rfl ?_
      refine g_icmp_eq_t at_415 rfl (pc' := 420) (by decide) rfl ?_
      refine g_aload at_420 rfl rfl (pc' := 422) rfl ?_
      refine g_virt (W := 0) (argsL := []) (rest := []) at_422 (w_56 hw) (w_32 hw) (nf_self (w_34 hw)) (w_34 hw) (w_33 hw) (by decide) (lenOf pd_10 rfl) Sr.1 (c_lenN hw sr tr _ 1 z _ hC hz Sr rfl) (w_35 hw) (w_8 hw) (by decide) (by decide) (fun _ q => nomatch q) rfl (Nat.le_of_eq rfl) rfl (by decide) (by decide) (pc' := 425) rfl ?_
      intro w26 h26 q26 Kc26
      obtain ⟨rfl, rfl⟩ := q26
      refine g_istore at_425 (L' := #[.val (.int p0), .val (.int p1), .val (.int p2), .val (.int p3), .val (.int p4), .val (.int 1), .val (.ref ca), .val (.ref x), .val (.int 1), .val (.int 0), .val (.int 0), .val (.int 0), .val (.int 0), .val (.int 1), .val (.ref sr), .val (.int 1)]) rfl (pc' := 427) rfl ?_
      refine g_iload at_427 rfl (pc' := 429) rfl ?_
      refine g_if_le_f at_429 (by decide) (pc' := 432) rfl ?_
      refine g_aload at_432 rfl rfl (pc' := 434) rfl ?_
      refine g_iconst at_434 (v := 0) rfl (pc' := 435) rfl ?_
      refine g_virt (W := 0) (argsL := [(.int 0)]) (rest := []) at_435 (w_118 hw) (w_71 hw) (nf_self (w_73 hw)) (w_73 hw) (w_72 hw) (by decide) (lenOf pd_14 rfl) Sr.1 (c_charat hw sr tr _ 0 c0 z sf _ hC hz hF rsf Sr rfl) (w_74 hw) (w_8 hw) (by decide) (by decide) (fun _ q => nomatch q) rfl (Nat.le_of_eq rfl) rfl (by decide) (by decide) (pc' := 438) rfl ?_
      intro w27 h27 q27 Kc27
      obtain ⟨rfl, rfl⟩ := q27
      refine g_aload at_438 rfl rfl (pc' := 440) rfl ?_
      refine g_iload at_440 rfl (pc' := 442) rfl ?_
      refine g_caload at_442 (((((A_ca_9.keep Kn16 nin0).keep Kn17 nin0).keep Kw18 (ninS (Nat.ne_of_lt (Nat.lt_of_lt_of_le ((A_ca_9.keep Kn16 nin0)).lt (Nat.le_of_eq g17.symm))) nin0)).keep Kc19 (ninS (Nat.ne_of_lt (Nat.lt_of_lt_of_le (A_ca_9).lt (Nat.le_of_eq g16.symm))) nin0)).keep Kc24 nin0) (by decide) (i := 0) rfl rfl (pc' := 443) rfl ?_
      refine g_icmp_ne_f at_443 rfl (pc' := 446) rfl ?_
      refine g_iload at_446 rfl (pc' := 448) rfl ?_
      refine g_iconst at_448 (v := 1) rfl (pc' := 449) rfl ?_
      refine g_icmp_le_t at_449 (by decide) (pc' := 468) (by decide) rfl ?_
      refine g_iload at_468 rfl (pc' := 470) rfl ?_
      refine g_iconst at_470 (v := 2) rfl (pc' := 471) rfl ?_
      refine g_icmp_le_t at_471 (by decide) (pc' := 490) (by decide) rfl ?_
      refine g_iload at_490 rfl (pc' := 492) rfl ?_
      refine g_iconst at_492 (v := 3) rfl (pc' := 493) rfl ?_
      refine g_icmp_le_t at_493 (by decide) (pc' := 512) (by decide) rfl ?_
      refine g_iconst at_512 (v := 1) rfl (pc' := 513) rfl ?_
      refine g_goto at_513 (pc' := 517) (by decide) rfl ?_
      exact g_ireturnN at_517 rfl (by simp) (z := 1) rfl rfl (by decide) (by decide)
  ·
    refine g_if_ne_t at_48 (by decide) (pc' := 66) (by decide) rfl ?_
    refine g_iload at_66 rfl (pc' := 68) rfl ?_
    refine g_iconst at_68 (v := 1) rfl (pc' := 69) rfl ?_
    refine g_icmp_ne_t at_69 (by decide) (pc' := 94) (by decide) rfl ?_
    refine g_iload at_94 rfl (pc' := 96) rfl ?_
    refine g_iconst at_96 (v := 2) rfl (pc' := 97) rfl ?_
    refine g_icmp_ne_f at_97 rfl (pc' := 100) rfl ?_
    refine g_new at_100 (w_6 hw) (w_7 hw) (w_8 hw) (by decide) (by decide) (pc' := 103) rfl ?_
    intro x h28 g28 Kn28 E_x D28 sz_x
    have F_value_x : Fld Z h28 x "java/lang/String" "value" "[B" .null := D28 (Or.inr (w_21 hw)) (ty := (.array .byte)) (by decide)
    have F_coder_x : Fld Z h28 x "java/lang/String" "coder" "B" (.int 0) := D28 (Or.inr (w_22 hw)) (ty := .byte) (by decide)
    refine g_dup at_103 rfl (pc' := 104) rfl ?_
    refine g_iconst at_104 (v := 2) rfl (pc' := 105) rfl ?_
    refine g_newA at_105 (w_1 hw) rfl (by decide) (cap := 2) (by decide) (by decide) (by decide) (by decide) (pc' := 107) rfl ?_
    intro cb h29 g29 Kn29 A_cb sz_cb
    replace A_cb : Ia Z h29 cb .char [0, 0] := A_cb
    refine g_dup at_107 rfl (pc' := 108) rfl ?_
    refine g_iconst at_108 (v := 0) rfl (pc' := 109) rfl ?_
    refine g_aload at_109 rfl rfl (pc' := 111) rfl ?_
    refine g_iconst at_111 (v := 0) rfl (pc' := 112) rfl ?_
    refine g_caload at_112 ((A_ca_9.keep Kn28 nin0).keep Kn29 nin0) (by decide) (i := 0) rfl rfl (pc' := 113) rfl ?_
    refine g_castore at_113 A_cb (by decide) (i := 0) rfl (Nat.le_of_ble_eq_true rfl) (Or.inr sz_cb) (List.mem_of_getElem? (i := 0) rfl) (pc' := 114) rfl ?_
    intro h30 Kw30 A_cb_30
    replace A_cb_30 : Ia Z h30 cb .char [c0, 0] := (by rw [(lo8 c0 b0).2.1] at A_cb_30; exact A_cb_30)
    refine g_dup at_114 rfl (pc' := 115) rfl ?_
    refine g_iconst at_115 (v := 1) rfl (pc' := 116) rfl ?_
    refine g_aload at_116 rfl rfl (pc' := 118) rfl ?_
    refine g_iconst at_118 (v := 1) rfl (pc' := 119) rfl ?_
    refine g_caload at_119 (((A_ca_9.keep Kn28 nin0).keep Kn29 nin0).keep Kw30 (ninS (Nat.ne_of_lt (Nat.lt_of_lt_of_le ((A_ca_9.keep Kn28 nin0)).lt (Nat.le_of_eq g29.symm))) nin0)) (by decide) (i := 1) rfl rfl (pc' := 120) rfl ?_
    refine g_castore at_120 A_cb_30 (by decide) (i := 1) rfl (Nat.le_of_ble_eq_true rfl) (Or.inr sz_cb) (List.mem_of_getElem? (i := 0) rfl) (pc' := 121) rfl ?_
    intro h31 Kw31 A_cb_31
    replace A_cb_31 : Ia Z h31 cb .char [c0, c1] := (by rw [(lo8 c1 b1).2.1] at A_cb_31; exact A_cb_31)
    refine g_initB (W := 1) (argsL := [(.ref cb)]) (rest := [(.ref x)]) at_121 rfl (w_9 hw) (w_10 hw) (w_11 hw) (by decide) (lenOf pd_16 rfl) (bk_str (len := 2) hws (w_7 hw) sz_x (((E_x.keep Kn29).keep Kw30).keep Kw31) (((F_value_x.keep Kn29 nin0).keep Kw30 (ninS (Nat.ne_of_lt (Nat.lt_of_lt_of_le (E_x).lt (Nat.le_of_eq g29.symm))) nin0)).keep Kw31 (ninS (Nat.ne_of_lt (Nat.lt_of_lt_of_le (E_x).lt (Nat.le_of_eq g29.symm))) nin0)) (((F_coder_x.keep Kn29 nin0).keep Kw30 (ninS (Nat.ne_of_lt (Nat.lt_of_lt_of_le (E_x).lt (Nat.le_of_eq g29.symm))) nin0)).keep Kw31 (ninS (Nat.ne_of_lt (Nat.lt_of_lt_of_le (E_x).lt (Nat.le_of_eq g29.symm))) nin0)) A_cb_31 hC hz rfl (by decide) (by decide) (all2 b0 b1 b2 b3) (by decide) (by decide)) (fun _ _ _ _ q => ⟨q.2.1, q.2.2.1⟩) (allS (List.mem_of_getElem? (i := 1) rfl) all0) rfl (Nat.le_of_eq rfl) rfl (by decide) (by decide) (pc' := 124) rfl ?_
    intro v32 h32 L32 q32
    obtain ⟨rfl, -, Kc32, ts, hts, Ss⟩ := q32
    refine g_astore at_124 rfl (L' := #[.val (.int p0), .val (.int p1), .val (.int p2), .val (.int p3), .val (.int p4), .val (.int 2), .val (.ref ca), .val (.ref x), .unset, .unset, .unset, .unset, .unset, .unset, .unset, .unset]) rfl (pc' := 126) rfl ?_
    refine g_goto at_126 (pc' := 211) (by decide) rfl ?_
    refine g_iload at_211 rfl (pc' := 213) rfl ?_
    refine g_if_le_f at_213 (by decide) (pc' := 216) rfl ?_
    refine g_aload at_216 rfl rfl (pc' := 218) rfl ?_
    refine g_iconst at_218 (v := 0) rfl (pc' := 219) rfl ?_
    refine g_caload at_219 (((((A_ca_9.keep Kn28 nin0).keep Kn29 nin0).keep Kw30 (ninS (Nat.ne_of_lt (Nat.lt_of_lt_of_le ((A_ca_9.keep Kn28 nin0)).lt (Nat.le_of_eq g29.symm))) nin0)).keep Kw31 (ninS (Nat.ne_of_lt (Nat.lt_of_lt_of_le ((A_ca_9.keep Kn28 nin0)).lt (Nat.le_of_eq g29.symm))) nin0)).keep Kc32 (ninS (Nat.ne_of_lt (Nat.lt_of_lt_of_le (A_ca_9).lt (Nat.le_of_eq g28.symm))) nin0)) (by decide) (i := 0) rfl rfl (pc' := 220) rfl ?_
    refine g_static (W := 0) (argsL := [(.int c0)]) (rest := []) at_220 (w_67 hw) (w_68 hw) (by decide) (lenOf pd_15 rfl) (c_ws hw c0 _) (w_69 hw) (w_4 hw) (by decide) (by decide) (fun _ q => nomatch q) rfl (Nat.le_of_eq rfl) rfl (by decide) (by decide) (pc' := 223) rfl ?_
    intro w33 h33 q33 Kc33
    obtain ⟨rfl, rfl⟩ := q33
    rcases Bool.eq_false_or_eq_true (isW c0) with f0 | f0
    ·
      refine g_if_ne_t at_223 (by rw [if_pos f0]; decide) (pc' := 230) (by decide) rfl ?_
      refine g_iconst at_230 (v := 0) rfl (pc' := 231) rfl ?_
      refine g_istore at_231 (L' := #[.val (.int p0), .val (.int p1), .val (.int p2), .val (.int p3), .val (.int p4), .val (.int 2), .val (.ref ca), .val (.ref x), .val (.int 0), .unset, .unset, .unset, .unset, .unset, .unset, .unset]) rfl (pc' := 233) rfl ?_
      refine g_iload at_233 rfl (pc' := 235) rfl ?_
      refine g_iconst at_235 (v := 1) rfl (pc' := 236) rfl ?_
      refine g_icmp_le_f at_236 (by decide) (pc' := 239) rfl ?_
      refine g_aload at_239 rfl rfl (pc' := 241) rfl ?_
      refine g_iconst at_241 (v := 1) rfl (pc' := 242) rfl ?_
      refine g_caload at_242 (((((A_ca_9.keep Kn28 nin0).keep Kn29 nin0).keep Kw30 (ninS (Nat.ne_of_lt (Nat.lt_of_lt_of_le ((A_ca_9.keep Kn28 nin0)).lt (Nat.le_of_eq g29.symm))) nin0)).keep Kw31 (ninS (Nat.ne_of_lt (Nat.lt_of_lt_of_le ((A_ca_9.keep Kn28 nin0)).lt (Nat.le_of_eq g29.symm))) nin0)).keep Kc32 (ninS (Nat.ne_of_lt (Nat.lt_of_lt_of_le (A_ca_9).lt (Nat.le_of_eq g28.symm))) nin0)) (by decide) (i := 1) rfl rfl (pc' := 243) rfl ?_
      refine g_static (W := 0) (argsL := [(.int c1)]) (rest := []) at_243 (w_67 hw) (w_68 hw) (by decide) (lenOf pd_15 rfl) (c_ws hw c1 _) (w_69 hw) (w_4 hw) (by decide) (by decide) (fun _ q => nomatch q) rfl (Nat.le_of_eq rfl) rfl (by decide) (by decide) (pc' := 246) rfl ?_
      intro w34 h34 q34 Kc34
      obtain ⟨rfl, rfl⟩ := q34
      rcases Bool.eq_false_or_eq_true (isW c1) with f1 | f1
      ·
        refine g_if_ne_t at_246 (by rw [if_pos f1]; decide) (pc' := 253) (by decide) rfl ?_
        refine g_iconst at_253 (v := 0) rfl (pc' := 254) rfl ?_
        refine g_istore at_254 (L' := #[.val (.int p0), .val (.int p1), .val (.int p2), .val (.int p3), .val (.int p4), .val (.int 2), .val (.ref ca), .val (.ref x), .val (.int 0), .val (.int 0), .unset, .unset, .unset, .unset, .unset, .unset]) rfl (pc' := 256) rfl ?_
        refine g_iload at_256 rfl (pc' := 258) rfl ?_
        refine g_iconst at_258 (v := 2) rfl (pc' := 259) rfl ?_
        refine g_icmp_le_t at_259 (by decide) (pc' := 276) (by decide) rfl ?_
        refine g_iconst at_276 (v := 0) rfl (pc' := 277) rfl ?_
        refine g_istore at_277 (L' := #[.val (.int p0), .val (.int p1), .val (.int p2), .val (.int p3), .val (.int p4), .val (.int 2), .val (.ref ca), .val (.ref x), .val (.int 0), .val (.int 0), .val (.int 0), .unset, .unset, .unset, .unset, .unset]) rfl (pc' := 279) rfl ?_
        refine g_iload at_279 rfl (pc' := 281) rfl ?_
        refine g_iconst at_281 (v := 3) rfl (pc' := 282) rfl ?_
        refine g_icmp_le_t at_282 (by decide) (pc' := 299) (by decide) rfl ?_
        refine g_iconst at_299 (v := 0) rfl (pc' := 300) rfl ?_
        refine g_istore at_300 (L' := #[.val (.int p0), .val (.int p1), .val (.int p2), .val (.int p3), .val (.int p4), .val (.int 2), .val (.ref ca), .val (.ref x), .val (.int 0), .val (.int 0), .val (.int 0), .val (.int 0), .unset, .unset, .unset, .unset]) rfl (pc' := 302) rfl ?_
        refine g_iload at_302 rfl (pc' := 304) rfl ?_
        refine g_if_eq_t at_304 rfl (pc' := 313) (by decide) rfl ?_
        refine g_iload at_313 rfl (pc' := 315) rfl ?_
        refine g_if_eq_t at_315 rfl (pc' := 324) (by decide) rfl ?_
        refine g_iload at_324 rfl (pc' := 326) rfl ?_
        refine g_if_eq_t at_326 rfl (pc' := 335) (by decide) rfl ?_
        refine g_iload at_335 rfl (pc' := 337) rfl ?_
        refine g_if_eq_t at_337 rfl (pc' := 346) (by decide) rfl ?_
        refine g_iload at_346 rfl (pc' := 348) rfl ?_
        refine g_istore at_348 (L' := #[.val (.int p0), .val (.int p1), .val (.int p2), .val (.int p3), .val (.int p4), .val (.int 2), .val (.ref ca), .val (.ref x), .val (.int 0), .val (.int 0), .val (.int 0), .val (.int 0), .val (.int 2), .unset, .unset, .unset]) rfl (pc' := 350) rfl ?_
        refine g_iload at_350 rfl (pc' := 352) rfl ?_
        refine g_if_eq_t at_352 rfl (pc' := 361) (by decide) rfl ?_
        refine g_iload at_361 rfl (pc' := 363) rfl ?_
        refine g_if_eq_t at_363 rfl (pc' := 372) (by decide) rfl ?_
        refine g_iload at_372 rfl (pc' := 374) rfl ?_
        refine g_if_eq_t at_374 rfl (pc' := 383) (by decide) rfl ?_
        refine g_iload at_383 rfl (pc' := 385) rfl ?_
        refine g_if_eq_t at_385 rfl (pc' := 394) (by decide) rfl ?_
        refine g_iload at_394 rfl (pc' := 396) rfl ?_
        refine g_istore at_396 (L' := #[.val (.int p0), .val (.int p1), .val (.int p2), .val (.int p3), .val (.int p4), .val (.int 2), .val (.ref ca), .val (.ref x), .val (.int 0), .val (.int 0), .val (.int 0), .val (.int 0), .val (.int 2), .val (.int 2), .unset, .unset]) rfl (pc' := 398) rfl ?_
        refine g_aload at_398 rfl rfl (pc' := 400) rfl ?_
        refine g_static (W := 0) (argsL := [(.ref x)]) (rest := []) at_400 (w_27 hw) (w_28 hw) (by decide) (lenOf pd_17 rfl) (c_trim hw x _ _ z sf _ hC hz hF rsf Ss (Nat.le_of_ble_eq_true rfl)) (w_30 hw) (w_29 hw) (by decide) (by decide) (fun _ q => nomatch q) rfl (Nat.le_of_eq rfl) rfl (by decide) (by decide) (pc' := 403) rfl ?_
        intro w35 h35 q35 Kc35
        obtain ⟨sr, tr, rfl, Sr⟩ := q35
        have e35 : trimL [c0, c1] = [] := by simp [trimL, List.dropWhile, f0, f1]
        rw [e35] at Sr
        refine g_astore at_403 rfl (L' := #[.val (.int p0), .val (.int p1), .val (.int p2), .val (.int p3), .val (.int p4), .val (.int 2), .val (.ref ca), .val (.ref x), .val (.int 0), .val (.int 0), .val (.int 0), .val (.int 0), .val (.int 2), .val (.int 2), .val (.ref sr), .unset]) rfl (pc' := 405) rfl ?_
        refine g_aload at_405 rfl rfl (pc' := 407) rfl ?_
        refine g_virt (W := 0) (argsL := []) (rest := []) at_407 (w_56 hw) (w_32 hw) (nf_self (w_34 hw)) (w_34 hw) (w_33 hw) (by decide) (lenOf pd_10 rfl) Sr.1 (c_lenN hw sr tr _ 0 z _ hC hz Sr rfl) (w_35 hw) (w_8 hw) (by decide) (by decide) (fun _ q => nomatch q) rfl (Nat.le_of_eq rfl) rfl (by decide) (by decide) (pc' := 410) rfl ?_
        intro w36 h36 q36 Kc36
        obtain ⟨rfl, rfl⟩ := q36
        refine g_iload at_410 rfl (pc' := 412) rfl ?_
        refine g_iload at_412 rfl (pc' := 414) rfl ?_
        refine g_isub at_414 (v := 0) rfl (pc' := 415) rfl ?_
        refine g_icmp_eq_t at_415 rfl (pc' := 420) (by decide) rfl ?_
        refine g_aload at_420 rfl rfl (pc' := 422) rfl ?_
        refine g_virt (W := 0) (argsL := []) (rest := []) at_422 (w_56 hw) (w_32 hw) (nf_self (w_34 hw)) (w_34 hw) (w_33 hw) (by decide) (lenOf pd_10 rfl) Sr.1 (c_lenN hw sr tr _ 0 z _ hC hz Sr rfl) (w_35 hw) (w_8 hw) (by decide) (by decide) (fun _ q => nomatch q) rfl (Nat.le_of_eq rfl) rfl (by decide) (by decide) (pc' := 425) rfl ?_
        intro w37 h37 q37 Kc37
        obtain ⟨rfl, rfl⟩ := q37
        refine g_istore at_425 (L' := #[.val (.int p0), .val (.int p1), .val (.int p2), .val (.int p3), .val (.int p4), .val (.int 2), .val (.ref ca), .val (.ref x), .val (.int 0), .val (.int 0), .val (.int 0), .val (.int 0), .val (.int 2), .val (.int 2), .val (.ref sr), .val (.int 0)]) rfl (pc' := 427) rfl ?_
        refine g_iload at_427 rfl (pc' := 429) rfl ?_
        refine g_if_le_t at_429 (by decide) (pc' := 446) (by decide) rfl ?_
        refine g_iload at_446 rfl (pc' := 448) rfl ?_
        refine g_iconst at_448 (v := 1) rfl (pc' := 449) rfl ?_
        refine g_icmp_le_t at_449 (by decide) (pc' := 468) (by decide) rfl ?_
        refine g_iload at_468 rfl (pc' := 470) rfl ?_
        refine g_iconst at_470 (v := 2) rfl (pc' := 471) rfl ?_
        refine g_icmp_le_t at_471 (by decide) (pc' := 490) (by decide) rfl ?_
        refine g_iload at_490 rfl (pc' := 492) rfl ?_
        refine g_iconst at_492 (v := 3) rfl (pc' := 493) rfl ?_
        refine g_icmp_le_t at_493 (by decide) (pc' := 512) (by decide) rfl ?_
        refine g_iconst at_512 (v := 1) rfl (pc' := 513) rfl ?_
        refine g_goto at_513 (pc' := 517) (by decide) rfl ?_
        exact g_ireturnN at_517 rfl (by simp) (z := 1) rfl rfl (by decide) (by decide)
      ·
        refine g_if_ne_f at_246 (if_neg (by rw [f1]; decide)) (pc' := 249) rfl ?_
        refine g_iconst at_249 (v := 1) rfl (pc' := 250) rfl ?_
        refine g_goto at_250 (pc' := 254) (by decide) rfl ?_
        refine g_istore at_254 (L' := #[.val (.int p0), .val (.int p1), .val (.int p2), .val (.int p3), .val (.int p4), .val (.int 2), .val (.ref ca), .val (.ref x), .val (.int 0), .val (.int 1), .unset, .unset, .unset, .unset, .unset, .unset]) rfl (pc' := 256) rfl ?_
        refine g_iload at_256 rfl (pc' := 258) rfl ?_
        refine g_iconst at_258 (v := 2) rfl (pc' := 259) rfl ?_
        refine g_icmp_le_t at_259 (by decide) (pc' := 276) (by decide) rfl ?_
        refine g_iconst at_276 (v := 0) rfl (pc' := 277) rfl ?_
        refine g_istore at_277 (L' := #[.val (.int p0), .val (.int p1), .val (.int p2), .val (.int p3), .val (.int p4), .val (.int 2), .val (.ref ca), .val (.ref x), .val (.int 0), .val (.int 1), .val (.int 0), .unset, .unset, .unset, .unset, .unset]) rfl (pc' := 279) rfl ?_
        refine g_iload at_279 rfl (pc' := 281) rfl ?_
        refine g_iconst at_281 (v := 3) rfl (pc' := 282) rfl ?_
        refine g_icmp_le_t at_282 (by decide) (pc' := 299) (by decide) rfl ?_
        refine g_iconst at_299 (v := 0) rfl (pc' := 300) rfl ?_
        refine g_istore at_300 (L' := #[.val (.int p0), .val (.int p1), .val (.int p2), .val (.int p3), .val (.int p4), .val (.int 2), .val (.ref ca), .val (.ref x), .val (.int 0), .val (.int 1), .val (.int 0), .val (.int 0), .unset, .unset, .unset, .unset]) rfl (pc' := 302) rfl ?_
        refine g_iload at_302 rfl (pc' := 304) rfl ?_
        refine g_if_eq_t at_304 rfl (pc' := 313) (by decide) rfl ?_
        refine g_iload at_313 rfl (pc' := 315) rfl ?_
        refine g_if_eq_f at_315 (by decide) (pc' := 318) rfl ?_
        refine g_iconst at_318 (v := 1) rfl (pc' := 319) rfl ?_
        refine g_istore at_319 (L' := #[.val (.int p0), .val (.int p1), .val (.int p2), .val (.int p3), .val (.int p4), .val (.int 2), .val (.ref ca), .val (.ref x), .val (.int 0), .val (.int 1), .val (.int 0), .val (.int 0), .val (.int 1), .unset, .unset, .unset]) rfl (pc' := 321) rfl ?_
        refine g_goto at_321 (pc' := 350) (by decide) rfl ?_
        refine g_iload at_350 rfl (pc' := 352) rfl ?_
        refine g_if_eq_t at_352 rfl (pc' := 361) (by decide) rfl ?_
        refine g_iload at_361 rfl (pc' := 363) rfl ?_
        refine g_if_eq_t at_363 rfl (pc' := 372) (by decide) rfl ?_
        refine g_iload at_372 rfl (pc' := 374) rfl ?_
        refine g_if_eq_f at_374 (by decide) (pc' := 377) rfl ?_
        refine g_iconst at_377 (v := 2) rfl (pc' := 378) rfl ?_
        refine g_istore at_378 (L' := #[.val (.int p0), .val (.int p1), .val (.int p2), .val (.int p3), .val (.int p4), .val (.int 2), .val (.ref ca), .val (.ref x), .val (.int 0), .val (.int 1), .val (.int 0), .val (.int 0), .val (.int 1), .val (.int 2), .unset, .unset]) rfl (pc' := 380) rfl ?_
        refine g_goto at_380 (pc' := 398) (by decide) rfl ?_
        refine g_aload at_398 rfl rfl (pc' := 400) rfl ?_
        refine g_static (W := 0) (argsL := [(.ref x)]) (rest := []) at_400 (w_27 hw) (w_28 hw) (by decide) (lenOf pd_17 rfl) (c_trim hw x _ _ z sf _ hC hz hF rsf Ss (Nat.le_of_ble_eq_true rfl)) (w_30 hw) (w_29 hw) (by decide) (by decide) (fun _ q => nomatch q) rfl (Nat.le_of_eq rfl) rfl (by decide) (by decide) (pc' := 403) rfl ?_
        intro w38 h38 q38 Kc38
        obtain ⟨sr, tr, rfl, Sr⟩ := q38
        have e38 : trimL [c0, c1] = [c1] := by simp [trimL, List.dropWhile, f0, f1]
        rw [e38] at Sr
        refine g_astore at_403 rfl (L' := #[.val (.int p0), .val (.int p1), .val (.int p2), .val (.int p3), .val (.int p4), .val (.int 2), .val (.ref ca), .val (.ref x), .val (.int 0), .val (.int 1), .val (.int 0), .val (.int 0), .val (.int 1), .val (.int 2), .val (.ref sr), .unset]) rfl (pc' := 405) rfl ?_
        refine g_aload at_405 rfl rfl (pc' := 407) rfl ?_
        refine g_virt (W := 0) (argsL := []) (rest := []) at_407 (w_56 hw) (w_32 hw) (nf_self (w_34 hw)) (w_34 hw) (w_33 hw) (by decide) (lenOf pd_10 rfl) Sr.1 (c_lenN hw sr tr _ 1 z _ hC hz Sr rfl) (w_35 hw) (w_8 hw) (by decide) (by decide) (fun _ q => nomatch q) rfl (Nat.le_of_eq rfl) rfl (by decide) (by decide) (pc' := 410) rfl ?_
        intro w39 h39 q39 Kc39
        obtain ⟨rfl, rfl⟩ := q39
        refine g_iload at_410 rfl (pc' := 412) rfl ?_
        refine g_iload at_412 rfl (pc' := 414) rfl ?_
        refine g_isub at_414 (v := 1) rfl (pc' := 415) rfl ?_
        refine g_icmp_eq_t at_415 rfl (pc' := 420) (by decide) rfl ?_
        refine g_aload at_420 rfl rfl (pc' := 422) rfl ?_
        refine g_virt (W := 0) (argsL := []) (rest := []) at_422 (w_56 hw) (w_32 hw) (nf_self (w_34 hw)) (w_34 hw) (w_33 hw) (by decide) (lenOf pd_10 rfl) Sr.1 (c_lenN hw sr tr _ 1 z _ hC hz Sr rfl) (w_35 hw) (w_8 hw) (by decide) (by decide) (fun _ q => nomatch q) rfl (Nat.le_of_eq rfl) rfl (by decide) (by decide) (pc' := 425) rfl ?_
        intro w40 h40 q40 Kc40
        obtain ⟨rfl, rfl⟩ := q40
        refine g_istore at_425 (L' := #[.val (.int p0), .val (.int p1), .val (.int p2), .val (.int p3), .val (.int p4), .val (.int 2), .val (.ref ca), .val (.ref x), .val (.int 0), .val (.int 1), .val (.int 0), .val (.int 0), .val (.int 1), .val (.int 2), .val (.ref sr), .val (.int 1)]) rfl (pc' := 427) rfl ?_
        refine g_iload at_427 rfl (pc' := 429) rfl ?_
        refine g_if_le_f at_429 (by decide) (pc' := 432) rfl ?_
        refine g_aload at_432 rfl rfl (pc' := 434) rfl ?_
        refine g_iconst at_434 (v := 0) rfl (pc' := 435) rfl ?_
        refine g_virt (W := 0) (argsL := [(.int 0)]) (rest := []) at_435 (w_118 hw) (w_71 hw) (nf_self (w_73 hw)) (w_73 hw) (w_72 hw) (by decide) (lenOf pd_14 rfl) Sr.1 (c_charat hw sr tr _ 0 c1 z sf _ hC hz hF rsf Sr rfl) (w_74 hw) (w_8 hw) (by decide) (by decide) (fun _ q => nomatch q) rfl (Nat.le_of_eq rfl) rfl (by decide) (by decide) (pc' := 438) rfl ?_
        intro w41 h41 q41 Kc41
        obtain ⟨rfl, rfl⟩ := q41
        refine g_aload at_438 rfl rfl (pc' := 440) rfl ?_
        refine g_iload at_440 rfl (pc' := 442) rfl ?_
        refine g_caload at_442 ((((((A_ca_9.keep Kn28 nin0).keep Kn29 nin0).keep Kw30 (ninS (Nat.ne_of_lt (Nat.lt_of_lt_of_le ((A_ca_9.keep Kn28 nin0)).lt (Nat.le_of_eq g29.symm))) nin0)).keep Kw31 (ninS (Nat.ne_of_lt (Nat.lt_of_lt_of_le ((A_ca_9.keep Kn28 nin0)).lt (Nat.le_of_eq g29.symm))) nin0)).keep Kc32 (ninS (Nat.ne_of_lt (Nat.lt_of_lt_of_le (A_ca_9).lt (Nat.le_of_eq g28.symm))) nin0)).keep Kc38 nin0) (by decide) (i := 1) rfl rfl (pc' := 443) rfl ?_
        refine g_icmp_ne_f at_443 rfl (pc' := 446) rfl ?_
        refine g_iload at_446 rfl (pc' := 448) rfl ?_
        refine g_iconst at_448 (v := 1) rfl (pc' := 449) rfl ?_
        refine g_icmp_le_t at_449 (by decide) (pc' := 468) (by decide) rfl ?_
        refine g_iload at_468 rfl (pc' := 470) rfl ?_
        refine g_iconst at_470 (v := 2) rfl (pc' := 471) rfl ?_
        refine g_icmp_le_t at_471 (by decide) (pc' := 490) (by decide) rfl ?_
        refine g_iload at_490 rfl (pc' := 492) rfl ?_
        refine g_iconst at_492 (v := 3) rfl (pc' := 493) rfl ?_
        refine g_icmp_le_t at_493 (by decide) (pc' := 512) (by decide) rfl ?_
        refine g_iconst at_512 (v := 1) rfl (pc' := 513) rfl ?_
        refine g_goto at_513 (pc' := 517) (by decide) rfl ?_
        exact g_ireturnN at_517 rfl (by simp) (z := 1) rfl rfl (by decide) (by decide)
    ·
      refine g_if_ne_f at_223 (if_neg (by rw [f0]; decide)) (pc' := 226) rfl ?_
      refine g_iconst at_226 (v := 1) rfl (pc' := 227) rfl ?_
      refine g_goto at_227 (pc' := 231) (by decide) rfl ?_
      refine g_istore at_231 (L' := #[.val (.int p0), .val (.int p1), .val (.int p2), .val (.int p3), .val (.int p4), .val (.int 2), .val (.ref ca), .val (.ref x), .val (.int 1), .unset, .unset, .unset, .unset, .unset, .unset, .unset]) rfl (pc' := 233) rfl ?_
      refine g_iload at_233 rfl (pc' := 235) rfl ?_
      refine g_iconst at_235 (v := 1) rfl (pc' := 236) rfl ?_
      refine g_icmp_le_f at_236 (by decide) (pc' := 239) rfl ?_
      refine g_aload at_239 rfl rfl (pc' := 241) rfl ?_
      refine g_iconst at_241 (v := 1) rfl (pc' := 242) rfl ?_
      refine g_caload at_242 (((((A_ca_9.keep Kn28 nin0).keep Kn29 nin0).keep Kw30 (ninS (Nat.ne_of_lt (Nat.lt_of_lt_of_le ((A_ca_9.keep Kn28 nin0)).lt (Nat.le_of_eq g29.symm))) nin0)).keep Kw31 (ninS (Nat.ne_of_lt (Nat.lt_of_lt_of_le ((A_ca_9.keep Kn28 nin0)).lt (Nat.le_of_eq g29.symm))) nin0)).keep Kc32 (ninS (Nat.ne_of_lt (Nat.lt_of_lt_of_le (A_ca_9).lt (Nat.le_of_eq g28.symm))) nin0)) (by decide) (i := 1) rfl rfl (pc' := 243) rfl ?_
      refine g_static (W := 0) (argsL := [(.int c1)]) (rest := []) at_243 (w_67 hw) (w_68 hw) (by decide) (lenOf pd_15 rfl) (c_ws hw c1 _) (w_69 hw) (w_4 hw) (by decide) (by decide) (fun _ q => nomatch q) rfl (Nat.le_of_eq rfl) rfl (by decide) (by decide) (pc' := 246) rfl ?_
      intro w42 h42 q42 Kc42
      obtain ⟨rfl, rfl⟩ := q42
      rcases Bool.eq_false_or_eq_true (isW c1) with f1 | f1
      ·
        refine g_if_ne_t at_246 (by rw [if_pos f1]; decide) (pc' := 253) (by decide) rfl ?_
        refine g_iconst at_253 (v := 0) rfl (pc' := 254) rfl ?_
        refine g_istore at_254 (L' := #[.val (.int p0), .val (.int p1), .val (.int p2), .val (.int p3), .val (.int p4), .val (.int 2), .val (.ref ca), .val (.ref x), .val (.int 1), .val (.int 0), .unset, .unset, .unset, .unset, .unset, .unset]) rfl (pc' := 256) rfl ?_
        refine g_iload at_256 rfl (pc' := 258) rfl ?_
        refine g_iconst at_258 (v := 2) rfl (pc' := 259) rfl ?_
        refine g_icmp_le_t at_259 (by decide) (pc' := 276) (by decide) rfl ?_
        refine g_iconst at_276 (v := 0) rfl (pc' := 277) rfl ?_
        refine g_istore at_277 (L' := #[.val (.int p0), .val (.int p1), .val (.int p2), .val (.int p3), .val (.int p4), .val (.int 2), .val (.ref ca), .val (.ref x), .val (.int 1), .val (.int 0), .val (.int 0), .unset, .unset, .unset, .unset, .unset]) rfl (pc' := 279) rfl ?_
        refine g_iload at_279 rfl (pc' := 281) rfl ?_
        refine g_iconst at_281 (v := 3) rfl (pc' := 282) rfl ?_
        refine g_icmp_le_t at_282 (by decide) (pc' := 299) (by decide) rfl ?_
        refine g_iconst at_299 (v := 0) rfl (pc' := 300) rfl ?_
        refine g_istore at_300 (L' := #[.val (.int p0), .val (.int p1), .val (.int p2), .val (.int p3), .val (.int p4), .val (.int 2), .val (.ref ca), .val (.ref x), .val (.int 1), .val (.int 0), .val (.int 0), .val (.int 0), .unset, .unset, .unset, .unset]) rfl (pc' := 302) rfl ?_
        refine g_iload at_302 rfl (pc' := 304) rfl ?_
        refine g_if_eq_f at_304 (by decide) (pc' := 307) rfl ?_
        refine g_iconst at_307 (v := 0) rfl (pc' := 308) rfl ?_
        refine g_istore at_308 (L' := #[.val (.int p0), .val (.int p1), .val (.int p2), .val (.int p3), .val (.int p4), .val (.int 2), .val (.ref ca), .val (.ref x), .val (.int 1), .val (.int 0), .val (.int 0), .val (.int 0), .val (.int 0), .unset, .unset, .unset]) rfl (pc' := 310) rfl ?_
        refine g_goto at_310 (pc' := 350) (by decide) rfl ?_
        refine g_iload at_350 rfl (pc' := 352) rfl ?_
        refine g_if_eq_t at_352 rfl (pc' := 361) (by decide) rfl ?_
        refine g_iload at_361 rfl (pc' := 363) rfl ?_
        refine g_if_eq_t at_363 rfl (pc' := 372) (by decide) rfl ?_
        refine g_iload at_372 rfl (pc' := 374) rfl ?_
        refine g_if_eq_t at_374 rfl (pc' := 383) (by decide) rfl ?_
        refine g_iload at_383 rfl (pc' := 385) rfl ?_
        refine g_if_eq_f at_385 (by decide) (pc' := 388) rfl ?_
        refine g_iconst at_388 (v := 1) rfl (pc' := 389) rfl ?_
        refine g_istore at_389 (L' := #[.val (.int p0), .val (.int p1), .val (.int p2), .val (.int p3), .val (.int p4), .val (.int 2), .val (.ref ca), .val (.ref x), .val (.int 1), .val (.int 0), .val (.int 0), .val (.int 0), .val (.int 0), .val (.int 1), .unset, .unset]) rfl (pc' := 391) rfl ?_
        refine g_goto at_391 (pc' := 398) (by decide) rfl ?_
        refine g_aload at_398 rfl rfl (pc' := 400) rfl ?_
        refine g_static (W := 0) (argsL := [(.ref x)]) (rest := []) at_400 (w_27 hw) (w_28 hw) (by decide) (lenOf pd_17 rfl) (c_trim hw x _ _ z sf _ hC hz hF rsf Ss (Nat.le_of_ble_eq_true rfl)) (w_30 hw) (w_29 hw) (by decide) (by decide) (fun _ q => nomatch q) rfl (Nat.le_of_eq rfl) rfl (by decide) (by decide) (pc' := 403) rfl ?_
        intro w43 h43 q43 Kc43
        obtain ⟨sr, tr, rfl, Sr⟩ := q43
        have e43 : trimL [c0, c1] = [c0] := by simp [trimL, List.dropWhile, f0, f1]
        rw [e43] at Sr
        refine g_astore at_403 rfl (L' := #[.val (.int p0), .val (.int p1), .val (.int p2), .val (.int p3), .val (.int p4), .val (.int 2), .val (.ref ca), .val (.ref x), .val (.int 1), .val (.int 0), .val (.int 0), .val (.int 0), .val (.int 0), .val (.int 1), .val (.ref sr), .unset]) rfl (pc' := 405) rfl ?_
        refine g_aload at_405 rfl rfl (pc' := 407) rfl ?_
        refine g_virt (W := 0) (argsL := []) (rest := []) at_407 (w_56 hw) (w_32 hw) (nf_self (w_34 hw)) (w_34 hw) (w_33 hw) (by decide) (lenOf pd_10 rfl) Sr.1 (c_lenN hw sr tr _ 1 z _ hC hz Sr rfl) (w_35 hw) (w_8 hw) (by decide) (by decide) (fun _ q => nomatch q) rfl (Nat.le_of_eq rfl) rfl (by decide) (by decide) (pc' := 410) rfl ?_
        intro w44 h44 q44 Kc44
        obtain ⟨rfl, rfl⟩ := q44
        refine g_iload at_410 rfl (pc' := 412) rfl ?_
        refine g_iload at_412 rfl (pc' := 414) rfl ?_
        refine g_isub at_414 (v := 1) rfl (pc' := 415) rfl ?_
        refine g_icmp_eq_t at_415 rfl (pc' := 420) (by decide) rfl ?_
        refine g_aload at_420 rfl rfl (pc' := 422) rfl ?_
        refine g_virt (W := 0) (argsL := []) (rest := []) at_422 (w_56 hw) (w_32 hw) (nf_self (w_34 hw)) (w_34 hw) (w_33 hw) (by decide) (lenOf pd_10 rfl) Sr.1 (c_lenN hw sr tr _ 1 z _ hC hz Sr rfl) (w_35 hw) (w_8 hw) (by decide) (by decide) (fun _ q => nomatch q) rfl (Nat.le_of_eq rfl) rfl (by decide) (by decide) (pc' := 425) rfl ?_
        intro w45 h45 q45 Kc45
        obtain ⟨rfl, rfl⟩ := q45
        refine g_istore at_425 (L' := #[.val (.int p0), .val (.int p1), .val (.int p2), .val (.int p3), .val (.int p4), .val (.int 2), .val (.ref ca), .val (.ref x), .val (.int 1), .val (.int 0), .val (.int 0), .val (.int 0), .val (.int 0), .val (.int 1), .val (.ref sr), .val (.int 1)]) rfl (pc' := 427) rfl ?_
        refine g_iload at_427 rfl (pc' := 429) rfl ?_
        refine g_if_le_f at_429 (by decide) (pc' := 432) rfl ?_
        refine g_aload at_432 rfl rfl (pc' := 434) rfl ?_
        refine g_iconst at_434 (v := 0) rfl (pc' := 435) rfl ?_
        refine g_virt (W := 0) (argsL := [(.int 0)]) (rest := []) at_435 (w_118 hw) (w_71 hw) (nf_self (w_73 hw)) (w_73 hw) (w_72 hw) (by decide) (lenOf pd_14 rfl) Sr.1 (c_charat hw sr tr _ 0 c0 z sf _ hC hz hF rsf Sr rfl) (w_74 hw) (w_8 hw) (by decide) (by decide) (fun _ q => nomatch q) rfl (Nat.le_of_eq rfl) rfl (by decide) (by decide) (pc' := 438) rfl ?_
        intro w46 h46 q46 Kc46
        obtain ⟨rfl, rfl⟩ := q46
        refine g_aload at_438 rfl rfl (pc' := 440) rfl ?_
        refine g_iload at_440 rfl (pc' := 442) rfl ?_
        refine g_caload at_442 ((((((A_ca_9.keep Kn28 nin0).keep Kn29 nin0).keep Kw30 (ninS (Nat.ne_of_lt (Nat.lt_of_lt_of_le ((A_ca_9.keep Kn28 nin0)).lt (Nat.le_of_eq g29.symm))) nin0)).keep Kw31 (ninS (Nat.ne_of_lt (Nat.lt_of_lt_of_le ((A_ca_9.keep Kn28 nin0)).lt (Nat.le_of_eq g29.symm))) nin0)).keep Kc32 (ninS (Nat.ne_of_lt (Nat.lt_of_lt_of_le (A_ca_9).lt (Nat.le_of_eq g28.symm))) nin0)).keep Kc43 nin0) (by decide) (i := 0) rfl rfl (pc' := 443) rfl ?_
        refine g_icmp_ne_f at_443 rfl (pc' := 446) rfl ?_
        refine g_iload at_446 rfl (pc' := 448) rfl ?_
        refine g_iconst at_448 (v := 1) rfl (pc' := 449) rfl ?_
        refine g_icmp_le_t at_449 (by decide) (pc' := 468) (by decide) rfl ?_
        refine g_iload at_468 rfl (pc' := 470) rfl ?_
        refine g_iconst at_470 (v := 2) rfl (pc' := 471) rfl ?_
        refine g_icmp_le_t at_471 (by decide) (pc' := 490) (by decide) rfl ?_
        refine g_iload at_490 rfl (pc' := 492) rfl ?_
        refine g_iconst at_492 (v := 3) rfl (pc' := 493) rfl ?_
        refine g_icmp_le_t at_493 (by decide) (pc' := 512) (by decide) rfl ?_
        refine g_iconst at_512 (v := 1) rfl (pc' := 513) rfl ?_
        refine g_goto at_513 (pc' := 517) (by decide) rfl ?_
        exact g_ireturnN at_517 rfl (by simp) (z := 1) rfl rfl (by decide) (by decide)
      ·
        refine g_if_ne_f at_246 (if_neg (by rw [f1]; decide)) (pc' := 249) rfl ?_
        refine g_iconst at_249 (v := 1) rfl (pc' := 250) rfl ?_
        refine g_goto at_250 (pc' := 254) (by decide) rfl ?_
        refine g_istore at_254 (L' := #[.val (.int p0), .val (.int p1), .val (.int p2), .val (.int p3), .val (.int p4), .val (.int 2), .val (.ref ca), .val (.ref x), .val (.int 1), .val (.int 1), .unset, .unset, .unset, .unset, .unset, .unset]) rfl (pc' := 256) rfl ?_
        refine g_iload at_256 rfl (pc' := 258) rfl ?_
        refine g_iconst at_258 (v := 2) rfl (pc' := 259) rfl ?_
        refine g_icmp_le_t at_259 (by decide) (pc' := 276) (by decide) rfl ?_
        refine g_iconst at_276 (v := 0) rfl (pc' := 277) rfl ?_
        refine g_istore at_277 (L' := #[.val (.int p0), .val (.int p1), .val (.int p2), .val (.int p3), .val (.int p4), .val (.int 2), .val (.ref ca), .val (.ref x), .val (.int 1), .val (.int 1), .val (.int 0), .unset, .unset, .unset, .unset, .unset]) rfl (pc' := 279) rfl ?_
        refine g_iload at_279 rfl (pc' := 281) rfl ?_
        refine g_iconst at_281 (v := 3) rfl (pc' := 282) rfl ?_
        refine g_icmp_le_t at_282 (by decide) (pc' := 299) (by decide) rfl ?_
        refine g_iconst at_299 (v := 0) rfl (pc' := 300) rfl ?_
        refine g_istore at_300 (L' := #[.val (.int p0), .val (.int p1), .val (.int p2), .val (.int p3), .val (.int p4), .val (.int 2), .val (.ref ca), .val (.ref x), .val (.int 1), .val (.int 1), .val (.int 0), .val (.int 0), .unset, .unset, .unset, .unset]) rfl (pc' := 302) rfl ?_
        refine g_iload at_302 rfl (pc' := 304) rfl ?_
        refine g_if_eq_f at_304 (by decide) (pc' := 307) rfl ?_
        refine g_iconst at_307 (v := 0) rfl (pc' := 308) rfl ?_
        refine g_istore at_308 (L' := #[.val (.int p0), .val (.int p1), .val (.int p2), .val (.int p3), .val (.int p4), .val (.int 2), .val (.ref ca), .val (.ref x), .val (.int 1), .val (.int 1), .val (.int 0), .val (.int 0), .val (.int 0), .unset, .unset, .unset]) rfl (pc' := 310) rfl ?_
        refine g_goto at_310 (pc' := 350) (by decide) rfl ?_
        refine g_iload at_350 rfl (pc' := 352) rfl ?_
        refine g_if_eq_t at_352 rfl (pc' := 361) (by decide) rfl ?_
        refine g_iload at_361 rfl (pc' := 363) rfl ?_
        refine g_if_eq_t at_363 rfl (pc' := 372) (by decide) rfl ?_
        refine g_iload at_372 rfl (pc' := 374) rfl ?_
        refine g_if_eq_f at_374 (by decide) (pc' := 377) rfl ?_
        refine g_iconst at_377 (v := 2) rfl (pc' := 378) rfl ?_
        refine g_istore at_378 (L' := #[.val (.int p0), .val (.int p1), .val (.int p2), .val (.int p3), .val (.int p4), .val (.int 2), .val (.ref ca), .val (.ref x), .val (.int 1), .val (.int 1), .val (.int 0), .val (.int 0), .val (.int 0), .val (.int 2), .unset, .unset]) rfl (pc' := 380) rfl ?_
        refine g_goto at_380 (pc' := 398) (by decide) rfl ?_
        refine g_aload at_398 rfl rfl (pc' := 400) rfl ?_
        refine g_static (W := 0) (argsL := [(.ref x)]) (rest := []) at_400 (w_27 hw) (w_28 hw) (by decide) (lenOf pd_17 rfl) (c_trim hw x _ _ z sf _ hC hz hF rsf Ss (Nat.le_of_ble_eq_true rfl)) (w_30 hw) (w_29 hw) (by decide) (by decide) (fun _ q => nomatch q) rfl (Nat.le_of_eq rfl) rfl (by decide) (by decide) (pc' := 403) rfl ?_
        intro w47 h47 q47 Kc47
        obtain ⟨sr, tr, rfl, Sr⟩ := q47
        have e47 : trimL [c0, c1] = [c0, c1] := by simp [trimL, List.dropWhile, f0, f1]
        rw [e47] at Sr
        refine g_astore at_403 rfl (L' := #[.val (.int p0), .val (.int p1), .val (.int p2), .val (.int p3), .val (.int p4), .val (.int 2), .val (.ref ca), .val (.ref x), .val (.int 1), .val (.int 1), .val (.int 0), .val (.int 0), .val (.int 0), .val (.int 2), .val (.ref sr), .unset]) rfl (pc' := 405) rfl ?_
        refine g_aload at_405 rfl rfl (pc' := 407) rfl ?_
        refine g_virt (W := 0) (argsL := []) (rest := []) at_407 (w_56 hw) (w_32 hw) (nf_self (w_34 hw)) (w_34 hw) (w_33 hw) (by decide) (lenOf pd_10 rfl) Sr.1 (c_lenN hw sr tr _ 2 z _ hC hz Sr rfl) (w_35 hw) (w_8 hw) (by decide) (by decide) (fun _ q => nomatch q) rfl (Nat.le_of_eq rfl) rfl (by decide) (by decide) (pc' := 410) rfl ?_
        intro w48 h48 q48 Kc48
        obtain ⟨rfl, rfl⟩ := q48
        refine g_iload at_410 rfl (pc' := 412) rfl ?_
        refine g_iload at_412 rfl (pc' := 414) rfl ?_
        refine g_isub at_414 (v := 2) rfl (pc' := 415) rfl ?_
        refine g_icmp_eq_t at_415 rfl (pc' := 420) (by decide) rfl ?_
        refine g_aload at_420 rfl rfl (pc' := 422) rfl ?_
        refine g_virt (W := 0) (argsL := []) (rest := []) at_422 (w_56 hw) (w_32 hw) (nf_self (w_34 hw)) (w_34 hw) (w_33 hw) (by decide) (lenOf pd_10 rfl) Sr.1 (c_lenN hw sr tr _ 2 z _ hC hz Sr rfl) (w_35 hw) (w_8 hw) (by decide) (by decide) (fun _ q => nomatch q) rfl (Nat.le_of_eq rfl) rfl (by decide) (by decide) (pc' := 425) rfl ?_
        intro w49 h49 q49 Kc49
        obtain ⟨rfl, rfl⟩ := q49
        refine g_istore at_425 (L' := #[.val (.int p0), .val (.int p1), .val (.int p2), .val (.int p3), .val (.int p4), .val (.int 2), .val (.ref ca), .val (.ref x), .val (.int 1), .val (.int 1), .val (.int 0), .val (.int 0), .val (.int 0), .val (.int 2), .val (.ref sr), .val (.int 2)]) rfl (pc' := 427) rfl ?_
        refine g_iload at_427 rfl (pc' := 429) rfl ?_
        refine g_if_le_f at_429 (by decide) (pc' := 432) rfl ?_
        refine g_aload at_432 rfl rfl (pc' := 434) rfl ?_
        refine g_iconst at_434 (v := 0) rfl (pc' := 435) rfl ?_
        refine g_virt (W := 0) (argsL := [(.int 0)]) (rest := []) at_435 (w_118 hw) (w_71 hw) (nf_self (w_73 hw)) (w_73 hw) (w_72 hw) (by decide) (lenOf pd_14 rfl) Sr.1 (c_charat hw sr tr _ 0 c0 z sf _ hC hz hF rsf Sr rfl) (w_74 hw) (w_8 hw) (by decide) (by decide) (fun _ q => nomatch q) rfl (Nat.le_of_eq rfl) rfl (by decide) (by decide) (pc' := 438) rfl ?_
        intro w50 h50 q50 Kc50
        obtain ⟨rfl, rfl⟩ := q50
        refine g_aload at_438 rfl rfl (pc' := 440) rfl ?_
        refine g_iload at_440 rfl (pc' := 442) rfl ?_
        refine g_caload at_442 ((((((A_ca_9.keep Kn28 nin0).keep Kn29 nin0).keep Kw30 (ninS (Nat.ne_of_lt (Nat.lt_of_lt_of_le ((A_ca_9.keep Kn28 nin0)).lt (Nat.le_of_eq g29.symm))) nin0)).keep Kw31 (ninS (Nat.ne_of_lt (Nat.lt_of_lt_of_le ((A_ca_9.keep Kn28 nin0)).lt (Nat.le_of_eq g29.symm))) nin0)).keep Kc32 (ninS (Nat.ne_of_lt (Nat.lt_of_lt_of_le (A_ca_9).lt (Nat.le_of_eq g28.symm))) nin0)).keep Kc47 nin0) (by decide) (i := 0) rfl rfl (pc' := 443) rfl ?_
        refine g_icmp_ne_f at_443 rfl (pc' := 446) rfl ?_
        refine g_iload at_446 rfl (pc' := 448) rfl ?_
        refine g_iconst at_448 (v := 1) rfl (pc' := 449) rfl ?_
        refine g_icmp_le_f at_449 (by decide) (pc' := 452) rfl ?_
        refine g_aload at_452 rfl rfl (pc' := 454) rfl ?_
        refine g_iconst at_454 (v := 1) rfl (pc' := 455) rfl ?_
        refine g_virt (W := 0) (argsL := [(.int 1)]) (rest := []) at_455 (w_118 hw) (w_71 hw) (nf_self (w_73 hw)) (w_73 hw) (w_72 hw) (by decide) (lenOf pd_14 rfl) Sr.1 (c_charat hw sr tr _ 1 c1 z sf _ hC hz hF rsf Sr rfl) (w_74 hw) (w_8 hw) (by decide) (by decide) (fun _ q => nomatch q) rfl (Nat.le_of_eq rfl) rfl (by decide) (by decide) (pc' := 458) rfl ?_
        intro w51 h51 q51 Kc51
        obtain ⟨rfl, rfl⟩ := q51
        refine g_aload at_458 rfl rfl (pc' := 460) rfl ?_
        refine g_iload at_460 rfl (pc' := 462) rfl ?_
        refine g_iconst at_462 (v := 1) rfl (pc' := 463) rfl ?_
        refine g_iadd at_463 (v := 1) rfl (pc' := 464) rfl ?_
        refine g_caload at_464 ((((((A_ca_9.keep Kn28 nin0).keep Kn29 nin0).keep Kw30 (ninS (Nat.ne_of_lt (Nat.lt_of_lt_of_le ((A_ca_9.keep Kn28 nin0)).lt (Nat.le_of_eq g29.symm))) nin0)).keep Kw31 (ninS (Nat.ne_of_lt (Nat.lt_of_lt_of_le ((A_ca_9.keep Kn28 nin0)).lt (Nat.le_of_eq g29.symm))) nin0)).keep Kc32 (ninS (Nat.ne_of_lt (Nat.lt_of_lt_of_le (A_ca_9).lt (Nat.le_of_eq g28.symm))) nin0)).keep Kc47 nin0) (by decide) (i := 1) rfl rfl (pc' := 465) rfl ?_
        refine g_icmp_ne_f at_465 rfl (pc' := 468) rfl ?_
        refine g_iload at_468 rfl (pc' := 470) rfl ?_
        refine g_iconst at_470 (v := 2) rfl (pc' := 471) rfl ?_
        refine g_icmp_le_t at_471 (by decide) (pc' := 490) (by decide) rfl ?_
        refine g_iload at_490 rfl (pc' := 492) rfl ?_
        refine g_iconst at_492 (v := 3) rfl (pc' := 493) rfl ?_
        refine g_icmp_le_t at_493 (by decide) (pc' := 512) (by decide) rfl ?_
        refine g_iconst at_512 (v := 1) rfl (pc' := 513) rfl ?_
        refine g_goto at_513 (pc' := 517) (by decide) rfl ?_
        exact g_ireturnN at_517 rfl (by simp) (z := 1) rfl rfl (by decide) (by decide)
  ·
    refine g_if_ne_t at_48 (by decide) (pc' := 66) (by decide) rfl ?_
    refine g_iload at_66 rfl (pc' := 68) rfl ?_
    refine g_iconst at_68 (v := 1) rfl (pc' := 69) rfl ?_
    refine g_icmp_ne_t at_69 (by decide) (pc' := 94) (by decide) rfl ?_
    refine g_iload at_94 rfl (pc' := 96) rfl ?_
    refine g_iconst at_96 (v := 2) rfl (pc' := 97) rfl ?_
    refine g_icmp_ne_t at_97 (by decide) (pc' := 129) (by decide) rfl ?_
    refine g_iload at_129 rfl (pc' := 131) rfl ?_
    refine g_iconst at_131 (v := 3) rfl (pc' := 132) rfl ?_
    refine g_icmp_ne_f at_132 rfl (pc' := 135) rfl ?_
    refine g_new at_135 (w_6 hw) (w_7 hw) (w_8 hw) (by decide) (by decide) (pc' := 138) rfl ?_
    intro x h52 g52 Kn52 E_x D52 sz_x
    have F_value_x : Fld Z h52 x "java/lang/String" "value" "[B" .null := D52 (Or.inr (w_21 hw)) (ty := (.array .byte)) (by decide)
    have F_coder_x : Fld Z h52 x "java/lang/String" "coder" "B" (.int 0) := D52 (Or.inr (w_22 hw)) (ty := .byte) (by decide)
    refine g_dup at_138 rfl (pc' := 139) rfl ?_
    refine g_iconst at_139 (v := 3) rfl (pc' := 140) rfl ?_
    refine g_newA at_140 (w_1 hw) rfl (by decide) (cap := 3) (by decide) (by decide) (by decide) (by decide) (pc' := 142) rfl ?_
    intro cb h53 g53 Kn53 A_cb sz_cb
    replace A_cb : Ia Z h53 cb .char [0, 0, 0] := A_cb
    refine g_dup at_142 rfl (pc' := 143) rfl ?_
    refine g_iconst at_143 (v := 0) rfl (pc' := 144) rfl ?_
    refine g_aload at_144 rfl rfl (pc' := 146) rfl ?_
    refine g_iconst at_146 (v := 0) rfl (pc' := 147) rfl ?_
    refine g_caload at_147 ((A_ca_9.keep Kn52 nin0).keep Kn53 nin0) (by decide) (i := 0) rfl rfl (pc' := 148) rfl ?_
    refine g_castore at_148 A_cb (by decide) (i := 0) rfl (Nat.le_of_ble_eq_true rfl) (Or.inr sz_cb) (List.mem_of_getElem? (i := 0) rfl) (pc' := 149) rfl ?_
    intro h54 Kw54 A_cb_54
    replace A_cb_54 : Ia Z h54 cb .char [c0, 0, 0] := (by rw [(lo8 c0 b0).2.1] at A_cb_54; exact A_cb_54)
    refine g_dup at_149 rfl (pc' := 150) rfl ?_
    refine g_iconst at_150 (v := 1) rfl (pc' := 151) rfl ?_
    refine g_aload at_151 rfl rfl (pc' := 153) rfl ?_
    refine g_iconst at_153 (v := 1) rfl (pc' := 154) rfl ?_
    refine g_caload at_154 (((A_ca_9.keep Kn52 nin0).keep Kn53 nin0).keep Kw54 (ninS (Nat.ne_of_lt (Nat.lt_of_lt_of_le ((A_ca_9.keep Kn52 nin0)).lt (Nat.le_of_eq g53.symm))) nin0)) (by decide) (i := 1) rfl rfl (pc' := 155) rfl ?_
    refine g_castore at_155 A_cb_54 (by decide) (i := 1) rfl (Nat.le_of_ble_eq_true rfl) (Or.inr sz_cb) (List.mem_of_getElem? (i := 0) rfl) (pc' := 156) rfl ?_
    intro h55 Kw55 A_cb_55
    replace A_cb_55 : Ia Z h55 cb .char [c0, c1, 0] := (by rw [(lo8 c1 b1).2.1] at A_cb_55; exact A_cb_55)
    refine g_dup at_156 rfl (pc' := 157) rfl ?_
    refine g_iconst at_157 (v := 2) rfl (pc' := 158) rfl ?_
    refine g_aload at_158 rfl rfl (pc' := 160) rfl ?_
    refine g_iconst at_160 (v := 2) rfl (pc' := 161) rfl ?_
    refine g_caload at_161 ((((A_ca_9.keep Kn52 nin0).keep Kn53 nin0).keep Kw54 (ninS (Nat.ne_of_lt (Nat.lt_of_lt_of_le ((A_ca_9.keep Kn52 nin0)).lt (Nat.le_of_eq g53.symm))) nin0)).keep Kw55 (ninS (Nat.ne_of_lt (Nat.lt_of_lt_of_le ((A_ca_9.keep Kn52 nin0)).lt (Nat.le_of_eq g53.symm))) nin0)) (by decide) (i := 2) rfl rfl (pc' := 162) rfl ?_
    refine g_castore at_162 A_cb_55 (by decide) (i := 2) rfl (Nat.le_of_ble_eq_true rfl) (Or.inr sz_cb) (List.mem_of_getElem? (i := 0) rfl) (pc' := 163) rfl ?_
    intro h56 Kw56 A_cb_56
    replace A_cb_56 : Ia Z h56 cb .char [c0, c1, c2] := (by rw [(lo8 c2 b2).2.1] at A_cb_56; exact A_cb_56)
    refine g_initB (W := 1) (argsL := [(.ref cb)]) (rest := [(.ref x)]) at_163 rfl (w_9 hw) (w_10 hw) (w_11 hw) (by decide) (lenOf pd_16 rfl) (bk_str (len := 3) hws (w_7 hw) sz_x ((((E_x.keep Kn53).keep Kw54).keep Kw55).keep Kw56) ((((F_value_x.keep Kn53 nin0).keep Kw54 (ninS (Nat.ne_of_lt (Nat.lt_of_lt_of_le (E_x).lt (Nat.le_of_eq g53.symm))) nin0)).keep Kw55 (ninS (Nat.ne_of_lt (Nat.lt_of_lt_of_le (E_x).lt (Nat.le_of_eq g53.symm))) nin0)).keep Kw56 (ninS (Nat.ne_of_lt (Nat.lt_of_lt_of_le (E_x).lt (Nat.le_of_eq g53.symm))) nin0)) ((((F_coder_x.keep Kn53 nin0).keep Kw54 (ninS (Nat.ne_of_lt (Nat.lt_of_lt_of_le (E_x).lt (Nat.le_of_eq g53.symm))) nin0)).keep Kw55 (ninS (Nat.ne_of_lt (Nat.lt_of_lt_of_le (E_x).lt (Nat.le_of_eq g53.symm))) nin0)).keep Kw56 (ninS (Nat.ne_of_lt (Nat.lt_of_lt_of_le (E_x).lt (Nat.le_of_eq g53.symm))) nin0)) A_cb_56 hC hz rfl (by decide) (by decide) (all3 b0 b1 b2 b3) (by decide) (by decide)) (fun _ _ _ _ q => ⟨q.2.1, q.2.2.1⟩) (allS (List.mem_of_getElem? (i := 1) rfl) all0) rfl (Nat.le_of_eq rfl) rfl (by decide) (by decide) (pc' := 166) rfl ?_
    intro v57 h57 L57 q57
    obtain ⟨rfl, -, Kc57, ts, hts, Ss⟩ := q57
    refine g_astore at_166 rfl (L' := #[.val (.int p0), .val (.int p1), .val (.int p2), .val (.int p3), .val (.int p4), .val (.int 3), .val (.ref ca), .val (.ref x), .unset, .unset, .unset, .unset, .unset, .unset, .unset, .unset]) rfl (pc' := 168) rfl ?_
    refine g_goto at_168 (pc' := 211) (by decide) rfl ?_
    refine g_iload at_211 rfl (pc' := 213) rfl ?_
    refine g_if_le_f at_213 (by decide) (pc' := 216) rfl ?_
    refine g_aload at_216 rfl rfl (pc' := 218) rfl ?_
    refine g_iconst at_218 (v := 0) rfl (pc' := 219) rfl ?_
    refine g_caload at_219 ((((((A_ca_9.keep Kn52 nin0).keep Kn53 nin0).keep Kw54 (ninS (Nat.ne_of_lt (Nat.lt_of_lt_of_le ((A_ca_9.keep Kn52 nin0)).lt (Nat.le_of_eq g53.symm))) nin0)).keep Kw55 (ninS (Nat.ne_of_lt (Nat.lt_of_lt_of_le ((A_ca_9.keep Kn52 nin0)).lt (Nat.le_of_eq g53.symm))) nin0)).keep Kw56 (ninS (Nat.ne_of_lt (Nat.lt_of_lt_of_le ((A_ca_9.keep Kn52 nin0)).lt (Nat.le_of_eq g53.symm))) nin0)).keep Kc57 (ninS (Nat.ne_of_lt (Nat.lt_of_lt_of_le (A_ca_9).lt (Nat.le_of_eq g52.symm))) nin0)) (by decide) (i := 0) rfl rfl (pc' := 220) rfl ?_
    refine g_static (W := 0) (argsL := [(.int c0)]) (rest := []) at_220 (w_67 hw) (w_68 hw) (by decide) (lenOf pd_15 rfl) (c_ws hw c0 _) (w_69 hw) (w_4 hw) (by decide) (by decide) (fun _ q => nomatch q) rfl (Nat.le_of_eq rfl) rfl (by decide) (by decide) (pc' := 223) rfl ?_
    intro w58 h58 q58 Kc58
    obtain ⟨rfl, rfl⟩ := q58
    rcases Bool.eq_false_or_eq_true (isW c0) with f0 | f0
    ·
      refine g_if_ne_t at_223 (by rw [if_pos f0]; decide) (pc' := 230) (by decide) rfl ?_
      refine g_iconst at_230 (v := 0) rfl (pc' := 231) rfl ?_
      refine g_istore at_231 (L' := #[.val (.int p0), .val (.int p1), .val (.int p2), .val (.int p3), .val (.int p4), .val (.int 3), .val (.ref ca), .val (.ref x), .val (.int 0), .unset, .unset, .unset, .unset, .unset, .unset, .unset]) rfl (pc' := 233) rfl ?_
      refine g_iload at_233 rfl (pc' := 235) rfl ?_
      refine g_iconst at_235 (v := 1) rfl (pc' := 236) rfl ?_
      refine g_icmp_le_f at_236 (by decide) (pc' := 239) rfl ?_
      refine g_aload at_239 rfl rfl (pc' := 241) rfl ?_
      refine g_iconst at_241 (v := 1) rfl (pc' := 242) rfl ?_
      refine g_caload at_242 ((((((A_ca_9.keep Kn52 nin0).keep Kn53 nin0).keep Kw54 (ninS (Nat.ne_of_lt (Nat.lt_of_lt_of_le ((A_ca_9.keep Kn52 nin0)).lt (Nat.le_of_eq g53.symm))) nin0)).keep Kw55 (ninS (Nat.ne_of_lt (Nat.lt_of_lt_of_le ((A_ca_9.keep Kn52 nin0)).lt (Nat.le_of_eq g53.symm))) nin0)).keep Kw56 (ninS (Nat.ne_of_lt (Nat.lt_of_lt_of_le ((A_ca_9.keep Kn52 nin0)).lt (Nat.le_of_eq g53.symm))) nin0)).keep Kc57 (ninS (Nat.ne_of_lt (Nat.lt_of_lt_of_le (A_ca_9).lt (Nat.le_of_eq g52.symm))) nin0)) (by decide) (i := 1) rfl rfl (pc' := 243) rfl ?_
      refine g_static (W := 0) (argsL := [(.int c1)]) (rest := []) at_243 (w_67 hw) (w_68 hw) (by decide) (lenOf pd_15 rfl) (c_ws hw c1 _) (w_69 hw) (w_4 hw) (by decide) (by decide) (fun _ q => nomatch q) rfl (Nat.le_of_eq rfl) rfl (by decide) (by decide) (pc' := 246) rfl ?_
      intro w59 h59 q59 Kc59
      obtain ⟨rfl, rfl⟩ := q59
      rcases Bool.eq_false_or_eq_true (isW c1) with f1 | f1
      ·
        refine g_if_ne_t at_246 (by rw [if_pos f1]; decide) (pc' := 253) (by decide) rfl ?_
        refine g_iconst at_253 (v := 0) rfl (pc' := 254) rfl ?_
        refine g_istore at_254 (L' := #[.val (.int p0), .val (.int p1), .val (.int p2), .val (.int p3), .val (.int p4), .val (.int 3), .val (.ref ca), .val (.ref x), .val (.int 0), .val (.int 0), .unset, .unset, .unset, .unset, .unset, .unset]) rfl (pc' := 256) rfl ?_
        refine g_iload at_256 rfl (pc' := 258) rfl ?_
        refine g_iconst at_258 (v := 2) rfl (pc' := 259) rfl ?_
        refine g_icmp_le_f at_259 (by decide) (pc' := 262) rfl ?_
        refine g_aload at_262 rfl rfl (pc' := 264) rfl ?_
        refine g_iconst at_264 (v := 2) rfl (pc' := 265) rfl ?_
        refine g_caload at_265 ((((((A_ca_9.keep Kn52 nin0).keep Kn53 nin0).keep Kw54 (ninS (Nat.ne_of_lt (Nat.lt_of_lt_of_le ((A_ca_9.keep Kn52 nin0)).lt (Nat.le_of_eq g53.symm))) nin0)).keep Kw55 (ninS (Nat.ne_of_lt (Nat.lt_of_lt_of_le ((A_ca_9.keep Kn52 nin0)).lt (Nat.le_of_eq g53.symm))) nin0)).keep Kw56 (ninS (Nat.ne_of_lt (Nat.lt_of_lt_of_le ((A_ca_9.keep Kn52 nin0)).lt (Nat.le_of_eq g53.symm))) nin0)).keep Kc57 (ninS (Nat.ne_of_lt (Nat.lt_of_lt_of_le (A_ca_9).lt (Nat.le_of_eq g52.symm))) nin0)) (by decide) (i := 2) rfl rfl (pc' := 266) rfl ?_
        refine g_static (W := 0) (argsL := [(.int c2)]) (rest := []) at_266 (w_67 hw) (w_68 hw) (by decide) (lenOf pd_15 rfl) (c_ws hw c2 _) (w_69 hw) (w_4 hw) (by decide) (by decide) (fun _ q => nomatch q) rfl (Nat.le_of_eq rfl) rfl (by decide) (by decide) (pc' := 269) rfl ?_
        intro w60 h60 q60 Kc60
        obtain ⟨rfl, rfl⟩ := q60
        rcases Bool.eq_false_or_eq_true (isW c2) with f2 | f2
        ·
          refine g_if_ne_t at_269 (by rw [if_pos f2]; decide) (pc' := 276) (by decide) rfl ?_
          refine g_iconst at_276 (v := 0) rfl (pc' := 277) rfl ?_
          refine g_istore at_277 (L' := #[.val (.int p0), .val (.int p1), .val (.int p2), .val (.int p3), .val (.int p4), .val (.int 3), .val (.ref ca), .val (.ref x), .val (.int 0), .val (.int 0), .val (.int 0), .unset, .unset, .unset, .unset, .unset]) rfl (pc' := 279) rfl ?_
          refine g_iload at_279 rfl (pc' := 281) rfl ?_
          refine g_iconst at_281 (v := 3) rfl (pc' := 282) rfl ?_
          refine g_icmp_le_t at_282 (by decide) (pc' := 299) (by decide) rfl ?_
          refine g_iconst at_299 (v := 0) rfl (pc' := 300) rfl ?_
          refine g_istore at_300 (L' := #[.val (.int p0), .val (.int p1), .val (.int p2), .val (.int p3), .val (.int p4), .val (.int 3), .val (.ref ca), .val (.ref x), .val (.int 0), .val (.int 0), .val (.int 0), .val (.int 0), .unset, .unset, .unset, .unset]) rfl (pc' := 302) rfl ?_
          refine g_iload at_302 rfl (pc' := 304) rfl ?_
          refine g_if_eq_t at_304 rfl (pc' := 313) (by decide) rfl ?_
          refine g_iload at_313 rfl (pc' := 315) rfl ?_
          refine g_if_eq_t at_315 rfl (pc' := 324) (by decide) rfl ?_
          refine g_iload at_324 rfl (pc' := 326) rfl ?_
          refine g_if_eq_t at_326 rfl (pc' := 335) (by decide) rfl ?_
          refine g_iload at_335 rfl (pc' := 337) rfl ?_
          refine g_if_eq_t at_337 rfl (pc' := 346) (by decide) rfl ?_
          refine g_iload at_346 rfl (pc' := 348) rfl ?_
          refine g_istore at_348 (L' := #[.val (.int p0), .val (.int p1), .val (.int p2), .val (.int p3), .val (.int p4), .val (.int 3), .val (.ref ca), .val (.ref x), .val (.int 0), .val (.int 0), .val (.int 0), .val (.int 0), .val (.int 3), .unset, .unset, .unset]) rfl (pc' := 350) rfl ?_
          refine g_iload at_350 rfl (pc' := 352) rfl ?_
          refine g_if_eq_t at_352 rfl (pc' := 361) (by decide) rfl ?_
          refine g_iload at_361 rfl (pc' := 363) rfl ?_
          refine g_if_eq_t at_363 rfl (pc' := 372) (by decide) rfl ?_
          refine g_iload at_372 rfl (pc' := 374) rfl ?_
          refine g_if_eq_t at_374 rfl (pc' := 383) (by decide) rfl ?_
          refine g_iload at_383 rfl (pc' := 385) rfl ?_
          refine g_if_eq_t at_385 rfl (pc' := 394) (by decide) rfl ?_
          refine g_iload at_394 rfl (pc' := 396) rfl ?_
          refine g_istore at_396 (L' := #[.val (.int p0), .val (.int p1), .val (.int p2), .val (.int p3), .val (.int p4), .val (.int 3), .val (.ref ca), .val (.ref x), .val (.int 0), .val (.int 0), .val (.int 0), .val (.int 0), .val (.int 3), .val (.int 3), .unset, .unset]) rfl (pc' := 398) rfl ?_
          refine g_aload at_398 rfl rfl (pc' := 400) rfl ?_
          refine g_static (W := 0) (argsL := [(.ref x)]) (rest := []) at_400 (w_27 hw) (w_28 hw) (by decide) (lenOf pd_17 rfl) (c_trim hw x _ _ z sf _ hC hz hF rsf Ss (Nat.le_of_ble_eq_true rfl)) (w_30 hw) (w_29 hw) (by decide) (by decide) (fun _ q => nomatch q) rfl (Nat.le_of_eq rfl) rfl (by decide) (by decide) (pc' := 403) rfl ?_
          intro w61 h61 q61 Kc61
          obtain ⟨sr, tr, rfl, Sr⟩ := q61
          have e61 : trimL [c0, c1, c2] = [] := by simp [trimL, List.dropWhile, f0, f1, f2]
          rw [e61] at Sr
          refine g_astore at_403 rfl (L' := #[.val (.int p0), .val (.int p1), .val (.int p2), .val (.int p3), .val (.int p4), .val (.int 3), .val (.ref ca), .val (.ref x), .val (.int 0), .val (.int 0), .val (.int 0), .val (.int 0), .val (.int 3), .val (.int 3), .val (.ref sr), .unset]) rfl (pc' := 405) rfl ?_
          refine g_aload at_405 rfl rfl (pc' := 407) rfl ?_
          refine g_virt (W := 0) (argsL := []) (rest := []) at_407 (w_56 hw) (w_32 hw) (nf_self (w_34 hw)) (w_34 hw) (w_33 hw) (by decide) (lenOf pd_10 rfl) Sr.1 (c_lenN hw sr tr _ 0 z _ hC hz Sr rfl) (w_35 hw) (w_8 hw) (by decide) (by decide) (fun _ q => nomatch q) rfl (Nat.le_of_eq rfl) rfl (by decide) (by decide) (pc' := 410) rfl ?_
          intro w62 h62 q62 Kc62
          obtain ⟨rfl, rfl⟩ := q62
          refine g_iload at_410 rfl (pc' := 412) rfl ?_
          refine g_iload at_412 rfl (pc' := 414) rfl ?_
          refine g_isub at_414 (v := 0) rfl (pc' := 415) rfl ?_
          refine g_icmp_eq_t at_415 rfl (pc' := 420) (by decide) rfl ?_
          refine g_aload at_420 rfl rfl (pc' := 422) rfl ?_
          refine g_virt (W := 0) (argsL := []) (rest := []) at_422 (w_56 hw) (w_32 hw) (nf_self (w_34 hw)) (w_34 hw) (w_33 hw) (by decide) (lenOf pd_10 rfl) Sr.1 (c_lenN hw sr tr _ 0 z _ hC hz Sr rfl) (w_35 hw) (w_8 hw) (by decide) (by decide) (fun _ q => nomatch q) rfl (Nat.le_of_eq rfl) rfl (by decide) (by decide) (pc' := 425) rfl ?_
          intro w63 h63 q63 Kc63
          obtain ⟨rfl, rfl⟩ := q63
          refine g_istore at_425 (L' := #[.val (.int p0), .val (.int p1), .val (.int p2), .val (.int p3), .val (.int p4), .val (.int 3), .val (.ref ca), .val (.ref x), .val (.int 0), .val (.int 0), .val (.int 0), .val (.int 0), .val (.int 3), .val (.int 3), .val (.ref sr), .val (.int 0)]) rfl (pc' := 427) rfl ?_
          refine g_iload at_427 rfl (pc' := 429) rfl ?_
          refine g_if_le_t at_429 (by decide) (pc' := 446) (by decide) rfl ?_
          refine g_iload at_446 rfl (pc' := 448) rfl ?_
          refine g_iconst at_448 (v := 1) rfl (pc' := 449) rfl ?_
          refine g_icmp_le_t at_449 (by decide) (pc' := 468) (by decide) rfl ?_
          refine g_iload at_468 rfl (pc' := 470) rfl ?_
          refine g_iconst at_470 (v := 2) rfl (pc' := 471) rfl ?_
          refine g_icmp_le_t at_471 (by decide) (pc' := 490) (by decide) rfl ?_
          refine g_iload at_490 rfl (pc' := 492) rfl ?_
          refine g_iconst at_492 (v := 3) rfl (pc' := 493) rfl ?_
          refine g_icmp_le_t at_493 (by decide) (pc' := 512) (by decide) rfl ?_
          refine g_iconst at_512 (v := 1) rfl (pc' := 513) rfl ?_
          refine g_goto at_513 (pc' := 517) (by decide) rfl ?_
          exact g_ireturnN at_517 rfl (by simp) (z := 1) rfl rfl (by decide) (by decide)
        ·
          refine g_if_ne_f at_269 (if_neg (by rw [f2]; decide)) (pc' := 272) rfl ?_
          refine g_iconst at_272 (v := 1) rfl (pc' := 273) rfl ?_
          refine g_goto at_273 (pc' := 277) (by decide) rfl ?_
          refine g_istore at_277 (L' := #[.val (.int p0), .val (.int p1), .val (.int p2), .val (.int p3), .val (.int p4), .val (.int 3), .val (.ref ca), .val (.ref x), .val (.int 0), .val (.int 0), .val (.int 1), .unset, .unset, .unset, .unset, .unset]) rfl (pc' := 279) rfl ?_
          refine g_iload at_279 rfl (pc' := 281) rfl ?_
          refine g_iconst at_281 (v := 3) rfl (pc' := 282) rfl ?_
          refine g_icmp_le_t at_282 (by decide) (pc' := 299) (by decide) rfl ?_
          refine g_iconst at_299 (v := 0) rfl (pc' := 300) rfl ?_
          refine g_istore at_300 (L' := #[.val (.int p0), .val (.int p1), .val (.int p2), .val (.int p3), .val (.int p4), .val (.int 3), .val (.ref ca), .val (.ref x), .val (.int 0), .val (.int 0), .val (.int 1), .val (.int 0), .unset, .unset, .unset, .unset]) rfl (pc' := 302) rfl ?_
          refine g_iload at_302 rfl (pc' := 304) rfl ?_
          refine g_if_eq_t at_304 rfl (pc' := 313) (by decide) rfl ?_
          refine g_iload at_313 rfl (pc' := 315) rfl ?_
          refine g_if_eq_t at_315 rfl (pc' := 324) (by decide) rfl ?_
          refine g_iload at_324 rfl (pc' := 326) rfl ?_
          refine g_if_eq_f at_326 (by decide) (pc' := 329) rfl ?_
          refine g_iconst at_329 (v := 2) rfl (pc' := 330) rfl ?_
          refine g_istore at_330 (L' := #[.val (.int p0), .val (.int p1), .val (.int p2), .val (.int p3), .val (.int p4), .val (.int 3), .val (.ref ca), .val (.ref x), .val (.int 0), .val (.int 0), .val (.int 1), .val (.int 0), .val (.int 2), .unset, .unset, .unset]) rfl (pc' := 332) rfl ?_
          refine g_goto at_332 (pc' := 350) (by decide) rfl ?_
          refine g_iload at_350 rfl (pc' := 352) rfl ?_
          refine g_if_eq_t at_352 rfl (pc' := 361) (by decide) rfl ?_
          refine g_iload at_361 rfl (pc' := 363) rfl ?_
          refine g_if_eq_f at_363 (by decide) (pc' := 366) rfl ?_
          refine g_iconst at_366 (v := 3) rfl (pc' := 367) rfl ?_
          refine g_istore at_367 (L' := #[.val (.int p0), .val (.int p1), .val (.int p2), .val (.int p3), .val (.int p4), .val (.int 3), .val (.ref ca), .val (.ref x), .val (.int 0), .val (.int 0), .val (.int 1), .val (.int 0), .val (.int 2), .val (.int 3), .unset, .unset]) rfl (pc' := 369) rfl ?_
          refine g_goto at_369 (pc' := 398) (by decide) rfl ?_
          refine g_aload at_398 rfl rfl (pc' := 400) rfl ?_
          refine g_static (W := 0) (argsL := [(.ref x)]) (rest := []) at_400 (w_27 hw) (w_28 hw) (by decide) (lenOf pd_17 rfl) (c_trim hw x _ _ z sf _ hC hz hF rsf Ss (Nat.le_of_ble_eq_true rfl)) (w_30 hw) (w_29 hw) (by decide) (by decide) (fun _ q => nomatch q) rfl (Nat.le_of_eq rfl) rfl (by decide) (by decide) (pc' := 403) rfl ?_
          intro w64 h64 q64 Kc64
          obtain ⟨sr, tr, rfl, Sr⟩ := q64
          have e64 : trimL [c0, c1, c2] = [c2] := by simp [trimL, List.dropWhile, f0, f1, f2]
          rw [e64] at Sr
          refine g_astore at_403 rfl (L' := #[.val (.int p0), .val (.int p1), .val (.int p2), .val (.int p3), .val (.int p4), .val (.int 3), .val (.ref ca), .val (.ref x), .val (.int 0), .val (.int 0), .val (.int 1), .val (.int 0), .val (.int 2), .val (.int 3), .val (.ref sr), .unset]) rfl (pc' := 405) rfl ?_
          refine g_aload at_405 rfl rfl (pc' := 407) rfl ?_
          refine g_virt (W := 0) (argsL := []) (rest := []) at_407 (w_56 hw) (w_32 hw) (nf_self (w_34 hw)) (w_34 hw) (w_33 hw) (by decide) (lenOf pd_10 rfl) Sr.1 (c_lenN hw sr tr _ 1 z _ hC hz Sr rfl) (w_35 hw) (w_8 hw) (by decide) (by decide) (fun _ q => nomatch q) rfl (Nat.le_of_eq rfl) rfl (by decide) (by decide) (pc' := 410) rfl ?_
          intro w65 h65 q65 Kc65
          obtain ⟨rfl, rfl⟩ := q65
          refine g_iload at_410 rfl (pc' := 412) rfl ?_
          refine g_iload at_412 rfl (pc' := 414) rfl ?_
          refine g_isub at_414 (v := 1) rfl (pc' := 415) rfl ?_
          refine g_icmp_eq_t at_415 rfl (pc' := 420) (by decide) rfl ?_
          refine g_aload at_420 rfl rfl (pc' := 422) rfl ?_
          refine g_virt (W := 0) (argsL := []) (rest := []) at_422 (w_56 hw) (w_32 hw) (nf_self (w_34 hw)) (w_34 hw) (w_33 hw) (by decide) (lenOf pd_10 rfl) Sr.1 (c_lenN hw sr tr _ 1 z _ hC hz Sr rfl) (w_35 hw) (w_8 hw) (by decide) (by decide) (fun _ q => nomatch q) rfl (Nat.le_of_eq rfl) rfl (by decide) (by decide) (pc' := 425) rfl ?_
          intro w66 h66 q66 Kc66
          obtain ⟨rfl, rfl⟩ := q66
          refine g_istore at_425 (L' := #[.val (.int p0), .val (.int p1), .val (.int p2), .val (.int p3), .val (.int p4), .val (.int 3), .val (.ref ca), .val (.ref x), .val (.int 0), .val (.int 0), .val (.int 1), .val (.int 0), .val (.int 2), .val (.int 3), .val (.ref sr), .val (.int 1)]) rfl (pc' := 427) rfl ?_
          refine g_iload at_427 rfl (pc' := 429) rfl ?_
          refine g_if_le_f at_429 (by decide) (pc' := 432) rfl ?_
          refine g_aload at_432 rfl rfl (pc' := 434) rfl ?_
          refine g_iconst at_434 (v := 0) rfl (pc' := 435) rfl ?_
          refine g_virt (W := 0) (argsL := [(.int 0)]) (rest := []) at_435 (w_118 hw) (w_71 hw) (nf_self (w_73 hw)) (w_73 hw) (w_72 hw) (by decide) (lenOf pd_14 rfl) Sr.1 (c_charat hw sr tr _ 0 c2 z sf _ hC hz hF rsf Sr rfl) (w_74 hw) (w_8 hw) (by decide) (by decide) (fun _ q => nomatch q) rfl (Nat.le_of_eq rfl) rfl (by decide) (by decide) (pc' := 438) rfl ?_
          intro w67 h67 q67 Kc67
          obtain ⟨rfl, rfl⟩ := q67
          refine g_aload at_438 rfl rfl (pc' := 440) rfl ?_
          refine g_iload at_440 rfl (pc' := 442) rfl ?_
          refine g_caload at_442 (((((((A_ca_9.keep Kn52 nin0).keep Kn53 nin0).keep Kw54 (ninS (Nat.ne_of_lt (Nat.lt_of_lt_of_le ((A_ca_9.keep Kn52 nin0)).lt (Nat.le_of_eq g53.symm))) nin0)).keep Kw55 (ninS (Nat.ne_of_lt (Nat.lt_of_lt_of_le ((A_ca_9.keep Kn52 nin0)).lt (Nat.le_of_eq g53.symm))) nin0)).keep Kw56 (ninS (Nat.ne_of_lt (Nat.lt_of_lt_of_le ((A_ca_9.keep Kn52 nin0)).lt (Nat.le_of_eq g53.symm))) nin0)).keep Kc57 (ninS (Nat.ne_of_lt (Nat.lt_of_lt_of_le (A_ca_9).lt (Nat.le_of_eq g52.symm))) nin0)).keep Kc64 nin0) (by decide) (i := 2) rfl rfl (pc' := 443) rfl ?_
          refine g_icmp_ne_f at_443 rfl (pc' := 446) rfl ?_
          refine g_iload at_446 rfl (pc' := 448) rfl ?_
          refine g_iconst at_448 (v := 1) rfl (pc' := 449) rfl ?_
          refine g_icmp_le_t at_449 (by decide) (pc' := 468) (by decide) rfl ?_
          refine g_iload at_468 rfl (pc' := 470) rfl ?_
          refine g_iconst at_470 (v := 2) rfl (pc' := 471) rfl ?_
          refine g_icmp_le_t at_471 (by decide) (pc' := 490) (by decide) rfl ?_
          refine g_iload at_490 rfl (pc' := 492) rfl ?_
          refine g_iconst at_492 (v := 3) rfl (pc' := 493) rfl ?_
          refine g_icmp_le_t at_493 (by decide) (pc' := 512) (by decide) rfl ?_
          refine g_iconst at_512 (v := 1) rfl (pc' := 513) rfl ?_
          refine g_goto at_513 (pc' := 517) (by decide) rfl ?_
          exact g_ireturnN at_517 rfl (by simp) (z := 1) rfl rfl (by decide) (by decide)
      ·
        refine g_if_ne_f at_246 (if_neg (by rw [f1]; decide)) (pc' := 249) rfl ?_
        refine g_iconst at_249 (v := 1) rfl (pc' := 250) rfl ?_
        refine g_goto at_250 (pc' := 254) (by decide) rfl ?_
        refine g_istore at_254 (L' := #[.val (.int p0), .val (.int p1), .val (.int p2), .val (.int p3), .val (.int p4), .val (.int 3), .val (.ref ca), .val (.ref x), .val (.int 0), .val (.int 1), .unset, .unset, .unset, .unset, .unset, .unset]) rfl (pc' := 256) rfl ?_
        refine g_iload at_256 rfl (pc' := 258) rfl ?_
        refine g_iconst at_258 (v := 2) rfl (pc' := 259) rfl ?_
        refine g_icmp_le_f at_259 (by decide) (pc' := 262) rfl ?_
        refine g_aload at_262 rfl rfl (pc' := 264) rfl ?_
        refine g_iconst at_264 (v := 2) rfl (pc' := 265) rfl ?_
        refine g_caload at_265 ((((((A_ca_9.keep Kn52 nin0).keep Kn53 nin0).keep Kw54 (ninS (Nat.ne_of_lt (Nat.lt_of_lt_of_le ((A_ca_9.keep Kn52 nin0)).lt (Nat.le_of_eq g53.symm))) nin0)).keep Kw55 (ninS (Nat.ne_of_lt (Nat.lt_of_lt_of_le ((A_ca_9.keep Kn52 nin0)).lt (Nat.le_of_eq g53.symm))) nin0)).keep Kw56 (ninS (Nat.ne_of_lt (Nat.lt_of_lt_of_le ((A_ca_9.keep Kn52 nin0)).lt (Nat.le_of_eq g53.symm))) nin0)).keep Kc57 (ninS (Nat.ne_of_lt (Nat.lt_of_lt_of_le (A_ca_9).lt (Nat.le_of_eq g52.symm))) nin0)) (by decide) (i := 2) rfl rfl (pc' := 266) rfl ?_
        refine g_static (W := 0) (argsL := [(.int c2)]) (rest := []) at_266 (w_67 hw) (w_68 hw) (by decide) (lenOf pd_15 rfl) (c_ws hw c2 _) (w_69 hw) (w_4 hw) (by decide) (by decide) (fun _ q => nomatch q) rfl (Nat.le_of_eq rfl) rfl (by decide) (by decide) (pc' := 269) rfl ?_
        intro w68 h68 q68 Kc68
        obtain ⟨rfl, rfl⟩ := q68
        rcases Bool.eq_false_or_eq_true (isW c2) with f2 | f2
        ·
          refine g_if_ne_t at_269 (by rw [if_pos f2]; decide) (pc' := 276) (by decide) rfl ?_
          refine g_iconst at_276 (v := 0) rfl (pc' := 277) rfl ?_
          refine g_istore at_277 (L' := #[.val (.int p0), .val (.int p1), .val (.int p2), .val (.int p3), .val (.int p4), .val (.int 3), .val (.ref ca), .val (.ref x), .val (.int 0), .val (.int 1), .val (.int 0), .unset, .unset, .unset, .unset, .unset]) rfl (pc' := 279) rfl ?_
          refine g_iload at_279 rfl (pc' := 281) rfl ?_
          refine g_iconst at_281 (v := 3) rfl (pc' := 282) rfl ?_
          refine g_icmp_le_t at_282 (by decide) (pc' := 299) (by decide) rfl ?_
          refine g_iconst at_299 (v := 0) rfl (pc' := 300) rfl ?_
          refine g_istore at_300 (L' := #[.val (.int p0), .val (.int p1), .val (.int p2), .val (.int p3), .val (.int p4), .val (.int 3), .val (.ref ca), .val (.ref x), .val (.int 0), .val (.int 1), .val (.int 0), .val (.int 0), .unset, .unset, .unset, .unset]) rfl (pc' := 302) rfl ?_
          refine g_iload at_302 rfl (pc' := 304) rfl ?_
          refine g_if_eq_t at_304 rfl (pc' := 313) (by decide) rfl ?_
          refine g_iload at_313 rfl (pc' := 315) rfl ?_
          refine g_if_eq_f at_315 (by decide) (pc' := 318) rfl ?_
          refine g_iconst at_318 (v := 1) rfl (pc' := 319) rfl ?_
          refine g_istore at_319 (L' := #[.val (.int p0), .val (.int p1), .val (.int p2), .val (.int p3), .val (.int p4), .val (.int 3), .val (.ref ca), .val (.ref x), .val (.int 0), .val (.int 1), .val (.int 0), .val (.int 0), .val (.int 1), .unset, .unset, .unset]) rfl (pc' := 321) rfl ?_
          refine g_goto at_321 (pc' := 350) (by decide) rfl ?_
          refine g_iload at_350 rfl (pc' := 352) rfl ?_
          refine g_if_eq_t at_352 rfl (pc' := 361) (by decide) rfl ?_
          refine g_iload at_361 rfl (pc' := 363) rfl ?_
          refine g_if_eq_t at_363 rfl (pc' := 372) (by decide) rfl ?_
          refine g_iload at_372 rfl (pc' := 374) rfl ?_
          refine g_if_eq_f at_374 (by decide) (pc' := 377) rfl ?_
          refine g_iconst at_377 (v := 2) rfl (pc' := 378) rfl ?_
          refine g_istore at_378 (L' := #[.val (.int p0), .val (.int p1), .val (.int p2), .val (.int p3), .val (.int p4), .val (.int 3), .val (.ref ca), .val (.ref x), .val (.int 0), .val (.int 1), .val (.int 0), .val (.int 0), .val (.int 1), .val (.int 2), .unset, .unset]) rfl (pc' := 380) rfl ?_
          refine g_goto at_380 (pc' := 398) (by decide) rfl ?_
          refine g_aload at_398 rfl rfl (pc' := 400) rfl ?_
          refine g_static (W := 0) (argsL := [(.ref x)]) (rest := []) at_400 (w_27 hw) (w_28 hw) (by decide) (lenOf pd_17 rfl) (c_trim hw x _ _ z sf _ hC hz hF rsf Ss (Nat.le_of_ble_eq_true rfl)) (w_30 hw) (w_29 hw) (by decide) (by decide) (fun _ q => nomatch q) rfl (Nat.le_of_eq rfl) rfl (by decide) (by decide) (pc' := 403) rfl ?_
          intro w69 h69 q69 Kc69
          obtain ⟨sr, tr, rfl, Sr⟩ := q69
          have e69 : trimL [c0, c1, c2] = [c1] := by simp [trimL, List.dropWhile, f0, f1, f2]
          rw [e69] at Sr
          refine g_astore at_403 rfl (L' := #[.val (.int p0), .val (.int p1), .val (.int p2), .val (.int p3), .val (.int p4), .val (.int 3), .val (.ref ca), .val (.ref x), .val (.int 0), .val (.int 1), .val (.int 0), .val (.int 0), .val (.int 1), .val (.int 2), .val (.ref sr), .unset]) rfl (pc' := 405) rfl ?_
          refine g_aload at_405 rfl rfl (pc' := 407) rfl ?_
          refine g_virt (W := 0) (argsL := []) (rest := []) at_407 (w_56 hw) (w_32 hw) (nf_self (w_34 hw)) (w_34 hw) (w_33 hw) (by decide) (lenOf pd_10 rfl) Sr.1 (c_lenN hw sr tr _ 1 z _ hC hz Sr rfl) (w_35 hw) (w_8 hw) (by decide) (by decide) (fun _ q => nomatch q) rfl (Nat.le_of_eq rfl) rfl (by decide) (by decide) (pc' := 410) rfl ?_
          intro w70 h70 q70 Kc70
          obtain ⟨rfl, rfl⟩ := q70
          refine g_iload at_410 rfl (pc' := 412) rfl ?_
          refine g_iload at_412 rfl (pc' := 414) rfl ?_
          refine g_isub at_414 (v := 1) rfl (pc' := 415) rfl ?_
          refine g_icmp_eq_t at_415 rfl (pc' := 420) (by decide) rfl ?_
          refine g_aload at_420 rfl rfl (pc' := 422) rfl ?_
          refine g_virt (W := 0) (argsL := []) (rest := []) at_422 (w_56 hw) (w_32 hw) (nf_self (w_34 hw)) (w_34 hw) (w_33 hw) (by decide) (lenOf pd_10 rfl) Sr.1 (c_lenN hw sr tr _ 1 z _ hC hz Sr rfl) (w_35 hw) (w_8 hw) (by decide) (by decide) (fun _ q => nomatch q) rfl (Nat.le_of_eq rfl) rfl (by decide) (by decide) (pc' := 425) rfl ?_
          intro w71 h71 q71 Kc71
          obtain ⟨rfl, rfl⟩ := q71
          refine g_istore at_425 (L' := #[.val (.int p0), .val (.int p1), .val (.int p2), .val (.int p3), .val (.int p4), .val (.int 3), .val (.ref ca), .val (.ref x), .val (.int 0), .val (.int 1), .val (.int 0), .val (.int 0), .val (.int 1), .val (.int 2), .val (.ref sr), .val (.int 1)]) rfl (pc' := 427) rfl ?_
          refine g_iload at_427 rfl (pc' := 429) rfl ?_
          refine g_if_le_f at_429 (by decide) (pc' := 432) rfl ?_
          refine g_aload at_432 rfl rfl (pc' := 434) rfl ?_
          refine g_iconst at_434 (v := 0) rfl (pc' := 435) rfl ?_
          refine g_virt (W := 0) (argsL := [(.int 0)]) (rest := []) at_435 (w_118 hw) (w_71 hw) (nf_self (w_73 hw)) (w_73 hw) (w_72 hw) (by decide) (lenOf pd_14 rfl) Sr.1 (c_charat hw sr tr _ 0 c1 z sf _ hC hz hF rsf Sr rfl) (w_74 hw) (w_8 hw) (by decide) (by decide) (fun _ q => nomatch q) rfl (Nat.le_of_eq rfl) rfl (by decide) (by decide) (pc' := 438) rfl ?_
          intro w72 h72 q72 Kc72
          obtain ⟨rfl, rfl⟩ := q72
          refine g_aload at_438 rfl rfl (pc' := 440) rfl ?_
          refine g_iload at_440 rfl (pc' := 442) rfl ?_
          refine g_caload at_442 (((((((A_ca_9.keep Kn52 nin0).keep Kn53 nin0).keep Kw54 (ninS (Nat.ne_of_lt (Nat.lt_of_lt_of_le ((A_ca_9.keep Kn52 nin0)).lt (Nat.le_of_eq g53.symm))) nin0)).keep Kw55 (ninS (Nat.ne_of_lt (Nat.lt_of_lt_of_le ((A_ca_9.keep Kn52 nin0)).lt (Nat.le_of_eq g53.symm))) nin0)).keep Kw56 (ninS (Nat.ne_of_lt (Nat.lt_of_lt_of_le ((A_ca_9.keep Kn52 nin0)).lt (Nat.le_of_eq g53.symm))) nin0)).keep Kc57 (ninS (Nat.ne_of_lt (Nat.lt_of_lt_of_le (A_ca_9).lt (Nat.le_of_eq g52.symm))) nin0)).keep Kc69 nin0) (by decide) (i := 1) rfl rfl (pc' := 443) rfl ?_
          refine g_icmp_ne_f at_443 rfl (pc' := 446) rfl ?_
          refine g_iload at_446 rfl (pc' := 448) rfl ?_
          refine g_iconst at_448 (v := 1) rfl (pc' := 449) rfl ?_
          refine g_icmp_le_t at_449 (by decide) (pc' := 468) (by decide) rfl ?_
          refine g_iload at_468 rfl (pc' := 470) rfl ?_
          refine g_iconst at_470 (v := 2) rfl (pc' := 471) rfl ?_
          refine g_icmp_le_t at_471 (by decide) (pc' := 490) (by decide) rfl ?_
          refine g_iload at_490 rfl (pc' := 492) rfl ?_
          refine g_iconst at_492 (v := 3) rfl (pc' := 493) rfl ?_
          refine g_icmp_le_t at_493 (by decide) (pc' := 512) (by decide) rfl ?_
          refine g_iconst at_512 (v := 1) rfl (pc' := 513) rfl ?_
          refine g_goto at_513 (pc' := 517) (by decide) rfl ?_
          exact g_ireturnN at_517 rfl (by simp) (z := 1) rfl rfl (by decide) (by decide)
        ·
          refine g_if_ne_f at_269 (if_neg (by rw [f2]; decide)) (pc' := 272) rfl ?_
          refine g_iconst at_272 (v := 1) rfl (pc' := 273) rfl ?_
          refine g_goto at_273 (pc' := 277) (by decide) rfl ?_
          refine g_istore at_277 (L' := #[.val (.int p0), .val (.int p1), .val (.int p2), .val (.int p3), .val (.int p4), .val (.int 3), .val (.ref ca), .val (.ref x), .val (.int 0), .val (.int 1), .val (.int 1), .unset, .unset, .unset, .unset, .unset]) rfl (pc' := 279) rfl ?_
          refine g_iload at_279 rfl (pc' := 281) rfl ?_
          refine g_iconst at_281 (v := 3) rfl (pc' := 282) rfl ?_
          refine g_icmp_le_t at_282 (by decide) (pc' := 299) (by decide) rfl ?_
          refine g_iconst at_299 (v := 0) rfl (pc' := 300) rfl ?_
          refine g_istore at_300 (L' := #[.val (.int p0), .val (.int p1), .val (.int p2), .val (.int p3), .val (.int p4), .val (.int 3), .val (.ref ca), .val (.ref x), .val (.int 0), .val (.int 1), .val (.int 1), .val (.int 0), .unset, .unset, .unset, .unset]) rfl (pc' := 302) rfl ?_
          refine g_iload at_302 rfl (pc' := 304) rfl ?_
          refine g_if_eq_t at_304 rfl (pc' := 313) (by decide) rfl ?_
          refine g_iload at_313 rfl (pc' := 315) rfl ?_
          refine g_if_eq_f at_315 (by decide) (pc' := 318) rfl ?_
          refine g_iconst at_318 (v := 1) rfl (pc' := 319) rfl ?_
          refine g_istore at_319 (L' := #[.val (.int p0), .val (.int p1), .val (.int p2), .val (.int p3), .val (.int p4), .val (.int 3), .val (.ref ca), .val (.ref x), .val (.int 0), .val (.int 1), .val (.int 1), .val (.int 0), .val (.int 1), .unset, .unset, .unset]) rfl (pc' := 321) rfl ?_
          refine g_goto at_321 (pc' := 350) (by decide) rfl ?_
          refine g_iload at_350 rfl (pc' := 352) rfl ?_
          refine g_if_eq_t at_352 rfl (pc' := 361) (by decide) rfl ?_
          refine g_iload at_361 rfl (pc' := 363) rfl ?_
          refine g_if_eq_f at_363 (by decide) (pc' := 366) rfl ?_
          refine g_iconst at_366 (v := 3) rfl (pc' := 367) rfl ?_
          refine g_istore at_367 (L' := #[.val (.int p0), .val (.int p1), .val (.int p2), .val (.int p3), .val (.int p4), .val (.int 3), .val (.ref ca), .val (.ref x), .val (.int 0), .val (.int 1), .val (.int 1), .val (.int 0), .val (.int 1), .val (.int 3), .unset, .unset]) rfl (pc' := 369) rfl ?_
          refine g_goto at_369 (pc' := 398) (by decide) rfl ?_
          refine g_aload at_398 rfl rfl (pc' := 400) rfl ?_
          refine g_static (W := 0) (argsL := [(.ref x)]) (rest := []) at_400 (w_27 hw) (w_28 hw) (by decide) (lenOf pd_17 rfl) (c_trim hw x _ _ z sf _ hC hz hF rsf Ss (Nat.le_of_ble_eq_true rfl)) (w_30 hw) (w_29 hw) (by decide) (by decide) (fun _ q => nomatch q) rfl (Nat.le_of_eq rfl) rfl (by decide) (by decide) (pc' := 403) rfl ?_
          intro w73 h73 q73 Kc73
          obtain ⟨sr, tr, rfl, Sr⟩ := q73
          have e73 : trimL [c0, c1, c2] = [c1, c2] := by simp [trimL, List.dropWhile, f0, f1, f2]
          rw [e73] at Sr
          refine g_astore at_403 rfl (L' := #[.val (.int p0), .val (.int p1), .val (.int p2), .val (.int p3), .val (.int p4), .val (.int 3), .val (.ref ca), .val (.ref x), .val (.int 0), .val (.int 1), .val (.int 1), .val (.int 0), .val (.int 1), .val (.int 3), .val (.ref sr), .unset]) rfl (pc' := 405) rfl ?_
          refine g_aload at_405 rfl rfl (pc' := 407) rfl ?_
          refine g_virt (W := 0) (argsL := []) (rest := []) at_407 (w_56 hw) (w_32 hw) (nf_self (w_34 hw)) (w_34 hw) (w_33 hw) (by decide) (lenOf pd_10 rfl) Sr.1 (c_lenN hw sr tr _ 2 z _ hC hz Sr rfl) (w_35 hw) (w_8 hw) (by decide) (by decide) (fun _ q => nomatch q) rfl (Nat.le_of_eq rfl) rfl (by decide) (by decide) (pc' := 410) rfl ?_
          intro w74 h74 q74 Kc74
          obtain ⟨rfl, rfl⟩ := q74
          refine g_iload at_410 rfl (pc' := 412) rfl ?_
          refine g_iload at_412 rfl (pc' := 414) rfl ?_
          refine g_isub at_414 (v := 2) rfl (pc' := 415) rfl ?_
          refine g_icmp_eq_t at_415 rfl (pc' := 420) (by decide) rfl ?_
          refine g_aload at_420 rfl rfl (pc' := 422) rfl ?_
          refine g_virt (W := 0) (argsL := []) (rest := []) at_422 (w_56 hw) (w_32 hw) (nf_self (w_34 hw)) (w_34 hw) (w_33 hw) (by decide) (lenOf pd_10 rfl) Sr.1 (c_lenN hw sr tr _ 2 z _ hC hz Sr rfl) (w_35 hw) (w_8 hw) (by decide) (by decide) (fun _ q => nomatch q) rfl (Nat.le_of_eq rfl) rfl (by decide) (by decide) (pc' := 425) rfl ?_
          intro w75 h75 q75 Kc75
          obtain ⟨rfl, rfl⟩ := q75
          refine g_istore at_425 (L' := #[.val (.int p0), .val (.int p1), .val (.int p2), .val (.int p3), .val (.int p4), .val (.int 3), .val (.ref ca), .val (.ref x), .val (.int 0), .val (.int 1), .val (.int 1), .val (.int 0), .val (.int 1), .val (.int 3), .val (.ref sr), .val (.int 2)]) rfl (pc' := 427) rfl ?_
          refine g_iload at_427 rfl (pc' := 429) rfl ?_
          refine g_if_le_f at_429 (by decide) (pc' := 432) rfl ?_
          refine g_aload at_432 rfl rfl (pc' := 434) rfl ?_
          refine g_iconst at_434 (v := 0) rfl (pc' := 435) rfl ?_
          refine g_virt (W := 0) (argsL := [(.int 0)]) (rest := []) at_435 (w_118 hw) (w_71 hw) (nf_self (w_73 hw)) (w_73 hw) (w_72 hw) (by decide) (lenOf pd_14 rfl) Sr.1 (c_charat hw sr tr _ 0 c1 z sf _ hC hz hF rsf Sr rfl) (w_74 hw) (w_8 hw) (by decide) (by decide) (fun _ q => nomatch q) rfl (Nat.le_of_eq rfl) rfl (by decide) (by decide) (pc' := 438) rfl ?_
          intro w76 h76 q76 Kc76
          obtain ⟨rfl, rfl⟩ := q76
          refine g_aload at_438 rfl rfl (pc' := 440) rfl ?_
          refine g_iload at_440 rfl (pc' := 442) rfl ?_
          refine g_caload at_442 (((((((A_ca_9.keep Kn52 nin0).keep Kn53 nin0).keep Kw54 (ninS (Nat.ne_of_lt (Nat.lt_of_lt_of_le ((A_ca_9.keep Kn52 nin0)).lt (Nat.le_of_eq g53.symm))) nin0)).keep Kw55 (ninS (Nat.ne_of_lt (Nat.lt_of_lt_of_le ((A_ca_9.keep Kn52 nin0)).lt (Nat.le_of_eq g53.symm))) nin0)).keep Kw56 (ninS (Nat.ne_of_lt (Nat.lt_of_lt_of_le ((A_ca_9.keep Kn52 nin0)).lt (Nat.le_of_eq g53.symm))) nin0)).keep Kc57 (ninS (Nat.ne_of_lt (Nat.lt_of_lt_of_le (A_ca_9).lt (Nat.le_of_eq g52.symm))) nin0)).keep Kc73 nin0) (by decide) (i := 1) rfl rfl (pc' := 443) rfl ?_
          refine g_icmp_ne_f at_443 rfl (pc' := 446) rfl ?_
          refine g_iload at_446 rfl (pc' := 448) rfl ?_
          refine g_iconst at_448 (v := 1) rfl (pc' := 449) rfl ?_
          refine g_icmp_le_f at_449 (by decide) (pc' := 452) rfl ?_
          refine g_aload at_452 rfl rfl (pc' := 454) rfl ?_
          refine g_iconst at_454 (v := 1) rfl (pc' := 455) rfl ?_
          refine g_virt (W := 0) (argsL := [(.int 1)]) (rest := []) at_455 (w_118 hw) (w_71 hw) (nf_self (w_73 hw)) (w_73 hw) (w_72 hw) (by decide) (lenOf pd_14 rfl) Sr.1 (c_charat hw sr tr _ 1 c2 z sf _ hC hz hF rsf Sr rfl) (w_74 hw) (w_8 hw) (by decide) (by decide) (fun _ q => nomatch q) rfl (Nat.le_of_eq rfl) rfl (by decide) (by decide) (pc' := 458) rfl ?_
          intro w77 h77 q77 Kc77
          obtain ⟨rfl, rfl⟩ := q77
          refine g_aload at_458 rfl rfl (pc' := 460) rfl ?_
          refine g_iload at_460 rfl (pc' := 462) rfl ?_
          refine g_iconst at_462 (v := 1) rfl (pc' := 463) rfl ?_
          refine g_iadd at_463 (v := 2) rfl (pc' := 464) rfl ?_
          refine g_caload at_464 (((((((A_ca_9.keep Kn52 nin0).keep Kn53 nin0).keep Kw54 (ninS (Nat.ne_of_lt (Nat.lt_of_lt_of_le ((A_ca_9.keep Kn52 nin0)).lt (Nat.le_of_eq g53.symm))) nin0)).keep Kw55 (ninS (Nat.ne_of_lt (Nat.lt_of_lt_of_le ((A_ca_9.keep Kn52 nin0)).lt (Nat.le_of_eq g53.symm))) nin0)).keep Kw56 (ninS (Nat.ne_of_lt (Nat.lt_of_lt_of_le ((A_ca_9.keep Kn52 nin0)).lt (Nat.le_of_eq g53.symm))) nin0)).keep Kc57 (ninS (Nat.ne_of_lt (Nat.lt_of_lt_of_le (A_ca_9).lt (Nat.le_of_eq g52.symm))) nin0)).keep Kc73 nin0) (by decide) (i := 2) rfl rfl (pc' := 465) rfl ?_
          refine g_icmp_ne_f at_465 rfl (pc' := 468) rfl ?_
          refine g_iload at_468 rfl (pc' := 470) rfl ?_
          refine g_iconst at_470 (v := 2) rfl (pc' := 471) rfl ?_
          refine g_icmp_le_t at_471 (by decide) (pc' := 490) (by decide) rfl ?_
          refine g_iload at_490 rfl (pc' := 492) rfl ?_
          refine g_iconst at_492 (v := 3) rfl (pc' := 493) rfl ?_
          refine g_icmp_le_t at_493 (by decide) (pc' := 512) (by decide) rfl ?_
          refine g_iconst at_512 (v := 1) rfl (pc' := 513) rfl ?_
          refine g_goto at_513 (pc' := 517) (by decide) rfl ?_
          exact g_ireturnN at_517 rfl (by simp) (z := 1) rfl rfl (by decide) (by decide)
    ·
      refine g_if_ne_f at_223 (if_neg (by rw [f0]; decide)) (pc' := 226) rfl ?_
      refine g_iconst at_226 (v := 1) rfl (pc' := 227) rfl ?_
      refine g_goto at_227 (pc' := 231) (by decide) rfl ?_
      refine g_istore at_231 (L' := #[.val (.int p0), .val (.int p1), .val (.int p2), .val (.int p3), .val (.int p4), .val (.int 3), .val (.ref ca), .val (.ref x), .val (.int 1), .unset, .unset, .unset, .unset, .unset, .unset, .unset]) rfl (pc' := 233) rfl ?_
      refine g_iload at_233 rfl (pc' := 235) rfl ?_
      refine g_iconst at_235 (v := 1) rfl (pc' := 236) rfl ?_
      refine g_icmp_le_f at_236 (by decide) (pc' := 239) rfl ?_
      refine g_aload at_239 rfl rfl (pc' := 241) rfl ?_
      refine g_iconst at_241 (v := 1) rfl (pc' := 242) rfl ?_
      refine g_caload at_242 ((((((A_ca_9.keep Kn52 nin0).keep Kn53 nin0).keep Kw54 (ninS (Nat.ne_of_lt (Nat.lt_of_lt_of_le ((A_ca_9.keep Kn52 nin0)).lt (Nat.le_of_eq g53.symm))) nin0)).keep Kw55 (ninS (Nat.ne_of_lt (Nat.lt_of_lt_of_le ((A_ca_9.keep Kn52 nin0)).lt (Nat.le_of_eq g53.symm))) nin0)).keep Kw56 (ninS (Nat.ne_of_lt (Nat.lt_of_lt_of_le ((A_ca_9.keep Kn52 nin0)).lt (Nat.le_of_eq g53.symm))) nin0)).keep Kc57 (ninS (Nat.ne_of_lt (Nat.lt_of_lt_of_le (A_ca_9).lt (Nat.le_of_eq g52.symm))) nin0)) (by decide) (i := 1) rfl rfl (pc' := 243) rfl ?_
      refine g_static (W := 0) (argsL := [(.int c1)]) (rest := []) at_243 (w_67 hw) (w_68 hw) (by decide) (lenOf pd_15 rfl) (c_ws hw c1 _) (w_69 hw) (w_4 hw) (by decide) (by decide) (fun _ q => nomatch q) rfl (Nat.le_of_eq rfl) rfl (by decide) (by decide) (pc' := 246) rfl ?_
      intro w78 h78 q78 Kc78
      obtain ⟨rfl, rfl⟩ := q78
      rcases Bool.eq_false_or_eq_true (isW c1) with f1 | f1
      ·
        refine g_if_ne_t at_246 (by rw [if_pos f1]; decide) (pc' := 253) (by decide) rfl ?_
        refine g_iconst at_253 (v := 0) rfl (pc' := 254) rfl ?_
        refine g_istore at_254 (L' := #[.val (.int p0), .val (.int p1), .val (.int p2), .val (.int p3), .val (.int p4), .val (.int 3), .val (.ref ca), .val (.ref x), .val (.int 1), .val (.int 0), .unset, .unset, .unset, .unset, .unset, .unset]) rfl (pc' := 256) rfl ?_
        refine g_iload at_256 rfl (pc' := 258) rfl ?_
        refine g_iconst at_258 (v := 2) rfl (pc' := 259) rfl ?_
        refine g_icmp_le_f at_259 (by decide) (pc' := 262) rfl ?_
        refine g_aload at_262 rfl rfl (pc' := 264) rfl ?_
        refine g_iconst at_264 (v := 2) rfl (pc' := 265) rfl ?_
        refine g_caload at_265 ((((((A_ca_9.keep Kn52 nin0).keep Kn53 nin0).keep Kw54 (ninS (Nat.ne_of_lt (Nat.lt_of_lt_of_le ((A_ca_9.keep Kn52 nin0)).lt (Nat.le_of_eq g53.symm))) nin0)).keep Kw55 (ninS (Nat.ne_of_lt (Nat.lt_of_lt_of_le ((A_ca_9.keep Kn52 nin0)).lt (Nat.le_of_eq g53.symm))) nin0)).keep Kw56 (ninS (Nat.ne_of_lt (Nat.lt_of_lt_of_le ((A_ca_9.keep Kn52 nin0)).lt (Nat.le_of_eq g53.symm))) nin0)).keep Kc57 (ninS (Nat.ne_of_lt (Nat.lt_of_lt_of_le (A_ca_9).lt (Nat.le_of_eq g52.symm))) nin0)) (by decide) (i := 2) rfl rfl (pc' := 266) rfl ?_
        refine g_static (W := 0) (argsL := [(.int c2)]) (rest := []) at_266 (w_67 hw) (w_68 hw) (by decide) (lenOf pd_15 rfl) (c_ws hw c2 _) (w_69 hw) (w_4 hw) (by decide) (by decide) (fun _ q => nomatch q) rfl (Nat.le_of_eq rfl) rfl (by decide) (by decide) (pc' := 269) rfl ?_
        intro w79 h79 q79 Kc79
        obtain ⟨rfl, rfl⟩ := q79
        rcases Bool.eq_false_or_eq_true (isW c2) with f2 | f2
        ·
          refine g_if_ne_t at_269 (by rw [if_pos f2]; decide) (pc' := 276) (by decide) rfl ?_
          refine g_iconst at_276 (v := 0) rfl (pc' := 277) rfl ?_
          refine g_istore at_277 (L' := #[.val (.int p0), .val (.int p1), .val (.int p2), .val (.int p3), .val (.int p4), .val (.int 3), .val (.ref ca), .val (.ref x), .val (.int 1), .val (.int 0), .val (.int 0), .unset, .unset, .unset, .unset, .unset]) rfl (pc' := 279) rfl ?_
          refine g_iload at_279 rfl (pc' := 281) rfl ?_
          refine g_iconst at_281 (v := 3) rfl (pc' := 282) rfl ?_
          refine g_icmp_le_t at_282 (by decide) (pc' := 299) (by decide) rfl ?_
          refine g_iconst at_299 (v := 0) rfl (pc' := 300) rfl ?_
          refine g_istore at_300 (L' := #[.val (.int p0), .val (.int p1), .val (.int p2), .val (.int p3), .val (.int p4), .val (.int 3), .val (.ref ca), .val (.ref x), .val (.int 1), .val (.int 0), .val (.int 0), .val (.int 0), .unset, .unset, .unset, .unset]) rfl (pc' := 302) rfl ?_
          refine g_iload at_302 rfl (pc' := 304) rfl ?_
          refine g_if_eq_f at_304 (by decide) (pc' := 307) rfl ?_
          refine g_iconst at_307 (v := 0) rfl (pc' := 308) rfl ?_
          refine g_istore at_308 (L' := #[.val (.int p0), .val (.int p1), .val (.int p2), .val (.int p3), .val (.int p4), .val (.int 3), .val (.ref ca), .val (.ref x), .val (.int 1), .val (.int 0), .val (.int 0), .val (.int 0), .val (.int 0), .unset, .unset, .unset]) rfl (pc' := 310) rfl ?_
          refine g_goto at_310 (pc' := 350) (by decide) rfl ?_
          refine g_iload at_350 rfl (pc' := 352) rfl ?_
          refine g_if_eq_t at_352 rfl (pc' := 361) (by decide) rfl ?_
          refine g_iload at_361 rfl (pc' := 363) rfl ?_
          refine g_if_eq_t at_363 rfl (pc' := 372) (by decide) rfl ?_
          refine g_iload at_372 rfl (pc' := 374) rfl ?_
          refine g_if_eq_t at_374 rfl (pc' := 383) (by decide) rfl ?_
          refine g_iload at_383 rfl (pc' := 385) rfl ?_
          refine g_if_eq_f at_385 (by decide) (pc' := 388) rfl ?_
          refine g_iconst at_388 (v := 1) rfl (pc' := 389) rfl ?_
          refine g_istore at_389 (L' := #[.val (.int p0), .val (.int p1), .val (.int p2), .val (.int p3), .val (.int p4), .val (.int 3), .val (.ref ca), .val (.ref x), .val (.int 1), .val (.int 0), .val (.int 0), .val (.int 0), .val (.int 0), .val (.int 1), .unset, .unset]) rfl (pc' := 391) rfl ?_
          refine g_goto at_391 (pc' := 398) (by decide) rfl ?_
          refine g_aload at_398 rfl rfl (pc' := 400) rfl ?_
          refine g_static (W := 0) (argsL := [(.ref x)]) (rest := []) at_400 (w_27 hw) (w_28 hw) (by decide) (lenOf pd_17 rfl) (c_trim hw x _ _ z sf _ hC hz hF rsf Ss (Nat.le_of_ble_eq_true rfl)) (w_30 hw) (w_29 hw) (by decide) (by decide) (fun _ q => nomatch q) rfl (Nat.le_of_eq rfl) rfl (by decide) (by decide) (pc' := 403) rfl ?_
          intro w80 h80 q80 Kc80
          obtain ⟨sr, tr, rfl, Sr⟩ := q80
          have e80 : trimL [c0, c1, c2] = [c0] := by simp [trimL, List.dropWhile, f0, f1, f2]
          rw [e80] at Sr
          refine g_astore at_403 rfl (L' := #[.val (.int p0), .val (.int p1), .val (.int p2), .val (.int p3), .val (.int p4), .val (.int 3), .val (.ref ca), .val (.ref x), .val (.int 1), .val (.int 0), .val (.int 0), .val (.int 0), .val (.int 0), .val (.int 1), .val (.ref sr), .unset]) rfl (pc' := 405) rfl ?_
          refine g_aload at_405 rfl rfl (pc' := 407) rfl ?_
          refine g_virt (W := 0) (argsL := []) (rest := []) at_407 (w_56 hw) (w_32 hw) (nf_self (w_34 hw)) (w_34 hw) (w_33 hw) (by decide) (lenOf pd_10 rfl) Sr.1 (c_lenN hw sr tr _ 1 z _ hC hz Sr rfl) (w_35 hw) (w_8 hw) (by decide) (by decide) (fun _ q => nomatch q) rfl (Nat.le_of_eq rfl) rfl (by decide) (by decide) (pc' := 410) rfl ?_
          intro w81 h81 q81 Kc81
          obtain ⟨rfl, rfl⟩ := q81
          refine g_iload at_410 rfl (pc' := 412) rfl ?_
          refine g_iload at_412 rfl (pc' := 414) rfl ?_
          refine g_isub at_414 (v := 1) rfl (pc' := 415) rfl ?_
          refine g_icmp_eq_t at_415 rfl (pc' := 420) (by decide) rfl ?_
          refine g_aload at_420 rfl rfl (pc' := 422) rfl ?_
          refine g_virt (W := 0) (argsL := []) (rest := []) at_422 (w_56 hw) (w_32 hw) (nf_self (w_34 hw)) (w_34 hw) (w_33 hw) (by decide) (lenOf pd_10 rfl) Sr.1 (c_lenN hw sr tr _ 1 z _ hC hz Sr rfl) (w_35 hw) (w_8 hw) (by decide) (by decide) (fun _ q => nomatch q) rfl (Nat.le_of_eq rfl) rfl (by decide) (by decide) (pc' := 425) rfl ?_
          intro w82 h82 q82 Kc82
          obtain ⟨rfl, rfl⟩ := q82
          refine g_istore at_425 (L' := #[.val (.int p0), .val (.int p1), .val (.int p2), .val (.int p3), .val (.int p4), .val (.int 3), .val (.ref ca), .val (.ref x), .val (.int 1), .val (.int 0), .val (.int 0), .val (.int 0), .val (.int 0), .val (.int 1), .val (.ref sr), .val (.int 1)]) rfl (pc' := 427) rfl ?_
          refine g_iload at_427 rfl (pc' := 429) rfl ?_
          refine g_if_le_f at_429 (by decide) (pc' := 432) rfl ?_
          refine g_aload at_432 rfl rfl (pc' := 434) rfl ?_
          refine g_iconst at_434 (v := 0) rfl (pc' := 435) rfl ?_
          refine g_virt (W := 0) (argsL := [(.int 0)]) (rest := []) at_435 (w_118 hw) (w_71 hw) (nf_self (w_73 hw)) (w_73 hw) (w_72 hw) (by decide) (lenOf pd_14 rfl) Sr.1 (c_charat hw sr tr _ 0 c0 z sf _ hC hz hF rsf Sr rfl) (w_74 hw) (w_8 hw) (by decide) (by decide) (fun _ q => nomatch q) rfl (Nat.le_of_eq rfl) rfl (by decide) (by decide) (pc' := 438) rfl ?_
          intro w83 h83 q83 Kc83
          obtain ⟨rfl, rfl⟩ := q83
          refine g_aload at_438 rfl rfl (pc' := 440) rfl ?_
          refine g_iload at_440 rfl (pc' := 442) rfl ?_
          refine g_caload at_442 (((((((A_ca_9.keep Kn52 nin0).keep Kn53 nin0).keep Kw54 (ninS (Nat.ne_of_lt (Nat.lt_of_lt_of_le ((A_ca_9.keep Kn52 nin0)).lt (Nat.le_of_eq g53.symm))) nin0)).keep Kw55 (ninS (Nat.ne_of_lt (Nat.lt_of_lt_of_le ((A_ca_9.keep Kn52 nin0)).lt (Nat.le_of_eq g53.symm))) nin0)).keep Kw56 (ninS (Nat.ne_of_lt (Nat.lt_of_lt_of_le ((A_ca_9.keep Kn52 nin0)).lt (Nat.le_of_eq g53.symm))) nin0)).keep Kc57 (ninS (Nat.ne_of_lt (Nat.lt_of_lt_of_le (A_ca_9).lt (Nat.le_of_eq g52.symm))) nin0)).keep Kc80 nin0) (by decide) (i := 0) rfl rfl (pc' := 443) rfl ?_
          refine g_icmp_ne_f at_443 rfl (pc' := 446) rfl ?_
          refine g_iload at_446 rfl (pc' := 448) rfl ?_
          refine g_iconst at_448 (v := 1) rfl (pc' := 449) rfl ?_
          refine g_icmp_le_t at_449 (by decide) (pc' := 468) (by decide) rfl ?_
          refine g_iload at_468 rfl (pc' := 470) rfl ?_
          refine g_iconst at_470 (v := 2) rfl (pc' := 471) rfl ?_
          refine g_icmp_le_t at_471 (by decide) (pc' := 490) (by decide) rfl ?_
          refine g_iload at_490 rfl (pc' := 492) rfl ?_
          refine g_iconst at_492 (v := 3) rfl (pc' := 493) rfl ?_
          refine g_icmp_le_t at_493 (by decide) (pc' := 512) (by decide) rfl ?_
          refine g_iconst at_512 (v := 1) rfl (pc' := 513) rfl ?_
          refine g_goto at_513 (pc' := 517) (by decide) rfl ?_
          exact g_ireturnN at_517 rfl (by simp) (z := 1) rfl rfl (by decide) (by decide)
        ·
          refine g_if_ne_f at_269 (if_neg (by rw [f2]; decide)) (pc' := 272) rfl ?_
          refine g_iconst at_272 (v := 1) rfl (pc' := 273) rfl ?_
          refine g_goto at_273 (pc' := 277) (by decide) rfl ?_
          refine g_istore at_277 (L' := #[.val (.int p0), .val (.int p1), .val (.int p2), .val (.int p3), .val (.int p4), .val (.int 3), .val (.ref ca), .val (.ref x), .val (.int 1), .val (.int 0), .val (.int 1), .unset, .unset, .unset, .unset, .unset]) rfl (pc' := 279) rfl ?_
          refine g_iload at_279 rfl (pc' := 281) rfl ?_
          refine g_iconst at_281 (v := 3) rfl (pc' := 282) rfl ?_
          refine g_icmp_le_t at_282 (by decide) (pc' := 299) (by decide) rfl ?_
          refine g_iconst at_299 (v := 0) rfl (pc' := 300) rfl ?_
          refine g_istore at_300 (L' := #[.val (.int p0), .val (.int p1), .val (.int p2), .val (.int p3), .val (.int p4), .val (.int 3), .val (.ref ca), .val (.ref x), .val (.int 1), .val (.int 0), .val (.int 1), .val (.int 0), .unset, .unset, .unset, .unset]) rfl (pc' := 302) rfl ?_
          refine g_iload at_302 rfl (pc' := 304) rfl ?_
          refine g_if_eq_f at_304 (by decide) (pc' := 307) rfl ?_
          refine g_iconst at_307 (v := 0) rfl (pc' := 308) rfl ?_
          refine g_istore at_308 (L' := #[.val (.int p0), .val (.int p1), .val (.int p2), .val (.int p3), .val (.int p4), .val (.int 3), .val (.ref ca), .val (.ref x), .val (.int 1), .val (.int 0), .val (.int 1), .val (.int 0), .val (.int 0), .unset, .unset, .unset]) rfl (pc' := 310) rfl ?_
          refine g_goto at_310 (pc' := 350) (by decide) rfl ?_
          refine g_iload at_350 rfl (pc' := 352) rfl ?_
          refine g_if_eq_t at_352 rfl (pc' := 361) (by decide) rfl ?_
          refine g_iload at_361 rfl (pc' := 363) rfl ?_
          refine g_if_eq_f at_363 (by decide) (pc' := 366) rfl ?_
          refine g_iconst at_366 (v := 3) rfl (pc' := 367) rfl ?_
          refine g_istore at_367 (L' := #[.val (.int p0), .val (.int p1), .val (.int p2), .val (.int p3), .val (.int p4), .val (.int 3), .val (.ref ca), .val (.ref x), .val (.int 1), .val (.int 0), .val (.int 1), .val (.int 0), .val (.int 0), .val (.int 3), .unset, .unset]) rfl (pc' := 369) rfl ?_
          refine g_goto at_369 (pc' := 398) (by decide) rfl ?_
          refine g_aload at_398 rfl rfl (pc' := 400) rfl ?_
          refine g_static (W := 0) (argsL := [(.ref x)]) (rest := []) at_400 (w_27 hw) (w_28 hw) (by decide) (lenOf pd_17 rfl) (c_trim hw x _ _ z sf _ hC hz hF rsf Ss (Nat.le_of_ble_eq_true rfl)) (w_30 hw) (w_29 hw) (by decide) (by decide) (fun _ q => nomatch q) rfl (Nat.le_of_eq rfl) rfl (by decide) (by decide) (pc' := 403) rfl ?_
          intro w84 h84 q84 Kc84
          obtain ⟨sr, tr, rfl, Sr⟩ := q84
          have e84 : trimL [c0, c1, c2] = [c0, c1, c2] := by simp [trimL, List.dropWhile, f0, f1, f2]
          rw [e84] at Sr
          refine g_astore at_403 rfl (L' := #[.val (.int p0), .val (.int p1), .val (.int p2), .val (.int p3), .val (.int p4), .val (.int 3), .val (.ref ca), .val (.ref x), .val (.int 1), .val (.int 0), .val (.int 1), .val (.int 0), .val (.int 0), .val (.int 3), .val (.ref sr), .unset]) rfl (pc' := 405) rfl ?_
          refine g_aload at_405 rfl rfl (pc' := 407) rfl ?_
          refine g_virt (W := 0) (argsL := []) (rest := []) at_407 (w_56 hw) (w_32 hw) (nf_self (w_34 hw)) (w_34 hw) (w_33 hw) (by decide) (lenOf pd_10 rfl) Sr.1 (c_lenN hw sr tr _ 3 z _ hC hz Sr rfl) (w_35 hw) (w_8 hw) (by decide) (by decide) (fun _ q => nomatch q) rfl (Nat.le_of_eq rfl) rfl (by decide) (by decide) (pc' := 410) rfl ?_
          intro w85 h85 q85 Kc85
          obtain ⟨rfl, rfl⟩ := q85
          refine g_iload at_410 rfl (pc' := 412) rfl ?_
          refine g_iload at_412 rfl (pc' := 414) rfl ?_
          refine g_isub at_414 (v := 3) rfl (pc' := 415) rfl ?_
          refine g_icmp_eq_t at_415 rfl (pc' := 420) (by decide) rfl ?_
          refine g_aload at_420 rfl rfl (pc' := 422) rfl ?_
          refine g_virt (W := 0) (argsL := []) (rest := []) at_422 (w_56 hw) (w_32 hw) (nf_self (w_34 hw)) (w_34 hw) (w_33 hw) (by decide) (lenOf pd_10 rfl) Sr.1 (c_lenN hw sr tr _ 3 z _ hC hz Sr rfl) (w_35 hw) (w_8 hw) (by decide) (by decide) (fun _ q => nomatch q) rfl (Nat.le_of_eq rfl) rfl (by decide) (by decide) (pc' := 425) rfl ?_
          intro w86 h86 q86 Kc86
          obtain ⟨rfl, rfl⟩ := q86
          refine g_istore at_425 (L' := #[.val (.int p0), .val (.int p1), .val (.int p2), .val (.int p3), .val (.int p4), .val (.int 3), .val (.ref ca), .val (.ref x), .val (.int 1), .val (.int 0), .val (.int 1), .val (.int 0), .val (.int 0), .val (.int 3), .val (.ref sr), .val (.int 3)]) rfl (pc' := 427) rfl ?_
          refine g_iload at_427 rfl (pc' := 429) rfl ?_
          refine g_if_le_f at_429 (by decide) (pc' := 432) rfl ?_
          refine g_aload at_432 rfl rfl (pc' := 434) rfl ?_
          refine g_iconst at_434 (v := 0) rfl (pc' := 435) rfl ?_
          refine g_virt (W := 0) (argsL := [(.int 0)]) (rest := []) at_435 (w_118 hw) (w_71 hw) (nf_self (w_73 hw)) (w_73 hw) (w_72 hw) (by decide) (lenOf pd_14 rfl) Sr.1 (c_charat hw sr tr _ 0 c0 z sf _ hC hz hF rsf Sr rfl) (w_74 hw) (w_8 hw) (by decide) (by decide) (fun _ q => nomatch q) rfl (Nat.le_of_eq rfl) rfl (by decide) (by decide) (pc' := 438) rfl ?_
          intro w87 h87 q87 Kc87
          obtain ⟨rfl, rfl⟩ := q87
          refine g_aload at_438 rfl rfl (pc' := 440) rfl ?_
          refine g_iload at_440 rfl (pc' := 442) rfl ?_
          refine g_caload at_442 (((((((A_ca_9.keep Kn52 nin0).keep Kn53 nin0).keep Kw54 (ninS (Nat.ne_of_lt (Nat.lt_of_lt_of_le ((A_ca_9.keep Kn52 nin0)).lt (Nat.le_of_eq g53.symm))) nin0)).keep Kw55 (ninS (Nat.ne_of_lt (Nat.lt_of_lt_of_le ((A_ca_9.keep Kn52 nin0)).lt (Nat.le_of_eq g53.symm))) nin0)).keep Kw56 (ninS (Nat.ne_of_lt (Nat.lt_of_lt_of_le ((A_ca_9.keep Kn52 nin0)).lt (Nat.le_of_eq g53.symm))) nin0)).keep Kc57 (ninS (Nat.ne_of_lt (Nat.lt_of_lt_of_le (A_ca_9).lt (Nat.le_of_eq g52.symm))) nin0)).keep Kc84 nin0) (by decide) (i := 0) rfl rfl (pc' := 443) rfl ?_
          refine g_icmp_ne_f at_443 rfl (pc' := 446) rfl ?_
          refine g_iload at_446 rfl (pc' := 448) rfl ?_
          refine g_iconst at_448 (v := 1) rfl (pc' := 449) rfl ?_
          refine g_icmp_le_f at_449 (by decide) (pc' := 452) rfl ?_
          refine g_aload at_452 rfl rfl (pc' := 454) rfl ?_
          refine g_iconst at_454 (v := 1) rfl (pc' := 455) rfl ?_
          refine g_virt (W := 0) (argsL := [(.int 1)]) (rest := []) at_455 (w_118 hw) (w_71 hw) (nf_self (w_73 hw)) (w_73 hw) (w_72 hw) (by decide) (lenOf pd_14 rfl) Sr.1 (c_charat hw sr tr _ 1 c1 z sf _ hC hz hF rsf Sr rfl) (w_74 hw) (w_8 hw) (by decide) (by decide) (fun _ q => nomatch q) rfl (Nat.le_of_eq rfl) rfl (by decide) (by decide) (pc' := 458) rfl ?_
          intro w88 h88 q88 Kc88
          obtain ⟨rfl, rfl⟩ := q88
          refine g_aload at_458 rfl rfl (pc' := 460) rfl ?_
          refine g_iload at_460 rfl (pc' := 462) rfl ?_
          refine g_iconst at_462 (v := 1) rfl (pc' := 463) rfl ?_
          refine g_iadd at_463 (v := 1) rfl (pc' := 464) rfl ?_
          refine g_caload at_464 (((((((A_ca_9.keep Kn52 nin0).keep Kn53 nin0).keep Kw54 (ninS (Nat.ne_of_lt (Nat.lt_of_lt_of_le ((A_ca_9.keep Kn52 nin0)).lt (Nat.le_of_eq g53.symm))) nin0)).keep Kw55 (ninS (Nat.ne_of_lt (Nat.lt_of_lt_of_le ((A_ca_9.keep Kn52 nin0)).lt (Nat.le_of_eq g53.symm))) nin0)).keep Kw56 (ninS (Nat.ne_of_lt (Nat.lt_of_lt_of_le ((A_ca_9.keep Kn52 nin0)).lt (Nat.le_of_eq g53.symm))) nin0)).keep Kc57 (ninS (Nat.ne_of_lt (Nat.lt_of_lt_of_le (A_ca_9).lt (Nat.le_of_eq g52.symm))) nin0)).keep Kc84 nin0) (by decide) (i := 1) rfl rfl (pc' := 465) rfl ?_
          refine g_icmp_ne_f at_465 rfl (pc' := 468) rfl ?_
          refine g_iload at_468 rfl (pc' := 470) rfl ?_
          refine g_iconst at_470 (v := 2) rfl (pc' := 471) rfl ?_
          refine g_icmp_le_f at_471 (by decide) (pc' := 474) rfl ?_
          refine g_aload at_474 rfl rfl (pc' := 476) rfl ?_
          refine g_iconst at_476 (v := 2) rfl (pc' := 477) rfl ?_
          refine g_virt (W := 0) (argsL := [(.int 2)]) (rest := []) at_477 (w_118 hw) (w_71 hw) (nf_self (w_73 hw)) (w_73 hw) (w_72 hw) (by decide) (lenOf pd_14 rfl) Sr.1 (c_charat hw sr tr _ 2 c2 z sf _ hC hz hF rsf Sr rfl) (w_74 hw) (w_8 hw) (by decide) (by decide) (fun _ q => nomatch q) rfl (Nat.le_of_eq rfl) rfl (by decide) (by decide) (pc' := 480) rfl ?_
          intro w89 h89 q89 Kc89
          obtain ⟨rfl, rfl⟩ := q89
          refine g_aload at_480 rfl rfl (pc' := 482) rfl ?_
          refine g_iload at_482 rfl (pc' := 484) rfl ?_
          refine g_iconst at_484 (v := 2) rfl (pc' := 485) rfl ?_
          refine g_iadd at_485 (v := 2) rfl (pc' := 486) rfl ?_
          refine g_caload at_486 (((((((A_ca_9.keep Kn52 nin0).keep Kn53 nin0).keep Kw54 (ninS (Nat.ne_of_lt (Nat.lt_of_lt_of_le ((A_ca_9.keep Kn52 nin0)).lt (Nat.le_of_eq g53.symm))) nin0)).keep Kw55 (ninS (Nat.ne_of_lt (Nat.lt_of_lt_of_le ((A_ca_9.keep Kn52 nin0)).lt (Nat.le_of_eq g53.symm))) nin0)).keep Kw56 (ninS (Nat.ne_of_lt (Nat.lt_of_lt_of_le ((A_ca_9.keep Kn52 nin0)).lt (Nat.le_of_eq g53.symm))) nin0)).keep Kc57 (ninS (Nat.ne_of_lt (Nat.lt_of_lt_of_le (A_ca_9).lt (Nat.le_of_eq g52.symm))) nin0)).keep Kc84 nin0) (by decide) (i := 2) rfl rfl (pc' := 487) rfl ?_
          refine g_icmp_ne_f at_487 rfl (pc' := 490) rfl ?_
          refine g_iload at_490 rfl (pc' := 492) rfl ?_
          refine g_iconst at_492 (v := 3) rfl (pc' := 493) rfl ?_
          refine g_icmp_le_t at_493 (by decide) (pc' := 512) (by decide) rfl ?_
          refine g_iconst at_512 (v := 1) rfl (pc' := 513) rfl ?_
          refine g_goto at_513 (pc' := 517) (by decide) rfl ?_
          exact g_ireturnN at_517 rfl (by simp) (z := 1) rfl rfl (by decide) (by decide)
      ·
        refine g_if_ne_f at_246 (if_neg (by rw [f1]; decide)) (pc' := 249) rfl ?_
        refine g_iconst at_249 (v := 1) rfl (pc' := 250) rfl ?_
        refine g_goto at_250 (pc' := 254) (by decide) rfl ?_
        refine g_istore at_254 (L' := #[.val (.int p0), .val (.int p1), .val (.int p2), .val (.int p3), .val (.int p4), .val (.int 3), .val (.ref ca), .val (.ref x), .val (.int 1), .val (.int 1), .unset, .unset, .unset, .unset, .unset, .unset]) rfl (pc' := 256) rfl ?_
        refine g_iload at_256 rfl (pc' := 258) rfl ?_
        refine g_iconst at_258 (v := 2) rfl (pc' := 259) rfl ?_
        refine g_icmp_le_f at_259 (by decide) (pc' := 262) rfl ?_
        refine g_aload at_262 rfl rfl (pc' := 264) rfl ?_
        refine g_iconst at_264 (v := 2) rfl (pc' := 265) rfl ?_
        refine g_caload at_265 ((((((A_ca_9.keep Kn52 nin0).keep Kn53 nin0).keep Kw54 (ninS (Nat.ne_of_lt (Nat.lt_of_lt_of_le ((A_ca_9.keep Kn52 nin0)).lt (Nat.le_of_eq g53.symm))) nin0)).keep Kw55 (ninS (Nat.ne_of_lt (Nat.lt_of_lt_of_le ((A_ca_9.keep Kn52 nin0)).lt (Nat.le_of_eq g53.symm))) nin0)).keep Kw56 (ninS (Nat.ne_of_lt (Nat.lt_of_lt_of_le ((A_ca_9.keep Kn52 nin0)).lt (Nat.le_of_eq g53.symm))) nin0)).keep Kc57 (ninS (Nat.ne_of_lt (Nat.lt_of_lt_of_le (A_ca_9).lt (Nat.le_of_eq g52.symm))) nin0)) (by decide) (i := 2) rfl rfl (pc' := 266) rfl ?_
        refine g_static (W := 0) (argsL := [(.int c2)]) (rest := []) at_266 (w_67 hw) (w_68 hw) (by decide) (lenOf pd_15 rfl) (c_ws hw c2 _) (w_69 hw) (w_4 hw) (by decide) (by decide) (fun _ q => nomatch q) rfl (Nat.le_of_eq rfl) rfl (by decide) (by decide) (pc' := 269) rfl ?_
        intro w90 h90 q90 Kc90
        obtain ⟨rfl, rfl⟩ := q90
        rcases Bool.eq_false_or_eq_true (isW c2) with f2 | f2
        ·
          refine g_if_ne_t at_269 (by rw [if_pos f2]; decide) (pc' := 276) (by decide) rfl ?_
          refine g_iconst at_276 (v := 0) rfl (pc' := 277) rfl ?_
          refine g_istore at_277 (L' := #[.val (.int p0), .val (.int p1), .val (.int p2), .val (.int p3), .val (.int p4), .val (.int 3), .val (.ref ca), .val (.ref x), .val (.int 1), .val (.int 1), .val (.int 0), .unset, .unset, .unset, .unset, .unset]) rfl (pc' := 279) rfl ?_
          refine g_iload at_279 rfl (pc' := 281) rfl ?_
          refine g_iconst at_281 (v := 3) rfl (pc' := 282) rfl ?_
          refine g_icmp_le_t at_282 (by decide) (pc' := 299) (by decide) rfl ?_
          refine g_iconst at_299 (v := 0) rfl (pc' := 300) rfl ?_
          refine g_istore at_300 (L' := #[.val (.int p0), .val (.int p1), .val (.int p2), .val (.int p3), .val (.int p4), .val (.int 3), .val (.ref ca), .val (.ref x), .val (.int 1), .val (.int 1), .val (.int 0), .val (.int 0), .unset, .unset, .unset, .unset]) rfl (pc' := 302) rfl ?_
          refine g_iload at_302 rfl (pc' := 304) rfl ?_
          refine g_if_eq_f at_304 (by decide) (pc' := 307) rfl ?_
          refine g_iconst at_307 (v := 0) rfl (pc' := 308) rfl ?_
          refine g_istore at_308 (L' := #[.val (.int p0), .val (.int p1), .val (.int p2), .val (.int p3), .val (.int p4), .val (.int 3), .val (.ref ca), .val (.ref x), .val (.int 1), .val (.int 1), .val (.int 0), .val (.int 0), .val (.int 0), .unset, .unset, .unset]) rfl (pc' := 310) rfl ?_
          refine g_goto at_310 (pc' := 350) (by decide) rfl ?_
          refine g_iload at_350 rfl (pc' := 352) rfl ?_
          refine g_if_eq_t at_352 rfl (pc' := 361) (by decide) rfl ?_
          refine g_iload at_361 rfl (pc' := 363) rfl ?_
          refine g_if_eq_t at_363 rfl (pc' := 372) (by decide) rfl ?_
          refine g_iload at_372 rfl (pc' := 374) rfl ?_
          refine g_if_eq_f at_374 (by decide) (pc' := 377) rfl ?_
          refine g_iconst at_377 (v := 2) rfl (pc' := 378) rfl ?_
          refine g_istore at_378 (L' := #[.val (.int p0), .val (.int p1), .val (.int p2), .val (.int p3), .val (.int p4), .val (.int 3), .val (.ref ca), .val (.ref x), .val (.int 1), .val (.int 1), .val (.int 0), .val (.int 0), .val (.int 0), .val (.int 2), .unset, .unset]) rfl (pc' := 380) rfl ?_
          refine g_goto at_380 (pc' := 398) (by decide) rfl ?_
          refine g_aload at_398 rfl rfl (pc' := 400) rfl ?_
          refine g_static (W := 0) (argsL := [(.ref x)]) (rest := []) at_400 (w_27 hw) (w_28 hw) (by decide) (lenOf pd_17 rfl) (c_trim hw x _ _ z sf _ hC hz hF rsf Ss (Nat.le_of_ble_eq_true rfl)) (w_30 hw) (w_29 hw) (by decide) (by decide) (fun _ q => nomatch q) rfl (Nat.le_of_eq rfl) rfl (by decide) (by decide) (pc' := 403) rfl ?_
          intro w91 h91 q91 Kc91
          obtain ⟨sr, tr, rfl, Sr⟩ := q91
          have e91 : trimL [c0, c1, c2] = [c0, c1] := by simp [trimL, List.dropWhile, f0, f1, f2]
          rw [e91] at Sr
          refine g_astore at_403 rfl (L' := #[.val (.int p0), .val (.int p1), .val (.int p2), .val (.int p3), .val (.int p4), .val (.int 3), .val (.ref ca), .val (.ref x), .val (.int 1), .val (.int 1), .val (.int 0), .val (.int 0), .val (.int 0), .val (.int 2), .val (.ref sr), .unset]) rfl (pc' := 405) rfl ?_
          refine g_aload at_405 rfl rfl (pc' := 407) rfl ?_
          refine g_virt (W := 0) (argsL := []) (rest := []) at_407 (w_56 hw) (w_32 hw) (nf_self (w_34 hw)) (w_34 hw) (w_33 hw) (by decide) (lenOf pd_10 rfl) Sr.1 (c_lenN hw sr tr _ 2 z _ hC hz Sr rfl) (w_35 hw) (w_8 hw) (by decide) (by decide) (fun _ q => nomatch q) rfl (Nat.le_of_eq rfl) rfl (by decide) (by decide) (pc' := 410) rfl ?_
          intro w92 h92 q92 Kc92
          obtain ⟨rfl, rfl⟩ := q92
          refine g_iload at_410 rfl (pc' := 412) rfl ?_
          refine g_iload at_412 rfl (pc' := 414) rfl ?_
          refine g_isub at_414 (v := 2) rfl (pc' := 415) rfl ?_
          refine g_icmp_eq_t at_415 rfl (pc' := 420) (by decide) rfl ?_
          refine g_aload at_420 rfl rfl (pc' := 422) rfl ?_
          refine g_virt (W := 0) (argsL := []) (rest := []) at_422 (w_56 hw) (w_32 hw) (nf_self (w_34 hw)) (w_34 hw) (w_33 hw) (by decide) (lenOf pd_10 rfl) Sr.1 (c_lenN hw sr tr _ 2 z _ hC hz Sr rfl) (w_35 hw) (w_8 hw) (by decide) (by decide) (fun _ q => nomatch q) rfl (Nat.le_of_eq rfl) rfl (by decide) (by decide) (pc' := 425) rfl ?_
          intro w93 h93 q93 Kc93
          obtain ⟨rfl, rfl⟩ := q93
          refine g_istore at_425 (L' := #[.val (.int p0), .val (.int p1), .val (.int p2), .val (.int p3), .val (.int p4), .val (.int 3), .val (.ref ca), .val (.ref x), .val (.int 1), .val (.int 1), .val (.int 0), .val (.int 0), .val (.int 0), .val (.int 2), .val (.ref sr), .val (.int 2)]) rfl (pc' := 427) rfl ?_
          refine g_iload at_427 rfl (pc' := 429) rfl ?_
          refine g_if_le_f at_429 (by decide) (pc' := 432) rfl ?_
          refine g_aload at_432 rfl rfl (pc' := 434) rfl ?_
          refine g_iconst at_434 (v := 0) rfl (pc' := 435) rfl ?_
          refine g_virt (W := 0) (argsL := [(.int 0)]) (rest := []) at_435 (w_118 hw) (w_71 hw) (nf_self (w_73 hw)) (w_73 hw) (w_72 hw) (by decide) (lenOf pd_14 rfl) Sr.1 (c_charat hw sr tr _ 0 c0 z sf _ hC hz hF rsf Sr rfl) (w_74 hw) (w_8 hw) (by decide) (by decide) (fun _ q => nomatch q) rfl (Nat.le_of_eq rfl) rfl (by decide) (by decide) (pc' := 438) rfl ?_
          intro w94 h94 q94 Kc94
          obtain ⟨rfl, rfl⟩ := q94
          refine g_aload at_438 rfl rfl (pc' := 440) rfl ?_
          refine g_iload at_440 rfl (pc' := 442) rfl ?_
          refine g_caload at_442 (((((((A_ca_9.keep Kn52 nin0).keep Kn53 nin0).keep Kw54 (ninS (Nat.ne_of_lt (Nat.lt_of_lt_of_le ((A_ca_9.keep Kn52 nin0)).lt (Nat.le_of_eq g53.symm))) nin0)).keep Kw55 (ninS (Nat.ne_of_lt (Nat.lt_of_lt_of_le ((A_ca_9.keep Kn52 nin0)).lt (Nat.le_of_eq g53.symm))) nin0)).keep Kw56 (ninS (Nat.ne_of_lt (Nat.lt_of_lt_of_le ((A_ca_9.keep Kn52 nin0)).lt (Nat.le_of_eq g53.symm))) nin0)).keep Kc57 (ninS (Nat.ne_of_lt (Nat.lt_of_lt_of_le (A_ca_9).lt (Nat.le_of_eq g52.symm))) nin0)).keep Kc91 nin0) (by decide) (i := 0) rfl rfl (pc' := 443) rfl ?_
          refine g_icmp_ne_f at_443 rfl (pc' := 446) rfl ?_
          refine g_iload at_446 rfl (pc' := 448) rfl ?_
          refine g_iconst at_448 (v := 1) rfl (pc' := 449) rfl ?_
          refine g_icmp_le_f at_449 (by decide) (pc' := 452) rfl ?_
          refine g_aload at_452 rfl rfl (pc' := 454) rfl ?_
          refine g_iconst at_454 (v := 1) rfl (pc' := 455) rfl ?_
          refine g_virt (W := 0) (argsL := [(.int 1)]) (rest := []) at_455 (w_118 hw) (w_71 hw) (nf_self (w_73 hw)) (w_73 hw) (w_72 hw) (by decide) (lenOf pd_14 rfl) Sr.1 (c_charat hw sr tr _ 1 c1 z sf _ hC hz hF rsf Sr rfl) (w_74 hw) (w_8 hw) (by decide) (by decide) (fun _ q => nomatch q) rfl (Nat.le_of_eq rfl) rfl (by decide) (by decide) (pc' := 458) rfl ?_
          intro w95 h95 q95 Kc95
          obtain ⟨rfl, rfl⟩ := q95
          refine g_aload at_458 rfl rfl (pc' := 460) rfl ?_
          refine g_iload at_460 rfl (pc' := 462) rfl ?_
          refine g_iconst at_462 (v := 1) rfl (pc' := 463) rfl ?_
          refine g_iadd at_463 (v := 1) rfl (pc' := 464) rfl ?_
          refine g_caload at_464 (((((((A_ca_9.keep Kn52 nin0).keep Kn53 nin0).keep Kw54 (ninS (Nat.ne_of_lt (Nat.lt_of_lt_of_le ((A_ca_9.keep Kn52 nin0)).lt (Nat.le_of_eq g53.symm))) nin0)).keep Kw55 (ninS (Nat.ne_of_lt (Nat.lt_of_lt_of_le ((A_ca_9.keep Kn52 nin0)).lt (Nat.le_of_eq g53.symm))) nin0)).keep Kw56 (ninS (Nat.ne_of_lt (Nat.lt_of_lt_of_le ((A_ca_9.keep Kn52 nin0)).lt (Nat.le_of_eq g53.symm))) nin0)).keep Kc57 (ninS (Nat.ne_of_lt (Nat.lt_of_lt_of_le (A_ca_9).lt (Nat.le_of_eq g52.symm))) nin0)).keep Kc91 nin0) (by decide) (i := 1) rfl rfl (pc' := 465) rfl ?_
          refine g_icmp_ne_f at_465 rfl (pc' := 468) rfl ?_
          refine g_iload at_468 rfl (pc' := 470) rfl ?_
          refine g_iconst at_470 (v := 2) rfl (pc' := 471) rfl ?_
          refine g_icmp_le_t at_471 (by decide) (pc' := 490) (by decide) rfl ?_
          refine g_iload at_490 rfl (pc' := 492) rfl ?_
          refine g_iconst at_492 (v := 3) rfl (pc' := 493) rfl ?_
          refine g_icmp_le_t at_493 (by decide) (pc' := 512) (by decide) rfl ?_
          refine g_iconst at_512 (v := 1) rfl (pc' := 513) rfl ?_
          refine g_goto at_513 (pc' := 517) (by decide) rfl ?_
          exact g_ireturnN at_517 rfl (by simp) (z := 1) rfl rfl (by decide) (by decide)
        ·
          refine g_if_ne_f at_269 (if_neg (by rw [f2]; decide)) (pc' := 272) rfl ?_
          refine g_iconst at_272 (v := 1) rfl (pc' := 273) rfl ?_
          refine g_goto at_273 (pc' := 277) (by decide) rfl ?_
          refine g_istore at_277 (L' := #[.val (.int p0), .val (.int p1), .val (.int p2), .val (.int p3), .val (.int p4), .val (.int 3), .val (.ref ca), .val (.ref x), .val (.int 1), .val (.int 1), .val (.int 1), .unset, .unset, .unset, .unset, .unset]) rfl (pc' := 279) rfl ?_
          refine g_iload at_279 rfl (pc' := 281) rfl ?_
          refine g_iconst at_281 (v := 3) rfl (pc' := 282) rfl ?_
          refine g_icmp_le_t at_282 (by decide) (pc' := 299) (by decide) rfl ?_
          refine g_iconst at_299 (v := 0) rfl (pc' := 300) rfl ?_
          refine g_istore at_300 (L' := #[.val (.int p0), .val (.int p1), .val (.int p2), .val (.int p3), .val (.int p4), .val (.int 3), .val (.ref ca), .val (.ref x), .val (.int 1), .val (.int 1), .val (.int 1), .val (.int 0), .unset, .unset, .unset, .unset]) rfl (pc' := 302) rfl ?_
          refine g_iload at_302 rfl (pc' := 304) rfl ?_
          refine g_if_eq_f at_304 (by decide) (pc' := 307) rfl ?_
          refine g_iconst at_307 (v := 0) rfl (pc' := 308) rfl ?_
          refine g_istore at_308 (L' := #[.val (.int p0), .val (.int p1), .val (.int p2), .val (.int p3), .val (.int p4), .val (.int 3), .val (.ref ca), .val (.ref x), .val (.int 1), .val (.int 1), .val (.int 1), .val (.int 0), .val (.int 0), .unset, .unset, .unset]) rfl (pc' := 310) rfl ?_
          refine g_goto at_310 (pc' := 350) (by decide) rfl ?_
          refine g_iload at_350 rfl (pc' := 352) rfl ?_
          refine g_if_eq_t at_352 rfl (pc' := 361) (by decide) rfl ?_
          refine g_iload at_361 rfl (pc' := 363) rfl ?_
          refine g_if_eq_f at_363 (by decide) (pc' := 366) rfl ?_
          refine g_iconst at_366 (v := 3) rfl (pc' := 367) rfl ?_
          refine g_istore at_367 (L' := #[.val (.int p0), .val (.int p1), .val (.int p2), .val (.int p3), .val (.int p4), .val (.int 3), .val (.ref ca), .val (.ref x), .val (.int 1), .val (.int 1), .val (.int 1), .val (.int 0), .val (.int 0), .val (.int 3), .unset, .unset]) rfl (pc' := 369) rfl ?_
          refine g_goto at_369 (pc' := 398) (by decide) rfl ?_
          refine g_aload at_398 rfl rfl (pc' := 400) rfl ?_
          refine g_static (W := 0) (argsL := [(.ref x)]) (rest := []) at_400 (w_27 hw) (w_28 hw) (by decide) (lenOf pd_17 rfl) (c_trim hw x _ _ z sf _ hC hz hF rsf Ss (Nat.le_of_ble_eq_true rfl)) (w_30 hw) (w_29 hw) (by decide) (by decide) (fun _ q => nomatch q) rfl (Nat.le_of_eq rfl) rfl (by decide) (by decide) (pc' := 403) rfl ?_
          intro w96 h96 q96 Kc96
          obtain ⟨sr, tr, rfl, Sr⟩ := q96
          have e96 : trimL [c0, c1, c2] = [c0, c1, c2] := by simp [trimL, List.dropWhile, f0, f1, f2]
          rw [e96] at Sr
          refine g_astore at_403 rfl (L' := #[.val (.int p0), .val (.int p1), .val (.int p2), .val (.int p3), .val (.int p4), .val (.int 3), .val (.ref ca), .val (.ref x), .val (.int 1), .val (.int 1), .val (.int 1), .val (.int 0), .val (.int 0), .val (.int 3), .val (.ref sr), .unset]) rfl (pc' := 405) rfl ?_
          refine g_aload at_405 rfl rfl (pc' := 407) rfl ?_
          refine g_virt (W := 0) (argsL := []) (rest := []) at_407 (w_56 hw) (w_32 hw) (nf_self (w_34 hw)) (w_34 hw) (w_33 hw) (by decide) (lenOf pd_10 rfl) Sr.1 (c_lenN hw sr tr _ 3 z _ hC hz Sr rfl) (w_35 hw) (w_8 hw) (by decide) (by decide) (fun _ q => nomatch q) rfl (Nat.le_of_eq rfl) rfl (by decide) (by decide) (pc' := 410) rfl ?_
          intro w97 h97 q97 Kc97
          obtain ⟨rfl, rfl⟩ := q97
          refine g_iload at_410 rfl (pc' := 412) rfl ?_
          refine g_iload at_412 rfl (pc' := 414) rfl ?_
          refine g_isub at_414 (v := 3) rfl (pc' := 415) rfl ?_
          refine g_icmp_eq_t at_415 rfl (pc' := 420) (by decide) rfl ?_
          refine g_aload at_420 rfl rfl (pc' := 422) rfl ?_
          refine g_virt (W := 0) (argsL := []) (rest := []) at_422 (w_56 hw) (w_32 hw) (nf_self (w_34 hw)) (w_34 hw) (w_33 hw) (by decide) (lenOf pd_10 rfl) Sr.1 (c_lenN hw sr tr _ 3 z _ hC hz Sr rfl) (w_35 hw) (w_8 hw) (by decide) (by decide) (fun _ q => nomatch q) rfl (Nat.le_of_eq rfl) rfl (by decide) (by decide) (pc' := 425) rfl ?_
          intro w98 h98 q98 Kc98
          obtain ⟨rfl, rfl⟩ := q98
          refine g_istore at_425 (L' := #[.val (.int p0), .val (.int p1), .val (.int p2), .val (.int p3), .val (.int p4), .val (.int 3), .val (.ref ca), .val (.ref x), .val (.int 1), .val (.int 1), .val (.int 1), .val (.int 0), .val (.int 0), .val (.int 3), .val (.ref sr), .val (.int 3)]) rfl (pc' := 427) rfl ?_
          refine g_iload at_427 rfl (pc' := 429) rfl ?_
          refine g_if_le_f at_429 (by decide) (pc' := 432) rfl ?_
          refine g_aload at_432 rfl rfl (pc' := 434) rfl ?_
          refine g_iconst at_434 (v := 0) rfl (pc' := 435) rfl ?_
          refine g_virt (W := 0) (argsL := [(.int 0)]) (rest := []) at_435 (w_118 hw) (w_71 hw) (nf_self (w_73 hw)) (w_73 hw) (w_72 hw) (by decide) (lenOf pd_14 rfl) Sr.1 (c_charat hw sr tr _ 0 c0 z sf _ hC hz hF rsf Sr rfl) (w_74 hw) (w_8 hw) (by decide) (by decide) (fun _ q => nomatch q) rfl (Nat.le_of_eq rfl) rfl (by decide) (by decide) (pc' := 438) rfl ?_
          intro w99 h99 q99 Kc99
          obtain ⟨rfl, rfl⟩ := q99
          refine g_aload at_438 rfl rfl (pc' := 440) rfl ?_
          refine g_iload at_440 rfl (pc' := 442) rfl ?_
          refine g_caload at_442 (((((((A_ca_9.keep Kn52 nin0).keep Kn53 nin0).keep Kw54 (ninS (Nat.ne_of_lt (Nat.lt_of_lt_of_le ((A_ca_9.keep Kn52 nin0)).lt (Nat.le_of_eq g53.symm))) nin0)).keep Kw55 (ninS (Nat.ne_of_lt (Nat.lt_of_lt_of_le ((A_ca_9.keep Kn52 nin0)).lt (Nat.le_of_eq g53.symm))) nin0)).keep Kw56 (ninS (Nat.ne_of_lt (Nat.lt_of_lt_of_le ((A_ca_9.keep Kn52 nin0)).lt (Nat.le_of_eq g53.symm))) nin0)).keep Kc57 (ninS (Nat.ne_of_lt (Nat.lt_of_lt_of_le (A_ca_9).lt (Nat.le_of_eq g52.symm))) nin0)).keep Kc96 nin0) (by decide) (i := 0) rfl rfl (pc' := 443) rfl ?_
          refine g_icmp_ne_f at_443 rfl (pc' := 446) rfl ?_
          refine g_iload at_446 rfl (pc' := 448) rfl ?_
          refine g_iconst at_448 (v := 1) rfl (pc' := 449) rfl ?_
          refine g_icmp_le_f at_449 (by decide) (pc' := 452) rfl ?_
          refine g_aload at_452 rfl rfl (pc' := 454) rfl ?_
          refine g_iconst at_454 (v := 1) rfl (pc' := 455) rfl ?_
          refine g_virt (W := 0) (argsL := [(.int 1)]) (rest := []) at_455 (w_118 hw) (w_71 hw) (nf_self (w_73 hw)) (w_73 hw) (w_72 hw) (by decide) (lenOf pd_14 rfl) Sr.1 (c_charat hw sr tr _ 1 c1 z sf _ hC hz hF rsf Sr rfl) (w_74 hw) (w_8 hw) (by decide) (by decide) (fun _ q => nomatch q) rfl (Nat.le_of_eq rfl) rfl (by decide) (by decide) (pc' := 458) rfl ?_
          intro w100 h100 q100 Kc100
          obtain ⟨rfl, rfl⟩ := q100
          refine g_aload at_458 rfl rfl (pc' := 460) rfl ?_
          refine g_iload at_460 rfl (pc' := 462) rfl ?_
          refine g_iconst at_462 (v := 1) rfl (pc' := 463) rfl ?_
          refine g_iadd at_463 (v := 1) rfl (pc' := 464) rfl ?_
          refine g_caload at_464 (((((((A_ca_9.keep Kn52 nin0).keep Kn53 nin0).keep Kw54 (ninS (Nat.ne_of_lt (Nat.lt_of_lt_of_le ((A_ca_9.keep Kn52 nin0)).lt (Nat.le_of_eq g53.symm))) nin0)).keep Kw55 (ninS (Nat.ne_of_lt (Nat.lt_of_lt_of_le ((A_ca_9.keep Kn52 nin0)).lt (Nat.le_of_eq g53.symm))) nin0)).keep Kw56 (ninS (Nat.ne_of_lt (Nat.lt_of_lt_of_le ((A_ca_9.keep Kn52 nin0)).lt (Nat.le_of_eq g53.symm))) nin0)).keep Kc57 (ninS (Nat.ne_of_lt (Nat.lt_of_lt_of_le (A_ca_9).lt (Nat.le_of_eq g52.symm))) nin0)).keep Kc96 nin0) (by decide) (i := 1) rfl rfl (pc' := 465) rfl ?_
          refine g_icmp_ne_f at_465 rfl (pc' := 468) rfl ?_
          refine g_iload at_468 rfl (pc' := 470) rfl ?_
          refine g_iconst at_470 (v := 2) rfl (pc' := 471) rfl ?_
          refine g_icmp_le_f at_471 (by decide) (pc' := 474) rfl ?_
          refine g_aload at_474 rfl rfl (pc' := 476) rfl ?_
          refine g_iconst at_476 (v := 2) rfl (pc' := 477) rfl ?_
          refine g_virt (W := 0) (argsL := [(.int 2)]) (rest := []) at_477 (w_118 hw) (w_71 hw) (nf_self (w_73 hw)) (w_73 hw) (w_72 hw) (by decide) (lenOf pd_14 rfl) Sr.1 (c_charat hw sr tr _ 2 c2 z sf _ hC hz hF rsf Sr rfl) (w_74 hw) (w_8 hw) (by decide) (by decide) (fun _ q => nomatch q) rfl (Nat.le_of_eq rfl) rfl (by decide) (by decide) (pc' := 480) rfl ?_
          intro w101 h101 q101 Kc101
          obtain ⟨rfl, rfl⟩ := q101
          refine g_aload at_480 rfl rfl (pc' := 482) rfl ?_
          refine g_iload at_482 rfl (pc' := 484) rfl ?_
          refine g_iconst at_484 (v := 2) rfl (pc' := 485) rfl ?_
          refine g_iadd at_485 (v := 2) rfl (pc' := 486) rfl ?_
          refine g_caload at_486 (((((((A_ca_9.keep Kn52 nin0).keep Kn53 nin0).keep Kw54 (ninS (Nat.ne_of_lt (Nat.lt_of_lt_of_le ((A_ca_9.keep Kn52 nin0)).lt (Nat.le_of_eq g53.symm))) nin0)).keep Kw55 (ninS (Nat.ne_of_lt (Nat.lt_of_lt_of_le ((A_ca_9.keep Kn52 nin0)).lt (Nat.le_of_eq g53.symm))) nin0)).keep Kw56 (ninS (Nat.ne_of_lt (Nat.lt_of_lt_of_le ((A_ca_9.keep Kn52 nin0)).lt (Nat.le_of_eq g53.symm))) nin0)).keep Kc57 (ninS (Nat.ne_of_lt (Nat.lt_of_lt_of_le (A_ca_9).lt (Nat.le_of_eq g52.symm))) nin0)).keep Kc96 nin0) (by decide) (i := 2) rfl rfl (pc' := 487) rfl ?_
          refine g_icmp_ne_f at_487 rfl (pc' := 490) rfl ?_
          refine g_iload at_490 rfl (pc' := 492) rfl ?_
          refine g_iconst at_492 (v := 3) rfl (pc' := 493) rfl ?_
          refine g_icmp_le_t at_493 (by decide) (pc' := 512) (by decide) rfl ?_
          refine g_iconst at_512 (v := 1) rfl (pc' := 513) rfl ?_
          refine g_goto at_513 (pc' := 517) (by decide) rfl ?_
          exact g_ireturnN at_517 rfl (by simp) (z := 1) rfl rfl (by decide) (by decide)
  ·
    refine g_if_ne_t at_48 (by decide) (pc' := 66) (by decide) rfl ?_
    refine g_iload at_66 rfl (pc' := 68) rfl ?_
    refine g_iconst at_68 (v := 1) rfl (pc' := 69) rfl ?_
    refine g_icmp_ne_t at_69 (by decide) (pc' := 94) (by decide) rfl ?_
    refine g_iload at_94 rfl (pc' := 96) rfl ?_
    refine g_iconst at_96 (v := 2) rfl (pc' := 97) rfl ?_
    refine g_icmp_ne_t at_97 (by decide) (pc' := 129) (by decide) rfl ?_
    refine g_iload at_129 rfl (pc' := 131) rfl ?_
    refine g_iconst at_131 (v := 3) rfl (pc' := 132) rfl ?_
    refine g_icmp_ne_t at_132 (by decide) (pc' := 171) (by decide) rfl ?_
    refine g_new at_171 (w_6 hw) (w_7 hw) (w_8 hw) (by decide) (by decide) (pc' := 174) rfl ?_
    intro x h102 g102 Kn102 E_x D102 sz_x
    have F_value_x : Fld Z h102 x "java/lang/String" "value" "[B" .null := D102 (Or.inr (w_21 hw)) (ty := (.array .byte)) (by decide)
    have F_coder_x : Fld Z h102 x "java/lang/String" "coder" "B" (.int 0) := D102 (Or.inr (w_22 hw)) (ty := .byte) (by decide)
    refine g_dup at_174 rfl (pc' := 175) rfl ?_
    refine g_iconst at_175 (v := 4) rfl (pc' := 176) rfl ?_
    refine g_newA at_176 (w_1 hw) rfl (by decide) (cap := 4) (by decide) (by decide) (by decide) (by decide) (pc' := 178) rfl ?_
    intro cb h103 g103 Kn103 A_cb sz_cb
    replace A_cb : Ia Z h103 cb .char [0, 0, 0, 0] := A_cb
    refine g_dup at_178 rfl (pc' := 179) rfl ?_
    refine g_iconst at_179 (v := 0) rfl (pc' := 180) rfl ?_
    refine g_aload at_180 rfl rfl (pc' := 182) rfl ?_
    refine g_iconst at_182 (v := 0) rfl (pc' := 183) rfl ?_
    refine g_caload at_183 ((A_ca_9.keep Kn102 nin0).keep Kn103 nin0) (by decide) (i := 0) rfl rfl (pc' := 184) rfl ?_
    refine g_castore at_184 A_cb (by decide) (i := 0) rfl (Nat.le_of_ble_eq_true rfl) (Or.inr sz_cb) (List.mem_of_getElem? (i := 0) rfl) (pc' := 185) rfl ?_
    intro h104 Kw104 A_cb_104
    replace A_cb_104 : Ia Z h104 cb .char [c0, 0, 0, 0] := (by rw [(lo8 c0 b0).2.1] at A_cb_104; exact A_cb_104)
    refine g_dup at_185 rfl (pc' := 186) rfl ?_
    refine g_iconst at_186 (v := 1) rfl (pc' := 187) rfl ?_
    refine g_aload at_187 rfl rfl (pc' := 189) rfl ?_
    refine g_iconst at_189 (v := 1) rfl (pc' := 190) rfl ?_
    refine g_caload at_190 (((A_ca_9.keep Kn102 nin0).keep Kn103 nin0).keep Kw104 (ninS (Nat.ne_of_lt (Nat.lt_of_lt_of_le ((A_ca_9.keep Kn102 nin0)).lt (Nat.le_of_eq g103.symm))) nin0)) (by decide) (i := 1) rfl rfl (pc' := 191) rfl ?_
    refine g_castore at_191 A_cb_104 (by decide) (i := 1) rfl (Nat.le_of_ble_eq_true rfl) (Or.inr sz_cb) (List.mem_of_getElem? (i := 0) rfl) (pc' := 192) rfl ?_
    intro h105 Kw105 A_cb_105
    replace A_cb_105 : Ia Z h105 cb .char [c0, c1, 0, 0] := (by rw [(lo8 c1 b1).2.1] at A_cb_105; exact A_cb_105)
    refine g_dup at_192 rfl (pc' := 193) rfl ?_
    refine g_iconst at_193 (v := 2) rfl (pc' := 194) rfl ?_
    refine g_aload at_194 rfl rfl (pc' := 196) rfl ?_
    refine g_iconst at_196 (v := 2) rfl (pc' := 197) rfl ?_
    refine g_caload at_197 ((((A_ca_9.keep Kn102 nin0).keep Kn103 nin0).keep Kw104 (ninS (Nat.ne_of_lt (Nat.lt_of_lt_of_le ((A_ca_9.keep Kn102 nin0)).lt (Nat.le_of_eq g103.symm))) nin0)).keep Kw105 (ninS (Nat.ne_of_lt (Nat.lt_of_lt_of_le ((A_ca_9.keep Kn102 nin0)).lt (Nat.le_of_eq g103.symm))) nin0)) (by decide) (i := 2) rfl rfl (pc' := 198) rfl ?_
    refine g_castore at_198 A_cb_105 (by decide) (i := 2) rfl (Nat.le_of_ble_eq_true rfl) (Or.inr sz_cb) (List.mem_of_getElem? (i := 0) rfl) (pc' := 199) rfl ?_
    intro h106 Kw106 A_cb_106
    replace A_cb_106 : Ia Z h106 cb .char [c0, c1, c2, 0] := (by rw [(lo8 c2 b2).2.1] at A_cb_106; exact A_cb_106)
    refine g_dup at_199 rfl (pc' := 200) rfl ?_
    refine g_iconst at_200 (v := 3) rfl (pc' := 201) rfl ?_
    refine g_aload at_201 rfl rfl (pc' := 203) rfl ?_
    refine g_iconst at_203 (v := 3) rfl (pc' := 204) rfl ?_
    refine g_caload at_204 (((((A_ca_9.keep Kn102 nin0).keep Kn103 nin0).keep Kw104 (ninS (Nat.ne_of_lt (Nat.lt_of_lt_of_le ((A_ca_9.keep Kn102 nin0)).lt (Nat.le_of_eq g103.symm))) nin0)).keep Kw105 (ninS (Nat.ne_of_lt (Nat.lt_of_lt_of_le ((A_ca_9.keep Kn102 nin0)).lt (Nat.le_of_eq g103.symm))) nin0)).keep Kw106 (ninS (Nat.ne_of_lt (Nat.lt_of_lt_of_le ((A_ca_9.keep Kn102 nin0)).lt (Nat.le_of_eq g103.symm))) nin0)) (by decide) (i := 3) rfl rfl (pc' := 205) rfl ?_
    refine g_castore at_205 A_cb_106 (by decide) (i := 3) rfl (Nat.le_of_ble_eq_true rfl) (Or.inr sz_cb) (List.mem_of_getElem? (i := 0) rfl) (pc' := 206) rfl ?_
    intro h107 Kw107 A_cb_107
    replace A_cb_107 : Ia Z h107 cb .char [c0, c1, c2, c3] := (by rw [(lo8 c3 b3).2.1] at A_cb_107; exact A_cb_107)
    refine g_initB (W := 1) (argsL := [(.ref cb)]) (rest := [(.ref x)]) at_206 rfl (w_9 hw) (w_10 hw) (w_11 hw) (by decide) (lenOf pd_16 rfl) (bk_str (len := 4) hws (w_7 hw) sz_x (((((E_x.keep Kn103).keep Kw104).keep Kw105).keep Kw106).keep Kw107) (((((F_value_x.keep Kn103 nin0).keep Kw104 (ninS (Nat.ne_of_lt (Nat.lt_of_lt_of_le (E_x).lt (Nat.le_of_eq g103.symm))) nin0)).keep Kw105 (ninS (Nat.ne_of_lt (Nat.lt_of_lt_of_le (E_x).lt (Nat.le_of_eq g103.symm))) nin0)).keep Kw106 (ninS (Nat.ne_of_lt (Nat.lt_of_lt_of_le (E_x).lt (Nat.le_of_eq g103.symm))) nin0)).keep Kw107 (ninS (Nat.ne_of_lt (Nat.lt_of_lt_of_le (E_x).lt (Nat.le_of_eq g103.symm))) nin0)) (((((F_coder_x.keep Kn103 nin0).keep Kw104 (ninS (Nat.ne_of_lt (Nat.lt_of_lt_of_le (E_x).lt (Nat.le_of_eq g103.symm))) nin0)).keep Kw105 (ninS (Nat.ne_of_lt (Nat.lt_of_lt_of_le (E_x).lt (Nat.le_of_eq g103.symm))) nin0)).keep Kw106 (ninS (Nat.ne_of_lt (Nat.lt_of_lt_of_le (E_x).lt (Nat.le_of_eq g103.symm))) nin0)).keep Kw107 (ninS (Nat.ne_of_lt (Nat.lt_of_lt_of_le (E_x).lt (Nat.le_of_eq g103.symm))) nin0)) A_cb_107 hC hz rfl (by decide) (by decide) (all4 b0 b1 b2 b3) (by decide) (by decide)) (fun _ _ _ _ q => ⟨q.2.1, q.2.2.1⟩) (allS (List.mem_of_getElem? (i := 1) rfl) all0) rfl (Nat.le_of_eq rfl) rfl (by decide) (by decide) (pc' := 209) rfl ?_
    intro v108 h108 L108 q108
    obtain ⟨rfl, -, Kc108, ts, hts, Ss⟩ := q108
    refine g_astore at_209 rfl (L' := #[.val (.int p0), .val (.int p1), .val (.int p2), .val (.int p3), .val (.int p4), .val (.int 4), .val (.ref ca), .val (.ref x), .unset, .unset, .unset, .unset, .unset, .unset, .unset, .unset]) rfl (pc' := 211) rfl ?_
    refine g_iload at_211 rfl (pc' := 213) rfl ?_
    refine g_if_le_f at_213 (by decide) (pc' := 216) rfl ?_
    refine g_aload at_216 rfl rfl (pc' := 218) rfl ?_
    refine g_iconst at_218 (v := 0) rfl (pc' := 219) rfl ?_
    refine g_caload at_219 (((((((A_ca_9.keep Kn102 nin0).keep Kn103 nin0).keep Kw104 (ninS (Nat.ne_of_lt (Nat.lt_of_lt_of_le ((A_ca_9.keep Kn102 nin0)).lt (Nat.le_of_eq g103.symm))) nin0)).keep Kw105 (ninS (Nat.ne_of_lt (Nat.lt_of_lt_of_le ((A_ca_9.keep Kn102 nin0)).lt (Nat.le_of_eq g103.symm))) nin0)).keep Kw106 (ninS (Nat.ne_of_lt (Nat.lt_of_lt_of_le ((A_ca_9.keep Kn102 nin0)).lt (Nat.le_of_eq g103.symm))) nin0)).keep Kw107 (ninS (Nat.ne_of_lt (Nat.lt_of_lt_of_le ((A_ca_9.keep Kn102 nin0)).lt (Nat.le_of_eq g103.symm))) nin0)).keep Kc108 (ninS (Nat.ne_of_lt (Nat.lt_of_lt_of_le (A_ca_9).lt (Nat.le_of_eq g102.symm))) nin0)) (by decide) (i := 0) rfl rfl (pc' := 220) rfl ?_
    refine g_static (W := 0) (argsL := [(.int c0)]) (rest := []) at_220 (w_67 hw) (w_68 hw) (by decide) (lenOf pd_15 rfl) (c_ws hw c0 _) (w_69 hw) (w_4 hw) (by decide) (by decide) (fun _ q => nomatch q) rfl (Nat.le_of_eq rfl) rfl (by decide) (by decide) (pc' := 223) rfl ?_
    intro w109 h109 q109 Kc109
    obtain ⟨rfl, rfl⟩ := q109
    rcases Bool.eq_false_or_eq_true (isW c0) with f0 | f0
    ·
      refine g_if_ne_t at_223 (by rw [if_pos f0]; decide) (pc' := 230) (by decide) rfl ?_
      refine g_iconst at_230 (v := 0) rfl (pc' := 231) rfl ?_
      refine g_istore at_231 (L' := #[.val (.int p0), .val (.int p1), .val (.int p2), .val (.int p3), .val (.int p4), .val (.int 4), .val (.ref ca), .val (.ref x), .val (.int 0), .unset, .unset, .unset, .unset, .unset, .unset, .unset]) rfl (pc' := 233) rfl ?_
      refine g_iload at_233 rfl (pc' := 235) rfl ?_
      refine g_iconst at_235 (v := 1) rfl (pc' := 236) rfl ?_
      refine g_icmp_le_f at_236 (by decide) (pc' := 239) rfl ?_
      refine g_aload at_239 rfl rfl (pc' := 241) rfl ?_
      refine g_iconst at_241 (v := 1) rfl (pc' := 242) rfl ?_
      refine g_caload at_242 (((((((A_ca_9.keep Kn102 nin0).keep Kn103 nin0).keep Kw104 (ninS (Nat.ne_of_lt (Nat.lt_of_lt_of_le ((A_ca_9.keep Kn102 nin0)).lt (Nat.le_of_eq g103.symm))) nin0)).keep Kw105 (ninS (Nat.ne_of_lt (Nat.lt_of_lt_of_le ((A_ca_9.keep Kn102 nin0)).lt (Nat.le_of_eq g103.symm))) nin0)).keep Kw106 (ninS (Nat.ne_of_lt (Nat.lt_of_lt_of_le ((A_ca_9.keep Kn102 nin0)).lt (Nat.le_of_eq g103.symm))) nin0)).keep Kw107 (ninS (Nat.ne_of_lt (Nat.lt_of_lt_of_le ((A_ca_9.keep Kn102 nin0)).lt (Nat.le_of_eq g103.symm))) nin0)).keep Kc108 (ninS (Nat.ne_of_lt (Nat.lt_of_lt_of_le (A_ca_9).lt (Nat.le_of_eq g102.symm))) nin0)) (by decide) (i := 1) rfl rfl (pc' := 243) rfl ?_
      refine g_static (W := 0) (argsL := [(.int c1)]) (rest := []) at_243 (w_67 hw) (w_68 hw) (by decide) (lenOf pd_15 rfl) (c_ws hw c1 _) (w_69 hw) (w_4 hw) (by decide) (by decide) (fun _ q => nomatch q) rfl (Nat.le_of_eq rfl) rfl (by decide) (by decide) (pc' := 246) rfl ?_
      intro w110 h110 q110 Kc110
      obtain ⟨rfl, rfl⟩ := q110
      rcases Bool.eq_false_or_eq_true (isW c1) with f1 | f1
      ·
        refine g_if_ne_t at_246 (by rw [if_pos f1]; decide) (pc' := 253) (by decide) rfl ?_
        refine g_iconst at_253 (v := 0) rfl (pc' := 254) rfl ?_
        refine g_istore at_254 (L' := #[.val (.int p0), .val (.int p1), .val (.int p2), .val (.int p3), .val (.int p4), .val (.int 4), .val (.ref ca), .val (.ref x), .val (.int 0), .val (.int 0), .unset, .unset, .unset, .unset, .unset, .unset]) rfl (pc' := 256) rfl ?_
        refine g_iload at_256 rfl (pc' := 258) rfl ?_
        refine g_iconst at_258 (v := 2) rfl (pc' := 259) rfl ?_
        refine g_icmp_le_f at_259 (by decide) (pc' := 262) rfl ?_
        refine g_aload at_262 rfl rfl (pc' := 264) rfl ?_
        refine g_iconst at_264 (v := 2) rfl (pc' := 265) rfl ?_
        refine g_caload at_265 (((((((A_ca_9.keep Kn102 nin0).keep Kn103 nin0).keep Kw104 (ninS (Nat.ne_of_lt (Nat.lt_of_lt_of_le ((A_ca_9.keep Kn102 nin0)).lt (Nat.le_of_eq g103.symm))) nin0)).keep Kw105 (ninS (Nat.ne_of_lt (Nat.lt_of_lt_of_le ((A_ca_9.keep Kn102 nin0)).lt (Nat.le_of_eq g103.symm))) nin0)).keep Kw106 (ninS (Nat.ne_of_lt (Nat.lt_of_lt_of_le ((A_ca_9.keep Kn102 nin0)).lt (Nat.le_of_eq g103.symm))) nin0)).keep Kw107 (ninS (Nat.ne_of_lt (Nat.lt_of_lt_of_le ((A_ca_9.keep Kn102 nin0)).lt (Nat.le_of_eq g103.symm))) nin0)).keep Kc108 (ninS (Nat.ne_of_lt (Nat.lt_of_lt_of_le (A_ca_9).lt (Nat.le_of_eq g102.symm))) nin0)) (by decide) (i := 2) rfl rfl (pc' := 266) rfl ?_
        refine g_static (W := 0) (argsL := [(.int c2)]) (rest := []) at_266 (w_67 hw) (w_68 hw) (by decide) (lenOf pd_15 rfl) (c_ws hw c2 _) (w_69 hw) (w_4 hw) (by decide) (by decide) (fun _ q => nomatch q) rfl (Nat.le_of_eq rfl) rfl (by decide) (by decide) (pc' := 269) rfl ?_
        intro w111 h111 q111 Kc111
        obtain ⟨rfl, rfl⟩ := q111
        rcases Bool.eq_false_or_eq_true (isW c2) with f2 | f2
        ·
          refine g_if_ne_t at_269 (by rw [if_pos f2]; decide) (pc' := 276) (by decide) rfl ?_
          refine g_iconst at_276 (v := 0) rfl (pc' := 277) rfl ?_
          refine g_istore at_277 (L' := #[.val (.int p0), .val (.int p1), .val (.int p2), .val (.int p3), .val (.int p4), .val (.int 4), .val (.ref ca), .val (.ref x), .val (.int 0), .val (.int 0), .val (.int 0), .unset, .unset, .unset, .unset, .unset]) rfl (pc' := 279) rfl ?_
          refine g_iload at_279 rfl (pc' := 281) rfl ?_
          refine g_iconst at_281 (v := 3) rfl (pc' := 282) rfl ?_
          refine g_icmp_le_f at_282 (by decide) (pc' := 285) rfl ?_
          refine g_aload at_285 rfl rfl (pc' := 287) rfl ?_
          refine g_iconst at_287 (v := 3) rfl (pc' := 288) rfl ?_
          refine g_caload at_288 (((((((A_ca_9.keep Kn102 nin0).keep Kn103 nin0).keep Kw104 (ninS (Nat.ne_of_lt (Nat.lt_of_lt_of_le ((A_ca_9.keep Kn102 nin0)).lt (Nat.le_of_eq g103.symm))) nin0)).keep Kw105 (ninS (Nat.ne_of_lt (Nat.lt_of_lt_of_le ((A_ca_9.keep Kn102 nin0)).lt (Nat.le_of_eq g103.symm))) nin0)).keep Kw106 (ninS (Nat.ne_of_lt (Nat.lt_of_lt_of_le ((A_ca_9.keep Kn102 nin0)).lt (Nat.le_of_eq g103.symm))) nin0)).keep Kw107 (ninS (Nat.ne_of_lt (Nat.lt_of_lt_of_le ((A_ca_9.keep Kn102 nin0)).lt (Nat.le_of_eq g103.symm))) nin0)).keep Kc108 (ninS (Nat.ne_of_lt (Nat.lt_of_lt_of_le (A_ca_9).lt (Nat.le_of_eq g102.symm))) nin0)) (by decide) (i := 3) rfl rfl (pc' := 289) rfl ?_
          refine g_static (W := 0) (argsL := [(.int c3)]) (rest := []) at_289 (w_67 hw) (w_68 hw) (by decide) (lenOf pd_15 rfl) (c_ws hw c3 _) (w_69 hw) (w_4 hw) (by decide) (by decide) (fun _ q => nomatch q) rfl (Nat.le_of_eq rfl) rfl (by decide) (by decide) (pc' := 292) rfl ?_
          intro w112 h112 q112 Kc112
          obtain ⟨rfl, rfl⟩ := q112
          rcases Bool.eq_false_or_eq_true (isW c3) with f3 | f3
          ·
            refine g_if_ne_t at_292 (by rw [if_pos f3]; decide) (pc' := 299) (by decide) rfl ?_
            refine g_iconst at_299 (v := 0) rfl (pc' := 300) rfl ?_
            refine g_istore at_300 (L' := #[.val (.int p0), .val (.int p1), .val (.int p2), .val (.int p3), .val (.int p4), .val (.int 4), .val (.ref ca), .val (.ref x), .val (.int 0), .val (.int 0), .val (.int 0), .val (.int 0), .unset, .unset, .unset, .unset]) rfl (pc' := 302) rfl ?_
            refine g_iload at_302 rfl (pc' := 304) rfl ?_
            refine g_if_eq_t at_304 rfl (pc' := 313) (by decide) rfl ?_
            refine g_iload at_313 rfl (pc' := 315) rfl ?_
            refine g_if_eq_t at_315 rfl (pc' := 324) (by decide) rfl ?_
            refine g_iload at_324 rfl (pc' := 326) rfl ?_
            refine g_if_eq_t at_326 rfl (pc' := 335) (by decide) rfl ?_
            refine g_iload at_335 rfl (pc' := 337) rfl ?_
            refine g_if_eq_t at_337 rfl (pc' := 346) (by decide) rfl ?_
            refine g_iload at_346 rfl (pc' := 348) rfl ?_
            refine g_istore at_348 (L' := #[.val (.int p0), .val (.int p1), .val (.int p2), .val (.int p3), .val (.int p4), .val (.int 4), .val (.ref ca), .val (.ref x), .val (.int 0), .val (.int 0), .val (.int 0), .val (.int 0), .val (.int 4), .unset, .unset, .unset]) rfl (pc' := 350) rfl ?_
            refine g_iload at_350 rfl (pc' := 352) rfl ?_
            refine g_if_eq_t at_352 rfl (pc' := 361) (by decide) rfl ?_
            refine g_iload at_361 rfl (pc' := 363) rfl ?_
            refine g_if_eq_t at_363 rfl (pc' := 372) (by decide) rfl ?_
            refine g_iload at_372 rfl (pc' := 374) rfl ?_
            refine g_if_eq_t at_374 rfl (pc' := 383) (by decide) rfl ?_
            refine g_iload at_383 rfl (pc' := 385) rfl ?_
            refine g_if_eq_t at_385 rfl (pc' := 394) (by decide) rfl ?_
            refine g_iload at_394 rfl (pc' := 396) rfl ?_
            refine g_istore at_396 (L' := #[.val (.int p0), .val (.int p1), .val (.int p2), .val (.int p3), .val (.int p4), .val (.int 4), .val (.ref ca), .val (.ref x), .val (.int 0), .val (.int 0), .val (.int 0), .val (.int 0), .val (.int 4), .val (.int 4), .unset, .unset]) rfl (pc' := 398) rfl ?_
            refine g_aload at_398 rfl rfl (pc' := 400) rfl ?_
            refine g_static (W := 0) (argsL := [(.ref x)]) (rest := []) at_400 (w_27 hw) (w_28 hw) (by decide) (lenOf pd_17 rfl) (c_trim hw x _ _ z sf _ hC hz hF rsf Ss (Nat.le_of_ble_eq_true rfl)) (w_30 hw) (w_29 hw) (by decide) (by decide) (fun _ q => nomatch q) rfl (Nat.le_of_eq rfl) rfl (by decide) (by decide) (pc' := 403) rfl ?_
            intro w113 h113 q113 Kc113
            obtain ⟨sr, tr, rfl, Sr⟩ := q113
            have e113 : trimL [c0, c1, c2, c3] = [] := by simp [trimL, List.dropWhile, f0, f1, f2, f3]
            rw [e113] at Sr
            refine g_astore at_403 rfl (L' := #[.val (.int p0), .val (.int p1), .val (.int p2), .val (.int p3), .val (.int p4), .val (.int 4), .val (.ref ca), .val (.ref x), .val (.int 0), .val (.int 0), .val (.int 0), .val (.int 0), .val (.int 4), .val (.int 4), .val (.ref sr), .unset]) rfl (pc' := 405) rfl ?_
            refine g_aload at_405 rfl rfl (pc' := 407) rfl ?_
            refine g_virt (W := 0) (argsL := []) (rest := []) at_407 (w_56 hw) (w_32 hw) (nf_self (w_34 hw)) (w_34 hw) (w_33 hw) (by decide) (lenOf pd_10 rfl) Sr.1 (c_lenN hw sr tr _ 0 z _ hC hz Sr rfl) (w_35 hw) (w_8 hw) (by decide) (by decide) (fun _ q => nomatch q) rfl (Nat.le_of_eq rfl) rfl (by decide) (by decide) (pc' := 410) rfl ?_
            intro w114 h114 q114 Kc114
            obtain ⟨rfl, rfl⟩ := q114
            refine g_iload at_410 rfl (pc' := 412) rfl ?_
            refine g_iload at_412 rfl (pc' := 414) rfl ?_
            refine g_isub at_414 (v := 0) rfl (pc' := 415) rfl ?_
            refine g_icmp_eq_t at_415 rfl (pc' := 420) (by decide) rfl ?_
            refine g_aload at_420 rfl rfl (pc' := 422) rfl ?_
            refine g_virt (W := 0) (argsL := []) (rest := []) at_422 (w_56 hw) (w_32 hw) (nf_self (w_34 hw)) (w_34 hw) (w_33 hw) (by decide) (lenOf pd_10 rfl) Sr.1 (c_lenN hw sr tr _ 0 z _ hC hz Sr rfl) (w_35 hw) (w_8 hw) (by decide) (by decide) (fun _ q => nomatch q) rfl (Nat.le_of_eq rfl) rfl (by decide) (by decide) (pc' := 425) rfl ?_
            intro w115 h115 q115 Kc115
            obtain ⟨rfl, rfl⟩ := q115
            refine g_istore at_425 (L' := #[.val (.int p0), .val (.int p1), .val (.int p2), .val (.int p3), .val (.int p4), .val (.int 4), .val (.ref ca), .val (.ref x), .val (.int 0), .val (.int 0), .val (.int 0), .val (.int 0), .val (.int 4), .val (.int 4), .val (.ref sr), .val (.int 0)]) rfl (pc' := 427) rfl ?_
            refine g_iload at_427 rfl (pc' := 429) rfl ?_
            refine g_if_le_t at_429 (by decide) (pc' := 446) (by decide) rfl ?_
            refine g_iload at_446 rfl (pc' := 448) rfl ?_
            refine g_iconst at_448 (v := 1) rfl (pc' := 449) rfl ?_
            refine g_icmp_le_t at_449 (by decide) (pc' := 468) (by decide) rfl ?_
            refine g_iload at_468 rfl (pc' := 470) rfl ?_
            refine g_iconst at_470 (v := 2) rfl (pc' := 471) rfl ?_
            refine g_icmp_le_t at_471 (by decide) (pc' := 490) (by decide) rfl ?_
            refine g_iload at_490 rfl (pc' := 492) rfl ?_
            refine g_iconst at_492 (v := 3) rfl (pc' := 493) rfl ?_
            refine g_icmp_le_t at_493 (by decide) (pc' := 512) (by decide) rfl ?_
            refine g_iconst at_512 (v := 1) rfl (pc' := 513) rfl ?_
            refine g_goto at_513 (pc' := 517) (by decide) rfl ?_
            exact g_ireturnN at_517 rfl (by simp) (z := 1) rfl rfl (by decide) (by decide)
          ·
            refine g_if_ne_f at_292 (if_neg (by rw [f3]; decide)) (pc' := 295) rfl ?_
            refine g_iconst at_295 (v := 1) rfl (pc' := 296) rfl ?_
            refine g_goto at_296 (pc' := 300) (by decide) rfl ?_
            refine g_istore at_300 (L' := #[.val (.int p0), .val (.int p1), .val (.int p2), .val (.int p3), .val (.int p4), .val (.int 4), .val (.ref ca), .val (.ref x), .val (.int 0), .val (.int 0), .val (.int 0), .val (.int 1), .unset, .unset, .unset, .unset]) rfl (pc' := 302) rfl ?_
            refine g_iload at_302 rfl (pc' := 304) rfl ?_
            refine g_if_eq_t at_304 rfl (pc' := 313) (by decide) rfl ?_
            refine g_iload at_313 rfl (pc' := 315) rfl ?_
            refine g_if_eq_t at_315 rfl (pc' := 324) (by decide) rfl ?_
            refine g_iload at_324 rfl (pc' := 326) rfl ?_
            refine g_if_eq_t at_326 rfl (pc' := 335) (by decide) rfl ?_
            refine g_iload at_335 rfl (pc' := 337) rfl ?_
            refine g_if_eq_f at_337 (by decide) (pc' := 340) rfl ?_
            refine g_iconst at_340 (v := 3) rfl (pc' := 341) rfl ?_
            refine g_istore at_341 (L' := #[.val (.int p0), .val (.int p1), .val (.int p2), .val (.int p3), .val (.int p4), .val (.int 4), .val (.ref ca), .val (.ref x), .val (.int 0), .val (.int 0), .val (.int 0), .val (.int 1), .val (.int 3), .unset, .unset, .unset]) rfl (pc' := 343) rfl ?_
            refine g_goto at_343 (pc' := 350) (by decide) rfl ?_
            refine g_iload at_350 rfl (pc' := 352) rfl ?_
            refine g_if_eq_f at_352 (by decide) (pc' := 355) rfl ?_
            refine g_iconst at_355 (v := 4) rfl (pc' := 356) rfl ?_
            refine g_istore at_356 (L' := #[.val (.int p0), .val (.int p1), .val (.int p2), .val (.int p3), .val (.int p4), .val (.int 4), .val (.ref ca), .val (.ref x), .val (.int 0), .val (.int 0), .val (.int 0), .val (.int 1), .val (.int 3), .val (.int 4), .unset, .unset]) rfl (pc' := 358) rfl ?_
            refine g_goto at_358 (pc' := 398) (by decide) rfl ?_
            refine g_aload at_398 rfl rfl (pc' := 400) rfl ?_
            refine g_static (W := 0) (argsL := [(.ref x)]) (rest := []) at_400 (w_27 hw) (w_28 hw) (by decide) (lenOf pd_17 rfl) (c_trim hw x _ _ z sf _ hC hz hF rsf Ss (Nat.le_of_ble_eq_true rfl)) (w_30 hw) (w_29 hw) (by decide) (by decide) (fun _ q => nomatch q) rfl (Nat.le_of_eq rfl) rfl (by decide) (by decide) (pc' := 403) rfl ?_
            intro w116 h116 q116 Kc116
            obtain ⟨sr, tr, rfl, Sr⟩ := q116
            have e116 : trimL [c0, c1, c2, c3] = [c3] := by simp [trimL, List.dropWhile, f0, f1, f2, f3]
            rw [e116] at Sr
            refine g_astore at_403 rfl (L' := #[.val (.int p0), .val (.int p1), .val (.int p2), .val (.int p3), .val (.int p4), .val (.int 4), .val (.ref ca), .val (.ref x), .val (.int 0), .val (.int 0), .val (.int 0), .val (.int 1), .val (.int 3), .val (.int 4), .val (.ref sr), .unset]) rfl (pc' := 405) rfl ?_
            refine g_aload at_405 rfl rfl (pc' := 407) rfl ?_
            refine g_virt (W := 0) (argsL := []) (rest := []) at_407 (w_56 hw) (w_32 hw) (nf_self (w_34 hw)) (w_34 hw) (w_33 hw) (by decide) (lenOf pd_10 rfl) Sr.1 (c_lenN hw sr tr _ 1 z _ hC hz Sr rfl) (w_35 hw) (w_8 hw) (by decide) (by decide) (fun _ q => nomatch q) rfl (Nat.le_of_eq rfl) rfl (by decide) (by decide) (pc' := 410) rfl ?_
            intro w117 h117 q117 Kc117
            obtain ⟨rfl, rfl⟩ := q117
            refine g_iload at_410 rfl (pc' := 412) rfl ?_
            refine g_iload at_412 rfl (pc' := 414) rfl ?_
            refine g_isub at_414 (v := 1) rfl (pc' := 415) rfl ?_
            refine g_icmp_eq_t at_415 rfl (pc' := 420) (by decide) rfl ?_
            refine g_aload at_420 rfl rfl (pc' := 422) rfl ?_
            refine g_virt (W := 0) (argsL := []) (rest := []) at_422 (w_56 hw) (w_32 hw) (nf_self (w_34 hw)) (w_34 hw) (w_33 hw) (by decide) (lenOf pd_10 rfl) Sr.1 (c_lenN hw sr tr _ 1 z _ hC hz Sr rfl) (w_35 hw) (w_8 hw) (by decide) (by decide) (fun _ q => nomatch q) rfl (Nat.le_of_eq rfl) rfl (by decide) (by decide) (pc' := 425) rfl ?_
            intro w118 h118 q118 Kc118
            obtain ⟨rfl, rfl⟩ := q118
            refine g_istore at_425 (L' := #[.val (.int p0), .val (.int p1), .val (.int p2), .val (.int p3), .val (.int p4), .val (.int 4), .val (.ref ca), .val (.ref x), .val (.int 0), .val (.int 0), .val (.int 0), .val (.int 1), .val (.int 3), .val (.int 4), .val (.ref sr), .val (.int 1)]) rfl (pc' := 427) rfl ?_
            refine g_iload at_427 rfl (pc' := 429) rfl ?_
            refine g_if_le_f at_429 (by decide) (pc' := 432) rfl ?_
            refine g_aload at_432 rfl rfl (pc' := 434) rfl ?_
            refine g_iconst at_434 (v := 0) rfl (pc' := 435) rfl ?_
            refine g_virt (W := 0) (argsL := [(.int 0)]) (rest := []) at_435 (w_118 hw) (w_71 hw) (nf_self (w_73 hw)) (w_73 hw) (w_72 hw) (by decide) (lenOf pd_14 rfl) Sr.1 (c_charat hw sr tr _ 0 c3 z sf _ hC hz hF rsf Sr rfl) (w_74 hw) (w_8 hw) (by decide) (by decide) (fun _ q => nomatch q) rfl (Nat.le_of_eq rfl) rfl (by decide) (by decide) (pc' := 438) rfl ?_
            intro w119 h119 q119 Kc119
            obtain ⟨rfl, rfl⟩ := q119
            refine g_aload at_438 rfl rfl (pc' := 440) rfl ?_
            refine g_iload at_440 rfl (pc' := 442) rfl ?_
            refine g_caload at_442 ((((((((A_ca_9.keep Kn102 nin0).keep Kn103 nin0).keep Kw104 (ninS (Nat.ne_of_lt (Nat.lt_of_lt_of_le ((A_ca_9.keep Kn102 nin0)).lt (Nat.le_of_eq g103.symm))) nin0)).keep Kw105 (ninS (Nat.ne_of_lt (Nat.lt_of_lt_of_le ((A_ca_9.keep Kn102 nin0)).lt (Nat.le_of_eq g103.symm))) nin0)).keep Kw106 (ninS (Nat.ne_of_lt (Nat.lt_of_lt_of_le ((A_ca_9.keep Kn102 nin0)).lt (Nat.le_of_eq g103.symm))) nin0)).keep Kw107 (ninS (Nat.ne_of_lt (Nat.lt_of_lt_of_le ((A_ca_9.keep Kn102 nin0)).lt (Nat.le_of_eq g103.symm))) nin0)).keep Kc108 (ninS (Nat.ne_of_lt (Nat.lt_of_lt_of_le (A_ca_9).lt (Nat.le_of_eq g102.symm))) nin0)).keep Kc116 nin0) (by decide) (i := 3) rfl rfl (pc' := 443) rfl ?_
            refine g_icmp_ne_f at_443 rfl (pc' := 446) rfl ?_
            refine g_iload at_446 rfl (pc' := 448) rfl ?_
            refine g_iconst at_448 (v := 1) rfl (pc' := 449) rfl ?_
            refine g_icmp_le_t at_449 (by decide) (pc' := 468) (by decide) rfl ?_
            refine g_iload at_468 rfl (pc' := 470) rfl ?_
            refine g_iconst at_470 (v := 2) rfl (pc' := 471) rfl ?_
            refine g_icmp_le_t at_471 (by decide) (pc' := 490) (by decide) rfl ?_
            refine g_iload at_490 rfl (pc' := 492) rfl ?_
            refine g_iconst at_492 (v := 3) rfl (pc' := 493) rfl ?_
            refine g_icmp_le_t at_493 (by decide) (pc' := 512) (by decide) rfl ?_
            refine g_iconst at_512 (v := 1) rfl (pc' := 513) rfl ?_
            refine g_goto at_513 (pc' := 517) (by decide) rfl ?_
            exact g_ireturnN at_517 rfl (by simp) (z := 1) rfl rfl (by decide) (by decide)
        ·
          refine g_if_ne_f at_269 (if_neg (by rw [f2]; decide)) (pc' := 272) rfl ?_
          refine g_iconst at_272 (v := 1) rfl (pc' := 273) rfl ?_
          refine g_goto at_273 (pc' := 277) (by decide) rfl ?_
          refine g_istore at_277 (L' := #[.val (.int p0), .val (.int p1), .val (.int p2), .val (.int p3), .val (.int p4), .val (.int 4), .val (.ref ca), .val (.ref x), .val (.int 0), .val (.int 0), .val (.int 1), .unset, .unset, .unset, .unset, .unset]) rfl (pc' := 279) rfl ?_
          refine g_iload at_279 rfl (pc' := 281) rfl ?_
          refine g_iconst at_281 (v := 3) rfl (pc' := 282) rfl ?_
          refine g_icmp_le_f at_282 (by decide) (pc' := 285) rfl ?_
          refine g_aload at_285 rfl rfl (pc' := 287) rfl ?_
          refine g_iconst at_287 (v := 3) rfl (pc' := 288) rfl ?_
          refine g_caload at_288 (((((((A_ca_9.keep Kn102 nin0).keep Kn103 nin0).keep Kw104 (ninS (Nat.ne_of_lt (Nat.lt_of_lt_of_le ((A_ca_9.keep Kn102 nin0)).lt (Nat.le_of_eq g103.symm))) nin0)).keep Kw105 (ninS (Nat.ne_of_lt (Nat.lt_of_lt_of_le ((A_ca_9.keep Kn102 nin0)).lt (Nat.le_of_eq g103.symm))) nin0)).keep Kw106 (ninS (Nat.ne_of_lt (Nat.lt_of_lt_of_le ((A_ca_9.keep Kn102 nin0)).lt (Nat.le_of_eq g103.symm))) nin0)).keep Kw107 (ninS (Nat.ne_of_lt (Nat.lt_of_lt_of_le ((A_ca_9.keep Kn102 nin0)).lt (Nat.le_of_eq g103.symm))) nin0)).keep Kc108 (ninS (Nat.ne_of_lt (Nat.lt_of_lt_of_le (A_ca_9).lt (Nat.le_of_eq g102.symm))) nin0)) (by decide) (i := 3) rfl rfl (pc' := 289) rfl ?_
          refine g_static (W := 0) (argsL := [(.int c3)]) (rest := []) at_289 (w_67 hw) (w_68 hw) (by decide) (lenOf pd_15 rfl) (c_ws hw c3 _) (w_69 hw) (w_4 hw) (by decide) (by decide) (fun _ q => nomatch q) rfl (Nat.le_of_eq rfl) rfl (by decide) (by decide) (pc' := 292) rfl ?_
          intro w120 h120 q120 Kc120
          obtain ⟨rfl, rfl⟩ := q120
          rcases Bool.eq_false_or_eq_true (isW c3) with f3 | f3
          ·
            refine g_if_ne_t at_292 (by rw [if_pos f3]; decide) (pc' := 299) (by decide) rfl ?_
            refine g_iconst at_299 (v := 0) rfl (pc' := 300) rfl ?_
            refine g_istore at_300 (L' := #[.val (.int p0), .val (.int p1), .val (.int p2), .val (.int p3), .val (.int p4), .val (.int 4), .val (.ref ca), .val (.ref x), .val (.int 0), .val (.int 0), .val (.int 1), .val (.int 0), .unset, .unset, .unset, .unset]) rfl (pc' := 302) rfl ?_
            refine g_iload at_302 rfl (pc' := 304) rfl ?_
            refine g_if_eq_t at_304 rfl (pc' := 313) (by decide) rfl ?_
            refine g_iload at_313 rfl (pc' := 315) rfl ?_
            refine g_if_eq_t at_315 rfl (pc' := 324) (by decide) rfl ?_
            refine g_iload at_324 rfl (pc' := 326) rfl ?_
            refine g_if_eq_f at_326 (by decide) (pc' := 329) rfl ?_
            refine g_iconst at_329 (v := 2) rfl (pc' := 330) rfl ?_
            refine g_istore at_330 (L' := #[.val (.int p0), .val (.int p1), .val (.int p2), .val (.int p3), .val (.int p4), .val (.int 4), .val (.ref ca), .val (.ref x), .val (.int 0), .val (.int 0), .val (.int 1), .val (.int 0), .val (.int 2), .unset, .unset, .unset]) rfl (pc' := 332) rfl ?_
            refine g_goto at_332 (pc' := 350) (by decide) rfl ?_
            refine g_iload at_350 rfl (pc' := 352) rfl ?_
            refine g_if_eq_t at_352 rfl (pc' := 361) (by decide) rfl ?_
            refine g_iload at_361 rfl (pc' := 363) rfl ?_
            refine g_if_eq_f at_363 (by decide) (pc' := 366) rfl ?_
            refine g_iconst at_366 (v := 3) rfl (pc' := 367) rfl ?_
            refine g_istore at_367 (L' := #[.val (.int p0), .val (.int p1), .val (.int p2), .val (.int p3), .val (.int p4), .val (.int 4), .val (.ref ca), .val (.ref x), .val (.int 0), .val (.int 0), .val (.int 1), .val (.int 0), .val (.int 2), .val (.int 3), .unset, .unset]) rfl (pc' := 369) rfl ?_
            refine g_goto at_369 (pc' := 398) (by decide) rfl ?_
            refine g_aload at_398 rfl rfl (pc' := 400) rfl ?_
            refine g_static (W := 0) (argsL := [(.ref x)]) (rest := []) at_400 (w_27 hw) (w_28 hw) (by decide) (lenOf pd_17 rfl) (c_trim hw x _ _ z sf _ hC hz hF rsf Ss (Nat.le_of_ble_eq_true rfl)) (w_30 hw) (w_29 hw) (by decide) (by decide) (fun _ q => nomatch q) rfl (Nat.le_of_eq rfl) rfl (by decide) (by decide) (pc' := 403) rfl ?_
            intro w121 h121 q121 Kc121
            obtain ⟨sr, tr, rfl, Sr⟩ := q121
            have e121 : trimL [c0, c1, c2, c3] = [c2] := by simp [trimL, List.dropWhile, f0, f1, f2, f3]
            rw [e121] at Sr
            refine g_astore at_403 rfl (L' := #[.val (.int p0), .val (.int p1), .val (.int p2), .val (.int p3), .val (.int p4), .val (.int 4), .val (.ref ca), .val (.ref x), .val (.int 0), .val (.int 0), .val (.int 1), .val (.int 0), .val (.int 2), .val (.int 3), .val (.ref sr), .unset]) rfl (pc' := 405) rfl ?_
            refine g_aload at_405 rfl rfl (pc' := 407) rfl ?_
            refine g_virt (W := 0) (argsL := []) (rest := []) at_407 (w_56 hw) (w_32 hw) (nf_self (w_34 hw)) (w_34 hw) (w_33 hw) (by decide) (lenOf pd_10 rfl) Sr.1 (c_lenN hw sr tr _ 1 z _ hC hz Sr rfl) (w_35 hw) (w_8 hw) (by decide) (by decide) (fun _ q => nomatch q) rfl (Nat.le_of_eq rfl) rfl (by decide) (by decide) (pc' := 410) rfl ?_
            intro w122 h122 q122 Kc122
            obtain ⟨rfl, rfl⟩ := q122
            refine g_iload at_410 rfl (pc' := 412) rfl ?_
            refine g_iload at_412 rfl (pc' := 414) rfl ?_
            refine g_isub at_414 (v := 1) rfl (pc' := 415) rfl ?_
            refine g_icmp_eq_t at_415 rfl (pc' := 420) (by decide) rfl ?_
            refine g_aload at_420 rfl rfl (pc' := 422) rfl ?_
            refine g_virt (W := 0) (argsL := []) (rest := []) at_422 (w_56 hw) (w_32 hw) (nf_self (w_34 hw)) (w_34 hw) (w_33 hw) (by decide) (lenOf pd_10 rfl) Sr.1 (c_lenN hw sr tr _ 1 z _ hC hz Sr rfl) (w_35 hw) (w_8 hw) (by decide) (by decide) (fun _ q => nomatch q) rfl (Nat.le_of_eq rfl) rfl (by decide) (by decide) (pc' := 425) rfl ?_
            intro w123 h123 q123 Kc123
            obtain ⟨rfl, rfl⟩ := q123
            refine g_istore at_425 (L' := #[.val (.int p0), .val (.int p1), .val (.int p2), .val (.int p3), .val (.int p4), .val (.int 4), .val (.ref ca), .val (.ref x), .val (.int 0), .val (.int 0), .val (.int 1), .val (.int 0), .val (.int 2), .val (.int 3), .val (.ref sr), .val (.int 1)]) rfl (pc' := 427) rfl ?_
            refine g_iload at_427 rfl (pc' := 429) rfl ?_
            refine g_if_le_f at_429 (by decide) (pc' := 432) rfl ?_
            refine g_aload at_432 rfl rfl (pc' := 434) rfl ?_
            refine g_iconst at_434 (v := 0) rfl (pc' := 435) rfl ?_
            refine g_virt (W := 0) (argsL := [(.int 0)]) (rest := []) at_435 (w_118 hw) (w_71 hw) (nf_self (w_73 hw)) (w_73 hw) (w_72 hw) (by decide) (lenOf pd_14 rfl) Sr.1 (c_charat hw sr tr _ 0 c2 z sf _ hC hz hF rsf Sr rfl) (w_74 hw) (w_8 hw) (by decide) (by decide) (fun _ q => nomatch q) rfl (Nat.le_of_eq rfl) rfl (by decide) (by decide) (pc' := 438) rfl ?_
            intro w124 h124 q124 Kc124
            obtain ⟨rfl, rfl⟩ := q124
            refine g_aload at_438 rfl rfl (pc' := 440) rfl ?_
            refine g_iload at_440 rfl (pc' := 442) rfl ?_
            refine g_caload at_442 ((((((((A_ca_9.keep Kn102 nin0).keep Kn103 nin0).keep Kw104 (ninS (Nat.ne_of_lt (Nat.lt_of_lt_of_le ((A_ca_9.keep Kn102 nin0)).lt (Nat.le_of_eq g103.symm))) nin0)).keep Kw105 (ninS (Nat.ne_of_lt (Nat.lt_of_lt_of_le ((A_ca_9.keep Kn102 nin0)).lt (Nat.le_of_eq g103.symm))) nin0)).keep Kw106 (ninS (Nat.ne_of_lt (Nat.lt_of_lt_of_le ((A_ca_9.keep Kn102 nin0)).lt (Nat.le_of_eq g103.symm))) nin0)).keep Kw107 (ninS (Nat.ne_of_lt (Nat.lt_of_lt_of_le ((A_ca_9.keep Kn102 nin0)).lt (Nat.le_of_eq g103.symm))) nin0)).keep Kc108 (ninS (Nat.ne_of_lt (Nat.lt_of_lt_of_le (A_ca_9).lt (Nat.le_of_eq g102.symm))) nin0)).keep Kc121 nin0) (by decide) (i := 2) rfl rfl (pc' := 443) rfl ?_
            refine g_icmp_ne_f at_443 rfl (pc' := 446) rfl ?_
            refine g_iload at_446 rfl (pc' := 448) rfl ?_
            refine g_iconst at_448 (v := 1) rfl (pc' := 449) rfl ?_
            refine g_icmp_le_t at_449 (by decide) (pc' := 468) (by decide) rfl ?_
            refine g_iload at_468 rfl (pc' := 470) rfl ?_
            refine g_iconst at_470 (v := 2) rfl (pc' := 471) rfl ?_
            refine g_icmp_le_t at_471 (by decide) (pc' := 490) (by decide) rfl ?_
            refine g_iload at_490 rfl (pc' := 492) rfl ?_
            refine g_iconst at_492 (v := 3) rfl (pc' := 493) rfl ?_
            refine g_icmp_le_t at_493 (by decide) (pc' := 512) (by decide) rfl ?_
            refine g_iconst at_512 (v := 1) rfl (pc' := 513) rfl ?_
            refine g_goto at_513 (pc' := 517) (by decide) rfl ?_
            exact g_ireturnN at_517 rfl (by simp) (z := 1) rfl rfl (by decide) (by decide)
          ·
            refine g_if_ne_f at_292 (if_neg (by rw [f3]; decide)) (pc' := 295) rfl ?_
            refine g_iconst at_295 (v := 1) rfl (pc' := 296) rfl ?_
            refine g_goto at_296 (pc' := 300) (by decide) rfl ?_
            refine g_istore at_300 (L' := #[.val (.int p0), .val (.int p1), .val (.int p2), .val (.int p3), .val (.int p4), .val (.int 4), .val (.ref ca), .val (.ref x), .val (.int 0), .val (.int 0), .val (.int 1), .val (.int 1), .unset, .unset, .unset, .unset]) rfl (pc' := 302) rfl ?_
            refine g_iload at_302 rfl (pc' := 304) rfl ?_
            refine g_if_eq_t at_304 rfl (pc' := 313) (by decide) rfl ?_
            refine g_iload at_313 rfl (pc' := 315) rfl ?_
            refine g_if_eq_t at_315 rfl (pc' := 324) (by decide) rfl ?_
            refine g_iload at_324 rfl (pc' := 326) rfl ?_
            refine g_if_eq_f at_326 (by decide) (pc' := 329) rfl ?_
            refine g_iconst at_329 (v := 2) rfl (pc' := 330) rfl ?_
            refine g_istore at_330 (L' := #[.val (.int p0), .val (.int p1), .val (.int p2), .val (.int p3), .val (.int p4), .val (.int 4), .val (.ref ca), .val (.ref x), .val (.int 0), .val (.int 0), .val (.int 1), .val (.int 1), .val (.int 2), .unset, .unset, .unset]) rfl (pc' := 332) rfl ?_
            refine g_goto at_332 (pc' := 350) (by decide) rfl ?_
            refine g_iload at_350 rfl (pc' := 352) rfl ?_
            refine g_if_eq_f at_352 (by decide) (pc' := 355) rfl ?_
            refine g_iconst at_355 (v := 4) rfl (pc' := 356) rfl ?_
            refine g_istore at_356 (L' := #[.val (.int p0), .val (.int p1), .val (.int p2), .val (.int p3), .val (.int p4), .val (.int 4), .val (.ref ca), .val (.ref x), .val (.int 0), .val (.int 0), .val (.int 1), .val (.int 1), .val (.int 2), .val (.int 4), .unset, .unset]) rfl (pc' := 358) rfl ?_
            refine g_goto at_358 (pc' := 398) (by decide) rfl ?_
            refine g_aload at_398 rfl rfl (pc' := 400) rfl ?_
            refine g_static (W := 0) (argsL := [(.ref x)]) (rest := []) at_400 (w_27 hw) (w_28 hw) (by decide) (lenOf pd_17 rfl) (c_trim hw x _ _ z sf _ hC hz hF rsf Ss (Nat.le_of_ble_eq_true rfl)) (w_30 hw) (w_29 hw) (by decide) (by decide) (fun _ q => nomatch q) rfl (Nat.le_of_eq rfl) rfl (by decide) (by decide) (pc' := 403) rfl ?_
            intro w125 h125 q125 Kc125
            obtain ⟨sr, tr, rfl, Sr⟩ := q125
            have e125 : trimL [c0, c1, c2, c3] = [c2, c3] := by simp [trimL, List.dropWhile, f0, f1, f2, f3]
            rw [e125] at Sr
            refine g_astore at_403 rfl (L' := #[.val (.int p0), .val (.int p1), .val (.int p2), .val (.int p3), .val (.int p4), .val (.int 4), .val (.ref ca), .val (.ref x), .val (.int 0), .val (.int 0), .val (.int 1), .val (.int 1), .val (.int 2), .val (.int 4), .val (.ref sr), .unset]) rfl (pc' := 405) rfl ?_
            refine g_aload at_405 rfl rfl (pc' := 407) rfl ?_
            refine g_virt (W := 0) (argsL := []) (rest := []) at_407 (w_56 hw) (w_32 hw) (nf_self (w_34 hw)) (w_34 hw) (w_33 hw) (by decide) (lenOf pd_10 rfl) Sr.1 (c_lenN hw sr tr _ 2 z _ hC hz Sr rfl) (w_35 hw) (w_8 hw) (by decide) (by decide) (fun _ q => nomatch q) rfl (Nat.le_of_eq rfl) rfl (by decide) (by decide) (pc' := 410) rfl ?_
            intro w126 h126 q126 Kc126
            obtain ⟨rfl, rfl⟩ := q126
            refine g_iload at_410 rfl (pc' := 412) rfl ?_
            refine g_iload at_412 rfl (pc' := 414) rfl ?_
            refine g_isub at_414 (v := 2) rfl (pc' := 415) rfl ?_
            refine g_icmp_eq_t at_415 rfl (pc' := 420) (by decide) rfl ?_
            refine g_aload at_420 rfl rfl (pc' := 422) rfl ?_
            refine g_virt (W := 0) (argsL := []) (rest := []) at_422 (w_56 hw) (w_32 hw) (nf_self (w_34 hw)) (w_34 hw) (w_33 hw) (by decide) (lenOf pd_10 rfl) Sr.1 (c_lenN hw sr tr _ 2 z _ hC hz Sr rfl) (w_35 hw) (w_8 hw) (by decide) (by decide) (fun _ q => nomatch q) rfl (Nat.le_of_eq rfl) rfl (by decide) (by decide) (pc' := 425) rfl ?_
            intro w127 h127 q127 Kc127
            obtain ⟨rfl, rfl⟩ := q127
            refine g_istore at_425 (L' := #[.val (.int p0), .val (.int p1), .val (.int p2), .val (.int p3), .val (.int p4), .val (.int 4), .val (.ref ca), .val (.ref x), .val (.int 0), .val (.int 0), .val (.int 1), .val (.int 1), .val (.int 2), .val (.int 4), .val (.ref sr), .val (.int 2)]) rfl (pc' := 427) rfl ?_
            refine g_iload at_427 rfl (pc' := 429) rfl ?_
            refine g_if_le_f at_429 (by decide) (pc' := 432) rfl ?_
            refine g_aload at_432 rfl rfl (pc' := 434) rfl ?_
            refine g_iconst at_434 (v := 0) rfl (pc' := 435) rfl ?_
            refine g_virt (W := 0) (argsL := [(.int 0)]) (rest := []) at_435 (w_118 hw) (w_71 hw) (nf_self (w_73 hw)) (w_73 hw) (w_72 hw) (by decide) (lenOf pd_14 rfl) Sr.1 (c_charat hw sr tr _ 0 c2 z sf _ hC hz hF rsf Sr rfl) (w_74 hw) (w_8 hw) (by decide) (by decide) (fun _ q => nomatch q) rfl (Nat.le_of_eq rfl) rfl (by decide) (by decide) (pc' := 438) rfl ?_
            intro w128 h128 q128 Kc128
            obtain ⟨rfl, rfl⟩ := q128
            refine g_aload at_438 rfl rfl (pc' := 440) rfl ?_
            refine g_iload at_440 rfl (pc' := 442) rfl ?_
            refine g_caload at_442 ((((((((A_ca_9.keep Kn102 nin0).keep Kn103 nin0).keep Kw104 (ninS (Nat.ne_of_lt (Nat.lt_of_lt_of_le ((A_ca_9.keep Kn102 nin0)).lt (Nat.le_of_eq g103.symm))) nin0)).keep Kw105 (ninS (Nat.ne_of_lt (Nat.lt_of_lt_of_le ((A_ca_9.keep Kn102 nin0)).lt (Nat.le_of_eq g103.symm))) nin0)).keep Kw106 (ninS (Nat.ne_of_lt (Nat.lt_of_lt_of_le ((A_ca_9.keep Kn102 nin0)).lt (Nat.le_of_eq g103.symm))) nin0)).keep Kw107 (ninS (Nat.ne_of_lt (Nat.lt_of_lt_of_le ((A_ca_9.keep Kn102 nin0)).lt (Nat.le_of_eq g103.symm))) nin0)).keep Kc108 (ninS (Nat.ne_of_lt (Nat.lt_of_lt_of_le (A_ca_9).lt (Nat.le_of_eq g102.symm))) nin0)).keep Kc125 nin0) (by decide) (i := 2) rfl rfl (pc' := 443) rfl ?_
            refine g_icmp_ne_f at_443 rfl (pc' := 446) rfl ?_
            refine g_iload at_446 rfl (pc' := 448) rfl ?_
            refine g_iconst at_448 (v := 1) rfl (pc' := 449) rfl ?_
            refine g_icmp_le_f at_449 (by decide) (pc' := 452) rfl ?_
            refine g_aload at_452 rfl rfl (pc' := 454) rfl ?_
            refine g_iconst at_454 (v := 1) rfl (pc' := 455) rfl ?_
            refine g_virt (W := 0) (argsL := [(.int 1)]) (rest := []) at_455 (w_118 hw) (w_71 hw) (nf_self (w_73 hw)) (w_73 hw) (w_72 hw) (by decide) (lenOf pd_14 rfl) Sr.1 (c_charat hw sr tr _ 1 c3 z sf _ hC hz hF rsf Sr rfl) (w_74 hw) (w_8 hw) (by decide) (by decide) (fun _ q => nomatch q) rfl (Nat.le_of_eq rfl) rfl (by decide) (by decide) (pc' := 458) rfl ?_
            intro w129 h129 q129 Kc129
            obtain ⟨rfl, rfl⟩ := q129
            refine g_aload at_458 rfl rfl (pc' := 460) rfl ?_
            refine g_iload at_460 rfl (pc' := 462) rfl ?_
            refine g_iconst at_462 (v := 1) rfl (pc' := 463) rfl ?_
            refine g_iadd at_463 (v := 3) rfl (pc' := 464) rfl ?_
            refine g_caload at_464 ((((((((A_ca_9.keep Kn102 nin0).keep Kn103 nin0).keep Kw104 (ninS (Nat.ne_of_lt (Nat.lt_of_lt_of_le ((A_ca_9.keep Kn102 nin0)).lt (Nat.le_of_eq g103.symm))) nin0)).keep Kw105 (ninS (Nat.ne_of_lt (Nat.lt_of_lt_of_le ((A_ca_9.keep Kn102 nin0)).lt (Nat.le_of_eq g103.symm))) nin0)).keep Kw106 (ninS (Nat.ne_of_lt (Nat.lt_of_lt_of_le ((A_ca_9.keep Kn102 nin0)).lt (Nat.le_of_eq g103.symm))) nin0)).keep Kw107 (ninS (Nat.ne_of_lt (Nat.lt_of_lt_of_le ((A_ca_9.keep Kn102 nin0)).lt (Nat.le_of_eq g103.symm))) nin0)).keep Kc108 (ninS (Nat.ne_of_lt (Nat.lt_of_lt_of_le (A_ca_9).lt (Nat.le_of_eq g102.symm))) nin0)).keep Kc125 nin0) (by decide) (i := 3) rfl rfl (pc' := 465) rfl ?_
            refine g_icmp_ne_f at_465 rfl (pc' := 468) rfl ?_
            refine g_iload at_468 rfl (pc' := 470) rfl ?_
            refine g_iconst at_470 (v := 2) rfl (pc' := 471) rfl ?_
            refine g_icmp_le_t at_471 (by decide) (pc' := 490) (by decide) rfl ?_
            refine g_iload at_490 rfl (pc' := 492) rfl ?_
            refine g_iconst at_492 (v := 3) rfl (pc' := 493) rfl ?_
            refine g_icmp_le_t at_493 (by decide) (pc' := 512) (by decide) rfl ?_
            refine g_iconst at_512 (v := 1) rfl (pc' := 513) rfl ?_
            refine g_goto at_513 (pc' := 517) (by decide) rfl ?_
            exact g_ireturnN at_517 rfl (by simp) (z := 1) rfl rfl (by decide) (by decide)
      ·
        refine g_if_ne_f at_246 (if_neg (by rw [f1]; decide)) (pc' := 249) rfl ?_
        refine g_iconst at_249 (v := 1) rfl (pc' := 250) rfl ?_
        refine g_goto at_250 (pc' := 254) (by decide) rfl ?_
        refine g_istore at_254 (L' := #[.val (.int p0), .val (.int p1), .val (.int p2), .val (.int p3), .val (.int p4), .val (.int 4), .val (.ref ca), .val (.ref x), .val (.int 0), .val (.int 1), .unset, .unset, .unset, .unset, .unset, .unset]) rfl (pc' := 256) rfl ?_
        refine g_iload at_256 rfl (pc' := 258) rfl ?_
        refine g_iconst at_258 (v := 2) rfl (pc' := 259) rfl ?_
        refine g_icmp_le_f at_259 (by decide) (pc' := 262) rfl ?_
        refine g_aload at_262 rfl rfl (pc' := 264) rfl ?_
        refine g_iconst at_264 (v := 2) rfl (pc' := 265) rfl ?_
        refine g_caload at_265 (((((((A_ca_9.keep Kn102 nin0).keep Kn103 nin0).keep Kw104 (ninS (Nat.ne_of_lt (Nat.lt_of_lt_of_le ((A_ca_9.keep Kn102 nin0)).lt (Nat.le_of_eq g103.symm))) nin0)).keep Kw105 (ninS (Nat.ne_of_lt (Nat.lt_of_lt_of_le ((A_ca_9.keep Kn102 nin0)).lt (Nat.le_of_eq g103.symm))) nin0)).keep Kw106 (ninS (Nat.ne_of_lt (Nat.lt_of_lt_of_le ((A_ca_9.keep Kn102 nin0)).lt (Nat.le_of_eq g103.symm))) nin0)).keep Kw107 (ninS (Nat.ne_of_lt (Nat.lt_of_lt_of_le ((A_ca_9.keep Kn102 nin0)).lt (Nat.le_of_eq g103.symm))) nin0)).keep Kc108 (ninS (Nat.ne_of_lt (Nat.lt_of_lt_of_le (A_ca_9).lt (Nat.le_of_eq g102.symm))) nin0)) (by decide) (i := 2) rfl rfl (pc' := 266) rfl ?_
        refine g_static (W := 0) (argsL := [(.int c2)]) (rest := []) at_266 (w_67 hw) (w_68 hw) (by decide) (lenOf pd_15 rfl) (c_ws hw c2 _) (w_69 hw) (w_4 hw) (by decide) (by decide) (fun _ q => nomatch q) rfl (Nat.le_of_eq rfl) rfl (by decide) (by decide) (pc' := 269) rfl ?_
        intro w130 h130 q130 Kc130
        obtain ⟨rfl, rfl⟩ := q130
        rcases Bool.eq_false_or_eq_true (isW c2) with f2 | f2
        ·
          refine g_if_ne_t at_269 (by rw [if_pos f2]; decide) (pc' := 276) (by decide) rfl ?_
          refine g_iconst at_276 (v := 0) rfl (pc' := 277) rfl ?_
          refine g_istore at_277 (L' := #[.val (.int p0), .val (.int p1), .val (.int p2), .val (.int p3), .val (.int p4), .val (.int 4), .val (.ref ca), .val (.ref x), .val (.int 0), .val (.int 1), .val (.int 0), .unset, .unset, .unset, .unset, .unset]) rfl (pc' := 279) rfl ?_
          refine g_iload at_279 rfl (pc' := 281) rfl ?_
          refine g_iconst at_281 (v := 3) rfl (pc' := 282) rfl ?_
          refine g_icmp_le_f at_282 (by decide) (pc' := 285) rfl ?_
          refine g_aload at_285 rfl rfl (pc' := 287) rfl ?_
          refine g_iconst at_287 (v := 3) rfl (pc' := 288) rfl ?_
          refine g_caload at_288 (((((((A_ca_9.keep Kn102 nin0).keep Kn103 nin0).keep Kw104 (ninS (Nat.ne_of_lt (Nat.lt_of_lt_of_le ((A_ca_9.keep Kn102 nin0)).lt (Nat.le_of_eq g103.symm))) nin0)).keep Kw105 (ninS (Nat.ne_of_lt (Nat.lt_of_lt_of_le ((A_ca_9.keep Kn102 nin0)).lt (Nat.le_of_eq g103.symm))) nin0)).keep Kw106 (ninS (Nat.ne_of_lt (Nat.lt_of_lt_of_le ((A_ca_9.keep Kn102 nin0)).lt (Nat.le_of_eq g103.symm))) nin0)).keep Kw107 (ninS (Nat.ne_of_lt (Nat.lt_of_lt_of_le ((A_ca_9.keep Kn102 nin0)).lt (Nat.le_of_eq g103.symm))) nin0)).keep Kc108 (ninS (Nat.ne_of_lt (Nat.lt_of_lt_of_le (A_ca_9).lt (Nat.le_of_eq g102.symm))) nin0)) (by decide) (i := 3) rfl rfl (pc' := 289) rfl ?_
          refine g_static (W := 0) (argsL := [(.int c3)]) (rest := []) at_289 (w_67 hw) (w_68 hw) (by decide) (lenOf pd_15 rfl) (c_ws hw c3 _) (w_69 hw) (w_4 hw) (by decide) (by decide) (fun _ q => nomatch q) rfl (Nat.le_of_eq rfl) rfl (by decide) (by decide) (pc' := 292) rfl ?_
          intro w131 h131 q131 Kc131
          obtain ⟨rfl, rfl⟩ := q131
          rcases Bool.eq_false_or_eq_true (isW c3) with f3 | f3
          ·
            refine g_if_ne_t at_292 (by rw [if_pos f3]; decide) (pc' := 299) (by decide) rfl ?_
            refine g_iconst at_299 (v := 0) rfl (pc' := 300) rfl ?_
            refine g_istore at_300 (L' := #[.val (.int p0), .val (.int p1), .val (.int p2), .val (.int p3), .val (.int p4), .val (.int 4), .val (.ref ca), .val (.ref x), .val (.int 0), .val (.int 1), .val (.int 0), .val (.int 0), .unset, .unset, .unset, .unset]) rfl (pc' := 302) rfl ?_
            refine g_iload at_302 rfl (pc' := 304) rfl ?_
            refine g_if_eq_t at_304 rfl (pc' := 313) (by decide) rfl ?_
            refine g_iload at_313 rfl (pc' := 315) rfl ?_
            refine g_if_eq_f at_315 (by decide) (pc' := 318) rfl ?_
            refine g_iconst at_318 (v := 1) rfl (pc' := 319) rfl ?_
            refine g_istore at_319 (L' := #[.val (.int p0), .val (.int p1), .val (.int p2), .val (.int p3), .val (.int p4), .val (.int 4), .val (.ref ca), .val (.ref x), .val (.int 0), .val (.int 1), .val (.int 0), .val (.int 0), .val (.int 1), .unset, .unset, .unset]) rfl (pc' := 321) rfl ?_
            refine g_goto at_321 (pc' := 350) (by decide) rfl ?_
            refine g_iload at_350 rfl (pc' := 352) rfl ?_
            refine g_if_eq_t at_352 rfl (pc' := 361) (by decide) rfl ?_
            refine g_iload at_361 rfl (pc' := 363) rfl ?_
            refine g_if_eq_t at_363 rfl (pc' := 372) (by decide) rfl ?_
            refine g_iload at_372 rfl (pc' := 374) rfl ?_
            refine g_if_eq_f at_374 (by decide) (pc' := 377) rfl ?_
            refine g_iconst at_377 (v := 2) rfl (pc' := 378) rfl ?_
            refine g_istore at_378 (L' := #[.val (.int p0), .val (.int p1), .val (.int p2), .val (.int p3), .val (.int p4), .val (.int 4), .val (.ref ca), .val (.ref x), .val (.int 0), .val (.int 1), .val (.int 0), .val (.int 0), .val (.int 1), .val (.int 2), .unset, .unset]) rfl (pc' := 380) rfl ?_
            refine g_goto at_380 (pc' := 398) (by decide) rfl ?_
            refine g_aload at_398 rfl rfl (pc' := 400) rfl ?_
            refine g_static (W := 0) (argsL := [(.ref x)]) (rest := []) at_400 (w_27 hw) (w_28 hw) (by decide) (lenOf pd_17 rfl) (c_trim hw x _ _ z sf _ hC hz hF rsf Ss (Nat.le_of_ble_eq_true rfl)) (w_30 hw) (w_29 hw) (by decide) (by decide) (fun _ q => nomatch q) rfl (Nat.le_of_eq rfl) rfl (by decide) (by decide) (pc' := 403) rfl ?_
            intro w132 h132 q132 Kc132
            obtain ⟨sr, tr, rfl, Sr⟩ := q132
            have e132 : trimL [c0, c1, c2, c3] = [c1] := by simp [trimL, List.dropWhile, f0, f1, f2, f3]
            rw [e132] at Sr
            refine g_astore at_403 rfl (L' := #[.val (.int p0), .val (.int p1), .val (.int p2), .val (.int p3), .val (.int p4), .val (.int 4), .val (.ref ca), .val (.ref x), .val (.int 0), .val (.int 1), .val (.int 0), .val (.int 0), .val (.int 1), .val (.int 2), .val (.ref sr), .unset]) rfl (pc' := 405) rfl ?_
            refine g_aload at_405 rfl rfl (pc' := 407) rfl ?_
            refine g_virt (W := 0) (argsL := []) (rest := []) at_407 (w_56 hw) (w_32 hw) (nf_self (w_34 hw)) (w_34 hw) (w_33 hw) (by decide) (lenOf pd_10 rfl) Sr.1 (c_lenN hw sr tr _ 1 z _ hC hz Sr rfl) (w_35 hw) (w_8 hw) (by decide) (by decide) (fun _ q => nomatch q) rfl (Nat.le_of_eq rfl) rfl (by decide) (by decide) (pc' := 410) rfl ?_
            intro w133 h133 q133 Kc133
            obtain ⟨rfl, rfl⟩ := q133
            refine g_iload at_410 rfl (pc' := 412) rfl ?_
            refine g_iload at_412 rfl (pc' := 414) rfl ?_
            refine g_isub at_414 (v := 1) rfl (pc' := 415) rfl ?_
            refine g_icmp_eq_t at_415 rfl (pc' := 420) (by decide) rfl ?_
            refine g_aload at_420 rfl rfl (pc' := 422) rfl ?_
            refine g_virt (W := 0) (argsL := []) (rest := []) at_422 (w_56 hw) (w_32 hw) (nf_self (w_34 hw)) (w_34 hw) (w_33 hw) (by decide) (lenOf pd_10 rfl) Sr.1 (c_lenN hw sr tr _ 1 z _ hC hz Sr rfl) (w_35 hw) (w_8 hw) (by decide) (by decide) (fun _ q => nomatch q) rfl (Nat.le_of_eq rfl) rfl (by decide) (by decide) (pc' := 425) rfl ?_
            intro w134 h134 q134 Kc134
            obtain ⟨rfl, rfl⟩ := q134
            refine g_istore at_425 (L' := #[.val (.int p0), .val (.int p1), .val (.int p2), .val (.int p3), .val (.int p4), .val (.int 4), .val (.ref ca), .val (.ref x), .val (.int 0), .val (.int 1), .val (.int 0), .val (.int 0), .val (.int 1), .val (.int 2), .val (.ref sr), .val (.int 1)]) rfl (pc' := 427) rfl ?_
            refine g_iload at_427 rfl (pc' := 429) rfl ?_
            refine g_if_le_f at_429 (by decide) (pc' := 432) rfl ?_
            refine g_aload at_432 rfl rfl (pc' := 434) rfl ?_
            refine g_iconst at_434 (v := 0) rfl (pc' := 435) rfl ?_
            refine g_virt (W := 0) (argsL := [(.int 0)]) (rest := []) at_435 (w_118 hw) (w_71 hw) (nf_self (w_73 hw)) (w_73 hw) (w_72 hw) (by decide) (lenOf pd_14 rfl) Sr.1 (c_charat hw sr tr _ 0 c1 z sf _ hC hz hF rsf Sr rfl) (w_74 hw) (w_8 hw) (by decide) (by decide) (fun _ q => nomatch q) rfl (Nat.le_of_eq rfl) rfl (by decide) (by decide) (pc' := 438) rfl ?_
            intro w135 h135 q135 Kc135
            obtain ⟨rfl, rfl⟩ := q135
            refine g_aload at_438 rfl rfl (pc' := 440) rfl ?_
            refine g_iload at_440 rfl (pc' := 442) rfl ?_
            refine g_caload at_442 ((((((((A_ca_9.keep Kn102 nin0).keep Kn103 nin0).keep Kw104 (ninS (Nat.ne_of_lt (Nat.lt_of_lt_of_le ((A_ca_9.keep Kn102 nin0)).lt (Nat.le_of_eq g103.symm))) nin0)).keep Kw105 (ninS (Nat.ne_of_lt (Nat.lt_of_lt_of_le ((A_ca_9.keep Kn102 nin0)).lt (Nat.le_of_eq g103.symm))) nin0)).keep Kw106 (ninS (Nat.ne_of_lt (Nat.lt_of_lt_of_le ((A_ca_9.keep Kn102 nin0)).lt (Nat.le_of_eq g103.symm))) nin0)).keep Kw107 (ninS (Nat.ne_of_lt (Nat.lt_of_lt_of_le ((A_ca_9.keep Kn102 nin0)).lt (Nat.le_of_eq g103.symm))) nin0)).keep Kc108 (ninS (Nat.ne_of_lt (Nat.lt_of_lt_of_le (A_ca_9).lt (Nat.le_of_eq g102.symm))) nin0)).keep Kc132 nin0) (by decide) (i := 1) rfl rfl (pc' := 443) rfl ?_
            refine g_icmp_ne_f at_443 rfl (pc' := 446) rfl ?_
            refine g_iload at_446 rfl (pc' := 448) rfl ?_
            refine g_iconst at_448 (v := 1) rfl (pc' := 449) rfl ?_
            refine g_icmp_le_t at_449 (by decide) (pc' := 468) (by decide) rfl ?_
            refine g_iload at_468 rfl (pc' := 470) rfl ?_
            refine g_iconst at_470 (v := 2) rfl (pc' := 471) rfl ?_
            refine g_icmp_le_t at_471 (by decide) (pc' := 490) (by decide) rfl ?_
            refine g_iload at_490 rfl (pc' := 492) rfl ?_
            refine g_iconst at_492 (v := 3) rfl (pc' := 493) rfl ?_
            refine g_icmp_le_t at_493 (by decide) (pc' := 512) (by decide) rfl ?_
            refine g_iconst at_512 (v := 1) rfl (pc' := 513) rfl ?_
            refine g_goto at_513 (pc' := 517) (by decide) rfl ?_
            exact g_ireturnN at_517 rfl (by simp) (z := 1) rfl rfl (by decide) (by decide)
          ·
            refine g_if_ne_f at_292 (if_neg (by rw [f3]; decide)) (pc' := 295) rfl ?_
            refine g_iconst at_295 (v := 1) rfl (pc' := 296) rfl ?_
            refine g_goto at_296 (pc' := 300) (by decide) rfl ?_
            refine g_istore at_300 (L' := #[.val (.int p0), .val (.int p1), .val (.int p2), .val (.int p3), .val (.int p4), .val (.int 4), .val (.ref ca), .val (.ref x), .val (.int 0), .val (.int 1), .val (.int 0), .val (.int 1), .unset, .unset, .unset, .unset]) rfl (pc' := 302) rfl ?_
            refine g_iload at_302 rfl (pc' := 304) rfl ?_
            refine g_if_eq_t at_304 rfl (pc' := 313) (by decide) rfl ?_
            refine g_iload at_313 rfl (pc' := 315) rfl ?_
            refine g_if_eq_f at_315 (by decide) (pc' := 318) rfl ?_
            refine g_iconst at_318 (v := 1) rfl (pc' := 319) rfl ?_
            refine g_istore at_319 (L' := #[.val (.int p0), .val (.int p1), .val (.int p2), .val (.int p3), .val (.int p4), .val (.int 4), .val (.ref ca), .val (.ref x), .val (.int 0), .val (.int 1), .val (.int 0), .val (.int 1), .val (.int 1), .unset, .unset, .unset]) rfl (pc' := 321) rfl ?_
            refine g_goto at_321 (pc' := 350) (by decide) rfl ?_
            refine g_iload at_350 rfl (pc' := 352) rfl ?_
            refine g_if_eq_f at_352 (by decide) (pc' := 355) rfl ?_
            refine g_iconst at_355 (v := 4) rfl (pc' := 356) rfl ?_
            refine g_istore at_356 (L' := #[.val (.int p0), .val (.int p1), .val (.int p2), .val (.int p3), .val (.int p4), .val (.int 4), .val (.ref ca), .val (.ref x), .val (.int 0), .val (.int 1), .val (.int 0), .val (.int 1), .val (.int 1), .val (.int 4), .unset, .unset]) rfl (pc' := 358) rfl ?_
            refine g_goto at_358 (pc' := 398) (by decide) rfl ?_
            refine g_aload at_398 rfl rfl (pc' := 400) rfl ?_
            refine g_static (W := 0) (argsL := [(.ref x)]) (rest := []) at_400 (w_27 hw) (w_28 hw) (by decide) (lenOf pd_17 rfl) (c_trim hw x _ _ z sf _ hC hz hF rsf Ss (Nat.le_of_ble_eq_true rfl)) (w_30 hw) (w_29 hw) (by decide) (by decide) (fun _ q => nomatch q) rfl (Nat.le_of_eq rfl) rfl (by decide) (by decide) (pc' := 403) rfl ?_
            intro w136 h136 q136 Kc136
            obtain ⟨sr, tr, rfl, Sr⟩ := q136
            have e136 : trimL [c0, c1, c2, c3] = [c1, c2, c3] := by simp [trimL, List.dropWhile, f0, f1, f2, f3]
            rw [e136] at Sr
            refine g_astore at_403 rfl (L' := #[.val (.int p0), .val (.int p1), .val (.int p2), .val (.int p3), .val (.int p4), .val (.int 4), .val (.ref ca), .val (.ref x), .val (.int 0), .val (.int 1), .val (.int 0), .val (.int 1), .val (.int 1), .val (.int 4), .val (.ref sr), .unset]) rfl (pc' := 405) rfl ?_
            refine g_aload at_405 rfl rfl (pc' := 407) rfl ?_
            refine g_virt (W := 0) (argsL := []) (rest := []) at_407 (w_56 hw) (w_32 hw) (nf_self (w_34 hw)) (w_34 hw) (w_33 hw) (by decide) (lenOf pd_10 rfl) Sr.1 (c_lenN hw sr tr _ 3 z _ hC hz Sr rfl) (w_35 hw) (w_8 hw) (by decide) (by decide) (fun _ q => nomatch q) rfl (Nat.le_of_eq rfl) rfl (by decide) (by decide) (pc' := 410) rfl ?_
            intro w137 h137 q137 Kc137
            obtain ⟨rfl, rfl⟩ := q137
            refine g_iload at_410 rfl (pc' := 412) rfl ?_
            refine g_iload at_412 rfl (pc' := 414) rfl ?_
            refine g_isub at_414 (v := 3) rfl (pc' := 415) rfl ?_
            refine g_icmp_eq_t at_415 rfl (pc' := 420) (by decide) rfl ?_
            refine g_aload at_420 rfl rfl (pc' := 422) rfl ?_
            refine g_virt (W := 0) (argsL := []) (rest := []) at_422 (w_56 hw) (w_32 hw) (nf_self (w_34 hw)) (w_34 hw) (w_33 hw) (by decide) (lenOf pd_10 rfl) Sr.1 (c_lenN hw sr tr _ 3 z _ hC hz Sr rfl) (w_35 hw) (w_8 hw) (by decide) (by decide) (fun _ q => nomatch q) rfl (Nat.le_of_eq rfl) rfl (by decide) (by decide) (pc' := 425) rfl ?_
            intro w138 h138 q138 Kc138
            obtain ⟨rfl, rfl⟩ := q138
            refine g_istore at_425 (L' := #[.val (.int p0), .val (.int p1), .val (.int p2), .val (.int p3), .val (.int p4), .val (.int 4), .val (.ref ca), .val (.ref x), .val (.int 0), .val (.int 1), .val (.int 0), .val (.int 1), .val (.int 1), .val (.int 4), .val (.ref sr), .val (.int 3)]) rfl (pc' := 427) rfl ?_
            refine g_iload at_427 rfl (pc' := 429) rfl ?_
            refine g_if_le_f at_429 (by decide) (pc' := 432) rfl ?_
            refine g_aload at_432 rfl rfl (pc' := 434) rfl ?_
            refine g_iconst at_434 (v := 0) rfl (pc' := 435) rfl ?_
            refine g_virt (W := 0) (argsL := [(.int 0)]) (rest := []) at_435 (w_118 hw) (w_71 hw) (nf_self (w_73 hw)) (w_73 hw) (w_72 hw) (by decide) (lenOf pd_14 rfl) Sr.1 (c_charat hw sr tr _ 0 c1 z sf _ hC hz hF rsf Sr rfl) (w_74 hw) (w_8 hw) (by decide) (by decide) (fun _ q => nomatch q) rfl (Nat.le_of_eq rfl) rfl (by decide) (by decide) (pc' := 438) rfl ?_
            intro w139 h139 q139 Kc139
            obtain ⟨rfl, rfl⟩ := q139
            refine g_aload at_438 rfl rfl (pc' := 440) rfl ?_
            refine g_iload at_440 rfl (pc' := 442) rfl ?_
            refine g_caload at_442 ((((((((A_ca_9.keep Kn102 nin0).keep Kn103 nin0).keep Kw104 (ninS (Nat.ne_of_lt (Nat.lt_of_lt_of_le ((A_ca_9.keep Kn102 nin0)).lt (Nat.le_of_eq g103.symm))) nin0)).keep Kw105 (ninS (Nat.ne_of_lt (Nat.lt_of_lt_of_le ((A_ca_9.keep Kn102 nin0)).lt (Nat.le_of_eq g103.symm))) nin0)).keep Kw106 (ninS (Nat.ne_of_lt (Nat.lt_of_lt_of_le ((A_ca_9.keep Kn102 nin0)).lt (Nat.le_of_eq g103.symm))) nin0)).keep Kw107 (ninS (Nat.ne_of_lt (Nat.lt_of_lt_of_le ((A_ca_9.keep Kn102 nin0)).lt (Nat.le_of_eq g103.symm))) nin0)).keep Kc108 (ninS (Nat.ne_of_lt (Nat.lt_of_lt_of_le (A_ca_9).lt (Nat.le_of_eq g102.symm))) nin0)).keep Kc136 nin0) (by decide) (i := 1) rfl rfl (pc' := 443) rfl ?_
            refine g_icmp_ne_f at_443 rfl (pc' := 446) rfl ?_
            refine g_iload at_446 rfl (pc' := 448) rfl ?_
            refine g_iconst at_448 (v := 1) rfl (pc' := 449) rfl ?_
            refine g_icmp_le_f at_449 (by decide) (pc' := 452) rfl ?_
            refine g_aload at_452 rfl rfl (pc' := 454) rfl ?_
            refine g_iconst at_454 (v := 1) rfl (pc' := 455) rfl ?_
            refine g_virt (W := 0) (argsL := [(.int 1)]) (rest := []) at_455 (w_118 hw) (w_71 hw) (nf_self (w_73 hw)) (w_73 hw) (w_72 hw) (by decide) (lenOf pd_14 rfl) Sr.1 (c_charat hw sr tr _ 1 c2 z sf _ hC hz hF rsf Sr rfl) (w_74 hw) (w_8 hw) (by decide) (by decide) (fun _ q => nomatch q) rfl (Nat.le_of_eq rfl) rfl (by decide) (by decide) (pc' := 458) rfl ?_
            intro w140 h140 q140 Kc140
            obtain ⟨rfl, rfl⟩ := q140
            refine g_aload at_458 rfl rfl (pc' := 460) rfl ?_
            refine g_iload at_460 rfl (pc' := 462) rfl ?_
            refine g_iconst at_462 (v := 1) rfl (pc' := 463) rfl ?_
            refine g_iadd at_463 (v := 2) rfl (pc' := 464) rfl ?_
            refine g_caload at_464 ((((((((A_ca_9.keep Kn102 nin0).keep Kn103 nin0).keep Kw104 (ninS (Nat.ne_of_lt (Nat.lt_of_lt_of_le ((A_ca_9.keep Kn102 nin0)).lt (Nat.le_of_eq g103.symm))) nin0)).keep Kw105 (ninS (Nat.ne_of_lt (Nat.lt_of_lt_of_le ((A_ca_9.keep Kn102 nin0)).lt (Nat.le_of_eq g103.symm))) nin0)).keep Kw106 (ninS (Nat.ne_of_lt (Nat.lt_of_lt_of_le ((A_ca_9.keep Kn102 nin0)).lt (Nat.le_of_eq g103.symm))) nin0)).keep Kw107 (ninS (Nat.ne_of_lt (Nat.lt_of_lt_of_le ((A_ca_9.keep Kn102 nin0)).lt (Nat.le_of_eq g103.symm))) nin0)).keep Kc108 (ninS (Nat.ne_of_lt (Nat.lt_of_lt_of_le (A_ca_9).lt (Nat.le_of_eq g102.symm))) nin0)).keep Kc136 nin0) (by decide) (i := 2) rfl rfl (pc' := 465) rfl ?_
            refine g_icmp_ne_f at_465 rfl (pc' := 468) rfl ?_
            refine g_iload at_468 rfl (pc' := 470) rfl ?_
            refine g_iconst at_470 (v := 2) rfl (pc' := 471) rfl ?_
            refine g_icmp_le_f at_471 (by decide) (pc' := 474) rfl ?_
            refine g_aload at_474 rfl rfl (pc' := 476) rfl ?_
            refine g_iconst at_476 (v := 2) rfl (pc' := 477) rfl ?_
            refine g_virt (W := 0) (argsL := [(.int 2)]) (rest := []) at_477 (w_118 hw) (w_71 hw) (nf_self (w_73 hw)) (w_73 hw) (w_72 hw) (by decide) (lenOf pd_14 rfl) Sr.1 (c_charat hw sr tr _ 2 c3 z sf _ hC hz hF rsf Sr rfl) (w_74 hw) (w_8 hw) (by decide) (by decide) (fun _ q => nomatch q) rfl (Nat.le_of_eq rfl) rfl (by decide) (by decide) (pc' := 480) rfl ?_
            intro w141 h141 q141 Kc141
            obtain ⟨rfl, rfl⟩ := q141
            refine g_aload at_480 rfl rfl (pc' := 482) rfl ?_
            refine g_iload at_482 rfl (pc' := 484) rfl ?_
            refine g_iconst at_484 (v := 2) rfl (pc' := 485) rfl ?_
            refine g_iadd at_485 (v := 3) rfl (pc' := 486) rfl ?_
            refine g_caload at_486 ((((((((A_ca_9.keep Kn102 nin0).keep Kn103 nin0).keep Kw104 (ninS (Nat.ne_of_lt (Nat.lt_of_lt_of_le ((A_ca_9.keep Kn102 nin0)).lt (Nat.le_of_eq g103.symm))) nin0)).keep Kw105 (ninS (Nat.ne_of_lt (Nat.lt_of_lt_of_le ((A_ca_9.keep Kn102 nin0)).lt (Nat.le_of_eq g103.symm))) nin0)).keep Kw106 (ninS (Nat.ne_of_lt (Nat.lt_of_lt_of_le ((A_ca_9.keep Kn102 nin0)).lt (Nat.le_of_eq g103.symm))) nin0)).keep Kw107 (ninS (Nat.ne_of_lt (Nat.lt_of_lt_of_le ((A_ca_9.keep Kn102 nin0)).lt (Nat.le_of_eq g103.symm))) nin0)).keep Kc108 (ninS (Nat.ne_of_lt (Nat.lt_of_lt_of_le (A_ca_9).lt (Nat.le_of_eq g102.symm))) nin0)).keep Kc136 nin0) (by decide) (i := 3) rfl rfl (pc' := 487) rfl ?_
            refine g_icmp_ne_f at_487 rfl (pc' := 490) rfl ?_
            refine g_iload at_490 rfl (pc' := 492) rfl ?_
            refine g_iconst at_492 (v := 3) rfl (pc' := 493) rfl ?_
            refine g_icmp_le_t at_493 (by decide) (pc' := 512) (by decide) rfl ?_
            refine g_iconst at_512 (v := 1) rfl (pc' := 513) rfl ?_
            refine g_goto at_513 (pc' := 517) (by decide) rfl ?_
            exact g_ireturnN at_517 rfl (by simp) (z := 1) rfl rfl (by decide) (by decide)
        ·
          refine g_if_ne_f at_269 (if_neg (by rw [f2]; decide)) (pc' := 272) rfl ?_
          refine g_iconst at_272 (v := 1) rfl (pc' := 273) rfl ?_
          refine g_goto at_273 (pc' := 277) (by decide) rfl ?_
          refine g_istore at_277 (L' := #[.val (.int p0), .val (.int p1), .val (.int p2), .val (.int p3), .val (.int p4), .val (.int 4), .val (.ref ca), .val (.ref x), .val (.int 0), .val (.int 1), .val (.int 1), .unset, .unset, .unset, .unset, .unset]) rfl (pc' := 279) rfl ?_
          refine g_iload at_279 rfl (pc' := 281) rfl ?_
          refine g_iconst at_281 (v := 3) rfl (pc' := 282) rfl ?_
          refine g_icmp_le_f at_282 (by decide) (pc' := 285) rfl ?_
          refine g_aload at_285 rfl rfl (pc' := 287) rfl ?_
          refine g_iconst at_287 (v := 3) rfl (pc' := 288) rfl ?_
          refine g_caload at_288 (((((((A_ca_9.keep Kn102 nin0).keep Kn103 nin0).keep Kw104 (ninS (Nat.ne_of_lt (Nat.lt_of_lt_of_le ((A_ca_9.keep Kn102 nin0)).lt (Nat.le_of_eq g103.symm))) nin0)).keep Kw105 (ninS (Nat.ne_of_lt (Nat.lt_of_lt_of_le ((A_ca_9.keep Kn102 nin0)).lt (Nat.le_of_eq g103.symm))) nin0)).keep Kw106 (ninS (Nat.ne_of_lt (Nat.lt_of_lt_of_le ((A_ca_9.keep Kn102 nin0)).lt (Nat.le_of_eq g103.symm))) nin0)).keep Kw107 (ninS (Nat.ne_of_lt (Nat.lt_of_lt_of_le ((A_ca_9.keep Kn102 nin0)).lt (Nat.le_of_eq g103.symm))) nin0)).keep Kc108 (ninS (Nat.ne_of_lt (Nat.lt_of_lt_of_le (A_ca_9).lt (Nat.le_of_eq g102.symm))) nin0)) (by decide) (i := 3) rfl rfl (pc' := 289) rfl ?_
          refine g_static (W := 0) (argsL := [(.int c3)]) (rest := []) at_289 (w_67 hw) (w_68 hw) (by decide) (lenOf pd_15 rfl) (c_ws hw c3 _) (w_69 hw) (w_4 hw) (by decide) (by decide) (fun _ q => nomatch q) rfl (Nat.le_of_eq rfl) rfl (by decide) (by decide) (pc' := 292) rfl ?_
          intro w142 h142 q142 Kc142
          obtain ⟨rfl, rfl⟩ := q142
          rcases Bool.eq_false_or_eq_true (isW c3) with f3 | f3
          ·
            refine g_if_ne_t at_292 (by rw [if_pos f3]; decide) (pc' := 299) (by decide) rfl ?_
            refine g_iconst at_299 (v := 0) rfl (pc' := 300) rfl ?_
            refine g_istore at_300 (L' := #[.val (.int p0), .val (.int p1), .val (.int p2), .val (.int p3), .val (.int p4), .val (.int 4), .val (.ref ca), .val (.ref x), .val (.int 0), .val (.int 1), .val (.int 1), .val (.int 0), .unset, .unset, .unset, .unset]) rfl (pc' := 302) rfl ?_
            refine g_iload at_302 rfl (pc' := 304) rfl ?_
            refine g_if_eq_t at_304 rfl (pc' := 313) (by decide) rfl ?_
            refine g_iload at_313 rfl (pc' := 315) rfl ?_
            refine g_if_eq_f at_315 (by decide) (pc' := 318) rfl ?_
            refine g_iconst at_318 (v := 1) rfl (pc' := 319) rfl ?_
            refine g_istore at_319 (L' := #[.val (.int p0), .val (.int p1), .val (.int p2), .val (.int p3), .val (.int p4), .val (.int 4), .val (.ref ca), .val (.ref x), .val (.int 0), .val (.int 1), .val (.int 1), .val (.int 0), .val (.int 1), .unset, .unset, .unset]) rfl (pc' := 321) rfl ?_
            refine g_goto at_321 (pc' := 350) (by decide) rfl ?_
            refine g_iload at_350 rfl (pc' := 352) rfl ?_
            refine g_if_eq_t at_352 rfl (pc' := 361) (by decide) rfl ?_
            refine g_iload at_361 rfl (pc' := 363) rfl ?_
            refine g_if_eq_f at_363 (by decide) (pc' := 366) rfl ?_
            refine g_iconst at_366 (v := 3) rfl (pc' := 367) rfl ?_
            refine g_istore at_367 (L' := #[.val (.int p0), .val (.int p1), .val (.int p2), .val (.int p3), .val (.int p4), .val (.int 4), .val (.ref ca), .val (.ref x), .val (.int 0), .val (.int 1), .val (.int 1), .val (.int 0), .val (.int 1), .val (.int 3), .unset, .unset]) rfl (pc' := 369) rfl ?_
            refine g_goto at_369 (pc' := 398) (by decide) rfl ?_
            refine g_aload at_398 rfl rfl (pc' := 400) rfl ?_
            refine g_static (W := 0) (argsL := [(.ref x)]) (rest := []) at_400 (w_27 hw) (w_28 hw) (by decide) (lenOf pd_17 rfl) (c_trim hw x _ _ z sf _ hC hz hF rsf Ss (Nat.le_of_ble_eq_true rfl)) (w_30 hw) (w_29 hw) (by decide) (by decide) (fun _ q => nomatch q) rfl (Nat.le_of_eq rfl) rfl (by decide) (by decide) (pc' := 403) rfl ?_
            intro w143 h143 q143 Kc143
            obtain ⟨sr, tr, rfl, Sr⟩ := q143
            have e143 : trimL [c0, c1, c2, c3] = [c1, c2] := by simp [trimL, List.dropWhile, f0, f1, f2, f3]
            rw [e143] at Sr
            refine g_astore at_403 rfl (L' := #[.val (.int p0), .val (.int p1), .val (.int p2), .val (.int p3), .val (.int p4), .val (.int 4), .val (.ref ca), .val (.ref x), .val (.int 0), .val (.int 1), .val (.int 1), .val (.int 0), .val (.int 1), .val (.int 3), .val (.ref sr), .unset]) rfl (pc' := 405) rfl ?_
            refine g_aload at_405 rfl rfl (pc' := 407) rfl ?_
            refine g_virt (W := 0) (argsL := []) (rest := []) at_407 (w_56 hw) (w_32 hw) (nf_self (w_34 hw)) (w_34 hw) (w_33 hw) (by decide) (lenOf pd_10 rfl) Sr.1 (c_lenN hw sr tr _ 2 z _ hC hz Sr rfl) (w_35 hw) (w_8 hw) (by decide) (by decide) (fun _ q => nomatch q) rfl (Nat.le_of_eq rfl) rfl (by decide) (by decide) (pc' := 410) rfl ?_
            intro w144 h144 q144 Kc144
            obtain ⟨rfl, rfl⟩ := q144
            refine g_iload at_410 rfl (pc' := 412) rfl ?_
            refine g_iload at_412 rfl (pc' := 414) rfl ?_
            refine g_isub at_414 (v := 2) rfl (pc' := 415) rfl ?_
            refine g_icmp_eq_t at_415 rfl (pc' := 420) (by decide) rfl ?_
            refine g_aload at_420 rfl rfl (pc' := 422) rfl ?_
            refine g_virt (W := 0) (argsL := []) (rest := []) at_422 (w_56 hw) (w_32 hw) (nf_self (w_34 hw)) (w_34 hw) (w_33 hw) (by decide) (lenOf pd_10 rfl) Sr.1 (c_lenN hw sr tr _ 2 z _ hC hz Sr rfl) (w_35 hw) (w_8 hw) (by decide) (by decide) (fun _ q => nomatch q) rfl (Nat.le_of_eq rfl) rfl (by decide) (by decide) (pc' := 425) rfl ?_
            intro w145 h145 q145 Kc145
            obtain ⟨rfl, rfl⟩ := q145
            refine g_istore at_425 (L' := #[.val (.int p0), .val (.int p1), .val (.int p2), .val (.int p3), .val (.int p4), .val (.int 4), .val (.ref ca), .val (.ref x), .val (.int 0), .val (.int 1), .val (.int 1), .val (.int 0), .val (.int 1), .val (.int 3), .val (.ref sr), .val (.int 2)]) rfl (pc' := 427) rfl ?_
            refine g_iload at_427 rfl (pc' := 429) rfl ?_
            refine g_if_le_f at_429 (by decide) (pc' := 432) rfl ?_
            refine g_aload at_432 rfl rfl (pc' := 434) rfl ?_
            refine g_iconst at_434 (v := 0) rfl (pc' := 435) rfl ?_
            refine g_virt (W := 0) (argsL := [(.int 0)]) (rest := []) at_435 (w_118 hw) (w_71 hw) (nf_self (w_73 hw)) (w_73 hw) (w_72 hw) (by decide) (lenOf pd_14 rfl) Sr.1 (c_charat hw sr tr _ 0 c1 z sf _ hC hz hF rsf Sr rfl) (w_74 hw) (w_8 hw) (by decide) (by decide) (fun _ q => nomatch q) rfl (Nat.le_of_eq rfl) rfl (by decide) (by decide) (pc' := 438) rfl ?_
            intro w146 h146 q146 Kc146
            obtain ⟨rfl, rfl⟩ := q146
            refine g_aload at_438 rfl rfl (pc' := 440) rfl ?_
            refine g_iload at_440 rfl (pc' := 442) rfl ?_
            refine g_caload at_442 ((((((((A_ca_9.keep Kn102 nin0).keep Kn103 nin0).keep Kw104 (ninS (Nat.ne_of_lt (Nat.lt_of_lt_of_le ((A_ca_9.keep Kn102 nin0)).lt (Nat.le_of_eq g103.symm))) nin0)).keep Kw105 (ninS (Nat.ne_of_lt (Nat.lt_of_lt_of_le ((A_ca_9.keep Kn102 nin0)).lt (Nat.le_of_eq g103.symm))) nin0)).keep Kw106 (ninS (Nat.ne_of_lt (Nat.lt_of_lt_of_le ((A_ca_9.keep Kn102 nin0)).lt (Nat.le_of_eq g103.symm))) nin0)).keep Kw107 (ninS (Nat.ne_of_lt (Nat.lt_of_lt_of_le ((A_ca_9.keep Kn102 nin0)).lt (Nat.le_of_eq g103.symm))) nin0)).keep Kc108 (ninS (Nat.ne_of_lt (Nat.lt_of_lt_of_le (A_ca_9).lt (Nat.le_of_eq g102.symm))) nin0)).keep Kc143 nin0) (by decide) (i := 1) rfl rfl (pc' := 443) rfl ?_
            refine g_icmp_ne_f at_443 rfl (pc' := 446) rfl ?_
            refine g_iload at_446 rfl (pc' := 448) rfl ?_
            refine g_iconst at_448 (v := 1) rfl (pc' := 449) rfl ?_
            refine g_icmp_le_f at_449 (by decide) (pc' := 452) rfl ?_
            refine g_aload at_452 rfl rfl (pc' := 454) rfl ?_
            refine g_iconst at_454 (v := 1) rfl (pc' := 455) rfl ?_
            refine g_virt (W := 0) (argsL := [(.int 1)]) (rest := []) at_455 (w_118 hw) (w_71 hw) (nf_self (w_73 hw)) (w_73 hw) (w_72 hw) (by decide) (lenOf pd_14 rfl) Sr.1 (c_charat hw sr tr _ 1 c2 z sf _ hC hz hF rsf Sr rfl) (w_74 hw) (w_8 hw) (by decide) (by decide) (fun _ q => nomatch q) rfl (Nat.le_of_eq rfl) rfl (by decide) (by decide) (pc' := 458) rfl ?_
            intro w147 h147 q147 Kc147
            obtain ⟨rfl, rfl⟩ := q147
            refine g_aload at_458 rfl rfl (pc' := 460) rfl ?_
            refine g_iload at_460 rfl (pc' := 462) rfl ?_
            refine g_iconst at_462 (v := 1) rfl (pc' := 463) rfl ?_
            refine g_iadd at_463 (v := 2) rfl (pc' := 464) rfl ?_
            refine g_caload at_464 ((((((((A_ca_9.keep Kn102 nin0).keep Kn103 nin0).keep Kw104 (ninS (Nat.ne_of_lt (Nat.lt_of_lt_of_le ((A_ca_9.keep Kn102 nin0)).lt (Nat.le_of_eq g103.symm))) nin0)).keep Kw105 (ninS (Nat.ne_of_lt (Nat.lt_of_lt_of_le ((A_ca_9.keep Kn102 nin0)).lt (Nat.le_of_eq g103.symm))) nin0)).keep Kw106 (ninS (Nat.ne_of_lt (Nat.lt_of_lt_of_le ((A_ca_9.keep Kn102 nin0)).lt (Nat.le_of_eq g103.symm))) nin0)).keep Kw107 (ninS (Nat.ne_of_lt (Nat.lt_of_lt_of_le ((A_ca_9.keep Kn102 nin0)).lt (Nat.le_of_eq g103.symm))) nin0)).keep Kc108 (ninS (Nat.ne_of_lt (Nat.lt_of_lt_of_le (A_ca_9).lt (Nat.le_of_eq g102.symm))) nin0)).keep Kc143 nin0) (by decide) (i := 2) rfl rfl (pc' := 465) rfl ?_
            refine g_icmp_ne_f at_465 rfl (pc' := 468) rfl ?_
            refine g_iload at_468 rfl (pc' := 470) rfl ?_
            refine g_iconst at_470 (v := 2) rfl (pc' := 471) rfl ?_
            refine g_icmp_le_t at_471 (by decide) (pc' := 490) (by decide) rfl ?_
            refine g_iload at_490 rfl (pc' := 492) rfl ?_
            refine g_iconst at_492 (v := 3) rfl (pc' := 493) rfl ?_
            refine g_icmp_le_t at_493 (by decide) (pc' := 512) (by decide) rfl ?_
            refine g_iconst at_512 (v := 1) rfl (pc' := 513) rfl ?_
            refine g_goto at_513 (pc' := 517) (by decide) rfl ?_
            exact g_ireturnN at_517 rfl (by simp) (z := 1) rfl rfl (by decide) (by decide)
          ·
            refine g_if_ne_f at_292 (if_neg (by rw [f3]; decide)) (pc' := 295) rfl ?_
            refine g_iconst at_295 (v := 1) rfl (pc' := 296) rfl ?_
            refine g_goto at_296 (pc' := 300) (by decide) rfl ?_
            refine g_istore at_300 (L' := #[.val (.int p0), .val (.int p1), .val (.int p2), .val (.int p3), .val (.int p4), .val (.int 4), .val (.ref ca), .val (.ref x), .val (.int 0), .val (.int 1), .val (.int 1), .val (.int 1), .unset, .unset, .unset, .unset]) rfl (pc' := 302) rfl ?_
            refine g_iload at_302 rfl (pc' := 304) rfl ?_
            refine g_if_eq_t at_304 rfl (pc' := 313) (by decide) rfl ?_
            refine g_iload at_313 rfl (pc' := 315) rfl ?_
            refine g_if_eq_f at_315 (by decide) (pc' := 318) rfl ?_
            refine g_iconst at_318 (v := 1) rfl (pc' := 319) rfl ?_
            refine g_istore at_319 (L' := #[.val (.int p0), .val (.int p1), .val (.int p2), .val (.int p3), .val (.int p4), .val (.int 4), .val (.ref ca), .val (.ref x), .val (.int 0), .val (.int 1), .val (.int 1), .val (.int 1), .val (.int 1), .unset, .unset, .unset]) rfl (pc' := 321) rfl ?_
            refine g_goto at_321 (pc' := 350) (by decide) rfl ?_
            refine g_iload at_350 rfl (pc' := 352) rfl ?_
            refine g_if_eq_f at_352 (by decide) (pc' := 355) rfl ?_
            refine g_iconst at_355 (v := 4) rfl (pc' := 356) rfl ?_
            refine g_istore at_356 (L' := #[.val (.int p0), .val (.int p1), .val (.int p2), .val (.int p3), .val (.int p4), .val (.int 4), .val (.ref ca), .val (.ref x), .val (.int 0), .val (.int 1), .val (.int 1), .val (.int 1), .val (.int 1), .val (.int 4), .unset, .unset]) rfl (pc' := 358) rfl ?_
            refine g_goto at_358 (pc' := 398) (by decide) rfl ?_
            refine g_aload at_398 rfl rfl (pc' := 400) rfl ?_
            refine g_static (W := 0) (argsL := [(.ref x)]) (rest := []) at_400 (w_27 hw) (w_28 hw) (by decide) (lenOf pd_17 rfl) (c_trim hw x _ _ z sf _ hC hz hF rsf Ss (Nat.le_of_ble_eq_true rfl)) (w_30 hw) (w_29 hw) (by decide) (by decide) (fun _ q => nomatch q) rfl (Nat.le_of_eq rfl) rfl (by decide) (by decide) (pc' := 403) rfl ?_
            intro w148 h148 q148 Kc148
            obtain ⟨sr, tr, rfl, Sr⟩ := q148
            have e148 : trimL [c0, c1, c2, c3] = [c1, c2, c3] := by simp [trimL, List.dropWhile, f0, f1, f2, f3]
            rw [e148] at Sr
            refine g_astore at_403 rfl (L' := #[.val (.int p0), .val (.int p1), .val (.int p2), .val (.int p3), .val (.int p4), .val (.int 4), .val (.ref ca), .val (.ref x), .val (.int 0), .val (.int 1), .val (.int 1), .val (.int 1), .val (.int 1), .val (.int 4), .val (.ref sr), .unset]) rfl (pc' := 405) rfl ?_
            refine g_aload at_405 rfl rfl (pc' := 407) rfl ?_
            refine g_virt (W := 0) (argsL := []) (rest := []) at_407 (w_56 hw) (w_32 hw) (nf_self (w_34 hw)) (w_34 hw) (w_33 hw) (by decide) (lenOf pd_10 rfl) Sr.1 (c_lenN hw sr tr _ 3 z _ hC hz Sr rfl) (w_35 hw) (w_8 hw) (by decide) (by decide) (fun _ q => nomatch q) rfl (Nat.le_of_eq rfl) rfl (by decide) (by decide) (pc' := 410) rfl ?_
            intro w149 h149 q149 Kc149
            obtain ⟨rfl, rfl⟩ := q149
            refine g_iload at_410 rfl (pc' := 412) rfl ?_
            refine g_iload at_412 rfl (pc' := 414) rfl ?_
            refine g_isub at_414 (v := 3) rfl (pc' := 415) rfl ?_
            refine g_icmp_eq_t at_415 rfl (pc' := 420) (by decide) rfl ?_
            refine g_aload at_420 rfl rfl (pc' := 422) rfl ?_
            refine g_virt (W := 0) (argsL := []) (rest := []) at_422 (w_56 hw) (w_32 hw) (nf_self (w_34 hw)) (w_34 hw) (w_33 hw) (by decide) (lenOf pd_10 rfl) Sr.1 (c_lenN hw sr tr _ 3 z _ hC hz Sr rfl) (w_35 hw) (w_8 hw) (by decide) (by decide) (fun _ q => nomatch q) rfl (Nat.le_of_eq rfl) rfl (by decide) (by decide) (pc' := 425) rfl ?_
            intro w150 h150 q150 Kc150
            obtain ⟨rfl, rfl⟩ := q150
            refine g_istore at_425 (L' := #[.val (.int p0), .val (.int p1), .val (.int p2), .val (.int p3), .val (.int p4), .val (.int 4), .val (.ref ca), .val (.ref x), .val (.int 0), .val (.int 1), .val (.int 1), .val (.int 1), .val (.int 1), .val (.int 4), .val (.ref sr), .val (.int 3)]) rfl (pc' := 427) rfl ?_
            refine g_iload at_427 rfl (pc' := 429) rfl ?_
            refine g_if_le_f at_429 (by decide) (pc' := 432) rfl ?_
            refine g_aload at_432 rfl rfl (pc' := 434) rfl ?_
            refine g_iconst at_434 (v := 0) rfl (pc' := 435) rfl ?_
            refine g_virt (W := 0) (argsL := [(.int 0)]) (rest := []) at_435 (w_118 hw) (w_71 hw) (nf_self (w_73 hw)) (w_73 hw) (w_72 hw) (by decide) (lenOf pd_14 rfl) Sr.1 (c_charat hw sr tr _ 0 c1 z sf _ hC hz hF rsf Sr rfl) (w_74 hw) (w_8 hw) (by decide) (by decide) (fun _ q => nomatch q) rfl (Nat.le_of_eq rfl) rfl (by decide) (by decide) (pc' := 438) rfl ?_
            intro w151 h151 q151 Kc151
            obtain ⟨rfl, rfl⟩ := q151
            refine g_aload at_438 rfl rfl (pc' := 440) rfl ?_
            refine g_iload at_440 rfl (pc' := 442) rfl ?_
            refine g_caload at_442 ((((((((A_ca_9.keep Kn102 nin0).keep Kn103 nin0).keep Kw104 (ninS (Nat.ne_of_lt (Nat.lt_of_lt_of_le ((A_ca_9.keep Kn102 nin0)).lt (Nat.le_of_eq g103.symm))) nin0)).keep Kw105 (ninS (Nat.ne_of_lt (Nat.lt_of_lt_of_le ((A_ca_9.keep Kn102 nin0)).lt (Nat.le_of_eq g103.symm))) nin0)).keep Kw106 (ninS (Nat.ne_of_lt (Nat.lt_of_lt_of_le ((A_ca_9.keep Kn102 nin0)).lt (Nat.le_of_eq g103.symm))) nin0)).keep Kw107 (ninS (Nat.ne_of_lt (Nat.lt_of_lt_of_le ((A_ca_9.keep Kn102 nin0)).lt (Nat.le_of_eq g103.symm))) nin0)).keep Kc108 (ninS (Nat.ne_of_lt (Nat.lt_of_lt_of_le (A_ca_9).lt (Nat.le_of_eq g102.symm))) nin0)).keep Kc148 nin0) (by decide) (i := 1) rfl rfl (pc' := 443) rfl ?_
            refine g_icmp_ne_f at_443 rfl (pc' := 446) rfl ?_
            refine g_iload at_446 rfl (pc' := 448) rfl ?_
            refine g_iconst at_448 (v := 1) rfl (pc' := 449) rfl ?_
            refine g_icmp_le_f at_449 (by decide) (pc' := 452) rfl ?_
            refine g_aload at_452 rfl rfl (pc' := 454) rfl ?_
            refine g_iconst at_454 (v := 1) rfl (pc' := 455) rfl ?_
            refine g_virt (W := 0) (argsL := [(.int 1)]) (rest := []) at_455 (w_118 hw) (w_71 hw) (nf_self (w_73 hw)) (w_73 hw) (w_72 hw) (by decide) (lenOf pd_14 rfl) Sr.1 (c_charat hw sr tr _ 1 c2 z sf _ hC hz hF rsf Sr rfl) (w_74 hw) (w_8 hw) (by decide) (by decide) (fun _ q => nomatch q) rfl (Nat.le_of_eq rfl) rfl (by decide) (by decide) (pc' := 458) rfl ?_
            intro w152 h152 q152 Kc152
            obtain ⟨rfl, rfl⟩ := q152
            refine g_aload at_458 rfl rfl (pc' := 460) rfl ?_
            refine g_iload at_460 rfl (pc' := 462) rfl ?_
            refine g_iconst at_462 (v := 1) rfl (pc' := 463) rfl ?_
            refine g_iadd at_463 (v := 2) rfl (pc' := 464) rfl ?_
            refine g_caload at_464 ((((((((A_ca_9.keep Kn102 nin0).keep Kn103 nin0).keep Kw104 (ninS (Nat.ne_of_lt (Nat.lt_of_lt_of_le ((A_ca_9.keep Kn102 nin0)).lt (Nat.le_of_eq g103.symm))) nin0)).keep Kw105 (ninS (Nat.ne_of_lt (Nat.lt_of_lt_of_le ((A_ca_9.keep Kn102 nin0)).lt (Nat.le_of_eq g103.symm))) nin0)).keep Kw106 (ninS (Nat.ne_of_lt (Nat.lt_of_lt_of_le ((A_ca_9.keep Kn102 nin0)).lt (Nat.le_of_eq g103.symm))) nin0)).keep Kw107 (ninS (Nat.ne_of_lt (Nat.lt_of_lt_of_le ((A_ca_9.keep Kn102 nin0)).lt (Nat.le_of_eq g103.symm))) nin0)).keep Kc108 (ninS (Nat.ne_of_lt (Nat.lt_of_lt_of_le (A_ca_9).lt (Nat.le_of_eq g102.symm))) nin0)).keep Kc148 nin0) (by decide) (i := 2) rfl rfl (pc' := 465) rfl ?_
            refine g_icmp_ne_f at_465 rfl (pc' := 468) rfl ?_
            refine g_iload at_468 rfl (pc' := 470) rfl ?_
            refine g_iconst at_470 (v := 2) rfl (pc' := 471) rfl ?_
            refine g_icmp_le_f at_471 (by decide) (pc' := 474) rfl ?_
            refine g_aload at_474 rfl rfl (pc' := 476) rfl ?_
            refine g_iconst at_476 (v := 2) rfl (pc' := 477) rfl ?_
            refine g_virt (W := 0) (argsL := [(.int 2)]) (rest := []) at_477 (w_118 hw) (w_71 hw) (nf_self (w_73 hw)) (w_73 hw) (w_72 hw) (by decide) (lenOf pd_14 rfl) Sr.1 (c_charat hw sr tr _ 2 c3 z sf _ hC hz hF rsf Sr rfl) (w_74 hw) (w_8 hw) (by decide) (by decide) (fun _ q => nomatch q) rfl (Nat.le_of_eq rfl) rfl (by decide) (by decide) (pc' := 480) rfl ?_
            intro w153 h153 q153 Kc153
            obtain ⟨rfl, rfl⟩ := q153
            refine g_aload at_480 rfl rfl (pc' := 482) rfl ?_
            refine g_iload at_482 rfl (pc' := 484) rfl ?_
            refine g_iconst at_484 (v := 2) rfl (pc' := 485) rfl ?_
            refine g_iadd at_485 (v := 3) rfl (pc' := 486) rfl ?_
            refine g_caload at_486 ((((((((A_ca_9.keep Kn102 nin0).keep Kn103 nin0).keep Kw104 (ninS (Nat.ne_of_lt (Nat.lt_of_lt_of_le ((A_ca_9.keep Kn102 nin0)).lt (Nat.le_of_eq g103.symm))) nin0)).keep Kw105 (ninS (Nat.ne_of_lt (Nat.lt_of_lt_of_le ((A_ca_9.keep Kn102 nin0)).lt (Nat.le_of_eq g103.symm))) nin0)).keep Kw106 (ninS (Nat.ne_of_lt (Nat.lt_of_lt_of_le ((A_ca_9.keep Kn102 nin0)).lt (Nat.le_of_eq g103.symm))) nin0)).keep Kw107 (ninS (Nat.ne_of_lt (Nat.lt_of_lt_of_le ((A_ca_9.keep Kn102 nin0)).lt (Nat.le_of_eq g103.symm))) nin0)).keep Kc108 (ninS (Nat.ne_of_lt (Nat.lt_of_lt_of_le (A_ca_9).lt (Nat.le_of_eq g102.symm))) nin0)).keep Kc148 nin0) (by decide) (i := 3) rfl rfl (pc' := 487) rfl ?_
            refine g_icmp_ne_f at_487 rfl (pc' := 490) rfl ?_
            refine g_iload at_490 rfl (pc' := 492) rfl ?_
            refine g_iconst at_492 (v := 3) rfl (pc' := 493) rfl ?_
            refine g_icmp_le_t at_493 (by decide) (pc' := 512) (by decide) rfl ?_
            refine g_iconst at_512 (v := 1) rfl (pc' := 513) rfl ?_
            refine g_goto at_513 (pc' := 517) (by decide) rfl ?_
            exact g_ireturnN at_517 rfl (by simp) (z := 1) rfl rfl (by decide) (by decide)
    ·
      refine g_if_ne_f at_223 (if_neg (by rw [f0]; decide)) (pc' := 226) rfl ?_
      refine g_iconst at_226 (v := 1) rfl (pc' := 227) rfl ?_
      refine g_goto at_227 (pc' := 231) (by decide) rfl ?_
      refine g_istore at_231 (L' := #[.val (.int p0), .val (.int p1), .val (.int p2), .val (.int p3), .val (.int p4), .val (.int 4), .val (.ref ca), .val (.ref x), .val (.int 1), .unset, .unset, .unset, .unset, .unset, .unset, .unset]) rfl (pc' := 233) rfl ?_
      refine g_iload at_233 rfl (pc' := 235) rfl ?_
      refine g_iconst at_235 (v := 1) rfl (pc' := 236) rfl ?_
      refine g_icmp_le_f at_236 (by decide) (pc' := 239) rfl ?_
      refine g_aload at_239 rfl rfl (pc' := 241) rfl ?_
      refine g_iconst at_241 (v := 1) rfl (pc' := 242) rfl ?_
      refine g_caload at_242 (((((((A_ca_9.keep Kn102 nin0).keep Kn103 nin0).keep Kw104 (ninS (Nat.ne_of_lt (Nat.lt_of_lt_of_le ((A_ca_9.keep Kn102 nin0)).lt (Nat.le_of_eq g103.symm))) nin0)).keep Kw105 (ninS (Nat.ne_of_lt (Nat.lt_of_lt_of_le ((A_ca_9.keep Kn102 nin0)).lt (Nat.le_of_eq g103.symm))) nin0)).keep Kw106 (ninS (Nat.ne_of_lt (Nat.lt_of_lt_of_le ((A_ca_9.keep Kn102 nin0)).lt (Nat.le_of_eq g103.symm))) nin0)).keep Kw107 (ninS (Nat.ne_of_lt (Nat.lt_of_lt_of_le ((A_ca_9.keep Kn102 nin0)).lt (Nat.le_of_eq g103.symm))) nin0)).keep Kc108 (ninS (Nat.ne_of_lt (Nat.lt_of_lt_of_le (A_ca_9).lt (Nat.le_of_eq g102.symm))) nin0)) (by decide) (i := 1) rfl rfl (pc' := 243) rfl ?_
      refine g_static (W := 0) (argsL := [(.int c1)]) (rest := []) at_243 (w_67 hw) (w_68 hw) (by decide) (lenOf pd_15 rfl) (c_ws hw c1 _) (w_69 hw) (w_4 hw) (by decide) (by decide) (fun _ q => nomatch q) rfl (Nat.le_of_eq rfl) rfl (by decide) (by decide) (pc' := 246) rfl ?_
      intro w154 h154 q154 Kc154
      obtain ⟨rfl, rfl⟩ := q154
      rcases Bool.eq_false_or_eq_true (isW c1) with f1 | f1
      ·
        refine g_if_ne_t at_246 (by rw [if_pos f1]; decide) (pc' := 253) (by decide) rfl ?_
        refine g_iconst at_253 (v := 0) rfl (pc' := 254) rfl ?_
        refine g_istore at_254 (L' := #[.val (.int p0), .val (.int p1), .val (.int p2), .val (.int p3), .val (.int p4), .val (.int 4), .val (.ref ca), .val (.ref x), .val (.int 1), .val (.int 0), .unset, .unset, .unset, .unset, .unset, .unset]) rfl (pc' := 256) rfl ?_
        refine g_iload at_256 rfl (pc' := 258) rfl ?_
        refine g_iconst at_258 (v := 2) rfl (pc' := 259) rfl ?_
        refine g_icmp_le_f at_259 (by decide) (pc' := 262) rfl ?_
        refine g_aload at_262 rfl rfl (pc' := 264) rfl ?_
        refine g_iconst at_264 (v := 2) rfl (pc' := 265) rfl ?_
        refine g_caload at_265 (((((((A_ca_9.keep Kn102 nin0).keep Kn103 nin0).keep Kw104 (ninS (Nat.ne_of_lt (Nat.lt_of_lt_of_le ((A_ca_9.keep Kn102 nin0)).lt (Nat.le_of_eq g103.symm))) nin0)).keep Kw105 (ninS (Nat.ne_of_lt (Nat.lt_of_lt_of_le ((A_ca_9.keep Kn102 nin0)).lt (Nat.le_of_eq g103.symm))) nin0)).keep Kw106 (ninS (Nat.ne_of_lt (Nat.lt_of_lt_of_le ((A_ca_9.keep Kn102 nin0)).lt (Nat.le_of_eq g103.symm))) nin0)).keep Kw107 (ninS (Nat.ne_of_lt (Nat.lt_of_lt_of_le ((A_ca_9.keep Kn102 nin0)).lt (Nat.le_of_eq g103.symm))) nin0)).keep Kc108 (ninS (Nat.ne_of_lt (Nat.lt_of_lt_of_le (A_ca_9).lt (Nat.le_of_eq g102.symm))) nin0)) (by decide) (i := 2) rfl rfl (pc' := 266) rfl ?_
        refine g_static (W := 0) (argsL := [(.int c2)]) (rest := []) at_266 (w_67 hw) (w_68 hw) (by decide) (lenOf pd_15 rfl) (c_ws hw c2 _) (w_69 hw) (w_4 hw) (by decide) (by decide) (fun _ q => nomatch q) rfl (Nat.le_of_eq rfl) rfl (by decide) (by decide) (pc' := 269) rfl ?_
        intro w155 h155 q155 Kc155
        obtain ⟨rfl, rfl⟩ := q155
        rcases Bool.eq_false_or_eq_true (isW c2) with f2 | f2
        ·
          refine g_if_ne_t at_269 (by rw [if_pos f2]; decide) (pc' := 276) (by decide) rfl ?_
          refine g_iconst at_276 (v := 0) rfl (pc' := 277) rfl ?_
          refine g_istore at_277 (L' := #[.val (.int p0), .val (.int p1), .val (.int p2), .val (.int p3), .val (.int p4), .val (.int 4), .val (.ref ca), .val (.ref x), .val (.int 1), .val (.int 0), .val (.int 0), .unset, .unset, .unset, .unset, .unset]) rfl (pc' := 279) rfl ?_
          refine g_iload at_279 rfl (pc' := 281) rfl ?_
          refine g_iconst at_281 (v := 3) rfl (pc' := 282) rfl ?_
          refine g_icmp_le_f at_282 (by decide) (pc' := 285) rfl ?_
          refine g_aload at_285 rfl rfl (pc' := 287) rfl ?_
          refine g_iconst at_287 (v := 3) rfl (pc' := 288) rfl ?_
          refine g_caload at_288 (((((((A_ca_9.keep Kn102 nin0).keep Kn103 nin0).keep Kw104 (ninS (Nat.ne_of_lt (Nat.lt_of_lt_of_le ((A_ca_9.keep Kn102 nin0)).lt (Nat.le_of_eq g103.symm))) nin0)).keep Kw105 (ninS (Nat.ne_of_lt (Nat.lt_of_lt_of_le ((A_ca_9.keep Kn102 nin0)).lt (Nat.le_of_eq g103.symm))) nin0)).keep Kw106 (ninS (Nat.ne_of_lt (Nat.lt_of_lt_of_le ((A_ca_9.keep Kn102 nin0)).lt (Nat.le_of_eq g103.symm))) nin0)).keep Kw107 (ninS (Nat.ne_of_lt (Nat.lt_of_lt_of_le ((A_ca_9.keep Kn102 nin0)).lt (Nat.le_of_eq g103.symm))) nin0)).keep Kc108 (ninS (Nat.ne_of_lt (Nat.lt_of_lt_of_le (A_ca_9).lt (Nat.le_of_eq g102.symm))) nin0)) (by decide) (i := 3) rfl rfl (pc' := 289) rfl ?_
          refine g_static (W := 0) (argsL := [(.int c3)]) (rest := []) at_289 (w_67 hw) (w_68 hw) (by decide) (lenOf pd_15 rfl) (c_ws hw c3 _) (w_69 hw) (w_4 hw) (by decide) (by decide) (fun _ q => nomatch q) rfl (Nat.le_of_eq rfl) rfl (by decide) (by decide) (pc' := 292) rfl ?_
          intro w156 h156 q156 Kc156
          obtain ⟨rfl, rfl⟩ := q156
          rcases Bool.eq_false_or_eq_true (isW c3) with f3 | f3
          ·
            refine g_if_ne_t at_292 (by rw [if_pos f3]; decide) (pc' := 299) (by decide) rfl ?_
            refine g_iconst at_299 (v := 0) rfl (pc' := 300) rfl ?_
            refine g_istore at_300 (L' := #[.val (.int p0), .val (.int p1), .val (.int p2), .val (.int p3), .val (.int p4), .val (.int 4), .val (.ref ca), .val (.ref x), .val (.int 1), .val (.int 0), .val (.int 0), .val (.int 0), .unset, .unset, .unset, .unset]) rfl (pc' := 302) rfl ?_
            refine g_iload at_302 rfl (pc' := 304) rfl ?_
            refine g_if_eq_f at_304 (by decide) (pc' := 307) rfl ?_
            refine g_iconst at_307 (v := 0) rfl (pc' := 308) rfl ?_
            refine g_istore at_308 (L' := #[.val (.int p0), .val (.int p1), .val (.int p2), .val (.int p3), .val (.int p4), .val (.int 4), .val (.ref ca), .val (.ref x), .val (.int 1), .val (.int 0), .val (.int 0), .val (.int 0), .val (.int 0), .unset, .unset, .unset]) rfl (pc' := 310) rfl ?_
            refine g_goto at_310 (pc' := 350) (by decide) rfl ?_
            refine g_iload at_350 rfl (pc' := 352) rfl ?_
            refine g_if_eq_t at_352 rfl (pc' := 361) (by decide) rfl ?_
            refine g_iload at_361 rfl (pc' := 363) rfl ?_
            refine g_if_eq_t at_363 rfl (pc' := 372) (by decide) rfl ?_
            refine g_iload at_372 rfl (pc' := 374) rfl ?_
            refine g_if_eq_t at_374 rfl (pc' := 383) (by decide) rfl ?_
            refine g_iload at_383 rfl (pc' := 385) rfl ?_
            refine g_if_eq_f at_385 (by decide) (pc' := 388) rfl ?_
            refine g_iconst at_388 (v := 1) rfl (pc' := 389) rfl ?_
            refine g_istore at_389 (L' := #[.val (.int p0), .val (.int p1), .val (.int p2), .val (.int p3), .val (.int p4), .val (.int 4), .val (.ref ca), .val (.ref x), .val (.int 1), .val (.int 0), .val (.int 0), .val (.int 0), .val (.int 0), .val (.int 1), .unset, .unset]) rfl (pc' := 391) rfl ?_
            refine g_goto at_391 (pc' := 398) (by decide) rfl ?_
            refine g_aload at_398 rfl rfl (pc' := 400) rfl ?_
            refine g_static (W := 0) (argsL := [(.ref x)]) (rest := []) at_400 (w_27 hw) (w_28 hw) (by decide) (lenOf pd_17 rfl) (c_trim hw x _ _ z sf _ hC hz hF rsf Ss (Nat.le_of_ble_eq_true rfl)) (w_30 hw) (w_29 hw) (by decide) (by decide) (fun _ q => nomatch q) rfl (Nat.le_of_eq rfl) rfl (by decide) (by decide) (pc' := 403) rfl ?_
            intro w157 h157 q157 Kc157
            obtain ⟨sr, tr, rfl, Sr⟩ := q157
            have e157 : trimL [c0, c1, c2, c3] = [c0] := by simp [trimL, List.dropWhile, f0, f1, f2, f3]
            rw [e157] at Sr
            refine g_astore at_403 rfl (L' := #[.val (.int p0), .val (.int p1), .val (.int p2), .val (.int p3), .val (.int p4), .val (.int 4), .val (.ref ca), .val (.ref x), .val (.int 1), .val (.int 0), .val (.int 0), .val (.int 0), .val (.int 0), .val (.int 1), .val (.ref sr), .unset]) rfl (pc' := 405) rfl ?_
            refine g_aload at_405 rfl rfl (pc' := 407) rfl ?_
            refine g_virt (W := 0) (argsL := []) (rest := []) at_407 (w_56 hw) (w_32 hw) (nf_self (w_34 hw)) (w_34 hw) (w_33 hw) (by decide) (lenOf pd_10 rfl) Sr.1 (c_lenN hw sr tr _ 1 z _ hC hz Sr rfl) (w_35 hw) (w_8 hw) (by decide) (by decide) (fun _ q => nomatch q) rfl (Nat.le_of_eq rfl) rfl (by decide) (by decide) (pc' := 410) rfl ?_
            intro w158 h158 q158 Kc158
            obtain ⟨rfl, rfl⟩ := q158
            refine g_iload at_410 rfl (pc' := 412) rfl ?_
            refine g_iload at_412 rfl (pc' := 414) rfl ?_
            refine g_isub at_414 (v := 1) rfl (pc' := 415) rfl ?_
            refine g_icmp_eq_t at_415 rfl (pc' := 420) (by decide) rfl ?_
            refine g_aload at_420 rfl rfl (pc' := 422) rfl ?_
            refine g_virt (W := 0) (argsL := []) (rest := []) at_422 (w_56 hw) (w_32 hw) (nf_self (w_34 hw)) (w_34 hw) (w_33 hw) (by decide) (lenOf pd_10 rfl) Sr.1 (c_lenN hw sr tr _ 1 z _ hC hz Sr rfl) (w_35 hw) (w_8 hw) (by decide) (by decide) (fun _ q => nomatch q) rfl (Nat.le_of_eq rfl) rfl (by decide) (by decide) (pc' := 425) rfl ?_
            intro w159 h159 q159 Kc159
            obtain ⟨rfl, rfl⟩ := q159
            refine g_istore at_425 (L' := #[.val (.int p0), .val (.int p1), .val (.int p2), .val (.int p3), .val (.int p4), .val (.int 4), .val (.ref ca), .val (.ref x), .val (.int 1), .val (.int 0), .val (.int 0), .val (.int 0), .val (.int 0), .val (.int 1), .val (.ref sr), .val (.int 1)]) rfl (pc' := 427) rfl ?_
            refine g_iload at_427 rfl (pc' := 429) rfl ?_
            refine g_if_le_f at_429 (by decide) (pc' := 432) rfl ?_
            refine g_aload at_432 rfl rfl (pc' := 434) rfl ?_
            refine g_iconst at_434 (v := 0) rfl (pc' := 435) rfl ?_
            refine g_virt (W := 0) (argsL := [(.int 0)]) (rest := []) at_435 (w_118 hw) (w_71 hw) (nf_self (w_73 hw)) (w_73 hw) (w_72 hw) (by decide) (lenOf pd_14 rfl) Sr.1 (c_charat hw sr tr _ 0 c0 z sf _ hC hz hF rsf Sr rfl) (w_74 hw) (w_8 hw) (by decide) (by decide) (fun _ q => nomatch q) rfl (Nat.le_of_eq rfl) rfl (by decide) (by decide) (pc' := 438) rfl ?_
            intro w160 h160 q160 Kc160
            obtain ⟨rfl, rfl⟩ := q160
            refine g_aload at_438 rfl rfl (pc' := 440) rfl ?_
            refine g_iload at_440 rfl (pc' := 442) rfl ?_
            refine g_caload at_442 ((((((((A_ca_9.keep Kn102 nin0).keep Kn103 nin0).keep Kw104 (ninS (Nat.ne_of_lt (Nat.lt_of_lt_of_le ((A_ca_9.keep Kn102 nin0)).lt (Nat.le_of_eq g103.symm))) nin0)).keep Kw105 (ninS (Nat.ne_of_lt (Nat.lt_of_lt_of_le ((A_ca_9.keep Kn102 nin0)).lt (Nat.le_of_eq g103.symm))) nin0)).keep Kw106 (ninS (Nat.ne_of_lt (Nat.lt_of_lt_of_le ((A_ca_9.keep Kn102 nin0)).lt (Nat.le_of_eq g103.symm))) nin0)).keep Kw107 (ninS (Nat.ne_of_lt (Nat.lt_of_lt_of_le ((A_ca_9.keep Kn102 nin0)).lt (Nat.le_of_eq g103.symm))) nin0)).keep Kc108 (ninS (Nat.ne_of_lt (Nat.lt_of_lt_of_le (A_ca_9).lt (Nat.le_of_eq g102.symm))) nin0)).keep Kc157 nin0) (by decide) (i := 0) rfl rfl (pc' := 443) rfl ?_
            refine g_icmp_ne_f at_443 rfl (pc' := 446) rfl ?_
            refine g_iload at_446 rfl (pc' := 448) rfl ?_
            refine g_iconst at_448 (v := 1) rfl (pc' := 449) rfl ?_
            refine g_icmp_le_t at_449 (by decide) (pc' := 468) (by decide) rfl ?_
            refine g_iload at_468 rfl (pc' := 470) rfl ?_
            refine g_iconst at_470 (v := 2) rfl (pc' := 471) rfl ?_
            refine g_icmp_le_t at_471 (by decide) (pc' := 490) (by decide) rfl ?_
            refine g_iload at_490 rfl (pc' := 492) rfl ?_
            refine g_iconst at_492 (v := 3) rfl (pc' := 493) rfl ?_
            refine g_icmp_le_t at_493 (by decide) (pc' := 512) (by decide) rfl ?_
            refine g_iconst at_512 (v := 1) rfl (pc' := 513) rfl ?_
            refine g_goto at_513 (pc' := 517) (by decide) rfl ?_
            exact g_ireturnN at_517 rfl (by simp) (z := 1) rfl rfl (by decide) (by decide)
          ·
            refine g_if_ne_f at_292 (if_neg (by rw [f3]; decide)) (pc' := 295) rfl ?_
            refine g_iconst at_295 (v := 1) rfl (pc' := 296) rfl ?_
            refine g_goto at_296 (pc' := 300) (by decide) rfl ?_
            refine g_istore at_300 (L' := #[.val (.int p0), .val (.int p1), .val (.int p2), .val (.int p3), .val (.int p4), .val (.int 4), .val (.ref ca), .val (.ref x), .val (.int 1), .val (.int 0), .val (.int 0), .val (.int 1), .unset, .unset, .unset, .unset]) rfl (pc' := 302) rfl ?_
            refine g_iload at_302 rfl (pc' := 304) rfl ?_
            refine g_if_eq_f at_304 (by decide) (pc' := 307) rfl ?_
            refine g_iconst at_307 (v := 0) rfl (pc' := 308) rfl ?_
            refine g_istore at_308 (L' := #[.val (.int p0), .val (.int p1), .val (.int p2), .val (.int p3), .val (.int p4), .val (.int 4), .val (.ref ca), .val (.ref x), .val (.int 1), .val (.int 0), .val (.int 0), .val (.int 1), .val (.int 0), .unset, .unset, .unset]) rfl (pc' := 310) rfl ?_
            refine g_goto at_310 (pc' := 350) (by decide) rfl ?_
            refine g_iload at_350 rfl (pc' := 352) rfl ?_
            refine g_if_eq_f at_352 (by decide) (pc' := 355) rfl ?_
            refine g_iconst at_355 (v := 4) rfl (pc' := 356) rfl ?_
            refine g_istore at_356 (L' := #[.val (.int p0), .val (.int p1), .val (.int p2), .val (.int p3), .val (.int p4), .val (.int 4), .val (.ref ca), .val (.ref x), .val (.int 1), .val (.int 0), .val (.int 0), .val (.int 1), .val (.int 0), .val (.int 4), .unset, .unset]) rfl (pc' := 358) rfl ?_
            refine g_goto at_358 (pc' := 398) (by decide) rfl ?_
            refine g_aload at_398 rfl rfl (pc' := 400) rfl ?_
            refine g_static (W := 0) (argsL := [(.ref x)]) (rest := []) at_400 (w_27 hw) (w_28 hw) (by decide) (lenOf pd_17 rfl) (c_trim hw x _ _ z sf _ hC hz hF rsf Ss (Nat.le_of_ble_eq_true rfl)) (w_30 hw) (w_29 hw) (by decide) (by decide) (fun _ q => nomatch q) rfl (Nat.le_of_eq rfl) rfl (by decide) (by decide) (pc' := 403) rfl ?_
            intro w161 h161 q161 Kc161
            obtain ⟨sr, tr, rfl, Sr⟩ := q161
            have e161 : trimL [c0, c1, c2, c3] = [c0, c1, c2, c3] := by simp [trimL, List.dropWhile, f0, f1, f2, f3]
            rw [e161] at Sr
            refine g_astore at_403 rfl (L' := #[.val (.int p0), .val (.int p1), .val (.int p2), .val (.int p3), .val (.int p4), .val (.int 4), .val (.ref ca), .val (.ref x), .val (.int 1), .val (.int 0), .val (.int 0), .val (.int 1), .val (.int 0), .val (.int 4), .val (.ref sr), .unset]) rfl (pc' := 405) rfl ?_
            refine g_aload at_405 rfl rfl (pc' := 407) rfl ?_
            refine g_virt (W := 0) (argsL := []) (rest := []) at_407 (w_56 hw) (w_32 hw) (nf_self (w_34 hw)) (w_34 hw) (w_33 hw) (by decide) (lenOf pd_10 rfl) Sr.1 (c_lenN hw sr tr _ 4 z _ hC hz Sr rfl) (w_35 hw) (w_8 hw) (by decide) (by decide) (fun _ q => nomatch q) rfl (Nat.le_of_eq rfl) rfl (by decide) (by decide) (pc' := 410) rfl ?_
            intro w162 h162 q162 Kc162
            obtain ⟨rfl, rfl⟩ := q162
            refine g_iload at_410 rfl (pc' := 412) rfl ?_
            refine g_iload at_412 rfl (pc' := 414) rfl ?_
            refine g_isub at_414 (v := 4) rfl (pc' := 415) rfl ?_
            refine g_icmp_eq_t at_415 rfl (pc' := 420) (by decide) rfl ?_
            refine g_aload at_420 rfl rfl (pc' := 422) rfl ?_
            refine g_virt (W := 0) (argsL := []) (rest := []) at_422 (w_56 hw) (w_32 hw) (nf_self (w_34 hw)) (w_34 hw) (w_33 hw) (by decide) (lenOf pd_10 rfl) Sr.1 (c_lenN hw sr tr _ 4 z _ hC hz Sr rfl) (w_35 hw) (w_8 hw) (by decide) (by decide) (fun _ q => nomatch q) rfl (Nat.le_of_eq rfl) rfl (by decide) (by decide) (pc' := 425) rfl ?_
            intro w163 h163 q163 Kc163
            obtain ⟨rfl, rfl⟩ := q163
            refine g_istore at_425 (L' := #[.val (.int p0), .val (.int p1), .val (.int p2), .val (.int p3), .val (.int p4), .val (.int 4), .val (.ref ca), .val (.ref x), .val (.int 1), .val (.int 0), .val (.int 0), .val (.int 1), .val (.int 0), .val (.int 4), .val (.ref sr), .val (.int 4)]) rfl (pc' := 427) rfl ?_
            refine g_iload at_427 rfl (pc' := 429) rfl ?_
            refine g_if_le_f at_429 (by decide) (pc' := 432) rfl ?_
            refine g_aload at_432 rfl rfl (pc' := 434) rfl ?_
            refine g_iconst at_434 (v := 0) rfl (pc' := 435) rfl ?_
            refine g_virt (W := 0) (argsL := [(.int 0)]) (rest := []) at_435 (w_118 hw) (w_71 hw) (nf_self (w_73 hw)) (w_73 hw) (w_72 hw) (by decide) (lenOf pd_14 rfl) Sr.1 (c_charat hw sr tr _ 0 c0 z sf _ hC hz hF rsf Sr rfl) (w_74 hw) (w_8 hw) (by decide) (by decide) (fun _ q => nomatch q) rfl (Nat.le_of_eq rfl) rfl (by decide) (by decide) (pc' := 438) rfl ?_
            intro w164 h164 q164 Kc164
            obtain ⟨rfl, rfl⟩ := q164
            refine g_aload at_438 rfl rfl (pc' := 440) rfl ?_
            refine g_iload at_440 rfl (pc' := 442) rfl ?_
            refine g_caload at_442 ((((((((A_ca_9.keep Kn102 nin0).keep Kn103 nin0).keep Kw104 (ninS (Nat.ne_of_lt (Nat.lt_of_lt_of_le ((A_ca_9.keep Kn102 nin0)).lt (Nat.le_of_eq g103.symm))) nin0)).keep Kw105 (ninS (Nat.ne_of_lt (Nat.lt_of_lt_of_le ((A_ca_9.keep Kn102 nin0)).lt (Nat.le_of_eq g103.symm))) nin0)).keep Kw106 (ninS (Nat.ne_of_lt (Nat.lt_of_lt_of_le ((A_ca_9.keep Kn102 nin0)).lt (Nat.le_of_eq g103.symm))) nin0)).keep Kw107 (ninS (Nat.ne_of_lt (Nat.lt_of_lt_of_le ((A_ca_9.keep Kn102 nin0)).lt (Nat.le_of_eq g103.symm))) nin0)).keep Kc108 (ninS (Nat.ne_of_lt (Nat.lt_of_lt_of_le (A_ca_9).lt (Nat.le_of_eq g102.symm))) nin0)).keep Kc161 nin0) (by decide) (i := 0) rfl rfl (pc' := 443) rfl ?_
            refine g_icmp_ne_f at_443 rfl (pc' := 446) rfl ?_
            refine g_iload at_446 rfl (pc' := 448) rfl ?_
            refine g_iconst at_448 (v := 1) rfl (pc' := 449) rfl ?_
            refine g_icmp_le_f at_449 (by decide) (pc' := 452) rfl ?_
            refine g_aload at_452 rfl rfl (pc' := 454) rfl ?_
            refine g_iconst at_454 (v := 1) rfl (pc' := 455) rfl ?_
            refine g_virt (W := 0) (argsL := [(.int 1)]) (rest := []) at_455 (w_118 hw) (w_71 hw) (nf_self (w_73 hw)) (w_73 hw) (w_72 hw) (by decide) (lenOf pd_14 rfl) Sr.1 (c_charat hw sr tr _ 1 c1 z sf _ hC hz hF rsf Sr rfl) (w_74 hw) (w_8 hw) (by decide) (by decide) (fun _ q => nomatch q) rfl (Nat.le_of_eq rfl) rfl (by decide) (by decide) (pc' := 458) rfl ?_
            intro w165 h165 q165 Kc165
            obtain ⟨rfl, rfl⟩ := q165
            refine g_aload at_458 rfl rfl (pc' := 460) rfl ?_
            refine g_iload at_460 rfl (pc' := 462) rfl ?_
            refine g_iconst at_462 (v := 1) rfl (pc' := 463) rfl ?_
            refine g_iadd at_463 (v := 1) rfl (pc' := 464) rfl ?_
            refine g_caload at_464 ((((((((A_ca_9.keep Kn102 nin0).keep Kn103 nin0).keep Kw104 (ninS (Nat.ne_of_lt (Nat.lt_of_lt_of_le ((A_ca_9.keep Kn102 nin0)).lt (Nat.le_of_eq g103.symm))) nin0)).keep Kw105 (ninS (Nat.ne_of_lt (Nat.lt_of_lt_of_le ((A_ca_9.keep Kn102 nin0)).lt (Nat.le_of_eq g103.symm))) nin0)).keep Kw106 (ninS (Nat.ne_of_lt (Nat.lt_of_lt_of_le ((A_ca_9.keep Kn102 nin0)).lt (Nat.le_of_eq g103.symm))) nin0)).keep Kw107 (ninS (Nat.ne_of_lt (Nat.lt_of_lt_of_le ((A_ca_9.keep Kn102 nin0)).lt (Nat.le_of_eq g103.symm))) nin0)).keep Kc108 (ninS (Nat.ne_of_lt (Nat.lt_of_lt_of_le (A_ca_9).lt (Nat.le_of_eq g102.symm))) nin0)).keep Kc161 nin0) (by decide) (i := 1) rfl rfl (pc' := 465) rfl ?_
            refine g_icmp_ne_f at_465 rfl (pc' := 468) rfl ?_
            refine g_iload at_468 rfl (pc' := 470) rfl ?_
            refine g_iconst at_470 (v := 2) rfl (pc' := 471) rfl ?_
            refine g_icmp_le_f at_471 (by decide) (pc' := 474) rfl ?_
            refine g_aload at_474 rfl rfl (pc' := 476) rfl ?_
            refine g_iconst at_476 (v := 2) rfl (pc' := 477) rfl ?_
            refine g_virt (W := 0) (argsL := [(.int 2)]) (rest := []) at_477 (w_118 hw) (w_71 hw) (nf_self (w_73 hw)) (w_73 hw) (w_72 hw) (by decide) (lenOf pd_14 rfl) Sr.1 (c_charat hw sr tr _ 2 c2 z sf _ hC hz hF rsf Sr rfl) (w_74 hw) (w_8 hw) (by decide) (by decide) (fun _ q => nomatch q) rfl (Nat.le_of_eq rfl) rfl (by decide) (by decide) (pc' := 480) rfl ?_
            intro w166 h166 q166 Kc166
            obtain ⟨rfl, rfl⟩ := q166
            refine g_aload at_480 rfl rfl (pc' := 482) rfl ?_
            refine g_iload at_482 rfl (pc' := 484) rfl ?_
            refine g_iconst at_484 (v := 2) rfl (pc' := 485) rfl ?_
            refine g_iadd at_485 (v := 2) rfl (pc' := 486) rfl ?_
            refine g_caload at_486 ((((((((A_ca_9.keep Kn102 nin0).keep Kn103 nin0).keep Kw104 (ninS (Nat.ne_of_lt (Nat.lt_of_lt_of_le ((A_ca_9.keep Kn102 nin0)).lt (Nat.le_of_eq g103.symm))) nin0)).keep Kw105 (ninS (Nat.ne_of_lt (Nat.lt_of_lt_of_le ((A_ca_9.keep Kn102 nin0)).lt (Nat.le_of_eq g103.symm))) nin0)).keep Kw106 (ninS (Nat.ne_of_lt (Nat.lt_of_lt_of_le ((A_ca_9.keep Kn102 nin0)).lt (Nat.le_of_eq g103.symm))) nin0)).keep Kw107 (ninS (Nat.ne_of_lt (Nat.lt_of_lt_of_le ((A_ca_9.keep Kn102 nin0)).lt (Nat.le_of_eq g103.symm))) nin0)).keep Kc108 (ninS (Nat.ne_of_lt (Nat.lt_of_lt_of_le (A_ca_9).lt (Nat.le_of_eq g102.symm))) nin0)).keep Kc161 nin0) (by decide) (i := 2) rfl rfl (pc' := 487) rfl ?_
            refine g_icmp_ne_f at_487 rfl (pc' := 490) rfl ?_
            refine g_iload at_490 rfl (pc' := 492) rfl ?_
            refine g_iconst at_492 (v := 3) rfl (pc' := 493) rfl ?_
            refine g_icmp_le_f at_493 (by decide) (pc' := 496) rfl ?_
            refine g_aload at_496 rfl rfl (pc' := 498) rfl ?_
            refine g_iconst at_498 (v := 3) rfl (pc' := 499) rfl ?_
            refine g_virt (W := 0) (argsL := [(.int 3)]) (rest := []) at_499 (w_118 hw) (w_71 hw) (nf_self (w_73 hw)) (w_73 hw) (w_72 hw) (by decide) (lenOf pd_14 rfl) Sr.1 (c_charat hw sr tr _ 3 c3 z sf _ hC hz hF rsf Sr rfl) (w_74 hw) (w_8 hw) (by decide) (by decide) (fun _ q => nomatch q) rfl (Nat.le_of_eq rfl) rfl (by decide) (by decide) (pc' := 502) rfl ?_
            intro w167 h167 q167 Kc167
            obtain ⟨rfl, rfl⟩ := q167
            refine g_aload at_502 rfl rfl (pc' := 504) rfl ?_
            refine g_iload at_504 rfl (pc' := 506) rfl ?_
            refine g_iconst at_506 (v := 3) rfl (pc' := 507) rfl ?_
            refine g_iadd at_507 (v := 3) rfl (pc' := 508) rfl ?_
            refine g_caload at_508 ((((((((A_ca_9.keep Kn102 nin0).keep Kn103 nin0).keep Kw104 (ninS (Nat.ne_of_lt (Nat.lt_of_lt_of_le ((A_ca_9.keep Kn102 nin0)).lt (Nat.le_of_eq g103.symm))) nin0)).keep Kw105 (ninS (Nat.ne_of_lt (Nat.lt_of_lt_of_le ((A_ca_9.keep Kn102 nin0)).lt (Nat.le_of_eq g103.symm))) nin0)).keep Kw106 (ninS (Nat.ne_of_lt (Nat.lt_of_lt_of_le ((A_ca_9.keep Kn102 nin0)).lt (Nat.le_of_eq g103.symm))) nin0)).keep Kw107 (ninS (Nat.ne_of_lt (Nat.lt_of_lt_of_le ((A_ca_9.keep Kn102 nin0)).lt (Nat.le_of_eq g103.symm))) nin0)).keep Kc108 (ninS (Nat.ne_of_lt (Nat.lt_of_lt_of_le (A_ca_9).lt (Nat.le_of_eq g102.symm))) nin0)).keep Kc161 nin0) (by decide) (i := 3) rfl rfl (pc' := 509) rfl ?_
            refine g_icmp_ne_f at_509 rfl (pc' := 512) rfl ?_
            refine g_iconst at_512 (v := 1) rfl (pc' := 513) rfl ?_
            refine g_goto at_513 (pc' := 517) (by decide) rfl ?_
            exact g_ireturnN at_517 rfl (by simp) (z := 1) rfl rfl (by decide) (by decide)
        ·
          refine g_if_ne_f at_269 (if_neg (by rw [f2]; decide)) (pc' := 272) rfl ?_
          refine g_iconst at_272 (v := 1) rfl (pc' := 273) rfl ?_
          refine g_goto at_273 (pc' := 277) (by decide) rfl ?_
          refine g_istore at_277 (L' := #[.val (.int p0), .val (.int p1), .val (.int p2), .val (.int p3), .val (.int p4), .val (.int 4), .val (.ref ca), .val (.ref x), .val (.int 1), .val (.int 0), .val (.int 1), .unset, .unset, .unset, .unset, .unset]) rfl (pc' := 279) rfl ?_
          refine g_iload at_279 rfl (pc' := 281) rfl ?_
          refine g_iconst at_281 (v := 3) rfl (pc' := 282) rfl ?_
          refine g_icmp_le_f at_282 (by decide) (pc' := 285) rfl ?_
          refine g_aload at_285 rfl rfl (pc' := 287) rfl ?_
          refine g_iconst at_287 (v := 3) rfl (pc' := 288) rfl ?_
          refine g_caload at_288 (((((((A_ca_9.keep Kn102 nin0).keep Kn103 nin0).keep Kw104 (ninS (Nat.ne_of_lt (Nat.lt_of_lt_of_le ((A_ca_9.keep Kn102 nin0)).lt (Nat.le_of_eq g103.symm))) nin0)).keep Kw105 (ninS (Nat.ne_of_lt (Nat.lt_of_lt_of_le ((A_ca_9.keep Kn102 nin0)).lt (Nat.le_of_eq g103.symm))) nin0)).keep Kw106 (ninS (Nat.ne_of_lt (Nat.lt_of_lt_of_le ((A_ca_9.keep Kn102 nin0)).lt (Nat.le_of_eq g103.symm))) nin0)).keep Kw107 (ninS (Nat.ne_of_lt (Nat.lt_of_lt_of_le ((A_ca_9.keep Kn102 nin0)).lt (Nat.le_of_eq g103.symm))) nin0)).keep Kc108 (ninS (Nat.ne_of_lt (Nat.lt_of_lt_of_le (A_ca_9).lt (Nat.le_of_eq g102.symm))) nin0)) (by decide) (i := 3) rfl rfl (pc' := 289) rfl ?_
          refine g_static (W := 0) (argsL := [(.int c3)]) (rest := []) at_289 (w_67 hw) (w_68 hw) (by decide) (lenOf pd_15 rfl) (c_ws hw c3 _) (w_69 hw) (w_4 hw) (by decide) (by decide) (fun _ q => nomatch q) rfl (Nat.le_of_eq rfl) rfl (by decide) (by decide) (pc' := 292) rfl ?_
          intro w168 h168 q168 Kc168
          obtain ⟨rfl, rfl⟩ := q168
          rcases Bool.eq_false_or_eq_true (isW c3) with f3 | f3
          ·
            refine g_if_ne_t at_292 (by rw [if_pos f3]; decide) (pc' := 299) (by decide) rfl ?_
            refine g_iconst at_299 (v := 0) rfl (pc' := 300) rfl ?_
            refine g_istore at_300 (L' := #[.val (.int p0), .val (.int p1), .val (.int p2), .val (.int p3), .val (.int p4), .val (.int 4), .val (.ref ca), .val (.ref x), .val (.int 1), .val (.int 0), .val (.int 1), .val (.int 0), .unset, .unset, .unset, .unset]) rfl (pc' := 302) rfl ?_
            refine g_iload at_302 rfl (pc' := 304) rfl ?_
            refine g_if_eq_f at_304 (by decide) (pc' := 307) rfl ?_
            refine g_iconst at_307 (v := 0) rfl (pc' := 308) rfl ?_
            refine g_istore at_308 (L' := #[.val (.int p0), .val (.int p1), .val (.int p2), .val (.int p3), .val (.int p4), .val (.int 4), .val (.ref ca), .val (.ref x), .val (.int 1), .val (.int 0), .val (.int 1), .val (.int 0), .val (.int 0), .unset, .unset, .unset]) rfl (pc' := 310) rfl ?_
            refine g_goto at_310 (pc' := 350) (by decide) rfl ?_
            refine g_iload at_350 rfl (pc' := 352) rfl ?_
            refine g_if_eq_t at_352 rfl (pc' := 361) (by decide) rfl ?_
            refine g_iload at_361 rfl (pc' := 363) rfl ?_
            refine g_if_eq_f at_363 (by decide) (pc' := 366) rfl ?_
            refine g_iconst at_366 (v := 3) rfl (pc' := 367) rfl ?_
            refine g_istore at_367 (L' := #[.val (.int p0), .val (.int p1), .val (.int p2), .val (.int p3), .val (.int p4), .val (.int 4), .val (.ref ca), .val (.ref x), .val (.int 1), .val (.int 0), .val (.int 1), .val (.int 0), .val (.int 0), .val (.int 3), .unset, .unset]) rfl (pc' := 369) rfl ?_
            refine g_goto at_369 (pc' := 398) (by decide) rfl ?_
            refine g_aload at_398 rfl rfl (pc' := 400) rfl ?_
            refine g_static (W := 0) (argsL := [(.ref x)]) (rest := []) at_400 (w_27 hw) (w_28 hw) (by decide) (lenOf pd_17 rfl) (c_trim hw x _ _ z sf _ hC hz hF rsf Ss (Nat.le_of_ble_eq_true rfl)) (w_30 hw) (w_29 hw) (by decide) (by decide) (fun _ q => nomatch q) rfl (Nat.le_of_eq rfl) rfl (by decide) (by decide) (pc' := 403) rfl ?_
            intro w169 h169 q169 Kc169
            obtain ⟨sr, tr, rfl, Sr⟩ := q169
            have e169 : trimL [c0, c1, c2, c3] = [c0, c1, c2] := by simp [trimL, List.dropWhile, f0, f1, f2, f3]
            rw [e169] at Sr
            refine g_astore at_403 rfl (L' := #[.val (.int p0), .val (.int p1), .val (.int p2), .val (.int p3), .val (.int p4), .val (.int 4), .val (.ref ca), .val (.ref x), .val (.int 1), .val (.int 0), .val (.int 1), .val (.int 0), .val (.int 0), .val (.int 3), .val (.ref sr), .unset]) rfl (pc' := 405) rfl ?_
            refine g_aload at_405 rfl rfl (pc' := 407) rfl ?_
            refine g_virt (W := 0) (argsL := []) (rest := []) at_407 (w_56 hw) (w_32 hw) (nf_self (w_34 hw)) (w_34 hw) (w_33 hw) (by decide) (lenOf pd_10 rfl) Sr.1 (c_lenN hw sr tr _ 3 z _ hC hz Sr rfl) (w_35 hw) (w_8 hw) (by decide) (by decide) (fun _ q => nomatch q) rfl (Nat.le_of_eq rfl) rfl (by decide) (by decide) (pc' := 410) rfl ?_
            intro w170 h170 q170 Kc170
            obtain ⟨rfl, rfl⟩ := q170
            refine g_iload at_410 rfl (pc' := 412) rfl ?_
            refine g_iload at_412 rfl (pc' := 414) rfl ?_
            refine g_isub at_414 (v := 3) rfl (pc' := 415) rfl ?_
            refine g_icmp_eq_t at_415 rfl (pc' := 420) (by decide) rfl ?_
            refine g_aload at_420 rfl rfl (pc' := 422) rfl ?_
            refine g_virt (W := 0) (argsL := []) (rest := []) at_422 (w_56 hw) (w_32 hw) (nf_self (w_34 hw)) (w_34 hw) (w_33 hw) (by decide) (lenOf pd_10 rfl) Sr.1 (c_lenN hw sr tr _ 3 z _ hC hz Sr rfl) (w_35 hw) (w_8 hw) (by decide) (by decide) (fun _ q => nomatch q) rfl (Nat.le_of_eq rfl) rfl (by decide) (by decide) (pc' := 425) rfl ?_
            intro w171 h171 q171 Kc171
            obtain ⟨rfl, rfl⟩ := q171
            refine g_istore at_425 (L' := #[.val (.int p0), .val (.int p1), .val (.int p2), .val (.int p3), .val (.int p4), .val (.int 4), .val (.ref ca), .val (.ref x), .val (.int 1), .val (.int 0), .val (.int 1), .val (.int 0), .val (.int 0), .val (.int 3), .val (.ref sr), .val (.int 3)]) rfl (pc' := 427) rfl ?_
            refine g_iload at_427 rfl (pc' := 429) rfl ?_
            refine g_if_le_f at_429 (by decide) (pc' := 432) rfl ?_
            refine g_aload at_432 rfl rfl (pc' := 434) rfl ?_
            refine g_iconst at_434 (v := 0) rfl (pc' := 435) rfl ?_
            refine g_virt (W := 0) (argsL := [(.int 0)]) (rest := []) at_435 (w_118 hw) (w_71 hw) (nf_self (w_73 hw)) (w_73 hw) (w_72 hw) (by decide) (lenOf pd_14 rfl) Sr.1 (c_charat hw sr tr _ 0 c0 z sf _ hC hz hF rsf Sr rfl) (w_74 hw) (w_8 hw) (by decide) (by decide) (fun _ q => nomatch q) rfl (Nat.le_of_eq rfl) rfl (by decide) (by decide) (pc' := 438) rfl ?_
            intro w172 h172 q172 Kc172
            obtain ⟨rfl, rfl⟩ := q172
            refine g_aload at_438 rfl rfl (pc' := 440) rfl ?_
            refine g_iload at_440 rfl (pc' := 442) rfl ?_
            refine g_caload at_442 ((((((((A_ca_9.keep Kn102 nin0).keep Kn103 nin0).keep Kw104 (ninS (Nat.ne_of_lt (Nat.lt_of_lt_of_le ((A_ca_9.keep Kn102 nin0)).lt (Nat.le_of_eq g103.symm))) nin0)).keep Kw105 (ninS (Nat.ne_of_lt (Nat.lt_of_lt_of_le ((A_ca_9.keep Kn102 nin0)).lt (Nat.le_of_eq g103.symm))) nin0)).keep Kw106 (ninS (Nat.ne_of_lt (Nat.lt_of_lt_of_le ((A_ca_9.keep Kn102 nin0)).lt (Nat.le_of_eq g103.symm))) nin0)).keep Kw107 (ninS (Nat.ne_of_lt (Nat.lt_of_lt_of_le ((A_ca_9.keep Kn102 nin0)).lt (Nat.le_of_eq g103.symm))) nin0)).keep Kc108 (ninS (Nat.ne_of_lt (Nat.lt_of_lt_of_le (A_ca_9).lt (Nat.le_of_eq g102.symm))) nin0)).keep Kc169 nin0) (by decide) (i := 0) rfl rfl (pc' := 443) rfl ?_
            refine g_icmp_ne_f at_443 rfl (pc' := 446) rfl ?_
            refine g_iload at_446 rfl (pc' := 448) rfl ?_
            refine g_iconst at_448 (v := 1) rfl (pc' := 449) rfl ?_
            refine g_icmp_le_f at_449 (by decide) (pc' := 452) rfl ?_
            refine g_aload at_452 rfl rfl (pc' := 454) rfl ?_
            refine g_iconst at_454 (v := 1) rfl (pc' := 455) rfl ?_
            refine g_virt (W := 0) (argsL := [(.int 1)]) (rest := []) at_455 (w_118 hw) (w_71 hw) (nf_self (w_73 hw)) (w_73 hw) (w_72 hw) (by decide) (lenOf pd_14 rfl) Sr.1 (c_charat hw sr tr _ 1 c1 z sf _ hC hz hF rsf Sr rfl) (w_74 hw) (w_8 hw) (by decide) (by decide) (fun _ q => nomatch q) rfl (Nat.le_of_eq rfl) rfl (by decide) (by decide) (pc' := 458) rfl ?_
            intro w173 h173 q173 Kc173
            obtain ⟨rfl, rfl⟩ := q173
            refine g_aload at_458 rfl rfl (pc' := 460) rfl ?_
            refine g_iload at_460 rfl (pc' := 462) rfl ?_
            refine g_iconst at_462 (v := 1) rfl (pc' := 463) rfl ?_
            refine g_iadd at_463 (v := 1) rfl (pc' := 464) rfl ?_
            refine g_caload at_464 ((((((((A_ca_9.keep Kn102 nin0).keep Kn103 nin0).keep Kw104 (ninS (Nat.ne_of_lt (Nat.lt_of_lt_of_le ((A_ca_9.keep Kn102 nin0)).lt (Nat.le_of_eq g103.symm))) nin0)).keep Kw105 (ninS (Nat.ne_of_lt (Nat.lt_of_lt_of_le ((A_ca_9.keep Kn102 nin0)).lt (Nat.le_of_eq g103.symm))) nin0)).keep Kw106 (ninS (Nat.ne_of_lt (Nat.lt_of_lt_of_le ((A_ca_9.keep Kn102 nin0)).lt (Nat.le_of_eq g103.symm))) nin0)).keep Kw107 (ninS (Nat.ne_of_lt (Nat.lt_of_lt_of_le ((A_ca_9.keep Kn102 nin0)).lt (Nat.le_of_eq g103.symm))) nin0)).keep Kc108 (ninS (Nat.ne_of_lt (Nat.lt_of_lt_of_le (A_ca_9).lt (Nat.le_of_eq g102.symm))) nin0)).keep Kc169 nin0) (by decide) (i := 1) rfl rfl (pc' := 465) rfl ?_
            refine g_icmp_ne_f at_465 rfl (pc' := 468) rfl ?_
            refine g_iload at_468 rfl (pc' := 470) rfl ?_
            refine g_iconst at_470 (v := 2) rfl (pc' := 471) rfl ?_
            refine g_icmp_le_f at_471 (by decide) (pc' := 474) rfl ?_
            refine g_aload at_474 rfl rfl (pc' := 476) rfl ?_
            refine g_iconst at_476 (v := 2) rfl (pc' := 477) rfl ?_
            refine g_virt (W := 0) (argsL := [(.int 2)]) (rest := []) at_477 (w_118 hw) (w_71 hw) (nf_self (w_73 hw)) (w_73 hw) (w_72 hw) (by decide) (lenOf pd_14 rfl) Sr.1 (c_charat hw sr tr _ 2 c2 z sf _ hC hz hF rsf Sr rfl) (w_74 hw) (w_8 hw) (by decide) (by decide) (fun _ q => nomatch q) rfl (Nat.le_of_eq rfl) rfl (by decide) (by decide) (pc' := 480) rfl ?_
            intro w174 h174 q174 Kc174
            obtain ⟨rfl, rfl⟩ := q174
            refine g_aload at_480 rfl rfl (pc' := 482) rfl ?_
            refine g_iload at_482 rfl (pc' := 484) rfl ?_
            refine g_iconst at_484 (v := 2) rfl (pc' := 485) rfl ?_
            refine g_iadd at_485 (v := 2) rfl (pc' := 486) rfl ?_
            refine g_caload at_486 ((((((((A_ca_9.keep Kn102 nin0).keep Kn103 nin0).keep Kw104 (ninS (Nat.ne_of_lt (Nat.lt_of_lt_of_le ((A_ca_9.keep Kn102 nin0)).lt (Nat.le_of_eq g103.symm))) nin0)).keep Kw105 (ninS (Nat.ne_of_lt (Nat.lt_of_lt_of_le ((A_ca_9.keep Kn102 nin0)).lt (Nat.le_of_eq g103.symm))) nin0)).keep Kw106 (ninS (Nat.ne_of_lt (Nat.lt_of_lt_of_le ((A_ca_9.keep Kn102 nin0)).lt (Nat.le_of_eq g103.symm))) nin0)).keep Kw107 (ninS (Nat.ne_of_lt (Nat.lt_of_lt_of_le ((A_ca_9.keep Kn102 nin0)).lt (Nat.le_of_eq g103.symm))) nin0)).keep Kc108 (ninS (Nat.ne_of_lt (Nat.lt_of_lt_of_le (A_ca_9).lt (Nat.le_of_eq g102.symm))) nin0)).keep Kc169 nin0) (by decide) (i := 2) rfl rfl (pc' := 487) rfl ?_
            refine g_icmp_ne_f at_487 rfl (pc' := 490) rfl ?_
            refine g_iload at_490 rfl (pc' := 492) rfl ?_
            refine g_iconst at_492 (v := 3) rfl (pc' := 493) rfl ?_
            refine g_icmp_le_t at_493 (by decide) (pc' := 512) (by decide) rfl ?_
            refine g_iconst at_512 (v := 1) rfl (pc' := 513) rfl ?_
            refine g_goto at_513 (pc' := 517) (by decide) rfl ?_
            exact g_ireturnN at_517 rfl (by simp) (z := 1) rfl rfl (by decide) (by decide)
          ·
            refine g_if_ne_f at_292 (if_neg (by rw [f3]; decide)) (pc' := 295) rfl ?_
            refine g_iconst at_295 (v := 1) rfl (pc' := 296) rfl ?_
            refine g_goto at_296 (pc' := 300) (by decide) rfl ?_
            refine g_istore at_300 (L' := #[.val (.int p0), .val (.int p1), .val (.int p2), .val (.int p3), .val (.int p4), .val (.int 4), .val (.ref ca), .val (.ref x), .val (.int 1), .val (.int 0), .val (.int 1), .val (.int 1), .unset, .unset, .unset, .unset]) rfl (pc' := 302) rfl ?_
            refine g_iload at_302 rfl (pc' := 304) rfl ?_
            refine g_if_eq_f at_304 (by decide) (pc' := 307) rfl ?_
            refine g_iconst at_307 (v := 0) rfl (pc' := 308) rfl ?_
            refine g_istore at_308 (L' := #[.val (.int p0), .val (.int p1), .val (.int p2), .val (.int p3), .val (.int p4), .val (.int 4), .val (.ref ca), .val (.ref x), .val (.int 1), .val (.int 0), .val (.int 1), .val (.int 1), .val (.int 0), .unset, .unset, .unset]) rfl (pc' := 310) rfl ?_
            refine g_goto at_310 (pc' := 350) (by decide) rfl ?_
            refine g_iload at_350 rfl (pc' := 352) rfl ?_
            refine g_if_eq_f at_352 (by decide) (pc' := 355) rfl ?_
            refine g_iconst at_355 (v := 4) rfl (pc' := 356) rfl ?_
            refine g_istore at_356 (L' := #[.val (.int p0), .val (.int p1), .val (.int p2), .val (.int p3), .val (.int p4), .val (.int 4), .val (.ref ca), .val (.ref x), .val (.int 1), .val (.int 0), .val (.int 1), .val (.int 1), .val (.int 0), .val (.int 4), .unset, .unset]) rfl (pc' := 358) rfl ?_
            refine g_goto at_358 (pc' := 398) (by decide) rfl ?_
            refine g_aload at_398 rfl rfl (pc' := 400) rfl ?_
            refine g_static (W := 0) (argsL := [(.ref x)]) (rest := []) at_400 (w_27 hw) (w_28 hw) (by decide) (lenOf pd_17 rfl) (c_trim hw x _ _ z sf _ hC hz hF rsf Ss (Nat.le_of_ble_eq_true rfl)) (w_30 hw) (w_29 hw) (by decide) (by decide) (fun _ q => nomatch q) rfl (Nat.le_of_eq rfl) rfl (by decide) (by decide) (pc' := 403) rfl ?_
            intro w175 h175 q175 Kc175
            obtain ⟨sr, tr, rfl, Sr⟩ := q175
            have e175 : trimL [c0, c1, c2, c3] = [c0, c1, c2, c3] := by simp [trimL, List.dropWhile, f0, f1, f2, f3]
            rw [e175] at Sr
            refine g_astore at_403 rfl (L' := #[.val (.int p0), .val (.int p1), .val (.int p2), .val (.int p3), .val (.int p4), .val (.int 4), .val (.ref ca), .val (.ref x), .val (.int 1), .val (.int 0), .val (.int 1), .val (.int 1), .val (.int 0), .val (.int 4), .val (.ref sr), .unset]) rfl (pc' := 405) rfl ?_
            refine g_aload at_405 rfl rfl (pc' := 407) rfl ?_
            refine g_virt (W := 0) (argsL := []) (rest := []) at_407 (w_56 hw) (w_32 hw) (nf_self (w_34 hw)) (w_34 hw) (w_33 hw) (by decide) (lenOf pd_10 rfl) Sr.1 (c_lenN hw sr tr _ 4 z _ hC hz Sr rfl) (w_35 hw) (w_8 hw) (by decide) (by decide) (fun _ q => nomatch q) rfl (Nat.le_of_eq rfl) rfl (by decide) (by decide) (pc' := 410) rfl ?_
            intro w176 h176 q176 Kc176
            obtain ⟨rfl, rfl⟩ := q176
            refine g_iload at_410 rfl (pc' := 412) rfl ?_
            refine g_iload at_412 rfl (pc' := 414) rfl ?_
            refine g_isub at_414 (v := 4) rfl (pc' := 415) rfl ?_
            refine g_icmp_eq_t at_415 rfl (pc' := 420) (by decide) rfl ?_
            refine g_aload at_420 rfl rfl (pc' := 422) rfl ?_
            refine g_virt (W := 0) (argsL := []) (rest := []) at_422 (w_56 hw) (w_32 hw) (nf_self (w_34 hw)) (w_34 hw) (w_33 hw) (by decide) (lenOf pd_10 rfl) Sr.1 (c_lenN hw sr tr _ 4 z _ hC hz Sr rfl) (w_35 hw) (w_8 hw) (by decide) (by decide) (fun _ q => nomatch q) rfl (Nat.le_of_eq rfl) rfl (by decide) (by decide) (pc' := 425) rfl ?_
            intro w177 h177 q177 Kc177
            obtain ⟨rfl, rfl⟩ := q177
            refine g_istore at_425 (L' := #[.val (.int p0), .val (.int p1), .val (.int p2), .val (.int p3), .val (.int p4), .val (.int 4), .val (.ref ca), .val (.ref x), .val (.int 1), .val (.int 0), .val (.int 1), .val (.int 1), .val (.int 0), .val (.int 4), .val (.ref sr), .val (.int 4)]) rfl (pc' := 427) rfl ?_
            refine g_iload at_427 rfl (pc' := 429) rfl ?_
            refine g_if_le_f at_429 (by decide) (pc' := 432) rfl ?_
            refine g_aload at_432 rfl rfl (pc' := 434) rfl ?_
            refine g_iconst at_434 (v := 0) rfl (pc' := 435) rfl ?_
            refine g_virt (W := 0) (argsL := [(.int 0)]) (rest := []) at_435 (w_118 hw) (w_71 hw) (nf_self (w_73 hw)) (w_73 hw) (w_72 hw) (by decide) (lenOf pd_14 rfl) Sr.1 (c_charat hw sr tr _ 0 c0 z sf _ hC hz hF rsf Sr rfl) (w_74 hw) (w_8 hw) (by decide) (by decide) (fun _ q => nomatch q) rfl (Nat.le_of_eq rfl) rfl (by decide) (by decide) (pc' := 438) rfl ?_
            intro w178 h178 q178 Kc178
            obtain ⟨rfl, rfl⟩ := q178
            refine g_aload at_438 rfl rfl (pc' := 440) rfl ?_
            refine g_iload at_440 rfl (pc' := 442) rfl ?_
            refine g_caload at_442 ((((((((A_ca_9.keep Kn102 nin0).keep Kn103 nin0).keep Kw104 (ninS (Nat.ne_of_lt (Nat.lt_of_lt_of_le ((A_ca_9.keep Kn102 nin0)).lt (Nat.le_of_eq g103.symm))) nin0)).keep Kw105 (ninS (Nat.ne_of_lt (Nat.lt_of_lt_of_le ((A_ca_9.keep Kn102 nin0)).lt (Nat.le_of_eq g103.symm))) nin0)).keep Kw106 (ninS (Nat.ne_of_lt (Nat.lt_of_lt_of_le ((A_ca_9.keep Kn102 nin0)).lt (Nat.le_of_eq g103.symm))) nin0)).keep Kw107 (ninS (Nat.ne_of_lt (Nat.lt_of_lt_of_le ((A_ca_9.keep Kn102 nin0)).lt (Nat.le_of_eq g103.symm))) nin0)).keep Kc108 (ninS (Nat.ne_of_lt (Nat.lt_of_lt_of_le (A_ca_9).lt (Nat.le_of_eq g102.symm))) nin0)).keep Kc175 nin0) (by decide) (i := 0) rfl rfl (pc' := 443) rfl ?_
            refine g_icmp_ne_f at_443 rfl (pc' := 446) rfl ?_
            refine g_iload at_446 rfl (pc' := 448) rfl ?_
            refine g_iconst at_448 (v := 1) rfl (pc' := 449) rfl ?_
            refine g_icmp_le_f at_449 (by decide) (pc' := 452) rfl ?_
            refine g_aload at_452 rfl rfl (pc' := 454) rfl ?_
            refine g_iconst at_454 (v := 1) rfl (pc' := 455) rfl ?_
            refine g_virt (W := 0) (argsL := [(.int 1)]) (rest := []) at_455 (w_118 hw) (w_71 hw) (nf_self (w_73 hw)) (w_73 hw) (w_72 hw) (by decide) (lenOf pd_14 rfl) Sr.1 (c_charat hw sr tr _ 1 c1 z sf _ hC hz hF rsf Sr rfl) (w_74 hw) (w_8 hw) (by decide) (by decide) (fun _ q => nomatch q) rfl (Nat.le_of_eq rfl) rfl (by decide) (by decide) (pc' := 458) rfl ?_
            intro w179 h179 q179 Kc179
            obtain ⟨rfl, rfl⟩ := q179
            refine g_aload at_458 rfl rfl (pc' := 460) rfl ?_
            refine g_iload at_460 rfl (pc' := 462) rfl ?_
            refine g_iconst at_462 (v := 1) rfl (pc' := 463) rfl ?_
            refine g_iadd at_463 (v := 1) rfl (pc' := 464) rfl ?_
            refine g_caload at_464 ((((((((A_ca_9.keep Kn102 nin0).keep Kn103 nin0).keep Kw104 (ninS (Nat.ne_of_lt (Nat.lt_of_lt_of_le ((A_ca_9.keep Kn102 nin0)).lt (Nat.le_of_eq g103.symm))) nin0)).keep Kw105 (ninS (Nat.ne_of_lt (Nat.lt_of_lt_of_le ((A_ca_9.keep Kn102 nin0)).lt (Nat.le_of_eq g103.symm))) nin0)).keep Kw106 (ninS (Nat.ne_of_lt (Nat.lt_of_lt_of_le ((A_ca_9.keep Kn102 nin0)).lt (Nat.le_of_eq g103.symm))) nin0)).keep Kw107 (ninS (Nat.ne_of_lt (Nat.lt_of_lt_of_le ((A_ca_9.keep Kn102 nin0)).lt (Nat.le_of_eq g103.symm))) nin0)).keep Kc108 (ninS (Nat.ne_of_lt (Nat.lt_of_lt_of_le (A_ca_9).lt (Nat.le_of_eq g102.symm))) nin0)).keep Kc175 nin0) (by decide) (i := 1) rfl rfl (pc' := 465) rfl ?_
            refine g_icmp_ne_f at_465 rfl (pc' := 468) rfl ?_
            refine g_iload at_468 rfl (pc' := 470) rfl ?_
            refine g_iconst at_470 (v := 2) rfl (pc' := 471) rfl ?_
            refine g_icmp_le_f at_471 (by decide) (pc' := 474) rfl ?_
            refine g_aload at_474 rfl rfl (pc' := 476) rfl ?_
            refine g_iconst at_476 (v := 2) rfl (pc' := 477) rfl ?_
            refine g_virt (W := 0) (argsL := [(.int 2)]) (rest := []) at_477 (w_118 hw) (w_71 hw) (nf_self (w_73 hw)) (w_73 hw) (w_72 hw) (by decide) (lenOf pd_14 rfl) Sr.1 (c_charat hw sr tr _ 2 c2 z sf _ hC hz hF rsf Sr rfl) (w_74 hw) (w_8 hw) (by decide) (by decide) (fun _ q => nomatch q) rfl (Nat.le_of_eq rfl) rfl (by decide) (by decide) (pc' := 480) rfl ?_
            intro w180 h180 q180 Kc180
            obtain ⟨rfl, rfl⟩ := q180
            refine g_aload at_480 rfl rfl (pc' := 482) rfl ?_
            refine g_iload at_482 rfl (pc' := 484) rfl ?_
            refine g_iconst at_484 (v := 2) rfl (pc' := 485) rfl ?_
            refine g_iadd at_485 (v := 2) rfl (pc' := 486) rfl ?_
            refine g_caload at_486 ((((((((A_ca_9.keep Kn102 nin0).keep Kn103 nin0).keep Kw104 (ninS (Nat.ne_of_lt (Nat.lt_of_lt_of_le ((A_ca_9.keep Kn102 nin0)).lt (Nat.le_of_eq g103.symm))) nin0)).keep Kw105 (ninS (Nat.ne_of_lt (Nat.lt_of_lt_of_le ((A_ca_9.keep Kn102 nin0)).lt (Nat.le_of_eq g103.symm))) nin0)).keep Kw106 (ninS (Nat.ne_of_lt (Nat.lt_of_lt_of_le ((A_ca_9.keep Kn102 nin0)).lt (Nat.le_of_eq g103.symm))) nin0)).keep Kw107 (ninS (Nat.ne_of_lt (Nat.lt_of_lt_of_le ((A_ca_9.keep Kn102 nin0)).lt (Nat.le_of_eq g103.symm))) nin0)).keep Kc108 (ninS (Nat.ne_of_lt (Nat.lt_of_lt_of_le (A_ca_9).lt (Nat.le_of_eq g102.symm))) nin0)).keep Kc175 nin0) (by decide) (i := 2) rfl rfl (pc' := 487) rfl ?_
            refine g_icmp_ne_f at_487 rfl (pc' := 490) rfl ?_
            refine g_iload at_490 rfl (pc' := 492) rfl ?_
            refine g_iconst at_492 (v := 3) rfl (pc' := 493) rfl ?_
            refine g_icmp_le_f at_493 (by decide) (pc' := 496) rfl ?_
            refine g_aload at_496 rfl rfl (pc' := 498) rfl ?_
            refine g_iconst at_498 (v := 3) rfl (pc' := 499) rfl ?_
            refine g_virt (W := 0) (argsL := [(.int 3)]) (rest := []) at_499 (w_118 hw) (w_71 hw) (nf_self (w_73 hw)) (w_73 hw) (w_72 hw) (by decide) (lenOf pd_14 rfl) Sr.1 (c_charat hw sr tr _ 3 c3 z sf _ hC hz hF rsf Sr rfl) (w_74 hw) (w_8 hw) (by decide) (by decide) (fun _ q => nomatch q) rfl (Nat.le_of_eq rfl) rfl (by decide) (by decide) (pc' := 502) rfl ?_
            intro w181 h181 q181 Kc181
            obtain ⟨rfl, rfl⟩ := q181
            refine g_aload at_502 rfl rfl (pc' := 504) rfl ?_
            refine g_iload at_504 rfl (pc' := 506) rfl ?_
            refine g_iconst at_506 (v := 3) rfl (pc' := 507) rfl ?_
            refine g_iadd at_507 (v := 3) rfl (pc' := 508) rfl ?_
            refine g_caload at_508 ((((((((A_ca_9.keep Kn102 nin0).keep Kn103 nin0).keep Kw104 (ninS (Nat.ne_of_lt (Nat.lt_of_lt_of_le ((A_ca_9.keep Kn102 nin0)).lt (Nat.le_of_eq g103.symm))) nin0)).keep Kw105 (ninS (Nat.ne_of_lt (Nat.lt_of_lt_of_le ((A_ca_9.keep Kn102 nin0)).lt (Nat.le_of_eq g103.symm))) nin0)).keep Kw106 (ninS (Nat.ne_of_lt (Nat.lt_of_lt_of_le ((A_ca_9.keep Kn102 nin0)).lt (Nat.le_of_eq g103.symm))) nin0)).keep Kw107 (ninS (Nat.ne_of_lt (Nat.lt_of_lt_of_le ((A_ca_9.keep Kn102 nin0)).lt (Nat.le_of_eq g103.symm))) nin0)).keep Kc108 (ninS (Nat.ne_of_lt (Nat.lt_of_lt_of_le (A_ca_9).lt (Nat.le_of_eq g102.symm))) nin0)).keep Kc175 nin0) (by decide) (i := 3) rfl rfl (pc' := 509) rfl ?_
            refine g_icmp_ne_f at_509 rfl (pc' := 512) rfl ?_
            refine g_iconst at_512 (v := 1) rfl (pc' := 513) rfl ?_
            refine g_goto at_513 (pc' := 517) (by decide) rfl ?_
            exact g_ireturnN at_517 rfl (by simp) (z := 1) rfl rfl (by decide) (by decide)
      ·
        refine g_if_ne_f at_246 (if_neg (by rw [f1]; decide)) (pc' := 249) rfl ?_
        refine g_iconst at_249 (v := 1) rfl (pc' := 250) rfl ?_
        refine g_goto at_250 (pc' := 254) (by decide) rfl ?_
        refine g_istore at_254 (L' := #[.val (.int p0), .val (.int p1), .val (.int p2), .val (.int p3), .val (.int p4), .val (.int 4), .val (.ref ca), .val (.ref x), .val (.int 1), .val (.int 1), .unset, .unset, .unset, .unset, .unset, .unset]) rfl (pc' := 256) rfl ?_
        refine g_iload at_256 rfl (pc' := 258) rfl ?_
        refine g_iconst at_258 (v := 2) rfl (pc' := 259) rfl ?_
        refine g_icmp_le_f at_259 (by decide) (pc' := 262) rfl ?_
        refine g_aload at_262 rfl rfl (pc' := 264) rfl ?_
        refine g_iconst at_264 (v := 2) rfl (pc' := 265) rfl ?_
        refine g_caload at_265 (((((((A_ca_9.keep Kn102 nin0).keep Kn103 nin0).keep Kw104 (ninS (Nat.ne_of_lt (Nat.lt_of_lt_of_le ((A_ca_9.keep Kn102 nin0)).lt (Nat.le_of_eq g103.symm))) nin0)).keep Kw105 (ninS (Nat.ne_of_lt (Nat.lt_of_lt_of_le ((A_ca_9.keep Kn102 nin0)).lt (Nat.le_of_eq g103.symm))) nin0)).keep Kw106 (ninS (Nat.ne_of_lt (Nat.lt_of_lt_of_le ((A_ca_9.keep Kn102 nin0)).lt (Nat.le_of_eq g103.symm))) nin0)).keep Kw107 (ninS (Nat.ne_of_lt (Nat.lt_of_lt_of_le ((A_ca_9.keep Kn102 nin0)).lt (Nat.le_of_eq g103.symm))) nin0)).keep Kc108 (ninS (Nat.ne_of_lt (Nat.lt_of_lt_of_le (A_ca_9).lt (Nat.le_of_eq g102.symm))) nin0)) (by decide) (i := 2) rfl rfl (pc' := 266) rfl ?_
        refine g_static (W := 0) (argsL := [(.int c2)]) (rest := []) at_266 (w_67 hw) (w_68 hw) (by decide) (lenOf pd_15 rfl) (c_ws hw c2 _) (w_69 hw) (w_4 hw) (by decide) (by decide) (fun _ q => nomatch q) rfl (Nat.le_of_eq rfl) rfl (by decide) (by decide) (pc' := 269) rfl ?_
        intro w182 h182 q182 Kc182
        obtain ⟨rfl, rfl⟩ := q182
        rcases Bool.eq_false_or_eq_true (isW c2) with f2 | f2
        ·
          refine g_if_ne_t at_269 (by rw [if_pos f2]; decide) (pc' := 276) (by decide) rfl ?_
          refine g_iconst at_276 (v := 0) rfl (pc' := 277) rfl ?_
          refine g_istore at_277 (L' := #[.val (.int p0), .val (.int p1), .val (.int p2), .val (.int p3), .val (.int p4), .val (.int 4), .val (.ref ca), .val (.ref x), .val (.int 1), .val (.int 1), .val (.int 0), .unset, .unset, .unset, .unset, .unset]) rfl (pc' := 279) rfl ?_
          refine g_iload at_279 rfl (pc' := 281) rfl ?_
          refine g_iconst at_281 (v := 3) rfl (pc' := 282) rfl ?_
          refine g_icmp_le_f at_282 (by decide) (pc' := 285) rfl ?_
          refine g_aload at_285 rfl rfl (pc' := 287) rfl ?_
          refine g_iconst at_287 (v := 3) rfl (pc' := 288) rfl ?_
          refine g_caload at_288 (((((((A_ca_9.keep Kn102 nin0).keep Kn103 nin0).keep Kw104 (ninS (Nat.ne_of_lt (Nat.lt_of_lt_of_le ((A_ca_9.keep Kn102 nin0)).lt (Nat.le_of_eq g103.symm))) nin0)).keep Kw105 (ninS (Nat.ne_of_lt (Nat.lt_of_lt_of_le ((A_ca_9.keep Kn102 nin0)).lt (Nat.le_of_eq g103.symm))) nin0)).keep Kw106 (ninS (Nat.ne_of_lt (Nat.lt_of_lt_of_le ((A_ca_9.keep Kn102 nin0)).lt (Nat.le_of_eq g103.symm))) nin0)).keep Kw107 (ninS (Nat.ne_of_lt (Nat.lt_of_lt_of_le ((A_ca_9.keep Kn102 nin0)).lt (Nat.le_of_eq g103.symm))) nin0)).keep Kc108 (ninS (Nat.ne_of_lt (Nat.lt_of_lt_of_le (A_ca_9).lt (Nat.le_of_eq g102.symm))) nin0)) (by decide) (i := 3) rfl rfl (pc' := 289) rfl ?_
          refine g_static (W := 0) (argsL := [(.int c3)]) (rest := []) at_289 (w_67 hw) (w_68 hw) (by decide) (lenOf pd_15 rfl) (c_ws hw c3 _) (w_69 hw) (w_4 hw) (by decide) (by decide) (fun _ q => nomatch q) rfl (Nat.le_of_eq rfl) rfl (by decide) (by decide) (pc' := 292) rfl ?_
          intro w183 h183 q183 Kc183
          obtain ⟨rfl, rfl⟩ := q183
          rcases Bool.eq_false_or_eq_true (isW c3) with f3 | f3
          ·
            refine g_if_ne_t at_292 (by rw [if_pos f3]; decide) (pc' := 299) (by decide) rfl ?_
            refine g_iconst at_299 (v := 0) rfl (pc' := 300) rfl ?_
            refine g_istore at_300 (L' := #[.val (.int p0), .val (.int p1), .val (.int p2), .val (.int p3), .val (.int p4), .val (.int 4), .val (.ref ca), .val (.ref x), .val (.int 1), .val (.int 1), .val (.int 0), .val (.int 0), .unset, .unset, .unset, .unset]) rfl (pc' := 302) rfl ?_
            refine g_iload at_302 rfl (pc' := 304) rfl ?_
            refine g_if_eq_f at_304 (by decide) (pc' := 307) rfl ?_
            refine g_iconst at_307 (v := 0) rfl (pc' := 308) rfl ?_
            refine g_istore at_308 (L' := #[.val (.int p0), .val (.int p1), .val (.int p2), .val (.int p3), .val (.int p4), .val (.int 4), .val (.ref ca), .val (.ref x), .val (.int 1), .val (.int 1), .val (.int 0), .val (.int 0), .val (.int 0), .unset, .unset, .unset]) rfl (pc' := 310) rfl ?_
            refine g_goto at_310 (pc' := 350) (by decide) rfl ?_
            refine g_iload at_350 rfl (pc' := 352) rfl ?_
            refine g_if_eq_t at_352 rfl (pc' := 361) (by decide) rfl ?_
            refine g_iload at_361 rfl (pc' := 363) rfl ?_
            refine g_if_eq_t at_363 rfl (pc' := 372) (by decide) rfl ?_
            refine g_iload at_372 rfl (pc' := 374) rfl ?_
            refine g_if_eq_f at_374 (by decide) (pc' := 377) rfl ?_
            refine g_iconst at_377 (v := 2) rfl (pc' := 378) rfl ?_
            refine g_istore at_378 (L' := #[.val (.int p0), .val (.int p1), .val (.int p2), .val (.int p3), .val (.int p4), .val (.int 4), .val (.ref ca), .val (.ref x), .val (.int 1), .val (.int 1), .val (.int 0), .val (.int 0), .val (.int 0), .val (.int 2), .unset, .unset]) rfl (pc' := 380) rfl ?_
            refine g_goto at_380 (pc' := 398) (by decide) rfl ?_
            refine g_aload at_398 rfl rfl (pc' := 400) rfl ?_
            refine g_static (W := 0) (argsL := [(.ref x)]) (rest := []) at_400 (w_27 hw) (w_28 hw) (by decide) (lenOf pd_17 rfl) (c_trim hw x _ _ z sf _ hC hz hF rsf Ss (Nat.le_of_ble_eq_true rfl)) (w_30 hw) (w_29 hw) (by decide) (by decide) (fun _ q => nomatch q) rfl (Nat.le_of_eq rfl) rfl (by decide) (by decide) (pc' := 403) rfl ?_
            intro w184 h184 q184 Kc184
            obtain ⟨sr, tr, rfl, Sr⟩ := q184
            have e184 : trimL [c0, c1, c2, c3] = [c0, c1] := by simp [trimL, List.dropWhile, f0, f1, f2, f3]
            rw [e184] at Sr
            refine g_astore at_403 rfl (L' := #[.val (.int p0), .val (.int p1), .val (.int p2), .val (.int p3), .val (.int p4), .val (.int 4), .val (.ref ca), .val (.ref x), .val (.int 1), .val (.int 1), .val (.int 0), .val (.int 0), .val (.int 0), .val (.int 2), .val (.ref sr), .unset]) rfl (pc' := 405) rfl ?_
            refine g_aload at_405 rfl rfl (pc' := 407) rfl ?_
            refine g_virt (W := 0) (argsL := []) (rest := []) at_407 (w_56 hw) (w_32 hw) (nf_self (w_34 hw)) (w_34 hw) (w_33 hw) (by decide) (lenOf pd_10 rfl) Sr.1 (c_lenN hw sr tr _ 2 z _ hC hz Sr rfl) (w_35 hw) (w_8 hw) (by decide) (by decide) (fun _ q => nomatch q) rfl (Nat.le_of_eq rfl) rfl (by decide) (by decide) (pc' := 410) rfl ?_
            intro w185 h185 q185 Kc185
            obtain ⟨rfl, rfl⟩ := q185
            refine g_iload at_410 rfl (pc' := 412) rfl ?_
            refine g_iload at_412 rfl (pc' := 414) rfl ?_
            refine g_isub at_414 (v := 2) rfl (pc' := 415) rfl ?_
            refine g_icmp_eq_t at_415 rfl (pc' := 420) (by decide) rfl ?_
            refine g_aload at_420 rfl rfl (pc' := 422) rfl ?_
            refine g_virt (W := 0) (argsL := []) (rest := []) at_422 (w_56 hw) (w_32 hw) (nf_self (w_34 hw)) (w_34 hw) (w_33 hw) (by decide) (lenOf pd_10 rfl) Sr.1 (c_lenN hw sr tr _ 2 z _ hC hz Sr rfl) (w_35 hw) (w_8 hw) (by decide) (by decide) (fun _ q => nomatch q) rfl (Nat.le_of_eq rfl) rfl (by decide) (by decide) (pc' := 425) rfl ?_
            intro w186 h186 q186 Kc186
            obtain ⟨rfl, rfl⟩ := q186
            refine g_istore at_425 (L' := #[.val (.int p0), .val (.int p1), .val (.int p2), .val (.int p3), .val (.int p4), .val (.int 4), .val (.ref ca), .val (.ref x), .val (.int 1), .val (.int 1), .val (.int 0), .val (.int 0), .val (.int 0), .val (.int 2), .val (.ref sr), .val (.int 2)]) rfl (pc' := 427) rfl ?_
            refine g_iload at_427 rfl (pc' := 429) rfl ?_
            refine g_if_le_f at_429 (by decide) (pc' := 432) rfl ?_
            refine g_aload at_432 rfl rfl (pc' := 434) rfl ?_
            refine g_iconst at_434 (v := 0) rfl (pc' := 435) rfl ?_
            refine g_virt (W := 0) (argsL := [(.int 0)]) (rest := []) at_435 (w_118 hw) (w_71 hw) (nf_self (w_73 hw)) (w_73 hw) (w_72 hw) (by decide) (lenOf pd_14 rfl) Sr.1 (c_charat hw sr tr _ 0 c0 z sf _ hC hz hF rsf Sr rfl) (w_74 hw) (w_8 hw) (by decide) (by decide) (fun _ q => nomatch q) rfl (Nat.le_of_eq rfl) rfl (by decide) (by decide) (pc' := 438) rfl ?_
            intro w187 h187 q187 Kc187
            obtain ⟨rfl, rfl⟩ := q187
            refine g_aload at_438 rfl rfl (pc' := 440) rfl ?_
            refine g_iload at_440 rfl (pc' := 442) rfl ?_
            refine g_caload at_442 ((((((((A_ca_9.keep Kn102 nin0).keep Kn103 nin0).keep Kw104 (ninS (Nat.ne_of_lt (Nat.lt_of_lt_of_le ((A_ca_9.keep Kn102 nin0)).lt (Nat.le_of_eq g103.symm))) nin0)).keep Kw105 (ninS (Nat.ne_of_lt (Nat.lt_of_lt_of_le ((A_ca_9.keep Kn102 nin0)).lt (Nat.le_of_eq g103.symm))) nin0)).keep Kw106 (ninS (Nat.ne_of_lt (Nat.lt_of_lt_of_le ((A_ca_9.keep Kn102 nin0)).lt (Nat.le_of_eq g103.symm))) nin0)).keep Kw107 (ninS (Nat.ne_of_lt (Nat.lt_of_lt_of_le ((A_ca_9.keep Kn102 nin0)).lt (Nat.le_of_eq g103.symm))) nin0)).keep Kc108 (ninS (Nat.ne_of_lt (Nat.lt_of_lt_of_le (A_ca_9).lt (Nat.le_of_eq g102.symm))) nin0)).keep Kc184 nin0) (by decide) (i := 0) rfl rfl (pc' := 443) rfl ?_
            refine g_icmp_ne_f at_443 rfl (pc' := 446) rfl ?_
            refine g_iload at_446 rfl (pc' := 448) rfl ?_
            refine g_iconst at_448 (v := 1) rfl (pc' := 449) rfl ?_
            refine g_icmp_le_f at_449 (by decide) (pc' := 452) rfl ?_
            refine g_aload at_452 rfl rfl (pc' := 454) rfl ?_
            refine g_iconst at_454 (v := 1) rfl (pc' := 455) rfl ?_
            refine g_virt (W := 0) (argsL := [(.int 1)]) (rest := []) at_455 (w_118 hw) (w_71 hw) (nf_self (w_73 hw)) (w_73 hw) (w_72 hw) (by decide) (lenOf pd_14 rfl) Sr.1 (c_charat hw sr tr _ 1 c1 z sf _ hC hz hF rsf Sr rfl) (w_74 hw) (w_8 hw) (by decide) (by decide) (fun _ q => nomatch q) rfl (Nat.le_of_eq rfl) rfl (by decide) (by decide) (pc' := 458) rfl ?_
            intro w188 h188 q188 Kc188
            obtain ⟨rfl, rfl⟩ := q188
            refine g_aload at_458 rfl rfl (pc' := 460) rfl ?_
            refine g_iload at_460 rfl (pc' := 462) rfl ?_
            refine g_iconst at_462 (v := 1) rfl (pc' := 463) rfl ?_
            refine g_iadd at_463 (v := 1) rfl (pc' := 464) rfl ?_
            refine g_caload at_464 ((((((((A_ca_9.keep Kn102 nin0).keep Kn103 nin0).keep Kw104 (ninS (Nat.ne_of_lt (Nat.lt_of_lt_of_le ((A_ca_9.keep Kn102 nin0)).lt (Nat.le_of_eq g103.symm))) nin0)).keep Kw105 (ninS (Nat.ne_of_lt (Nat.lt_of_lt_of_le ((A_ca_9.keep Kn102 nin0)).lt (Nat.le_of_eq g103.symm))) nin0)).keep Kw106 (ninS (Nat.ne_of_lt (Nat.lt_of_lt_of_le ((A_ca_9.keep Kn102 nin0)).lt (Nat.le_of_eq g103.symm))) nin0)).keep Kw107 (ninS (Nat.ne_of_lt (Nat.lt_of_lt_of_le ((A_ca_9.keep Kn102 nin0)).lt (Nat.le_of_eq g103.symm))) nin0)).keep Kc108 (ninS (Nat.ne_of_lt (Nat.lt_of_lt_of_le (A_ca_9).lt (Nat.le_of_eq g102.symm))) nin0)).keep Kc184 nin0) (by decide) (i := 1) rfl rfl (pc' := 465) rfl ?_
            refine g_icmp_ne_f at_465 rfl (pc' := 468) rfl ?_
            refine g_iload at_468 rfl (pc' := 470) rfl ?_
            refine g_iconst at_470 (v := 2) rfl (pc' := 471) rfl ?_
            refine g_icmp_le_t at_471 (by decide) (pc' := 490) (by decide) rfl ?_
            refine g_iload at_490 rfl (pc' := 492) rfl ?_
            refine g_iconst at_492 (v := 3) rfl (pc' := 493) rfl ?_
            refine g_icmp_le_t at_493 (by decide) (pc' := 512) (by decide) rfl ?_
            refine g_iconst at_512 (v := 1) rfl (pc' := 513) rfl ?_
            refine g_goto at_513 (pc' := 517) (by decide) rfl ?_
            exact g_ireturnN at_517 rfl (by simp) (z := 1) rfl rfl (by decide) (by decide)
          ·
            refine g_if_ne_f at_292 (if_neg (by rw [f3]; decide)) (pc' := 295) rfl ?_
            refine g_iconst at_295 (v := 1) rfl (pc' := 296) rfl ?_
            refine g_goto at_296 (pc' := 300) (by decide) rfl ?_
            refine g_istore at_300 (L' := #[.val (.int p0), .val (.int p1), .val (.int p2), .val (.int p3), .val (.int p4), .val (.int 4), .val (.ref ca), .val (.ref x), .val (.int 1), .val (.int 1), .val (.int 0), .val (.int 1), .unset, .unset, .unset, .unset]) rfl (pc' := 302) rfl ?_
            refine g_iload at_302 rfl (pc' := 304) rfl ?_
            refine g_if_eq_f at_304 (by decide) (pc' := 307) rfl ?_
            refine g_iconst at_307 (v := 0) rfl (pc' := 308) rfl ?_
            refine g_istore at_308 (L' := #[.val (.int p0), .val (.int p1), .val (.int p2), .val (.int p3), .val (.int p4), .val (.int 4), .val (.ref ca), .val (.ref x), .val (.int 1), .val (.int 1), .val (.int 0), .val (.int 1), .val (.int 0), .unset, .unset, .unset]) rfl (pc' := 310) rfl ?_
            refine g_goto at_310 (pc' := 350) (by decide) rfl ?_
            refine g_iload at_350 rfl (pc' := 352) rfl ?_
            refine g_if_eq_f at_352 (by decide) (pc' := 355) rfl ?_
            refine g_iconst at_355 (v := 4) rfl (pc' := 356) rfl ?_
            refine g_istore at_356 (L' := #[.val (.int p0), .val (.int p1), .val (.int p2), .val (.int p3), .val (.int p4), .val (.int 4), .val (.ref ca), .val (.ref x), .val (.int 1), .val (.int 1), .val (.int 0), .val (.int 1), .val (.int 0), .val (.int 4), .unset, .unset]) rfl (pc' := 358) rfl ?_
            refine g_goto at_358 (pc' := 398) (by decide) rfl ?_
            refine g_aload at_398 rfl rfl (pc' := 400) rfl ?_
            refine g_static (W := 0) (argsL := [(.ref x)]) (rest := []) at_400 (w_27 hw) (w_28 hw) (by decide) (lenOf pd_17 rfl) (c_trim hw x _ _ z sf _ hC hz hF rsf Ss (Nat.le_of_ble_eq_true rfl)) (w_30 hw) (w_29 hw) (by decide) (by decide) (fun _ q => nomatch q) rfl (Nat.le_of_eq rfl) rfl (by decide) (by decide) (pc' := 403) rfl ?_
            intro w189 h189 q189 Kc189
            obtain ⟨sr, tr, rfl, Sr⟩ := q189
            have e189 : trimL [c0, c1, c2, c3] = [c0, c1, c2, c3] := by simp [trimL, List.dropWhile, f0, f1, f2, f3]
            rw [e189] at Sr
            refine g_astore at_403 rfl (L' := #[.val (.int p0), .val (.int p1), .val (.int p2), .val (.int p3), .val (.int p4), .val (.int 4), .val (.ref ca), .val (.ref x), .val (.int 1), .val (.int 1), .val (.int 0), .val (.int 1), .val (.int 0), .val (.int 4), .val (.ref sr), .unset]) rfl (pc' := 405) rfl ?_
            refine g_aload at_405 rfl rfl (pc' := 407) rfl ?_
            refine g_virt (W := 0) (argsL := []) (rest := []) at_407 (w_56 hw) (w_32 hw) (nf_self (w_34 hw)) (w_34 hw) (w_33 hw) (by decide) (lenOf pd_10 rfl) Sr.1 (c_lenN hw sr tr _ 4 z _ hC hz Sr rfl) (w_35 hw) (w_8 hw) (by decide) (by decide) (fun _ q => nomatch q) rfl (Nat.le_of_eq rfl) rfl (by decide) (by decide) (pc' := 410) rfl ?_
            intro w190 h190 q190 Kc190
            obtain ⟨rfl, rfl⟩ := q190
            refine g_iload at_410 rfl (pc' := 412) rfl ?_
            refine g_iload at_412 rfl (pc' := 414) rfl ?_
            refine g_isub at_414 (v := 4) rfl (pc' := 415) rfl ?_
            refine g_icmp_eq_t at_415 rfl (pc' := 420) (by decide) rfl ?_
            refine g_aload at_420 rfl rfl (pc' := 422) rfl ?_
            refine g_virt (W := 0) (argsL := []) (rest := []) at_422 (w_56 hw) (w_32 hw) (nf_self (w_34 hw)) (w_34 hw) (w_33 hw) (by decide) (lenOf pd_10 rfl) Sr.1 (c_lenN hw sr tr _ 4 z _ hC hz Sr rfl) (w_35 hw) (w_8 hw) (by decide) (by decide) (fun _ q => nomatch q) rfl (Nat.le_of_eq rfl) rfl (by decide) (by decide) (pc' := 425) rfl ?_
            intro w191 h191 q191 Kc191
            obtain ⟨rfl, rfl⟩ := q191
            refine g_istore at_425 (L' := #[.val (.int p0), .val (.int p1), .val (.int p2), .val (.int p3), .val (.int p4), .val (.int 4), .val (.ref ca), .val (.ref x), .val (.int 1), .val (.int 1), .val (.int 0), .val (.int 1), .val (.int 0), .val (.int 4), .val (.ref sr), .val (.int 4)]) rfl (pc' := 427) rfl ?_
            refine g_iload at_427 rfl (pc' := 429) rfl ?_
            refine g_if_le_f at_429 (by decide) (pc' := 432) rfl ?_
            refine g_aload at_432 rfl rfl (pc' := 434) rfl ?_
            refine g_iconst at_434 (v := 0) rfl (pc' := 435) rfl ?_
            refine g_virt (W := 0) (argsL := [(.int 0)]) (rest := []) at_435 (w_118 hw) (w_71 hw) (nf_self (w_73 hw)) (w_73 hw) (w_72 hw) (by decide) (lenOf pd_14 rfl) Sr.1 (c_charat hw sr tr _ 0 c0 z sf _ hC hz hF rsf Sr rfl) (w_74 hw) (w_8 hw) (by decide) (by decide) (fun _ q => nomatch q) rfl (Nat.le_of_eq rfl) rfl (by decide) (by decide) (pc' := 438) rfl ?_
            intro w192 h192 q192 Kc192
            obtain ⟨rfl, rfl⟩ := q192
            refine g_aload at_438 rfl rfl (pc' := 440) rfl ?_
            refine g_iload at_440 rfl (pc' := 442) rfl ?_
            refine g_caload at_442 ((((((((A_ca_9.keep Kn102 nin0).keep Kn103 nin0).keep Kw104 (ninS (Nat.ne_of_lt (Nat.lt_of_lt_of_le ((A_ca_9.keep Kn102 nin0)).lt (Nat.le_of_eq g103.symm))) nin0)).keep Kw105 (ninS (Nat.ne_of_lt (Nat.lt_of_lt_of_le ((A_ca_9.keep Kn102 nin0)).lt (Nat.le_of_eq g103.symm))) nin0)).keep Kw106 (ninS (Nat.ne_of_lt (Nat.lt_of_lt_of_le ((A_ca_9.keep Kn102 nin0)).lt (Nat.le_of_eq g103.symm))) nin0)).keep Kw107 (ninS (Nat.ne_of_lt (Nat.lt_of_lt_of_le ((A_ca_9.keep Kn102 nin0)).lt (Nat.le_of_eq g103.symm))) nin0)).keep Kc108 (ninS (Nat.ne_of_lt (Nat.lt_of_lt_of_le (A_ca_9).lt (Nat.le_of_eq g102.symm))) nin0)).keep Kc189 nin0) (by decide) (i := 0) rfl rfl (pc' := 443) rfl ?_
            refine g_icmp_ne_f at_443 rfl (pc' := 446) rfl ?_
            refine g_iload at_446 rfl (pc' := 448) rfl ?_
            refine g_iconst at_448 (v := 1) rfl (pc' := 449) rfl ?_
            refine g_icmp_le_f at_449 (by decide) (pc' := 452) rfl ?_
            refine g_aload at_452 rfl rfl (pc' := 454) rfl ?_
            refine g_iconst at_454 (v := 1) rfl (pc' := 455) rfl ?_
            refine g_virt (W := 0) (argsL := [(.int 1)]) (rest := []) at_455 (w_118 hw) (w_71 hw) (nf_self (w_73 hw)) (w_73 hw) (w_72 hw) (by decide) (lenOf pd_14 rfl) Sr.1 (c_charat hw sr tr _ 1 c1 z sf _ hC hz hF rsf Sr rfl) (w_74 hw) (w_8 hw) (by decide) (by decide) (fun _ q => nomatch q) rfl (Nat.le_of_eq rfl) rfl (by decide) (by decide) (pc' := 458) rfl ?_
            intro w193 h193 q193 Kc193
            obtain ⟨rfl, rfl⟩ := q193
            refine g_aload at_458 rfl rfl (pc' := 460) rfl ?_
            refine g_iload at_460 rfl (pc' := 462) rfl ?_
            refine g_iconst at_462 (v := 1) rfl (pc' := 463) rfl ?_
            refine g_iadd at_463 (v := 1) rfl (pc' := 464) rfl ?_
            refine g_caload at_464 ((((((((A_ca_9.keep Kn102 nin0).keep Kn103 nin0).keep Kw104 (ninS (Nat.ne_of_lt (Nat.lt_of_lt_of_le ((A_ca_9.keep Kn102 nin0)).lt (Nat.le_of_eq g103.symm))) nin0)).keep Kw105 (ninS (Nat.ne_of_lt (Nat.lt_of_lt_of_le ((A_ca_9.keep Kn102 nin0)).lt (Nat.le_of_eq g103.symm))) nin0)).keep Kw106 (ninS (Nat.ne_of_lt (Nat.lt_of_lt_of_le ((A_ca_9.keep Kn102 nin0)).lt (Nat.le_of_eq g103.symm))) nin0)).keep Kw107 (ninS (Nat.ne_of_lt (Nat.lt_of_lt_of_le ((A_ca_9.keep Kn102 nin0)).lt (Nat.le_of_eq g103.symm))) nin0)).keep Kc108 (ninS (Nat.ne_of_lt (Nat.lt_of_lt_of_le (A_ca_9).lt (Nat.le_of_eq g102.symm))) nin0)).keep Kc189 nin0) (by decide) (i := 1) rfl rfl (pc' := 465) rfl ?_
            refine g_icmp_ne_f at_465 rfl (pc' := 468) rfl ?_
            refine g_iload at_468 rfl (pc' := 470) rfl ?_
            refine g_iconst at_470 (v := 2) rfl (pc' := 471) rfl ?_
            refine g_icmp_le_f at_471 (by decide) (pc' := 474) rfl ?_
            refine g_aload at_474 rfl rfl (pc' := 476) rfl ?_
            refine g_iconst at_476 (v := 2) rfl (pc' := 477) rfl ?_
            refine g_virt (W := 0) (argsL := [(.int 2)]) (rest := []) at_477 (w_118 hw) (w_71 hw) (nf_self (w_73 hw)) (w_73 hw) (w_72 hw) (by decide) (lenOf pd_14 rfl) Sr.1 (c_charat hw sr tr _ 2 c2 z sf _ hC hz hF rsf Sr rfl) (w_74 hw) (w_8 hw) (by decide) (by decide) (fun _ q => nomatch q) rfl (Nat.le_of_eq rfl) rfl (by decide) (by decide) (pc' := 480) rfl ?_
            intro w194 h194 q194 Kc194
            obtain ⟨rfl, rfl⟩ := q194
            refine g_aload at_480 rfl rfl (pc' := 482) rfl ?_
            refine g_iload at_482 rfl (pc' := 484) rfl ?_
            refine g_iconst at_484 (v := 2) rfl (pc' := 485) rfl ?_
            refine g_iadd at_485 (v := 2) rfl (pc' := 486) rfl ?_
            refine g_caload at_486 ((((((((A_ca_9.keep Kn102 nin0).keep Kn103 nin0).keep Kw104 (ninS (Nat.ne_of_lt (Nat.lt_of_lt_of_le ((A_ca_9.keep Kn102 nin0)).lt (Nat.le_of_eq g103.symm))) nin0)).keep Kw105 (ninS (Nat.ne_of_lt (Nat.lt_of_lt_of_le ((A_ca_9.keep Kn102 nin0)).lt (Nat.le_of_eq g103.symm))) nin0)).keep Kw106 (ninS (Nat.ne_of_lt (Nat.lt_of_lt_of_le ((A_ca_9.keep Kn102 nin0)).lt (Nat.le_of_eq g103.symm))) nin0)).keep Kw107 (ninS (Nat.ne_of_lt (Nat.lt_of_lt_of_le ((A_ca_9.keep Kn102 nin0)).lt (Nat.le_of_eq g103.symm))) nin0)).keep Kc108 (ninS (Nat.ne_of_lt (Nat.lt_of_lt_of_le (A_ca_9).lt (Nat.le_of_eq g102.symm))) nin0)).keep Kc189 nin0) (by decide) (i := 2) rfl rfl (pc' := 487) rfl ?_
            refine g_icmp_ne_f at_487 rfl (pc' := 490) rfl ?_
            refine g_iload at_490 rfl (pc' := 492) rfl ?_
            refine g_iconst at_492 (v := 3) rfl (pc' := 493) rfl ?_
            refine g_icmp_le_f at_493 (by decide) (pc' := 496) rfl ?_
            refine g_aload at_496 rfl rfl (pc' := 498) rfl ?_
            refine g_iconst at_498 (v := 3) rfl (pc' := 499) rfl ?_
            refine g_virt (W := 0) (argsL := [(.int 3)]) (rest := []) at_499 (w_118 hw) (w_71 hw) (nf_self (w_73 hw)) (w_73 hw) (w_72 hw) (by decide) (lenOf pd_14 rfl) Sr.1 (c_charat hw sr tr _ 3 c3 z sf _ hC hz hF rsf Sr rfl) (w_74 hw) (w_8 hw) (by decide) (by decide) (fun _ q => nomatch q) rfl (Nat.le_of_eq rfl) rfl (by decide) (by decide) (pc' := 502) rfl ?_
            intro w195 h195 q195 Kc195
            obtain ⟨rfl, rfl⟩ := q195
            refine g_aload at_502 rfl rfl (pc' := 504) rfl ?_
            refine g_iload at_504 rfl (pc' := 506) rfl ?_
            refine g_iconst at_506 (v := 3) rfl (pc' := 507) rfl ?_
            refine g_iadd at_507 (v := 3) rfl (pc' := 508) rfl ?_
            refine g_caload at_508 ((((((((A_ca_9.keep Kn102 nin0).keep Kn103 nin0).keep Kw104 (ninS (Nat.ne_of_lt (Nat.lt_of_lt_of_le ((A_ca_9.keep Kn102 nin0)).lt (Nat.le_of_eq g103.symm))) nin0)).keep Kw105 (ninS (Nat.ne_of_lt (Nat.lt_of_lt_of_le ((A_ca_9.keep Kn102 nin0)).lt (Nat.le_of_eq g103.symm))) nin0)).keep Kw106 (ninS (Nat.ne_of_lt (Nat.lt_of_lt_of_le ((A_ca_9.keep Kn102 nin0)).lt (Nat.le_of_eq g103.symm))) nin0)).keep Kw107 (ninS (Nat.ne_of_lt (Nat.lt_of_lt_of_le ((A_ca_9.keep Kn102 nin0)).lt (Nat.le_of_eq g103.symm))) nin0)).keep Kc108 (ninS (Nat.ne_of_lt (Nat.lt_of_lt_of_le (A_ca_9).lt (Nat.le_of_eq g102.symm))) nin0)).keep Kc189 nin0) (by decide) (i := 3) rfl rfl (pc' := 509) rfl ?_
            refine g_icmp_ne_f at_509 rfl (pc' := 512) rfl ?_
            refine g_iconst at_512 (v := 1) rfl (pc' := 513) rfl ?_
            refine g_goto at_513 (pc' := 517) (by decide) rfl ?_
            exact g_ireturnN at_517 rfl (by simp) (z := 1) rfl rfl (by decide) (by decide)
        ·
          refine g_if_ne_f at_269 (if_neg (by rw [f2]; decide)) (pc' := 272) rfl ?_
          refine g_iconst at_272 (v := 1) rfl (pc' := 273) rfl ?_
          refine g_goto at_273 (pc' := 277) (by decide) rfl ?_
          refine g_istore at_277 (L' := #[.val (.int p0), .val (.int p1), .val (.int p2), .val (.int p3), .val (.int p4), .val (.int 4), .val (.ref ca), .val (.ref x), .val (.int 1), .val (.int 1), .val (.int 1), .unset, .unset, .unset, .unset, .unset]) rfl (pc' := 279) rfl ?_
          refine g_iload at_279 rfl (pc' := 281) rfl ?_
          refine g_iconst at_281 (v := 3) rfl (pc' := 282) rfl ?_
          refine g_icmp_le_f at_282 (by decide) (pc' := 285) rfl ?_
          refine g_aload at_285 rfl rfl (pc' := 287) rfl ?_
          refine g_iconst at_287 (v := 3) rfl (pc' := 288) rfl ?_
          refine g_caload at_288 (((((((A_ca_9.keep Kn102 nin0).keep Kn103 nin0).keep Kw104 (ninS (Nat.ne_of_lt (Nat.lt_of_lt_of_le ((A_ca_9.keep Kn102 nin0)).lt (Nat.le_of_eq g103.symm))) nin0)).keep Kw105 (ninS (Nat.ne_of_lt (Nat.lt_of_lt_of_le ((A_ca_9.keep Kn102 nin0)).lt (Nat.le_of_eq g103.symm))) nin0)).keep Kw106 (ninS (Nat.ne_of_lt (Nat.lt_of_lt_of_le ((A_ca_9.keep Kn102 nin0)).lt (Nat.le_of_eq g103.symm))) nin0)).keep Kw107 (ninS (Nat.ne_of_lt (Nat.lt_of_lt_of_le ((A_ca_9.keep Kn102 nin0)).lt (Nat.le_of_eq g103.symm))) nin0)).keep Kc108 (ninS (Nat.ne_of_lt (Nat.lt_of_lt_of_le (A_ca_9).lt (Nat.le_of_eq g102.symm))) nin0)) (by decide) (i := 3) rfl rfl (pc' := 289) rfl ?_
          refine g_static (W := 0) (argsL := [(.int c3)]) (rest := []) at_289 (w_67 hw) (w_68 hw) (by decide) (lenOf pd_15 rfl) (c_ws hw c3 _) (w_69 hw) (w_4 hw) (by decide) (by decide) (fun _ q => nomatch q) rfl (Nat.le_of_eq rfl) rfl (by decide) (by decide) (pc' := 292) rfl ?_
          intro w196 h196 q196 Kc196
          obtain ⟨rfl, rfl⟩ := q196
          rcases Bool.eq_false_or_eq_true (isW c3) with f3 | f3
          ·
            refine g_if_ne_t at_292 (by rw [if_pos f3]; decide) (pc' := 299) (by decide) rfl ?_
            refine g_iconst at_299 (v := 0) rfl (pc' := 300) rfl ?_
            refine g_istore at_300 (L' := #[.val (.int p0), .val (.int p1), .val (.int p2), .val (.int p3), .val (.int p4), .val (.int 4), .val (.ref ca), .val (.ref x), .val (.int 1), .val (.int 1), .val (.int 1), .val (.int 0), .unset, .unset, .unset, .unset]) rfl (pc' := 302) rfl ?_
            refine g_iload at_302 rfl (pc' := 304) rfl ?_
            refine g_if_eq_f at_304 (by decide) (pc' := 307) rfl ?_
            refine g_iconst at_307 (v := 0) rfl (pc' := 308) rfl ?_
            refine g_istore at_308 (L' := #[.val (.int p0), .val (.int p1), .val (.int p2), .val (.int p3), .val (.int p4), .val (.int 4), .val (.ref ca), .val (.ref x), .val (.int 1), .val (.int 1), .val (.int 1), .val (.int 0), .val (.int 0), .unset, .unset, .unset]) rfl (pc' := 310) rfl ?_
            refine g_goto at_310 (pc' := 350) (by decide) rfl ?_
            refine g_iload at_350 rfl (pc' := 352) rfl ?_
            refine g_if_eq_t at_352 rfl (pc' := 361) (by decide) rfl ?_
            refine g_iload at_361 rfl (pc' := 363) rfl ?_
            refine g_if_eq_f at_363 (by decide) (pc' := 366) rfl ?_
            refine g_iconst at_366 (v := 3) rfl (pc' := 367) rfl ?_
            refine g_istore at_367 (L' := #[.val (.int p0), .val (.int p1), .val (.int p2), .val (.int p3), .val (.int p4), .val (.int 4), .val (.ref ca), .val (.ref x), .val (.int 1), .val (.int 1), .val (.int 1), .val (.int 0), .val (.int 0), .val (.int 3), .unset, .unset]) rfl (pc' := 369) rfl ?_
            refine g_goto at_369 (pc' := 398) (by decide) rfl ?_
            refine g_aload at_398 rfl rfl (pc' := 400) rfl ?_
            refine g_static (W := 0) (argsL := [(.ref x)]) (rest := []) at_400 (w_27 hw) (w_28 hw) (by decide) (lenOf pd_17 rfl) (c_trim hw x _ _ z sf _ hC hz hF rsf Ss (Nat.le_of_ble_eq_true rfl)) (w_30 hw) (w_29 hw) (by decide) (by decide) (fun _ q => nomatch q) rfl (Nat.le_of_eq rfl) rfl (by decide) (by decide) (pc' := 403) rfl ?_
            intro w197 h197 q197 Kc197
            obtain ⟨sr, tr, rfl, Sr⟩ := q197
            have e197 : trimL [c0, c1, c2, c3] = [c0, c1, c2] := by simp [trimL, List.dropWhile, f0, f1, f2, f3]
            rw [e197] at Sr
            refine g_astore at_403 rfl (L' := #[.val (.int p0), .val (.int p1), .val (.int p2), .val (.int p3), .val (.int p4), .val (.int 4), .val (.ref ca), .val (.ref x), .val (.int 1), .val (.int 1), .val (.int 1), .val (.int 0), .val (.int 0), .val (.int 3), .val (.ref sr), .unset]) rfl (pc' := 405) rfl ?_
            refine g_aload at_405 rfl rfl (pc' := 407) rfl ?_
            refine g_virt (W := 0) (argsL := []) (rest := []) at_407 (w_56 hw) (w_32 hw) (nf_self (w_34 hw)) (w_34 hw) (w_33 hw) (by decide) (lenOf pd_10 rfl) Sr.1 (c_lenN hw sr tr _ 3 z _ hC hz Sr rfl) (w_35 hw) (w_8 hw) (by decide) (by decide) (fun _ q => nomatch q) rfl (Nat.le_of_eq rfl) rfl (by decide) (by decide) (pc' := 410) rfl ?_
            intro w198 h198 q198 Kc198
            obtain ⟨rfl, rfl⟩ := q198
            refine g_iload at_410 rfl (pc' := 412) rfl ?_
            refine g_iload at_412 rfl (pc' := 414) rfl ?_
            refine g_isub at_414 (v := 3) rfl (pc' := 415) rfl ?_
            refine g_icmp_eq_t at_415 rfl (pc' := 420) (by decide) rfl ?_
            refine g_aload at_420 rfl rfl (pc' := 422) rfl ?_
            refine g_virt (W := 0) (argsL := []) (rest := []) at_422 (w_56 hw) (w_32 hw) (nf_self (w_34 hw)) (w_34 hw) (w_33 hw) (by decide) (lenOf pd_10 rfl) Sr.1 (c_lenN hw sr tr _ 3 z _ hC hz Sr rfl) (w_35 hw) (w_8 hw) (by decide) (by decide) (fun _ q => nomatch q) rfl (Nat.le_of_eq rfl) rfl (by decide) (by decide) (pc' := 425) rfl ?_
            intro w199 h199 q199 Kc199
            obtain ⟨rfl, rfl⟩ := q199
            refine g_istore at_425 (L' := #[.val (.int p0), .val (.int p1), .val (.int p2), .val (.int p3), .val (.int p4), .val (.int 4), .val (.ref ca), .val (.ref x), .val (.int 1), .val (.int 1), .val (.int 1), .val (.int 0), .val (.int 0), .val (.int 3), .val (.ref sr), .val (.int 3)]) rfl (pc' := 427) rfl ?_
            refine g_iload at_427 rfl (pc' := 429) rfl ?_
            refine g_if_le_f at_429 (by decide) (pc' := 432) rfl ?_
            refine g_aload at_432 rfl rfl (pc' := 434) rfl ?_
            refine g_iconst at_434 (v := 0) rfl (pc' := 435) rfl ?_
            refine g_virt (W := 0) (argsL := [(.int 0)]) (rest := []) at_435 (w_118 hw) (w_71 hw) (nf_self (w_73 hw)) (w_73 hw) (w_72 hw) (by decide) (lenOf pd_14 rfl) Sr.1 (c_charat hw sr tr _ 0 c0 z sf _ hC hz hF rsf Sr rfl) (w_74 hw) (w_8 hw) (by decide) (by decide) (fun _ q => nomatch q) rfl (Nat.le_of_eq rfl) rfl (by decide) (by decide) (pc' := 438) rfl ?_
            intro w200 h200 q200 Kc200
            obtain ⟨rfl, rfl⟩ := q200
            refine g_aload at_438 rfl rfl (pc' := 440) rfl ?_
            refine g_iload at_440 rfl (pc' := 442) rfl ?_
            refine g_caload at_442 ((((((((A_ca_9.keep Kn102 nin0).keep Kn103 nin0).keep Kw104 (ninS (Nat.ne_of_lt (Nat.lt_of_lt_of_le ((A_ca_9.keep Kn102 nin0)).lt (Nat.le_of_eq g103.symm))) nin0)).keep Kw105 (ninS (Nat.ne_of_lt (Nat.lt_of_lt_of_le ((A_ca_9.keep Kn102 nin0)).lt (Nat.le_of_eq g103.symm))) nin0)).keep Kw106 (ninS (Nat.ne_of_lt (Nat.lt_of_lt_of_le ((A_ca_9.keep Kn102 nin0)).lt (Nat.le_of_eq g103.symm))) nin0)).keep Kw107 (ninS (Nat.ne_of_lt (Nat.lt_of_lt_of_le ((A_ca_9.keep Kn102 nin0)).lt (Nat.le_of_eq g103.symm))) nin0)).keep Kc108 (ninS (Nat.ne_of_lt (Nat.lt_of_lt_of_le (A_ca_9).lt (Nat.le_of_eq g102.symm))) nin0)).keep Kc197 nin0) (by decide) (i := 0) rfl rfl (pc' := 443) rfl ?_
            refine g_icmp_ne_f at_443 rfl (pc' := 446) rfl ?_
            refine g_iload at_446 rfl (pc' := 448) rfl ?_
            refine g_iconst at_448 (v := 1) rfl (pc' := 449) rfl ?_
            refine g_icmp_le_f at_449 (by decide) (pc' := 452) rfl ?_
            refine g_aload at_452 rfl rfl (pc' := 454) rfl ?_
            refine g_iconst at_454 (v := 1) rfl (pc' := 455) rfl ?_
            refine g_virt (W := 0) (argsL := [(.int 1)]) (rest := []) at_455 (w_118 hw) (w_71 hw) (nf_self (w_73 hw)) (w_73 hw) (w_72 hw) (by decide) (lenOf pd_14 rfl) Sr.1 (c_charat hw sr tr _ 1 c1 z sf _ hC hz hF rsf Sr rfl) (w_74 hw) (w_8 hw) (by decide) (by decide) (fun _ q => nomatch q) rfl (Nat.le_of_eq rfl) rfl (by decide) (by decide) (pc' := 458) rfl ?_
            intro w201 h201 q201 Kc201
            obtain ⟨rfl, rfl⟩ := q201
            refine g_aload at_458 rfl rfl (pc' := 460) rfl ?_
            refine g_iload at_460 rfl (pc' := 462) rfl ?_
            refine g_iconst at_462 (v := 1) rfl (pc' := 463) rfl ?_
            refine g_iadd at_463 (v := 1) rfl (pc' := 464) rfl ?_
            refine g_caload at_464 ((((((((A_ca_9.keep Kn102 nin0).keep Kn103 nin0).keep Kw104 (ninS (Nat.ne_of_lt (Nat.lt_of_lt_of_le ((A_ca_9.keep Kn102 nin0)).lt (Nat.le_of_eq g103.symm))) nin0)).keep Kw105 (ninS (Nat.ne_of_lt (Nat.lt_of_lt_of_le ((A_ca_9.keep Kn102 nin0)).lt (Nat.le_of_eq g103.symm))) nin0)).keep Kw106 (ninS (Nat.ne_of_lt (Nat.lt_of_lt_of_le ((A_ca_9.keep Kn102 nin0)).lt (Nat.le_of_eq g103.symm))) nin0)).keep Kw107 (ninS (Nat.ne_of_lt (Nat.lt_of_lt_of_le ((A_ca_9.keep Kn102 nin0)).lt (Nat.le_of_eq g103.symm))) nin0)).keep Kc108 (ninS (Nat.ne_of_lt (Nat.lt_of_lt_of_le (A_ca_9).lt (Nat.le_of_eq g102.symm))) nin0)).keep Kc197 nin0) (by decide) (i := 1) rfl rfl (pc' := 465) rfl ?_
            refine g_icmp_ne_f at_465 rfl (pc' := 468) rfl ?_
            refine g_iload at_468 rfl (pc' := 470) rfl ?_
            refine g_iconst at_470 (v := 2) rfl (pc' := 471) rfl ?_
            refine g_icmp_le_f at_471 (by decide) (pc' := 474) rfl ?_
            refine g_aload at_474 rfl rfl (pc' := 476) rfl ?_
            refine g_iconst at_476 (v := 2) rfl (pc' := 477) rfl ?_
            refine g_virt (W := 0) (argsL := [(.int 2)]) (rest := []) at_477 (w_118 hw) (w_71 hw) (nf_self (w_73 hw)) (w_73 hw) (w_72 hw) (by decide) (lenOf pd_14 rfl) Sr.1 (c_charat hw sr tr _ 2 c2 z sf _ hC hz hF rsf Sr rfl) (w_74 hw) (w_8 hw) (by decide) (by decide) (fun _ q => nomatch q) rfl (Nat.le_of_eq rfl) rfl (by decide) (by decide) (pc' := 480) rfl ?_
            intro w202 h202 q202 Kc202
            obtain ⟨rfl, rfl⟩ := q202
            refine g_aload at_480 rfl rfl (pc' := 482) rfl ?_
            refine g_iload at_482 rfl (pc' := 484) rfl ?_
            refine g_iconst at_484 (v := 2) rfl (pc' := 485) rfl ?_
            refine g_iadd at_485 (v := 2) rfl (pc' := 486) rfl ?_
            refine g_caload at_486 ((((((((A_ca_9.keep Kn102 nin0).keep Kn103 nin0).keep Kw104 (ninS (Nat.ne_of_lt (Nat.lt_of_lt_of_le ((A_ca_9.keep Kn102 nin0)).lt (Nat.le_of_eq g103.symm))) nin0)).keep Kw105 (ninS (Nat.ne_of_lt (Nat.lt_of_lt_of_le ((A_ca_9.keep Kn102 nin0)).lt (Nat.le_of_eq g103.symm))) nin0)).keep Kw106 (ninS (Nat.ne_of_lt (Nat.lt_of_lt_of_le ((A_ca_9.keep Kn102 nin0)).lt (Nat.le_of_eq g103.symm))) nin0)).keep Kw107 (ninS (Nat.ne_of_lt (Nat.lt_of_lt_of_le ((A_ca_9.keep Kn102 nin0)).lt (Nat.le_of_eq g103.symm))) nin0)).keep Kc108 (ninS (Nat.ne_of_lt (Nat.lt_of_lt_of_le (A_ca_9).lt (Nat.le_of_eq g102.symm))) nin0)).keep Kc197 nin0) (by decide) (i := 2) rfl rfl (pc' := 487) rfl ?_
            refine g_icmp_ne_f at_487 rfl (pc' := 490) rfl ?_
            refine g_iload at_490 rfl (pc' := 492) rfl ?_
            refine g_iconst at_492 (v := 3) rfl (pc' := 493) rfl ?_
            refine g_icmp_le_t at_493 (by decide) (pc' := 512) (by decide) rfl ?_
            refine g_iconst at_512 (v := 1) rfl (pc' := 513) rfl ?_
            refine g_goto at_513 (pc' := 517) (by decide) rfl ?_
            exact g_ireturnN at_517 rfl (by simp) (z := 1) rfl rfl (by decide) (by decide)
          ·
            refine g_if_ne_f at_292 (if_neg (by rw [f3]; decide)) (pc' := 295) rfl ?_
            refine g_iconst at_295 (v := 1) rfl (pc' := 296) rfl ?_
            refine g_goto at_296 (pc' := 300) (by decide) rfl ?_
            refine g_istore at_300 (L' := #[.val (.int p0), .val (.int p1), .val (.int p2), .val (.int p3), .val (.int p4), .val (.int 4), .val (.ref ca), .val (.ref x), .val (.int 1), .val (.int 1), .val (.int 1), .val (.int 1), .unset, .unset, .unset, .unset]) rfl (pc' := 302) rfl ?_
            refine g_iload at_302 rfl (pc' := 304) rfl ?_
            refine g_if_eq_f at_304 (by decide) (pc' := 307) rfl ?_
            refine g_iconst at_307 (v := 0) rfl (pc' := 308) rfl ?_
            refine g_istore at_308 (L' := #[.val (.int p0), .val (.int p1), .val (.int p2), .val (.int p3), .val (.int p4), .val (.int 4), .val (.ref ca), .val (.ref x), .val (.int 1), .val (.int 1), .val (.int 1), .val (.int 1), .val (.int 0), .unset, .unset, .unset]) rfl (pc' := 310) rfl ?_
            refine g_goto at_310 (pc' := 350) (by decide) rfl ?_
            refine g_iload at_350 rfl (pc' := 352) rfl ?_
            refine g_if_eq_f at_352 (by decide) (pc' := 355) rfl ?_
            refine g_iconst at_355 (v := 4) rfl (pc' := 356) rfl ?_
            refine g_istore at_356 (L' := #[.val (.int p0), .val (.int p1), .val (.int p2), .val (.int p3), .val (.int p4), .val (.int 4), .val (.ref ca), .val (.ref x), .val (.int 1), .val (.int 1), .val (.int 1), .val (.int 1), .val (.int 0), .val (.int 4), .unset, .unset]) rfl (pc' := 358) rfl ?_
            refine g_goto at_358 (pc' := 398) (by decide) rfl ?_
            refine g_aload at_398 rfl rfl (pc' := 400) rfl ?_
            refine g_static (W := 0) (argsL := [(.ref x)]) (rest := []) at_400 (w_27 hw) (w_28 hw) (by decide) (lenOf pd_17 rfl) (c_trim hw x _ _ z sf _ hC hz hF rsf Ss (Nat.le_of_ble_eq_true rfl)) (w_30 hw) (w_29 hw) (by decide) (by decide) (fun _ q => nomatch q) rfl (Nat.le_of_eq rfl) rfl (by decide) (by decide) (pc' := 403) rfl ?_
            intro w203 h203 q203 Kc203
            obtain ⟨sr, tr, rfl, Sr⟩ := q203
            have e203 : trimL [c0, c1, c2, c3] = [c0, c1, c2, c3] := by simp [trimL, List.dropWhile, f0, f1, f2, f3]
            rw [e203] at Sr
            refine g_astore at_403 rfl (L' := #[.val (.int p0), .val (.int p1), .val (.int p2), .val (.int p3), .val (.int p4), .val (.int 4), .val (.ref ca), .val (.ref x), .val (.int 1), .val (.int 1), .val (.int 1), .val (.int 1), .val (.int 0), .val (.int 4), .val (.ref sr), .unset]) rfl (pc' := 405) rfl ?_
            refine g_aload at_405 rfl rfl (pc' := 407) rfl ?_
            refine g_virt (W := 0) (argsL := []) (rest := []) at_407 (w_56 hw) (w_32 hw) (nf_self (w_34 hw)) (w_34 hw) (w_33 hw) (by decide) (lenOf pd_10 rfl) Sr.1 (c_lenN hw sr tr _ 4 z _ hC hz Sr rfl) (w_35 hw) (w_8 hw) (by decide) (by decide) (fun _ q => nomatch q) rfl (Nat.le_of_eq rfl) rfl (by decide) (by decide) (pc' := 410) rfl ?_
            intro w204 h204 q204 Kc204
            obtain ⟨rfl, rfl⟩ := q204
            refine g_iload at_410 rfl (pc' := 412) rfl ?_
            refine g_iload at_412 rfl (pc' := 414) rfl ?_
            refine g_isub at_414 (v := 4) rfl (pc' := 415) rfl ?_
            refine g_icmp_eq_t at_415 rfl (pc' := 420) (by decide) rfl ?_
            refine g_aload at_420 rfl rfl (pc' := 422) rfl ?_
            refine g_virt (W := 0) (argsL := []) (rest := []) at_422 (w_56 hw) (w_32 hw) (nf_self (w_34 hw)) (w_34 hw) (w_33 hw) (by decide) (lenOf pd_10 rfl) Sr.1 (c_lenN hw sr tr _ 4 z _ hC hz Sr rfl) (w_35 hw) (w_8 hw) (by decide) (by decide) (fun _ q => nomatch q) rfl (Nat.le_of_eq rfl) rfl (by decide) (by decide) (pc' := 425) rfl ?_
            intro w205 h205 q205 Kc205
            obtain ⟨rfl, rfl⟩ := q205
            refine g_istore at_425 (L' := #[.val (.int p0), .val (.int p1), .val (.int p2), .val (.int p3), .val (.int p4), .val (.int 4), .val (.ref ca), .val (.ref x), .val (.int 1), .val (.int 1), .val (.int 1), .val (.int 1), .val (.int 0), .val (.int 4), .val (.ref sr), .val (.int 4)]) rfl (pc' := 427) rfl ?_
            refine g_iload at_427 rfl (pc' := 429) rfl ?_
            refine g_if_le_f at_429 (by decide) (pc' := 432) rfl ?_
            refine g_aload at_432 rfl rfl (pc' := 434) rfl ?_
            refine g_iconst at_434 (v := 0) rfl (pc' := 435) rfl ?_
            refine g_virt (W := 0) (argsL := [(.int 0)]) (rest := []) at_435 (w_118 hw) (w_71 hw) (nf_self (w_73 hw)) (w_73 hw) (w_72 hw) (by decide) (lenOf pd_14 rfl) Sr.1 (c_charat hw sr tr _ 0 c0 z sf _ hC hz hF rsf Sr rfl) (w_74 hw) (w_8 hw) (by decide) (by decide) (fun _ q => nomatch q) rfl (Nat.le_of_eq rfl) rfl (by decide) (by decide) (pc' := 438) rfl ?_
            intro w206 h206 q206 Kc206
            obtain ⟨rfl, rfl⟩ := q206
            refine g_aload at_438 rfl rfl (pc' := 440) rfl ?_
            refine g_iload at_440 rfl (pc' := 442) rfl ?_
            refine g_caload at_442 ((((((((A_ca_9.keep Kn102 nin0).keep Kn103 nin0).keep Kw104 (ninS (Nat.ne_of_lt (Nat.lt_of_lt_of_le ((A_ca_9.keep Kn102 nin0)).lt (Nat.le_of_eq g103.symm))) nin0)).keep Kw105 (ninS (Nat.ne_of_lt (Nat.lt_of_lt_of_le ((A_ca_9.keep Kn102 nin0)).lt (Nat.le_of_eq g103.symm))) nin0)).keep Kw106 (ninS (Nat.ne_of_lt (Nat.lt_of_lt_of_le ((A_ca_9.keep Kn102 nin0)).lt (Nat.le_of_eq g103.symm))) nin0)).keep Kw107 (ninS (Nat.ne_of_lt (Nat.lt_of_lt_of_le ((A_ca_9.keep Kn102 nin0)).lt (Nat.le_of_eq g103.symm))) nin0)).keep Kc108 (ninS (Nat.ne_of_lt (Nat.lt_of_lt_of_le (A_ca_9).lt (Nat.le_of_eq g102.symm))) nin0)).keep Kc203 nin0) (by decide) (i := 0) rfl rfl (pc' := 443) rfl ?_
            refine g_icmp_ne_f at_443 rfl (pc' := 446) rfl ?_
            refine g_iload at_446 rfl (pc' := 448) rfl ?_
            refine g_iconst at_448 (v := 1) rfl (pc' := 449) rfl ?_
            refine g_icmp_le_f at_449 (by decide) (pc' := 452) rfl ?_
            refine g_aload at_452 rfl rfl (pc' := 454) rfl ?_
            refine g_iconst at_454 (v := 1) rfl (pc' := 455) rfl ?_
            refine g_virt (W := 0) (argsL := [(.int 1)]) (rest := []) at_455 (w_118 hw) (w_71 hw) (nf_self (w_73 hw)) (w_73 hw) (w_72 hw) (by decide) (lenOf pd_14 rfl) Sr.1 (c_charat hw sr tr _ 1 c1 z sf _ hC hz hF rsf Sr rfl) (w_74 hw) (w_8 hw) (by decide) (by decide) (fun _ q => nomatch q) rfl (Nat.le_of_eq rfl) rfl (by decide) (by decide) (pc' := 458) rfl ?_
            intro w207 h207 q207 Kc207
            obtain ⟨rfl, rfl⟩ := q207
            refine g_aload at_458 rfl rfl (pc' := 460) rfl ?_
            refine g_iload at_460 rfl (pc' := 462) rfl ?_
            refine g_iconst at_462 (v := 1) rfl (pc' := 463) rfl ?_
            refine g_iadd at_463 (v := 1) rfl (pc' := 464) rfl ?_
            refine g_caload at_464 ((((((((A_ca_9.keep Kn102 nin0).keep Kn103 nin0).keep Kw104 (ninS (Nat.ne_of_lt (Nat.lt_of_lt_of_le ((A_ca_9.keep Kn102 nin0)).lt (Nat.le_of_eq g103.symm))) nin0)).keep Kw105 (ninS (Nat.ne_of_lt (Nat.lt_of_lt_of_le ((A_ca_9.keep Kn102 nin0)).lt (Nat.le_of_eq g103.symm))) nin0)).keep Kw106 (ninS (Nat.ne_of_lt (Nat.lt_of_lt_of_le ((A_ca_9.keep Kn102 nin0)).lt (Nat.le_of_eq g103.symm))) nin0)).keep Kw107 (ninS (Nat.ne_of_lt (Nat.lt_of_lt_of_le ((A_ca_9.keep Kn102 nin0)).lt (Nat.le_of_eq g103.symm))) nin0)).keep Kc108 (ninS (Nat.ne_of_lt (Nat.lt_of_lt_of_le (A_ca_9).lt (Nat.le_of_eq g102.symm))) nin0)).keep Kc203 nin0) (by decide) (i := 1) rfl rfl (pc' := 465) rfl ?_
            refine g_icmp_ne_f at_465 rfl (pc' := 468) rfl ?_
            refine g_iload at_468 rfl (pc' := 470) rfl ?_
            refine g_iconst at_470 (v := 2) rfl (pc' := 471) rfl ?_
            refine g_icmp_le_f at_471 (by decide) (pc' := 474) rfl ?_
            refine g_aload at_474 rfl rfl (pc' := 476) rfl ?_
            refine g_iconst at_476 (v := 2) rfl (pc' := 477) rfl ?_
            refine g_virt (W := 0) (argsL := [(.int 2)]) (rest := []) at_477 (w_118 hw) (w_71 hw) (nf_self (w_73 hw)) (w_73 hw) (w_72 hw) (by decide) (lenOf pd_14 rfl) Sr.1 (c_charat hw sr tr _ 2 c2 z sf _ hC hz hF rsf Sr rfl) (w_74 hw) (w_8 hw) (by decide) (by decide) (fun _ q => nomatch q) rfl (Nat.le_of_eq rfl) rfl (by decide) (by decide) (pc' := 480) rfl ?_
            intro w208 h208 q208 Kc208
            obtain ⟨rfl, rfl⟩ := q208
            refine g_aload at_480 rfl rfl (pc' := 482) rfl ?_
            refine g_iload at_482 rfl (pc' := 484) rfl ?_
            refine g_iconst at_484 (v := 2) rfl (pc' := 485) rfl ?_
            refine g_iadd at_485 (v := 2) rfl (pc' := 486) rfl ?_
            refine g_caload at_486 ((((((((A_ca_9.keep Kn102 nin0).keep Kn103 nin0).keep Kw104 (ninS (Nat.ne_of_lt (Nat.lt_of_lt_of_le ((A_ca_9.keep Kn102 nin0)).lt (Nat.le_of_eq g103.symm))) nin0)).keep Kw105 (ninS (Nat.ne_of_lt (Nat.lt_of_lt_of_le ((A_ca_9.keep Kn102 nin0)).lt (Nat.le_of_eq g103.symm))) nin0)).keep Kw106 (ninS (Nat.ne_of_lt (Nat.lt_of_lt_of_le ((A_ca_9.keep Kn102 nin0)).lt (Nat.le_of_eq g103.symm))) nin0)).keep Kw107 (ninS (Nat.ne_of_lt (Nat.lt_of_lt_of_le ((A_ca_9.keep Kn102 nin0)).lt (Nat.le_of_eq g103.symm))) nin0)).keep Kc108 (ninS (Nat.ne_of_lt (Nat.lt_of_lt_of_le (A_ca_9).lt (Nat.le_of_eq g102.symm))) nin0)).keep Kc203 nin0) (by decide) (i := 2) rfl rfl (pc' := 487) rfl ?_
            refine g_icmp_ne_f at_487 rfl (pc' := 490) rfl ?_
            refine g_iload at_490 rfl (pc' := 492) rfl ?_
            refine g_iconst at_492 (v := 3) rfl (pc' := 493) rfl ?_
            refine g_icmp_le_f at_493 (by decide) (pc' := 496) rfl ?_
            refine g_aload at_496 rfl rfl (pc' := 498) rfl ?_
            refine g_iconst at_498 (v := 3) rfl (pc' := 499) rfl ?_
            refine g_virt (W := 0) (argsL := [(.int 3)]) (rest := []) at_499 (w_118 hw) (w_71 hw) (nf_self (w_73 hw)) (w_73 hw) (w_72 hw) (by decide) (lenOf pd_14 rfl) Sr.1 (c_charat hw sr tr _ 3 c3 z sf _ hC hz hF rsf Sr rfl) (w_74 hw) (w_8 hw) (by decide) (by decide) (fun _ q => nomatch q) rfl (Nat.le_of_eq rfl) rfl (by decide) (by decide) (pc' := 502) rfl ?_
            intro w209 h209 q209 Kc209
            obtain ⟨rfl, rfl⟩ := q209
            refine g_aload at_502 rfl rfl (pc' := 504) rfl ?_
            refine g_iload at_504 rfl (pc' := 506) rfl ?_
            refine g_iconst at_506 (v := 3) rfl (pc' := 507) rfl ?_
            refine g_iadd at_507 (v := 3) rfl (pc' := 508) rfl ?_
            refine g_caload at_508 ((((((((A_ca_9.keep Kn102 nin0).keep Kn103 nin0).keep Kw104 (ninS (Nat.ne_of_lt (Nat.lt_of_lt_of_le ((A_ca_9.keep Kn102 nin0)).lt (Nat.le_of_eq g103.symm))) nin0)).keep Kw105 (ninS (Nat.ne_of_lt (Nat.lt_of_lt_of_le ((A_ca_9.keep Kn102 nin0)).lt (Nat.le_of_eq g103.symm))) nin0)).keep Kw106 (ninS (Nat.ne_of_lt (Nat.lt_of_lt_of_le ((A_ca_9.keep Kn102 nin0)).lt (Nat.le_of_eq g103.symm))) nin0)).keep Kw107 (ninS (Nat.ne_of_lt (Nat.lt_of_lt_of_le ((A_ca_9.keep Kn102 nin0)).lt (Nat.le_of_eq g103.symm))) nin0)).keep Kc108 (ninS (Nat.ne_of_lt (Nat.lt_of_lt_of_le (A_ca_9).lt (Nat.le_of_eq g102.symm))) nin0)).keep Kc203 nin0) (by decide) (i := 3) rfl rfl (pc' := 509) rfl ?_
            refine g_icmp_ne_f at_509 rfl (pc' := 512) rfl ?_
            refine g_iconst at_512 (v := 1) rfl (pc' := 513) rfl ?_
            refine g_goto at_513 (pc' := 517) (by decide) rfl ?_
            exact g_ireturnN at_517 rfl (by simp) (z := 1) rfl rfl (by decide) (by decide)
set_option maxRecDepth 65536 in
set_option maxHeartbeats 40000000 in
theorem comes_1 {Post : Tables → Env → Array Value → State → Outcome → State → Prop} (hpost : ∀ tb e args s v u, (limb_1_1.after args s (.returned v) u = true ∧ limb_1_2.after args s (.returned v) u = true ∧ True) → ReturnedEndW s (.returned v) u (Jvm.fieldLocs frame_1_writes args s ++ Jvm.arrayLocs frame_1_arrays args s ++ Jvm.staticLocs frame_1_statics s) 24 2176 → Post tb e args s (.returned v) u) :
    ArmFor flags0 classFile x code maxLocals ret World_1 tables_1 room_1 Calls_1 rest_1 Pre_1 Post := by
  intro l hfl _ _ p e ha hc hk s m args below hf hA hF happ hP
  obtain ⟨hcalls, hrest, hpre⟩ := hP
  obtain ⟨-, -, -, hnamed, -, -, -, hat⟩ := (Spec.applies_iff hf).mp happ
  obtain ⟨hg, hn⟩ := and_e (Cond.before_iff.mp (show (Jvm.Cond.and given_1 narrow_1).before args s = true from hpre))
  obtain ⟨g1, g2⟩ := and_e hg
  obtain ⟨g3, g4⟩ := and_e g2
  obtain ⟨g5, g6⟩ := and_e g4
  obtain ⟨g7, g8⟩ := and_e g6
  obtain ⟨g9, g10⟩ := and_e g8
  obtain ⟨w0, w1, w2, w3, w4, rfl⟩ : ∃ w0 w1 w2 w3 w4 : Value, args = #[w0, w1, w2, w3, w4] := by
    have hs : args.size = 5 := by simpa [Cond.value, given_1] using g1
    obtain ⟨L⟩ := args
    match L, hs with
    | [w0, w1, w2, w3, w4], _ => exact ⟨w0, w1, w2, w3, w4, rfl⟩
  have hw : Hw #[w0, w1, w2, w3, w4] s := fun d (hd : d ∈ tables_1) => atoms_spec (ws := Jvm.Cond.code x code maxLocals ret :: tables_1) hat d (List.mem_cons_of_mem _ hd)
  have hfit : Fit s := fun {y c} hc i hi => by
    obtain ⟨ha, rfl⟩ := Array.getElem?_eq_some_iff.mp hc
    have q := List.all_eq_true.mp ((Array.all_eq_true_iff_forall_mem.mp hF) _ (Array.getElem_mem ha)) i (List.mem_range.mpr hi)
    simpa [Array.getElem?_eq_getElem hi] using q
  obtain ⟨hsets, hown0⟩ := atoms_of _ (rest_1_c_eq ▸ (show rest_1_c.before _ s = true from hrest))
  have hr0 := Cond.before_iff.mp hown0
  obtain ⟨zz, e_zz⟩ := is_v (Cond.before_iff.mp (hsets _ (List.mem_of_getElem? (i := 1) rfl)))
  have hC : Sta s s.heap "java/lang/String" "COMPACT_STRINGS" "Z" (.int zz) := Sta.start e_zz (Or.inl (hsets _ (List.mem_of_getElem? (i := 0) rfl)))
  have hz : ¬ zz = 0 := gotF (Cond.eq_ints e_zz (Term.int_eval (0))) (not_v (Cond.before_iff.mp (hsets _ (List.mem_of_getElem? (i := 2) rfl))))
  obtain ⟨sf, e_sf, rsf⟩ := isR_v (Cond.before_iff.mp (hsets _ (List.mem_of_getElem? (i := 8) rfl)))
  have hSF : Sta s s.heap "jdk/internal/util/Preconditions" "SIOOBE_FORMATTER" "Ljava/util/function/BiFunction;" sf := Sta.start e_sf (Or.inl (hsets _ (List.mem_of_getElem? (i := 7) rfl)))
  obtain ⟨i0, ei0⟩ := is_v g3
  obtain rfl : w0 = (.int i0) := Option.some.inj ei0
  obtain ⟨i1, ei1⟩ := is_v g5
  obtain rfl : w1 = (.int i1) := Option.some.inj ei1
  obtain ⟨i2, ei2⟩ := is_v g7
  obtain rfl : w2 = (.int i2) := Option.some.inj ei2
  obtain ⟨i3, ei3⟩ := is_v g9
  obtain rfl : w3 = (.int i3) := Option.some.inj ei3
  obtain ⟨i4, ei4⟩ := is_v g10
  obtain rfl : w4 = (.int i4) := Option.some.inj ei4
  have hEW := (EW.cons (w_19 hw) (by decide) (EW.cons (w_119 hw) (by decide) EW.nil))
  have hCH : CHv s ELs s.vm s.heap := CHv.start hEW (fun p hp => hcalls.1 p hp) (hsets _ (List.mem_of_getElem? (i := 2) rfl)) (w_20 hw) (w_7 hw)
  have C := c_law (l := l) (n0 := s.heap.size) hw i0 i1 i2 i3 i4 zz sf s.heap hC hz hSF rsf
  obtain ⟨n, o, h1, h2, h3, v, L, rfl, ⟨⟨w, rfl, rfl, -, -⟩, N⟩, -, hq⟩ := C (Old.start s) (fun _ q => nomatch q) ⟨_, hEW⟩ p e ha hc hk s m _ below hf ((Spec.applies_iff_loose hf).mp happ).1 ⟨rfl, State.Warmed39.refl s, rfl, hCH, fun _ q => nomatch q⟩ trivial
  refine ⟨n, _, h1, h2, h3, hpost _ _ _ _ (some (.int 1)) _ ⟨Cond.after_iff.mpr rfl, Cond.after_iff.mpr (eq_i res_at (Term.int_eval (1)) rfl), trivial⟩ ⟨hq.1, hq.2.1, hq.2.2.1, (hq.2.2.2.sift fun y hy => Or.inr ((N y hy).elim (fun q => nomatch q) id)).mono (by decide) (by decide)⟩⟩
theorem main_1_1 : Claimed_1_1 := comes_1 fun _ _ _ _ _ _ h hF => ⟨h.1, hF⟩
theorem main_1_2 : Claimed_1_2 := comes_1 fun _ _ _ _ _ _ h hF => ⟨h.2.1, hF⟩
end Jvm.Pilot.@@N@@
namespace Jvm.Pilot.@@N@@
open Jvm Jvm.ClassFile Sem Op Lib Jvm.Free Jvm.Stand Jvm.Pilot.@@N@@.Jvm.D
/-! MADE BY PROGRAM (witnessworld.py) out of the Statement's table words and the real class files: 24 classes; the members and pool entries that the words name. The judged class is class 1, her method 3. -/
namespace start1
open Jvm.ClassFile
def u (s : String) : CpInfo := .utf8 (stringToUtf16 s)
/-- a pool by its gaps: so many unusable entries, then the entry; so many at the end -/
def gap : Nat → List CpInfo → List CpInfo
  | 0, r => r
  | n + 1, r => .unusable :: gap n r
def poolList (es : List (Nat × CpInfo)) (last : Nat) : List CpInfo := es.foldr (fun e r => gap e.1 (e.2 :: r)) (gap last [])
def pool (es : List (Nat × CpInfo)) (last : Nat) : Array CpInfo := ⟨poolList es last⟩
def fileOf (pool : Array CpInfo) (this : Nat) (attrs : Array Attribute := #[]) (ms : Array MethodInfo := #[]) (fl : Nat := 33) (sup : Nat := 0) (ifs : Array Nat := #[]) (fds : Array FieldInfo := #[]) : ClassFile where
  minorVersion := 0
  majorVersion := 65
  constantPool := pool
  accessFlags := fl
  thisClass := this
  superClass := sup
  interfaces := ifs
  fields := fds
  methods := ms
  attributes := attrs
def plain (name : String) (sup : Option ClassId) : Class where
  name := name
  kind := .ordinary
  loader := none
  accessFlags := 33
  super := sup
  interfaces := #[]
  cf := none
  fields := #[]
  methods := #[]
  instanceTypes := #[]
  staticTypes := #[]
  resolved := #[]
  callSites := []
  init := .initialized
  statics := none
  mirror := none

def pool0 : Array CpInfo := pool [(5, u "<init>"), (0, u "()V"), (1, .class_ 10), (1, u "java/lang/Object")] 113

def k0c0 : Code := { maxStack := 0, maxLocals := 1, code := object_method_1_code, exceptionTable := #[], attributes := #[] }
def k0m0 : Method := { name := "<init>", desc := "()V", sig := { parameters := [], returnType := none }, accessFlags := 1, code := some k0c0 }
/-- java/lang/Object -/
def k0 : Class := { plain "java/lang/Object" none with
  accessFlags := 33
  interfaces := #[]
  cf := some (fileOf pool0 8 #[] #[{ accessFlags := 1, nameIndex := 5, descriptorIndex := 6, attributes := #[] }] 33 0 #[] #[])
  fields := #[]
  methods := #[k0m0]
  instanceTypes := #[]
  staticTypes := #[]
  resolved := Array.replicate 124 none
  statics := none }

def pool1 : Array CpInfo := pool [(2, .class_ 4), (1, u "java/lang/Object"), (0, u "<init>"), (0, u "()V"), (0, .integer 2147483647), (0, .methodref 9 10), (0, .class_ 11), (0, .nameAndType 12 13), (0, u "com/example/antiphon/antiphon/model/XmlInputTrimmedPinLaw"), (0, u "ch"), (0, u "(I)C"), (0, .class_ 15), (0, u "java/lang/String"), (0, .methodref 14 17), (0, .nameAndType 5 18), (0, u "([C)V"), (0, .methodref 9 20), (0, .nameAndType 21 22), (0, u "ws"), (0, u "(C)Z"), (0, .methodref 24 25), (0, .class_ 26), (0, .nameAndType 27 28), (0, u "com/example/antiphon/antiphon/model/XmlInput"), (0, u "trimmed"), (0, u "(Ljava/lang/String;)Ljava/lang/String;"), (0, .methodref 14 30), (0, .nameAndType 31 32), (0, u "length"), (0, u "()I"), (0, .methodref 14 34), (0, .nameAndType 35 13), (0, u "charAt"), (3, u "law"), (0, u "(IIIII)Z")] 4

def k1m0 : Method := { name := "<init>", desc := "()V", sig := { parameters := [], returnType := none }, accessFlags := 1, code := none }
def k1c1 : Code := { maxStack := 2, maxLocals := 2, code := method_2_code, exceptionTable := #[], attributes := #[] }
def k1m1 : Method := { name := "ch", desc := "(I)C", sig := { parameters := [.int], returnType := some .char }, accessFlags := 10, code := some k1c1 }
def k1c2 : Code := { maxStack := 2, maxLocals := 1, code := method_3_code, exceptionTable := #[], attributes := #[] }
def k1m2 : Method := { name := "ws", desc := "(C)Z", sig := { parameters := [.char], returnType := some .boolean }, accessFlags := 10, code := some k1c2 }
def k1c3 : Code := { maxStack := 7, maxLocals := 16, code := code, exceptionTable := #[], attributes := #[] }
def k1m3 : Method := { name := "law", desc := "(IIIII)Z", sig := { parameters := [.int, .int, .int, .int, .int], returnType := some .boolean }, accessFlags := 9, code := some k1c3 }
/-- com/example/antiphon/antiphon/model/XmlInputTrimmedPinLaw -/
def k1 : Class := { plain "com/example/antiphon/antiphon/model/XmlInputTrimmedPinLaw" (some 0) with
  accessFlags := 49
  interfaces := #[]
  cf := some (fileOf pool1 9 #[] #[{ accessFlags := 1, nameIndex := 5, descriptorIndex := 6, attributes := #[] }, { accessFlags := 10, nameIndex := 12, descriptorIndex := 13, attributes := #[] }, { accessFlags := 10, nameIndex := 21, descriptorIndex := 22, attributes := #[] }, { accessFlags := 9, nameIndex := 39, descriptorIndex := 40, attributes := #[] }] 49 2 #[] #[])
  fields := #[]
  methods := #[k1m0, k1m1, k1m2, k1m3]
  instanceTypes := #[]
  staticTypes := #[]
  resolved := Array.replicate 45 none
  statics := none }

def pool2 : Array CpInfo := pool [(1, .class_ 2), (0, u "java/io/Serializable"), (0, .class_ 4), (0, u "java/lang/Object")] 2

/-- java/io/Serializable -/
def k2 : Class := { plain "java/io/Serializable" (some 0) with
  accessFlags := 1537
  interfaces := #[]
  cf := some (fileOf pool2 1 #[] #[] 1537 3 #[] #[])
  fields := #[]
  methods := #[]
  instanceTypes := #[]
  staticTypes := #[]
  resolved := Array.replicate 7 none
  statics := none }

def pool3 : Array CpInfo := pool [(1, .class_ 2), (0, u "java/lang/Comparable"), (0, .class_ 4), (0, u "java/lang/Object")] 7

/-- java/lang/Comparable -/
def k3 : Class := { plain "java/lang/Comparable" (some 0) with
  accessFlags := 1537
  interfaces := #[]
  cf := some (fileOf pool3 1 #[] #[] 1537 3 #[] #[])
  fields := #[]
  methods := #[]
  instanceTypes := #[]
  staticTypes := #[]
  resolved := Array.replicate 12 none
  statics := none }

def pool4 : Array CpInfo := pool [(2, .class_ 4), (1, u "java/lang/CharSequence"), (42, .class_ 48), (0, u "java/lang/CharSequence$1CodePointIterator"), (10, .class_ 60), (0, u "java/lang/CharSequence$1CharIterator"), (5, .class_ 67), (0, u "java/lang/Object")] 63

/-- java/lang/CharSequence -/
def k4 : Class := { plain "java/lang/CharSequence" (some 0) with
  accessFlags := 1537
  interfaces := #[]
  cf := some (fileOf pool4 2 #[.nestMembers #[47, 59]] #[] 1537 66 #[] #[])
  fields := #[]
  methods := #[]
  instanceTypes := #[]
  staticTypes := #[]
  resolved := Array.replicate 131 none
  statics := none }

def pool5 : Array CpInfo := pool [(1, .class_ 2), (0, u "java/lang/constant/Constable"), (0, .class_ 4), (0, u "java/lang/Object")] 6

/-- java/lang/constant/Constable -/
def k5 : Class := { plain "java/lang/constant/Constable" (some 0) with
  accessFlags := 1537
  interfaces := #[]
  cf := some (fileOf pool5 1 #[] #[] 1537 3 #[] #[])
  fields := #[]
  methods := #[]
  instanceTypes := #[]
  staticTypes := #[]
  resolved := Array.replicate 11 none
  statics := none }

def pool6 : Array CpInfo := pool [(1, .class_ 2), (0, u "java/lang/constant/ConstantDesc"), (0, .class_ 4), (0, u "java/lang/Object")] 32

/-- java/lang/constant/ConstantDesc -/
def k6 : Class := { plain "java/lang/constant/ConstantDesc" (some 0) with
  accessFlags := 1537
  interfaces := #[]
  cf := some (fileOf pool6 1 #[] #[] 1537 3 #[] #[])
  fields := #[]
  methods := #[]
  instanceTypes := #[]
  staticTypes := #[]
  resolved := Array.replicate 37 none
  statics := none }

def pool7 : Array CpInfo := pool [(1, .methodref 2 3), (0, .class_ 4), (0, .nameAndType 5 6), (0, u "java/lang/Object"), (0, u "<init>"), (0, u "()V"), (0, .string 8), (0, u ""), (0, .fieldref 10 11), (0, .class_ 12), (0, .nameAndType 13 14), (0, u "java/lang/String"), (0, u "value"), (0, u "[B"), (0, .fieldref 10 16), (0, .nameAndType 17 18), (0, u "coder"), (0, u "B"), (2, u "hash"), (0, u "I"), (2, u "hashIsZero"), (0, u "Z"), (0, .methodref 10 28), (0, .nameAndType 5 29), (0, u "([CIILjava/lang/Void;)V"), (8, .fieldref 10 39), (0, .nameAndType 40 26), (0, u "COMPACT_STRINGS"), (1, .class_ 44), (1, u "java/lang/StringUTF16"), (0, u "compress"), (1, .methodref 42 48), (0, .nameAndType 49 50), (0, u "coderFromArrayLen"), (0, u "([BI)B"), (56, .class_ 109), (1, u "java/lang/StringLatin1"), (32, u "()Z"), (34, .methodref 42 178), (0, .nameAndType 45 179), (0, u "([CII)[B"), (31, u "([BB)V"), (122, u "()I"), (0, .methodref 10 336), (0, .nameAndType 17 337), (0, u "()B"), (25, u "([BI)C"), (27, u "(II)V"), (35, u "(I)C"), (64, .methodref 10 493), (0, .nameAndType 494 142), (0, u "isLatin1"), (0, .methodref 107 496), (0, .nameAndType 497 363), (0, u "charAt"), (3, u "checkIndex"), (3, .methodref 10 506), (0, .nameAndType 507 334), (0, u "length"), (5, u "checkFromToIndex"), (7, .methodref 10 522), (0, .nameAndType 523 524), (0, u "checkBoundsBeginEnd"), (0, u "(III)V"), (50, .class_ 576), (0, u "java/lang/CharSequence"), (22, u "CASE_INSENSITIVE_ORDER"), (0, u "Ljava/util/Comparator;"), (82, u "substring"), (0, u "(II)Ljava/lang/String;"), (0, .methodref 107 686), (0, .nameAndType 687 688), (0, u "newString"), (0, u "([BII)Ljava/lang/String;"), (321, u "([C)V"), (42, .fieldref 1054 1055), (0, .class_ 1056), (0, .nameAndType 1057 1058), (0, u "jdk/internal/util/Preconditions"), (0, u "SIOOBE_FORMATTER"), (0, u "Ljava/util/function/BiFunction;"), (0, .methodref 1054 1060), (0, .nameAndType 501 1061), (0, u "(IILjava/util/function/BiFunction;)I"), (0, .methodref 1054 1063), (0, .nameAndType 513 1064), (0, u "(IIILjava/util/function/BiFunction;)I"), (36, u "serialPersistentFields"), (0, u "[Ljava/io/ObjectStreamField;"), (0, .class_ 1104), (0, u "java/lang/String$CaseInsensitiveComparator"), (1, .class_ 1107), (0, u "java/io/Serializable"), (0, .class_ 1109), (0, u "java/lang/Comparable"), (0, .class_ 1111), (0, u "java/lang/constant/Constable"), (0, .class_ 1113), (0, u "java/lang/constant/ConstantDesc"), (2, u "serialVersionUID"), (0, u "J"), (3, u "REPL"), (0, u "C"), (2, u "LATIN1"), (1, u "UTF16")] 323

def k7m0 : Method := { name := "<init>", desc := "()V", sig := { parameters := [], returnType := none }, accessFlags := 1, code := none }
def k7c1 : Code := { maxStack := 5, maxLocals := 2, code := jdk_42_method_3_code, exceptionTable := #[], attributes := #[] }
def k7m1 : Method := { name := "<init>", desc := "([C)V", sig := { parameters := [(.array .char)], returnType := none }, accessFlags := 1, code := some k7c1 }
def k7c2 : Code := { maxStack := 2, maxLocals := 1, code := jdk_42_method_54_code, exceptionTable := #[], attributes := #[] }
def k7m2 : Method := { name := "length", desc := "()I", sig := { parameters := [], returnType := some .int }, accessFlags := 1, code := some k7c2 }
def k7c3 : Code := { maxStack := 2, maxLocals := 2, code := jdk_42_method_56_code, exceptionTable := #[], attributes := #[] }
def k7m3 : Method := { name := "charAt", desc := "(I)C", sig := { parameters := [.int], returnType := some .char }, accessFlags := 1, code := some k7c3 }
def k7c4 : Code := { maxStack := 3, maxLocals := 5, code := jdk_42_method_92_code, exceptionTable := #[], attributes := #[] }
def k7m4 : Method := { name := "substring", desc := "(II)Ljava/lang/String;", sig := { parameters := [.int, .int], returnType := some (.object "java/lang/String") }, accessFlags := 1, code := some k7c4 }
def k7c5 : Code := { maxStack := 4, maxLocals := 6, code := jdk_42_method_149_code, exceptionTable := #[], attributes := #[] }
def k7m5 : Method := { name := "<init>", desc := "([CIILjava/lang/Void;)V", sig := { parameters := [(.array .char), .int, .int, (.object "java/lang/Void")], returnType := none }, accessFlags := 2, code := some k7c5 }
def k7c6 : Code := { maxStack := 2, maxLocals := 3, code := jdk_42_method_151_code, exceptionTable := #[], attributes := #[] }
def k7m6 : Method := { name := "<init>", desc := "([BB)V", sig := { parameters := [(.array .byte), .byte], returnType := none }, accessFlags := 0, code := some k7c6 }
def k7c7 : Code := { maxStack := 1, maxLocals := 1, code := jdk_42_method_152_code, exceptionTable := #[], attributes := #[] }
def k7m7 : Method := { name := "coder", desc := "()B", sig := { parameters := [], returnType := some .byte }, accessFlags := 0, code := some k7c7 }
def k7c8 : Code := { maxStack := 1, maxLocals := 1, code := jdk_42_method_154_code, exceptionTable := #[], attributes := #[] }
def k7m8 : Method := { name := "isLatin1", desc := "()Z", sig := { parameters := [], returnType := some .boolean }, accessFlags := 0, code := some k7c8 }
def k7c9 : Code := { maxStack := 3, maxLocals := 2, code := jdk_42_method_155_code, exceptionTable := #[], attributes := #[] }
def k7m9 : Method := { name := "checkIndex", desc := "(II)V", sig := { parameters := [.int, .int], returnType := none }, accessFlags := 8, code := some k7c9 }
def k7c10 : Code := { maxStack := 4, maxLocals := 3, code := jdk_42_method_158_code, exceptionTable := #[], attributes := #[] }
def k7m10 : Method := { name := "checkBoundsBeginEnd", desc := "(III)V", sig := { parameters := [.int, .int, .int], returnType := none }, accessFlags := 8, code := some k7c10 }
/-- java/lang/String -/
def k7 : Class := { plain "java/lang/String" (some 0) with
  accessFlags := 49
  interfaces := #[2, 3, 4, 5, 6]
  cf := some (fileOf pool7 10 #[.nestMembers #[1103]] #[{ accessFlags := 1, nameIndex := 5, descriptorIndex := 6, attributes := #[] }, { accessFlags := 1, nameIndex := 5, descriptorIndex := 1010, attributes := #[] }, { accessFlags := 1, nameIndex := 507, descriptorIndex := 334, attributes := #[] }, { accessFlags := 1, nameIndex := 497, descriptorIndex := 427, attributes := #[] }, { accessFlags := 1, nameIndex := 683, descriptorIndex := 684, attributes := #[] }, { accessFlags := 2, nameIndex := 5, descriptorIndex := 29, attributes := #[] }, { accessFlags := 0, nameIndex := 5, descriptorIndex := 211, attributes := #[] }, { accessFlags := 0, nameIndex := 17, descriptorIndex := 337, attributes := #[] }, { accessFlags := 0, nameIndex := 494, descriptorIndex := 142, attributes := #[] }, { accessFlags := 8, nameIndex := 501, descriptorIndex := 391, attributes := #[] }, { accessFlags := 8, nameIndex := 523, descriptorIndex := 524, attributes := #[] }] 49 2 #[1106, 1108, 575, 1110, 1112] #[{ accessFlags := 18, nameIndex := 13, descriptorIndex := 14, attributes := #[] }, { accessFlags := 18, nameIndex := 17, descriptorIndex := 18, attributes := #[] }, { accessFlags := 2, nameIndex := 21, descriptorIndex := 22, attributes := #[] }, { accessFlags := 2, nameIndex := 25, descriptorIndex := 26, attributes := #[] }, { accessFlags := 26, nameIndex := 1116, descriptorIndex := 1117, attributes := #[] }, { accessFlags := 24, nameIndex := 40, descriptorIndex := 26, attributes := #[] }, { accessFlags := 26, nameIndex := 1101, descriptorIndex := 1102, attributes := #[] }, { accessFlags := 26, nameIndex := 1121, descriptorIndex := 1122, attributes := #[] }, { accessFlags := 25, nameIndex := 599, descriptorIndex := 600, attributes := #[] }, { accessFlags := 24, nameIndex := 1125, descriptorIndex := 18, attributes := #[] }, { accessFlags := 24, nameIndex := 1127, descriptorIndex := 18, attributes := #[] }])
  fields := #[{ name := "value", type := (.array .byte), accessFlags := 18, slot := 0, constantValue := 0 }, { name := "coder", type := .byte, accessFlags := 18, slot := 1, constantValue := 0 }, { name := "hash", type := .int, accessFlags := 2, slot := 2, constantValue := 0 }, { name := "hashIsZero", type := .boolean, accessFlags := 2, slot := 3, constantValue := 0 }, { name := "serialVersionUID", type := .long, accessFlags := 26, slot := 0, constantValue := 0 }, { name := "COMPACT_STRINGS", type := .boolean, accessFlags := 24, slot := 1, constantValue := 0 }, { name := "serialPersistentFields", type := (.array (.object "java/io/ObjectStreamField")), accessFlags := 26, slot := 2, constantValue := 0 }, { name := "REPL", type := .char, accessFlags := 26, slot := 3, constantValue := 0 }, { name := "CASE_INSENSITIVE_ORDER", type := (.object "java/util/Comparator"), accessFlags := 25, slot := 4, constantValue := 0 }, { name := "LATIN1", type := .byte, accessFlags := 24, slot := 5, constantValue := 0 }, { name := "UTF16", type := .byte, accessFlags := 24, slot := 6, constantValue := 0 }]
  methods := #[k7m0, k7m1, k7m2, k7m3, k7m4, k7m5, k7m6, k7m7, k7m8, k7m9, k7m10]
  instanceTypes := #[(.array .byte), .byte, .int, .boolean]
  staticTypes := #[.long, .boolean, (.array (.object "java/io/ObjectStreamField")), .char, (.object "java/util/Comparator"), .byte, .byte]
  resolved := Array.replicate 1451 none
  statics := some 0 }

def pool8 : Array CpInfo := pool [(1, .class_ 2), (0, u "java/lang/AutoCloseable"), (0, .class_ 4), (0, u "java/lang/Object")] 7

/-- java/lang/AutoCloseable -/
def k8 : Class := { plain "java/lang/AutoCloseable" (some 0) with
  accessFlags := 1537
  interfaces := #[]
  cf := some (fileOf pool8 1 #[] #[] 1537 3 #[] #[])
  fields := #[]
  methods := #[]
  instanceTypes := #[]
  staticTypes := #[]
  resolved := Array.replicate 12 none
  statics := none }

def pool9 : Array CpInfo := pool [(2, .class_ 4), (1, u "java/lang/Object"), (6, .class_ 13), (1, u "com/example/antiphon/antiphon/model/XmlInput"), (0, u "declarations"), (0, u "Ljava/util/ArrayDeque;"), (6, u "startTagWatcher"), (0, u "Ljava/lang/Runnable;"), (2, u "path"), (0, u "Ljava/nio/file/Path;"), (2, u "charset"), (0, u "Ljava/nio/charset/Charset;"), (2, u "text"), (0, u "Ljava/io/Reader;"), (12, u "xml"), (0, u "Ljavax/xml/stream/XMLStreamReader;"), (72, u "()I"), (49, u "[Ljava/lang/String;"), (1, .class_ 176), (1, u "java/lang/String"), (24, u "(Ljava/lang/String;)Ljava/lang/String;"), (8, u "NO_DECLARATIONS"), (116, .methodref 174 328), (0, .nameAndType 329 330), (0, u "substring"), (0, u "(II)Ljava/lang/String;"), (4, .methodref 174 336), (0, .nameAndType 337 122), (0, u "length"), (3, .methodref 174 342), (0, .nameAndType 343 344), (0, u "charAt"), (0, u "(I)C"), (0, .methodref 11 346), (0, .nameAndType 347 348), (0, u "isXmlSpace"), (0, u "(C)Z"), (116, u "ENCODING_DECLARATION"), (0, u "Ljava/util/regex/Pattern;"), (40, .class_ 508), (0, u "java/lang/AutoCloseable"), (8, u "HEAD_LENGTH"), (0, u "I"), (30, u "trimmed")] 48

def k9c0 : Code := { maxStack := 3, maxLocals := 3, code := prog_111_method_24_code, exceptionTable := #[], attributes := #[] }
def k9m0 : Method := { name := "trimmed", desc := "(Ljava/lang/String;)Ljava/lang/String;", sig := { parameters := [(.object "java/lang/String")], returnType := some (.object "java/lang/String") }, accessFlags := 8, code := some k9c0 }
def k9c1 : Code := { maxStack := 2, maxLocals := 1, code := prog_111_method_25_code, exceptionTable := #[], attributes := #[] }
def k9m1 : Method := { name := "isXmlSpace", desc := "(C)Z", sig := { parameters := [.char], returnType := some .boolean }, accessFlags := 10, code := some k9c1 }
/-- com/example/antiphon/antiphon/model/XmlInput -/
def k9 : Class := { plain "com/example/antiphon/antiphon/model/XmlInput" (some 0) with
  accessFlags := 32
  interfaces := #[8]
  cf := some (fileOf pool9 11 #[] #[{ accessFlags := 8, nameIndex := 549, descriptorIndex := 201, attributes := #[] }, { accessFlags := 10, nameIndex := 347, descriptorIndex := 348, attributes := #[] }] 32 2 #[507] #[{ accessFlags := 26, nameIndex := 517, descriptorIndex := 518, attributes := #[] }, { accessFlags := 26, nameIndex := 465, descriptorIndex := 466, attributes := #[] }, { accessFlags := 26, nameIndex := 210, descriptorIndex := 172, attributes := #[] }, { accessFlags := 18, nameIndex := 26, descriptorIndex := 27, attributes := #[] }, { accessFlags := 18, nameIndex := 30, descriptorIndex := 31, attributes := #[] }, { accessFlags := 18, nameIndex := 34, descriptorIndex := 35, attributes := #[] }, { accessFlags := 18, nameIndex := 48, descriptorIndex := 49, attributes := #[] }, { accessFlags := 18, nameIndex := 14, descriptorIndex := 15, attributes := #[] }, { accessFlags := 2, nameIndex := 22, descriptorIndex := 23, attributes := #[] }])
  fields := #[{ name := "HEAD_LENGTH", type := .int, accessFlags := 26, slot := 0, constantValue := 0 }, { name := "ENCODING_DECLARATION", type := (.object "java/util/regex/Pattern"), accessFlags := 26, slot := 1, constantValue := 0 }, { name := "NO_DECLARATIONS", type := (.array (.object "java/lang/String")), accessFlags := 26, slot := 2, constantValue := 0 }, { name := "path", type := (.object "java/nio/file/Path"), accessFlags := 18, slot := 0, constantValue := 0 }, { name := "charset", type := (.object "java/nio/charset/Charset"), accessFlags := 18, slot := 1, constantValue := 0 }, { name := "text", type := (.object "java/io/Reader"), accessFlags := 18, slot := 2, constantValue := 0 }, { name := "xml", type := (.object "javax/xml/stream/XMLStreamReader"), accessFlags := 18, slot := 3, constantValue := 0 }, { name := "declarations", type := (.object "java/util/ArrayDeque"), accessFlags := 18, slot := 4, constantValue := 0 }, { name := "startTagWatcher", type := (.object "java/lang/Runnable"), accessFlags := 2, slot := 5, constantValue := 0 }]
  methods := #[k9m0, k9m1]
  instanceTypes := #[(.object "java/nio/file/Path"), (.object "java/nio/charset/Charset"), (.object "java/io/Reader"), (.object "javax/xml/stream/XMLStreamReader"), (.object "java/util/ArrayDeque"), (.object "java/lang/Runnable")]
  staticTypes := #[.int, (.object "java/util/regex/Pattern"), (.array (.object "java/lang/String"))]
  resolved := Array.replicate 598 none
  statics := none }

def pool10 : Array CpInfo := pool [(2, .class_ 4), (1, u "java/lang/Object"), (0, u "<init>"), (0, u "()V"), (17, .class_ 26), (1, u "jdk/internal/util/Preconditions"), (6, u "checkIndex"), (13, u "checkFromToIndex"), (7, .class_ 56), (0, u "jdk/internal/util/Preconditions$4"), (57, .class_ 115), (0, u "jdk/internal/util/Preconditions$1"), (7, u "SIOOBE_FORMATTER"), (0, u "Ljava/util/function/BiFunction;"), (0, .class_ 126), (0, u "jdk/internal/util/Preconditions$2"), (3, u "AIOOBE_FORMATTER"), (0, .class_ 132), (0, u "jdk/internal/util/Preconditions$3"), (3, u "IOOBE_FORMATTER"), (41, u "(IILjava/util/function/BiFunction;)I"), (4, u "(IIILjava/util/function/BiFunction;)I")] 10

def k10m0 : Method := { name := "<init>", desc := "()V", sig := { parameters := [], returnType := none }, accessFlags := 1, code := none }
def k10c1 : Code := { maxStack := 3, maxLocals := 3, code := jdk_41_method_11_code, exceptionTable := #[], attributes := #[] }
def k10m1 : Method := { name := "checkIndex", desc := "(IILjava/util/function/BiFunction;)I", sig := { parameters := [.int, .int, (.object "java/util/function/BiFunction")], returnType := some .int }, accessFlags := 9, code := some k10c1 }
def k10c2 : Code := { maxStack := 4, maxLocals := 4, code := jdk_41_method_12_code, exceptionTable := #[], attributes := #[] }
def k10m2 : Method := { name := "checkFromToIndex", desc := "(IIILjava/util/function/BiFunction;)I", sig := { parameters := [.int, .int, .int, (.object "java/util/function/BiFunction")], returnType := some .int }, accessFlags := 9, code := some k10c2 }
/-- jdk/internal/util/Preconditions -/
def k10 : Class := { plain "jdk/internal/util/Preconditions" (some 0) with
  accessFlags := 33
  interfaces := #[]
  cf := some (fileOf pool10 24 #[.nestMembers #[55, 131, 125, 114]] #[{ accessFlags := 1, nameIndex := 5, descriptorIndex := 6, attributes := #[] }, { accessFlags := 9, nameIndex := 33, descriptorIndex := 178, attributes := #[] }, { accessFlags := 9, nameIndex := 47, descriptorIndex := 183, attributes := #[] }] 33 2 #[] #[{ accessFlags := 25, nameIndex := 123, descriptorIndex := 124, attributes := #[] }, { accessFlags := 25, nameIndex := 130, descriptorIndex := 124, attributes := #[] }, { accessFlags := 25, nameIndex := 136, descriptorIndex := 124, attributes := #[] }])
  fields := #[{ name := "SIOOBE_FORMATTER", type := (.object "java/util/function/BiFunction"), accessFlags := 25, slot := 0, constantValue := 0 }, { name := "AIOOBE_FORMATTER", type := (.object "java/util/function/BiFunction"), accessFlags := 25, slot := 1, constantValue := 0 }, { name := "IOOBE_FORMATTER", type := (.object "java/util/function/BiFunction"), accessFlags := 25, slot := 2, constantValue := 0 }]
  methods := #[k10m0, k10m1, k10m2]
  instanceTypes := #[]
  staticTypes := #[(.object "java/util/function/BiFunction"), (.object "java/util/function/BiFunction"), (.object "java/util/function/BiFunction")]
  resolved := Array.replicate 194 none
  statics := some 1 }

def pool11 : Array CpInfo := pool [(6, .class_ 8), (1, u "java/lang/Object"), (0, u "<init>"), (0, u "()V"), (1, .class_ 14), (1, u "java/lang/StringUTF16"), (31, u "$assertionsDisabled"), (0, u "Z"), (13, u "HI_BYTE_SHIFT"), (0, u "I"), (2, u "LO_BYTE_SHIFT"), (49, .methodref 12 116), (0, .nameAndType 117 118), (0, u "compress"), (0, u "([CI[BII)I"), (3, u "([CII)[B"), (138, u "coderFromArrayLen"), (0, u "([BI)B"), (106, .class_ 371), (1, u "java/lang/StringUTF16$LinesSpliterator"), (58, u "MAX_LENGTH"), (196, .class_ 628), (0, u "java/lang/StringUTF16$CodePointsSpliterator"), (0, .class_ 630), (0, u "java/lang/StringUTF16$CharsSpliterator")] 4

def k11m0 : Method := { name := "<init>", desc := "()V", sig := { parameters := [], returnType := none }, accessFlags := 0, code := none }
def k11c1 : Code := { maxStack := 2, maxLocals := 2, code := jdk_52_method_15_code, exceptionTable := #[], attributes := #[] }
def k11m1 : Method := { name := "coderFromArrayLen", desc := "([BI)B", sig := { parameters := [(.array .byte), .int], returnType := some .byte }, accessFlags := 8, code := some k11c1 }
def k11c2 : Code := { maxStack := 5, maxLocals := 6, code := jdk_52_method_16_code, exceptionTable := #[], attributes := #[] }
def k11m2 : Method := { name := "compress", desc := "([CII)[B", sig := { parameters := [(.array .char), .int, .int], returnType := some (.array .byte) }, accessFlags := 9, code := some k11c2 }
def k11c3 : Code := { maxStack := 3, maxLocals := 7, code := jdk_52_method_21_code, exceptionTable := #[], attributes := #[] }
def k11m3 : Method := { name := "compress", desc := "([CI[BII)I", sig := { parameters := [(.array .char), .int, (.array .byte), .int, .int], returnType := some .int }, accessFlags := 9, code := some k11c3 }
/-- java/lang/StringUTF16 -/
def k11 : Class := { plain "java/lang/StringUTF16" (some 0) with
  accessFlags := 48
  interfaces := #[]
  cf := some (fileOf pool11 12 #[.nestMembers #[627, 629, 369]] #[{ accessFlags := 0, nameIndex := 9, descriptorIndex := 10, attributes := #[] }, { accessFlags := 8, nameIndex := 261, descriptorIndex := 262, attributes := #[] }, { accessFlags := 9, nameIndex := 117, descriptorIndex := 122, attributes := #[] }, { accessFlags := 9, nameIndex := 117, descriptorIndex := 118, attributes := #[] }] 48 6 #[] #[{ accessFlags := 26, nameIndex := 61, descriptorIndex := 62, attributes := #[] }, { accessFlags := 26, nameIndex := 65, descriptorIndex := 62, attributes := #[] }, { accessFlags := 24, nameIndex := 430, descriptorIndex := 62, attributes := #[] }, { accessFlags := 4120, nameIndex := 46, descriptorIndex := 47, attributes := #[] }])
  fields := #[{ name := "HI_BYTE_SHIFT", type := .int, accessFlags := 26, slot := 0, constantValue := 0 }, { name := "LO_BYTE_SHIFT", type := .int, accessFlags := 26, slot := 1, constantValue := 0 }, { name := "MAX_LENGTH", type := .int, accessFlags := 24, slot := 2, constantValue := 0 }, { name := "$assertionsDisabled", type := .boolean, accessFlags := 4120, slot := 3, constantValue := 0 }]
  methods := #[k11m0, k11m1, k11m2, k11m3]
  instanceTypes := #[]
  staticTypes := #[.int, .int, .int, .boolean]
  resolved := Array.replicate 635 none
  statics := none }

def pool12 : Array CpInfo := pool [(1, .class_ 2), (0, u "java/lang/String"), (1, .class_ 6), (1, u "java/lang/Object"), (0, u "<init>"), (0, u "()V"), (0, .methodref 1 10), (0, .nameAndType 11 12), (0, u "checkIndex"), (0, u "(II)V"), (1, .class_ 16), (1, u "java/lang/StringLatin1"), (36, u "([BI)C"), (58, .methodref 1 113), (0, .nameAndType 7 114), (0, u "([BB)V"), (6, u "$assertionsDisabled"), (0, u "Z"), (8, .class_ 133), (1, u "java/util/Arrays"), (17, .string 152), (0, u ""), (43, u "newString"), (0, u "([BII)Ljava/lang/String;"), (23, .class_ 223), (1, u "java/lang/StringLatin1$LinesSpliterator"), (8, .methodref 131 233), (0, .nameAndType 234 235), (0, u "copyOfRange"), (0, u "([BII)[B"), (16, u "charAt"), (137, .class_ 391), (0, u "java/lang/StringLatin1$CharsSpliterator")] 3

def k12m0 : Method := { name := "<init>", desc := "()V", sig := { parameters := [], returnType := none }, accessFlags := 0, code := none }
def k12c1 : Code := { maxStack := 2, maxLocals := 2, code := jdk_43_method_2_code, exceptionTable := #[], attributes := #[] }
def k12m1 : Method := { name := "charAt", desc := "([BI)C", sig := { parameters := [(.array .byte), .int], returnType := some .char }, accessFlags := 9, code := some k12c1 }
def k12c2 : Code := { maxStack := 6, maxLocals := 3, code := jdk_43_method_47_code, exceptionTable := #[], attributes := #[] }
def k12m2 : Method := { name := "newString", desc := "([BII)Ljava/lang/String;", sig := { parameters := [(.array .byte), .int, .int], returnType := some (.object "java/lang/String") }, accessFlags := 9, code := some k12c2 }
/-- java/lang/StringLatin1 -/
def k12 : Class := { plain "java/lang/StringLatin1" (some 0) with
  accessFlags := 48
  interfaces := #[]
  cf := some (fileOf pool12 14 #[.nestMembers #[390, 221]] #[{ accessFlags := 0, nameIndex := 7, descriptorIndex := 8, attributes := #[] }, { accessFlags := 9, nameIndex := 252, descriptorIndex := 53, attributes := #[] }, { accessFlags := 9, nameIndex := 196, descriptorIndex := 197, attributes := #[] }] 48 4 #[] #[{ accessFlags := 4120, nameIndex := 121, descriptorIndex := 122, attributes := #[] }])
  fields := #[{ name := "$assertionsDisabled", type := .boolean, accessFlags := 4120, slot := 0, constantValue := 0 }]
  methods := #[k12m0, k12m1, k12m2]
  instanceTypes := #[]
  staticTypes := #[.boolean]
  resolved := Array.replicate 395 none
  statics := none }

def pool13 : Array CpInfo := pool [(2, .class_ 4), (1, u "java/lang/Object"), (0, u "<init>"), (0, u "()V"), (7, .class_ 16), (1, u "java/util/Arrays"), (57, .class_ 76), (1, u "java/util/Arrays$NaturalOrder"), (36, .class_ 115), (1, u "java/util/Arrays$LegacyMergeSort"), (1, u "Z"), (21, u "copyOfRange"), (10, .methodref 151 152), (0, .class_ 153), (0, .nameAndType 154 155), (0, u "java/lang/System"), (0, u "arraycopy"), (0, u "(Ljava/lang/Object;ILjava/lang/Object;II)V"), (148, .methodref 305 306), (0, .class_ 307), (0, .nameAndType 308 309), (0, u "java/lang/Math"), (0, u "min"), (0, u "(II)I"), (29, .methodref 14 340), (0, .nameAndType 341 342), (0, u "copyOfRangeByte"), (0, u "([BII)[B"), (0, .methodref 14 344), (0, .nameAndType 345 346), (0, u "checkLength"), (0, u "(II)V"), (28, .class_ 376), (0, u "java/util/Arrays$ArrayList"), (68, u "$assertionsDisabled"), (269, u "MIN_ARRAY_SORT_GRAN"), (0, u "I"), (2, u "INSERTIONSORT_THRESHOLD"), (255, .class_ 976), (0, u "java/util/Arrays$ArrayItr")] 52

def k13m0 : Method := { name := "<init>", desc := "()V", sig := { parameters := [], returnType := none }, accessFlags := 2, code := none }
def k13c1 : Code := { maxStack := 4, maxLocals := 2, code := jdk_65_method_131_code, exceptionTable := #[], attributes := #[] }
def k13m1 : Method := { name := "checkLength", desc := "(II)V", sig := { parameters := [.int, .int], returnType := none }, accessFlags := 10, code := some k13c1 }
def k13c2 : Code := { maxStack := 3, maxLocals := 3, code := jdk_65_method_132_code, exceptionTable := #[], attributes := #[] }
def k13m2 : Method := { name := "copyOfRange", desc := "([BII)[B", sig := { parameters := [(.array .byte), .int, .int], returnType := some (.array .byte) }, accessFlags := 9, code := some k13c2 }
def k13c3 : Code := { maxStack := 6, maxLocals := 5, code := jdk_65_method_133_code, exceptionTable := #[], attributes := #[] }
def k13m3 : Method := { name := "copyOfRangeByte", desc := "([BII)[B", sig := { parameters := [(.array .byte), .int, .int], returnType := some (.array .byte) }, accessFlags := 10, code := some k13c3 }
/-- java/util/Arrays -/
def k13 : Class := { plain "java/util/Arrays" (some 0) with
  accessFlags := 49
  interfaces := #[]
  cf := some (fileOf pool13 14 #[.nestMembers #[975, 375, 113, 74]] #[{ accessFlags := 2, nameIndex := 5, descriptorIndex := 6, attributes := #[] }, { accessFlags := 10, nameIndex := 345, descriptorIndex := 346, attributes := #[] }, { accessFlags := 9, nameIndex := 139, descriptorIndex := 342, attributes := #[] }, { accessFlags := 10, nameIndex := 341, descriptorIndex := 342, attributes := #[] }] 49 2 #[] #[{ accessFlags := 26, nameIndex := 715, descriptorIndex := 716, attributes := #[] }, { accessFlags := 26, nameIndex := 719, descriptorIndex := 716, attributes := #[] }, { accessFlags := 4120, nameIndex := 445, descriptorIndex := 117, attributes := #[] }])
  fields := #[{ name := "MIN_ARRAY_SORT_GRAN", type := .int, accessFlags := 26, slot := 0, constantValue := 0 }, { name := "INSERTIONSORT_THRESHOLD", type := .int, accessFlags := 26, slot := 1, constantValue := 0 }, { name := "$assertionsDisabled", type := .boolean, accessFlags := 4120, slot := 2, constantValue := 0 }]
  methods := #[k13m0, k13m1, k13m2, k13m3]
  instanceTypes := #[]
  staticTypes := #[.int, .int, .boolean]
  resolved := Array.replicate 1029 none
  statics := none }

def pool14 : Array CpInfo := pool [(1, .class_ 2), (0, u "java/lang/Math"), (1, .class_ 6), (1, u "java/lang/Object"), (0, u "<init>"), (0, u "()V"), (89, .class_ 100), (1, u "java/lang/Math$RandomNumberGeneratorHolder"), (71, u "negativeZeroFloatBits"), (0, u "J"), (2, u "negativeZeroDoubleBits"), (24, u "min"), (43, u "$assertionsDisabled"), (0, u "Z"), (88, u "(II)I"), (2, u "twoToTheDoubleScaleDown"), (0, u "D"), (4, u "twoToTheDoubleScaleUp"), (9, u "E"), (3, u "PI"), (2, u "TAU"), (2, u "DEGREES_TO_RADIANS"), (0, u "RADIANS_TO_DEGREES")] 94

def k14m0 : Method := { name := "<init>", desc := "()V", sig := { parameters := [], returnType := none }, accessFlags := 2, code := none }
def k14c1 : Code := { maxStack := 2, maxLocals := 2, code := jdk_29_method_69_code, exceptionTable := #[], attributes := #[] }
def k14m1 : Method := { name := "min", desc := "(II)I", sig := { parameters := [.int, .int], returnType := some .int }, accessFlags := 9, code := some k14c1 }
/-- java/lang/Math -/
def k14 : Class := { plain "java/lang/Math" (some 0) with
  accessFlags := 49
  interfaces := #[]
  cf := some (fileOf pool14 1 #[.nestMembers #[98]] #[{ accessFlags := 2, nameIndex := 7, descriptorIndex := 8, attributes := #[] }, { accessFlags := 9, nameIndex := 201, descriptorIndex := 335, attributes := #[] }] 49 4 #[] #[{ accessFlags := 25, nameIndex := 354, descriptorIndex := 339, attributes := #[] }, { accessFlags := 25, nameIndex := 358, descriptorIndex := 339, attributes := #[] }, { accessFlags := 25, nameIndex := 361, descriptorIndex := 339, attributes := #[] }, { accessFlags := 26, nameIndex := 364, descriptorIndex := 339, attributes := #[] }, { accessFlags := 26, nameIndex := 365, descriptorIndex := 339, attributes := #[] }, { accessFlags := 26, nameIndex := 172, descriptorIndex := 173, attributes := #[] }, { accessFlags := 26, nameIndex := 176, descriptorIndex := 173, attributes := #[] }, { accessFlags := 8, nameIndex := 344, descriptorIndex := 339, attributes := #[] }, { accessFlags := 8, nameIndex := 338, descriptorIndex := 339, attributes := #[] }, { accessFlags := 4120, nameIndex := 245, descriptorIndex := 246, attributes := #[] }])
  fields := #[{ name := "E", type := .double, accessFlags := 25, slot := 0, constantValue := 0 }, { name := "PI", type := .double, accessFlags := 25, slot := 1, constantValue := 0 }, { name := "TAU", type := .double, accessFlags := 25, slot := 2, constantValue := 0 }, { name := "DEGREES_TO_RADIANS", type := .double, accessFlags := 26, slot := 3, constantValue := 0 }, { name := "RADIANS_TO_DEGREES", type := .double, accessFlags := 26, slot := 4, constantValue := 0 }, { name := "negativeZeroFloatBits", type := .long, accessFlags := 26, slot := 5, constantValue := 0 }, { name := "negativeZeroDoubleBits", type := .long, accessFlags := 26, slot := 6, constantValue := 0 }, { name := "twoToTheDoubleScaleUp", type := .double, accessFlags := 8, slot := 7, constantValue := 0 }, { name := "twoToTheDoubleScaleDown", type := .double, accessFlags := 8, slot := 8, constantValue := 0 }, { name := "$assertionsDisabled", type := .boolean, accessFlags := 4120, slot := 9, constantValue := 0 }]
  methods := #[k14m0, k14m1]
  instanceTypes := #[]
  staticTypes := #[.double, .double, .double, .double, .double, .long, .long, .double, .double, .boolean]
  resolved := Array.replicate 460 none
  statics := none }

def pool15 : Array CpInfo := pool [(2, .class_ 4), (1, u "java/lang/Object"), (0, u "<init>"), (0, u "()V"), (1, .class_ 10), (1, u "java/lang/System"), (0, u "allowSecurityManager"), (0, u "I"), (16, u "cons"), (0, u "Ljava/io/Console;"), (77, .class_ 110), (1, u "java/lang/System$CallersHolder"), (43, u "initialErrStream"), (0, u "Ljava/io/PrintStream;"), (19, u "security"), (0, u "Ljava/lang/SecurityManager;"), (31, .class_ 209), (0, u "java/lang/System$1"), (7, u "props"), (0, u "Ljava/util/Properties;"), (2, u "lineSeparator"), (0, u "Ljava/lang/String;"), (96, .class_ 321), (1, u "java/lang/System$LoggerFinder"), (5, .class_ 328), (0, u "java/lang/System$Logger"), (67, u "err"), (2, u "out"), (91, u "notSupportedJnuEncoding"), (15, u "in"), (17, u "initialIn"), (0, u "Ljava/io/InputStream;"), (35, u "bootLayer"), (0, u "Ljava/lang/ModuleLayer;"), (99, .class_ 664), (0, u "java/lang/System$2"), (9, u "NEVER"), (2, u "MAYBE"), (49, u "arraycopy"), (0, u "(Ljava/lang/Object;ILjava/lang/Object;II)V"), (72, .class_ 802), (0, u "java/lang/System$Logger$Level")] 31

def k15m0 : Method := { name := "<init>", desc := "()V", sig := { parameters := [], returnType := none }, accessFlags := 2, code := none }
def k15m1 : Method := { name := "arraycopy", desc := "(Ljava/lang/Object;ILjava/lang/Object;II)V", sig := { parameters := [(.object "java/lang/Object"), .int, (.object "java/lang/Object"), .int, .int], returnType := none }, accessFlags := 265, code := none }
/-- java/lang/System -/
def k15 : Class := { plain "java/lang/System" (some 0) with
  accessFlags := 49
  interfaces := #[]
  cf := some (fileOf pool15 8 #[.nestMembers #[319, 327, 801, 108, 663, 208]] #[{ accessFlags := 2, nameIndex := 5, descriptorIndex := 6, attributes := #[] }, { accessFlags := 265, nameIndex := 727, descriptorIndex := 728, attributes := #[] }] 49 2 #[] #[{ accessFlags := 25, nameIndex := 507, descriptorIndex := 526, attributes := #[] }, { accessFlags := 25, nameIndex := 399, descriptorIndex := 155, attributes := #[] }, { accessFlags := 25, nameIndex := 396, descriptorIndex := 155, attributes := #[] }, { accessFlags := 10, nameIndex := 525, descriptorIndex := 526, attributes := #[] }, { accessFlags := 26, nameIndex := 674, descriptorIndex := 12, attributes := #[] }, { accessFlags := 26, nameIndex := 677, descriptorIndex := 12, attributes := #[] }, { accessFlags := 10, nameIndex := 11, descriptorIndex := 12, attributes := #[] }, { accessFlags := 74, nameIndex := 175, descriptorIndex := 176, attributes := #[] }, { accessFlags := 10, nameIndex := 491, descriptorIndex := 222, attributes := #[] }, { accessFlags := 74, nameIndex := 29, descriptorIndex := 30, attributes := #[] }, { accessFlags := 74, nameIndex := 154, descriptorIndex := 155, attributes := #[] }, { accessFlags := 10, nameIndex := 217, descriptorIndex := 218, attributes := #[] }, { accessFlags := 10, nameIndex := 221, descriptorIndex := 222, attributes := #[] }, { accessFlags := 8, nameIndex := 562, descriptorIndex := 563, attributes := #[] }])
  fields := #[{ name := "in", type := (.object "java/io/InputStream"), accessFlags := 25, slot := 0, constantValue := 0 }, { name := "out", type := (.object "java/io/PrintStream"), accessFlags := 25, slot := 1, constantValue := 0 }, { name := "err", type := (.object "java/io/PrintStream"), accessFlags := 25, slot := 2, constantValue := 0 }, { name := "initialIn", type := (.object "java/io/InputStream"), accessFlags := 10, slot := 3, constantValue := 0 }, { name := "NEVER", type := .int, accessFlags := 26, slot := 4, constantValue := 0 }, { name := "MAYBE", type := .int, accessFlags := 26, slot := 5, constantValue := 0 }, { name := "allowSecurityManager", type := .int, accessFlags := 10, slot := 6, constantValue := 0 }, { name := "security", type := (.object "java/lang/SecurityManager"), accessFlags := 74, slot := 7, constantValue := 0 }, { name := "notSupportedJnuEncoding", type := (.object "java/lang/String"), accessFlags := 10, slot := 8, constantValue := 0 }, { name := "cons", type := (.object "java/io/Console"), accessFlags := 74, slot := 9, constantValue := 0 }, { name := "initialErrStream", type := (.object "java/io/PrintStream"), accessFlags := 74, slot := 10, constantValue := 0 }, { name := "props", type := (.object "java/util/Properties"), accessFlags := 10, slot := 11, constantValue := 0 }, { name := "lineSeparator", type := (.object "java/lang/String"), accessFlags := 10, slot := 12, constantValue := 0 }, { name := "bootLayer", type := (.object "java/lang/ModuleLayer"), accessFlags := 8, slot := 13, constantValue := 0 }]
  methods := #[k15m0, k15m1]
  instanceTypes := #[]
  staticTypes := #[(.object "java/io/InputStream"), (.object "java/io/PrintStream"), (.object "java/io/PrintStream"), (.object "java/io/InputStream"), .int, .int, .int, (.object "java/lang/SecurityManager"), (.object "java/lang/String"), (.object "java/io/Console"), (.object "java/io/PrintStream"), (.object "java/util/Properties"), (.object "java/lang/String"), (.object "java/lang/ModuleLayer")]
  resolved := Array.replicate 834 none
  statics := none }

def pool16 : Array CpInfo := pool [(9, u "<init>"), (6, .class_ 18), (1, u "java/lang/Object"), (0, u "()V"), (1, .class_ 23), (1, u "jdk/internal/util/ArraysSupport"), (0, u "LOG2_ARRAY_LONG_INDEX_SCALE"), (0, u "I"), (2, u "U"), (0, u "Ljdk/internal/misc/Unsafe;"), (8, u "BIG_ENDIAN"), (0, u "Z"), (8, u "LOG2_BYTE_BIT_SIZE"), (4, u "LOG2_ARRAY_INT_INDEX_SCALE"), (54, u "JLA"), (0, u "Ljdk/internal/access/JavaLangAccess;"), (11, u "LOG2_ARRAY_BOOLEAN_INDEX_SCALE"), (9, u "LOG2_ARRAY_BYTE_INDEX_SCALE"), (5, u "LOG2_ARRAY_CHAR_INDEX_SCALE"), (5, u "LOG2_ARRAY_SHORT_INDEX_SCALE"), (18, u "LOG2_ARRAY_FLOAT_INDEX_SCALE"), (24, u "LOG2_ARRAY_DOUBLE_INDEX_SCALE"), (89, u "T_BOOLEAN"), (2, u "T_CHAR"), (1, u "T_FLOAT"), (1, u "T_DOUBLE"), (1, u "T_BYTE"), (1, u "T_SHORT"), (1, u "T_INT"), (1, u "T_LONG"), (1, u "SOFT_MAX_ARRAY_LENGTH")] 83

def k16m0 : Method := { name := "<init>", desc := "()V", sig := { parameters := [], returnType := none }, accessFlags := 2, code := none }
/-- jdk/internal/util/ArraysSupport -/
def k16 : Class := { plain "jdk/internal/util/ArraysSupport" (some 0) with
  accessFlags := 33
  interfaces := #[]
  cf := some (fileOf pool16 21 #[] #[{ accessFlags := 2, nameIndex := 9, descriptorIndex := 19, attributes := #[] }] 33 16 #[] #[{ accessFlags := 24, nameIndex := 28, descriptorIndex := 29, attributes := #[] }, { accessFlags := 26, nameIndex := 38, descriptorIndex := 39, attributes := #[] }, { accessFlags := 25, nameIndex := 121, descriptorIndex := 25, attributes := #[] }, { accessFlags := 25, nameIndex := 131, descriptorIndex := 25, attributes := #[] }, { accessFlags := 25, nameIndex := 137, descriptorIndex := 25, attributes := #[] }, { accessFlags := 25, nameIndex := 143, descriptorIndex := 25, attributes := #[] }, { accessFlags := 25, nameIndex := 53, descriptorIndex := 25, attributes := #[] }, { accessFlags := 25, nameIndex := 24, descriptorIndex := 25, attributes := #[] }, { accessFlags := 25, nameIndex := 162, descriptorIndex := 25, attributes := #[] }, { accessFlags := 25, nameIndex := 187, descriptorIndex := 25, attributes := #[] }, { accessFlags := 26, nameIndex := 48, descriptorIndex := 25, attributes := #[] }, { accessFlags := 25, nameIndex := 277, descriptorIndex := 25, attributes := #[] }, { accessFlags := 25, nameIndex := 280, descriptorIndex := 25, attributes := #[] }, { accessFlags := 25, nameIndex := 282, descriptorIndex := 25, attributes := #[] }, { accessFlags := 25, nameIndex := 284, descriptorIndex := 25, attributes := #[] }, { accessFlags := 25, nameIndex := 286, descriptorIndex := 25, attributes := #[] }, { accessFlags := 25, nameIndex := 288, descriptorIndex := 25, attributes := #[] }, { accessFlags := 25, nameIndex := 290, descriptorIndex := 25, attributes := #[] }, { accessFlags := 25, nameIndex := 292, descriptorIndex := 25, attributes := #[] }, { accessFlags := 26, nameIndex := 108, descriptorIndex := 109, attributes := #[] }, { accessFlags := 25, nameIndex := 294, descriptorIndex := 25, attributes := #[] }])
  fields := #[{ name := "U", type := (.object "jdk/internal/misc/Unsafe"), accessFlags := 24, slot := 0, constantValue := 0 }, { name := "BIG_ENDIAN", type := .boolean, accessFlags := 26, slot := 1, constantValue := 0 }, { name := "LOG2_ARRAY_BOOLEAN_INDEX_SCALE", type := .int, accessFlags := 25, slot := 2, constantValue := 0 }, { name := "LOG2_ARRAY_BYTE_INDEX_SCALE", type := .int, accessFlags := 25, slot := 3, constantValue := 0 }, { name := "LOG2_ARRAY_CHAR_INDEX_SCALE", type := .int, accessFlags := 25, slot := 4, constantValue := 0 }, { name := "LOG2_ARRAY_SHORT_INDEX_SCALE", type := .int, accessFlags := 25, slot := 5, constantValue := 0 }, { name := "LOG2_ARRAY_INT_INDEX_SCALE", type := .int, accessFlags := 25, slot := 6, constantValue := 0 }, { name := "LOG2_ARRAY_LONG_INDEX_SCALE", type := .int, accessFlags := 25, slot := 7, constantValue := 0 }, { name := "LOG2_ARRAY_FLOAT_INDEX_SCALE", type := .int, accessFlags := 25, slot := 8, constantValue := 0 }, { name := "LOG2_ARRAY_DOUBLE_INDEX_SCALE", type := .int, accessFlags := 25, slot := 9, constantValue := 0 }, { name := "LOG2_BYTE_BIT_SIZE", type := .int, accessFlags := 26, slot := 10, constantValue := 0 }, { name := "T_BOOLEAN", type := .int, accessFlags := 25, slot := 11, constantValue := 0 }, { name := "T_CHAR", type := .int, accessFlags := 25, slot := 12, constantValue := 0 }, { name := "T_FLOAT", type := .int, accessFlags := 25, slot := 13, constantValue := 0 }, { name := "T_DOUBLE", type := .int, accessFlags := 25, slot := 14, constantValue := 0 }, { name := "T_BYTE", type := .int, accessFlags := 25, slot := 15, constantValue := 0 }, { name := "T_SHORT", type := .int, accessFlags := 25, slot := 16, constantValue := 0 }, { name := "T_INT", type := .int, accessFlags := 25, slot := 17, constantValue := 0 }, { name := "T_LONG", type := .int, accessFlags := 25, slot := 18, constantValue := 0 }, { name := "JLA", type := (.object "jdk/internal/access/JavaLangAccess"), accessFlags := 26, slot := 19, constantValue := 0 }, { name := "SOFT_MAX_ARRAY_LENGTH", type := .int, accessFlags := 25, slot := 20, constantValue := 0 }]
  methods := #[k16m0]
  instanceTypes := #[]
  staticTypes := #[(.object "jdk/internal/misc/Unsafe"), .boolean, .int, .int, .int, .int, .int, .int, .int, .int, .int, .int, .int, .int, .int, .int, .int, .int, .int, (.object "jdk/internal/access/JavaLangAccess"), .int]
  resolved := Array.replicate 378 none
  statics := none }

def pool17 : Array CpInfo := pool [(1, u "java/lang/Cloneable"), (0, .class_ 1), (0, u "java/lang/Object"), (0, .class_ 3)] 3

/-- java/lang/Cloneable -/
def k17 : Class := { plain "java/lang/Cloneable" (some 0) with
  accessFlags := 1537
  interfaces := #[]
  cf := some (fileOf pool17 2 #[] #[] 1537 4 #[] #[])
  fields := #[]
  methods := #[]
  instanceTypes := #[]
  staticTypes := #[]
  resolved := Array.replicate 8 none
  statics := none }

/-- the primitive byte -/
def k18 : Class := { plain "byte" none with kind := .primitive 'B', accessFlags := 0x411 }
/-- [B -/
def k19 : Class := { plain "[B" (some 0) with kind := .array 18 .byte, interfaces := #[17, 2], accessFlags := 1041 }

/-- the primitive char -/
def k20 : Class := { plain "char" none with kind := .primitive 'C', accessFlags := 0x411 }
/-- [C -/
def k21 : Class := { plain "[C" (some 0) with kind := .array 20 .char, interfaces := #[17, 2], accessFlags := 1041 }

/-- the primitive int -/
def k22 : Class := { plain "int" none with kind := .primitive 'I', accessFlags := 0x411 }
/-- [I -/
def k23 : Class := { plain "[I" (some 0) with kind := .array 22 .int, interfaces := #[17, 2], accessFlags := 1041 }

def heap : Heap := #[{ cls := 7, slots := #[.long 0, .int 1, .null, .int 0, .null, .int 0, .int 0], vm := .statics 7 },
  { cls := 10, slots := #[.null, .null, .null], vm := .statics 10 }]
def classes : Array Class := #[k0, k1, k2, k3, k4, k5, k6, k7, k8, k9, k10, k11, k12, k13, k14, k15, k16, k17, k18, k19, k20, k21, k22, k23]
def interned : List (Array UInt16 × Addr) := []
def slotsUsed : Nat := 10
def theMethod : MethodId := ⟨1, 3⟩
def args0 : Array Value := #[.int 4, .int 33, .int 44, .int 5, .int 7]
def aboutOver (below : List Frame) : State where
  vm := { classes := classes, interned := interned.toArray }
  heap := heap
  slotsUsed := slotsUsed
  threads := #[{ frames := .invoking theMethod args0 :: below }]
def below0 : List Frame := [.native { method := ⟨0, 0⟩, args := #[] }]
def about1 : State := aboutOver below0
def p0 : Program := .bare "" "" ""
def e0 : Env := launch0.env 0 0 0
theorem w_frames : about1.frames = Frame.invoking theMethod args0 :: below0 := rfl
set_option maxRecDepth 65536 in
theorem w_args : argsFit about1.vm theMethod args0 = true := by decide +kernel
set_option maxRecDepth 65536 in
theorem w_heap : heapFits about1 = true := by decide +kernel
set_option maxRecDepth 65536 in
theorem w_runnable : about1.curStatus? = some .runnable := by decide +kernel
set_option maxRecDepth 65536 in
theorem w_alone : about1.alone = true := by decide +kernel
set_option maxRecDepth 65536 in
theorem w_named : about1.methodNamed? x = some theMethod := by decide +kernel
set_option maxRecDepth 65536 in
theorem w_hears : about1.hears theMethod below0 = true := by decide +kernel
set_option maxRecDepth 65536 in
theorem w_ripe : about1.ripe theMethod args0 below0 = true := by decide +kernel
theorem w_running : about1.status = .running := rfl
set_option maxRecDepth 65536 in
theorem w_room : about1.hasRoom e0.platform room_1 = true :=
  launch0.hasRoom_least _ room_1 (by decide +kernel) (by decide +kernel) (by decide +kernel) (by decide +kernel) (by decide +kernel) (by decide +kernel)
theorem allAtoms_all (ts : List Jvm.Cond) (a : Array Jvm.Value) (st : Jvm.State) : (allAtoms ts).before a st = ts.all (fun c => c.before a st) := by
  induction ts with
  | nil => rfl
  | cons c t ih =>
    show (Jvm.Cond.and c (allAtoms t)).before a st = _
    rw [Jvm.Cond.before_and, ih, List.all_cons]
def words1 : List Jvm.Cond := Jvm.Cond.code x code maxLocals ret :: tables_1
/-- a 'code' word, met by the world's own term for the bytes: nothing is compared byte by byte -/
theorem code_word {y : MethodName} {bytes : ByteArray} {mx : Nat} {rt : Option FieldType} {a : Array Value} {s : State} {m : MethodId} {meth : Method} {c : Code} (h1 : s.methodNamed? y = some m) (h2 : s.vm.method? m = some meth) (h3 : meth.code = some c) (h4 : c.code = bytes)
    (h5 : (c.maxLocals == mx && c.exceptionTable.isEmpty && decide (c.maxStack ≤ mostOperands) && decide (meth.sig.returnType = rt) && !meth.locks && decide (parseMethodDescriptor y.desc = some meth.sig)) = true) : (Jvm.Cond.code y bytes mx rt).before a s = true := by
  simp only [Bool.and_eq_true, beq_iff_eq, Bool.not_eq_true', decide_eq_true_eq] at h5
  obtain ⟨⟨⟨⟨⟨g1, g2⟩, g3⟩, g4⟩, g5⟩, g6⟩ := h5
  simp [Cond.before, Cond.holds, Cond.value, h1, h2, h3, h4, g1, g2, g3, g4, g5, g6]
def isCode : Jvm.Cond → Bool
  | .code _ _ _ _ => true
  | _ => false
theorem all_split {L : List Jvm.Cond} {P : Jvm.Cond → Bool} (h1 : L.all (fun c => isCode c || P c) = true) (h2 : ∀ c ∈ L.filter isCode, P c = true) : L.all P = true := by
  refine List.all_eq_true.mpr fun c hc => ?_
  have h := List.all_eq_true.mp h1 c hc
  rcases Bool.eq_false_or_eq_true (isCode c) with hi | hi
  · exact h2 c (List.mem_filter.mpr ⟨hc, hi⟩)
  · simpa [hi] using h
set_option maxRecDepth 65536 in
theorem w_c0 : (Jvm.Cond.code x code maxLocals ret).before args0 about1 = true := code_word (m := ⟨1, 3⟩) (meth := k1m3) (c := k1c3) (by decide +kernel) rfl rfl rfl (by decide +kernel)
set_option maxRecDepth 65536 in
theorem w_c1 : (Jvm.Cond.code ({ cls := "com/example/antiphon/antiphon/model/XmlInputTrimmedPinLaw", name := "ch", desc := "(I)C" } : Jvm.MethodName) method_2_code (2 : Nat) (Option.some Jvm.ClassFile.FieldType.char)).before args0 about1 = true := code_word (m := ⟨1, 1⟩) (meth := k1m1) (c := k1c1) (by decide +kernel) rfl rfl rfl (by decide +kernel)
set_option maxRecDepth 65536 in
theorem w_c2 : (Jvm.Cond.code ({ cls := "java/lang/String", name := "<init>", desc := "([C)V" } : Jvm.MethodName) jdk_42_method_3_code (2 : Nat) (Option.none : Option Jvm.ClassFile.FieldType)).before args0 about1 = true := code_word (m := ⟨7, 1⟩) (meth := k7m1) (c := k7c1) (by decide +kernel) rfl rfl rfl (by decide +kernel)
set_option maxRecDepth 65536 in
theorem w_c3 : (Jvm.Cond.code ({ cls := "java/lang/String", name := "<init>", desc := "([CIILjava/lang/Void;)V" } : Jvm.MethodName) jdk_42_method_149_code (6 : Nat) (Option.none : Option Jvm.ClassFile.FieldType)).before args0 about1 = true := code_word (m := ⟨7, 5⟩) (meth := k7m5) (c := k7c5) (by decide +kernel) rfl rfl rfl (by decide +kernel)
set_option maxRecDepth 65536 in
theorem w_c4 : (Jvm.Cond.code ({ cls := "java/lang/Object", name := "<init>", desc := "()V" } : Jvm.MethodName) object_method_1_code (1 : Nat) (Option.none : Option Jvm.ClassFile.FieldType)).before args0 about1 = true := code_word (m := ⟨0, 0⟩) (meth := k0m0) (c := k0c0) (by decide +kernel) rfl rfl rfl (by decide +kernel)
set_option maxRecDepth 65536 in
theorem w_c5 : (Jvm.Cond.code ({ cls := "com/example/antiphon/antiphon/model/XmlInput", name := "trimmed", desc := "(Ljava/lang/String;)Ljava/lang/String;" } : Jvm.MethodName) prog_111_method_24_code (3 : Nat) (Option.some (Jvm.ClassFile.FieldType.object "java/lang/String"))).before args0 about1 = true := code_word (m := ⟨9, 0⟩) (meth := k9m0) (c := k9c0) (by decide +kernel) rfl rfl rfl (by decide +kernel)
set_option maxRecDepth 65536 in
theorem w_c6 : (Jvm.Cond.code ({ cls := "java/lang/String", name := "length", desc := "()I" } : Jvm.MethodName) jdk_42_method_54_code (1 : Nat) (Option.some Jvm.ClassFile.FieldType.int)).before args0 about1 = true := code_word (m := ⟨7, 2⟩) (meth := k7m2) (c := k7c2) (by decide +kernel) rfl rfl rfl (by decide +kernel)
set_option maxRecDepth 65536 in
theorem w_c7 : (Jvm.Cond.code ({ cls := "java/lang/String", name := "coder", desc := "()B" } : Jvm.MethodName) jdk_42_method_152_code (1 : Nat) (Option.some Jvm.ClassFile.FieldType.byte)).before args0 about1 = true := code_word (m := ⟨7, 7⟩) (meth := k7m7) (c := k7c7) (by decide +kernel) rfl rfl rfl (by decide +kernel)
set_option maxRecDepth 65536 in
theorem w_c8 : (Jvm.Cond.code ({ cls := "java/lang/String", name := "substring", desc := "(II)Ljava/lang/String;" } : Jvm.MethodName) jdk_42_method_92_code (5 : Nat) (Option.some (Jvm.ClassFile.FieldType.object "java/lang/String"))).before args0 about1 = true := code_word (m := ⟨7, 4⟩) (meth := k7m4) (c := k7c4) (by decide +kernel) rfl rfl rfl (by decide +kernel)
set_option maxRecDepth 65536 in
theorem w_c9 : (Jvm.Cond.code ({ cls := "java/lang/String", name := "checkBoundsBeginEnd", desc := "(III)V" } : Jvm.MethodName) jdk_42_method_158_code (3 : Nat) (Option.none : Option Jvm.ClassFile.FieldType)).before args0 about1 = true := code_word (m := ⟨7, 10⟩) (meth := k7m10) (c := k7c10) (by decide +kernel) rfl rfl rfl (by decide +kernel)
set_option maxRecDepth 65536 in
theorem w_c10 : (Jvm.Cond.code ({ cls := "jdk/internal/util/Preconditions", name := "checkFromToIndex", desc := "(IIILjava/util/function/BiFunction;)I" } : Jvm.MethodName) jdk_41_method_12_code (4 : Nat) (Option.some Jvm.ClassFile.FieldType.int)).before args0 about1 = true := code_word (m := ⟨10, 2⟩) (meth := k10m2) (c := k10c2) (by decide +kernel) rfl rfl rfl (by decide +kernel)
set_option maxRecDepth 65536 in
theorem w_c11 : (Jvm.Cond.code ({ cls := "java/lang/StringUTF16", name := "compress", desc := "([CII)[B" } : Jvm.MethodName) jdk_52_method_16_code (6 : Nat) (Option.some (Jvm.ClassFile.FieldType.array Jvm.ClassFile.FieldType.byte))).before args0 about1 = true := code_word (m := ⟨11, 2⟩) (meth := k11m2) (c := k11c2) (by decide +kernel) rfl rfl rfl (by decide +kernel)
set_option maxRecDepth 65536 in
theorem w_c12 : (Jvm.Cond.code ({ cls := "java/lang/StringUTF16", name := "compress", desc := "([CI[BII)I" } : Jvm.MethodName) jdk_52_method_21_code (7 : Nat) (Option.some Jvm.ClassFile.FieldType.int)).before args0 about1 = true := code_word (m := ⟨11, 3⟩) (meth := k11m3) (c := k11c3) (by decide +kernel) rfl rfl rfl (by decide +kernel)
set_option maxRecDepth 65536 in
theorem w_c13 : (Jvm.Cond.code ({ cls := "java/lang/StringUTF16", name := "coderFromArrayLen", desc := "([BI)B" } : Jvm.MethodName) jdk_52_method_15_code (2 : Nat) (Option.some Jvm.ClassFile.FieldType.byte)).before args0 about1 = true := code_word (m := ⟨11, 1⟩) (meth := k11m1) (c := k11c1) (by decide +kernel) rfl rfl rfl (by decide +kernel)
set_option maxRecDepth 65536 in
theorem w_c14 : (Jvm.Cond.code ({ cls := "com/example/antiphon/antiphon/model/XmlInputTrimmedPinLaw", name := "ws", desc := "(C)Z" } : Jvm.MethodName) method_3_code (1 : Nat) (Option.some Jvm.ClassFile.FieldType.boolean)).before args0 about1 = true := code_word (m := ⟨1, 2⟩) (meth := k1m2) (c := k1c2) (by decide +kernel) rfl rfl rfl (by decide +kernel)
set_option maxRecDepth 65536 in
theorem w_c15 : (Jvm.Cond.code ({ cls := "java/lang/String", name := "charAt", desc := "(I)C" } : Jvm.MethodName) jdk_42_method_56_code (2 : Nat) (Option.some Jvm.ClassFile.FieldType.char)).before args0 about1 = true := code_word (m := ⟨7, 3⟩) (meth := k7m3) (c := k7c3) (by decide +kernel) rfl rfl rfl (by decide +kernel)
set_option maxRecDepth 65536 in
theorem w_c16 : (Jvm.Cond.code ({ cls := "java/lang/String", name := "isLatin1", desc := "()Z" } : Jvm.MethodName) jdk_42_method_154_code (1 : Nat) (Option.some Jvm.ClassFile.FieldType.boolean)).before args0 about1 = true := code_word (m := ⟨7, 8⟩) (meth := k7m8) (c := k7c8) (by decide +kernel) rfl rfl rfl (by decide +kernel)
set_option maxRecDepth 65536 in
theorem w_c17 : (Jvm.Cond.code ({ cls := "java/lang/StringLatin1", name := "charAt", desc := "([BI)C" } : Jvm.MethodName) jdk_43_method_2_code (2 : Nat) (Option.some Jvm.ClassFile.FieldType.char)).before args0 about1 = true := code_word (m := ⟨12, 1⟩) (meth := k12m1) (c := k12c1) (by decide +kernel) rfl rfl rfl (by decide +kernel)
set_option maxRecDepth 65536 in
theorem w_c18 : (Jvm.Cond.code ({ cls := "java/lang/String", name := "checkIndex", desc := "(II)V" } : Jvm.MethodName) jdk_42_method_155_code (2 : Nat) (Option.none : Option Jvm.ClassFile.FieldType)).before args0 about1 = true := code_word (m := ⟨7, 9⟩) (meth := k7m9) (c := k7c9) (by decide +kernel) rfl rfl rfl (by decide +kernel)
set_option maxRecDepth 65536 in
theorem w_c19 : (Jvm.Cond.code ({ cls := "jdk/internal/util/Preconditions", name := "checkIndex", desc := "(IILjava/util/function/BiFunction;)I" } : Jvm.MethodName) jdk_41_method_11_code (3 : Nat) (Option.some Jvm.ClassFile.FieldType.int)).before args0 about1 = true := code_word (m := ⟨10, 1⟩) (meth := k10m1) (c := k10c1) (by decide +kernel) rfl rfl rfl (by decide +kernel)
set_option maxRecDepth 65536 in
theorem w_c20 : (Jvm.Cond.code ({ cls := "com/example/antiphon/antiphon/model/XmlInput", name := "isXmlSpace", desc := "(C)Z" } : Jvm.MethodName) prog_111_method_25_code (1 : Nat) (Option.some Jvm.ClassFile.FieldType.boolean)).before args0 about1 = true := code_word (m := ⟨9, 1⟩) (meth := k9m1) (c := k9c1) (by decide +kernel) rfl rfl rfl (by decide +kernel)
set_option maxRecDepth 65536 in
theorem w_c21 : (Jvm.Cond.code ({ cls := "java/lang/StringLatin1", name := "newString", desc := "([BII)Ljava/lang/String;" } : Jvm.MethodName) jdk_43_method_47_code (3 : Nat) (Option.some (Jvm.ClassFile.FieldType.object "java/lang/String"))).before args0 about1 = true := code_word (m := ⟨12, 2⟩) (meth := k12m2) (c := k12c2) (by decide +kernel) rfl rfl rfl (by decide +kernel)
set_option maxRecDepth 65536 in
theorem w_c22 : (Jvm.Cond.code ({ cls := "java/util/Arrays", name := "copyOfRange", desc := "([BII)[B" } : Jvm.MethodName) jdk_65_method_132_code (3 : Nat) (Option.some (Jvm.ClassFile.FieldType.array Jvm.ClassFile.FieldType.byte))).before args0 about1 = true := code_word (m := ⟨13, 2⟩) (meth := k13m2) (c := k13c2) (by decide +kernel) rfl rfl rfl (by decide +kernel)
set_option maxRecDepth 65536 in
theorem w_c23 : (Jvm.Cond.code ({ cls := "java/util/Arrays", name := "copyOfRangeByte", desc := "([BII)[B" } : Jvm.MethodName) jdk_65_method_133_code (5 : Nat) (Option.some (Jvm.ClassFile.FieldType.array Jvm.ClassFile.FieldType.byte))).before args0 about1 = true := code_word (m := ⟨13, 3⟩) (meth := k13m3) (c := k13c3) (by decide +kernel) rfl rfl rfl (by decide +kernel)
set_option maxRecDepth 65536 in
theorem w_c24 : (Jvm.Cond.code ({ cls := "java/util/Arrays", name := "checkLength", desc := "(II)V" } : Jvm.MethodName) jdk_65_method_131_code (2 : Nat) (Option.none : Option Jvm.ClassFile.FieldType)).before args0 about1 = true := code_word (m := ⟨13, 1⟩) (meth := k13m1) (c := k13c1) (by decide +kernel) rfl rfl rfl (by decide +kernel)
set_option maxRecDepth 65536 in
theorem w_c25 : (Jvm.Cond.code ({ cls := "java/lang/Math", name := "min", desc := "(II)I" } : Jvm.MethodName) jdk_29_method_69_code (2 : Nat) (Option.some Jvm.ClassFile.FieldType.int)).before args0 about1 = true := code_word (m := ⟨14, 1⟩) (meth := k14m1) (c := k14c1) (by decide +kernel) rfl rfl rfl (by decide +kernel)
set_option maxRecDepth 65536 in
theorem w_c26 : (Jvm.Cond.code ({ cls := "java/lang/String", name := "<init>", desc := "([BB)V" } : Jvm.MethodName) jdk_42_method_151_code (3 : Nat) (Option.none : Option Jvm.ClassFile.FieldType)).before args0 about1 = true := code_word (m := ⟨7, 6⟩) (meth := k7m6) (c := k7c6) (by decide +kernel) rfl rfl rfl (by decide +kernel)
def codes1 : List Jvm.Cond := [Jvm.Cond.code x code maxLocals ret, Jvm.Cond.code ({ cls := "com/example/antiphon/antiphon/model/XmlInputTrimmedPinLaw", name := "ch", desc := "(I)C" } : Jvm.MethodName) method_2_code (2 : Nat) (Option.some Jvm.ClassFile.FieldType.char), Jvm.Cond.code ({ cls := "java/lang/String", name := "<init>", desc := "([C)V" } : Jvm.MethodName) jdk_42_method_3_code (2 : Nat) (Option.none : Option Jvm.ClassFile.FieldType), Jvm.Cond.code ({ cls := "java/lang/String", name := "<init>", desc := "([CIILjava/lang/Void;)V" } : Jvm.MethodName) jdk_42_method_149_code (6 : Nat) (Option.none : Option Jvm.ClassFile.FieldType), Jvm.Cond.code ({ cls := "java/lang/Object", name := "<init>", desc := "()V" } : Jvm.MethodName) object_method_1_code (1 : Nat) (Option.none : Option Jvm.ClassFile.FieldType), Jvm.Cond.code ({ cls := "com/example/antiphon/antiphon/model/XmlInput", name := "trimmed", desc := "(Ljava/lang/String;)Ljava/lang/String;" } : Jvm.MethodName) prog_111_method_24_code (3 : Nat) (Option.some (Jvm.ClassFile.FieldType.object "java/lang/String")), Jvm.Cond.code ({ cls := "java/lang/String", name := "length", desc := "()I" } : Jvm.MethodName) jdk_42_method_54_code (1 : Nat) (Option.some Jvm.ClassFile.FieldType.int), Jvm.Cond.code ({ cls := "java/lang/String", name := "coder", desc := "()B" } : Jvm.MethodName) jdk_42_method_152_code (1 : Nat) (Option.some Jvm.ClassFile.FieldType.byte), Jvm.Cond.code ({ cls := "java/lang/String", name := "substring", desc := "(II)Ljava/lang/String;" } : Jvm.MethodName) jdk_42_method_92_code (5 : Nat) (Option.some (Jvm.ClassFile.FieldType.object "java/lang/String")), Jvm.Cond.code ({ cls := "java/lang/String", name := "checkBoundsBeginEnd", desc := "(III)V" } : Jvm.MethodName) jdk_42_method_158_code (3 : Nat) (Option.none : Option Jvm.ClassFile.FieldType), Jvm.Cond.code ({ cls := "jdk/internal/util/Preconditions", name := "checkFromToIndex", desc := "(IIILjava/util/function/BiFunction;)I" } : Jvm.MethodName) jdk_41_method_12_code (4 : Nat) (Option.some Jvm.ClassFile.FieldType.int), Jvm.Cond.code ({ cls := "java/lang/StringUTF16", name := "compress", desc := "([CII)[B" } : Jvm.MethodName) jdk_52_method_16_code (6 : Nat) (Option.some (Jvm.ClassFile.FieldType.array Jvm.ClassFile.FieldType.byte)), Jvm.Cond.code ({ cls := "java/lang/StringUTF16", name := "compress", desc := "([CI[BII)I" } : Jvm.MethodName) jdk_52_method_21_code (7 : Nat) (Option.some Jvm.ClassFile.FieldType.int), Jvm.Cond.code ({ cls := "java/lang/StringUTF16", name := "coderFromArrayLen", desc := "([BI)B" } : Jvm.MethodName) jdk_52_method_15_code (2 : Nat) (Option.some Jvm.ClassFile.FieldType.byte), Jvm.Cond.code ({ cls := "com/example/antiphon/antiphon/model/XmlInputTrimmedPinLaw", name := "ws", desc := "(C)Z" } : Jvm.MethodName) method_3_code (1 : Nat) (Option.some Jvm.ClassFile.FieldType.boolean), Jvm.Cond.code ({ cls := "java/lang/String", name := "charAt", desc := "(I)C" } : Jvm.MethodName) jdk_42_method_56_code (2 : Nat) (Option.some Jvm.ClassFile.FieldType.char), Jvm.Cond.code ({ cls := "java/lang/String", name := "isLatin1", desc := "()Z" } : Jvm.MethodName) jdk_42_method_154_code (1 : Nat) (Option.some Jvm.ClassFile.FieldType.boolean), Jvm.Cond.code ({ cls := "java/lang/StringLatin1", name := "charAt", desc := "([BI)C" } : Jvm.MethodName) jdk_43_method_2_code (2 : Nat) (Option.some Jvm.ClassFile.FieldType.char), Jvm.Cond.code ({ cls := "java/lang/String", name := "checkIndex", desc := "(II)V" } : Jvm.MethodName) jdk_42_method_155_code (2 : Nat) (Option.none : Option Jvm.ClassFile.FieldType), Jvm.Cond.code ({ cls := "jdk/internal/util/Preconditions", name := "checkIndex", desc := "(IILjava/util/function/BiFunction;)I" } : Jvm.MethodName) jdk_41_method_11_code (3 : Nat) (Option.some Jvm.ClassFile.FieldType.int), Jvm.Cond.code ({ cls := "com/example/antiphon/antiphon/model/XmlInput", name := "isXmlSpace", desc := "(C)Z" } : Jvm.MethodName) prog_111_method_25_code (1 : Nat) (Option.some Jvm.ClassFile.FieldType.boolean), Jvm.Cond.code ({ cls := "java/lang/StringLatin1", name := "newString", desc := "([BII)Ljava/lang/String;" } : Jvm.MethodName) jdk_43_method_47_code (3 : Nat) (Option.some (Jvm.ClassFile.FieldType.object "java/lang/String")), Jvm.Cond.code ({ cls := "java/util/Arrays", name := "copyOfRange", desc := "([BII)[B" } : Jvm.MethodName) jdk_65_method_132_code (3 : Nat) (Option.some (Jvm.ClassFile.FieldType.array Jvm.ClassFile.FieldType.byte)), Jvm.Cond.code ({ cls := "java/util/Arrays", name := "copyOfRangeByte", desc := "([BII)[B" } : Jvm.MethodName) jdk_65_method_133_code (5 : Nat) (Option.some (Jvm.ClassFile.FieldType.array Jvm.ClassFile.FieldType.byte)), Jvm.Cond.code ({ cls := "java/util/Arrays", name := "checkLength", desc := "(II)V" } : Jvm.MethodName) jdk_65_method_131_code (2 : Nat) (Option.none : Option Jvm.ClassFile.FieldType), Jvm.Cond.code ({ cls := "java/lang/Math", name := "min", desc := "(II)I" } : Jvm.MethodName) jdk_29_method_69_code (2 : Nat) (Option.some Jvm.ClassFile.FieldType.int), Jvm.Cond.code ({ cls := "java/lang/String", name := "<init>", desc := "([BB)V" } : Jvm.MethodName) jdk_42_method_151_code (3 : Nat) (Option.none : Option Jvm.ClassFile.FieldType)]
set_option maxRecDepth 65536 in
theorem codes_eq : words1.filter isCode = codes1 := rfl
theorem w_codes : ∀ c ∈ words1.filter isCode, c.before args0 about1 = true := by
  rw [codes_eq]
  intro c hc
  simp only [codes1, List.mem_cons, List.not_mem_nil, or_false] at hc
  rcases hc with rfl | rfl | rfl | rfl | rfl | rfl | rfl | rfl | rfl | rfl | rfl | rfl | rfl | rfl | rfl | rfl | rfl | rfl | rfl | rfl | rfl | rfl | rfl | rfl | rfl | rfl | rfl
  · exact w_c0
  · exact w_c1
  · exact w_c2
  · exact w_c3
  · exact w_c4
  · exact w_c5
  · exact w_c6
  · exact w_c7
  · exact w_c8
  · exact w_c9
  · exact w_c10
  · exact w_c11
  · exact w_c12
  · exact w_c13
  · exact w_c14
  · exact w_c15
  · exact w_c16
  · exact w_c17
  · exact w_c18
  · exact w_c19
  · exact w_c20
  · exact w_c21
  · exact w_c22
  · exact w_c23
  · exact w_c24
  · exact w_c25
  · exact w_c26
set_option maxRecDepth 65536 in
theorem w_t1 : (words1.take 24).all (fun c => isCode c || c.before args0 about1) = true := by decide +kernel
set_option maxRecDepth 65536 in
theorem w_t2 : ((words1.drop 24).take 24).all (fun c => isCode c || c.before args0 about1) = true := by decide +kernel
set_option maxRecDepth 65536 in
theorem w_t3 : (((words1.drop 24).drop 24).take 24).all (fun c => isCode c || c.before args0 about1) = true := by decide +kernel
set_option maxRecDepth 65536 in
theorem w_t4 : ((((words1.drop 24).drop 24).drop 24).take 24).all (fun c => isCode c || c.before args0 about1) = true := by decide +kernel
set_option maxRecDepth 65536 in
theorem w_t5 : (((((words1.drop 24).drop 24).drop 24).drop 24).take 24).all (fun c => isCode c || c.before args0 about1) = true := by decide +kernel
set_option maxRecDepth 65536 in
theorem w_t6 : (((((words1.drop 24).drop 24).drop 24).drop 24).drop 24).all (fun c => isCode c || c.before args0 about1) = true := by decide +kernel
theorem w_tables : (allAtoms (Jvm.Cond.code x code maxLocals ret :: tables_1)).before args0 about1 = true := by
  rw [allAtoms_all]
  show words1.all (fun c => c.before args0 about1) = true
  refine all_split ?_ w_codes
  rw [← List.take_append_drop 24 words1, List.all_append, w_t1, ← List.take_append_drop 24 (words1.drop 24), List.all_append, w_t2, ← List.take_append_drop 24 ((words1.drop 24).drop 24), List.all_append, w_t3, ← List.take_append_drop 24 (((words1.drop 24).drop 24).drop 24), List.all_append, w_t4, ← List.take_append_drop 24 ((((words1.drop 24).drop 24).drop 24).drop 24), List.all_append, w_t5, w_t6]
  rfl
set_option maxRecDepth 65536 in
theorem w_rest : rest_1_c.before args0 about1 = true := by decide +kernel
set_option maxRecDepth 65536 in
theorem w_case : (Jvm.Cond.and given_1 narrow_1).before args0 about1 = true := by decide +kernel
set_option maxRecDepth 65536 in
theorem w_consts : constsHeld consts_1 about1 := Jvm.Lit.constsHeldB_iff.mp (by decide +kernel)
theorem w_applies : (headSpec (Jvm.Cond.code x code maxLocals ret :: tables_1) room_1).applies x e0.platform about1 = true :=
  (Spec.applies_iff w_frames).mpr ⟨w_running, w_runnable, w_alone, w_named, w_hears, w_ripe, w_room, w_tables⟩
theorem atStart : AtStart classFile x code maxLocals ret World_1 tables_1 room_1 Calls_1 rest_1 Pre_1 launch0 p0 e0 about1 theMethod args0 below0 :=
  ⟨lists_1, trivial, launch0.admits_env _ _ _, launch0.least_env, fairChoices_fair.cas, fairChoices_fair.clock, w_frames, w_args, w_heap, w_applies, ⟨w_consts, trivial⟩, w_rest, w_case⟩
end start1
theorem witness_1 : WitnessClaimed_1 := ⟨start1.p0, start1.e0, start1.about1, start1.theMethod, start1.args0, start1.below0, start1.atStart⟩
end Jvm.Pilot.@@N@@
