import JvmDerived
import JvmDerived.Pilot.@@N@@Statement
import JvmDerived.Pilot.@@N@@Code
set_option linter.unusedVariables false
set_option linter.unusedSimpArgs false
namespace Jvm.OwnWp
open Sem ClassFile Op Lib Jvm.Free Jvm.Stand Jvm.LawKit Jvm.RoadKit
set_option maxHeartbeats 1000000
/-! the walk of a body as a weakest precondition: own text over the library's laws -/
def EnvOk (p : Program) (s : State) (m : MethodId) (meth : Method) (c : Code) (Z : State) (own nam : String) (bytes : ByteArray) (maxL : Nat) (ret : Option FieldType) (n0 : Nat) (h0 : Heap) (ws : List Addr) : Prop :=
  p.tables.exec = Jvm.exec ∧ c.code = bytes ∧ c.maxLocals = maxL ∧ Z.Warmed39 s.vm ∧ s.vm.findClass own = some m.cls ∧ meth.name = nam ∧ meth.sig.returnType = ret ∧ meth.locks = false ∧ s.heap = h0 ∧ Old Z n0 h0 ∧ ∀ a ∈ ws, n0 ≤ a
/-- what may be written: the named objects and what is new -/
def Pmt (h0 : Heap) (ws : List Addr) (L : List Loc) : Prop := ∀ y ∈ L, y.base ∈ ws ∨ h0.size ≤ y.base
theorem Pmt.nil (h0 : Heap) (ws : List Addr) : Pmt h0 ws [] := fun _ q => nomatch q
theorem Pmt.app {h0 : Heap} {ws : List Addr} {L L' : List Loc} (N : Pmt h0 ws L) (N' : Pmt h0 ws L') : Pmt h0 ws (L ++ L') := fun y q => (List.mem_append.mp q).elim (N y) (N' y)
theorem Pmt.snoc {h0 : Heap} {ws : List Addr} {L : List Loc} {a : Addr} {sl : Nat} (N : Pmt h0 ws L) (q : a ∈ ws ∨ h0.size ≤ a) : Pmt h0 ws (L ++ [⟨a, sl⟩]) := N.app fun y hy => by cases List.mem_singleton.mp hy; exact q
theorem keep_of {s t : State} {h : Heap} {ws : List Addr} {L : List Loc} {k n : Nat} (q : s.sameButNew t L k n) (N : Pmt s.heap ws L) (e : t.heap = h) : Keep s.heap h ws := by
  subst e
  obtain ⟨-, q1, -, -, -, q2⟩ := q
  refine ⟨q1, fun x c hx hn => ?_, fun x c hx => ?_⟩
  · obtain ⟨c', r1, r2, r3, r4⟩ := q2 x c hx
    have e : c'.slots = c.slots := by
      apply Array.ext_getElem?
      intro i
      refine r4 i fun hm => ?_
      rcases N _ hm with u | u
      · exact hn u
      · exact absurd (Array.getElem?_eq_some_iff.mp hx).1 (Nat.not_lt.mpr u)
    rw [r1, r2, e]
  · obtain ⟨c', r1, r2, r3, r4⟩ := q2 x c hx
    exact ⟨c', r1, by rw [r2], by rw [r2], r3⟩
/-- the tables over which the walk stands: the start's own, or (wide) tables that have grown since by interned constants, of which I is known -/
def Base (wd : Bool) (I : Vm → Prop) (Z s : State) (vm0 : Vm) (h : Heap) : Prop :=
  match wd with
  | false => vm0 = s.vm
  | true => s.Since vm0 h.size ∧ Z.Warmed39 vm0 ∧ I vm0
def EndF (wd : Bool) (s : State) (o : Outcome) (t : State) (L : List Loc) (k n : Nat) : Prop :=
  match wd with
  | false => FrameEnd s o t L k n
  | true => ReturnedEndW s o t L k n
/-- what is known of the tables at the end -/
def EndI (wd : Bool) (J : Vm → Prop) (t : State) : Prop := wd = true → J t.vm
theorem EndF.same {wd : Bool} {s : State} {o : Outcome} {t : State} {L : List Loc} {k n : Nat} (h : EndF wd s o t L k n) : s.sameButNew { t with vm := s.vm } L k n := by
  cases wd
  · exact h.2.2
  · exact h.2.2.2
def Wp (wd : Bool) (p : Program) (l : Launch) (e : Env) (R : Room) (s : State) (m : MethodId) (args : Array Value) (below : List Frame) (meth : Method) (c : Code) (Z : State) (own nam : String) (bytes : ByteArray) (maxL : Nat) (ret : Option FieldType) (n0 : Nat) (h0 : Heap) (ws : List Addr) (Q : Option Value → Heap → Vm → Prop) (I : Vm → Prop) (h : Heap) (k n pc : Nat) (Ls : List Slot) (st : List Value) : Prop :=
  EnvOk p s m meth c Z own nam bytes maxL ret n0 h0 ws → ∀ (T : State) (L : List Loc) (vm0 : Vm), Base wd I Z s vm0 h → Stand p l e R (s.setVm vm0) m args below meth c T L k n → Pmt h0 ws L → T.heap = h →
    ∃ s₂ o, Steps p.tables e below (T.setTop (mkF m pc Ls.toArray st)) s₂ ∧ s₂.status = .running ∧ Ended s₂ below o ∧ ∃ v L', o = .returned v ∧ (Q v s₂.heap s₂.vm ∧ Pmt h0 ws L') ∧ EndF wd s o s₂ L' R.cells R.slots
/-- a method's contract, at one heap and with these arguments -/
def Con (l : Launch) (Z : State) (n0 : Nat) (y : MethodName) (bytes : ByteArray) (maxL : Nat) (ret : Option FieldType) (rm : Room) (as : List Value) (h0 : Heap) (ws : List Addr) (Q : Option Value → Heap → Prop) : Prop :=
  Old Z n0 h0 → (∀ a ∈ ws, n0 ≤ a) → ∀ wds, MetFree l y (head1 (Cond.code y bytes maxL ret :: wds) rm) (fun a U => a = as.toArray ∧ Z.Warmed39 U.vm ∧ U.heap = h0) (fun _ _ _ _ _ => True) (fun _ U o U' => ∃ v L, o = .returned v ∧ (Q v U'.heap ∧ Pmt h0 ws L ∧ Keep h0 U'.heap ws) ∧ FrameEnd U o U' L rm.cells rm.slots)
theorem Con.of {l : Launch} {Z : State} {n0 : Nat} {y : MethodName} {bytes : ByteArray} {maxL : Nat} {ret : Option FieldType} {rm : Room} {as : List Value} {h0 : Heap} {ws : List Addr} {Q : Option Value → Heap → Prop} {Ls : List Slot}
    (hpl : plainFor y = true) (hent : ∀ m, entryFrame m as.toArray maxL = mkF m 0 Ls.toArray [])
    (g : ∀ p e s m below meth c, Wp false p l e rm s m as.toArray below meth c Z y.cls y.name bytes maxL ret n0 h0 ws (fun v h _ => Q v h) (fun _ => True) h0 0 0 0 Ls []) : Con l Z n0 y bytes maxL ret rm as h0 ws Q := by
  intro hO hws wds
  refine MetFree.of_bodySF hpl hisR ?_
  intro p e s m args below meth c s₁ Bd hml0 hP hK
  obtain ⟨rfl, hZ, hh⟩ := hP
  have X0 : Stand p l e rm s m as.toArray below meth c s₁ [] 0 0 := Stand.of_body Bd
  have e0 : s₁.heap = h0 := by rw [← hh, Bd.state]; rfl
  rw [hent]
  obtain ⟨s2, o, r1, r2, r3, v, L, r4, ⟨r5, r6⟩, r7⟩ := g p e s m below meth c ⟨Bd.exec, Bd.bytes, hml0, hZ, findClass_of_methodNamed Bd.named, (name_of_methodNamed Bd.named Bd.method).1, Bd.returns, Bd.notSynchronized, hh, hO, hws⟩ s₁ [] s.vm rfl X0 (Pmt.nil _ _) e0
  exact ⟨s2, o, r1, r2, r3, v, L, r4, ⟨r5, r6, by rw [← hh]; exact keep_of r7.2.2 (by rw [hh]; exact r6) rfl⟩, r7⟩
theorem Con.post {l : Launch} {Z : State} {n0 : Nat} {y : MethodName} {bytes : ByteArray} {maxL : Nat} {ret : Option FieldType} {rm : Room} {as : List Value} {h0 : Heap} {ws : List Addr} {Q Q' : Option Value → Heap → Prop}
    (c : Con l Z n0 y bytes maxL ret rm as h0 ws Q) (f : ∀ v h, Q v h → Q' v h) : Con l Z n0 y bytes maxL ret rm as h0 ws Q' := fun hO hws wds p e ha hc hk s m args below hf happ hP hK => by
  obtain ⟨a1, a2, a3, a4, a5, v, L, a6, ⟨a7, a8⟩, a9⟩ := c hO hws wds p e ha hc hk s m args below hf happ hP hK
  exact ⟨a1, a2, a3, a4, a5, v, L, a6, ⟨f _ _ a7, a8⟩, a9⟩
/-- the contract of a method that may intern constants -/
def ConW (l : Launch) (Z : State) (n0 : Nat) (y : MethodName) (bytes : ByteArray) (maxL : Nat) (ret : Option FieldType) (rm : Room) (as : List Value) (h0 : Heap) (ws : List Addr) (I : Vm → Prop) (Q : Option Value → Heap → Prop) : Prop :=
  Old Z n0 h0 → (∀ a ∈ ws, n0 ≤ a) → ∀ wds, MetFree l y (head1 (Cond.code y bytes maxL ret :: wds) rm) (fun a U => a = as.toArray ∧ Z.Warmed39 U.vm ∧ U.heap = h0 ∧ I U.vm) (fun _ _ _ _ _ => True) (fun _ U o U' => ∃ v L, o = .returned v ∧ (Q v U'.heap ∧ Pmt h0 ws L ∧ Keep h0 U'.heap ws) ∧ ReturnedEndW U o U' L rm.cells rm.slots)
theorem ConW.of {l : Launch} {Z : State} {n0 : Nat} {y : MethodName} {bytes : ByteArray} {maxL : Nat} {ret : Option FieldType} {rm : Room} {as : List Value} {h0 : Heap} {ws : List Addr} {I : Vm → Prop} {Q : Option Value → Heap → Prop} {Ls : List Slot}
    (hpl : plainFor y = true) (hent : ∀ m, entryFrame m as.toArray maxL = mkF m 0 Ls.toArray [])
    (g : ∀ p e s m below meth c, Wp true p l e rm s m as.toArray below meth c Z y.cls y.name bytes maxL ret n0 h0 ws (fun v h _ => Q v h) I h0 0 0 0 Ls []) : ConW l Z n0 y bytes maxL ret rm as h0 ws I Q := by
  intro hO hws wds
  refine MetFree.of_bodySF hpl hisR ?_
  intro p e s m args below meth c s₁ Bd hml0 hP hK
  obtain ⟨rfl, hZ, hh, hI⟩ := hP
  have X0 : Stand p l e rm s m as.toArray below meth c s₁ [] 0 0 := Stand.of_body Bd
  have e0 : s₁.heap = h0 := by rw [← hh, Bd.state]; rfl
  rw [hent]
  obtain ⟨s2, o, r1, r2, r3, v, L, r4, ⟨r5, r6⟩, r7⟩ := g p e s m below meth c ⟨Bd.exec, Bd.bytes, hml0, hZ, findClass_of_methodNamed Bd.named, (name_of_methodNamed Bd.named Bd.method).1, Bd.returns, Bd.notSynchronized, hh, hO, hws⟩ s₁ [] s.vm ⟨(State.WarmedH.refl s).since _, hZ, hI⟩ X0 (Pmt.nil _ _) e0
  exact ⟨s2, o, r1, r2, r3, v, L, r4, ⟨r5, r6, by rw [← hh]; exact keep_of r7.2.2.2 (by rw [hh]; exact r6) rfl⟩, r7⟩
/-- what a call pushes -/
def psh : Option Value → List Value → List Value
  | none, r => r
  | some v, r => v :: r
theorem psh_eq (v : Option Value) (r : List Value) : v.toList ++ r = psh v r := by cases v <;> rfl
def oneB : Slot → Bool
  | .unset => true
  | .second => false
  | .val v => v.category == 1
def oneAt (Ls : List Slot) (j : Nat) : Bool := (Ls[j]?.map oneB).getD false
theorem oneAt_spec {Ls : List Slot} {j : Nat} (h : oneAt Ls j = true) : ∃ o, Ls.toArray[j]? = some o ∧ (o = .unset ∨ ∃ w, o = .val w ∧ w.category = 1) := by
  unfold oneAt at h
  cases q : Ls[j]? with
  | none => simp [q] at h
  | some o =>
    refine ⟨o, by simpa using q, ?_⟩
    cases o <;> simp [q, oneB] at h ⊢
    exact h
/-- two words, for a long -/
def twoAt (Ls : List Slot) (j : Nat) : Bool := (match Ls[j]? with | some .second => false | some _ => true | none => false) && (match Ls[j + 1]? with | some .second => true | some .unset => true | some (.val w) => w.category == 1 | none => false)
theorem two_store {Ls : List Slot} {j : Nat} {x : Int64} (h : twoAt Ls j = true) : storeLocals Ls.toArray j (.long x) = some ((Ls.set j (.val (.long x))).set (j + 1) .second).toArray := by
  unfold twoAt at h
  cases q : Ls[j]? with
  | none => simp [q] at h
  | some o =>
    cases r : Ls[j + 1]? with
    | none => simp [r] at h
    | some o' =>
      obtain ⟨b1, -⟩ := List.getElem?_eq_some_iff.mp q
      obtain ⟨b2, -⟩ := List.getElem?_eq_some_iff.mp r
      cases o with
      | second => simp [q] at h
      | unset => cases o' <;> simp_all [storeLocals, storeSelf, setAt, Value.category]
      | val w =>
        cases o' <;> by_cases hw : w.category = 2 <;> simp_all [storeLocals, storeSelf, setAt, Value.category]
        all_goals rw [List.set_comm _ _ (show j + 1 ≠ j by omega), List.set_set]
theorem one_store {Ls : List Slot} {j : Nat} {v : Value} (h : oneAt Ls j = true) (hv : v.category = 1) : storeLocals Ls.toArray j v = some (Ls.set j (.val v)).toArray := by
  obtain ⟨o, q1, q2⟩ := oneAt_spec h
  rw [XS.store1 q1 q2 hv]; simp
section Walk
variable {wd : Bool} {I : Vm → Prop} {vm0 : Vm} {p : Program} {l : Launch} {e : Env} {R : Room} {s : State} {m : MethodId} {args : Array Value} {below : List Frame} {meth : Method} {c : Code} {Z : State} {own nam : String} {bytes : ByteArray} {maxL : Nat} {ret : Option FieldType} {n0 : Nat} {h0 : Heap} {ws : List Addr} {Q : Option Value → Heap → Vm → Prop} {h : Heap} {k n pc : Nat} {Ls : List Slot} {st rest : List Value} {a0 : Array Value}
theorem bZ (E : EnvOk p s m meth c Z own nam bytes maxL ret n0 h0 ws) (B : Base wd I Z s vm0 h) : Z.Warmed39 (s.setVm vm0).vm := by
  cases wd
  · cases B; exact E.2.2.2.1
  · exact B.2.1
theorem bO (E : EnvOk p s m meth c Z own nam bytes maxL ret n0 h0 ws) (B : Base wd I Z s vm0 h) : (s.setVm vm0).vm.findClass own = some m.cls := by
  cases wd
  · cases B; exact E.2.2.2.2.1
  · show vm0.findClass own = _
    rw [B.1.1.alike.findClass]; exact E.2.2.2.2.1
theorem bG {h' : Heap} (B : Base wd I Z s vm0 h) (q : h.size ≤ h'.size) : Base wd I Z s vm0 h' := by
  cases wd
  · exact B
  · exact ⟨⟨B.1.1, B.1.2.mono q⟩, B.2⟩
theorem szOf (E : EnvOk p s m meth c Z own nam bytes maxL ret n0 h0 ws) {T : State} {L : List Loc} (X : Stand p l e R (s.setVm vm0) m args below meth c T L k n) (eT : T.heap = h) : h0.size ≤ h.size := by
  have q : s.heap.size ≤ T.heap.size := X.same.2.1
  rw [E.2.2.2.2.2.2.2.2.1] at q
  rw [← eT]; exact q
theorem keepOf (E : EnvOk p s m meth c Z own nam bytes maxL ret n0 h0 ws) {T : State} {L : List Loc} (X : Stand p l e R (s.setVm vm0) m args below meth c T L k n) (N : Pmt h0 ws L) (eT : T.heap = h) : Keep h0 h ws := by
  have q := E.2.2.2.2.2.2.2.2.1
  rw [← q]; exact keep_of (s := s.setVm vm0) X.same (by show Pmt s.heap ws L; rw [q]; exact N) eT
theorem endOf (E : EnvOk p s m meth c Z own nam bytes maxL ret n0 h0 ws) (B : Base wd I Z s vm0 h) {U : State} {L : List Loc} {o : Outcome} (hr : ∃ v, o = .returned v) (hW : (s.setVm vm0).WarmedH U.vm) (hs : (s.setVm vm0).sameButNew ({ U with vm := (s.setVm vm0).vm } : State) L k n) (hU : U.heap = h) (hk : k ≤ R.cells) (hn : n ≤ R.slots) : EndF wd s o U L R.cells R.slots := by
  cases wd
  · cases B; exact ⟨hr, hW, hs.mono hk hn⟩
  · obtain ⟨r1, r2, r3⟩ := B.1.ended hW (by rw [hU]; exact Nat.le_refl _) hs
    exact ⟨hr, r1, r2, r3.mono hk hn⟩
theorem n0Of (E : EnvOk p s m meth c Z own nam bytes maxL ret n0 h0 ws) {x : Addr} (q : x ∈ ws ∨ h0.size ≤ x) : n0 ≤ x := by
  obtain ⟨o1, o2⟩ := E.2.2.2.2.2.2.2.2.2.1
  rcases q with q | q
  · exact E.2.2.2.2.2.2.2.2.2.2 x q
  · have := o2.1; omega
theorem oldOf (E : EnvOk p s m meth c Z own nam bytes maxL ret n0 h0 ws) {T : State} {L : List Loc} (X : Stand p l e R (s.setVm vm0) m args below meth c T L k n) (N : Pmt h0 ws L) (eT : T.heap = h) : Old Z n0 h :=
  E.2.2.2.2.2.2.2.2.2.1.keep (keepOf E X N eT) E.2.2.2.2.2.2.2.2.2.2
theorem pmtOf (E : EnvOk p s m meth c Z own nam bytes maxL ret n0 h0 ws) {T : State} {L L' : List Loc} {ws' : List Addr} (X : Stand p l e R (s.setVm vm0) m args below meth c T L k n) (eT : T.heap = h) (hws : ∀ x ∈ ws', x ∈ ws ∨ h0.size ≤ x) (N' : Pmt h ws' L') : Pmt h0 ws L' := fun y hy => by
  rcases N' y hy with q | q
  · exact hws _ q
  · exact Or.inr (Nat.le_trans (szOf E X eT) q)
/-- what is kept since the body's start -/
theorem kept (g : Keep h0 h ws → Old Z n0 h → Wp wd p l e R s m args below meth c Z own nam bytes maxL ret n0 h0 ws Q I h k n pc Ls st) : Wp wd p l e R s m args below meth c Z own nam bytes maxL ret n0 h0 ws Q I h k n pc Ls st := fun E T L vm0 B X N eT => g (keepOf E X N eT) (oldOf E X N eT) E T L vm0 B X N eT
theorem step {pc' : Nat} {Ls' : List Slot} {st' : List Value} (g : Wp wd p l e R s m args below meth c Z own nam bytes maxL ret n0 h0 ws Q I h k n pc' Ls' st')
    (f : EnvOk p s m meth c Z own nam bytes maxL ret n0 h0 ws → ∀ (T : State) (L : List Loc) (t : State) (vm0 : Vm), Base wd I Z s vm0 h → Stand p l e R (s.setVm vm0) m args below meth c T L k n → T.heap = h → Steps p.tables e below (T.setTop (mkF m pc' Ls'.toArray st')) t → Steps p.tables e below (T.setTop (mkF m pc Ls.toArray st)) t) : Wp wd p l e R s m args below meth c Z own nam bytes maxL ret n0 h0 ws Q I h k n pc Ls st := fun E T L vm0 B X N eT => by
  obtain ⟨s2, o, hs, r⟩ := g E T L vm0 B X N eT
  exact ⟨s2, o, f E T L s2 vm0 B X eT hs, r⟩
/-- a law that hands back a new state -/
theorem lawS {pc' : Nat} {Ls' : List Slot} {st' : List Value}
    (f : EnvOk p s m meth c Z own nam bytes maxL ret n0 h0 ws → ∀ (T : State) (L : List Loc) (vm0 : Vm), Base wd I Z s vm0 h → Stand p l e R (s.setVm vm0) m args below meth c T L k n → Pmt h0 ws L → T.heap = h → ∃ (T' : State) (L' : List Loc) (h' : Heap) (k' n' : Nat), Stand p l e R (s.setVm vm0) m args below meth c T' L' k' n' ∧ Pmt h0 ws L' ∧ T'.heap = h' ∧ h.size ≤ h'.size ∧ (∀ t, Steps p.tables e below (T'.setTop (mkF m pc' Ls'.toArray st')) t → Steps p.tables e below (T.setTop (mkF m pc Ls.toArray st)) t) ∧ Wp wd p l e R s m args below meth c Z own nam bytes maxL ret n0 h0 ws Q I h' k' n' pc' Ls' st') : Wp wd p l e R s m args below meth c Z own nam bytes maxL ret n0 h0 ws Q I h k n pc Ls st := fun E T L vm0 B X N eT => by
  obtain ⟨T', L', h', k', n', X', N', e', gr, st', g⟩ := f E T L vm0 B X N eT
  obtain ⟨s2, o, hs, r⟩ := g E T' L' vm0 (bG B gr) X' N' e'
  exact ⟨s2, o, st' _ hs, r⟩
theorem more {k' n' : Nat} (hk : k ≤ k') (hn : n ≤ n') (g : Wp wd p l e R s m args below meth c Z own nam bytes maxL ret n0 h0 ws Q I h k' n' pc Ls st) : Wp wd p l e R s m args below meth c Z own nam bytes maxL ret n0 h0 ws Q I h k n pc Ls st := fun E T L vm0 B X N eT =>
  g E T L vm0 B (X.mono hk hn) N eT
theorem conv {Q' : Option Value → Heap → Vm → Prop} (g : Wp wd p l e R s m args below meth c Z own nam bytes maxL ret n0 h0 ws Q' I h k n pc Ls st) (f : ∀ v h vm, Q' v h vm → Q v h vm) : Wp wd p l e R s m args below meth c Z own nam bytes maxL ret n0 h0 ws Q I h k n pc Ls st := fun E T L vm0 B X N eT => by
  obtain ⟨s2, o, h1, h2, h3, v, L', h4, ⟨h5, h6⟩, h7⟩ := g E T L vm0 B X N eT
  exact ⟨s2, o, h1, h2, h3, v, L', h4, ⟨f _ _ _ h5, h6⟩, h7⟩
theorem wk {J : Vm → Prop} (hJ : ∀ vm, I vm → J vm) (g : Wp wd p l e R s m args below meth c Z own nam bytes maxL ret n0 h0 ws Q J h k n pc Ls st) : Wp wd p l e R s m args below meth c Z own nam bytes maxL ret n0 h0 ws Q I h k n pc Ls st := fun E T L vm0 B X N eT =>
  g E T L vm0 (by cases wd; exact B; exact ⟨B.1, B.2.1, hJ _ B.2.2⟩) X N eT

theorem iadd {q1 : Nat} {x y : Int32} (hd : decode bytes pc = .ok (.iadd, 1)) (hq1 : pc + 1 = q1) (g : Wp wd p l e R s m args below meth c Z own nam bytes maxL ret n0 h0 ws Q I h k n q1 Ls (.int (x + y) :: rest)) : Wp wd p l e R s m args below meth c Z own nam bytes maxL ret n0 h0 ws Q I h k n pc Ls (.int y :: .int x :: rest) := by
  subst hq1
  exact  step g fun E T L t vm0 B X _ hr => XS.iadd X.here E.1 rfl (hb E.2.1 hd) rfl hr

theorem isub {q1 : Nat} {x y : Int32} (hd : decode bytes pc = .ok (.isub, 1)) (hq1 : pc + 1 = q1) (g : Wp wd p l e R s m args below meth c Z own nam bytes maxL ret n0 h0 ws Q I h k n q1 Ls (.int (x - y) :: rest)) : Wp wd p l e R s m args below meth c Z own nam bytes maxL ret n0 h0 ws Q I h k n pc Ls (.int y :: .int x :: rest) := by
  subst hq1
  exact  step g fun E T L t vm0 B X _ hr => XS.isub X.here E.1 rfl (hb E.2.1 hd) rfl hr

theorem imul {q1 : Nat} {x y : Int32} (hd : decode bytes pc = .ok (.imul, 1)) (hq1 : pc + 1 = q1) (g : Wp wd p l e R s m args below meth c Z own nam bytes maxL ret n0 h0 ws Q I h k n q1 Ls (.int (x * y) :: rest)) : Wp wd p l e R s m args below meth c Z own nam bytes maxL ret n0 h0 ws Q I h k n pc Ls (.int y :: .int x :: rest) := by
  subst hq1
  exact  step g fun E T L t vm0 B X _ hr => XS.imul X.here E.1 rfl (hb E.2.1 hd) rfl hr

theorem iand {q1 : Nat} {x y : Int32} (hd : decode bytes pc = .ok (.iand, 1)) (hq1 : pc + 1 = q1) (g : Wp wd p l e R s m args below meth c Z own nam bytes maxL ret n0 h0 ws Q I h k n q1 Ls (.int (x &&& y) :: rest)) : Wp wd p l e R s m args below meth c Z own nam bytes maxL ret n0 h0 ws Q I h k n pc Ls (.int y :: .int x :: rest) := by
  subst hq1
  exact  step g fun E T L t vm0 B X _ hr => XS.iand X.here E.1 rfl (hb E.2.1 hd) rfl hr

theorem ior {q1 : Nat} {x y : Int32} (hd : decode bytes pc = .ok (.ior, 1)) (hq1 : pc + 1 = q1) (g : Wp wd p l e R s m args below meth c Z own nam bytes maxL ret n0 h0 ws Q I h k n q1 Ls (.int (x ||| y) :: rest)) : Wp wd p l e R s m args below meth c Z own nam bytes maxL ret n0 h0 ws Q I h k n pc Ls (.int y :: .int x :: rest) := by
  subst hq1
  exact  step g fun E T L t vm0 B X _ hr => XS.ior X.here E.1 rfl (hb E.2.1 hd) rfl hr

theorem ixor {q1 : Nat} {x y : Int32} (hd : decode bytes pc = .ok (.ixor, 1)) (hq1 : pc + 1 = q1) (g : Wp wd p l e R s m args below meth c Z own nam bytes maxL ret n0 h0 ws Q I h k n q1 Ls (.int (x ^^^ y) :: rest)) : Wp wd p l e R s m args below meth c Z own nam bytes maxL ret n0 h0 ws Q I h k n pc Ls (.int y :: .int x :: rest) := by
  subst hq1
  exact  step g fun E T L t vm0 B X _ hr => XS.ixor X.here E.1 rfl (hb E.2.1 hd) rfl hr

theorem ladd {q1 : Nat} {x y : Int64} (hd : decode bytes pc = .ok (.ladd, 1)) (hq1 : pc + 1 = q1) (g : Wp wd p l e R s m args below meth c Z own nam bytes maxL ret n0 h0 ws Q I h k n q1 Ls (.long (x + y) :: rest)) : Wp wd p l e R s m args below meth c Z own nam bytes maxL ret n0 h0 ws Q I h k n pc Ls (.long y :: .long x :: rest) := by
  subst hq1
  exact  step g fun E T L t vm0 B X _ hr => XS.ladd X.here E.1 rfl (hb E.2.1 hd) rfl hr

theorem lsub {q1 : Nat} {x y : Int64} (hd : decode bytes pc = .ok (.lsub, 1)) (hq1 : pc + 1 = q1) (g : Wp wd p l e R s m args below meth c Z own nam bytes maxL ret n0 h0 ws Q I h k n q1 Ls (.long (x - y) :: rest)) : Wp wd p l e R s m args below meth c Z own nam bytes maxL ret n0 h0 ws Q I h k n pc Ls (.long y :: .long x :: rest) := by
  subst hq1
  exact  step g fun E T L t vm0 B X _ hr => XS.lsub X.here E.1 rfl (hb E.2.1 hd) rfl hr

theorem lmul {q1 : Nat} {x y : Int64} (hd : decode bytes pc = .ok (.lmul, 1)) (hq1 : pc + 1 = q1) (g : Wp wd p l e R s m args below meth c Z own nam bytes maxL ret n0 h0 ws Q I h k n q1 Ls (.long (x * y) :: rest)) : Wp wd p l e R s m args below meth c Z own nam bytes maxL ret n0 h0 ws Q I h k n pc Ls (.long y :: .long x :: rest) := by
  subst hq1
  exact  step g fun E T L t vm0 B X _ hr => XS.lmul X.here E.1 rfl (hb E.2.1 hd) rfl hr

theorem land {q1 : Nat} {x y : Int64} (hd : decode bytes pc = .ok (.land, 1)) (hq1 : pc + 1 = q1) (g : Wp wd p l e R s m args below meth c Z own nam bytes maxL ret n0 h0 ws Q I h k n q1 Ls (.long (x &&& y) :: rest)) : Wp wd p l e R s m args below meth c Z own nam bytes maxL ret n0 h0 ws Q I h k n pc Ls (.long y :: .long x :: rest) := by
  subst hq1
  exact  step g fun E T L t vm0 B X _ hr => XS.land X.here E.1 rfl (hb E.2.1 hd) rfl hr

theorem lor {q1 : Nat} {x y : Int64} (hd : decode bytes pc = .ok (.lor, 1)) (hq1 : pc + 1 = q1) (g : Wp wd p l e R s m args below meth c Z own nam bytes maxL ret n0 h0 ws Q I h k n q1 Ls (.long (x ||| y) :: rest)) : Wp wd p l e R s m args below meth c Z own nam bytes maxL ret n0 h0 ws Q I h k n pc Ls (.long y :: .long x :: rest) := by
  subst hq1
  exact  step g fun E T L t vm0 B X _ hr => XS.lor X.here E.1 rfl (hb E.2.1 hd) rfl hr

theorem lxor {q1 : Nat} {x y : Int64} (hd : decode bytes pc = .ok (.lxor, 1)) (hq1 : pc + 1 = q1) (g : Wp wd p l e R s m args below meth c Z own nam bytes maxL ret n0 h0 ws Q I h k n q1 Ls (.long (x ^^^ y) :: rest)) : Wp wd p l e R s m args below meth c Z own nam bytes maxL ret n0 h0 ws Q I h k n pc Ls (.long y :: .long x :: rest) := by
  subst hq1
  exact  step g fun E T L t vm0 B X _ hr => XS.lxor X.here E.1 rfl (hb E.2.1 hd) rfl hr

theorem ishl {q1 : Nat} {x y : Int32} (hd : decode bytes pc = .ok (.ishl, 1)) (hq1 : pc + 1 = q1) (g : Wp wd p l e R s m args below meth c Z own nam bytes maxL ret n0 h0 ws Q I h k n q1 Ls (.int (x <<< (y &&& 31)) :: rest)) : Wp wd p l e R s m args below meth c Z own nam bytes maxL ret n0 h0 ws Q I h k n pc Ls (.int y :: .int x :: rest) := by
  subst hq1
  exact  step g fun E T L t vm0 B X _ hr => XS.ishl X.here E.1 rfl (hb E.2.1 hd) rfl hr

theorem ishr {q1 : Nat} {x y : Int32} (hd : decode bytes pc = .ok (.ishr, 1)) (hq1 : pc + 1 = q1) (g : Wp wd p l e R s m args below meth c Z own nam bytes maxL ret n0 h0 ws Q I h k n q1 Ls (.int (x >>> (y &&& 31)) :: rest)) : Wp wd p l e R s m args below meth c Z own nam bytes maxL ret n0 h0 ws Q I h k n pc Ls (.int y :: .int x :: rest) := by
  subst hq1
  exact  step g fun E T L t vm0 B X _ hr => XS.ishr X.here E.1 rfl (hb E.2.1 hd) rfl hr

theorem iushr {q1 : Nat} {x y : Int32} (hd : decode bytes pc = .ok (.iushr, 1)) (hq1 : pc + 1 = q1) (g : Wp wd p l e R s m args below meth c Z own nam bytes maxL ret n0 h0 ws Q I h k n q1 Ls (.int ((x.toUInt32 >>> (y &&& 31).toUInt32).toInt32) :: rest)) : Wp wd p l e R s m args below meth c Z own nam bytes maxL ret n0 h0 ws Q I h k n pc Ls (.int y :: .int x :: rest) := by
  subst hq1
  exact  step g fun E T L t vm0 B X _ hr => XS.iushr X.here E.1 rfl (hb E.2.1 hd) rfl hr

theorem lshl {q1 : Nat} {x : Int64} {y : Int32} (hd : decode bytes pc = .ok (.lshl, 1)) (hq1 : pc + 1 = q1) (g : Wp wd p l e R s m args below meth c Z own nam bytes maxL ret n0 h0 ws Q I h k n q1 Ls (.long (x <<< (y &&& 0x3f).toInt64) :: rest)) : Wp wd p l e R s m args below meth c Z own nam bytes maxL ret n0 h0 ws Q I h k n pc Ls (.int y :: .long x :: rest) := by
  subst hq1
  exact  step g fun E T L t vm0 B X _ hr => XS.lshl X.here E.1 rfl (hb E.2.1 hd) rfl hr

theorem lshr {q1 : Nat} {x : Int64} {y : Int32} (hd : decode bytes pc = .ok (.lshr, 1)) (hq1 : pc + 1 = q1) (g : Wp wd p l e R s m args below meth c Z own nam bytes maxL ret n0 h0 ws Q I h k n q1 Ls (.long (x >>> (y &&& 0x3f).toInt64) :: rest)) : Wp wd p l e R s m args below meth c Z own nam bytes maxL ret n0 h0 ws Q I h k n pc Ls (.int y :: .long x :: rest) := by
  subst hq1
  exact  step g fun E T L t vm0 B X _ hr => XS.lshr X.here E.1 rfl (hb E.2.1 hd) rfl hr

theorem lushr {q1 : Nat} {x : Int64} {y : Int32} (hd : decode bytes pc = .ok (.lushr, 1)) (hq1 : pc + 1 = q1) (g : Wp wd p l e R s m args below meth c Z own nam bytes maxL ret n0 h0 ws Q I h k n q1 Ls (.long ((x.toUInt64 >>> (y &&& 0x3f).toInt64.toUInt64).toInt64) :: rest)) : Wp wd p l e R s m args below meth c Z own nam bytes maxL ret n0 h0 ws Q I h k n pc Ls (.int y :: .long x :: rest) := by
  subst hq1
  exact  step g fun E T L t vm0 B X _ hr => XS.lushr X.here E.1 rfl (hb E.2.1 hd) rfl hr

theorem lcmp {q1 : Nat} {x y : Int64} (hd : decode bytes pc = .ok (.lcmp, 1)) (hq1 : pc + 1 = q1) (g : Wp wd p l e R s m args below meth c Z own nam bytes maxL ret n0 h0 ws Q I h k n q1 Ls (.int (lcmpW x y) :: rest)) : Wp wd p l e R s m args below meth c Z own nam bytes maxL ret n0 h0 ws Q I h k n pc Ls (.long y :: .long x :: rest) := by
  subst hq1
  exact  step g fun E T L t vm0 B X _ hr => XS.lcmp X.here E.1 rfl (hb E.2.1 hd) rfl hr

theorem idiv {q1 : Nat} {x y : Int32} (hd : decode bytes pc = .ok (.idiv, 1)) (hq1 : pc + 1 = q1) (hy : y ≠ 0) (g : Wp wd p l e R s m args below meth c Z own nam bytes maxL ret n0 h0 ws Q I h k n q1 Ls (.int (x / y) :: rest)) : Wp wd p l e R s m args below meth c Z own nam bytes maxL ret n0 h0 ws Q I h k n pc Ls (.int y :: .int x :: rest) := by
  subst hq1
  exact  step g fun E T L t vm0 B X _ hr => XS.idiv X.here E.1 rfl (hb E.2.1 hd) rfl hy hr

theorem ldiv {q1 : Nat} {x y : Int64} (hd : decode bytes pc = .ok (.ldiv, 1)) (hq1 : pc + 1 = q1) (hy : y ≠ 0) (g : Wp wd p l e R s m args below meth c Z own nam bytes maxL ret n0 h0 ws Q I h k n q1 Ls (.long (x / y) :: rest)) : Wp wd p l e R s m args below meth c Z own nam bytes maxL ret n0 h0 ws Q I h k n pc Ls (.long y :: .long x :: rest) := by
  subst hq1
  exact  step g fun E T L t vm0 B X _ hr => XS.ldiv X.here E.1 rfl (hb E.2.1 hd) rfl hy hr

theorem irem {q1 : Nat} {x y : Int32} (hd : decode bytes pc = .ok (.irem, 1)) (hq1 : pc + 1 = q1) (hy : y ≠ 0) (g : Wp wd p l e R s m args below meth c Z own nam bytes maxL ret n0 h0 ws Q I h k n q1 Ls (.int (x % y) :: rest)) : Wp wd p l e R s m args below meth c Z own nam bytes maxL ret n0 h0 ws Q I h k n pc Ls (.int y :: .int x :: rest) := by
  subst hq1
  exact  step g fun E T L t vm0 B X _ hr => iremM X E.1 rfl (hb E.2.1 hd) rfl hy hr

theorem ineg {q1 : Nat} {x : Int32} (hd : decode bytes pc = .ok (.ineg, 1)) (hq1 : pc + 1 = q1) (g : Wp wd p l e R s m args below meth c Z own nam bytes maxL ret n0 h0 ws Q I h k n q1 Ls (.int (-x) :: rest)) : Wp wd p l e R s m args below meth c Z own nam bytes maxL ret n0 h0 ws Q I h k n pc Ls (.int x :: rest) := by
  subst hq1
  exact  step g fun E T L t vm0 B X _ hr => XS.ineg X.here E.1 rfl (hb E.2.1 hd) rfl hr

theorem lneg {q1 : Nat} {x : Int64} (hd : decode bytes pc = .ok (.lneg, 1)) (hq1 : pc + 1 = q1) (g : Wp wd p l e R s m args below meth c Z own nam bytes maxL ret n0 h0 ws Q I h k n q1 Ls (.long (-x) :: rest)) : Wp wd p l e R s m args below meth c Z own nam bytes maxL ret n0 h0 ws Q I h k n pc Ls (.long x :: rest) := by
  subst hq1
  exact  step g fun E T L t vm0 B X _ hr => XS.lneg X.here E.1 rfl (hb E.2.1 hd) rfl hr

theorem i2l {q1 : Nat} {x : Int32} (hd : decode bytes pc = .ok (.i2l, 1)) (hq1 : pc + 1 = q1) (g : Wp wd p l e R s m args below meth c Z own nam bytes maxL ret n0 h0 ws Q I h k n q1 Ls (.long (x.toInt64) :: rest)) : Wp wd p l e R s m args below meth c Z own nam bytes maxL ret n0 h0 ws Q I h k n pc Ls (.int x :: rest) := by
  subst hq1
  exact  step g fun E T L t vm0 B X _ hr => XS.i2l X.here E.1 rfl (hb E.2.1 hd) rfl hr

theorem l2i {q1 : Nat} {x : Int64} (hd : decode bytes pc = .ok (.l2i, 1)) (hq1 : pc + 1 = q1) (g : Wp wd p l e R s m args below meth c Z own nam bytes maxL ret n0 h0 ws Q I h k n q1 Ls (.int (x.toInt32) :: rest)) : Wp wd p l e R s m args below meth c Z own nam bytes maxL ret n0 h0 ws Q I h k n pc Ls (.long x :: rest) := by
  subst hq1
  exact  step g fun E T L t vm0 B X _ hr => XS.l2i X.here E.1 rfl (hb E.2.1 hd) rfl hr

theorem i2b {q1 : Nat} {x : Int32} (hd : decode bytes pc = .ok (.i2b, 1)) (hq1 : pc + 1 = q1) (g : Wp wd p l e R s m args below meth c Z own nam bytes maxL ret n0 h0 ws Q I h k n q1 Ls (.int (x.toInt8.toInt32) :: rest)) : Wp wd p l e R s m args below meth c Z own nam bytes maxL ret n0 h0 ws Q I h k n pc Ls (.int x :: rest) := by
  subst hq1
  exact  step g fun E T L t vm0 B X _ hr => XS.i2b X.here E.1 rfl (hb E.2.1 hd) rfl hr

theorem i2s {q1 : Nat} {x : Int32} (hd : decode bytes pc = .ok (.i2s, 1)) (hq1 : pc + 1 = q1) (g : Wp wd p l e R s m args below meth c Z own nam bytes maxL ret n0 h0 ws Q I h k n q1 Ls (.int (x.toInt16.toInt32) :: rest)) : Wp wd p l e R s m args below meth c Z own nam bytes maxL ret n0 h0 ws Q I h k n pc Ls (.int x :: rest) := by
  subst hq1
  exact  step g fun E T L t vm0 B X _ hr => XS.i2s X.here E.1 rfl (hb E.2.1 hd) rfl hr

theorem i2c {q1 : Nat} {x : Int32} (hd : decode bytes pc = .ok (.i2c, 1)) (hq1 : pc + 1 = q1) (g : Wp wd p l e R s m args below meth c Z own nam bytes maxL ret n0 h0 ws Q I h k n q1 Ls (.int (x.toUInt32.toUInt16.toUInt32.toInt32) :: rest)) : Wp wd p l e R s m args below meth c Z own nam bytes maxL ret n0 h0 ws Q I h k n pc Ls (.int x :: rest) := by
  subst hq1
  exact  step g fun E T L t vm0 B X _ hr => XS.i2c X.here E.1 rfl (hb E.2.1 hd) rfl hr

theorem iconst {q1 : Nat} {i : Int} {v : Int32} (hd : decode bytes pc = .ok (.iconst i, 1)) (hq1 : pc + 1 = q1) (hv : Int32.ofInt i = v) (g : Wp wd p l e R s m args below meth c Z own nam bytes maxL ret n0 h0 ws Q I h k n q1 Ls (.int v :: st)) : Wp wd p l e R s m args below meth c Z own nam bytes maxL ret n0 h0 ws Q I h k n pc Ls st := by
  subst hq1
  exact  step g fun E T L t vm0 B X _ hr => XT.iconstV X.here E.1 rfl v (hb E.2.1 hd) hv hr

theorem bipush {q1 : Nat} {i : Int} {v : Int32} (hd : decode bytes pc = .ok (.bipush i, 2)) (hq1 : pc + 2 = q1) (hv : (Int8.ofInt i).toInt32 = v) (g : Wp wd p l e R s m args below meth c Z own nam bytes maxL ret n0 h0 ws Q I h k n q1 Ls (.int v :: st)) : Wp wd p l e R s m args below meth c Z own nam bytes maxL ret n0 h0 ws Q I h k n pc Ls st := by
  subst hq1
  exact  step g fun E T L t vm0 B X _ hr => XT.bipushV X.here E.1 rfl v (hb E.2.1 hd) hv hr

theorem sipush {q1 : Nat} {i : Int} {v : Int32} (hd : decode bytes pc = .ok (.sipush i, 3)) (hq1 : pc + 3 = q1) (hv : (Int16.ofInt i).toInt32 = v) (g : Wp wd p l e R s m args below meth c Z own nam bytes maxL ret n0 h0 ws Q I h k n q1 Ls (.int v :: st)) : Wp wd p l e R s m args below meth c Z own nam bytes maxL ret n0 h0 ws Q I h k n pc Ls st := by
  subst hq1
  exact  step g fun E T L t vm0 B X _ hr => XT.sipushV X.here E.1 rfl v (hb E.2.1 hd) hv hr

theorem lconst {q1 : Nat} {i : Fin 2} {v : Int64} (hd : decode bytes pc = .ok (.lconst i, 1)) (hq1 : pc + 1 = q1) (hv : Int64.ofNat i = v) (g : Wp wd p l e R s m args below meth c Z own nam bytes maxL ret n0 h0 ws Q I h k n q1 Ls (.long v :: st)) : Wp wd p l e R s m args below meth c Z own nam bytes maxL ret n0 h0 ws Q I h k n pc Ls st := by
  subst hq1
  exact  step g fun E T L t vm0 B X _ hr => XT.lconstV X.here E.1 rfl v (hb E.2.1 hd) hv hr

theorem aconst_null {q1 : Nat} (hd : decode bytes pc = .ok (.aconst_null, 1)) (hq1 : pc + 1 = q1) (g : Wp wd p l e R s m args below meth c Z own nam bytes maxL ret n0 h0 ws Q I h k n q1 Ls (.null :: st)) : Wp wd p l e R s m args below meth c Z own nam bytes maxL ret n0 h0 ws Q I h k n pc Ls st := by
  subst hq1
  exact  step g fun E T L t vm0 B X _ hr => XS.aconstNull X.here E.1 rfl (hb E.2.1 hd) hr

theorem ldcI {q1 : Nat} {i : Nat} {v : Int32} (hd : decode bytes pc = .ok (.ldc i, 2)) (hq1 : pc + 2 = q1) (w : (Cond.constant own i v).before a0 Z = true) (g : Wp wd p l e R s m args below meth c Z own nam bytes maxL ret n0 h0 ws Q I h k n q1 Ls (.int v :: st)) : Wp wd p l e R s m args below meth c Z own nam bytes maxL ret n0 h0 ws Q I h k n pc Ls st := by
  subst hq1
  exact  step g fun E T L t vm0 B X _ hr => X.ldcInt E.1 (bO E B) (mvT (bZ E B) w) (g := mkF m pc Ls.toArray st) rfl (hb E.2.1 hd) _ hr

theorem ldcwI {q1 : Nat} {i : Nat} {v : Int32} (hd : decode bytes pc = .ok (.ldc_w i, 3)) (hq1 : pc + 3 = q1) (w : (Cond.constant own i v).before a0 Z = true) (g : Wp wd p l e R s m args below meth c Z own nam bytes maxL ret n0 h0 ws Q I h k n q1 Ls (.int v :: st)) : Wp wd p l e R s m args below meth c Z own nam bytes maxL ret n0 h0 ws Q I h k n pc Ls st := by
  subst hq1
  exact  step g fun E T L t vm0 B X _ hr => X.ldcwInt E.1 (bO E B) (mvT (bZ E B) w) (g := mkF m pc Ls.toArray st) rfl (hb E.2.1 hd) _ hr

theorem ldc2J {q1 : Nat} {i : Nat} {v : Int64} (hd : decode bytes pc = .ok (.ldc2_w i, 3)) (hq1 : pc + 3 = q1) (w : (Cond.constantLong own i v).before a0 Z = true) (g : Wp wd p l e R s m args below meth c Z own nam bytes maxL ret n0 h0 ws Q I h k n q1 Ls (.long v :: st)) : Wp wd p l e R s m args below meth c Z own nam bytes maxL ret n0 h0 ws Q I h k n pc Ls st := by
  subst hq1
  exact  step g fun E T L t vm0 B X _ hr => X.ldc2Long E.1 (bO E B) (mvT (bZ E B) w) (g := mkF m pc Ls.toArray st) rfl (hb E.2.1 hd) _ hr

theorem iload {q1 : Nat} {j : Nat} {v : Int32} (hd : decode bytes pc = .ok (.iload j, 2)) (hq1 : pc + 2 = q1) (hl : Ls[j]? = some (.val (.int v))) (g : Wp wd p l e R s m args below meth c Z own nam bytes maxL ret n0 h0 ws Q I h k n q1 Ls ((.int v) :: st)) : Wp wd p l e R s m args below meth c Z own nam bytes maxL ret n0 h0 ws Q I h k n pc Ls st := by
  subst hq1
  exact  step g fun E T L t vm0 B X _ hr => XS.iload X.here E.1 rfl (hb E.2.1 hd) (by simpa using hl) hr

theorem iload_n {q1 : Nat} {j : Fin 4} {v : Int32} (hd : decode bytes pc = .ok (.iload_n j, 1)) (hq1 : pc + 1 = q1) (hl : Ls[j.val]? = some (.val (.int v))) (g : Wp wd p l e R s m args below meth c Z own nam bytes maxL ret n0 h0 ws Q I h k n q1 Ls ((.int v) :: st)) : Wp wd p l e R s m args below meth c Z own nam bytes maxL ret n0 h0 ws Q I h k n pc Ls st := by
  subst hq1
  exact  step g fun E T L t vm0 B X _ hr => XS.iloadN X.here E.1 rfl (hb E.2.1 hd) (by simpa using hl) hr

theorem lload {q1 : Nat} {j : Nat} {v : Int64} (hd : decode bytes pc = .ok (.lload j, 2)) (hq1 : pc + 2 = q1) (hl : Ls[j]? = some (.val (.long v))) (g : Wp wd p l e R s m args below meth c Z own nam bytes maxL ret n0 h0 ws Q I h k n q1 Ls ((.long v) :: st)) : Wp wd p l e R s m args below meth c Z own nam bytes maxL ret n0 h0 ws Q I h k n pc Ls st := by
  subst hq1
  exact  step g fun E T L t vm0 B X _ hr => XS.lload X.here E.1 rfl (hb E.2.1 hd) (by simpa using hl) hr

theorem lload_n {q1 : Nat} {j : Fin 4} {v : Int64} (hd : decode bytes pc = .ok (.lload_n j, 1)) (hq1 : pc + 1 = q1) (hl : Ls[j.val]? = some (.val (.long v))) (g : Wp wd p l e R s m args below meth c Z own nam bytes maxL ret n0 h0 ws Q I h k n q1 Ls ((.long v) :: st)) : Wp wd p l e R s m args below meth c Z own nam bytes maxL ret n0 h0 ws Q I h k n pc Ls st := by
  subst hq1
  exact  step g fun E T L t vm0 B X _ hr => XS.lloadN X.here E.1 rfl (hb E.2.1 hd) (by simpa using hl) hr

theorem aload {q1 : Nat} {j : Nat} {v : Value} (hd : decode bytes pc = .ok (.aload j, 2)) (hq1 : pc + 2 = q1) (hl : Ls[j]? = some (.val (v))) (hv : v.isRef = true) (g : Wp wd p l e R s m args below meth c Z own nam bytes maxL ret n0 h0 ws Q I h k n q1 Ls ((v) :: st)) : Wp wd p l e R s m args below meth c Z own nam bytes maxL ret n0 h0 ws Q I h k n pc Ls st := by
  subst hq1
  exact  step g fun E T L t vm0 B X _ hr => XS.aload X.here E.1 rfl (hb E.2.1 hd) (by simpa using hl) hv hr

theorem aload_n {q1 : Nat} {j : Fin 4} {v : Value} (hd : decode bytes pc = .ok (.aload_n j, 1)) (hq1 : pc + 1 = q1) (hl : Ls[j.val]? = some (.val (v))) (hv : v.isRef = true) (g : Wp wd p l e R s m args below meth c Z own nam bytes maxL ret n0 h0 ws Q I h k n q1 Ls ((v) :: st)) : Wp wd p l e R s m args below meth c Z own nam bytes maxL ret n0 h0 ws Q I h k n pc Ls st := by
  subst hq1
  exact  step g fun E T L t vm0 B X _ hr => XS.aloadN X.here E.1 rfl (hb E.2.1 hd) (by simpa using hl) hv hr

theorem istore {q1 : Nat} {j : Nat} {x : Int32} (hd : decode bytes pc = .ok (.istore j, 2)) (hq1 : pc + 2 = q1) (ho : oneAt Ls j = true) (g : Wp wd p l e R s m args below meth c Z own nam bytes maxL ret n0 h0 ws Q I h k n q1 (Ls.set j (.val (.int x))) rest) : Wp wd p l e R s m args below meth c Z own nam bytes maxL ret n0 h0 ws Q I h k n pc Ls (.int x :: rest) := by
  subst hq1
  exact  step g fun E T L t vm0 B X _ hr => XS.istore X.here E.1 rfl (hb E.2.1 hd) rfl (one_store ho rfl) hr

theorem istore_n {q1 : Nat} {j : Fin 4} {jj : Nat} {x : Int32} (hd : decode bytes pc = .ok (.istore_n j, 1)) (hq1 : pc + 1 = q1) (hj : j.val = jj) (ho : oneAt Ls jj = true) (g : Wp wd p l e R s m args below meth c Z own nam bytes maxL ret n0 h0 ws Q I h k n q1 (Ls.set jj (.val (.int x))) rest) : Wp wd p l e R s m args below meth c Z own nam bytes maxL ret n0 h0 ws Q I h k n pc Ls (.int x :: rest) := by
  subst hq1
  exact  step g fun E T L t vm0 B X _ hr => XS.istoreN X.here E.1 rfl (hb E.2.1 hd) rfl (by subst hj; exact one_store ho rfl) hr

theorem astore {q1 : Nat} {j : Nat} {x : Value} (hd : decode bytes pc = .ok (.astore j, 2)) (hq1 : pc + 2 = q1) (ho : oneAt Ls j = true) (hv : x.isRef = true) (g : Wp wd p l e R s m args below meth c Z own nam bytes maxL ret n0 h0 ws Q I h k n q1 (Ls.set j (.val x)) rest) : Wp wd p l e R s m args below meth c Z own nam bytes maxL ret n0 h0 ws Q I h k n pc Ls (x :: rest) := by
  subst hq1
  exact  step g fun E T L t vm0 B X _ hr => XS.astore X.here E.1 rfl (hb E.2.1 hd) rfl hv (one_store ho (XT.cat1 hv)) hr

theorem astore_n {q1 : Nat} {j : Fin 4} {jj : Nat} {x : Value} (hd : decode bytes pc = .ok (.astore_n j, 1)) (hq1 : pc + 1 = q1) (hj : j.val = jj) (ho : oneAt Ls jj = true) (hv : x.isRef = true) (g : Wp wd p l e R s m args below meth c Z own nam bytes maxL ret n0 h0 ws Q I h k n q1 (Ls.set jj (.val x)) rest) : Wp wd p l e R s m args below meth c Z own nam bytes maxL ret n0 h0 ws Q I h k n pc Ls (x :: rest) := by
  subst hq1
  exact  step g fun E T L t vm0 B X _ hr => XS.astoreN X.here E.1 rfl (hb E.2.1 hd) rfl hv (by subst hj; exact one_store ho (XT.cat1 hv)) hr

theorem lstore {q1 : Nat} {j jk : Nat} {x : Int64} (hd : decode bytes pc = .ok (.lstore j, 2)) (hq1 : pc + 2 = q1) (hjk : j + 1 = jk) (ho : twoAt Ls j = true) (g : Wp wd p l e R s m args below meth c Z own nam bytes maxL ret n0 h0 ws Q I h k n q1 ((Ls.set j (.val (.long x))).set jk .second) rest) : Wp wd p l e R s m args below meth c Z own nam bytes maxL ret n0 h0 ws Q I h k n pc Ls (.long x :: rest) := by
  subst hq1
  exact  step g fun E T L t vm0 B X _ hr => XS.lstore X.here E.1 rfl (hb E.2.1 hd) rfl (by subst hjk; exact two_store ho) hr

theorem lstore_n {q1 : Nat} {j : Fin 4} {jj jk : Nat} {x : Int64} (hd : decode bytes pc = .ok (.lstore_n j, 1)) (hq1 : pc + 1 = q1) (hj : j.val = jj) (hjk : jj + 1 = jk) (ho : twoAt Ls jj = true) (g : Wp wd p l e R s m args below meth c Z own nam bytes maxL ret n0 h0 ws Q I h k n q1 ((Ls.set jj (.val (.long x))).set jk .second) rest) : Wp wd p l e R s m args below meth c Z own nam bytes maxL ret n0 h0 ws Q I h k n pc Ls (.long x :: rest) := by
  subst hq1
  exact  step g fun E T L t vm0 B X _ hr => XS.lstoreN X.here E.1 rfl (hb E.2.1 hd) rfl (by subst hj; subst hjk; exact two_store ho) hr

theorem iinc {q1 : Nat} {j : Nat} {i : Int} {x v : Int32} (hd : decode bytes pc = .ok (.iinc j i, 3)) (hq1 : pc + 3 = q1) (hv : Int32.ofInt i = v) (hl : Ls[j]? = some (.val (.int x))) (g : Wp wd p l e R s m args below meth c Z own nam bytes maxL ret n0 h0 ws Q I h k n q1 (Ls.set j (.val (.int (x + v)))) st) : Wp wd p l e R s m args below meth c Z own nam bytes maxL ret n0 h0 ws Q I h k n pc Ls st := by
  subst hq1
  exact  step g fun E T L t vm0 B X _ hr => XT.iincV X.here E.1 rfl v (hb E.2.1 hd) hv (by simpa using hl) (one_store (by simp [oneAt, hl, oneB, Value.category]) rfl) hr

theorem dup {q1 : Nat} {x : Value} (hd : decode bytes pc = .ok (.dup, 1)) (hq1 : pc + 1 = q1) (hc : x.category = 1) (g : Wp wd p l e R s m args below meth c Z own nam bytes maxL ret n0 h0 ws Q I h k n q1 Ls (x :: x :: rest)) : Wp wd p l e R s m args below meth c Z own nam bytes maxL ret n0 h0 ws Q I h k n pc Ls (x :: rest) := by
  subst hq1
  exact  step g fun E T L t vm0 B X _ hr => XS.dup X.here E.1 rfl (hb E.2.1 hd) rfl hc hr

theorem pop {q1 : Nat} {x : Value} (hd : decode bytes pc = .ok (.pop, 1)) (hq1 : pc + 1 = q1) (hc : x.category = 1) (g : Wp wd p l e R s m args below meth c Z own nam bytes maxL ret n0 h0 ws Q I h k n q1 Ls rest) : Wp wd p l e R s m args below meth c Z own nam bytes maxL ret n0 h0 ws Q I h k n pc Ls (x :: rest) := by
  subst hq1
  exact  step g fun E T L t vm0 B X _ hr => XS.pop X.here E.1 rfl (hb E.2.1 hd) rfl hc hr

theorem dup_x1 {q1 : Nat} {x y : Value} (hd : decode bytes pc = .ok (.dup_x1, 1)) (hq1 : pc + 1 = q1) (hc : x.category = 1) (hc' : y.category = 1) (g : Wp wd p l e R s m args below meth c Z own nam bytes maxL ret n0 h0 ws Q I h k n q1 Ls (x :: y :: x :: rest)) : Wp wd p l e R s m args below meth c Z own nam bytes maxL ret n0 h0 ws Q I h k n pc Ls (x :: y :: rest) := by
  subst hq1
  exact  step g fun E T L t vm0 B X _ hr => XS.dupX1 X.here E.1 rfl (hb E.2.1 hd) rfl hc hc' hr

theorem dup2 {q1 : Nat} {x y : Value} (hd : decode bytes pc = .ok (.dup2, 1)) (hq1 : pc + 1 = q1) (hc : x.category = 1) (hc' : y.category = 1) (g : Wp wd p l e R s m args below meth c Z own nam bytes maxL ret n0 h0 ws Q I h k n q1 Ls (x :: y :: x :: y :: rest)) : Wp wd p l e R s m args below meth c Z own nam bytes maxL ret n0 h0 ws Q I h k n pc Ls (x :: y :: rest) := by
  subst hq1
  exact  step g fun E T L t vm0 B X _ hr => XT.dup2 X.here E.1 rfl (hb E.2.1 hd) rfl hc hc' hr

theorem dup2L {q1 : Nat} {x : Int64} (hd : decode bytes pc = .ok (.dup2, 1)) (hq1 : pc + 1 = q1) (g : Wp wd p l e R s m args below meth c Z own nam bytes maxL ret n0 h0 ws Q I h k n q1 Ls (.long x :: .long x :: rest)) : Wp wd p l e R s m args below meth c Z own nam bytes maxL ret n0 h0 ws Q I h k n pc Ls (.long x :: rest) := by
  subst hq1
  exact  step g fun E T L t vm0 B X _ hr => XT.dup2L X.here E.1 rfl (hb E.2.1 hd) rfl hr

theorem goto {o : Int} {q : Nat} (hd : decode bytes pc = .ok (.goto o, 3)) (hq : (0 ≤ (pc : Int) + o) ∧ ((pc : Int) + o).toNat = q) (g : Wp wd p l e R s m args below meth c Z own nam bytes maxL ret n0 h0 ws Q I h k n q Ls st) : Wp wd p l e R s m args below meth c Z own nam bytes maxL ret n0 h0 ws Q I h k n pc Ls st :=
  step g fun E T L t vm0 B X _ hr => XS.goto X.here E.1 rfl rfl (hb E.2.1 hd) hq.1 hq.2 hr

theorem if_eq {q1 : Nat} {o : Int} {q : Nat} {x : Int32} (hd : decode bytes pc = .ok (.ifCond .eq o, 3)) (hq1 : pc + 3 = q1) (hq : (0 ≤ (pc : Int) + o) ∧ ((pc : Int) + o).toNat = q) (gt : x = 0 → Wp wd p l e R s m args below meth c Z own nam bytes maxL ret n0 h0 ws Q I h k n q Ls rest) (gf : ¬ x = 0 → Wp wd p l e R s m args below meth c Z own nam bytes maxL ret n0 h0 ws Q I h k n q1 Ls rest) : Wp wd p l e R s m args below meth c Z own nam bytes maxL ret n0 h0 ws Q I h k n pc Ls (.int x :: rest) := by
  subst hq1
  by_cases hc : x = 0
  · exact step (gt hc) fun E T L t vm0 B X _ hr => XS.ifYes X.here E.1 rfl rfl (hb E.2.1 hd) rfl ((if0 _ _).trans (teq hc).1) hq.1 hq.2 hr
  · exact step (gf hc) fun E T L t vm0 B X _ hr => XS.ifNo X.here E.1 rfl (hb E.2.1 hd) rfl ((if0 _ _).trans (feq hc).1) hr

theorem icmp_eq {q1 : Nat} {o : Int} {q : Nat} {x y : Int32} (hd : decode bytes pc = .ok (.if_icmp .eq o, 3)) (hq1 : pc + 3 = q1) (hq : (0 ≤ (pc : Int) + o) ∧ ((pc : Int) + o).toNat = q) (gt : x = y → Wp wd p l e R s m args below meth c Z own nam bytes maxL ret n0 h0 ws Q I h k n q Ls rest) (gf : ¬ x = y → Wp wd p l e R s m args below meth c Z own nam bytes maxL ret n0 h0 ws Q I h k n q1 Ls rest) : Wp wd p l e R s m args below meth c Z own nam bytes maxL ret n0 h0 ws Q I h k n pc Ls (.int y :: .int x :: rest) := by
  subst hq1
  by_cases hc : x = y
  · exact step (gt hc) fun E T L t vm0 B X _ hr => XS.icmpYes X.here E.1 rfl rfl (hb E.2.1 hd) rfl (teq hc).1 hq.1 hq.2 hr
  · exact step (gf hc) fun E T L t vm0 B X _ hr => XS.icmpNo X.here E.1 rfl (hb E.2.1 hd) rfl (feq hc).1 hr

theorem if_ne {q1 : Nat} {o : Int} {q : Nat} {x : Int32} (hd : decode bytes pc = .ok (.ifCond .ne o, 3)) (hq1 : pc + 3 = q1) (hq : (0 ≤ (pc : Int) + o) ∧ ((pc : Int) + o).toNat = q) (gt : ¬ x = 0 → Wp wd p l e R s m args below meth c Z own nam bytes maxL ret n0 h0 ws Q I h k n q Ls rest) (gf : x = 0 → Wp wd p l e R s m args below meth c Z own nam bytes maxL ret n0 h0 ws Q I h k n q1 Ls rest) : Wp wd p l e R s m args below meth c Z own nam bytes maxL ret n0 h0 ws Q I h k n pc Ls (.int x :: rest) := by
  subst hq1
  by_cases hc : x = 0
  · exact step (gf hc) fun E T L t vm0 B X _ hr => XS.ifNo X.here E.1 rfl (hb E.2.1 hd) rfl ((if0 _ _).trans (teq hc).2) hr
  · exact step (gt hc) fun E T L t vm0 B X _ hr => XS.ifYes X.here E.1 rfl rfl (hb E.2.1 hd) rfl ((if0 _ _).trans (feq hc).2) hq.1 hq.2 hr

theorem icmp_ne {q1 : Nat} {o : Int} {q : Nat} {x y : Int32} (hd : decode bytes pc = .ok (.if_icmp .ne o, 3)) (hq1 : pc + 3 = q1) (hq : (0 ≤ (pc : Int) + o) ∧ ((pc : Int) + o).toNat = q) (gt : ¬ x = y → Wp wd p l e R s m args below meth c Z own nam bytes maxL ret n0 h0 ws Q I h k n q Ls rest) (gf : x = y → Wp wd p l e R s m args below meth c Z own nam bytes maxL ret n0 h0 ws Q I h k n q1 Ls rest) : Wp wd p l e R s m args below meth c Z own nam bytes maxL ret n0 h0 ws Q I h k n pc Ls (.int y :: .int x :: rest) := by
  subst hq1
  by_cases hc : x = y
  · exact step (gf hc) fun E T L t vm0 B X _ hr => XS.icmpNo X.here E.1 rfl (hb E.2.1 hd) rfl (teq hc).2 hr
  · exact step (gt hc) fun E T L t vm0 B X _ hr => XS.icmpYes X.here E.1 rfl rfl (hb E.2.1 hd) rfl (feq hc).2 hq.1 hq.2 hr

theorem if_lt {q1 : Nat} {o : Int} {q : Nat} {x : Int32} (hd : decode bytes pc = .ok (.ifCond .lt o, 3)) (hq1 : pc + 3 = q1) (hq : (0 ≤ (pc : Int) + o) ∧ ((pc : Int) + o).toNat = q) (gt : x < 0 → Wp wd p l e R s m args below meth c Z own nam bytes maxL ret n0 h0 ws Q I h k n q Ls rest) (gf : ¬ x < 0 → Wp wd p l e R s m args below meth c Z own nam bytes maxL ret n0 h0 ws Q I h k n q1 Ls rest) : Wp wd p l e R s m args below meth c Z own nam bytes maxL ret n0 h0 ws Q I h k n pc Ls (.int x :: rest) := by
  subst hq1
  by_cases hc : x < 0
  · exact step (gt hc) fun E T L t vm0 B X _ hr => XS.ifYes X.here E.1 rfl rfl (hb E.2.1 hd) rfl ((if0 _ _).trans (tlt hc).1) hq.1 hq.2 hr
  · exact step (gf hc) fun E T L t vm0 B X _ hr => XS.ifNo X.here E.1 rfl (hb E.2.1 hd) rfl ((if0 _ _).trans (flt hc).1) hr

theorem icmp_lt {q1 : Nat} {o : Int} {q : Nat} {x y : Int32} (hd : decode bytes pc = .ok (.if_icmp .lt o, 3)) (hq1 : pc + 3 = q1) (hq : (0 ≤ (pc : Int) + o) ∧ ((pc : Int) + o).toNat = q) (gt : x < y → Wp wd p l e R s m args below meth c Z own nam bytes maxL ret n0 h0 ws Q I h k n q Ls rest) (gf : ¬ x < y → Wp wd p l e R s m args below meth c Z own nam bytes maxL ret n0 h0 ws Q I h k n q1 Ls rest) : Wp wd p l e R s m args below meth c Z own nam bytes maxL ret n0 h0 ws Q I h k n pc Ls (.int y :: .int x :: rest) := by
  subst hq1
  by_cases hc : x < y
  · exact step (gt hc) fun E T L t vm0 B X _ hr => XS.icmpYes X.here E.1 rfl rfl (hb E.2.1 hd) rfl (tlt hc).1 hq.1 hq.2 hr
  · exact step (gf hc) fun E T L t vm0 B X _ hr => XS.icmpNo X.here E.1 rfl (hb E.2.1 hd) rfl (flt hc).1 hr

theorem if_ge {q1 : Nat} {o : Int} {q : Nat} {x : Int32} (hd : decode bytes pc = .ok (.ifCond .ge o, 3)) (hq1 : pc + 3 = q1) (hq : (0 ≤ (pc : Int) + o) ∧ ((pc : Int) + o).toNat = q) (gt : ¬ x < 0 → Wp wd p l e R s m args below meth c Z own nam bytes maxL ret n0 h0 ws Q I h k n q Ls rest) (gf : x < 0 → Wp wd p l e R s m args below meth c Z own nam bytes maxL ret n0 h0 ws Q I h k n q1 Ls rest) : Wp wd p l e R s m args below meth c Z own nam bytes maxL ret n0 h0 ws Q I h k n pc Ls (.int x :: rest) := by
  subst hq1
  by_cases hc : x < 0
  · exact step (gf hc) fun E T L t vm0 B X _ hr => XS.ifNo X.here E.1 rfl (hb E.2.1 hd) rfl ((if0 _ _).trans (tlt hc).2.1) hr
  · exact step (gt hc) fun E T L t vm0 B X _ hr => XS.ifYes X.here E.1 rfl rfl (hb E.2.1 hd) rfl ((if0 _ _).trans (flt hc).2.1) hq.1 hq.2 hr

theorem icmp_ge {q1 : Nat} {o : Int} {q : Nat} {x y : Int32} (hd : decode bytes pc = .ok (.if_icmp .ge o, 3)) (hq1 : pc + 3 = q1) (hq : (0 ≤ (pc : Int) + o) ∧ ((pc : Int) + o).toNat = q) (gt : ¬ x < y → Wp wd p l e R s m args below meth c Z own nam bytes maxL ret n0 h0 ws Q I h k n q Ls rest) (gf : x < y → Wp wd p l e R s m args below meth c Z own nam bytes maxL ret n0 h0 ws Q I h k n q1 Ls rest) : Wp wd p l e R s m args below meth c Z own nam bytes maxL ret n0 h0 ws Q I h k n pc Ls (.int y :: .int x :: rest) := by
  subst hq1
  by_cases hc : x < y
  · exact step (gf hc) fun E T L t vm0 B X _ hr => XS.icmpNo X.here E.1 rfl (hb E.2.1 hd) rfl (tlt hc).2.1 hr
  · exact step (gt hc) fun E T L t vm0 B X _ hr => XS.icmpYes X.here E.1 rfl rfl (hb E.2.1 hd) rfl (flt hc).2.1 hq.1 hq.2 hr

theorem if_gt {q1 : Nat} {o : Int} {q : Nat} {x : Int32} (hd : decode bytes pc = .ok (.ifCond .gt o, 3)) (hq1 : pc + 3 = q1) (hq : (0 ≤ (pc : Int) + o) ∧ ((pc : Int) + o).toNat = q) (gt : 0 < x → Wp wd p l e R s m args below meth c Z own nam bytes maxL ret n0 h0 ws Q I h k n q Ls rest) (gf : ¬ 0 < x → Wp wd p l e R s m args below meth c Z own nam bytes maxL ret n0 h0 ws Q I h k n q1 Ls rest) : Wp wd p l e R s m args below meth c Z own nam bytes maxL ret n0 h0 ws Q I h k n pc Ls (.int x :: rest) := by
  subst hq1
  by_cases hc : 0 < x
  · exact step (gt hc) fun E T L t vm0 B X _ hr => XS.ifYes X.here E.1 rfl rfl (hb E.2.1 hd) rfl ((if0 _ _).trans (tlt hc).2.2.1) hq.1 hq.2 hr
  · exact step (gf hc) fun E T L t vm0 B X _ hr => XS.ifNo X.here E.1 rfl (hb E.2.1 hd) rfl ((if0 _ _).trans (flt hc).2.2.1) hr

theorem icmp_gt {q1 : Nat} {o : Int} {q : Nat} {x y : Int32} (hd : decode bytes pc = .ok (.if_icmp .gt o, 3)) (hq1 : pc + 3 = q1) (hq : (0 ≤ (pc : Int) + o) ∧ ((pc : Int) + o).toNat = q) (gt : y < x → Wp wd p l e R s m args below meth c Z own nam bytes maxL ret n0 h0 ws Q I h k n q Ls rest) (gf : ¬ y < x → Wp wd p l e R s m args below meth c Z own nam bytes maxL ret n0 h0 ws Q I h k n q1 Ls rest) : Wp wd p l e R s m args below meth c Z own nam bytes maxL ret n0 h0 ws Q I h k n pc Ls (.int y :: .int x :: rest) := by
  subst hq1
  by_cases hc : y < x
  · exact step (gt hc) fun E T L t vm0 B X _ hr => XS.icmpYes X.here E.1 rfl rfl (hb E.2.1 hd) rfl (tlt hc).2.2.1 hq.1 hq.2 hr
  · exact step (gf hc) fun E T L t vm0 B X _ hr => XS.icmpNo X.here E.1 rfl (hb E.2.1 hd) rfl (flt hc).2.2.1 hr

theorem if_le {q1 : Nat} {o : Int} {q : Nat} {x : Int32} (hd : decode bytes pc = .ok (.ifCond .le o, 3)) (hq1 : pc + 3 = q1) (hq : (0 ≤ (pc : Int) + o) ∧ ((pc : Int) + o).toNat = q) (gt : ¬ 0 < x → Wp wd p l e R s m args below meth c Z own nam bytes maxL ret n0 h0 ws Q I h k n q Ls rest) (gf : 0 < x → Wp wd p l e R s m args below meth c Z own nam bytes maxL ret n0 h0 ws Q I h k n q1 Ls rest) : Wp wd p l e R s m args below meth c Z own nam bytes maxL ret n0 h0 ws Q I h k n pc Ls (.int x :: rest) := by
  subst hq1
  by_cases hc : 0 < x
  · exact step (gf hc) fun E T L t vm0 B X _ hr => XS.ifNo X.here E.1 rfl (hb E.2.1 hd) rfl ((if0 _ _).trans (tlt hc).2.2.2) hr
  · exact step (gt hc) fun E T L t vm0 B X _ hr => XS.ifYes X.here E.1 rfl rfl (hb E.2.1 hd) rfl ((if0 _ _).trans (flt hc).2.2.2) hq.1 hq.2 hr

theorem icmp_le {q1 : Nat} {o : Int} {q : Nat} {x y : Int32} (hd : decode bytes pc = .ok (.if_icmp .le o, 3)) (hq1 : pc + 3 = q1) (hq : (0 ≤ (pc : Int) + o) ∧ ((pc : Int) + o).toNat = q) (gt : ¬ y < x → Wp wd p l e R s m args below meth c Z own nam bytes maxL ret n0 h0 ws Q I h k n q Ls rest) (gf : y < x → Wp wd p l e R s m args below meth c Z own nam bytes maxL ret n0 h0 ws Q I h k n q1 Ls rest) : Wp wd p l e R s m args below meth c Z own nam bytes maxL ret n0 h0 ws Q I h k n pc Ls (.int y :: .int x :: rest) := by
  subst hq1
  by_cases hc : y < x
  · exact step (gf hc) fun E T L t vm0 B X _ hr => XS.icmpNo X.here E.1 rfl (hb E.2.1 hd) rfl (tlt hc).2.2.2 hr
  · exact step (gt hc) fun E T L t vm0 B X _ hr => XS.icmpYes X.here E.1 rfl rfl (hb E.2.1 hd) rfl (flt hc).2.2.2 hq.1 hq.2 hr

theorem ifnull {q1 : Nat} {o : Int} {q : Nat} {v : Value} (hd : decode bytes pc = .ok (.ifnull o, 3)) (hq1 : pc + 3 = q1) (hq : (0 ≤ (pc : Int) + o) ∧ ((pc : Int) + o).toNat = q) (hv : v.isRef = true) (gt : v = .null → Wp wd p l e R s m args below meth c Z own nam bytes maxL ret n0 h0 ws Q I h k n q Ls rest) (gf : ¬ v = .null → Wp wd p l e R s m args below meth c Z own nam bytes maxL ret n0 h0 ws Q I h k n q1 Ls rest) : Wp wd p l e R s m args below meth c Z own nam bytes maxL ret n0 h0 ws Q I h k n pc Ls (v :: rest) := by
  subst hq1
  by_cases hn : v = .null
  · exact step (gt hn) fun E T L t vm0 B X _ hr => XT.nullYes X.here E.1 rfl rfl (hb E.2.1 hd) rfl hn hq.1 hq.2 hr
  · exact step (gf hn) fun E T L t vm0 B X _ hr => XT.nullNo X.here E.1 rfl (hb E.2.1 hd) rfl hv hn hr

theorem ifnonnull {q1 : Nat} {o : Int} {q : Nat} {v : Value} (hd : decode bytes pc = .ok (.ifnonnull o, 3)) (hq1 : pc + 3 = q1) (hq : (0 ≤ (pc : Int) + o) ∧ ((pc : Int) + o).toNat = q) (hv : v.isRef = true) (gt : ¬ v = .null → Wp wd p l e R s m args below meth c Z own nam bytes maxL ret n0 h0 ws Q I h k n q Ls rest) (gf : v = .null → Wp wd p l e R s m args below meth c Z own nam bytes maxL ret n0 h0 ws Q I h k n q1 Ls rest) : Wp wd p l e R s m args below meth c Z own nam bytes maxL ret n0 h0 ws Q I h k n pc Ls (v :: rest) := by
  subst hq1
  by_cases hn : v = .null
  · exact step (gf hn) fun E T L t vm0 B X _ hr => XT.nonnullNo X.here E.1 rfl (hb E.2.1 hd) rfl hn hr
  · exact step (gt hn) fun E T L t vm0 B X _ hr => XT.nonnullYes X.here E.1 rfl rfl (hb E.2.1 hd) rfl hv hn hq.1 hq.2 hr

theorem acmp_eq {q1 : Nat} {o : Int} {q : Nat} {x y : Value} (hd : decode bytes pc = .ok (.if_acmp .eq o, 3)) (hq1 : pc + 3 = q1) (hq : (0 ≤ (pc : Int) + o) ∧ ((pc : Int) + o).toNat = q) (hx : x.isRef = true) (hy : y.isRef = true) (gt : x = y → Wp wd p l e R s m args below meth c Z own nam bytes maxL ret n0 h0 ws Q I h k n q Ls rest) (gf : ¬ x = y → Wp wd p l e R s m args below meth c Z own nam bytes maxL ret n0 h0 ws Q I h k n q1 Ls rest) : Wp wd p l e R s m args below meth c Z own nam bytes maxL ret n0 h0 ws Q I h k n pc Ls (y :: x :: rest) := by
  subst hq1
  by_cases hn : x = y
  · exact step (gt hn) fun E T L t vm0 B X _ hr => XT.acmpYes X.here E.1 rfl rfl (hb E.2.1 hd) rfl hx hy (XT.aa_eq_t hn) hq.1 hq.2 hr
  · exact step (gf hn) fun E T L t vm0 B X _ hr => XT.acmpNo X.here E.1 rfl (hb E.2.1 hd) rfl hx hy (XT.aa_eq_f hn) hr

theorem acmp_ne {q1 : Nat} {o : Int} {q : Nat} {x y : Value} (hd : decode bytes pc = .ok (.if_acmp .ne o, 3)) (hq1 : pc + 3 = q1) (hq : (0 ≤ (pc : Int) + o) ∧ ((pc : Int) + o).toNat = q) (hx : x.isRef = true) (hy : y.isRef = true) (gt : ¬ x = y → Wp wd p l e R s m args below meth c Z own nam bytes maxL ret n0 h0 ws Q I h k n q Ls rest) (gf : x = y → Wp wd p l e R s m args below meth c Z own nam bytes maxL ret n0 h0 ws Q I h k n q1 Ls rest) : Wp wd p l e R s m args below meth c Z own nam bytes maxL ret n0 h0 ws Q I h k n pc Ls (y :: x :: rest) := by
  subst hq1
  by_cases hn : x = y
  · exact step (gf hn) fun E T L t vm0 B X _ hr => XT.acmpNo X.here E.1 rfl (hb E.2.1 hd) rfl hx hy (XT.aa_ne_f hn) hr
  · exact step (gt hn) fun E T L t vm0 B X _ hr => XT.acmpYes X.here E.1 rfl rfl (hb E.2.1 hd) rfl hx hy (XT.aa_ne_t hn) hq.1 hq.2 hr

theorem getfield {q1 : Nat} {i : Nat} {R0 O f d : String} {a : Addr} {v : Value} (hd : decode bytes pc = .ok (.getfield i, 3)) (hq1 : pc + 3 = q1) (w : (Cond.fieldLink own i R0 f d).before a0 Z = true) (via : Via Z R0 O f d) (F : Fld Z h a O f d v) (g : Wp wd p l e R s m args below meth c Z own nam bytes maxL ret n0 h0 ws Q I h k n q1 Ls (v :: rest)) : Wp wd p l e R s m args below meth c Z own nam bytes maxL ret n0 h0 ws Q I h k n pc Ls (.ref a :: rest) := by
  subst hq1
  exact  lawS fun E T L vm0 B X N eT => by
    obtain ⟨T', X', e', st'⟩ := getF X E.1 (bZ E B) (bO E B) (host := "") (Or.inl w) via eT F (g := mkF m pc Ls.toArray (.ref a :: rest)) rfl rfl (hb E.2.1 hd)
    exact ⟨T', L, h, k, n, X', N, e', Nat.le_refl _, st', g⟩

theorem putfield {q1 : Nat} {i kk : Nat} {R0 O f d C : String} {ty : FieldType} {a : Addr} {v old : Value} (hd : decode bytes pc = .ok (.putfield i, 3)) (hq1 : pc + 3 = q1) (w : (Cond.fieldLink own i R0 f d).before a0 Z = true) (via : Via Z R0 O f d) (F : Fld Z h a O f d old) (X0 : Exa Z h a C) (Lw : (Cond.lays C O f d).before a0 Z = true ∨ ((Cond.laysFinal C O f d).before a0 Z = true ∧ own = O ∧ nam = "<init>")) (wi : (Cond.instantiable C kk).before a0 Z = true) (hty : parseFieldDescriptor d = some ty) (hn : narrow ty v = v) (hf : fits ty v = true) (ha : a ∈ ws ∨ h0.size ≤ a)
    (g : ∀ h', Wr h h' a (Jvm.RoadKit.slotOf Z O f d) v → Wp wd p l e R s m args below meth c Z own nam bytes maxL ret n0 h0 ws Q I h' k n q1 Ls rest) : Wp wd p l e R s m args below meth c Z own nam bytes maxL ret n0 h0 ws Q I h k n pc Ls (v :: .ref a :: rest) := by
  subst hq1
  exact  lawS fun E T L vm0 B X N eT => by
    obtain ⟨T', h', X', e', W', st'⟩ := putF X E.1 (bZ E B) (bO E B) (host := "") (Or.inl w) via eT F X0 (Lw.imp id fun q => ⟨q.1, q.2.1, E.2.2.2.2.2.1.trans q.2.2⟩) wi hty hn hf (g := mkF m pc Ls.toArray (v :: .ref a :: rest)) rfl rfl (hb E.2.1 hd)
    exact ⟨T', _, h', k, n, X', Pmt.snoc N ha, e', Nat.le_of_eq W'.size.symm, st', g h' W'⟩

theorem putfieldN {q1 : Nat} {i kk : Nat} {R0 O f d C : String} {ty : FieldType} {a : Addr} {v v' old : Value} (hd : decode bytes pc = .ok (.putfield i, 3)) (hq1 : pc + 3 = q1) (w : (Cond.fieldLink own i R0 f d).before a0 Z = true) (via : Via Z R0 O f d) (F : Fld Z h a O f d old) (X0 : Exa Z h a C) (Lw : (Cond.lays C O f d).before a0 Z = true ∨ ((Cond.laysFinal C O f d).before a0 Z = true ∧ own = O ∧ nam = "<init>")) (wi : (Cond.instantiable C kk).before a0 Z = true) (hty : parseFieldDescriptor d = some ty) (hn : narrow ty v = v') (hf : fits ty v' = true) (ha : a ∈ ws ∨ h0.size ≤ a)
    (g : ∀ h', Wr h h' a (Jvm.RoadKit.slotOf Z O f d) v' → Wp wd p l e R s m args below meth c Z own nam bytes maxL ret n0 h0 ws Q I h' k n q1 Ls rest) : Wp wd p l e R s m args below meth c Z own nam bytes maxL ret n0 h0 ws Q I h k n pc Ls (v :: .ref a :: rest) := by
  subst hq1
  exact  lawS fun E T L vm0 B X N eT => by
    obtain ⟨T', h', X', e', W', st'⟩ := putFN X E.1 (bZ E B) (bO E B) w via eT F X0 (Lw.imp id fun q => ⟨q.1, q.2.1, E.2.2.2.2.2.1.trans q.2.2⟩) wi hty hn hf (g := mkF m pc Ls.toArray (v :: .ref a :: rest)) rfl rfl (hb E.2.1 hd)
    exact ⟨T', _, h', k, n, X', Pmt.snoc N ha, e', Nat.le_of_eq W'.size.symm, st', g h' W'⟩

theorem getstatic {q1 : Nat} {i : Nat} {R0 O f d : String} {v : Value} (hd : decode bytes pc = .ok (.getstatic i, 3)) (hq1 : pc + 3 = q1) (w : (Cond.fieldLink own i R0 f d).before a0 Z = true) (via : Via Z R0 O f d) (F : Sta Z h O f d v) (g : Wp wd p l e R s m args below meth c Z own nam bytes maxL ret n0 h0 ws Q I h k n q1 Ls (v :: st)) : Wp wd p l e R s m args below meth c Z own nam bytes maxL ret n0 h0 ws Q I h k n pc Ls st := by
  subst hq1
  exact  lawS fun E T L vm0 B X N eT => by
    obtain ⟨T', X', e', st'⟩ := getS (host := "") X E.1 (bZ E B) (bO E B) w via eT F (g := mkF m pc Ls.toArray st) rfl (hb E.2.1 hd)
    exact ⟨T', L, h, k, n, X', N, e', Nat.le_refl _, st', g⟩

theorem checkcast {q1 : Nat} {i : Nat} {K : String} {a : Addr} (hd : decode bytes pc = .ok (.checkcast i, 3)) (hq1 : pc + 3 = q1) (w : (Cond.classLink own i K).before a0 Z = true) (II : Ins Z h a K true) (g : Wp wd p l e R s m args below meth c Z own nam bytes maxL ret n0 h0 ws Q I h k n q1 Ls (.ref a :: rest)) : Wp wd p l e R s m args below meth c Z own nam bytes maxL ret n0 h0 ws Q I h k n pc Ls (.ref a :: rest) := by
  subst hq1
  exact  lawS fun E T L vm0 B X N eT => by
    obtain ⟨T', X', e', st'⟩ := castY X E.1 (bZ E B) (bO E B) w eT II (g := mkF m pc Ls.toArray (.ref a :: rest)) rfl rfl (hb E.2.1 hd)
    exact ⟨T', L, h, k, n, X', N, e', Nat.le_refl _, st', g⟩

theorem instanceofY {q1 : Nat} {i : Nat} {K : String} {a : Addr} (hd : decode bytes pc = .ok (.instanceof i, 3)) (hq1 : pc + 3 = q1) (w : (Cond.classLink own i K).before a0 Z = true) (II : Ins Z h a K true) (g : Wp wd p l e R s m args below meth c Z own nam bytes maxL ret n0 h0 ws Q I h k n q1 Ls (.int 1 :: rest)) : Wp wd p l e R s m args below meth c Z own nam bytes maxL ret n0 h0 ws Q I h k n pc Ls (.ref a :: rest) := by
  subst hq1
  exact  lawS fun E T L vm0 B X N eT => by
    obtain ⟨T', X', e', st'⟩ := instY X E.1 (bZ E B) (bO E B) w eT II (g := mkF m pc Ls.toArray (.ref a :: rest)) rfl rfl (hb E.2.1 hd)
    exact ⟨T', L, h, k, n, X', N, e', Nat.le_refl _, st', g⟩

theorem new {q1 : Nat} {i sz : Nat} {C : String} (hd : decode bytes pc = .ok (.new i, 3)) (hq1 : pc + 3 = q1) (w : (Cond.classLink own i C).before a0 Z = true) (wi : (Cond.instantiable C sz).before a0 Z = true) (wz : (Cond.initialized C).before a0 Z = true) (hk : k + 1 ≤ R.cells) (hn : n + sz ≤ R.slots)
    (g : h0.size ≤ h.size → ∀ h', Ext h h' → Exa Z h' h.size C → (∀ {O nm d : String} {ty : FieldType}, Laid Z a0 C O nm d → parseFieldDescriptor d = some ty → Fld Z h' h.size O nm d (defaultValue ty)) → Unt h' h.size → Wp wd p l e R s m args below meth c Z own nam bytes maxL ret n0 h0 ws Q I h' (k + 1) (n + sz) q1 Ls (.ref h.size :: st)) : Wp wd p l e R s m args below meth c Z own nam bytes maxL ret n0 h0 ws Q I h k n pc Ls st := by
  subst hq1
  exact  lawS fun E T L vm0 B X N eT => by
    obtain ⟨T', h', X', e', E', A', D', U', st'⟩ := newO X E.1 (bZ E B) (bO E B) w wi wz eT (g := mkF m pc Ls.toArray st) rfl (hb E.2.1 hd) hk hn
    exact ⟨T', L, h', _, _, X', N, e', E'.1, st', g (szOf E X eT) h' E' A' D' U'⟩

/-- an array: its kind, length and values -/
def Ary (Z : State) (h : Heap) (a : Addr) (ty : FieldType) (len : Nat) (f : Nat → Value) : Prop := ∃ cl : Cell, Arr Z h a cl ty ∧ cl.slots.size = len ∧ len < 2 ^ 31 ∧ ∀ i, i < len → cl.slots[i]? = some (f i)
theorem Ary.lt {h : Heap} {a : Addr} {ty : FieldType} {len : Nat} {f : Nat → Value} (A : Ary Z h a ty len f) : a < h.size := by obtain ⟨c, q, -⟩ := A; exact q.lt
theorem Ary.ext {h h' : Heap} {a : Addr} {ty : FieldType} {len : Nat} {f : Nat → Value} (A : Ary Z h a ty len f) (E : Ext h h') : Ary Z h' a ty len f := by obtain ⟨c, q, r⟩ := A; exact ⟨c, q.ext E, r⟩
theorem Ary.other {h h' : Heap} {a b : Addr} {ty : FieldType} {len sl : Nat} {f : Nat → Value} {v : Value} (A : Ary Z h a ty len f) (W : Wr h h' b sl v) (q : a ≠ b) : Ary Z h' a ty len f := by obtain ⟨c, q', r⟩ := A; exact ⟨c, q'.other W q, r⟩
theorem Ary.keep {h h' : Heap} {a : Addr} {ty : FieldType} {len : Nat} {f : Nat → Value} {ws : List Addr} (A : Ary Z h a ty len f) (K : Keep h h' ws) (q : a ∉ ws) : Ary Z h' a ty len f := by obtain ⟨c, q', r⟩ := A; exact ⟨c, ⟨K.2.1 a c q'.1 q, q'.2⟩, r⟩
theorem Ary.same {h h' : Heap} {a : Addr} {ty : FieldType} {len j : Nat} {f : Nat → Value} {v : Value} (A : Ary Z h a ty len f) (W : Wr h h' a j v) : Ary Z h' a ty len (fun i => if i = j then v else f i) := by
  obtain ⟨c, q, r1, r2, r3⟩ := A
  refine ⟨_, q.same W, by rw [sz_set]; exact r1, r2, fun i hi => ?_⟩
  by_cases e : i = j
  · subst e; simp [Cell.setSlot, r1, hi]
  · simp only [e, if_false]; rw [← r3 i hi]; exact Array.getElem?_setIfInBounds_ne (Ne.symm e)
theorem Ary.cong {h : Heap} {a : Addr} {ty : FieldType} {len : Nat} {f f' : Nat → Value} (A : Ary Z h a ty len f) (q : ∀ i, i < len → f i = f' i) : Ary Z h a ty len f' := by obtain ⟨c, q', r1, r2, r3⟩ := A; exact ⟨c, q', r1, r2, fun i hi => by rw [← q i hi]; exact r3 i hi⟩
theorem Ary.bound {h : Heap} {a : Addr} {ty : FieldType} {len : Nat} {f : Nat → Value} (A : Ary Z h a ty len f) : len < 2 ^ 31 := by obtain ⟨c, q, r1, r2, r3⟩ := A; exact r2
theorem idx_ok {j : Int32} {i len : Nat} (hj : j.toInt = (i : Int)) (hi : i < len) {cl : Cell} (r : cl.slots.size = len) : ¬ (j < 0 ∨ cl.slots.size ≤ j.toNatClampNeg) ∧ j.toNatClampNeg = i := by
  have e : j.toNatClampNeg = i := by simp [Int32.toNatClampNeg, hj]
  refine ⟨fun q => ?_, e⟩
  rcases q with q | q
  · rw [Int32.lt_iff_toInt_lt, hj] at q; simp at q; omega
  · omega
theorem len_int {len : Nat} {z : Int32} (hz : z.toInt = (len : Int)) (hl : len < 2 ^ 31) : len.toInt32 = z := Int32.toInt_inj.mp (by rw [len_toInt hl, hz])
theorem arraylength {q1 : Nat} {a : Addr} {ty : FieldType} {len : Nat} {f : Nat → Value} {z : Int32} (hd : decode bytes pc = .ok (.arraylength, 1)) (hq1 : pc + 1 = q1) (A : Ary Z h a ty len f) (hz : z.toInt = (len : Int)) (g : Wp wd p l e R s m args below meth c Z own nam bytes maxL ret n0 h0 ws Q I h k n q1 Ls (.int z :: rest)) : Wp wd p l e R s m args below meth c Z own nam bytes maxL ret n0 h0 ws Q I h k n pc Ls (.ref a :: rest) := by
  subst hq1
  exact  step g fun E T L t vm0 B X eT hr => by
    obtain ⟨cl, q, r1, r2, r3⟩ := A
    refine X.arraylength E.1 (by rw [eT]; exact q.1) (State.isArrayOf_alike (bZ E B).alike q.2.1) (g := mkF m pc Ls.toArray (.ref a :: rest)) rfl rfl (hb E.2.1 hd) _ ?_
    rw [r1, len_int hz r2]; exact hr
/-- a fresh array -/
theorem newarray {q1 : Nat} {aty : ArrayType} {N : Int32} {len cap : Nat} (hd : decode bytes pc = .ok (.newarray aty, 2)) (hq1 : pc + 2 = q1) (w : (Cond.arrayClass (newarray.typeOf aty)).before a0 Z = true) (hN : N.toInt = (len : Int)) (hcap : len ≤ cap) (hb0 : cap * 8 ≤ 536870912) (hk : k + 1 ≤ R.cells) (hn : n + cap ≤ R.slots)
    (g : h0.size ≤ h.size → ∀ h', Ext h h' → Ary Z h' h.size (newarray.typeOf aty) len (fun _ => defaultValue (newarray.typeOf aty)) → Wp wd p l e R s m args below meth c Z own nam bytes maxL ret n0 h0 ws Q I h' (k + 1) (n + cap) q1 Ls (.ref h.size :: rest)) : Wp wd p l e R s m args below meth c Z own nam bytes maxL ret n0 h0 ws Q I h k n pc Ls (.int N :: rest) := by
  subst hq1
  exact  lawS fun E T L vm0 B X NN eT => by
    have hneg : ¬ N < 0 := by rw [Int32.lt_iff_toInt_lt, hN]; simp
    have hcl : N.toNatClampNeg = len := by simp [Int32.toNatClampNeg, hN]
    obtain ⟨T', h', cA, X', e', E', A', st'⟩ := newP X E.1 (bZ E B) w eT (g := mkF m pc Ls.toArray (.int N :: rest)) rfl (hb E.2.1 hd) rfl hneg (cap := cap) (by omega) hb0 hk hn
    refine ⟨T', L, h', _, _, X', NN, e', E'.1, st', g (szOf E X eT) h' E' ⟨_, A', by rw [sz_new, hcl], by omega, fun i hi => ?_⟩⟩
    simp [newA, hcl, hi]
/-- a fresh array of references, with what may lie in it -/
def AryR (Z : State) (h : Heap) (a : Addr) (C : String) (len : Nat) (f : Nat → Value) : Prop := ∃ cl : Cell, Arr Z h a cl (.object C) ∧ Ovr Z cl.cls C ∧ cl.slots.size = len ∧ len < 2 ^ 31 ∧ ∀ i, i < len → cl.slots[i]? = some (f i)
theorem AryR.ary {h : Heap} {a : Addr} {C : String} {len : Nat} {f : Nat → Value} (A : AryR Z h a C len f) : Ary Z h a (.object C) len f := by obtain ⟨c, q, -, r⟩ := A; exact ⟨c, q, r⟩
theorem AryR.lt {h : Heap} {a : Addr} {C : String} {len : Nat} {f : Nat → Value} (A : AryR Z h a C len f) : a < h.size := A.ary.lt
theorem AryR.ext {h h' : Heap} {a : Addr} {C : String} {len : Nat} {f : Nat → Value} (A : AryR Z h a C len f) (E : Ext h h') : AryR Z h' a C len f := by obtain ⟨c, q, r⟩ := A; exact ⟨c, q.ext E, r⟩
theorem AryR.other {h h' : Heap} {a b : Addr} {C : String} {len sl : Nat} {f : Nat → Value} {v : Value} (A : AryR Z h a C len f) (W : Wr h h' b sl v) (q : a ≠ b) : AryR Z h' a C len f := by obtain ⟨c, q', r⟩ := A; exact ⟨c, q'.other W q, r⟩
theorem AryR.keep {h h' : Heap} {a : Addr} {C : String} {len : Nat} {f : Nat → Value} {ws : List Addr} (A : AryR Z h a C len f) (K : Keep h h' ws) (q : a ∉ ws) : AryR Z h' a C len f := by obtain ⟨c, q', r⟩ := A; exact ⟨c, ⟨K.2.1 a c q'.1 q, q'.2⟩, r⟩
theorem AryR.same {h h' : Heap} {a : Addr} {C : String} {len j : Nat} {f : Nat → Value} {v : Value} (A : AryR Z h a C len f) (W : Wr h h' a j v) : AryR Z h' a C len (fun i => if i = j then v else f i) := by
  obtain ⟨c, q, o, r1, r2, r3⟩ := A
  refine ⟨_, q.same W, o, by rw [sz_set]; exact r1, r2, fun i hi => ?_⟩
  by_cases e : i = j
  · subst e; simp [Cell.setSlot, r1, hi]
  · simp only [e, if_false]; rw [← r3 i hi]; exact Array.getElem?_setIfInBounds_ne (Ne.symm e)
theorem AryR.cong {h : Heap} {a : Addr} {C : String} {len : Nat} {f f' : Nat → Value} (A : AryR Z h a C len f) (q : ∀ i, i < len → f i = f' i) : AryR Z h a C len f' := by obtain ⟨c, q', o, r1, r2, r3⟩ := A; exact ⟨c, q', o, r1, r2, fun i hi => by rw [← q i hi]; exact r3 i hi⟩
theorem anewarray {q1 : Nat} {i : Nat} {C : String} {N : Int32} {len cap : Nat} (hd : decode bytes pc = .ok (.anewarray i, 3)) (hq1 : pc + 3 = q1) (w1 : (Cond.classLink own i C).before a0 Z = true) (w2 : (Cond.arrayOver (.object C)).before a0 Z = true) (hN : N.toInt = (len : Int)) (hcap : len ≤ cap) (hb0 : cap * 8 ≤ 536870912) (hk : k + 1 ≤ R.cells) (hn : n + cap ≤ R.slots)
    (g : h0.size ≤ h.size → ∀ h', Ext h h' → AryR Z h' h.size C len (fun _ => .null) → Wp wd p l e R s m args below meth c Z own nam bytes maxL ret n0 h0 ws Q I h' (k + 1) (n + cap) q1 Ls (.ref h.size :: rest)) : Wp wd p l e R s m args below meth c Z own nam bytes maxL ret n0 h0 ws Q I h k n pc Ls (.int N :: rest) := by
  subst hq1
  exact  lawS fun E T L vm0 B X NN eT => by
    have hneg : ¬ N < 0 := by rw [Int32.lt_iff_toInt_lt, hN]; simp
    have hcl : N.toNatClampNeg = len := by simp [Int32.toNatClampNeg, hN]
    obtain ⟨T', h', cA, X', e', E', A', O', st'⟩ := newR X E.1 (bZ E B) (bO E B) w1 w2 eT (g := mkF m pc Ls.toArray (.int N :: rest)) rfl (hb E.2.1 hd) rfl hneg (cap := cap) (by omega) hb0 hk hn
    refine ⟨T', L, h', _, _, X', NN, e', E'.1, st', g (szOf E X eT) h' E' ⟨_, A', O', by rw [sz_new, hcl], by omega, fun i hi => ?_⟩⟩
    simp [newA, hcl, hi, defaultValue]

/-- a fresh array, with its class -/
theorem newarrayE {q1 : Nat} {aty : ArrayType} {N : Int32} {len cap : Nat} {ad : String} (hd : decode bytes pc = .ok (.newarray aty, 2)) (hq1 : pc + 2 = q1) (w : (Cond.arrayClass (newarray.typeOf aty)).before a0 Z = true) (hN : N.toInt = (len : Int)) (had : "[" ++ (newarray.typeOf aty).toString = ad) (hcap : len ≤ cap) (hb0 : cap * 8 ≤ 536870912) (hk : k + 1 ≤ R.cells) (hn : n + cap ≤ R.slots)
    (g : h0.size ≤ h.size → ∀ h', Ext h h' → Ary Z h' h.size (newarray.typeOf aty) len (fun _ => defaultValue (newarray.typeOf aty)) → Exa Z h' h.size ad → Wp wd p l e R s m args below meth c Z own nam bytes maxL ret n0 h0 ws Q I h' (k + 1) (n + cap) q1 Ls (.ref h.size :: rest)) : Wp wd p l e R s m args below meth c Z own nam bytes maxL ret n0 h0 ws Q I h k n pc Ls (.int N :: rest) := by
  subst hq1
  exact  lawS fun E T L vm0 B X NN eT => by
    have hneg : ¬ N < 0 := by rw [Int32.lt_iff_toInt_lt, hN]; simp
    have hcl : N.toNatClampNeg = len := by simp [Int32.toNatClampNeg, hN]
    obtain ⟨T', h', cA, X', e', E', A', E2, st'⟩ := newPE X E.1 (bZ E B) w eT (g := mkF m pc Ls.toArray (.int N :: rest)) rfl (hb E.2.1 hd) rfl hneg (cap := cap) (by omega) hb0 hk hn had
    refine ⟨T', L, h', _, _, X', NN, e', E'.1, st', g (szOf E X eT) h' E' ⟨_, A', by rw [sz_new, hcl], by omega, fun i hi => ?_⟩ E2⟩
    simp [newA, hcl, hi]
/-- the clone of an array -/
theorem cloneArr {q1 : Nat} {i len cap : Nat} {ad : String} {ty : FieldType} {f : Nat → Value} {a : Addr} (hd : decode bytes pc = .ok (.invokevirtual i, 3)) (hq1 : pc + 3 = q1) (w1 : (Cond.methodLink own i ⟨ad, "clone", "()Ljava/lang/Object;"⟩).before a0 Z = true) (w2 : (Cond.sameMethod ad "java/lang/Object" "clone" "()Ljava/lang/Object;").before a0 Z = true) (w3 : (Cond.native ⟨"java/lang/Object", "clone", "()Ljava/lang/Object;"⟩).before a0 Z = true)
    (w4 : (Cond.instanceMethod ⟨"java/lang/Object", "clone", "()Ljava/lang/Object;"⟩).before a0 Z = true) (w5 : (Cond.selects ad ⟨ad, "clone", "()Ljava/lang/Object;"⟩ ⟨"java/lang/Object", "clone", "()Ljava/lang/Object;"⟩).before a0 Z = true) (w6 : (Cond.castable ad "java/lang/Cloneable").before a0 Z = true)
    (A : Ary Z h a ty len f) (X0 : Exa Z h a ad) (hfit : ∀ j, j < len → fits ty (f j) = true) (hL : Ls.length = maxL) (hcap : len ≤ cap) (hr : (Nat.ble 1 R.frames && Nat.ble ((rest.map fun v => v.category).sum + 14) R.locals && Nat.ble (k + 1) R.cells && Nat.ble (n + cap) R.slots) = true)
    (g : h0.size ≤ h.size → ∀ h', Ext h h' → Ary Z h' h.size ty len f → Exa Z h' h.size ad → Wp wd p l e R s m args below meth c Z own nam bytes maxL ret n0 h0 ws Q I h' (k + 1) (n + cap) q1 Ls (.ref h.size :: rest)) : Wp wd p l e R s m args below meth c Z own nam bytes maxL ret n0 h0 ws Q I h k n pc Ls (.ref a :: rest) := by
  subst hq1
  exact  lawS fun E T L vm0 B X NN eT => by
    simp only [Bool.and_eq_true] at hr
    obtain ⟨cl, q, r1, r2, r3⟩ := A
    obtain ⟨T', h', X', e', E', A', E2, st'⟩ := cloneA X E.1 (bZ E B) (bO E B) w1 w2 w3 w4 w5 w6 eT q X0 (fitC_of q fun j hj v hv => by rw [r3 j (by omega)] at hv; cases hv; exact hfit j (by omega)) (g := mkF m pc Ls.toArray (.ref a :: rest)) rfl (by rw [E.2.2.1, ← hL]; simp) rfl (hb E.2.1 hd) (Nat.le_of_ble_eq_true hr.1.1.1) (W := (rest.map fun v => v.category).sum) (cap := cap) (by show 2 * 0 + _ ≤ _; omega) (Nat.le_of_ble_eq_true hr.1.1.2) (by omega) (Nat.le_of_ble_eq_true hr.1.2) (Nat.le_of_ble_eq_true hr.2)
    exact ⟨T', L, h', _, _, X', NN, e', E'.1, st', g (szOf E X eT) h' E' ⟨_, A', r1, r2, r3⟩ E2⟩
theorem Ary.arv {h : Heap} {a : Addr} {ty : FieldType} {len : Nat} {f : Nat → Value} {z : Int32} (A : Ary Z h a ty len f) (hz : z.toInt = (len : Int)) (hfit : ∀ j, j < len → fits ty (f j) = true) : ∃ kk, Arv Z h a kk ty z ((List.range len).map f) (defaultValue ty) := by
  obtain ⟨cl, q, r1, r2, r3⟩ := A
  have hcl : z.toNatClampNeg = len := by simp [Int32.toNatClampNeg, hz]
  have e : ∀ j, j < len → ((List.range len).map f).getD j (defaultValue ty) = f j := fun j hj => by simp [List.getD_eq_getElem?_getD, hj]
  exact ⟨_, cl, q, rfl, by rw [r1, hcl], by rw [Int32.lt_iff_toInt_lt, hz]; simp, fun j hj => by rw [e j (by omega)]; exact r3 j (by omega), fun j hj => by rw [e j (by omega)]; exact hfit j (by omega)⟩
/-- System.arraycopy of the first nn values into a new array; the body writes nothing old -/
theorem arraycopy0 {q1 : Nat} {i la lb nn : Nat} {ty : FieldType} {fa fb : Nat → Value} {a b : Addr} {za zb nI : Int32} (hd : decode bytes pc = .ok (.invokestatic i, 3)) (hq1 : pc + 3 = q1) (w1 : (Cond.methodLink own i Jvm.Stand.acN).before a0 Z = true) (w2 : (Cond.native Jvm.Stand.acN).before a0 Z = true) (w3 : (Cond.static Jvm.Stand.acN).before a0 Z = true) (w4 : (Cond.initialized "java/lang/System").before a0 Z = true)
    (A : Ary Z h a ty la fa) (B0 : Ary Z h b ty lb fb) (hty : refKind ty = false) (hza : za.toInt = (la : Int)) (hzb : zb.toInt = (lb : Int)) (hn : nI.toInt = (nn : Int)) (h1 : nn ≤ la) (h2 : nn ≤ lb) (hfa : ∀ j, j < la → fits ty (fa j) = true) (hfb : ∀ j, j < lb → fits ty (fb j) = true) (hws : ws = []) (hb0 : h0.size ≤ b) (hL : Ls.length = maxL)
    (hr : (Nat.ble 1 R.frames && Nat.ble ((rest.map fun v => v.category).sum + (nativeFrameWords "java/lang/System" "arraycopy" 5 + 11)) R.locals) = true)
    (g : ∀ h', Keep h h' [b] → Ary Z h' b ty lb (fun j => if j < nn then fa j else fb j) → Wp wd p l e R s m args below meth c Z own nam bytes maxL ret n0 h0 ws Q I h' k n q1 Ls rest) : Wp wd p l e R s m args below meth c Z own nam bytes maxL ret n0 h0 ws Q I h k n pc Ls (.int nI :: .int 0 :: .ref b :: .int 0 :: .ref a :: rest) := by
  subst hq1
  subst hws
  exact lawS fun E T L vm0 B X NN eT => by
    have hr' := Bool.and_eq_true_iff.mp hr
    obtain ⟨ka, Aa⟩ := A.arv hza hfa
    obtain ⟨kb, Ab⟩ := B0.arv hzb hfb
    have ca : za.toNatClampNeg = la := by simp [Int32.toNatClampNeg, hza]
    have cb : zb.toNatClampNeg = lb := by simp [Int32.toNatClampNeg, hzb]
    have cn : nI.toNatClampNeg = nn := by simp [Int32.toNatClampNeg, hn]
    have c0 : (0 : Int32).toNatClampNeg = 0 := rfl
    obtain ⟨T', h', L', X', e', N', K', A', st'⟩ := cpA X E.1 (bZ E B) (bO E B) w1 w2 w3 w4 eT Aa Ab (Or.inl ⟨rfl, hty⟩) (by decide) (by decide) (by rw [Int32.lt_iff_toInt_lt, hn]; simp) (by rw [c0, cn, ca]; omega) (by rw [c0, cn, cb]; omega) rfl (by rw [c0, cn]; simp; omega) (n0 := h0.size) (fun y hy => (NN y hy).elim (fun q => nomatch q) id) hb0 (g := mkF m pc Ls.toArray (.int nI :: .int 0 :: .ref b :: .int 0 :: .ref a :: rest)) rfl (by rw [E.2.2.1, ← hL]; simp) (rest := rest) rfl (hb E.2.1 hd) (Nat.le_of_ble_eq_true hr'.1) (W := (rest.map fun v => v.category).sum) (by show 2 * 0 + _ ≤ _; omega) (Nat.le_of_ble_eq_true hr'.2)
    refine ⟨T', L', h', k, n, X', fun y hy => Or.inr (N' y hy), e', K'.1, st', g h' K' ?_⟩
    obtain ⟨cl, q, -, s1, -, s2, -⟩ := A'
    refine ⟨cl, q, by rw [s1, cb], B0.bound, fun j hj => ?_⟩
    rw [s2 j (by rw [s1, cb]; exact hj), c0, cn]
    congr 1
    by_cases e : j < nn
    · simp [List.getD_eq_getElem?_getD, e, List.getElem?_append, show j < la by omega]
    · simp [List.getD_eq_getElem?_getD, e, List.getElem?_append, show nn + (j - nn) = j by omega, List.getElem?_range hj]
theorem sameVia {s T T' : State} {L L' : List Loc} {k n N : Nat} {b : Addr} (q : s.sameButNew T L k n) (q' : s.sameButNew T' L' k n) (K : Keep T.heap T'.heap [b]) (hN : ∀ c, T'.heap[b]? = some c → c.slots.size ≤ N) : s.sameButNew T' (L ++ (List.range N).map fun j => (⟨b, j⟩ : Loc)) k n := by
  refine ⟨q'.1, q'.2.1, q'.2.2.1, q'.2.2.2.1, q'.2.2.2.2.1, fun x c hx => ?_⟩
  by_cases e : x = b
  · subst e
    obtain ⟨c', r1, r2, r3, r4⟩ := q'.2.2.2.2.2 x c hx
    refine ⟨c', r1, r2, r3, fun j hj => ?_⟩
    have hs := hN c' r1
    have hge : N ≤ j := Nat.le_of_not_lt fun z => hj (List.mem_append_right _ (List.mem_map.mpr ⟨j, List.mem_range.mpr z, rfl⟩))
    rw [Array.getElem?_eq_none (by omega), Array.getElem?_eq_none (by omega)]
  · obtain ⟨c', r1, r2, r3, r4⟩ := q.2.2.2.2.2 x c hx
    exact ⟨c', K.2.1 x c' r1 fun z => e (List.mem_singleton.mp z), r2, r3, fun j hj => r4 j fun z => hj (List.mem_append_left _ z)⟩
/-- System.arraycopy between arrays of one kind; of the values nothing is said but that they are of the kind -/
theorem arraycopyG {q1 : Nat} {i la lb nn sn dn : Nat} {ty : FieldType} {fa fb : Nat → Value} {a b : Addr} {za zb nI sI dI : Int32} (hd : decode bytes pc = .ok (.invokestatic i, 3)) (hq1 : pc + 3 = q1) (w1 : (Cond.methodLink own i Jvm.Stand.acN).before a0 Z = true) (w2 : (Cond.native Jvm.Stand.acN).before a0 Z = true) (w3 : (Cond.static Jvm.Stand.acN).before a0 Z = true) (w4 : (Cond.initialized "java/lang/System").before a0 Z = true)
    (A : Ary Z h a ty la fa) (B0 : Ary Z h b ty lb fb) (hty : refKind ty = false) (hza : za.toInt = (la : Int)) (hzb : zb.toInt = (lb : Int)) (hn : nI.toInt = (nn : Int)) (hsI : sI.toInt = (sn : Int)) (hdI : dI.toInt = (dn : Int)) (h1 : sn + nn ≤ la) (h2 : dn + nn ≤ lb) (hfa : ∀ j, j < la → fits ty (fa j) = true) (hfb : ∀ j, j < lb → fits ty (fb j) = true) (hb0 : b ∈ ws ∨ h0.size ≤ b) (hL : Ls.length = maxL)
    (hr : (Nat.ble 1 R.frames && Nat.ble ((rest.map fun v => v.category).sum + (nativeFrameWords "java/lang/System" "arraycopy" 5 + 11)) R.locals) = true)
    (g : ∀ h' f', Keep h h' [b] → Ary Z h' b ty lb f' → (∀ j, j < lb → fits ty (f' j) = true) → Wp wd p l e R s m args below meth c Z own nam bytes maxL ret n0 h0 ws Q I h' k n q1 Ls rest) : Wp wd p l e R s m args below meth c Z own nam bytes maxL ret n0 h0 ws Q I h k n pc Ls (.int nI :: .int dI :: .ref b :: .int sI :: .ref a :: rest) := by
  subst hq1
  exact  lawS fun E T L vm0 B X NN eT => by
    have hr' := Bool.and_eq_true_iff.mp hr
    obtain ⟨ka, Aa⟩ := A.arv hza hfa
    obtain ⟨kb, Ab⟩ := B0.arv hzb hfb
    have ca : za.toNatClampNeg = la := by simp [Int32.toNatClampNeg, hza]
    have cb : zb.toNatClampNeg = lb := by simp [Int32.toNatClampNeg, hzb]
    have cn : nI.toNatClampNeg = nn := by simp [Int32.toNatClampNeg, hn]
    have cs : sI.toNatClampNeg = sn := by simp [Int32.toNatClampNeg, hsI]
    have cd : dI.toNatClampNeg = dn := by simp [Int32.toNatClampNeg, hdI]
    obtain ⟨T', h', L', X', e', N', K', A', st'⟩ := cpA X E.1 (bZ E B) (bO E B) w1 w2 w3 w4 eT Aa Ab (Or.inl ⟨rfl, hty⟩) (by rw [Int32.lt_iff_toInt_lt, hsI]; simp) (by rw [Int32.lt_iff_toInt_lt, hdI]; simp) (by rw [Int32.lt_iff_toInt_lt, hn]; simp) (by rw [cs, cn, ca]; exact h1) (by rw [cd, cn, cb]; exact h2) rfl (by rw [cd, cn]; simp; omega) (n0 := 0) (fun y hy => Nat.zero_le _) (Nat.zero_le _) (g := mkF m pc Ls.toArray (.int nI :: .int dI :: .ref b :: .int sI :: .ref a :: rest)) rfl (by rw [E.2.2.1, ← hL]; simp) (rest := rest) rfl (hb E.2.1 hd) (Nat.le_of_ble_eq_true hr'.1) (W := (rest.map fun v => v.category).sum) (by show 2 * 0 + _ ≤ _; omega) (Nat.le_of_ble_eq_true hr'.2)
    obtain ⟨cl, q, -, s1, -, s2, s3⟩ := A'
    have K2 : Keep T.heap T'.heap [b] := by rw [eT, e']; exact K'
    have same := sameVia (N := lb) X.same X'.same K2 (fun c hc => by have hc : T'.heap[b]? = some c := hc; rw [e'] at hc; cases q.1.symm.trans hc; rw [s1, cb]; exact Nat.le_refl _)
    have X2 : Stand p l e R (s.setVm vm0) m args below meth c T' (L ++ (List.range lb).map fun j => (⟨b, j⟩ : Loc)) k n := ⟨X'.admits, X'.cas, X'.clock, X'.frames, X'.room, X'.hears, X'.method, X'.code, X'.here, X'.tail, X'.warmed, X'.limits, X'.bytes, same⟩
    refine ⟨T', _, h', k, n, X2, NN.app (fun y hy => by obtain ⟨j, -, rfl⟩ := List.mem_map.mp hy; exact hb0), e', K'.1, st', g h' _ K' ⟨cl, q, by rw [s1, cb], B0.bound, fun j hj => s2 j (by rw [s1, cb]; exact hj)⟩ (fun j hj => s3 j (by rw [s1, cb]; exact hj))⟩
theorem ldcF {q1 : Nat} {i : Nat} {v : UInt32} (hd : decode bytes pc = .ok (.ldc i, 2)) (hq1 : pc + 2 = q1) (w : (Cond.constantFloat own i v).before a0 Z = true) (g : Wp wd p l e R s m args below meth c Z own nam bytes maxL ret n0 h0 ws Q I h k n q1 Ls (.float v :: st)) : Wp wd p l e R s m args below meth c Z own nam bytes maxL ret n0 h0 ws Q I h k n pc Ls st := by
  subst hq1
  exact  step g fun E T L t vm0 B X _ hr => X.ldcFloatC E.1 (bO E B) (mvT (bZ E B) w) (g := mkF m pc Ls.toArray st) rfl (hb E.2.1 hd) _ hr

theorem iaload {q1 : Nat} {a : Addr} {len i : Nat} {f : Nat → Value} {j : Int32} {v : Value} (hd : decode bytes pc = .ok (.iaload, 1)) (hq1 : pc + 1 = q1) (A : Ary Z h a .int len f) (hj : j.toInt = (i : Int)) (hi : i < len) (hv : f i = v) (g : Wp wd p l e R s m args below meth c Z own nam bytes maxL ret n0 h0 ws Q I h k n q1 Ls (v :: rest)) : Wp wd p l e R s m args below meth c Z own nam bytes maxL ret n0 h0 ws Q I h k n pc Ls (.int j :: .ref a :: rest) := by
  subst hq1
  exact  step g fun E T L t vm0 B X eT hr => by
    obtain ⟨cl, q, r1, r2, r3⟩ := A
    obtain ⟨b1, b2⟩ := idx_ok hj hi r1
    exact X.iaload E.1 (v := v) (by rw [eT]; exact q.1) (State.isArrayOf_alike (bZ E B).alike q.2.1) q.2.2 b1 (by rw [b2, r3 i hi, hv]) (g := mkF m pc Ls.toArray (.int j :: .ref a :: rest)) rfl rfl (hb E.2.1 hd) _ hr

theorem laload {q1 : Nat} {a : Addr} {len i : Nat} {f : Nat → Value} {j : Int32} {v : Value} (hd : decode bytes pc = .ok (.laload, 1)) (hq1 : pc + 1 = q1) (A : Ary Z h a .long len f) (hj : j.toInt = (i : Int)) (hi : i < len) (hv : f i = v) (g : Wp wd p l e R s m args below meth c Z own nam bytes maxL ret n0 h0 ws Q I h k n q1 Ls (v :: rest)) : Wp wd p l e R s m args below meth c Z own nam bytes maxL ret n0 h0 ws Q I h k n pc Ls (.int j :: .ref a :: rest) := by
  subst hq1
  exact  step g fun E T L t vm0 B X eT hr => by
    obtain ⟨cl, q, r1, r2, r3⟩ := A
    obtain ⟨b1, b2⟩ := idx_ok hj hi r1
    exact X.laload E.1 (v := v) (by rw [eT]; exact q.1) (State.isArrayOf_alike (bZ E B).alike q.2.1) q.2.2 b1 (by rw [b2, r3 i hi, hv]) (g := mkF m pc Ls.toArray (.int j :: .ref a :: rest)) rfl rfl (hb E.2.1 hd) _ hr

theorem caload {q1 : Nat} {a : Addr} {len i : Nat} {f : Nat → Value} {j : Int32} {v : Value} (hd : decode bytes pc = .ok (.caload, 1)) (hq1 : pc + 1 = q1) (A : Ary Z h a .char len f) (hj : j.toInt = (i : Int)) (hi : i < len) (hv : f i = v) (g : Wp wd p l e R s m args below meth c Z own nam bytes maxL ret n0 h0 ws Q I h k n q1 Ls (v :: rest)) : Wp wd p l e R s m args below meth c Z own nam bytes maxL ret n0 h0 ws Q I h k n pc Ls (.int j :: .ref a :: rest) := by
  subst hq1
  exact  step g fun E T L t vm0 B X eT hr => by
    obtain ⟨cl, q, r1, r2, r3⟩ := A
    obtain ⟨b1, b2⟩ := idx_ok hj hi r1
    exact X.caload E.1 (v := v) (by rw [eT]; exact q.1) (State.isArrayOf_alike (bZ E B).alike q.2.1) q.2.2 b1 (by rw [b2, r3 i hi, hv]) (g := mkF m pc Ls.toArray (.int j :: .ref a :: rest)) rfl rfl (hb E.2.1 hd) _ hr

theorem baload {q1 : Nat} {a : Addr} {len i : Nat} {f : Nat → Value} {j : Int32} {v : Value} (hd : decode bytes pc = .ok (.baload, 1)) (hq1 : pc + 1 = q1) (A : Ary Z h a .byte len f) (hj : j.toInt = (i : Int)) (hi : i < len) (hv : f i = v) (g : Wp wd p l e R s m args below meth c Z own nam bytes maxL ret n0 h0 ws Q I h k n q1 Ls (v :: rest)) : Wp wd p l e R s m args below meth c Z own nam bytes maxL ret n0 h0 ws Q I h k n pc Ls (.int j :: .ref a :: rest) := by
  subst hq1
  exact  step g fun E T L t vm0 B X eT hr => by
    obtain ⟨cl, q, r1, r2, r3⟩ := A
    obtain ⟨b1, b2⟩ := idx_ok hj hi r1
    exact X.baloadBytes E.1 (v := v) (by rw [eT]; exact q.1) (State.isArrayOf_alike (bZ E B).alike q.2.1) q.2.2 b1 (by rw [b2, r3 i hi, hv]) (g := mkF m pc Ls.toArray (.int j :: .ref a :: rest)) rfl rfl (hb E.2.1 hd) _ hr

theorem aaload {q1 : Nat} {a : Addr} {len i : Nat} {ty : FieldType} {f : Nat → Value} {j : Int32} {v : Value} (hd : decode bytes pc = .ok (.aaload, 1)) (hq1 : pc + 1 = q1) (A : Ary Z h a ty len f) (hty : ty.isReference = true) (hj : j.toInt = (i : Int)) (hi : i < len) (hv : f i = v) (g : Wp wd p l e R s m args below meth c Z own nam bytes maxL ret n0 h0 ws Q I h k n q1 Ls (v :: rest)) : Wp wd p l e R s m args below meth c Z own nam bytes maxL ret n0 h0 ws Q I h k n pc Ls (.int j :: .ref a :: rest) := by
  subst hq1
  exact  step g fun E T L t vm0 B X eT hr => by
    obtain ⟨cl, q, r1, r2, r3⟩ := A
    obtain ⟨b1, b2⟩ := idx_ok hj hi r1
    exact X.aaload E.1 (v := v) (by rw [eT]; exact q.1) (State.isArrayOf_alike (bZ E B).alike q.2.1) hty q.2.2 b1 (by rw [b2, r3 i hi, hv]) (g := mkF m pc Ls.toArray (.int j :: .ref a :: rest)) rfl rfl (hb E.2.1 hd) _ hr

theorem iastore {q1 : Nat} {a : Addr} {len i : Nat} {f : Nat → Value} {j : Int32} {x : Int32} (hd : decode bytes pc = .ok (.iastore, 1)) (hq1 : pc + 1 = q1) (A : Ary Z h a .int len f) (hj : j.toInt = (i : Int)) (hi : i < len) (ha : a ∈ ws ∨ h0.size ≤ a) (g : ∀ h', Wr h h' a i (.int x) → Wp wd p l e R s m args below meth c Z own nam bytes maxL ret n0 h0 ws Q I h' k n q1 Ls rest) : Wp wd p l e R s m args below meth c Z own nam bytes maxL ret n0 h0 ws Q I h k n pc Ls (.int x :: .int j :: .ref a :: rest) := by
  subst hq1
  exact  lawS fun E T L vm0 B X N eT => by
    obtain ⟨cl, q, r1, r2, r3⟩ := A
    obtain ⟨b1, b2⟩ := idx_ok hj hi r1
    obtain ⟨T', h', X', e', W', st'⟩ := stI X E.1 (bZ E B) eT q b1 (g := mkF m pc Ls.toArray (.int x :: .int j :: .ref a :: rest)) rfl rfl (hb E.2.1 hd)
    exact ⟨T', _, h', k, n, X', Pmt.snoc N ha, e', Nat.le_of_eq W'.size.symm, st', g h' (b2 ▸ W')⟩

theorem castore {q1 : Nat} {a : Addr} {len i : Nat} {f : Nat → Value} {j : Int32} {x : Int32} (hd : decode bytes pc = .ok (.castore, 1)) (hq1 : pc + 1 = q1) (A : Ary Z h a .char len f) (hj : j.toInt = (i : Int)) (hi : i < len) (ha : a ∈ ws ∨ h0.size ≤ a) (g : ∀ h', Wr h h' a i (.int (nar .char x)) → Wp wd p l e R s m args below meth c Z own nam bytes maxL ret n0 h0 ws Q I h' k n q1 Ls rest) : Wp wd p l e R s m args below meth c Z own nam bytes maxL ret n0 h0 ws Q I h k n pc Ls (.int x :: .int j :: .ref a :: rest) := by
  subst hq1
  exact  lawS fun E T L vm0 B X N eT => by
    obtain ⟨cl, q, r1, r2, r3⟩ := A
    obtain ⟨b1, b2⟩ := idx_ok hj hi r1
    obtain ⟨T', h', X', e', W', st'⟩ := stC X E.1 (bZ E B) eT q b1 (g := mkF m pc Ls.toArray (.int x :: .int j :: .ref a :: rest)) rfl rfl (hb E.2.1 hd)
    exact ⟨T', _, h', k, n, X', Pmt.snoc N ha, e', Nat.le_of_eq W'.size.symm, st', g h' (b2 ▸ W')⟩

theorem bastore {q1 : Nat} {a : Addr} {len i : Nat} {f : Nat → Value} {j : Int32} {x : Int32} (hd : decode bytes pc = .ok (.bastore, 1)) (hq1 : pc + 1 = q1) (A : Ary Z h a .byte len f) (hj : j.toInt = (i : Int)) (hi : i < len) (ha : a ∈ ws ∨ h0.size ≤ a) (g : ∀ h', Wr h h' a i (.int (nar .byte x)) → Wp wd p l e R s m args below meth c Z own nam bytes maxL ret n0 h0 ws Q I h' k n q1 Ls rest) : Wp wd p l e R s m args below meth c Z own nam bytes maxL ret n0 h0 ws Q I h k n pc Ls (.int x :: .int j :: .ref a :: rest) := by
  subst hq1
  exact  lawS fun E T L vm0 B X N eT => by
    obtain ⟨cl, q, r1, r2, r3⟩ := A
    obtain ⟨b1, b2⟩ := idx_ok hj hi r1
    obtain ⟨T', h', X', e', W', st'⟩ := stB X E.1 (bZ E B) eT q b1 (g := mkF m pc Ls.toArray (.int x :: .int j :: .ref a :: rest)) rfl rfl (hb E.2.1 hd)
    exact ⟨T', _, h', k, n, X', Pmt.snoc N ha, e', Nat.le_of_eq W'.size.symm, st', g h' (b2 ▸ W')⟩

theorem lastore {q1 : Nat} {a : Addr} {len i : Nat} {f : Nat → Value} {j : Int32} {x : Int64} (hd : decode bytes pc = .ok (.lastore, 1)) (hq1 : pc + 1 = q1) (A : Ary Z h a .long len f) (hj : j.toInt = (i : Int)) (hi : i < len) (ha : a ∈ ws ∨ h0.size ≤ a) (g : ∀ h', Wr h h' a i (.long x) → Wp wd p l e R s m args below meth c Z own nam bytes maxL ret n0 h0 ws Q I h' k n q1 Ls rest) : Wp wd p l e R s m args below meth c Z own nam bytes maxL ret n0 h0 ws Q I h k n pc Ls (.long x :: .int j :: .ref a :: rest) := by
  subst hq1
  exact  lawS fun E T L vm0 B X N eT => by
    obtain ⟨cl, q, r1, r2, r3⟩ := A
    obtain ⟨b1, b2⟩ := idx_ok hj hi r1
    obtain ⟨T', h', X', e', W', st'⟩ := stJ X E.1 (bZ E B) eT q b1 (g := mkF m pc Ls.toArray (.long x :: .int j :: .ref a :: rest)) rfl rfl (hb E.2.1 hd)
    exact ⟨T', _, h', k, n, X', Pmt.snoc N ha, e', Nat.le_of_eq W'.size.symm, st', g h' (b2 ▸ W')⟩

theorem aastore {q1 : Nat} {a : Addr} {C : String} {len i : Nat} {f : Nat → Value} {j : Int32} {v : Value} (hd : decode bytes pc = .ok (.aastore, 1)) (hq1 : pc + 1 = q1) (A : AryR Z h a C len f) (hj : j.toInt = (i : Int)) (hi : i < len) (ha : a ∈ ws ∨ h0.size ≤ a) (hS : v = .null ∨ ∃ y, v = .ref y ∧ Ins Z h y C true) (g : ∀ h', Wr h h' a i v → Wp wd p l e R s m args below meth c Z own nam bytes maxL ret n0 h0 ws Q I h' k n q1 Ls rest) : Wp wd p l e R s m args below meth c Z own nam bytes maxL ret n0 h0 ws Q I h k n pc Ls (v :: .int j :: .ref a :: rest) := by
  subst hq1
  exact  lawS fun E T L vm0 B X N eT => by
    obtain ⟨cl, q, o, r1, r2, r3⟩ := A
    obtain ⟨b1, b2⟩ := idx_ok hj hi r1
    have S : Sto Z h a v := by
      rcases hS with rfl | ⟨y, rfl, I⟩
      · exact Or.inl rfl
      · exact Sto.of q o I
    obtain ⟨T', h', X', e', W', st'⟩ := stR X E.1 (bZ E B) eT q b1 rfl S (g := mkF m pc Ls.toArray (v :: .int j :: .ref a :: rest)) rfl rfl (hb E.2.1 hd)
    exact ⟨T', _, h', k, n, X', Pmt.snoc N ha, e', Nat.le_of_eq W'.size.symm, st', g h' (b2 ▸ W')⟩

theorem initObj {q1 : Nat} {i : Nat} {a : Addr} (hd : decode bytes pc = .ok (.invokespecial i, 3)) (hq1 : pc + 3 = q1) (w1 : (Cond.methodLink own i Lib.objectInit).before a0 Z = true) (w2 : (Cond.instanceMethod Lib.objectInit).before a0 Z = true) (w3 : (Cond.code Lib.objectInit ⟨#[0xb1]⟩ 1 none).before a0 Z = true) (hL : Ls.length = maxL) (hr : (Nat.ble 1 R.frames && Nat.ble ((rest.map fun v => v.category).sum + 12) R.locals) = true) (g : Wp wd p l e R s m args below meth c Z own nam bytes maxL ret n0 h0 ws Q I h k n q1 Ls rest) : Wp wd p l e R s m args below meth c Z own nam bytes maxL ret n0 h0 ws Q I h k n pc Ls (.ref a :: rest) := by
  subst hq1
  exact  lawS fun E T L vm0 B X N eT => by
    have hr' := Bool.and_eq_true_iff.mp hr
    obtain ⟨T', X', e', st'⟩ := initO X E.1 (bZ E B) (bO E B) w1 w2 w3 eT (g := mkF m pc Ls.toArray (.ref a :: rest)) rfl (by rw [E.2.2.1, ← hL]; simp) rfl (hb E.2.1 hd) (Nat.le_of_ble_eq_true hr'.1) (W := (rest.map fun v => v.category).sum) (by show 2 * 0 + _ ≤ _; omega) (Nat.le_of_ble_eq_true hr'.2)
    exact ⟨T', L, h, k, n, X', N, e', Nat.le_refl _, st', g⟩

/-- the room that a call asks -/
def roomOk (R rm : Room) (maxL' : Nat) (rest : List Value) (k n : Nat) : Bool := Nat.ble (rm.frames + 1) R.frames && Nat.ble ((rest.map fun v => v.category).sum + (maxL' + 11) + rm.locals) R.locals && Nat.ble (k + rm.cells) R.cells && Nat.ble (n + rm.slots) R.slots
theorem roomOk_spec {R rm : Room} {maxL' k n : Nat} {rest : List Value} (h : roomOk R rm maxL' rest k n = true) : rm.frames + 1 ≤ R.frames ∧ (rest.map fun v => v.category).sum + (maxL' + 11) + rm.locals ≤ R.locals ∧ k + rm.cells ≤ R.cells ∧ n + rm.slots ≤ R.slots := by
  simp only [roomOk, Bool.and_eq_true] at h
  exact ⟨Nat.le_of_ble_eq_true h.1.1.1, Nat.le_of_ble_eq_true h.1.1.2, Nat.le_of_ble_eq_true h.1.2, Nat.le_of_ble_eq_true h.2⟩
theorem rev_eq (as r : List Value) : List.reverseAux as r = as.reverse ++ r := by simp [List.reverseAux_eq]
section Calls
variable {y : MethodName} {bytes' : ByteArray} {maxL' : Nat} {ret' : Option FieldType} {rm : Room} {as : List Value} {ws' : List Addr} {Q' : Option Value → Heap → Prop} {ps : List FieldType} {r' : Option FieldType} {i : Nat} {a : Addr}
theorem invokestatic {q1 : Nat} (hd : decode bytes pc = .ok (.invokestatic i, 3)) (hq1 : pc + 3 = q1) (w1 : (Cond.methodLink own i y).before a0 Z = true) (w2 : (Cond.static y).before a0 Z = true) (w3 : (Cond.initialized y.cls).before a0 Z = true) (w4 : (Cond.code y bytes' maxL' ret').before a0 Z = true) (hy : y.cls ≠ "java/lang/invoke/MethodHandle" ∧ y.cls ≠ "java/lang/invoke/VarHandle") (pd : parseMethodDescriptor y.desc = some ⟨ps, r'⟩)
    (C : Con l Z n0 y bytes' maxL' ret' rm as h ws' Q') (hst : st = List.reverseAux as rest) (hlen : as.length = ps.length) (hL : Ls.length = maxL) (hr : roomOk R rm maxL' rest k n = true) (hws : ∀ x ∈ ws', x ∈ ws ∨ h0.size ≤ x) (g : ∀ v h', Q' v h' → Keep h h' ws' → Wp wd p l e R s m args below meth c Z own nam bytes maxL ret n0 h0 ws Q I h' (k + rm.cells) (n + rm.slots) q1 Ls (psh v rest)) : Wp wd p l e R s m args below meth c Z own nam bytes maxL ret n0 h0 ws Q I h k n pc Ls st := by
  subst hq1
  exact  fun E T L vm0 B X N eT => by
    obtain ⟨r1, r2, r3, r4⟩ := roomOk_spec hr
    subst hst
    obtain ⟨v, vm, ⟨T1, L1, k1, n1⟩, -, X1, ⟨Lc, hQ, l1, y1, z1⟩, st1⟩ := Jvm.LawKit.callS X E.1 (bO E B) (mvT (bZ E B) w1) (mvT (bZ E B) w2) (mvT (bZ E B) w3) (mvT (bZ E B) w4) hy (backOf (Q := fun v h1 L => Q' v h1 ∧ Pmt h ws' L ∧ Keep h h1 ws') (C (oldOf E X N eT) (fun x hx => n0Of E (hws x hx)) []) (bZ E B) w4 w3 r1 r2) (g := mkF m pc Ls.toArray (List.reverseAux as rest)) rfl (by rw [E.2.2.1, ← hL]; simp) (argsL := as) (rest := rest) (lenOf pd hlen) (rev_eq as rest) (by show 2 * 0 + _ ≤ _; omega) (hb E.2.1 hd) (fun _ _ => ⟨rfl, eT, r3, r4⟩)
    dsimp only [Pt.U, Pt.locs, Pt.cells, Pt.slots] at X1 l1 y1 z1 st1 hQ
    subst l1 y1 z1
    obtain ⟨s2, o, hs, r⟩ := g v _ hQ.1 hQ.2.2 E T1 _ vm0 (bG B hQ.2.2.1) X1 (N.app (pmtOf E X eT hws hQ.2.1)) rfl
    exact ⟨s2, o, st1 _ (by rw [psh_eq]; exact hs), r⟩
theorem invokespecial {q1 : Nat} (hd : decode bytes pc = .ok (.invokespecial i, 3)) (hq1 : pc + 3 = q1) (hy1 : y.name = "<init>") (w1 : (Cond.methodLink own i y).before a0 Z = true) (w2 : (Cond.instanceMethod y).before a0 Z = true) (w3 : (Cond.initialized y.cls).before a0 Z = true) (w4 : (Cond.code y bytes' maxL' none).before a0 Z = true) (hy : y.cls ≠ "java/lang/invoke/MethodHandle" ∧ y.cls ≠ "java/lang/invoke/VarHandle") (pd : parseMethodDescriptor y.desc = some ⟨ps, r'⟩)
    (C : Con l Z n0 y bytes' maxL' none rm (.ref a :: as) h ws' Q') (hst : st = List.reverseAux as (.ref a :: rest)) (hlen : as.length = ps.length) (hL : Ls.length = maxL) (hr : roomOk R rm maxL' rest k n = true) (hws : ∀ x ∈ ws', x ∈ ws ∨ h0.size ≤ x) (g : ∀ v h', Q' v h' → Keep h h' ws' → Wp wd p l e R s m args below meth c Z own nam bytes maxL ret n0 h0 ws Q I h' (k + rm.cells) (n + rm.slots) q1 Ls (psh v rest)) : Wp wd p l e R s m args below meth c Z own nam bytes maxL ret n0 h0 ws Q I h k n pc Ls st := by
  subst hq1
  exact  fun E T L vm0 B X N eT => by
    obtain ⟨r1, r2, r3, r4⟩ := roomOk_spec hr
    subst hst
    obtain ⟨v, vm, ⟨T1, L1, k1, n1⟩, -, X1, ⟨Lc, hQ, l1, y1, z1⟩, st1⟩ := X.specialBack E.1 hy1 (bO E B) (mvT (bZ E B) w1) (mvT (bZ E B) w2) (mvT (bZ E B) w4) hy (backOf (Q := fun v h1 L => Q' v h1 ∧ Pmt h ws' L ∧ Keep h h1 ws') (C (oldOf E X N eT) (fun x hx => n0Of E (hws x hx)) []) (bZ E B) w4 w3 r1 r2) (g := mkF m pc Ls.toArray (List.reverseAux as (.ref a :: rest))) rfl (by rw [E.2.2.1, ← hL]; simp) (Steps.refl _) (a := a) (argsL := as) (rest := rest) (lenOf pd hlen) (rev_eq as _) (by show 2 * 0 + _ ≤ _; omega) (hb E.2.1 hd) (fun _ _ => ⟨rfl, eT, r3, r4⟩)
    dsimp only [Pt.U, Pt.locs, Pt.cells, Pt.slots] at X1 l1 y1 z1 st1 hQ
    subst l1 y1 z1
    obtain ⟨s2, o, hs, r⟩ := g v _ hQ.1 hQ.2.2 E T1 _ vm0 (bG B hQ.2.2.1) X1 (N.app (pmtOf E X eT hws hQ.2.1)) rfl
    exact ⟨s2, o, st1.trans (by rw [psh_eq]; exact hs), r⟩
theorem nf_sel {s : State} {args : Array Value} {D : String} {x z y : MethodName} (w : (Cond.selects D x z).before args s = true) (hz : z.cls = y.cls) : NotFace s y := fun r0 h0 => by
  obtain ⟨-, -, mm, -, -, n1, -, mk, k1, k2⟩ := Cond.selects_spec w
  have f1 := findClass_of_methodNamed n1
  have f2 := findClass_of_methodNamed h0
  rw [hz] at f1
  have e : mm.cls = r0.cls := Option.some.inj (f1.symm.trans f2)
  rw [e] at k1
  exact ⟨mk, k1, k2⟩
theorem invokevirtual {q1 : Nat} {z : MethodName} {D : String} (hd : decode bytes pc = .ok (.invokevirtual i, 3)) (hq1 : pc + 3 = q1) (w1 : (Cond.methodLink own i y).before a0 Z = true) (w2 : (Cond.declares y).before a0 Z = true) (nf : ∀ vm0, Z.Warmed39 vm0 → NotFace (s.setVm vm0) y) (w3 : (Cond.selects D y z).before a0 Z = true) (w4 : (Cond.instanceMethod z).before a0 Z = true) (w5 : (Cond.initialized z.cls).before a0 Z = true) (w6 : (Cond.code z bytes' maxL' ret').before a0 Z = true) (hy : y.cls ≠ "java/lang/invoke/MethodHandle" ∧ y.cls ≠ "java/lang/invoke/VarHandle") (pd : parseMethodDescriptor y.desc = some ⟨ps, r'⟩)
    (X0 : Exa Z h a D) (C : Con l Z n0 z bytes' maxL' ret' rm (.ref a :: as) h ws' Q') (hst : st = List.reverseAux as (.ref a :: rest)) (hlen : as.length = ps.length) (hL : Ls.length = maxL) (hr : roomOk R rm maxL' rest k n = true) (hws : ∀ x ∈ ws', x ∈ ws ∨ h0.size ≤ x) (g : ∀ v h', Q' v h' → Keep h h' ws' → Wp wd p l e R s m args below meth c Z own nam bytes maxL ret n0 h0 ws Q I h' (k + rm.cells) (n + rm.slots) q1 Ls (psh v rest)) : Wp wd p l e R s m args below meth c Z own nam bytes maxL ret n0 h0 ws Q I h k n pc Ls st := by
  subst hq1
  exact  fun E T L vm0 B X N eT => by
    obtain ⟨r1, r2, r3, r4⟩ := roomOk_spec hr
    subst hst
    obtain ⟨cq, kq, qa, qb, qc⟩ := isOf (bZ E B) eT X0
    obtain ⟨v, vm, ⟨T1, L1, k1, n1⟩, -, X1, ⟨Lc, hQ, l1, y1, z1⟩, st1⟩ := X.virtualBack E.1 (bO E B) (mvT (bZ E B) w1) (mvT (bZ E B) w2) (nf vm0 (bZ E B)) (mvT (bZ E B) w3) (mvT (bZ E B) w4) hy (backOf (Q := fun v h1 L => Q' v h1 ∧ Pmt h ws' L ∧ Keep h h1 ws') (C (oldOf E X N eT) (fun x hx => n0Of E (hws x hx)) []) (bZ E B) w6 w5 r1 r2) qa qc (g := mkF m pc Ls.toArray (List.reverseAux as (.ref a :: rest))) rfl (by rw [E.2.2.1, ← hL]; simp) (Steps.refl _) (argsL := as) (rest := rest) (lenOf pd hlen) (rev_eq as _) (by show 2 * 0 + _ ≤ _; omega) (hb E.2.1 hd) (fun _ _ => ⟨rfl, eT, r3, r4⟩)
    dsimp only [Pt.U, Pt.locs, Pt.cells, Pt.slots] at X1 l1 y1 z1 st1 hQ
    subst l1 y1 z1
    obtain ⟨s2, o, hs, r⟩ := g v _ hQ.1 hQ.2.2 E T1 _ vm0 (bG B hQ.2.2.1) X1 (N.app (pmtOf E X eT hws hQ.2.1)) rfl
    exact ⟨s2, o, st1.trans (by rw [psh_eq]; exact hs), r⟩
/-- the method that the entry names is the one that is run -/
theorem invokevirt {q1 : Nat} (hd : decode bytes pc = .ok (.invokevirtual i, 3)) (hq1 : pc + 3 = q1) (w1 : (Cond.methodLink own i y).before a0 Z = true) (w2 : (Cond.declares y).before a0 Z = true) {D : String} (w3 : (Cond.selects D y y).before a0 Z = true) (w4 : (Cond.instanceMethod y).before a0 Z = true) (w5 : (Cond.initialized y.cls).before a0 Z = true) (w6 : (Cond.code y bytes' maxL' ret').before a0 Z = true) (hy : y.cls ≠ "java/lang/invoke/MethodHandle" ∧ y.cls ≠ "java/lang/invoke/VarHandle") (pd : parseMethodDescriptor y.desc = some ⟨ps, r'⟩)
    (X0 : Exa Z h a D) (C : Con l Z n0 y bytes' maxL' ret' rm (.ref a :: as) h ws' Q') (hst : st = List.reverseAux as (.ref a :: rest)) (hlen : as.length = ps.length) (hL : Ls.length = maxL) (hr : roomOk R rm maxL' rest k n = true) (hws : ∀ x ∈ ws', x ∈ ws ∨ h0.size ≤ x) (g : ∀ v h', Q' v h' → Keep h h' ws' → Wp wd p l e R s m args below meth c Z own nam bytes maxL ret n0 h0 ws Q I h' (k + rm.cells) (n + rm.slots) q1 Ls (psh v rest)) : Wp wd p l e R s m args below meth c Z own nam bytes maxL ret n0 h0 ws Q I h k n pc Ls st := by
  subst hq1
  exact  invokevirtual hd rfl w1 w2 (fun vm0 hz => notFace_of_selects (args := #[]) (mvT (s := s.setVm vm0) hz w3)) w3 w4 w5 w6 hy pd X0 C hst hlen hL hr hws g
/-- the entry names a method that a class above declares -/
theorem invokeup {q1 : Nat} {z : MethodName} {D owner : String} (hd : decode bytes pc = .ok (.invokevirtual i, 3)) (hq1 : pc + 3 = q1) (w1 : (Cond.methodLink own i y).before a0 Z = true) (w2 : (Cond.sameMethod y.cls owner y.name y.desc).before a0 Z = true) (w3 : (Cond.declares ⟨owner, y.name, y.desc⟩).before a0 Z = true) (ho : owner ≠ "java/lang/invoke/MethodHandle" ∧ owner ≠ "java/lang/invoke/VarHandle") (w4 : (Cond.selects D y z).before a0 Z = true) (w5 : (Cond.instanceMethod z).before a0 Z = true) (w6 : (Cond.initialized z.cls).before a0 Z = true) (w7 : (Cond.code z bytes' maxL' ret').before a0 Z = true) (pd : parseMethodDescriptor y.desc = some ⟨ps, r'⟩)
    (X0 : Exa Z h a D) (C : Con l Z n0 z bytes' maxL' ret' rm (.ref a :: as) h ws' Q') (hst : st = List.reverseAux as (.ref a :: rest)) (hlen : as.length = ps.length) (hL : Ls.length = maxL) (hr : roomOk R rm maxL' rest k n = true) (hws : ∀ x ∈ ws', x ∈ ws ∨ h0.size ≤ x) (g : ∀ v h', Q' v h' → Keep h h' ws' → Wp wd p l e R s m args below meth c Z own nam bytes maxL ret n0 h0 ws Q I h' (k + rm.cells) (n + rm.slots) q1 Ls (psh v rest)) : Wp wd p l e R s m args below meth c Z own nam bytes maxL ret n0 h0 ws Q I h k n pc Ls st := by
  subst hq1
  exact  fun E T L vm0 B X N eT => by
    obtain ⟨r1, r2, r3, r4⟩ := roomOk_spec hr
    subst hst
    obtain ⟨cq, kq, qa, qb, qc⟩ := isOf (bZ E B) eT X0
    obtain ⟨v, vm, ⟨T1, L1, k1, n1⟩, -, X1, ⟨Lc, hQ, l1, y1, z1⟩, st1⟩ := X.virtualBackUp E.1 (bO E B) (mvT (bZ E B) w1) (mvT (bZ E B) w2) (mvT (bZ E B) w3) ho (mvT (bZ E B) w4) (mvT (bZ E B) w5) (backOf (Q := fun v h1 L => Q' v h1 ∧ Pmt h ws' L ∧ Keep h h1 ws') (C (oldOf E X N eT) (fun x hx => n0Of E (hws x hx)) []) (bZ E B) w7 w6 r1 r2) qa qc (g := mkF m pc Ls.toArray (List.reverseAux as (.ref a :: rest))) rfl (by rw [E.2.2.1, ← hL]; simp) (Steps.refl _) (argsL := as) (rest := rest) (lenOf pd hlen) (rev_eq as _) (by show 2 * 0 + _ ≤ _; omega) (hb E.2.1 hd) (fun _ _ => ⟨rfl, eT, r3, r4⟩)
    dsimp only [Pt.U, Pt.locs, Pt.cells, Pt.slots] at X1 l1 y1 z1 st1 hQ
    subst l1 y1 z1
    obtain ⟨s2, o, hs, r⟩ := g v _ hQ.1 hQ.2.2 E T1 _ vm0 (bG B hQ.2.2.1) X1 (N.app (pmtOf E X eT hws hQ.2.1)) rfl
    exact ⟨s2, o, st1.trans (by rw [psh_eq]; exact hs), r⟩
theorem invokeface {q1 : Nat} {z : MethodName} {D : String} {cnt : Nat} (hd : decode bytes pc = .ok (.invokeinterface i cnt, 5)) (hq1 : pc + 5 = q1) (w1 : (Cond.methodLink own i y).before a0 Z = true) (w2 : (Cond.declares y).before a0 Z = true) (w3 : (Cond.interfaceMethod y.cls y.cls y.name y.desc).before a0 Z = true) (w4 : (Cond.selects D y z).before a0 Z = true) (w5 : (Cond.instanceMethod z).before a0 Z = true) (w5b : (Cond.publicMethod z).before a0 Z = true) (w5c : (Cond.unhidden D y.name y.desc).before a0 Z = true) (w5d : (Cond.castable D y.cls).before a0 Z = true) (w6 : (Cond.initialized z.cls).before a0 Z = true) (w7 : (Cond.code z bytes' maxL' ret').before a0 Z = true) (hy : y.cls ≠ "java/lang/invoke/MethodHandle" ∧ y.cls ≠ "java/lang/invoke/VarHandle") (hfc : ((Cond.interfaceMethod y.cls y.cls y.name y.desc).onTables && (Cond.interfaceMethod y.cls y.cls y.name y.desc).keepsFace) = true) (pd : parseMethodDescriptor y.desc = some ⟨ps, r'⟩)
    (X0 : Exa Z h a D) (C : Con l Z n0 z bytes' maxL' ret' rm (.ref a :: as) h ws' Q') (hst : st = List.reverseAux as (.ref a :: rest)) (hlen : as.length = ps.length) (hL : Ls.length = maxL) (hr : roomOk R rm maxL' rest k n = true) (hws : ∀ x ∈ ws', x ∈ ws ∨ h0.size ≤ x) (g : ∀ v h', Q' v h' → Keep h h' ws' → Wp wd p l e R s m args below meth c Z own nam bytes maxL ret n0 h0 ws Q I h' (k + rm.cells) (n + rm.slots) q1 Ls (psh v rest)) : Wp wd p l e R s m args below meth c Z own nam bytes maxL ret n0 h0 ws Q I h k n pc Ls st := by
  subst hq1
  exact  fun E T L vm0 B X N eT => by
    obtain ⟨r1, r2, r3, r4⟩ := roomOk_spec hr
    subst hst
    obtain ⟨cq, kq, qa, qb, qc⟩ := isOf (bZ E B) eT X0
    obtain ⟨v, vm, ⟨T1, L1, k1, n1⟩, -, X1, ⟨Lc, hQ, l1, y1, z1⟩, st1⟩ := X.interfaceBack E.1 (bO E B) (mvT (bZ E B) w1) (mvT (bZ E B) w2) (mvT (bZ E B) w3 hfc) (mvT (bZ E B) w4) (mvT (bZ E B) w5) (mvT (bZ E B) w5b) (mvT (bZ E B) w5c) (mvT (bZ E B) w5d) hy (backOf (Q := fun v h1 L => Q' v h1 ∧ Pmt h ws' L ∧ Keep h h1 ws') (C (oldOf E X N eT) (fun x hx => n0Of E (hws x hx)) []) (bZ E B) w7 w6 r1 r2) qa qb qc (g := mkF m pc Ls.toArray (List.reverseAux as (.ref a :: rest))) rfl (by rw [E.2.2.1, ← hL]; simp) (Steps.refl _) (argsL := as) (rest := rest) (lenOf pd hlen) (rev_eq as _) (by show 2 * 0 + _ ≤ _; omega) (hb E.2.1 hd) (fun _ _ => ⟨rfl, eT, r3, r4⟩)
    dsimp only [Pt.U, Pt.locs, Pt.cells, Pt.slots] at X1 l1 y1 z1 st1 hQ
    subst l1 y1 z1
    obtain ⟨s2, o, hs, r⟩ := g v _ hQ.1 hQ.2.2 E T1 _ vm0 (bG B hQ.2.2.1) X1 (N.app (pmtOf E X eT hws hQ.2.1)) rfl
    exact ⟨s2, o, st1.trans (by rw [psh_eq]; exact hs), r⟩
theorem same_of {Z : State} {a0 : Array Value} {D : String} {x y z : MethodName} (hd : (Cond.declares y).before a0 Z = true) (hs : (Cond.selects D x z).before a0 Z = true) (hc : z.cls = y.cls) (hmh : y.cls ≠ "java/lang/invoke/MethodHandle" ∧ y.cls ≠ "java/lang/invoke/VarHandle") : (Cond.sameMethod y.cls y.cls y.name y.desc).before a0 Z = true := by
  obtain ⟨m2, meth, n2, -, -, -⟩ := Cond.declares_spec hd
  obtain ⟨c, r, m, -, -, n1, -, mk, k1, k2⟩ := Cond.selects_spec hs
  have f1 := findClass_of_methodNamed n1
  have f2 := findClass_of_methodNamed n2
  rw [hc] at f1
  have e : m.cls = m2.cls := Option.some.inj (f1.symm.trans f2)
  rw [e] at k1
  obtain ⟨kk, g1, g2⟩ := Vm.findClass_spec f2
  cases g1.symm.trans k1
  have hfind : mk.findMethod y.name y.desc = some m2.idx := by
    simp only [State.methodNamed?, f2, Option.bind_eq_bind, Option.bind_some, k1] at n2
    cases hq : mk.findMethod y.name y.desc with
    | none => rw [hq] at n2; cases n2
    | some i =>
      rw [hq] at n2
      have e2 : (⟨m2.cls, i⟩ : MethodId) = m2 := Option.some.inj n2
      rw [← e2]
  have hfound : Z.methodFound? y.cls y.name y.desc = some m2 := by
    refine (State.methodFound?_class f2 k1 k2 (fun w => ?_) m2).mpr ⟨?_, mk, k1⟩
    · exact signaturePolymorphic_of_name (by rw [g2]; exact hmh) w
    · simp [Vm.lookupUp, lookupInSuperclasses, k1, hfind]
  show (Cond.sameMethod y.cls y.cls y.name y.desc).holds _ _ _ _ _ = true
  simp [Cond.holds, Cond.value, f2, hfound, n2, k1, k2]
/-- a method of the direct superclass, by invokespecial -/
theorem invokesuper {q1 : Nat} {K : String} (hd : decode bytes pc = .ok (.invokespecial i, 3)) (hq1 : pc + 3 = q1) (w1 : (Cond.methodLink own i y).before a0 Z = true) (w2 : (Cond.sameMethod y.cls y.cls y.name y.desc).before a0 Z = true) (w3 : (Cond.instanceMethod y).before a0 Z = true) (w4 : (Cond.superclass own y.cls).before a0 Z = true) (w5 : (Cond.initialized y.cls).before a0 Z = true) (w6 : (Cond.code y bytes' maxL' ret').before a0 Z = true) (hn : y.name ≠ "<init>") (pd : parseMethodDescriptor y.desc = some ⟨ps, r'⟩)
    (X0 : Ins Z h a K true) (C : Con l Z n0 y bytes' maxL' ret' rm (.ref a :: as) h ws' Q') (hst : st = List.reverseAux as (.ref a :: rest)) (hlen : as.length = ps.length) (hL : Ls.length = maxL) (hr : roomOk R rm maxL' rest k n = true) (hws : ∀ x ∈ ws', x ∈ ws ∨ h0.size ≤ x) (g : ∀ v h', Q' v h' → Keep h h' ws' → Wp wd p l e R s m args below meth c Z own nam bytes maxL ret n0 h0 ws Q I h' (k + rm.cells) (n + rm.slots) q1 Ls (psh v rest)) : Wp wd p l e R s m args below meth c Z own nam bytes maxL ret n0 h0 ws Q I h k n pc Ls st := by
  subst hq1
  exact  fun E T L vm0 B X N eT => by
    obtain ⟨r1, r2, r3, r4⟩ := roomOk_spec hr
    subst hst
    obtain ⟨v, vm, ⟨T1, L1, k1, n1⟩, -, X1, ⟨Lc, hQ, l1, y1, z1⟩, st1⟩ := superBack X E.1 (bZ E B) (bO E B) w1 w2 w3 w4 hn (backOf (Q := fun v h1 L => Q' v h1 ∧ Pmt h ws' L ∧ Keep h h1 ws') (C (oldOf E X N eT) (fun x hx => n0Of E (hws x hx)) []) (bZ E B) w6 w5 r1 r2) eT X0 (g := mkF m pc Ls.toArray (List.reverseAux as (.ref a :: rest))) rfl (by rw [E.2.2.1, ← hL]; simp) w6 (argsL := as) (rest := rest) (lenOf pd hlen) (rev_eq as (.ref a :: rest)) (by show 2 * 0 + _ ≤ _; omega) (hb E.2.1 hd) (fun _ _ => ⟨rfl, eT, r3, r4⟩)
    dsimp only [Pt.U, Pt.locs, Pt.cells, Pt.slots] at X1 l1 y1 z1 st1 hQ
    subst l1 y1 z1
    obtain ⟨s2, o, hs, r⟩ := g v _ hQ.1 hQ.2.2 E T1 _ vm0 (bG B hQ.2.2.1) X1 (N.app (pmtOf E X eT hws hQ.2.1)) rfl
    exact ⟨s2, o, st1.trans (by rw [psh_eq]; exact hs), r⟩
/-- a private method of the class at hand -/
theorem invokepriv {q1 : Nat} {D : String} {kk : Nat} (hd : decode bytes pc = .ok (.invokevirtual i, 3)) (hq1 : pc + 3 = q1) (w1 : (Cond.methodLink own i y).before a0 Z = true) (w2 : (Cond.instanceMethod y).before a0 Z = true) (w3 : (Cond.instantiable y.cls kk).before a0 Z = true) (w4 : (Cond.privateMethod y).before a0 Z = true) (w5 : (Cond.initialized y.cls).before a0 Z = true) (w6 : (Cond.code y bytes' maxL' ret').before a0 Z = true) (hy : y.cls ≠ "java/lang/invoke/MethodHandle" ∧ y.cls ≠ "java/lang/invoke/VarHandle") (pd : parseMethodDescriptor y.desc = some ⟨ps, r'⟩)
    (X0 : Exa Z h a D) (C : Con l Z n0 y bytes' maxL' ret' rm (.ref a :: as) h ws' Q') (hst : st = List.reverseAux as (.ref a :: rest)) (hlen : as.length = ps.length) (hL : Ls.length = maxL) (hr : roomOk R rm maxL' rest k n = true) (hws : ∀ x ∈ ws', x ∈ ws ∨ h0.size ≤ x) (g : ∀ v h', Q' v h' → Keep h h' ws' → Wp wd p l e R s m args below meth c Z own nam bytes maxL ret n0 h0 ws Q I h' (k + rm.cells) (n + rm.slots) q1 Ls (psh v rest)) : Wp wd p l e R s m args below meth c Z own nam bytes maxL ret n0 h0 ws Q I h k n pc Ls st := by
  subst hq1
  exact  fun E T L vm0 B X N eT => by
    obtain ⟨r1, r2, r3, r4⟩ := roomOk_spec hr
    subst hst
    obtain ⟨cq, q1, q2⟩ := X0.cell
    obtain ⟨ci, ki, i1, i2, -, i3, -⟩ := Cond.instantiable_spec (mvT (s := s.setVm vm0) (args := args) (bZ E B) w3)
    have hpv : (s.setVm vm0).PrivateAt y := Cond.privateMethod_at (mvP (bZ E B) w4 (args := #[]))
    have hsel : (Cond.selects y.cls y y).before args (s.setVm vm0) = true := selects_self_of_private i1 i2 (by simp only [Bool.or_eq_false_iff] at i3; exact i3.1) hpv (mvT (bZ E B) w2) hy
    obtain ⟨v, vm, ⟨T1, L1, k1, n1⟩, -, X1, ⟨Lc, hQ, l1, y1, z1⟩, st1⟩ := X.privateBack E.1 (bO E B) (mvT (bZ E B) w1) (mvT (bZ E B) w2) hsel hpv (mvT (bZ E B) w6) hy (backOf (Q := fun v h1 L => Q' v h1 ∧ Pmt h ws' L ∧ Keep h h1 ws') (C (oldOf E X N eT) (fun x hx => n0Of E (hws x hx)) []) (bZ E B) w6 w5 r1 r2) (g := mkF m pc Ls.toArray (List.reverseAux as (.ref a :: rest))) rfl (by rw [E.2.2.1, ← hL]; simp) (Steps.refl _) (a := a) (by rw [eT]; exact q1) q2 (argsL := as) (rest := rest) (lenOf pd hlen) (rev_eq as _) (by show 2 * 0 + _ ≤ _; omega) (hb E.2.1 hd) (fun _ _ => ⟨rfl, eT, r3, r4⟩)
    dsimp only [Pt.U, Pt.locs, Pt.cells, Pt.slots] at X1 l1 y1 z1 st1 hQ
    subst l1 y1 z1
    obtain ⟨s2, o, hs, r⟩ := g v _ hQ.1 hQ.2.2 E T1 _ vm0 (bG B hQ.2.2.1) X1 (N.app (pmtOf E X eT hws hQ.2.1)) rfl
    exact ⟨s2, o, st1.trans (by rw [psh_eq]; exact hs), r⟩
theorem invokepriv2 {q1 : Nat} {D D0 : String} {x0 z0 : MethodName} (hd : decode bytes pc = .ok (.invokevirtual i, 3)) (hq1 : pc + 3 = q1) (w1 : (Cond.methodLink own i y).before a0 Z = true) (w2 : (Cond.instanceMethod y).before a0 Z = true) (w3 : (Cond.selects D0 x0 z0).before a0 Z = true) (hz0 : z0.cls = y.cls) (w4 : (Cond.privateMethod y).before a0 Z = true) (w5 : (Cond.initialized y.cls).before a0 Z = true) (w6 : (Cond.code y bytes' maxL' ret').before a0 Z = true) (hy : y.cls ≠ "java/lang/invoke/MethodHandle" ∧ y.cls ≠ "java/lang/invoke/VarHandle") (pd : parseMethodDescriptor y.desc = some ⟨ps, r'⟩)
    (X0 : Exa Z h a D) (C : Con l Z n0 y bytes' maxL' ret' rm (.ref a :: as) h ws' Q') (hst : st = List.reverseAux as (.ref a :: rest)) (hlen : as.length = ps.length) (hL : Ls.length = maxL) (hr : roomOk R rm maxL' rest k n = true) (hws : ∀ x ∈ ws', x ∈ ws ∨ h0.size ≤ x) (g : ∀ v h', Q' v h' → Keep h h' ws' → Wp wd p l e R s m args below meth c Z own nam bytes maxL ret n0 h0 ws Q I h' (k + rm.cells) (n + rm.slots) q1 Ls (psh v rest)) : Wp wd p l e R s m args below meth c Z own nam bytes maxL ret n0 h0 ws Q I h k n pc Ls st := by
  subst hq1
  exact  fun E T L vm0 B X N eT => by
    obtain ⟨r1, r2, r3, r4⟩ := roomOk_spec hr
    subst hst
    obtain ⟨cq, q1, q2⟩ := X0.cell
    obtain ⟨-, -, mm, -, -, n1, -, ki, i2, i3⟩ := Cond.selects_spec (mvT (s := s.setVm vm0) (args := args) (bZ E B) w3)
    have i1 := findClass_of_methodNamed n1
    rw [hz0] at i1
    have hpv : (s.setVm vm0).PrivateAt y := Cond.privateMethod_at (mvP (bZ E B) w4 (args := #[]))
    have hsel : (Cond.selects y.cls y y).before args (s.setVm vm0) = true := selects_self_of_private i1 i2 i3 hpv (mvT (bZ E B) w2) hy
    obtain ⟨v, vm, ⟨T1, L1, k1, n1⟩, -, X1, ⟨Lc, hQ, l1, y1, z1⟩, st1⟩ := X.privateBack E.1 (bO E B) (mvT (bZ E B) w1) (mvT (bZ E B) w2) hsel hpv (mvT (bZ E B) w6) hy (backOf (Q := fun v h1 L => Q' v h1 ∧ Pmt h ws' L ∧ Keep h h1 ws') (C (oldOf E X N eT) (fun x hx => n0Of E (hws x hx)) []) (bZ E B) w6 w5 r1 r2) (g := mkF m pc Ls.toArray (List.reverseAux as (.ref a :: rest))) rfl (by rw [E.2.2.1, ← hL]; simp) (Steps.refl _) (a := a) (by rw [eT]; exact q1) q2 (argsL := as) (rest := rest) (lenOf pd hlen) (rev_eq as _) (by show 2 * 0 + _ ≤ _; omega) (hb E.2.1 hd) (fun _ _ => ⟨rfl, eT, r3, r4⟩)
    dsimp only [Pt.U, Pt.locs, Pt.cells, Pt.slots] at X1 l1 y1 z1 st1 hQ
    subst l1 y1 z1
    obtain ⟨s2, o, hs, r⟩ := g v _ hQ.1 hQ.2.2 E T1 _ vm0 (bG B hQ.2.2.1) X1 (N.app (pmtOf E X eT hws hQ.2.1)) rfl
    exact ⟨s2, o, st1.trans (by rw [psh_eq]; exact hs), r⟩
end Calls
/-! ### wide: constants are interned -/
section Wide
theorem sameNil {s T : State} {L : List Loc} {k n : Nat} (q : s.sameButNew T L k n) (e : T.heap = s.heap) : s.sameButNew T [] k n :=
  ⟨q.1, q.2.1, q.2.2.1, q.2.2.2.1, q.2.2.2.2.1, fun a c ha => ⟨c, by rw [e]; exact ha, rfl, rfl, fun _ _ => rfl⟩⟩
/-- ldc of a String constant whose text this run has not interned yet, ahead of the body's first write -/
theorem ldcLit {q1 : Nat} {i nn : Nat} {text : String} {Ts : List String} {vs : List Value} {z : Int32} (hd : decode bytes pc = .ok (.ldc i, 2)) (hq1 : pc + 2 = q1) (w : (Cond.stringLink own i text).before a0 Z = true) (wS : ∀ a ∈ Bundle.stringAtoms, a.before a0 Z = true) (hI : ∀ vm, I vm → IB Z vm Ts) (hnot : text ∉ Ts) (hh : Jvm.Lit.constHeld Z own i) (hcw : Jvm.Lit.compactW.before a0 Z = true)
    (ht : (∀ c ∈ text.toList, c.toNat < 256) ∧ text.toList.map (fun c => Value.int (Jvm.Lit.byteI c.toNat.toUInt16)) = vs) (hz : ¬ z < 0) (hl : z.toNatClampNeg = vs.length) (hn : 4 * text.toList.length ≤ nn) (hbig : nn ≤ 536870912) (hc : k + 2 ≤ R.cells) (hl' : n + (nn + 4) ≤ R.slots)
    (g : ∀ (a : Addr) (h' : Heap) (b : Addr) (kk : ClassId), Ext h0 h' → Exa Z h' a "java/lang/String" → Fld Z h' a "java/lang/String" "coder" "B" (.int 0) → Fld Z h' a "java/lang/String" "value" "[B" (.ref b) → Arv Z h' b kk .byte z vs (.int 0) → a < h'.size → b < h'.size → Wp true p l e R s m args below meth c Z own nam bytes maxL ret n0 h0 ws Q (fun vm => IB Z vm (text :: Ts) ∧ Lit (Z.setVm vm) own i a) h' (k + 2) (n + (nn + 4)) q1 Ls (.ref a :: st)) : Wp true p l e R s m args below meth c Z own nam bytes maxL ret n0 h0 ws Q I h0 k n pc Ls st := by
  subst hq1
  exact  fun E T L vm0 B X N eT => by
    have eh : s.heap = h0 := E.2.2.2.2.2.2.2.2.1
    have X' : Stand p l e R (s.setVm vm0) m args below meth c T [] k n := ⟨X.admits, X.cas, X.clock, X.frames, X.room, X.hears, X.method, X.code, X.here, X.tail, X.warmed, X.limits, X.bytes, sameNil X.same (by show T.heap = s.heap; rw [eT, eh])⟩
    obtain ⟨a, T', h', k1, b, kk, r1, r2, r3, r4, r5, r6, r7, r8, r9, r10, r11, r12, r13, r14, r15, r16⟩ := ldcSVL (s := s) X' E.1 B.2.1 (bO (wd := true) E B) w wS eT B.1 (Nat.le_refl _) (fun _ q => nomatch q) (fun b cl hb => by rw [eh]; exact E.2.2.2.2.2.2.2.2.2.1.2.2 b cl hb) (hI _ B.2.2) hnot hh hcw ht hz hl (g := mkF m pc Ls.toArray st) rfl (hb E.2.1 hd) hn hbig hc hl'
    obtain ⟨s2, o, hs, r⟩ := g a h' b kk r3 r8 r9 r10 r11 r12 r13 E T' [] T'.vm ⟨⟨r4.1, r4.2.mono r5⟩, r6, r14, r15⟩ r1 (Pmt.nil _ _) r2
    exact ⟨s2, o, r16 _ hs, r⟩
theorem ldcAgain {q1 : Nat} {i : Nat} {text : String} {a : Addr} (hd : decode bytes pc = .ok (.ldc i, 2)) (hq1 : pc + 2 = q1) (w : (Cond.stringLink own i text).before a0 Z = true) (hI : ∀ vm, I vm → Lit (Z.setVm vm) own i a) (g : Wp true p l e R s m args below meth c Z own nam bytes maxL ret n0 h0 ws Q I h k n q1 Ls (.ref a :: st)) : Wp true p l e R s m args below meth c Z own nam bytes maxL ret n0 h0 ws Q I h k n pc Ls st := by
  subst hq1
  exact  step g fun E T L t vm0 B X _ hr => Jvm.RoadKit.ldcAgain (s := s) X E.1 B.2.1 (bO (wd := true) E B) w (a := a) (hI _ B.2.2) (g := mkF m pc Ls.toArray st) rfl (hb E.2.1 hd) _ hr
/-- ldc of a String constant, of whose text nothing is said -/
theorem ldcAny {q1 : Nat} {i nn : Nat} {text : String} (hd : decode bytes pc = .ok (.ldc i, 2)) (hq1 : pc + 2 = q1) (w : (Cond.stringLink own i text).before a0 Z = true) (wS : ∀ a ∈ Bundle.stringAtoms, a.before a0 Z = true) (hn : 4 * text.toList.length ≤ nn) (hbig : nn ≤ 536870912) (hc : k + 2 ≤ R.cells) (hl' : n + (nn + 4) ≤ R.slots)
    (g : ∀ (a : Addr) (h' : Heap), Ext h h' → Wp true p l e R s m args below meth c Z own nam bytes maxL ret n0 h0 ws Q (fun _ => True) h' (k + 2) (n + (nn + 4)) q1 Ls (.ref a :: st)) : Wp true p l e R s m args below meth c Z own nam bytes maxL ret n0 h0 ws Q I h k n pc Ls st := by
  subst hq1
  exact  fun E T L vm0 B X N eT => by
    obtain ⟨a, T', h', k1, r1, r2, r3, r4, r5, r6, r7, r8⟩ := ldcS (s := s) X E.1 B.2.1 (bO (wd := true) E B) w wS eT B.1 (Nat.le_refl _) (g := mkF m pc Ls.toArray st) rfl (hb E.2.1 hd) hn hbig hc hl'
    obtain ⟨s2, o, hs, r⟩ := g a h' r3 E T' L T'.vm ⟨⟨r4.1, r4.2.mono r5⟩, r6, trivial⟩ r1 N r2
    exact ⟨s2, o, r8 _ hs, r⟩
variable {y : MethodName} {bytes' : ByteArray} {maxL' : Nat} {ret' : Option FieldType} {rm : Room} {as : List Value} {ws' : List Addr} {I' : Vm → Prop} {Q' : Option Value → Heap → Prop} {ps : List FieldType} {r' : Option FieldType} {i : Nat} {a : Addr}
theorem backJ {as' : Array Value} {len W' : Nat} {QL : Option Value → Heap → List Loc → Prop}
    (hM : MetFree l y (head1 [Cond.code y bytes' maxL' ret'] rm) (fun a U => a = as' ∧ Z.Warmed39 U.vm ∧ U.heap = h ∧ I' U.vm) (fun _ _ _ _ _ => True) (fun _ U o U' => ∃ v L, o = .returned v ∧ QL v U'.heap L ∧ ReturnedEndW U o U' L rm.cells rm.slots))
    (hZ : Z.Warmed39 s.vm) (wc : (Cond.code y bytes' maxL' ret').before a0 Z = true) (wz : (Cond.initialized y.cls).before a0 Z = true) (hf : rm.frames + 1 ≤ R.frames) (hl : W' + (maxL' + 11) + rm.locals ≤ R.locals) :
    BackS l R p e below s args y len W' (fun A a => a = as' ∧ A.U.heap = h ∧ I' A.U.vm ∧ A.cells + rm.cells ≤ R.cells ∧ A.slots + rm.slots ≤ R.slots)
      (fun A _ v B => ∃ L, QL v B.U.heap L ∧ B.locs = A.locs ++ L ∧ B.cells = A.cells + rm.cells ∧ B.slots = A.slots + rm.slots) :=
  BackS.of_freeW (bytes := bytes') (maxL := maxL') (ret := ret') (E := fun _ _ o t L k n => k = rm.cells ∧ n = rm.slots ∧ ∃ v, o = .returned v ∧ QL v t.heap L) hM hf hl
    (fun m meth c A a Y hp => have hU : Z.Warmed39 A.U.vm := wtrans hZ Y.warmed
      ⟨by show (Cond.and _ .tt).before a A.U = true; rw [Cond.before_and, mv hU wc]; rfl, mv hU wc, mv hU wz, hp.2.2.2.1, hp.2.2.2.2⟩)
    (fun m meth c A a g mk Y hp => ⟨hp.1, wtrans hZ Y.warmed, hp.2.1, hp.2.2.1⟩) (fun _ _ _ _ _ _ _ _ _ => trivial)
    (fun _ _ _ _ ⟨v, L, h1, h2, h3⟩ => ⟨L, _, _, h3, rfl, rfl, v, h1, h2⟩)
    (fun m meth c A a g mk v t L k n Y hp _ _ ⟨e1, e2, v', e3, e4⟩ => by cases e3; subst e1 e2; exact ⟨L, e4, rfl, rfl, rfl⟩)
/-- what is known of the tables stands under tables that are warmer in the narrow sense -/
def Stab (I I' : Vm → Prop) : Prop := ∀ (s : State) (vm vm' : Vm), (s.setVm vm).WarmedH vm' → I vm → I' vm'
theorem stabIB {Z : State} {Ts : List String} : Stab (fun vm => IB Z vm Ts) (fun vm => IB Z vm Ts) := fun s vm vm' hW ⟨more, e, q⟩ => ⟨more, by rw [hW.interned_eq]; exact e, q⟩
theorem stabT {I : Vm → Prop} : Stab I (fun _ => True) := fun _ _ _ _ _ => trivial
/-- the frames beneath and the tables' methods are known (a stack trace may be filled in) -/
def Kn (below : List Frame) (vm : Vm) : Prop := vm.MethodsKnown ∧ vm.FramesKnown below
theorem Kn.alike {bl : List Frame} {vm vm' : Vm} (q : vm.Alike vm') (K : Kn bl vm) : Kn bl vm' := ⟨Vm.MethodsKnown.alikeC q K.1, Vm.FramesKnown.alikeC q K.2⟩
/-- the contract of a method that may intern constants and fill in a stack trace; what it says of the tables at its end too -/
def ConK (l : Launch) (Z : State) (n0 : Nat) (y : MethodName) (bytes : ByteArray) (maxL : Nat) (ret : Option FieldType) (rm : Room) (as : List Value) (h0 : Heap) (ws : List Addr) (I : Vm → Prop) (Q : Option Value → Heap → Vm → Prop) : Prop :=
  Old Z n0 h0 → (∀ a ∈ ws, n0 ≤ a) → ∀ wds, MetFree l y (head1 (Cond.code y bytes maxL ret :: wds) rm) (fun a U => a = as.toArray ∧ Z.Warmed39 U.vm ∧ U.heap = h0 ∧ I U.vm) (fun _ _ bl s _ => s.vm.MethodsKnown ∧ s.vm.FramesKnown bl) (fun _ U o U' => ∃ v L, o = .returned v ∧ (Q v U'.heap U'.vm ∧ Pmt h0 ws L ∧ Keep h0 U'.heap ws) ∧ ReturnedEndW U o U' L rm.cells rm.slots)
theorem ConK.of {l : Launch} {Z : State} {n0 : Nat} {y : MethodName} {bytes : ByteArray} {maxL : Nat} {ret : Option FieldType} {rm : Room} {as : List Value} {h0 : Heap} {ws : List Addr} {I : Vm → Prop} {Q : Option Value → Heap → Vm → Prop} {Ls : List Slot}
    (hpl : plainFor y = true) (hent : ∀ m, entryFrame m as.toArray maxL = mkF m 0 Ls.toArray [])
    (g : ∀ p e s m below meth c, Wp true p l e rm s m as.toArray below meth c Z y.cls y.name bytes maxL ret n0 h0 ws Q (fun vm => I vm ∧ Kn below vm) h0 0 0 0 Ls []) : ConK l Z n0 y bytes maxL ret rm as h0 ws I Q := by
  intro hO hws wds
  refine MetFree.of_bodySF hpl hisR ?_
  intro p e s m args below meth c s₁ Bd hml0 hP hK
  obtain ⟨rfl, hZ, hh, hI⟩ := hP
  have X0 : Stand p l e rm s m as.toArray below meth c s₁ [] 0 0 := Stand.of_body Bd
  have e0 : s₁.heap = h0 := by rw [← hh, Bd.state]; rfl
  rw [hent]
  obtain ⟨s2, o, r1, r2, r3, v, L, r4, ⟨r5, r6⟩, r7⟩ := g p e s m below meth c ⟨Bd.exec, Bd.bytes, hml0, hZ, findClass_of_methodNamed Bd.named, (name_of_methodNamed Bd.named Bd.method).1, Bd.returns, Bd.notSynchronized, hh, hO, hws⟩ s₁ [] s.vm ⟨(State.WarmedH.refl s).since _, hZ, hI, hK⟩ X0 (Pmt.nil _ _) e0
  exact ⟨s2, o, r1, r2, r3, v, L, r4, ⟨r5, r6, by rw [← hh]; exact keep_of r7.2.2.2 (by rw [hh]; exact r6) rfl⟩, r7⟩
/-- what the tables say of no tables -/
theorem know {P : Prop} (hP : ∀ vm, I vm → P) (g : P → Wp true p l e R s m args below meth c Z own nam bytes maxL ret n0 h0 ws Q I h k n pc Ls st) : Wp true p l e R s m args below meth c Z own nam bytes maxL ret n0 h0 ws Q I h k n pc Ls st := fun E T L vm0 B X N eT => g (hP _ B.2.2) E T L vm0 B X N eT
theorem warm (g : Wp true p l e R s m args below meth c Z own nam bytes maxL ret n0 h0 ws Q (fun vm => Z.Warmed39 vm ∧ I vm) h k n pc Ls st) : Wp true p l e R s m args below meth c Z own nam bytes maxL ret n0 h0 ws Q I h k n pc Ls st := fun E T L vm0 B X N eT => g E T L vm0 ⟨B.1, B.2.1, B.2.1, B.2.2⟩ X N eT
/-- the constants of EL, as the tables book them, hold their texts in h; what S names is none of them -/
def Hd (Z : State) (EL : List (String × Nat)) (S : List Addr) (below : List Frame) (h : Heap) (vm : Vm) : Prop := Z.Warmed39 vm ∧ Kn below vm ∧ CHv Z EL vm h ∧ ∀ x ∈ S, Safe Z EL vm h x ∧ x < h.size
theorem Hd.keep {EL : List (String × Nat)} {S : List Addr} {bl : List Frame} {h h' : Heap} {vm : Vm} {ws' : List Addr} (H : Hd Z EL S bl h vm) (K : Keep h h' ws') (hs : ∀ x ∈ ws', Safe Z EL vm h x) : Hd Z EL S bl h' vm :=
  ⟨H.1, H.2.1, H.2.2.1.keep K hs, fun x hx => ⟨(H.2.2.2 x hx).1.keep K hs H.2.2.1, Nat.lt_of_lt_of_le (H.2.2.2 x hx).2 K.1⟩⟩
theorem Hd.more {EL : List (String × Nat)} {S : List Addr} {bl : List Frame} {h h' : Heap} {vm : Vm} {ws' : List Addr} {y : Addr} (H : Hd Z EL S bl h vm) (K : Keep h h' ws') (hs : ∀ x ∈ ws', Safe Z EL vm h x) (hy : h.size ≤ y) (hy' : y < h'.size) : Hd Z EL (y :: S) bl h' vm :=
  ⟨H.1, H.2.1, H.2.2.1.keep K hs, fun x hx => (List.mem_cons.mp hx).elim (fun e => by rw [e]; exact ⟨(Safe.new hy).keep K hs H.2.2.1, hy'⟩) (fun e => (H.keep K hs).2.2.2 x e)⟩
theorem Hd.less {EL : List (String × Nat)} {S S' : List Addr} {bl : List Frame} {h : Heap} {vm : Vm} (H : Hd Z EL S bl h vm) (q : ∀ x ∈ S', x ∈ S) : Hd Z EL S' bl h vm := ⟨H.1, H.2.1, H.2.2.1, fun x hx => H.2.2.2 x (q x hx)⟩
theorem Hd.warm {EL : List (String × Nat)} {S : List Addr} {bl : List Frame} {h : Heap} {vm vm' : Vm} {s : State} (E : EW Z a0 EL) (H : Hd Z EL S bl h vm) (hW : (s.setVm vm).WarmedH vm') : Hd Z EL S bl h vm' := by
  have q := CHv.later (h' := h) H.1 (hW := (show (Wst Z vm h).Warmed39 vm' from hW.wide)) E ⟨Nat.le_refl _, fun _ _ q => q⟩ (Or.inl hW.interned_eq) H.2.2.1
  exact ⟨State.Warmed39.trans (t := s.setVm vm) H.1 hW.wide, H.2.1.alike hW.alike, q.1, fun x hx => ⟨fun B => (q.2 x B).elim (H.2.2.2 x hx).1 fun z => absurd (H.2.2.2 x hx).2 (Nat.not_lt.mpr z), (H.2.2.2 x hx).2⟩⟩
/-- ldc of a constant of EL: its text is known, at any time -/
theorem ldcH {q1 : Nat} {i nn : Nat} {text : String} {EL : List (String × Nat)} {S : List Addr} {vs : List Value} {z : Int32} (hd : decode bytes pc = .ok (.ldc i, 2)) (hq1 : pc + 2 = q1) (w : (Cond.stringLink own i text).before a0 Z = true) (wS : ∀ a ∈ Bundle.stringAtoms, a.before a0 Z = true) (hEL : EW Z a0 EL) (hmem : (own, i) ∈ EL) (hI : ∀ vm, I vm → Hd Z EL S below h vm)
    (ht : (∀ c ∈ text.toList, c.toNat < 256) ∧ text.toList.map (fun c => Value.int (Jvm.Lit.byteI c.toNat.toUInt16)) = vs) (hz : ¬ z < 0) (hl : z.toNatClampNeg = vs.length) (hn : 4 * text.toList.length ≤ nn) (hbig : nn ≤ 536870912) (hc : k + 2 ≤ R.cells) (hl' : n + (nn + 4) ≤ R.slots)
    (g : ∀ (a : Addr) (h' : Heap) (b : Addr) (kk : ClassId), Ext h h' → Exa Z h' a "java/lang/String" → Fld Z h' a "java/lang/String" "coder" "B" (.int 0) → Fld Z h' a "java/lang/String" "value" "[B" (.ref b) → Arv Z h' b kk .byte z vs (.int 0) → (∀ x ∈ S, x ≠ a ∧ x ≠ b) → Wp true p l e R s m args below meth c Z own nam bytes maxL ret n0 h0 ws Q (Hd Z EL S below h') h' (k + 2) (n + (nn + 4)) q1 Ls (.ref a :: st)) : Wp true p l e R s m args below meth c Z own nam bytes maxL ret n0 h0 ws Q I h k n pc Ls st := by
  subst hq1
  exact  fun E T L vm0 B X N eT => by
    have H := hI _ B.2.2
    obtain ⟨a, T', h', k1, b, kk, r1, r2, r3, r4, r5, r6, r7, r8, r9, r10, r11, r12, r13, r14, r15, r16, r17⟩ := ldcCH (s := s) X E.1 B.2.1 (bO (wd := true) E B) w wS eT B.1 (Nat.le_refl _) hEL hmem H.2.2.1 ht hz hl (g := mkF m pc Ls.toArray st) rfl (hb E.2.1 hd) hn hbig hc hl'
    have hS : ∀ x ∈ S, Safe Z EL T'.vm h' x := fun x hx => r14.safe (H.2.2.2 x hx).2 (H.2.2.2 x hx).1
    obtain ⟨s2, o, hs, r⟩ := g a h' b kk r3 r8 r9 r10 r11 (fun x hx => r16 x (hS x hx)) E T' L T'.vm ⟨⟨r4.1, r4.2.mono r5⟩, r6, r6, H.2.1.alike (H.1.alike.symm.trans (show Z.Warmed39 T'.vm from r6).alike), r14.1, fun x hx => ⟨hS x hx, Nat.lt_of_lt_of_le (H.2.2.2 x hx).2 r3.1⟩⟩ r1 N r2
    exact ⟨s2, o, r17 _ hs, r⟩
theorem rebase {Z s : State} {vm0 vm1 : Vm} {h : Heap} {U : State} (B : Base true I Z s vm0 h) (hS : (s.setVm vm0).Since U.vm U.heap.size) (hg : h.size ≤ U.heap.size) (hv : U.vm = vm1) : Base true (fun _ => True) Z s vm1 U.heap := by
  subst hv
  exact ⟨B.1.trans hS hg, State.Warmed39.trans (t := s.setVm vm0) B.2.1 hS.1, trivial⟩
theorem invokestaticW {q1 : Nat} (hd : decode bytes pc = .ok (.invokestatic i, 3)) (hq1 : pc + 3 = q1) (w1 : (Cond.methodLink own i y).before a0 Z = true) (w2 : (Cond.static y).before a0 Z = true) (w3 : (Cond.initialized y.cls).before a0 Z = true) (w4 : (Cond.code y bytes' maxL' ret').before a0 Z = true) (hy : y.cls ≠ "java/lang/invoke/MethodHandle" ∧ y.cls ≠ "java/lang/invoke/VarHandle") (pd : parseMethodDescriptor y.desc = some ⟨ps, r'⟩)
    (C : ConW l Z n0 y bytes' maxL' ret' rm as h ws' I' Q') (hst : st = List.reverseAux as rest) (hlen : as.length = ps.length) (hL : Ls.length = maxL) (hr : roomOk R rm maxL' rest k n = true) (hws : ∀ x ∈ ws', x ∈ ws ∨ h0.size ≤ x) (hSt : Stab I I') (g : ∀ v h', Q' v h' → Keep h h' ws' → Wp true p l e R s m args below meth c Z own nam bytes maxL ret n0 h0 ws Q (fun _ => True) h' (k + rm.cells) (n + rm.slots) q1 Ls (psh v rest)) : Wp true p l e R s m args below meth c Z own nam bytes maxL ret n0 h0 ws Q I h k n pc Ls st := by
  subst hq1
  exact  fun E T L vm0 B X N eT => by
    obtain ⟨r1, r2, r3, r4⟩ := roomOk_spec hr
    subst hst
    obtain ⟨v, vm, ⟨T1, L1, k1, n1⟩, -, X1, hS, hgr, ⟨Lc, hQ, l1, y1, z1⟩, st1⟩ := callSS X E.1 (bO E B) (mvT (bZ E B) w1) (mvT (bZ E B) w2) (mvT (bZ E B) w3) (mvT (bZ E B) w4) hy (backJ (QL := fun v h1 L => Q' v h1 ∧ Pmt h ws' L ∧ Keep h h1 ws') (C (oldOf E X N eT) (fun x hx => n0Of E (hws x hx)) []) (bZ E B) w4 w3 r1 r2) (g := mkF m pc Ls.toArray (List.reverseAux as rest)) rfl (by rw [E.2.2.1, ← hL]; simp) (argsL := as) (rest := rest) (lenOf pd hlen) (rev_eq as rest) (by show 2 * 0 + _ ≤ _; omega) (hb E.2.1 hd) (fun vm1 hw1 => ⟨rfl, eT, hSt s vm0 vm1 hw1 B.2.2, r3, r4⟩)
    dsimp only [Pt.U, Pt.locs, Pt.cells, Pt.slots] at X1 l1 y1 z1 st1 hQ hS hgr
    subst l1 y1 z1
    obtain ⟨s2, o, hs, r⟩ := g v _ hQ.1 hQ.2.2 E T1 _ T1.vm (rebase B hS (by rw [← eT]; exact hgr) rfl) X1 (N.app (pmtOf E X eT hws hQ.2.1)) rfl
    exact ⟨s2, o, st1.trans (by rw [psh_eq]; exact hs), r⟩
theorem invokespecialW {q1 : Nat} (hd : decode bytes pc = .ok (.invokespecial i, 3)) (hq1 : pc + 3 = q1) (hy1 : y.name = "<init>") (w1 : (Cond.methodLink own i y).before a0 Z = true) (w2 : (Cond.instanceMethod y).before a0 Z = true) (w3 : (Cond.initialized y.cls).before a0 Z = true) (w4 : (Cond.code y bytes' maxL' none).before a0 Z = true) (hy : y.cls ≠ "java/lang/invoke/MethodHandle" ∧ y.cls ≠ "java/lang/invoke/VarHandle") (pd : parseMethodDescriptor y.desc = some ⟨ps, r'⟩)
    (C : ConW l Z n0 y bytes' maxL' none rm (.ref a :: as) h ws' I' Q') (hst : st = List.reverseAux as (.ref a :: rest)) (hlen : as.length = ps.length) (hL : Ls.length = maxL) (hr : roomOk R rm maxL' rest k n = true) (hws : ∀ x ∈ ws', x ∈ ws ∨ h0.size ≤ x) (hSt : Stab I I') (g : ∀ v h', Q' v h' → Keep h h' ws' → Wp true p l e R s m args below meth c Z own nam bytes maxL ret n0 h0 ws Q (fun _ => True) h' (k + rm.cells) (n + rm.slots) q1 Ls (psh v rest)) : Wp true p l e R s m args below meth c Z own nam bytes maxL ret n0 h0 ws Q I h k n pc Ls st := by
  subst hq1
  exact  fun E T L vm0 B X N eT => by
    obtain ⟨r1, r2, r3, r4⟩ := roomOk_spec hr
    subst hst
    obtain ⟨v, vm, ⟨T1, L1, k1, n1⟩, -, X1, hS, hgr, ⟨Lc, hQ, l1, y1, z1⟩, st1⟩ := X.specialBackS E.1 hy1 (bO E B) (mvT (bZ E B) w1) (mvT (bZ E B) w2) (mvT (bZ E B) w4) hy (backJ (QL := fun v h1 L => Q' v h1 ∧ Pmt h ws' L ∧ Keep h h1 ws') (C (oldOf E X N eT) (fun x hx => n0Of E (hws x hx)) []) (bZ E B) w4 w3 r1 r2) (g := mkF m pc Ls.toArray (List.reverseAux as (.ref a :: rest))) rfl (by rw [E.2.2.1, ← hL]; simp) (Steps.refl _) (a := a) (argsL := as) (rest := rest) (lenOf pd hlen) (rev_eq as _) (by show 2 * 0 + _ ≤ _; omega) (hb E.2.1 hd) (fun vm1 hw1 => ⟨rfl, eT, hSt s vm0 vm1 hw1 B.2.2, r3, r4⟩)
    dsimp only [Pt.U, Pt.locs, Pt.cells, Pt.slots] at X1 l1 y1 z1 st1 hQ hS hgr
    subst l1 y1 z1
    obtain ⟨s2, o, hs, r⟩ := g v _ hQ.1 hQ.2.2 E T1 _ T1.vm (rebase B hS (by rw [← eT]; exact hgr) rfl) X1 (N.app (pmtOf E X eT hws hQ.2.1)) rfl
    exact ⟨s2, o, st1.trans (by rw [psh_eq]; exact hs), r⟩
/-- the call of a method that may intern and fill in a stack trace -/
theorem backK {as' : Array Value} {len W' : Nat} {QL : Option Value → Heap → Vm → List Loc → Prop}
    (hM : MetFree l y (head1 [Cond.code y bytes' maxL' ret'] rm) (fun a U => a = as' ∧ Z.Warmed39 U.vm ∧ U.heap = h ∧ I' U.vm) (fun _ _ bl s _ => s.vm.MethodsKnown ∧ s.vm.FramesKnown bl) (fun _ U o U' => ∃ v L, o = .returned v ∧ QL v U'.heap U'.vm L ∧ ReturnedEndW U o U' L rm.cells rm.slots))
    (hZ : Z.Warmed39 s.vm) (wc : (Cond.code y bytes' maxL' ret').before a0 Z = true) (wz : (Cond.initialized y.cls).before a0 Z = true) (hf : rm.frames + 1 ≤ R.frames) (hl : W' + (maxL' + 11) + rm.locals ≤ R.locals) (hTK : s.vm.MethodsKnown) (hBelow : s.vm.FramesKnown below) :
    BackS l R p e below s args y len W' (fun A a => a = as' ∧ A.U.heap = h ∧ I' A.U.vm ∧ A.cells + rm.cells ≤ R.cells ∧ A.slots + rm.slots ≤ R.slots)
      (fun A _ v B => ∃ L, QL v B.U.heap B.U.vm L ∧ B.locs = A.locs ++ L ∧ B.cells = A.cells + rm.cells ∧ B.slots = A.slots + rm.slots) :=
  BackS.of_freeWG (bytes := bytes') (maxL := maxL') (ret := ret') (E := fun _ _ o t L k n => k = rm.cells ∧ n = rm.slots ∧ ∃ v, o = .returned v ∧ QL v t.heap t.vm L) hM hf hl
    (fun m meth c A a Y hp => have hU : Z.Warmed39 A.U.vm := wtrans hZ Y.warmed
      ⟨by show (Cond.and _ .tt).before a A.U = true; rw [Cond.before_and, mv hU wc]; rfl, mv hU wc, mv hU wz, hp.2.2.2.1, hp.2.2.2.2⟩)
    (fun m meth c A a g mk Y hp => ⟨hp.1, wtrans hZ Y.warmed, hp.2.1, hp.2.2.1⟩)
    (fun m meth c A a g mk Y _ hg => known_frames Y hg hTK hBelow)
    (fun _ _ _ _ ⟨v, L, h1, h2, h3⟩ => ⟨L, _, _, h3, rfl, rfl, v, h1, h2⟩)
    (fun m meth c A a g mk v t L k n Y hp _ _ ⟨e1, e2, v', e3, e4⟩ => by cases e3; subst e1 e2; exact ⟨L, e4, rfl, rfl, rfl⟩)
theorem invokespecialK {q1 : Nat} {Qk : Option Value → Heap → Vm → Prop} (hd : decode bytes pc = .ok (.invokespecial i, 3)) (hq1 : pc + 3 = q1) (hy1 : y.name = "<init>") (w1 : (Cond.methodLink own i y).before a0 Z = true) (w2 : (Cond.instanceMethod y).before a0 Z = true) (w3 : (Cond.initialized y.cls).before a0 Z = true) (w4 : (Cond.code y bytes' maxL' none).before a0 Z = true) (hy : y.cls ≠ "java/lang/invoke/MethodHandle" ∧ y.cls ≠ "java/lang/invoke/VarHandle") (pd : parseMethodDescriptor y.desc = some ⟨ps, r'⟩)
    (C : ConK l Z n0 y bytes' maxL' none rm (.ref a :: as) h ws' I' Qk) (hst : st = List.reverseAux as (.ref a :: rest)) (hlen : as.length = ps.length) (hL : Ls.length = maxL) (hr : roomOk R rm maxL' rest k n = true) (hws : ∀ x ∈ ws', x ∈ ws ∨ h0.size ≤ x) (hSt : Stab I I') (hKn : ∀ vm, I vm → Kn below vm) (g : ∀ v h', (∃ vm, Qk v h' vm) → Keep h h' ws' → Wp true p l e R s m args below meth c Z own nam bytes maxL ret n0 h0 ws Q (fun vm => Qk v h' vm ∧ Kn below vm) h' (k + rm.cells) (n + rm.slots) q1 Ls (psh v rest)) : Wp true p l e R s m args below meth c Z own nam bytes maxL ret n0 h0 ws Q I h k n pc Ls st := by
  subst hq1
  exact  fun E T L vm0 B X N eT => by
    obtain ⟨r1, r2, r3, r4⟩ := roomOk_spec hr
    subst hst
    have K0 := hKn _ B.2.2
    obtain ⟨v, vm, ⟨T1, L1, k1, n1⟩, -, X1, hS, hgr, ⟨Lc, hQ, l1, y1, z1⟩, st1⟩ := X.specialBackS E.1 hy1 (bO E B) (mvT (bZ E B) w1) (mvT (bZ E B) w2) (mvT (bZ E B) w4) hy (backK (s := s.setVm vm0) (QL := fun v h1 vm1 L => Qk v h1 vm1 ∧ Pmt h ws' L ∧ Keep h h1 ws') (C (oldOf E X N eT) (fun x hx => n0Of E (hws x hx)) []) (bZ E B) w4 w3 r1 r2 K0.1 K0.2) (g := mkF m pc Ls.toArray (List.reverseAux as (.ref a :: rest))) rfl (by rw [E.2.2.1, ← hL]; simp) (Steps.refl _) (a := a) (argsL := as) (rest := rest) (lenOf pd hlen) (rev_eq as _) (by show 2 * 0 + _ ≤ _; omega) (hb E.2.1 hd) (fun vm1 hw1 => ⟨rfl, eT, hSt s vm0 vm1 hw1 B.2.2, r3, r4⟩)
    dsimp only [Pt.U, Pt.locs, Pt.cells, Pt.slots] at X1 l1 y1 z1 st1 hQ hS hgr
    subst l1 y1 z1
    obtain ⟨s2, o, hs, r⟩ := g v _ ⟨_, hQ.1⟩ hQ.2.2 E T1 _ T1.vm (let R0 := rebase B hS (by rw [← eT]; exact hgr) rfl; ⟨R0.1, R0.2.1, hQ.1, K0.alike (State.Warmed39.alike B.2.1 |>.symm.trans (show Z.Warmed39 T1.vm from R0.2.1).alike)⟩) X1 (N.app (pmtOf E X eT hws hQ.2.1)) rfl
    exact ⟨s2, o, st1.trans (by rw [psh_eq]; exact hs), r⟩
/-- a super constructor that takes a message: the whole chain up to Throwable, and its stack trace -/
theorem excStep {q1 : Nat} {rc : String} {links : List Jvm.Free.Exc.Link} {ic nn : Nat} {msg : Value} (hd : decode bytes pc = .ok (.invokespecial ic, 3)) (hq1 : pc + 3 = q1) (hl : l.stackTraces = true) (hok : Jvm.Free.Exc.linksOk 1 links = true) (w1 : (Cond.methodLink own ic (Jvm.Free.Exc.ctor 1 (Jvm.Free.Exc.headName links))).before a0 Z = true) (w2 : (Cond.instanceMethod (Jvm.Free.Exc.ctor 1 (Jvm.Free.Exc.headName links))).before a0 Z = true) (wT : (Jvm.Free.Exc.chainTab 1 rc links).before a0 Z = true) (wi : (Cond.instantiable rc nn).before a0 Z = true) (rr : ∀ d ∈ Jvm.RoadKit.twoRefs, d.before a0 Z = true)
    (hKn : ∀ vm, I vm → Kn below vm) (X0 : Exa Z h a rc) (U0 : Unt h a) (B1 : Fld Z h a Bundle.tN "backtrace" Jvm.Free.Exc.obD .null) (B2 : Fld Z h a Bundle.tN "detailMessage" Jvm.Free.Exc.msgD .null) (hm : msg.isRef = true) (hL : Ls.length = maxL) (ha : a ∈ ws ∨ h0.size ≤ a)
    (hr : (Nat.ble (4 + links.length) R.frames && Nat.ble ((rest.map fun v => v.category).sum + (56 + 14 * links.length)) R.locals && Nat.ble (k + 1) R.cells && Nat.ble (n + 2752) R.slots) = true)
    (g : ∀ h', Kp Z h h' a → Exa Z h' a rc → Wp true p l e R s m args below meth c Z own nam bytes maxL ret n0 h0 ws Q I h' (k + 1) (n + 2752) q1 Ls rest) : Wp true p l e R s m args below meth c Z own nam bytes maxL ret n0 h0 ws Q I h k n pc Ls (msg :: .ref a :: rest) := by
  subst hq1
  exact  fun E T L vm0 B X N eT => by
    simp only [Bool.and_eq_true] at hr
    have O := oldOf E X N eT
    have K0 := hKn _ B.2.2
    have hs0 : ThS Z (s.setVm vm0).heap := ThS.start.ext (by show Ext Z.heap s.heap; rw [E.2.2.2.2.2.2.2.2.1]; exact E.2.2.2.2.2.2.2.2.2.1.2)
    obtain ⟨T', h', X', e', K', E', -, -, -, -, st'⟩ := excL1 X E.1 hl (bZ E B) (bO E B) hok w1 w2 wT wi rr hs0 (ThS.start.ext O.2) K0.1 K0.2 eT X0 U0 B1 B2 hm (g := mkF m pc Ls.toArray (msg :: .ref a :: rest)) rfl (by rw [E.2.2.1, ← hL]; simp) (rest := rest) rfl (hb E.2.1 hd) (Nat.le_of_ble_eq_true hr.1.1.1) (by show 2 * 0 + _ + _ ≤ _; have := Nat.le_of_ble_eq_true hr.1.1.2; omega) (Nat.le_of_ble_eq_true hr.1.2) (Nat.le_of_ble_eq_true hr.2)
    obtain ⟨s2, o, hs, r⟩ := g h' K' E' E T' _ vm0 (bG B K'.1) X' (N.app fun y hy => by obtain ⟨nd, -, rfl⟩ := List.mem_map.mp hy; exact ha) e'
    exact ⟨s2, o, st' _ hs, r⟩
end Wide
/-! the end -/
/-- the tables at the end of a body: warmer, in the narrow sense, than tables of which I is known -/
def Lst (wd : Bool) (I : Vm → Prop) (Z : State) (vm : Vm) : Prop := ∃ (s : State) (vm0 : Vm), (s.setVm vm0).WarmedH vm ∧ (wd = true → Z.Warmed39 vm0 ∧ I vm0)
theorem lstOf {vm : Vm} (B : Base wd I Z s vm0 h) (hW : (s.setVm vm0).WarmedH vm) : Lst wd I Z vm := ⟨s, vm0, hW, fun q => by subst q; exact ⟨B.2.1, B.2.2⟩⟩
theorem ret_v (hd : decode bytes pc = .ok (.return_, 1)) (hret : ret = none) (hr : (Nat.ble k R.cells && Nat.ble n R.slots) = true) (hQ : ∀ vm, Lst wd I Z vm → Q none h vm) : Wp wd p l e R s m args below meth c Z own nam bytes maxL ret n0 h0 ws Q I h k n pc Ls [] := fun E T L vm0 B X N eT => by
  have hr' := Bool.and_eq_true_iff.mp hr
  obtain ⟨fs, hrr, hrun, hended, hW, hsame⟩ := X.leave (v := none) (fun _ => rfl) E.2.2.2.2.2.2.2.1
  refine ⟨_, _, ?_, hrun, hended, _, _, rfl, ⟨?_, N⟩, endOf E B ⟨_, rfl⟩ hW hsame eT (Nat.le_of_ble_eq_true hr'.1) (Nat.le_of_ble_eq_true hr'.2)⟩
  · exact X.returnOut E.1 (E.2.2.2.2.2.2.1.trans hret) (hb E.2.1 hd) hrr
  · show Q none T.heap T.vm
    rw [eT]; exact hQ _ (lstOf B X.warmed)
theorem ret_w {w : Value} {t : FieldType} {ii : Instr} (hd : decode bytes pc = .ok (ii, 1)) (hret : ret = some t) (hn : narrow t w = w)
    (hi : (ii = .ireturn ∧ (t = .int ∨ t = .boolean ∨ t = .byte ∨ t = .char ∨ t = .short) ∧ ∃ z, w = .int z) ∨ (ii = .lreturn ∧ t = .long ∧ ∃ z, w = .long z) ∨ (ii = .dreturn ∧ t = .double ∧ ∃ z, w = .double z) ∨ (ii = .freturn ∧ t = .float ∧ ∃ z, w = .float z) ∨ (ii = .areturn ∧ t.isReference = true ∧ w.isRef = true))
    (hr : (Nat.ble k R.cells && Nat.ble n R.slots) = true) (hQ : ∀ vm, Lst wd I Z vm → Q (some w) h vm) : Wp wd p l e R s m args below meth c Z own nam bytes maxL ret n0 h0 ws Q I h k n pc Ls (w :: rest) := fun E T L vm0 B X N eT => by
  have hr' := Bool.and_eq_true_iff.mp hr
  obtain ⟨fs, hrr, hrun, hended, hW, hsame⟩ := X.leave (v := some w) (fun h => by rw [E.2.2.2.2.2.2.1, hret] at h; cases h) E.2.2.2.2.2.2.2.1
  refine ⟨_, _, ?_, hrun, hended, _, _, rfl, ⟨?_, N⟩, endOf E B ⟨_, rfl⟩ hW hsame eT (Nat.le_of_ble_eq_true hr'.1) (Nat.le_of_ble_eq_true hr'.2)⟩
  · exact retOut X E.1 (E.2.2.2.2.2.2.1.trans hret) hn hi (hb E.2.1 hd) hrr
  · show Q _ T.heap T.vm
    rw [eT]; exact hQ _ (lstOf B X.warmed)
theorem ret_i {x : Int32} (hd : decode bytes pc = .ok (.ireturn, 1)) (hret : ret = some .int) (hr : (Nat.ble k R.cells && Nat.ble n R.slots) = true) (hQ : ∀ vm, Lst wd I Z vm → Q (some (.int x)) h vm) : Wp wd p l e R s m args below meth c Z own nam bytes maxL ret n0 h0 ws Q I h k n pc Ls (.int x :: rest) :=
  ret_w hd hret rfl (Or.inl ⟨rfl, Or.inl rfl, x, rfl⟩) hr hQ
theorem ret_l {x : Int64} (hd : decode bytes pc = .ok (.lreturn, 1)) (hret : ret = some .long) (hr : (Nat.ble k R.cells && Nat.ble n R.slots) = true) (hQ : ∀ vm, Lst wd I Z vm → Q (some (.long x)) h vm) : Wp wd p l e R s m args below meth c Z own nam bytes maxL ret n0 h0 ws Q I h k n pc Ls (.long x :: rest) :=
  ret_w hd hret rfl (Or.inr (Or.inl ⟨rfl, rfl, x, rfl⟩)) hr hQ
theorem ret_a {w : Value} {t : FieldType} (hd : decode bytes pc = .ok (.areturn, 1)) (hret : ret = some t) (ht : t.isReference = true) (hw : w.isRef = true) (hr : (Nat.ble k R.cells && Nat.ble n R.slots) = true) (hQ : ∀ vm, Lst wd I Z vm → Q (some w) h vm) : Wp wd p l e R s m args below meth c Z own nam bytes maxL ret n0 h0 ws Q I h k n pc Ls (w :: rest) :=
  ret_w hd hret (by cases t <;> first | (cases ht; done) | (cases w <;> first | rfl | (cases hw; done))) (Or.inr (Or.inr (Or.inr (Or.inr ⟨rfl, ht, hw⟩)))) hr hQ
theorem ret_n {x : Int32} {t : FieldType} (hd : decode bytes pc = .ok (.ireturn, 1)) (hret : ret = some t) (ht : t = .boolean ∨ t = .byte ∨ t = .char ∨ t = .short) (hr : (Nat.ble k R.cells && Nat.ble n R.slots) = true) (hQ : ∀ vm, Lst wd I Z vm → Q (some (.int (nar t x))) h vm) : Wp wd p l e R s m args below meth c Z own nam bytes maxL ret n0 h0 ws Q I h k n pc Ls (.int x :: rest) := fun E T L vm0 B X N eT => by
  have hr' := Bool.and_eq_true_iff.mp hr
  obtain ⟨fs, hrr, hrun, hended, hW, hsame⟩ := X.leave (v := some (.int (nar t x))) (fun h => by rw [E.2.2.2.2.2.2.1, hret] at h; cases h) E.2.2.2.2.2.2.2.1
  refine ⟨_, _, ?_, hrun, hended, _, _, rfl, ⟨?_, N⟩, endOf E B ⟨_, rfl⟩ hW hsame eT (Nat.le_of_ble_eq_true hr'.1) (Nat.le_of_ble_eq_true hr'.2)⟩
  · exact retN X E.1 (E.2.2.2.2.2.2.1.trans hret) ht (hb E.2.1 hd) hrr
  · show Q _ T.heap T.vm
    rw [eT]; exact hQ _ (lstOf B X.warmed)
end Walk
end Jvm.OwnWp
namespace Jvm.Pilot.@@N@@
open Jvm Jvm.ClassFile Sem Op Lib Jvm.Free Jvm.Stand Jvm.LawKit Jvm.RoadKit Jvm.OwnWp Bundle Jvm.Pilot.@@N@@.Jvm.D
theorem ww {Z : State} {a0 : Array Value} (hw : ∀ d ∈ tables_1, d.before a0 Z = true) (i : Nat) {d : Jvm.Cond} (h : tables_1[i]? = some d) : d.before a0 Z = true := hw d (List.mem_of_getElem? h)
theorem pd0 : parseMethodDescriptor "()V" = some ⟨[], none⟩ := by decide +kernel
theorem pd1 : parseMethodDescriptor "(Lcobblebit/terms/Operation;II)Lcobblebit/container/Container;" = some ⟨[(.object "cobblebit/terms/Operation"), .int, .int], some (.object "cobblebit/container/Container")⟩ := by decide +kernel
theorem pd2 : parseMethodDescriptor "()Z" = some ⟨[], some .boolean⟩ := by decide +kernel
theorem pd3 : parseMethodDescriptor "(II)I" = some ⟨[.int, .int], some .int⟩ := by decide +kernel
theorem pd4 : parseMethodDescriptor "([CIIC)I" = some ⟨[(.array .char), .int, .int, .char], some .int⟩ := by decide +kernel
theorem pd5 : parseMethodDescriptor "(III)V" = some ⟨[.int, .int, .int], none⟩ := by decide +kernel
theorem pd6 : parseMethodDescriptor "(Ljava/lang/Object;ILjava/lang/Object;II)V" = some ⟨[(.object "java/lang/Object"), .int, (.object "java/lang/Object"), .int, .int], none⟩ := by decide +kernel
theorem pd7 : parseMethodDescriptor "()Lcobblebit/container/Container;" = some ⟨[], some (.object "cobblebit/container/Container")⟩ := by decide +kernel
theorem pd8 : parseMethodDescriptor "()I" = some ⟨[], some .int⟩ := by decide +kernel
theorem pd9 : parseMethodDescriptor "(I)I" = some ⟨[.int], some .int⟩ := by decide +kernel
theorem pd10 : parseMethodDescriptor "()Lcobblebit/terms/ContainerKind;" = some ⟨[], some (.object "cobblebit/terms/ContainerKind")⟩ := by decide +kernel
theorem pd11 : parseMethodDescriptor "(C)Z" = some ⟨[.char], some .boolean⟩ := by decide +kernel
theorem pd12 : parseMethodDescriptor "([CI)[C" = some ⟨[(.array .char), .int], some (.array .char)⟩ := by decide +kernel
theorem pd13 : parseMethodDescriptor "()[J" = some ⟨[], some (.array .long)⟩ := by decide +kernel
theorem pd14 : parseMethodDescriptor "([J)V" = some ⟨[(.array .long)], none⟩ := by decide +kernel
theorem pd15 : parseMethodDescriptor "([CI[J)V" = some ⟨[(.array .char), .int, (.array .long)], none⟩ := by decide +kernel
theorem pd16 : parseMethodDescriptor "([J)Lcobblebit/container/RunContainer;" = some ⟨[(.array .long)], some (.object "cobblebit/container/RunContainer")⟩ := by decide +kernel
theorem pd17 : parseMethodDescriptor "([J)I" = some ⟨[(.array .long)], some .int⟩ := by decide +kernel
theorem pd18 : parseMethodDescriptor "([JII)I" = some ⟨[(.array .long), .int, .int], some .int⟩ := by decide +kernel
theorem pd19 : parseMethodDescriptor "(J)I" = some ⟨[.long], some .int⟩ := by decide +kernel
theorem pd20 : parseMethodDescriptor "([J)Lcobblebit/container/RunWalk;" = some ⟨[(.array .long)], some (.object "cobblebit/container/RunWalk")⟩ := by decide +kernel
theorem pd21 : parseMethodDescriptor "(II)Z" = some ⟨[.int, .int], some .boolean⟩ := by decide +kernel
theorem pd22 : parseMethodDescriptor "([CII)V" = some ⟨[(.array .char), .int, .int], none⟩ := by decide +kernel
theorem pd23 : parseMethodDescriptor "(C)Lcobblebit/container/Container;" = some ⟨[.char], some (.object "cobblebit/container/Container")⟩ := by decide +kernel
theorem own_succ {j : Int32} {i : Nat} (h : j.toInt = (i : Int)) (hb : i < 2147483647) : (j + 1).toInt = ((i + 1 : Nat) : Int) := by
  have e : (1 : Int32).toInt = 1 := rfl
  rw [XT.add32 (by rw [h, e]; constructor <;> omega), h, e]; omega
theorem own_lt {x y : Int32} : x < y ↔ x.toInt < y.toInt := Int32.lt_iff_toInt_lt
theorem own_eq {x y : Int32} (h : x.toInt = y.toInt) : x = y := Int32.toInt_inj.mp h
theorem own_b8 (x : Int32) : nar .byte (x.toInt8.toInt32) = x.toInt8.toInt32 := by simp [nar]
theorem own_and255 (x : Int32) : ∃ n : Nat, (x &&& 255).toInt = (n : Int) ∧ n < 256 := by
  have h := c_mask x 255 8 (by decide) (by decide)
  refine ⟨(x &&& 255).toInt.toNat, ?_, ?_⟩ <;> omega
theorem own_c8 (x : Int32) : nar .char ((x &&& 255).toUInt32.toUInt16.toUInt32.toInt32) = x &&& 255 := by
  rw [i2c_mask]; exact i2c_mask x
theorem own_le255 (x : Int32) : ¬ (255 : Int32) < x &&& 255 := by
  obtain ⟨n, h1, h2⟩ := own_and255 x
  rw [own_lt, h1]; have : (255 : Int32).toInt = 255 := rfl; omega
theorem own_in1 {a : Addr} : ∀ {L : List Addr}, a ∈ a :: L := List.mem_cons_self
theorem d1_0 : decode prog_42_method_1_code 0 = .ok (.aload_n 0, 1) := by decide +kernel
theorem d1_1 : decode prog_42_method_1_code 1 = .ok (.invokespecial 3, 3) := by decide +kernel
theorem d1_4 : decode prog_42_method_1_code 4 = .ok (.aload_n 0, 1) := by decide +kernel
theorem d1_5 : decode prog_42_method_1_code 5 = .ok (.iconst (-1), 1) := by decide +kernel
theorem d1_6 : decode prog_42_method_1_code 6 = .ok (.putfield 9, 3) := by decide +kernel
theorem d1_9 : decode prog_42_method_1_code 9 = .ok (.aload_n 0, 1) := by decide +kernel
theorem d1_10 : decode prog_42_method_1_code 10 = .ok (.iconst (-1), 1) := by decide +kernel
theorem d1_11 : decode prog_42_method_1_code 11 = .ok (.putfield 13, 3) := by decide +kernel
theorem d1_14 : decode prog_42_method_1_code 14 = .ok (.aload_n 0, 1) := by decide +kernel
theorem d1_15 : decode prog_42_method_1_code 15 = .ok (.iconst 4, 1) := by decide +kernel
theorem d1_16 : decode prog_42_method_1_code 16 = .ok (.newarray .char, 2) := by decide +kernel
theorem d1_18 : decode prog_42_method_1_code 18 = .ok (.putfield 17, 3) := by decide +kernel
theorem d1_21 : decode prog_42_method_1_code 21 = .ok (.return_, 1) := by decide +kernel
theorem d2_0 : decode prog_59_method_1_code 0 = .ok (.aload_n 0, 1) := by decide +kernel
theorem d2_1 : decode prog_59_method_1_code 1 = .ok (.invokespecial 1, 3) := by decide +kernel
theorem d2_4 : decode prog_59_method_1_code 4 = .ok (.return_, 1) := by decide +kernel
theorem d4_0 : decode prog_42_method_31_code 0 = .ok (.aload_n 0, 1) := by decide +kernel
theorem d4_1 : decode prog_42_method_31_code 1 = .ok (.invokevirtual 117, 3) := by decide +kernel
theorem d4_4 : decode prog_42_method_31_code 4 = .ok (.ifCond .ne 7, 3) := by decide +kernel
theorem d4_7 : decode prog_42_method_31_code 7 = .ok (.aload_n 0, 1) := by decide +kernel
theorem d4_8 : decode prog_42_method_31_code 8 = .ok (.invokevirtual 103, 3) := by decide +kernel
theorem d4_11 : decode prog_42_method_31_code 11 = .ok (.iload_n 2, 1) := by decide +kernel
theorem d4_12 : decode prog_42_method_31_code 12 = .ok (.iload_n 3, 1) := by decide +kernel
theorem d4_13 : decode prog_42_method_31_code 13 = .ok (.if_icmp .ne 11, 3) := by decide +kernel
theorem d4_16 : decode prog_42_method_31_code 16 = .ok (.aload_n 0, 1) := by decide +kernel
theorem d4_17 : decode prog_42_method_31_code 17 = .ok (.aload_n 1, 1) := by decide +kernel
theorem d4_18 : decode prog_42_method_31_code 18 = .ok (.iload_n 2, 1) := by decide +kernel
theorem d4_19 : decode prog_42_method_31_code 19 = .ok (.i2c, 1) := by decide +kernel
theorem d4_20 : decode prog_42_method_31_code 20 = .ok (.invokevirtual 200, 3) := by decide +kernel
theorem d4_23 : decode prog_42_method_31_code 23 = .ok (.areturn, 1) := by decide +kernel
theorem d4_24 : decode prog_42_method_31_code 24 = .ok (.aload_n 0, 1) := by decide +kernel
theorem d4_25 : decode prog_42_method_31_code 25 = .ok (.iload_n 2, 1) := by decide +kernel
theorem d4_26 : decode prog_42_method_31_code 26 = .ok (.iconst 0, 1) := by decide +kernel
theorem d4_27 : decode prog_42_method_31_code 27 = .ok (.invokevirtual 204, 3) := by decide +kernel
theorem d4_30 : decode prog_42_method_31_code 30 = .ok (.istore 4, 2) := by decide +kernel
theorem d4_32 : decode prog_42_method_31_code 32 = .ok (.aload_n 0, 1) := by decide +kernel
theorem d4_33 : decode prog_42_method_31_code 33 = .ok (.iload_n 3, 1) := by decide +kernel
theorem d4_34 : decode prog_42_method_31_code 34 = .ok (.iconst 1, 1) := by decide +kernel
theorem d4_35 : decode prog_42_method_31_code 35 = .ok (.iadd, 1) := by decide +kernel
theorem d4_36 : decode prog_42_method_31_code 36 = .ok (.iload 4, 2) := by decide +kernel
theorem d4_38 : decode prog_42_method_31_code 38 = .ok (.invokevirtual 204, 3) := by decide +kernel
theorem d4_41 : decode prog_42_method_31_code 41 = .ok (.istore 5, 2) := by decide +kernel
theorem d4_43 : decode prog_42_method_31_code 43 = .ok (.iload 5, 2) := by decide +kernel
theorem d4_45 : decode prog_42_method_31_code 45 = .ok (.iload 4, 2) := by decide +kernel
theorem d4_47 : decode prog_42_method_31_code 47 = .ok (.isub, 1) := by decide +kernel
theorem d4_48 : decode prog_42_method_31_code 48 = .ok (.istore 6, 2) := by decide +kernel
theorem d4_50 : decode prog_42_method_31_code 50 = .ok (.aload_n 1, 1) := by decide +kernel
theorem d4_51 : decode prog_42_method_31_code 51 = .ok (.invokevirtual 208, 3) := by decide +kernel
theorem d4_54 : decode prog_42_method_31_code 54 = .ok (.ifCond .eq 8, 3) := by decide +kernel
theorem d4_57 : decode prog_42_method_31_code 57 = .ok (.iload 6, 2) := by decide +kernel
theorem d4_59 : decode prog_42_method_31_code 59 = .ok (.goto 4, 3) := by decide +kernel
theorem d4_62 : decode prog_42_method_31_code 62 = .ok (.iconst 0, 1) := by decide +kernel
theorem d4_63 : decode prog_42_method_31_code 63 = .ok (.aload_n 1, 1) := by decide +kernel
theorem d4_64 : decode prog_42_method_31_code 64 = .ok (.invokevirtual 213, 3) := by decide +kernel
theorem d4_67 : decode prog_42_method_31_code 67 = .ok (.ifCond .eq 14, 3) := by decide +kernel
theorem d4_70 : decode prog_42_method_31_code 70 = .ok (.iload_n 3, 1) := by decide +kernel
theorem d4_71 : decode prog_42_method_31_code 71 = .ok (.iload_n 2, 1) := by decide +kernel
theorem d4_72 : decode prog_42_method_31_code 72 = .ok (.isub, 1) := by decide +kernel
theorem d4_73 : decode prog_42_method_31_code 73 = .ok (.iconst 1, 1) := by decide +kernel
theorem d4_74 : decode prog_42_method_31_code 74 = .ok (.iadd, 1) := by decide +kernel
theorem d4_75 : decode prog_42_method_31_code 75 = .ok (.iload 6, 2) := by decide +kernel
theorem d4_77 : decode prog_42_method_31_code 77 = .ok (.isub, 1) := by decide +kernel
theorem d4_78 : decode prog_42_method_31_code 78 = .ok (.goto 4, 3) := by decide +kernel
theorem d4_81 : decode prog_42_method_31_code 81 = .ok (.iconst 0, 1) := by decide +kernel
theorem d4_82 : decode prog_42_method_31_code 82 = .ok (.iadd, 1) := by decide +kernel
theorem d4_83 : decode prog_42_method_31_code 83 = .ok (.istore 7, 2) := by decide +kernel
theorem d4_85 : decode prog_42_method_31_code 85 = .ok (.aload_n 0, 1) := by decide +kernel
theorem d4_86 : decode prog_42_method_31_code 86 = .ok (.getfield 24, 3) := by decide +kernel
theorem d4_89 : decode prog_42_method_31_code 89 = .ok (.iload 6, 2) := by decide +kernel
theorem d4_91 : decode prog_42_method_31_code 91 = .ok (.isub, 1) := by decide +kernel
theorem d4_92 : decode prog_42_method_31_code 92 = .ok (.iload 7, 2) := by decide +kernel
theorem d4_94 : decode prog_42_method_31_code 94 = .ok (.iadd, 1) := by decide +kernel
theorem d4_95 : decode prog_42_method_31_code 95 = .ok (.istore 8, 2) := by decide +kernel
theorem d4_97 : decode prog_42_method_31_code 97 = .ok (.iload 8, 2) := by decide +kernel
theorem d4_99 : decode prog_42_method_31_code 99 = .ok (.sipush 4096, 3) := by decide +kernel
theorem d4_102 : decode prog_42_method_31_code 102 = .ok (.if_icmp .le 32, 3) := by decide +kernel
theorem d4_105 : decode prog_42_method_31_code 105 = .ok (.aload_n 0, 1) := by decide +kernel
theorem d4_106 : decode prog_42_method_31_code 106 = .ok (.invokevirtual 136, 3) := by decide +kernel
theorem d4_109 : decode prog_42_method_31_code 109 = .ok (.astore 9, 2) := by decide +kernel
theorem d4_111 : decode prog_42_method_31_code 111 = .ok (.aload_n 1, 1) := by decide +kernel
theorem d4_112 : decode prog_42_method_31_code 112 = .ok (.invokestatic 216, 3) := by decide +kernel
theorem d4_115 : decode prog_42_method_31_code 115 = .ok (.aload 9, 2) := by decide +kernel
theorem d4_117 : decode prog_42_method_31_code 117 = .ok (.iload_n 2, 1) := by decide +kernel
theorem d4_118 : decode prog_42_method_31_code 118 = .ok (.iload_n 3, 1) := by decide +kernel
theorem d4_119 : decode prog_42_method_31_code 119 = .ok (.invokevirtual 221, 3) := by decide +kernel
theorem d4_122 : decode prog_42_method_31_code 122 = .ok (.pop, 1) := by decide +kernel
theorem d4_123 : decode prog_42_method_31_code 123 = .ok (.aload 9, 2) := by decide +kernel
theorem d4_125 : decode prog_42_method_31_code 125 = .ok (.iload 8, 2) := by decide +kernel
theorem d4_127 : decode prog_42_method_31_code 127 = .ok (.invokestatic 225, 3) := by decide +kernel
theorem d4_130 : decode prog_42_method_31_code 130 = .ok (.invokevirtual 228, 3) := by decide +kernel
theorem d4_133 : decode prog_42_method_31_code 133 = .ok (.areturn, 1) := by decide +kernel
theorem d4_134 : decode prog_42_method_31_code 134 = .ok (.aload_n 1, 1) := by decide +kernel
theorem d4_135 : decode prog_42_method_31_code 135 = .ok (.invokevirtual 213, 3) := by decide +kernel
theorem d4_138 : decode prog_42_method_31_code 138 = .ok (.ifCond .eq 25, 3) := by decide +kernel
theorem d4_141 : decode prog_42_method_31_code 141 = .ok (.aload_n 1, 1) := by decide +kernel
theorem d4_142 : decode prog_42_method_31_code 142 = .ok (.invokevirtual 208, 3) := by decide +kernel
theorem d4_145 : decode prog_42_method_31_code 145 = .ok (.ifCond .ne 18, 3) := by decide +kernel
theorem d4_148 : decode prog_42_method_31_code 148 = .ok (.aload_n 0, 1) := by decide +kernel
theorem d4_149 : decode prog_42_method_31_code 149 = .ok (.iload_n 2, 1) := by decide +kernel
theorem d4_150 : decode prog_42_method_31_code 150 = .ok (.iload_n 3, 1) := by decide +kernel
theorem d4_151 : decode prog_42_method_31_code 151 = .ok (.iload 4, 2) := by decide +kernel
theorem d4_153 : decode prog_42_method_31_code 153 = .ok (.iload 5, 2) := by decide +kernel
theorem d4_155 : decode prog_42_method_31_code 155 = .ok (.iload 7, 2) := by decide +kernel
theorem d4_157 : decode prog_42_method_31_code 157 = .ok (.invokevirtual 232, 3) := by decide +kernel
theorem d4_160 : decode prog_42_method_31_code 160 = .ok (.goto 4, 3) := by decide +kernel
theorem d4_163 : decode prog_42_method_31_code 163 = .ok (.aconst_null, 1) := by decide +kernel
theorem d4_164 : decode prog_42_method_31_code 164 = .ok (.astore 9, 2) := by decide +kernel
theorem d4_166 : decode prog_42_method_31_code 166 = .ok (.aload_n 0, 1) := by decide +kernel
theorem d4_167 : decode prog_42_method_31_code 167 = .ok (.getfield 13, 3) := by decide +kernel
theorem d4_170 : decode prog_42_method_31_code 170 = .ok (.iconst (-1), 1) := by decide +kernel
theorem d4_171 : decode prog_42_method_31_code 171 = .ok (.if_icmp .ne 7, 3) := by decide +kernel
theorem d4_174 : decode prog_42_method_31_code 174 = .ok (.iconst 0, 1) := by decide +kernel
theorem d4_175 : decode prog_42_method_31_code 175 = .ok (.goto 20, 3) := by decide +kernel
theorem d4_178 : decode prog_42_method_31_code 178 = .ok (.aload_n 0, 1) := by decide +kernel
theorem d4_179 : decode prog_42_method_31_code 179 = .ok (.iload 4, 2) := by decide +kernel
theorem d4_181 : decode prog_42_method_31_code 181 = .ok (.iload 5, 2) := by decide +kernel
theorem d4_183 : decode prog_42_method_31_code 183 = .ok (.iconst 1, 1) := by decide +kernel
theorem d4_184 : decode prog_42_method_31_code 184 = .ok (.iadd, 1) := by decide +kernel
theorem d4_185 : decode prog_42_method_31_code 185 = .ok (.aload_n 0, 1) := by decide +kernel
theorem d4_186 : decode prog_42_method_31_code 186 = .ok (.getfield 24, 3) := by decide +kernel
theorem d4_189 : decode prog_42_method_31_code 189 = .ok (.invokestatic 236, 3) := by decide +kernel
theorem d4_192 : decode prog_42_method_31_code 192 = .ok (.invokevirtual 241, 3) := by decide +kernel
theorem d4_195 : decode prog_42_method_31_code 195 = .ok (.istore 10, 2) := by decide +kernel
theorem d4_197 : decode prog_42_method_31_code 197 = .ok (.iload 8, 2) := by decide +kernel
theorem d4_199 : decode prog_42_method_31_code 199 = .ok (.aload_n 0, 1) := by decide +kernel
theorem d4_200 : decode prog_42_method_31_code 200 = .ok (.getfield 17, 3) := by decide +kernel
theorem d4_203 : decode prog_42_method_31_code 203 = .ok (.arraylength, 1) := by decide +kernel
theorem d4_204 : decode prog_42_method_31_code 204 = .ok (.if_icmp .le 19, 3) := by decide +kernel
theorem d4_207 : decode prog_42_method_31_code 207 = .ok (.aload_n 0, 1) := by decide +kernel
theorem d4_208 : decode prog_42_method_31_code 208 = .ok (.aload_n 0, 1) := by decide +kernel
theorem d4_209 : decode prog_42_method_31_code 209 = .ok (.getfield 17, 3) := by decide +kernel
theorem d4_212 : decode prog_42_method_31_code 212 = .ok (.iload 8, 2) := by decide +kernel
theorem d4_214 : decode prog_42_method_31_code 214 = .ok (.invokestatic 154, 3) := by decide +kernel
theorem d4_217 : decode prog_42_method_31_code 217 = .ok (.invokestatic 158, 3) := by decide +kernel
theorem d4_220 : decode prog_42_method_31_code 220 = .ok (.putfield 17, 3) := by decide +kernel
theorem d4_223 : decode prog_42_method_31_code 223 = .ok (.aload_n 0, 1) := by decide +kernel
theorem d4_224 : decode prog_42_method_31_code 224 = .ok (.getfield 17, 3) := by decide +kernel
theorem d4_227 : decode prog_42_method_31_code 227 = .ok (.iload 5, 2) := by decide +kernel
theorem d4_229 : decode prog_42_method_31_code 229 = .ok (.aload_n 0, 1) := by decide +kernel
theorem d4_230 : decode prog_42_method_31_code 230 = .ok (.getfield 17, 3) := by decide +kernel
theorem d4_233 : decode prog_42_method_31_code 233 = .ok (.iload 4, 2) := by decide +kernel
theorem d4_235 : decode prog_42_method_31_code 235 = .ok (.iload 7, 2) := by decide +kernel
theorem d4_237 : decode prog_42_method_31_code 237 = .ok (.iadd, 1) := by decide +kernel
theorem d4_238 : decode prog_42_method_31_code 238 = .ok (.aload_n 0, 1) := by decide +kernel
theorem d4_239 : decode prog_42_method_31_code 239 = .ok (.getfield 24, 3) := by decide +kernel
theorem d4_242 : decode prog_42_method_31_code 242 = .ok (.iload 5, 2) := by decide +kernel
theorem d4_244 : decode prog_42_method_31_code 244 = .ok (.isub, 1) := by decide +kernel
theorem d4_245 : decode prog_42_method_31_code 245 = .ok (.invokestatic 174, 3) := by decide +kernel
theorem d4_248 : decode prog_42_method_31_code 248 = .ok (.aload 9, 2) := by decide +kernel
theorem d4_250 : decode prog_42_method_31_code 250 = .ok (.ifnull 20, 3) := by decide +kernel
theorem d4_253 : decode prog_42_method_31_code 253 = .ok (.aload 9, 2) := by decide +kernel
theorem d4_255 : decode prog_42_method_31_code 255 = .ok (.iconst 0, 1) := by decide +kernel
theorem d4_256 : decode prog_42_method_31_code 256 = .ok (.aload_n 0, 1) := by decide +kernel
theorem d4_257 : decode prog_42_method_31_code 257 = .ok (.getfield 17, 3) := by decide +kernel
theorem d4_260 : decode prog_42_method_31_code 260 = .ok (.iload 4, 2) := by decide +kernel
theorem d4_262 : decode prog_42_method_31_code 262 = .ok (.iload 7, 2) := by decide +kernel
theorem d4_264 : decode prog_42_method_31_code 264 = .ok (.invokestatic 174, 3) := by decide +kernel
theorem d4_267 : decode prog_42_method_31_code 267 = .ok (.goto 41, 3) := by decide +kernel
theorem d4_270 : decode prog_42_method_31_code 270 = .ok (.aload_n 1, 1) := by decide +kernel
theorem d4_271 : decode prog_42_method_31_code 271 = .ok (.invokevirtual 213, 3) := by decide +kernel
theorem d4_274 : decode prog_42_method_31_code 274 = .ok (.ifCond .eq 34, 3) := by decide +kernel
theorem d4_277 : decode prog_42_method_31_code 277 = .ok (.iconst 0, 1) := by decide +kernel
theorem d4_278 : decode prog_42_method_31_code 278 = .ok (.istore 11, 2) := by decide +kernel
theorem d4_280 : decode prog_42_method_31_code 280 = .ok (.iload 11, 2) := by decide +kernel
theorem d4_282 : decode prog_42_method_31_code 282 = .ok (.iload 7, 2) := by decide +kernel
theorem d4_284 : decode prog_42_method_31_code 284 = .ok (.if_icmp .ge 24, 3) := by decide +kernel
theorem d4_287 : decode prog_42_method_31_code 287 = .ok (.aload_n 0, 1) := by decide +kernel
theorem d4_288 : decode prog_42_method_31_code 288 = .ok (.getfield 17, 3) := by decide +kernel
theorem d4_291 : decode prog_42_method_31_code 291 = .ok (.iload 4, 2) := by decide +kernel
theorem d4_293 : decode prog_42_method_31_code 293 = .ok (.iload 11, 2) := by decide +kernel
theorem d4_295 : decode prog_42_method_31_code 295 = .ok (.iadd, 1) := by decide +kernel
theorem d4_296 : decode prog_42_method_31_code 296 = .ok (.iload_n 2, 1) := by decide +kernel
theorem d4_297 : decode prog_42_method_31_code 297 = .ok (.iload 11, 2) := by decide +kernel
theorem d4_299 : decode prog_42_method_31_code 299 = .ok (.iadd, 1) := by decide +kernel
theorem d4_300 : decode prog_42_method_31_code 300 = .ok (.i2c, 1) := by decide +kernel
theorem d4_301 : decode prog_42_method_31_code 301 = .ok (.castore, 1) := by decide +kernel
theorem d4_302 : decode prog_42_method_31_code 302 = .ok (.iinc 11 1, 3) := by decide +kernel
theorem d4_305 : decode prog_42_method_31_code 305 = .ok (.goto (-25), 3) := by decide +kernel
theorem d4_308 : decode prog_42_method_31_code 308 = .ok (.aload_n 0, 1) := by decide +kernel
theorem d4_309 : decode prog_42_method_31_code 309 = .ok (.iload 8, 2) := by decide +kernel
theorem d4_311 : decode prog_42_method_31_code 311 = .ok (.putfield 24, 3) := by decide +kernel
theorem d4_314 : decode prog_42_method_31_code 314 = .ok (.aload_n 0, 1) := by decide +kernel
theorem d4_315 : decode prog_42_method_31_code 315 = .ok (.iload 8, 2) := by decide +kernel
theorem d4_317 : decode prog_42_method_31_code 317 = .ok (.putfield 27, 3) := by decide +kernel
theorem d4_320 : decode prog_42_method_31_code 320 = .ok (.aload_n 0, 1) := by decide +kernel
theorem d4_321 : decode prog_42_method_31_code 321 = .ok (.getfield 13, 3) := by decide +kernel
theorem d4_324 : decode prog_42_method_31_code 324 = .ok (.iconst (-1), 1) := by decide +kernel
theorem d4_325 : decode prog_42_method_31_code 325 = .ok (.if_icmp .eq 33, 3) := by decide +kernel
theorem d4_328 : decode prog_42_method_31_code 328 = .ok (.aload_n 0, 1) := by decide +kernel
theorem d4_329 : decode prog_42_method_31_code 329 = .ok (.dup, 1) := by decide +kernel
theorem d4_330 : decode prog_42_method_31_code 330 = .ok (.getfield 13, 3) := by decide +kernel
theorem d4_333 : decode prog_42_method_31_code 333 = .ok (.aload_n 0, 1) := by decide +kernel
theorem d4_334 : decode prog_42_method_31_code 334 = .ok (.iload 4, 2) := by decide +kernel
theorem d4_336 : decode prog_42_method_31_code 336 = .ok (.iload 4, 2) := by decide +kernel
theorem d4_338 : decode prog_42_method_31_code 338 = .ok (.iload 7, 2) := by decide +kernel
theorem d4_340 : decode prog_42_method_31_code 340 = .ok (.iadd, 1) := by decide +kernel
theorem d4_341 : decode prog_42_method_31_code 341 = .ok (.iconst 1, 1) := by decide +kernel
theorem d4_342 : decode prog_42_method_31_code 342 = .ok (.iadd, 1) := by decide +kernel
theorem d4_343 : decode prog_42_method_31_code 343 = .ok (.iload 8, 2) := by decide +kernel
theorem d4_345 : decode prog_42_method_31_code 345 = .ok (.invokestatic 236, 3) := by decide +kernel
theorem d4_348 : decode prog_42_method_31_code 348 = .ok (.invokevirtual 241, 3) := by decide +kernel
theorem d4_351 : decode prog_42_method_31_code 351 = .ok (.iload 10, 2) := by decide +kernel
theorem d4_353 : decode prog_42_method_31_code 353 = .ok (.isub, 1) := by decide +kernel
theorem d4_354 : decode prog_42_method_31_code 354 = .ok (.iadd, 1) := by decide +kernel
theorem d4_355 : decode prog_42_method_31_code 355 = .ok (.putfield 13, 3) := by decide +kernel
theorem d4_358 : decode prog_42_method_31_code 358 = .ok (.aload_n 0, 1) := by decide +kernel
theorem d4_359 : decode prog_42_method_31_code 359 = .ok (.invokevirtual 244, 3) := by decide +kernel
theorem d4_362 : decode prog_42_method_31_code 362 = .ok (.areturn, 1) := by decide +kernel
theorem d5_0 : decode prog_42_method_24_code 0 = .ok (.aload_n 0, 1) := by decide +kernel
theorem d5_1 : decode prog_42_method_24_code 1 = .ok (.getfield 27, 3) := by decide +kernel
theorem d5_4 : decode prog_42_method_24_code 4 = .ok (.aload_n 0, 1) := by decide +kernel
theorem d5_5 : decode prog_42_method_24_code 5 = .ok (.getfield 24, 3) := by decide +kernel
theorem d5_8 : decode prog_42_method_24_code 8 = .ok (.if_icmp .ne 14, 3) := by decide +kernel
theorem d5_11 : decode prog_42_method_24_code 11 = .ok (.aload_n 0, 1) := by decide +kernel
theorem d5_12 : decode prog_42_method_24_code 12 = .ok (.getfield 9, 3) := by decide +kernel
theorem d5_15 : decode prog_42_method_24_code 15 = .ok (.ifCond .ge 7, 3) := by decide +kernel
theorem d5_18 : decode prog_42_method_24_code 18 = .ok (.iconst 1, 1) := by decide +kernel
theorem d5_19 : decode prog_42_method_24_code 19 = .ok (.goto 4, 3) := by decide +kernel
theorem d5_22 : decode prog_42_method_24_code 22 = .ok (.iconst 0, 1) := by decide +kernel
theorem d5_23 : decode prog_42_method_24_code 23 = .ok (.ireturn, 1) := by decide +kernel
theorem d6_0 : decode prog_42_method_32_code 0 = .ok (.iload_n 1, 1) := by decide +kernel
theorem d6_1 : decode prog_42_method_32_code 1 = .ok (.ldc 245, 2) := by decide +kernel
theorem d6_3 : decode prog_42_method_32_code 3 = .ok (.if_icmp .le 8, 3) := by decide +kernel
theorem d6_6 : decode prog_42_method_32_code 6 = .ok (.aload_n 0, 1) := by decide +kernel
theorem d6_7 : decode prog_42_method_32_code 7 = .ok (.getfield 24, 3) := by decide +kernel
theorem d6_10 : decode prog_42_method_32_code 10 = .ok (.ireturn, 1) := by decide +kernel
theorem d6_11 : decode prog_42_method_32_code 11 = .ok (.aload_n 0, 1) := by decide +kernel
theorem d6_12 : decode prog_42_method_32_code 12 = .ok (.getfield 17, 3) := by decide +kernel
theorem d6_15 : decode prog_42_method_32_code 15 = .ok (.iload_n 2, 1) := by decide +kernel
theorem d6_16 : decode prog_42_method_32_code 16 = .ok (.aload_n 0, 1) := by decide +kernel
theorem d6_17 : decode prog_42_method_32_code 17 = .ok (.getfield 24, 3) := by decide +kernel
theorem d6_20 : decode prog_42_method_32_code 20 = .ok (.iload_n 1, 1) := by decide +kernel
theorem d6_21 : decode prog_42_method_32_code 21 = .ok (.i2c, 1) := by decide +kernel
theorem d6_22 : decode prog_42_method_32_code 22 = .ok (.invokestatic 90, 3) := by decide +kernel
theorem d6_25 : decode prog_42_method_32_code 25 = .ok (.istore_n 3, 1) := by decide +kernel
theorem d6_26 : decode prog_42_method_32_code 26 = .ok (.iload_n 3, 1) := by decide +kernel
theorem d6_27 : decode prog_42_method_32_code 27 = .ok (.ifCond .lt 7, 3) := by decide +kernel
theorem d6_30 : decode prog_42_method_32_code 30 = .ok (.iload_n 3, 1) := by decide +kernel
theorem d6_31 : decode prog_42_method_32_code 31 = .ok (.goto 7, 3) := by decide +kernel
theorem d6_34 : decode prog_42_method_32_code 34 = .ok (.iload_n 3, 1) := by decide +kernel
theorem d6_35 : decode prog_42_method_32_code 35 = .ok (.ineg, 1) := by decide +kernel
theorem d6_36 : decode prog_42_method_32_code 36 = .ok (.iconst 1, 1) := by decide +kernel
theorem d6_37 : decode prog_42_method_32_code 37 = .ok (.isub, 1) := by decide +kernel
theorem d6_38 : decode prog_42_method_32_code 38 = .ok (.ireturn, 1) := by decide +kernel
theorem d7_0 : decode jdk_65_method_64_code 0 = .ok (.aload_n 0, 1) := by decide +kernel
theorem d7_1 : decode jdk_65_method_64_code 1 = .ok (.arraylength, 1) := by decide +kernel
theorem d7_2 : decode jdk_65_method_64_code 2 = .ok (.iload_n 1, 1) := by decide +kernel
theorem d7_3 : decode jdk_65_method_64_code 3 = .ok (.iload_n 2, 1) := by decide +kernel
theorem d7_4 : decode jdk_65_method_64_code 4 = .ok (.invokestatic 13, 3) := by decide +kernel
theorem d7_7 : decode jdk_65_method_64_code 7 = .ok (.aload_n 0, 1) := by decide +kernel
theorem d7_8 : decode jdk_65_method_64_code 8 = .ok (.iload_n 1, 1) := by decide +kernel
theorem d7_9 : decode jdk_65_method_64_code 9 = .ok (.iload_n 2, 1) := by decide +kernel
theorem d7_10 : decode jdk_65_method_64_code 10 = .ok (.iload_n 3, 1) := by decide +kernel
theorem d7_11 : decode jdk_65_method_64_code 11 = .ok (.invokestatic 215, 3) := by decide +kernel
theorem d7_14 : decode jdk_65_method_64_code 14 = .ok (.ireturn, 1) := by decide +kernel
theorem d8_0 : decode jdk_65_method_30_code 0 = .ok (.iload_n 1, 1) := by decide +kernel
theorem d8_1 : decode jdk_65_method_30_code 1 = .ok (.iload_n 2, 1) := by decide +kernel
theorem d8_2 : decode jdk_65_method_30_code 2 = .ok (.if_icmp .le 44, 3) := by decide +kernel
theorem d8_5 : decode jdk_65_method_30_code 5 = .ok (.new 43, 3) := by decide +kernel
theorem d8_8 : decode jdk_65_method_30_code 8 = .ok (.dup, 1) := by decide +kernel
theorem d8_9 : decode jdk_65_method_30_code 9 = .ok (.new 45, 3) := by decide +kernel
theorem d8_12 : decode jdk_65_method_30_code 12 = .ok (.dup, 1) := by decide +kernel
theorem d8_13 : decode jdk_65_method_30_code 13 = .ok (.invokespecial 47, 3) := by decide +kernel
theorem d8_16 : decode jdk_65_method_30_code 16 = .ok (.ldc 48, 2) := by decide +kernel
theorem d8_18 : decode jdk_65_method_30_code 18 = .ok (.invokevirtual 50, 3) := by decide +kernel
theorem d8_21 : decode jdk_65_method_30_code 21 = .ok (.iload_n 1, 1) := by decide +kernel
theorem d8_22 : decode jdk_65_method_30_code 22 = .ok (.invokevirtual 54, 3) := by decide +kernel
theorem d8_25 : decode jdk_65_method_30_code 25 = .ok (.ldc 57, 2) := by decide +kernel
theorem d8_27 : decode jdk_65_method_30_code 27 = .ok (.invokevirtual 50, 3) := by decide +kernel
theorem d8_30 : decode jdk_65_method_30_code 30 = .ok (.iload_n 2, 1) := by decide +kernel
theorem d8_31 : decode jdk_65_method_30_code 31 = .ok (.invokevirtual 54, 3) := by decide +kernel
theorem d8_34 : decode jdk_65_method_30_code 34 = .ok (.ldc 59, 2) := by decide +kernel
theorem d8_36 : decode jdk_65_method_30_code 36 = .ok (.invokevirtual 50, 3) := by decide +kernel
theorem d8_39 : decode jdk_65_method_30_code 39 = .ok (.invokevirtual 61, 3) := by decide +kernel
theorem d8_42 : decode jdk_65_method_30_code 42 = .ok (.invokespecial 65, 3) := by decide +kernel
theorem d8_45 : decode jdk_65_method_30_code 45 = .ok (.athrow, 1) := by decide +kernel
theorem d8_46 : decode jdk_65_method_30_code 46 = .ok (.iload_n 1, 1) := by decide +kernel
theorem d8_47 : decode jdk_65_method_30_code 47 = .ok (.ifCond .ge 12, 3) := by decide +kernel
theorem d8_50 : decode jdk_65_method_30_code 50 = .ok (.new 68, 3) := by decide +kernel
theorem d8_53 : decode jdk_65_method_30_code 53 = .ok (.dup, 1) := by decide +kernel
theorem d8_54 : decode jdk_65_method_30_code 54 = .ok (.iload_n 1, 1) := by decide +kernel
theorem d8_55 : decode jdk_65_method_30_code 55 = .ok (.invokespecial 70, 3) := by decide +kernel
theorem d8_58 : decode jdk_65_method_30_code 58 = .ok (.athrow, 1) := by decide +kernel
theorem d8_59 : decode jdk_65_method_30_code 59 = .ok (.iload_n 2, 1) := by decide +kernel
theorem d8_60 : decode jdk_65_method_30_code 60 = .ok (.iload_n 0, 1) := by decide +kernel
theorem d8_61 : decode jdk_65_method_30_code 61 = .ok (.if_icmp .le 12, 3) := by decide +kernel
theorem d8_64 : decode jdk_65_method_30_code 64 = .ok (.new 68, 3) := by decide +kernel
theorem d8_67 : decode jdk_65_method_30_code 67 = .ok (.dup, 1) := by decide +kernel
theorem d8_68 : decode jdk_65_method_30_code 68 = .ok (.iload_n 2, 1) := by decide +kernel
theorem d8_69 : decode jdk_65_method_30_code 69 = .ok (.invokespecial 70, 3) := by decide +kernel
theorem d8_72 : decode jdk_65_method_30_code 72 = .ok (.athrow, 1) := by decide +kernel
theorem d8_73 : decode jdk_65_method_30_code 73 = .ok (.return_, 1) := by decide +kernel
theorem d9_0 : decode jdk_65_method_65_code 0 = .ok (.iload_n 1, 1) := by decide +kernel
theorem d9_1 : decode jdk_65_method_65_code 1 = .ok (.istore 4, 2) := by decide +kernel
theorem d9_3 : decode jdk_65_method_65_code 3 = .ok (.iload_n 2, 1) := by decide +kernel
theorem d9_4 : decode jdk_65_method_65_code 4 = .ok (.iconst 1, 1) := by decide +kernel
theorem d9_5 : decode jdk_65_method_65_code 5 = .ok (.isub, 1) := by decide +kernel
theorem d9_6 : decode jdk_65_method_65_code 6 = .ok (.istore 5, 2) := by decide +kernel
theorem d9_8 : decode jdk_65_method_65_code 8 = .ok (.iload 4, 2) := by decide +kernel
theorem d9_10 : decode jdk_65_method_65_code 10 = .ok (.iload 5, 2) := by decide +kernel
theorem d9_12 : decode jdk_65_method_65_code 12 = .ok (.if_icmp .gt 54, 3) := by decide +kernel
theorem d9_15 : decode jdk_65_method_65_code 15 = .ok (.iload 4, 2) := by decide +kernel
theorem d9_17 : decode jdk_65_method_65_code 17 = .ok (.iload 5, 2) := by decide +kernel
theorem d9_19 : decode jdk_65_method_65_code 19 = .ok (.iadd, 1) := by decide +kernel
theorem d9_20 : decode jdk_65_method_65_code 20 = .ok (.iconst 1, 1) := by decide +kernel
theorem d9_21 : decode jdk_65_method_65_code 21 = .ok (.iushr, 1) := by decide +kernel
theorem d9_22 : decode jdk_65_method_65_code 22 = .ok (.istore 6, 2) := by decide +kernel
theorem d9_24 : decode jdk_65_method_65_code 24 = .ok (.aload_n 0, 1) := by decide +kernel
theorem d9_25 : decode jdk_65_method_65_code 25 = .ok (.iload 6, 2) := by decide +kernel
theorem d9_27 : decode jdk_65_method_65_code 27 = .ok (.caload, 1) := by decide +kernel
theorem d9_28 : decode jdk_65_method_65_code 28 = .ok (.istore 7, 2) := by decide +kernel
theorem d9_30 : decode jdk_65_method_65_code 30 = .ok (.iload 7, 2) := by decide +kernel
theorem d9_32 : decode jdk_65_method_65_code 32 = .ok (.iload_n 3, 1) := by decide +kernel
theorem d9_33 : decode jdk_65_method_65_code 33 = .ok (.if_icmp .ge 12, 3) := by decide +kernel
theorem d9_36 : decode jdk_65_method_65_code 36 = .ok (.iload 6, 2) := by decide +kernel
theorem d9_38 : decode jdk_65_method_65_code 38 = .ok (.iconst 1, 1) := by decide +kernel
theorem d9_39 : decode jdk_65_method_65_code 39 = .ok (.iadd, 1) := by decide +kernel
theorem d9_40 : decode jdk_65_method_65_code 40 = .ok (.istore 4, 2) := by decide +kernel
theorem d9_42 : decode jdk_65_method_65_code 42 = .ok (.goto 21, 3) := by decide +kernel
theorem d9_45 : decode jdk_65_method_65_code 45 = .ok (.iload 7, 2) := by decide +kernel
theorem d9_47 : decode jdk_65_method_65_code 47 = .ok (.iload_n 3, 1) := by decide +kernel
theorem d9_48 : decode jdk_65_method_65_code 48 = .ok (.if_icmp .le 12, 3) := by decide +kernel
theorem d9_51 : decode jdk_65_method_65_code 51 = .ok (.iload 6, 2) := by decide +kernel
theorem d9_53 : decode jdk_65_method_65_code 53 = .ok (.iconst 1, 1) := by decide +kernel
theorem d9_54 : decode jdk_65_method_65_code 54 = .ok (.isub, 1) := by decide +kernel
theorem d9_55 : decode jdk_65_method_65_code 55 = .ok (.istore 5, 2) := by decide +kernel
theorem d9_57 : decode jdk_65_method_65_code 57 = .ok (.goto 6, 3) := by decide +kernel
theorem d9_60 : decode jdk_65_method_65_code 60 = .ok (.iload 6, 2) := by decide +kernel
theorem d9_62 : decode jdk_65_method_65_code 62 = .ok (.ireturn, 1) := by decide +kernel
theorem d9_63 : decode jdk_65_method_65_code 63 = .ok (.goto (-55), 3) := by decide +kernel
theorem d9_66 : decode jdk_65_method_65_code 66 = .ok (.iload 4, 2) := by decide +kernel
theorem d9_68 : decode jdk_65_method_65_code 68 = .ok (.iconst 1, 1) := by decide +kernel
theorem d9_69 : decode jdk_65_method_65_code 69 = .ok (.iadd, 1) := by decide +kernel
theorem d9_70 : decode jdk_65_method_65_code 70 = .ok (.ineg, 1) := by decide +kernel
theorem d9_71 : decode jdk_65_method_65_code 71 = .ok (.ireturn, 1) := by decide +kernel
theorem d10_0 : decode prog_117_method_6_code 0 = .ok (.aload_n 0, 1) := by decide +kernel
theorem d10_1 : decode prog_117_method_6_code 1 = .ok (.getfield 42, 3) := by decide +kernel
theorem d10_4 : decode prog_117_method_6_code 4 = .ok (.ireturn, 1) := by decide +kernel
theorem d11_0 : decode prog_117_method_5_code 0 = .ok (.aload_n 0, 1) := by decide +kernel
theorem d11_1 : decode prog_117_method_5_code 1 = .ok (.getfield 39, 3) := by decide +kernel
theorem d11_4 : decode prog_117_method_5_code 4 = .ok (.ireturn, 1) := by decide +kernel
theorem d12_0 : decode prog_59_method_28_code 0 = .ok (.aload_n 0, 1) := by decide +kernel
theorem d12_1 : decode prog_59_method_28_code 1 = .ok (.invokevirtual 56, 3) := by decide +kernel
theorem d12_4 : decode prog_59_method_28_code 4 = .ok (.invokestatic 63, 3) := by decide +kernel
theorem d12_7 : decode prog_59_method_28_code 7 = .ok (.aload_n 0, 1) := by decide +kernel
theorem d12_8 : decode prog_59_method_28_code 8 = .ok (.invokevirtual 7, 3) := by decide +kernel
theorem d12_11 : decode prog_59_method_28_code 11 = .ok (.invokestatic 69, 3) := by decide +kernel
theorem d12_14 : decode prog_59_method_28_code 14 = .ok (.if_icmp .ge 7, 3) := by decide +kernel
theorem d12_17 : decode prog_59_method_28_code 17 = .ok (.iconst 1, 1) := by decide +kernel
theorem d12_18 : decode prog_59_method_28_code 18 = .ok (.goto 4, 3) := by decide +kernel
theorem d12_21 : decode prog_59_method_28_code 21 = .ok (.iconst 0, 1) := by decide +kernel
theorem d12_22 : decode prog_59_method_28_code 22 = .ok (.istore_n 1, 1) := by decide +kernel
theorem d12_23 : decode prog_59_method_28_code 23 = .ok (.aload_n 0, 1) := by decide +kernel
theorem d12_24 : decode prog_59_method_28_code 24 = .ok (.invokevirtual 43, 3) := by decide +kernel
theorem d12_27 : decode prog_59_method_28_code 27 = .ok (.getstatic 47, 3) := by decide +kernel
theorem d12_30 : decode prog_59_method_28_code 30 = .ok (.if_acmp .ne 16, 3) := by decide +kernel
theorem d12_33 : decode prog_59_method_28_code 33 = .ok (.iload_n 1, 1) := by decide +kernel
theorem d12_34 : decode prog_59_method_28_code 34 = .ok (.ifCond .eq 7, 3) := by decide +kernel
theorem d12_37 : decode prog_59_method_28_code 37 = .ok (.aload_n 0, 1) := by decide +kernel
theorem d12_38 : decode prog_59_method_28_code 38 = .ok (.goto 7, 3) := by decide +kernel
theorem d12_41 : decode prog_59_method_28_code 41 = .ok (.aload_n 0, 1) := by decide +kernel
theorem d12_42 : decode prog_59_method_28_code 42 = .ok (.invokevirtual 53, 3) := by decide +kernel
theorem d12_45 : decode prog_59_method_28_code 45 = .ok (.areturn, 1) := by decide +kernel
theorem d12_46 : decode prog_59_method_28_code 46 = .ok (.iload_n 1, 1) := by decide +kernel
theorem d12_47 : decode prog_59_method_28_code 47 = .ok (.ifCond .eq 13, 3) := by decide +kernel
theorem d12_50 : decode prog_59_method_28_code 50 = .ok (.aload_n 0, 1) := by decide +kernel
theorem d12_51 : decode prog_59_method_28_code 51 = .ok (.invokevirtual 76, 3) := by decide +kernel
theorem d12_54 : decode prog_59_method_28_code 54 = .ok (.invokestatic 80, 3) := by decide +kernel
theorem d12_57 : decode prog_59_method_28_code 57 = .ok (.goto 4, 3) := by decide +kernel
theorem d12_60 : decode prog_59_method_28_code 60 = .ok (.aload_n 0, 1) := by decide +kernel
theorem d12_61 : decode prog_59_method_28_code 61 = .ok (.areturn, 1) := by decide +kernel
theorem d13_0 : decode prog_42_method_57_code 0 = .ok (.aload_n 0, 1) := by decide +kernel
theorem d13_1 : decode prog_42_method_57_code 1 = .ok (.getfield 13, 3) := by decide +kernel
theorem d13_4 : decode prog_42_method_57_code 4 = .ok (.istore_n 1, 1) := by decide +kernel
theorem d13_5 : decode prog_42_method_57_code 5 = .ok (.iload_n 1, 1) := by decide +kernel
theorem d13_6 : decode prog_42_method_57_code 6 = .ok (.iconst (-1), 1) := by decide +kernel
theorem d13_7 : decode prog_42_method_57_code 7 = .ok (.if_icmp .ne 18, 3) := by decide +kernel
theorem d13_10 : decode prog_42_method_57_code 10 = .ok (.aload_n 0, 1) := by decide +kernel
theorem d13_11 : decode prog_42_method_57_code 11 = .ok (.iconst 0, 1) := by decide +kernel
theorem d13_12 : decode prog_42_method_57_code 12 = .ok (.aload_n 0, 1) := by decide +kernel
theorem d13_13 : decode prog_42_method_57_code 13 = .ok (.getfield 24, 3) := by decide +kernel
theorem d13_16 : decode prog_42_method_57_code 16 = .ok (.invokevirtual 241, 3) := by decide +kernel
theorem d13_19 : decode prog_42_method_57_code 19 = .ok (.istore_n 1, 1) := by decide +kernel
theorem d13_20 : decode prog_42_method_57_code 20 = .ok (.aload_n 0, 1) := by decide +kernel
theorem d13_21 : decode prog_42_method_57_code 21 = .ok (.iload_n 1, 1) := by decide +kernel
theorem d13_22 : decode prog_42_method_57_code 22 = .ok (.putfield 13, 3) := by decide +kernel
theorem d13_25 : decode prog_42_method_57_code 25 = .ok (.iload_n 1, 1) := by decide +kernel
theorem d13_26 : decode prog_42_method_57_code 26 = .ok (.ireturn, 1) := by decide +kernel
theorem d14_0 : decode prog_42_method_58_code 0 = .ok (.iconst 0, 1) := by decide +kernel
theorem d14_1 : decode prog_42_method_58_code 1 = .ok (.istore_n 3, 1) := by decide +kernel
theorem d14_2 : decode prog_42_method_58_code 2 = .ok (.iload_n 1, 1) := by decide +kernel
theorem d14_3 : decode prog_42_method_58_code 3 = .ok (.istore 4, 2) := by decide +kernel
theorem d14_5 : decode prog_42_method_58_code 5 = .ok (.iload 4, 2) := by decide +kernel
theorem d14_7 : decode prog_42_method_58_code 7 = .ok (.iload_n 2, 1) := by decide +kernel
theorem d14_8 : decode prog_42_method_58_code 8 = .ok (.if_icmp .ge 38, 3) := by decide +kernel
theorem d14_11 : decode prog_42_method_58_code 11 = .ok (.iload 4, 2) := by decide +kernel
theorem d14_13 : decode prog_42_method_58_code 13 = .ok (.ifCond .eq 24, 3) := by decide +kernel
theorem d14_16 : decode prog_42_method_58_code 16 = .ok (.aload_n 0, 1) := by decide +kernel
theorem d14_17 : decode prog_42_method_58_code 17 = .ok (.getfield 17, 3) := by decide +kernel
theorem d14_20 : decode prog_42_method_58_code 20 = .ok (.iload 4, 2) := by decide +kernel
theorem d14_22 : decode prog_42_method_58_code 22 = .ok (.caload, 1) := by decide +kernel
theorem d14_23 : decode prog_42_method_58_code 23 = .ok (.aload_n 0, 1) := by decide +kernel
theorem d14_24 : decode prog_42_method_58_code 24 = .ok (.getfield 17, 3) := by decide +kernel
theorem d14_27 : decode prog_42_method_58_code 27 = .ok (.iload 4, 2) := by decide +kernel
theorem d14_29 : decode prog_42_method_58_code 29 = .ok (.iconst 1, 1) := by decide +kernel
theorem d14_30 : decode prog_42_method_58_code 30 = .ok (.isub, 1) := by decide +kernel
theorem d14_31 : decode prog_42_method_58_code 31 = .ok (.caload, 1) := by decide +kernel
theorem d14_32 : decode prog_42_method_58_code 32 = .ok (.iconst 1, 1) := by decide +kernel
theorem d14_33 : decode prog_42_method_58_code 33 = .ok (.iadd, 1) := by decide +kernel
theorem d14_34 : decode prog_42_method_58_code 34 = .ok (.if_icmp .eq 6, 3) := by decide +kernel
theorem d14_37 : decode prog_42_method_58_code 37 = .ok (.iinc 3 1, 3) := by decide +kernel
theorem d14_40 : decode prog_42_method_58_code 40 = .ok (.iinc 4 1, 3) := by decide +kernel
theorem d14_43 : decode prog_42_method_58_code 43 = .ok (.goto (-38), 3) := by decide +kernel
theorem d14_46 : decode prog_42_method_58_code 46 = .ok (.iload_n 3, 1) := by decide +kernel
theorem d14_47 : decode prog_42_method_58_code 47 = .ok (.ireturn, 1) := by decide +kernel
theorem d15_0 : decode prog_81_method_38_code 0 = .ok (.iconst 2, 1) := by decide +kernel
theorem d15_1 : decode prog_81_method_38_code 1 = .ok (.iconst 4, 1) := by decide +kernel
theorem d15_2 : decode prog_81_method_38_code 2 = .ok (.iload_n 0, 1) := by decide +kernel
theorem d15_3 : decode prog_81_method_38_code 3 = .ok (.imul, 1) := by decide +kernel
theorem d15_4 : decode prog_81_method_38_code 4 = .ok (.iadd, 1) := by decide +kernel
theorem d15_5 : decode prog_81_method_38_code 5 = .ok (.ireturn, 1) := by decide +kernel
theorem d16_0 : decode prog_42_method_9_code 0 = .ok (.aload_n 0, 1) := by decide +kernel
theorem d16_1 : decode prog_42_method_9_code 1 = .ok (.getfield 24, 3) := by decide +kernel
theorem d16_4 : decode prog_42_method_9_code 4 = .ok (.ireturn, 1) := by decide +kernel
theorem d17_0 : decode prog_59_method_34_code 0 = .ok (.iload_n 0, 1) := by decide +kernel
theorem d17_1 : decode prog_59_method_34_code 1 = .ok (.sipush 4096, 3) := by decide +kernel
theorem d17_4 : decode prog_59_method_34_code 4 = .ok (.if_icmp .gt 10, 3) := by decide +kernel
theorem d17_7 : decode prog_59_method_34_code 7 = .ok (.iload_n 0, 1) := by decide +kernel
theorem d17_8 : decode prog_59_method_34_code 8 = .ok (.invokestatic 108, 3) := by decide +kernel
theorem d17_11 : decode prog_59_method_34_code 11 = .ok (.goto 6, 3) := by decide +kernel
theorem d17_14 : decode prog_59_method_34_code 14 = .ok (.sipush 8192, 3) := by decide +kernel
theorem d17_17 : decode prog_59_method_34_code 17 = .ok (.ireturn, 1) := by decide +kernel
theorem d18_0 : decode prog_42_method_60_code 0 = .ok (.iconst 2, 1) := by decide +kernel
theorem d18_1 : decode prog_42_method_60_code 1 = .ok (.iload_n 0, 1) := by decide +kernel
theorem d18_2 : decode prog_42_method_60_code 2 = .ok (.imul, 1) := by decide +kernel
theorem d18_3 : decode prog_42_method_60_code 3 = .ok (.ireturn, 1) := by decide +kernel
theorem d19_0 : decode prog_42_method_8_code 0 = .ok (.getstatic 84, 3) := by decide +kernel
theorem d19_3 : decode prog_42_method_8_code 3 = .ok (.areturn, 1) := by decide +kernel
theorem d20_0 : decode prog_42_method_22_code 0 = .ok (.aload_n 0, 1) := by decide +kernel
theorem d20_1 : decode prog_42_method_22_code 1 = .ok (.getfield 27, 3) := by decide +kernel
theorem d20_4 : decode prog_42_method_22_code 4 = .ok (.aload_n 0, 1) := by decide +kernel
theorem d20_5 : decode prog_42_method_22_code 5 = .ok (.getfield 24, 3) := by decide +kernel
theorem d20_8 : decode prog_42_method_22_code 8 = .ok (.if_icmp .ne 38, 3) := by decide +kernel
theorem d20_11 : decode prog_42_method_22_code 11 = .ok (.aload_n 0, 1) := by decide +kernel
theorem d20_12 : decode prog_42_method_22_code 12 = .ok (.getfield 24, 3) := by decide +kernel
theorem d20_15 : decode prog_42_method_22_code 15 = .ok (.sipush 128, 3) := by decide +kernel
theorem d20_18 : decode prog_42_method_22_code 18 = .ok (.if_icmp .lt 32, 3) := by decide +kernel
theorem d20_21 : decode prog_42_method_22_code 21 = .ok (.aload_n 0, 1) := by decide +kernel
theorem d20_22 : decode prog_42_method_22_code 22 = .ok (.getfield 24, 3) := by decide +kernel
theorem d20_25 : decode prog_42_method_22_code 25 = .ok (.sipush 2048, 3) := by decide +kernel
theorem d20_28 : decode prog_42_method_22_code 28 = .ok (.if_icmp .gt 22, 3) := by decide +kernel
theorem d20_31 : decode prog_42_method_22_code 31 = .ok (.iload_n 1, 1) := by decide +kernel
theorem d20_32 : decode prog_42_method_22_code 32 = .ok (.aload_n 0, 1) := by decide +kernel
theorem d20_33 : decode prog_42_method_22_code 33 = .ok (.getfield 17, 3) := by decide +kernel
theorem d20_36 : decode prog_42_method_22_code 36 = .ok (.aload_n 0, 1) := by decide +kernel
theorem d20_37 : decode prog_42_method_22_code 37 = .ok (.getfield 24, 3) := by decide +kernel
theorem d20_40 : decode prog_42_method_22_code 40 = .ok (.iconst 1, 1) := by decide +kernel
theorem d20_41 : decode prog_42_method_22_code 41 = .ok (.isub, 1) := by decide +kernel
theorem d20_42 : decode prog_42_method_22_code 42 = .ok (.caload, 1) := by decide +kernel
theorem d20_43 : decode prog_42_method_22_code 43 = .ok (.if_icmp .ge 7, 3) := by decide +kernel
theorem d20_46 : decode prog_42_method_22_code 46 = .ok (.iconst 1, 1) := by decide +kernel
theorem d20_47 : decode prog_42_method_22_code 47 = .ok (.goto 4, 3) := by decide +kernel
theorem d20_50 : decode prog_42_method_22_code 50 = .ok (.iconst 0, 1) := by decide +kernel
theorem d20_51 : decode prog_42_method_22_code 51 = .ok (.ireturn, 1) := by decide +kernel
theorem d21_0 : decode prog_42_method_56_code 0 = .ok (.sipush 4103, 3) := by decide +kernel
theorem d21_3 : decode prog_42_method_56_code 3 = .ok (.istore_n 1, 1) := by decide +kernel
theorem d21_4 : decode prog_42_method_56_code 4 = .ok (.iload_n 0, 1) := by decide +kernel
theorem d21_5 : decode prog_42_method_56_code 5 = .ok (.iconst 2, 1) := by decide +kernel
theorem d21_6 : decode prog_42_method_56_code 6 = .ok (.iload_n 0, 1) := by decide +kernel
theorem d21_7 : decode prog_42_method_56_code 7 = .ok (.imul, 1) := by decide +kernel
theorem d21_8 : decode prog_42_method_56_code 8 = .ok (.iload_n 1, 1) := by decide +kernel
theorem d21_9 : decode prog_42_method_56_code 9 = .ok (.invokestatic 236, 3) := by decide +kernel
theorem d21_12 : decode prog_42_method_56_code 12 = .ok (.invokestatic 291, 3) := by decide +kernel
theorem d21_15 : decode prog_42_method_56_code 15 = .ok (.ireturn, 1) := by decide +kernel
theorem d22_0 : decode jdk_29_method_69_code 0 = .ok (.iload_n 0, 1) := by decide +kernel
theorem d22_1 : decode jdk_29_method_69_code 1 = .ok (.iload_n 1, 1) := by decide +kernel
theorem d22_2 : decode jdk_29_method_69_code 2 = .ok (.if_icmp .gt 7, 3) := by decide +kernel
theorem d22_5 : decode jdk_29_method_69_code 5 = .ok (.iload_n 0, 1) := by decide +kernel
theorem d22_6 : decode jdk_29_method_69_code 6 = .ok (.goto 4, 3) := by decide +kernel
theorem d22_9 : decode jdk_29_method_69_code 9 = .ok (.iload_n 1, 1) := by decide +kernel
theorem d22_10 : decode jdk_29_method_69_code 10 = .ok (.ireturn, 1) := by decide +kernel
theorem d23_0 : decode jdk_29_method_65_code 0 = .ok (.iload_n 0, 1) := by decide +kernel
theorem d23_1 : decode jdk_29_method_65_code 1 = .ok (.iload_n 1, 1) := by decide +kernel
theorem d23_2 : decode jdk_29_method_65_code 2 = .ok (.if_icmp .lt 7, 3) := by decide +kernel
theorem d23_5 : decode jdk_29_method_65_code 5 = .ok (.iload_n 0, 1) := by decide +kernel
theorem d23_6 : decode jdk_29_method_65_code 6 = .ok (.goto 4, 3) := by decide +kernel
theorem d23_9 : decode jdk_29_method_65_code 9 = .ok (.iload_n 1, 1) := by decide +kernel
theorem d23_10 : decode jdk_29_method_65_code 10 = .ok (.ireturn, 1) := by decide +kernel
theorem d24_0 : decode jdk_65_method_125_code 0 = .ok (.iload_n 1, 1) := by decide +kernel
theorem d24_1 : decode jdk_65_method_125_code 1 = .ok (.aload_n 0, 1) := by decide +kernel
theorem d24_2 : decode jdk_65_method_125_code 2 = .ok (.arraylength, 1) := by decide +kernel
theorem d24_3 : decode jdk_65_method_125_code 3 = .ok (.if_icmp .ne 11, 3) := by decide +kernel
theorem d24_6 : decode jdk_65_method_125_code 6 = .ok (.aload_n 0, 1) := by decide +kernel
theorem d24_7 : decode jdk_65_method_125_code 7 = .ok (.invokevirtual 322, 3) := by decide +kernel
theorem d24_10 : decode jdk_65_method_125_code 10 = .ok (.checkcast 323, 3) := by decide +kernel
theorem d24_13 : decode jdk_65_method_125_code 13 = .ok (.areturn, 1) := by decide +kernel
theorem d24_14 : decode jdk_65_method_125_code 14 = .ok (.iload_n 1, 1) := by decide +kernel
theorem d24_15 : decode jdk_65_method_125_code 15 = .ok (.newarray .char, 2) := by decide +kernel
theorem d24_17 : decode jdk_65_method_125_code 17 = .ok (.astore_n 2, 1) := by decide +kernel
theorem d24_18 : decode jdk_65_method_125_code 18 = .ok (.aload_n 0, 1) := by decide +kernel
theorem d24_19 : decode jdk_65_method_125_code 19 = .ok (.iconst 0, 1) := by decide +kernel
theorem d24_20 : decode jdk_65_method_125_code 20 = .ok (.aload_n 2, 1) := by decide +kernel
theorem d24_21 : decode jdk_65_method_125_code 21 = .ok (.iconst 0, 1) := by decide +kernel
theorem d24_22 : decode jdk_65_method_125_code 22 = .ok (.aload_n 0, 1) := by decide +kernel
theorem d24_23 : decode jdk_65_method_125_code 23 = .ok (.arraylength, 1) := by decide +kernel
theorem d24_24 : decode jdk_65_method_125_code 24 = .ok (.iload_n 1, 1) := by decide +kernel
theorem d24_25 : decode jdk_65_method_125_code 25 = .ok (.invokestatic 304, 3) := by decide +kernel
theorem d24_28 : decode jdk_65_method_125_code 28 = .ok (.invokestatic 150, 3) := by decide +kernel
theorem d24_31 : decode jdk_65_method_125_code 31 = .ok (.aload_n 2, 1) := by decide +kernel
theorem d24_32 : decode jdk_65_method_125_code 32 = .ok (.areturn, 1) := by decide +kernel
theorem d25_0 : decode prog_42_method_45_code 0 = .ok (.sipush 1024, 3) := by decide +kernel
theorem d25_3 : decode prog_42_method_45_code 3 = .ok (.newarray .long, 2) := by decide +kernel
theorem d25_5 : decode prog_42_method_45_code 5 = .ok (.astore_n 1, 1) := by decide +kernel
theorem d25_6 : decode prog_42_method_45_code 6 = .ok (.aload_n 0, 1) := by decide +kernel
theorem d25_7 : decode prog_42_method_45_code 7 = .ok (.aload_n 1, 1) := by decide +kernel
theorem d25_8 : decode prog_42_method_45_code 8 = .ok (.invokevirtual 257, 3) := by decide +kernel
theorem d25_11 : decode prog_42_method_45_code 11 = .ok (.aload_n 1, 1) := by decide +kernel
theorem d25_12 : decode prog_42_method_45_code 12 = .ok (.areturn, 1) := by decide +kernel
theorem d26_0 : decode prog_42_method_46_code 0 = .ok (.aload_n 0, 1) := by decide +kernel
theorem d26_1 : decode prog_42_method_46_code 1 = .ok (.getfield 17, 3) := by decide +kernel
theorem d26_4 : decode prog_42_method_46_code 4 = .ok (.aload_n 0, 1) := by decide +kernel
theorem d26_5 : decode prog_42_method_46_code 5 = .ok (.getfield 24, 3) := by decide +kernel
theorem d26_8 : decode prog_42_method_46_code 8 = .ok (.aload_n 1, 1) := by decide +kernel
theorem d26_9 : decode prog_42_method_46_code 9 = .ok (.invokestatic 260, 3) := by decide +kernel
theorem d26_12 : decode prog_42_method_46_code 12 = .ok (.return_, 1) := by decide +kernel
theorem d27_0 : decode prog_42_method_47_code 0 = .ok (.iconst 0, 1) := by decide +kernel
theorem d27_1 : decode prog_42_method_47_code 1 = .ok (.istore_n 3, 1) := by decide +kernel
theorem d27_2 : decode prog_42_method_47_code 2 = .ok (.iload_n 3, 1) := by decide +kernel
theorem d27_3 : decode prog_42_method_47_code 3 = .ok (.iload_n 1, 1) := by decide +kernel
theorem d27_4 : decode prog_42_method_47_code 4 = .ok (.if_icmp .ge 25, 3) := by decide +kernel
theorem d27_7 : decode prog_42_method_47_code 7 = .ok (.aload_n 2, 1) := by decide +kernel
theorem d27_8 : decode prog_42_method_47_code 8 = .ok (.aload_n 0, 1) := by decide +kernel
theorem d27_9 : decode prog_42_method_47_code 9 = .ok (.iload_n 3, 1) := by decide +kernel
theorem d27_10 : decode prog_42_method_47_code 10 = .ok (.caload, 1) := by decide +kernel
theorem d27_11 : decode prog_42_method_47_code 11 = .ok (.bipush 6, 2) := by decide +kernel
theorem d27_13 : decode prog_42_method_47_code 13 = .ok (.iushr, 1) := by decide +kernel
theorem d27_14 : decode prog_42_method_47_code 14 = .ok (.dup2, 1) := by decide +kernel
theorem d27_15 : decode prog_42_method_47_code 15 = .ok (.laload, 1) := by decide +kernel
theorem d27_16 : decode prog_42_method_47_code 16 = .ok (.lconst 1, 1) := by decide +kernel
theorem d27_17 : decode prog_42_method_47_code 17 = .ok (.aload_n 0, 1) := by decide +kernel
theorem d27_18 : decode prog_42_method_47_code 18 = .ok (.iload_n 3, 1) := by decide +kernel
theorem d27_19 : decode prog_42_method_47_code 19 = .ok (.caload, 1) := by decide +kernel
theorem d27_20 : decode prog_42_method_47_code 20 = .ok (.lshl, 1) := by decide +kernel
theorem d27_21 : decode prog_42_method_47_code 21 = .ok (.lor, 1) := by decide +kernel
theorem d27_22 : decode prog_42_method_47_code 22 = .ok (.lastore, 1) := by decide +kernel
theorem d27_23 : decode prog_42_method_47_code 23 = .ok (.iinc 3 1, 3) := by decide +kernel
theorem d27_26 : decode prog_42_method_47_code 26 = .ok (.goto (-24), 3) := by decide +kernel
theorem d27_29 : decode prog_42_method_47_code 29 = .ok (.return_, 1) := by decide +kernel
theorem d28_0 : decode prog_81_method_3_code 0 = .ok (.aload_n 0, 1) := by decide +kernel
theorem d28_1 : decode prog_81_method_3_code 1 = .ok (.invokestatic 23, 3) := by decide +kernel
theorem d28_4 : decode prog_81_method_3_code 4 = .ok (.istore_n 1, 1) := by decide +kernel
theorem d28_5 : decode prog_81_method_3_code 5 = .ok (.iconst 2, 1) := by decide +kernel
theorem d28_6 : decode prog_81_method_3_code 6 = .ok (.iload_n 1, 1) := by decide +kernel
theorem d28_7 : decode prog_81_method_3_code 7 = .ok (.imul, 1) := by decide +kernel
theorem d28_8 : decode prog_81_method_3_code 8 = .ok (.newarray .char, 2) := by decide +kernel
theorem d28_10 : decode prog_81_method_3_code 10 = .ok (.astore_n 2, 1) := by decide +kernel
theorem d28_11 : decode prog_81_method_3_code 11 = .ok (.iconst 0, 1) := by decide +kernel
theorem d28_12 : decode prog_81_method_3_code 12 = .ok (.istore_n 3, 1) := by decide +kernel
theorem d28_13 : decode prog_81_method_3_code 13 = .ok (.aload_n 0, 1) := by decide +kernel
theorem d28_14 : decode prog_81_method_3_code 14 = .ok (.invokestatic 28, 3) := by decide +kernel
theorem d28_17 : decode prog_81_method_3_code 17 = .ok (.astore 4, 2) := by decide +kernel
theorem d28_19 : decode prog_81_method_3_code 19 = .ok (.iconst 0, 1) := by decide +kernel
theorem d28_20 : decode prog_81_method_3_code 20 = .ok (.istore 5, 2) := by decide +kernel
theorem d28_22 : decode prog_81_method_3_code 22 = .ok (.iload 5, 2) := by decide +kernel
theorem d28_24 : decode prog_81_method_3_code 24 = .ok (.iload_n 1, 1) := by decide +kernel
theorem d28_25 : decode prog_81_method_3_code 25 = .ok (.if_icmp .ge 63, 3) := by decide +kernel
theorem d28_28 : decode prog_81_method_3_code 28 = .ok (.aload 4, 2) := by decide +kernel
theorem d28_30 : decode prog_81_method_3_code 30 = .ok (.invokevirtual 32, 3) := by decide +kernel
theorem d28_33 : decode prog_81_method_3_code 33 = .ok (.pop, 1) := by decide +kernel
theorem d28_34 : decode prog_81_method_3_code 34 = .ok (.aload_n 2, 1) := by decide +kernel
theorem d28_35 : decode prog_81_method_3_code 35 = .ok (.iconst 2, 1) := by decide +kernel
theorem d28_36 : decode prog_81_method_3_code 36 = .ok (.iload 5, 2) := by decide +kernel
theorem d28_38 : decode prog_81_method_3_code 38 = .ok (.imul, 1) := by decide +kernel
theorem d28_39 : decode prog_81_method_3_code 39 = .ok (.aload 4, 2) := by decide +kernel
theorem d28_41 : decode prog_81_method_3_code 41 = .ok (.invokevirtual 38, 3) := by decide +kernel
theorem d28_44 : decode prog_81_method_3_code 44 = .ok (.i2c, 1) := by decide +kernel
theorem d28_45 : decode prog_81_method_3_code 45 = .ok (.castore, 1) := by decide +kernel
theorem d28_46 : decode prog_81_method_3_code 46 = .ok (.aload_n 2, 1) := by decide +kernel
theorem d28_47 : decode prog_81_method_3_code 47 = .ok (.iconst 2, 1) := by decide +kernel
theorem d28_48 : decode prog_81_method_3_code 48 = .ok (.iload 5, 2) := by decide +kernel
theorem d28_50 : decode prog_81_method_3_code 50 = .ok (.imul, 1) := by decide +kernel
theorem d28_51 : decode prog_81_method_3_code 51 = .ok (.iconst 1, 1) := by decide +kernel
theorem d28_52 : decode prog_81_method_3_code 52 = .ok (.iadd, 1) := by decide +kernel
theorem d28_53 : decode prog_81_method_3_code 53 = .ok (.aload 4, 2) := by decide +kernel
theorem d28_55 : decode prog_81_method_3_code 55 = .ok (.invokevirtual 42, 3) := by decide +kernel
theorem d28_58 : decode prog_81_method_3_code 58 = .ok (.aload 4, 2) := by decide +kernel
theorem d28_60 : decode prog_81_method_3_code 60 = .ok (.invokevirtual 38, 3) := by decide +kernel
theorem d28_63 : decode prog_81_method_3_code 63 = .ok (.isub, 1) := by decide +kernel
theorem d28_64 : decode prog_81_method_3_code 64 = .ok (.i2c, 1) := by decide +kernel
theorem d28_65 : decode prog_81_method_3_code 65 = .ok (.castore, 1) := by decide +kernel
theorem d28_66 : decode prog_81_method_3_code 66 = .ok (.iload_n 3, 1) := by decide +kernel
theorem d28_67 : decode prog_81_method_3_code 67 = .ok (.aload 4, 2) := by decide +kernel
theorem d28_69 : decode prog_81_method_3_code 69 = .ok (.invokevirtual 42, 3) := by decide +kernel
theorem d28_72 : decode prog_81_method_3_code 72 = .ok (.aload 4, 2) := by decide +kernel
theorem d28_74 : decode prog_81_method_3_code 74 = .ok (.invokevirtual 38, 3) := by decide +kernel
theorem d28_77 : decode prog_81_method_3_code 77 = .ok (.isub, 1) := by decide +kernel
theorem d28_78 : decode prog_81_method_3_code 78 = .ok (.iconst 1, 1) := by decide +kernel
theorem d28_79 : decode prog_81_method_3_code 79 = .ok (.iadd, 1) := by decide +kernel
theorem d28_80 : decode prog_81_method_3_code 80 = .ok (.iadd, 1) := by decide +kernel
theorem d28_81 : decode prog_81_method_3_code 81 = .ok (.istore_n 3, 1) := by decide +kernel
theorem d28_82 : decode prog_81_method_3_code 82 = .ok (.iinc 5 1, 3) := by decide +kernel
theorem d28_85 : decode prog_81_method_3_code 85 = .ok (.goto (-63), 3) := by decide +kernel
theorem d28_88 : decode prog_81_method_3_code 88 = .ok (.new 8, 3) := by decide +kernel
theorem d28_91 : decode prog_81_method_3_code 91 = .ok (.dup, 1) := by decide +kernel
theorem d28_92 : decode prog_81_method_3_code 92 = .ok (.aload_n 2, 1) := by decide +kernel
theorem d28_93 : decode prog_81_method_3_code 93 = .ok (.iload_n 1, 1) := by decide +kernel
theorem d28_94 : decode prog_81_method_3_code 94 = .ok (.iload_n 3, 1) := by decide +kernel
theorem d28_95 : decode prog_81_method_3_code 95 = .ok (.invokespecial 20, 3) := by decide +kernel
theorem d28_98 : decode prog_81_method_3_code 98 = .ok (.areturn, 1) := by decide +kernel
theorem d29_0 : decode prog_45_method_41_code 0 = .ok (.aload_n 0, 1) := by decide +kernel
theorem d29_1 : decode prog_45_method_41_code 1 = .ok (.iconst 0, 1) := by decide +kernel
theorem d29_2 : decode prog_45_method_41_code 2 = .ok (.sipush 1024, 3) := by decide +kernel
theorem d29_5 : decode prog_45_method_41_code 5 = .ok (.invokestatic 159, 3) := by decide +kernel
theorem d29_8 : decode prog_45_method_41_code 8 = .ok (.ireturn, 1) := by decide +kernel
theorem d30_0 : decode prog_45_method_43_code 0 = .ok (.iconst 0, 1) := by decide +kernel
theorem d30_1 : decode prog_45_method_43_code 1 = .ok (.istore_n 3, 1) := by decide +kernel
theorem d30_2 : decode prog_45_method_43_code 2 = .ok (.iload_n 1, 1) := by decide +kernel
theorem d30_3 : decode prog_45_method_43_code 3 = .ok (.ifCond .le 11, 3) := by decide +kernel
theorem d30_6 : decode prog_45_method_43_code 6 = .ok (.aload_n 0, 1) := by decide +kernel
theorem d30_7 : decode prog_45_method_43_code 7 = .ok (.iload_n 1, 1) := by decide +kernel
theorem d30_8 : decode prog_45_method_43_code 8 = .ok (.iconst 1, 1) := by decide +kernel
theorem d30_9 : decode prog_45_method_43_code 9 = .ok (.isub, 1) := by decide +kernel
theorem d30_10 : decode prog_45_method_43_code 10 = .ok (.laload, 1) := by decide +kernel
theorem d30_11 : decode prog_45_method_43_code 11 = .ok (.goto 4, 3) := by decide +kernel
theorem d30_14 : decode prog_45_method_43_code 14 = .ok (.lconst 0, 1) := by decide +kernel
theorem d30_15 : decode prog_45_method_43_code 15 = .ok (.lstore 4, 2) := by decide +kernel
theorem d30_17 : decode prog_45_method_43_code 17 = .ok (.iload_n 1, 1) := by decide +kernel
theorem d30_18 : decode prog_45_method_43_code 18 = .ok (.istore 6, 2) := by decide +kernel
theorem d30_20 : decode prog_45_method_43_code 20 = .ok (.iload 6, 2) := by decide +kernel
theorem d30_22 : decode prog_45_method_43_code 22 = .ok (.iload_n 2, 1) := by decide +kernel
theorem d30_23 : decode prog_45_method_43_code 23 = .ok (.if_icmp .ge 42, 3) := by decide +kernel
theorem d30_26 : decode prog_45_method_43_code 26 = .ok (.aload_n 0, 1) := by decide +kernel
theorem d30_27 : decode prog_45_method_43_code 27 = .ok (.iload 6, 2) := by decide +kernel
theorem d30_29 : decode prog_45_method_43_code 29 = .ok (.laload, 1) := by decide +kernel
theorem d30_30 : decode prog_45_method_43_code 30 = .ok (.lstore 7, 2) := by decide +kernel
theorem d30_32 : decode prog_45_method_43_code 32 = .ok (.iload_n 3, 1) := by decide +kernel
theorem d30_33 : decode prog_45_method_43_code 33 = .ok (.lload 7, 2) := by decide +kernel
theorem d30_35 : decode prog_45_method_43_code 35 = .ok (.lload 7, 2) := by decide +kernel
theorem d30_37 : decode prog_45_method_43_code 37 = .ok (.iconst 1, 1) := by decide +kernel
theorem d30_38 : decode prog_45_method_43_code 38 = .ok (.lshl, 1) := by decide +kernel
theorem d30_39 : decode prog_45_method_43_code 39 = .ok (.lload 4, 2) := by decide +kernel
theorem d30_41 : decode prog_45_method_43_code 41 = .ok (.bipush 63, 2) := by decide +kernel
theorem d30_43 : decode prog_45_method_43_code 43 = .ok (.lushr, 1) := by decide +kernel
theorem d30_44 : decode prog_45_method_43_code 44 = .ok (.lor, 1) := by decide +kernel
theorem d30_45 : decode prog_45_method_43_code 45 = .ok (.ldc2_w 100, 3) := by decide +kernel
theorem d30_48 : decode prog_45_method_43_code 48 = .ok (.lxor, 1) := by decide +kernel
theorem d30_49 : decode prog_45_method_43_code 49 = .ok (.land, 1) := by decide +kernel
theorem d30_50 : decode prog_45_method_43_code 50 = .ok (.invokestatic 62, 3) := by decide +kernel
theorem d30_53 : decode prog_45_method_43_code 53 = .ok (.iadd, 1) := by decide +kernel
theorem d30_54 : decode prog_45_method_43_code 54 = .ok (.istore_n 3, 1) := by decide +kernel
theorem d30_55 : decode prog_45_method_43_code 55 = .ok (.lload 7, 2) := by decide +kernel
theorem d30_57 : decode prog_45_method_43_code 57 = .ok (.lstore 4, 2) := by decide +kernel
theorem d30_59 : decode prog_45_method_43_code 59 = .ok (.iinc 6 1, 3) := by decide +kernel
theorem d30_62 : decode prog_45_method_43_code 62 = .ok (.goto (-42), 3) := by decide +kernel
theorem d30_65 : decode prog_45_method_43_code 65 = .ok (.iload_n 3, 1) := by decide +kernel
theorem d30_66 : decode prog_45_method_43_code 66 = .ok (.ireturn, 1) := by decide +kernel
theorem d31_0 : decode jdk_35_method_50_code 0 = .ok (.lload_n 0, 1) := by decide +kernel
theorem d31_1 : decode jdk_35_method_50_code 1 = .ok (.lload_n 0, 1) := by decide +kernel
theorem d31_2 : decode jdk_35_method_50_code 2 = .ok (.iconst 1, 1) := by decide +kernel
theorem d31_3 : decode jdk_35_method_50_code 3 = .ok (.lushr, 1) := by decide +kernel
theorem d31_4 : decode jdk_35_method_50_code 4 = .ok (.ldc2_w 314, 3) := by decide +kernel
theorem d31_7 : decode jdk_35_method_50_code 7 = .ok (.land, 1) := by decide +kernel
theorem d31_8 : decode jdk_35_method_50_code 8 = .ok (.lsub, 1) := by decide +kernel
theorem d31_9 : decode jdk_35_method_50_code 9 = .ok (.lstore_n 0, 1) := by decide +kernel
theorem d31_10 : decode jdk_35_method_50_code 10 = .ok (.lload_n 0, 1) := by decide +kernel
theorem d31_11 : decode jdk_35_method_50_code 11 = .ok (.ldc2_w 316, 3) := by decide +kernel
theorem d31_14 : decode jdk_35_method_50_code 14 = .ok (.land, 1) := by decide +kernel
theorem d31_15 : decode jdk_35_method_50_code 15 = .ok (.lload_n 0, 1) := by decide +kernel
theorem d31_16 : decode jdk_35_method_50_code 16 = .ok (.iconst 2, 1) := by decide +kernel
theorem d31_17 : decode jdk_35_method_50_code 17 = .ok (.lushr, 1) := by decide +kernel
theorem d31_18 : decode jdk_35_method_50_code 18 = .ok (.ldc2_w 316, 3) := by decide +kernel
theorem d31_21 : decode jdk_35_method_50_code 21 = .ok (.land, 1) := by decide +kernel
theorem d31_22 : decode jdk_35_method_50_code 22 = .ok (.ladd, 1) := by decide +kernel
theorem d31_23 : decode jdk_35_method_50_code 23 = .ok (.lstore_n 0, 1) := by decide +kernel
theorem d31_24 : decode jdk_35_method_50_code 24 = .ok (.lload_n 0, 1) := by decide +kernel
theorem d31_25 : decode jdk_35_method_50_code 25 = .ok (.lload_n 0, 1) := by decide +kernel
theorem d31_26 : decode jdk_35_method_50_code 26 = .ok (.iconst 4, 1) := by decide +kernel
theorem d31_27 : decode jdk_35_method_50_code 27 = .ok (.lushr, 1) := by decide +kernel
theorem d31_28 : decode jdk_35_method_50_code 28 = .ok (.ladd, 1) := by decide +kernel
theorem d31_29 : decode jdk_35_method_50_code 29 = .ok (.ldc2_w 318, 3) := by decide +kernel
theorem d31_32 : decode jdk_35_method_50_code 32 = .ok (.land, 1) := by decide +kernel
theorem d31_33 : decode jdk_35_method_50_code 33 = .ok (.lstore_n 0, 1) := by decide +kernel
theorem d31_34 : decode jdk_35_method_50_code 34 = .ok (.lload_n 0, 1) := by decide +kernel
theorem d31_35 : decode jdk_35_method_50_code 35 = .ok (.lload_n 0, 1) := by decide +kernel
theorem d31_36 : decode jdk_35_method_50_code 36 = .ok (.bipush 8, 2) := by decide +kernel
theorem d31_38 : decode jdk_35_method_50_code 38 = .ok (.lushr, 1) := by decide +kernel
theorem d31_39 : decode jdk_35_method_50_code 39 = .ok (.ladd, 1) := by decide +kernel
theorem d31_40 : decode jdk_35_method_50_code 40 = .ok (.lstore_n 0, 1) := by decide +kernel
theorem d31_41 : decode jdk_35_method_50_code 41 = .ok (.lload_n 0, 1) := by decide +kernel
theorem d31_42 : decode jdk_35_method_50_code 42 = .ok (.lload_n 0, 1) := by decide +kernel
theorem d31_43 : decode jdk_35_method_50_code 43 = .ok (.bipush 16, 2) := by decide +kernel
theorem d31_45 : decode jdk_35_method_50_code 45 = .ok (.lushr, 1) := by decide +kernel
theorem d31_46 : decode jdk_35_method_50_code 46 = .ok (.ladd, 1) := by decide +kernel
theorem d31_47 : decode jdk_35_method_50_code 47 = .ok (.lstore_n 0, 1) := by decide +kernel
theorem d31_48 : decode jdk_35_method_50_code 48 = .ok (.lload_n 0, 1) := by decide +kernel
theorem d31_49 : decode jdk_35_method_50_code 49 = .ok (.lload_n 0, 1) := by decide +kernel
theorem d31_50 : decode jdk_35_method_50_code 50 = .ok (.bipush 32, 2) := by decide +kernel
theorem d31_52 : decode jdk_35_method_50_code 52 = .ok (.lushr, 1) := by decide +kernel
theorem d31_53 : decode jdk_35_method_50_code 53 = .ok (.ladd, 1) := by decide +kernel
theorem d31_54 : decode jdk_35_method_50_code 54 = .ok (.lstore_n 0, 1) := by decide +kernel
theorem d31_55 : decode jdk_35_method_50_code 55 = .ok (.lload_n 0, 1) := by decide +kernel
theorem d31_56 : decode jdk_35_method_50_code 56 = .ok (.l2i, 1) := by decide +kernel
theorem d31_57 : decode jdk_35_method_50_code 57 = .ok (.bipush 127, 2) := by decide +kernel
theorem d31_59 : decode jdk_35_method_50_code 59 = .ok (.iand, 1) := by decide +kernel
theorem d31_60 : decode jdk_35_method_50_code 60 = .ok (.ireturn, 1) := by decide +kernel
theorem d32_0 : decode prog_45_method_42_code 0 = .ok (.new 190, 3) := by decide +kernel
theorem d32_3 : decode prog_45_method_42_code 3 = .ok (.dup, 1) := by decide +kernel
theorem d32_4 : decode prog_45_method_42_code 4 = .ok (.aload_n 0, 1) := by decide +kernel
theorem d32_5 : decode prog_45_method_42_code 5 = .ok (.invokespecial 192, 3) := by decide +kernel
theorem d32_8 : decode prog_45_method_42_code 8 = .ok (.areturn, 1) := by decide +kernel
theorem d33_0 : decode prog_46_method_1_code 0 = .ok (.aload_n 0, 1) := by decide +kernel
theorem d33_1 : decode prog_46_method_1_code 1 = .ok (.aload_n 1, 1) := by decide +kernel
theorem d33_2 : decode prog_46_method_1_code 2 = .ok (.putfield 3, 3) := by decide +kernel
theorem d33_5 : decode prog_46_method_1_code 5 = .ok (.aload_n 0, 1) := by decide +kernel
theorem d33_6 : decode prog_46_method_1_code 6 = .ok (.invokespecial 9, 3) := by decide +kernel
theorem d33_9 : decode prog_46_method_1_code 9 = .ok (.aload_n 0, 1) := by decide +kernel
theorem d33_10 : decode prog_46_method_1_code 10 = .ok (.aload_n 0, 1) := by decide +kernel
theorem d33_11 : decode prog_46_method_1_code 11 = .ok (.getfield 3, 3) := by decide +kernel
theorem d33_14 : decode prog_46_method_1_code 14 = .ok (.iconst 0, 1) := by decide +kernel
theorem d33_15 : decode prog_46_method_1_code 15 = .ok (.laload, 1) := by decide +kernel
theorem d33_16 : decode prog_46_method_1_code 16 = .ok (.putfield 15, 3) := by decide +kernel
theorem d33_19 : decode prog_46_method_1_code 19 = .ok (.return_, 1) := by decide +kernel
theorem d34_0 : decode prog_83_method_1_code 0 = .ok (.aload_n 0, 1) := by decide +kernel
theorem d34_1 : decode prog_83_method_1_code 1 = .ok (.invokespecial 1, 3) := by decide +kernel
theorem d34_4 : decode prog_83_method_1_code 4 = .ok (.return_, 1) := by decide +kernel
theorem d35_0 : decode prog_46_method_2_code 0 = .ok (.aload_n 0, 1) := by decide +kernel
theorem d35_1 : decode prog_46_method_2_code 1 = .ok (.getfield 15, 3) := by decide +kernel
theorem d35_4 : decode prog_46_method_2_code 4 = .ok (.lconst 0, 1) := by decide +kernel
theorem d35_5 : decode prog_46_method_2_code 5 = .ok (.lcmp, 1) := by decide +kernel
theorem d35_6 : decode prog_46_method_2_code 6 = .ok (.ifCond .ne 38, 3) := by decide +kernel
theorem d35_9 : decode prog_46_method_2_code 9 = .ok (.aload_n 0, 1) := by decide +kernel
theorem d35_10 : decode prog_46_method_2_code 10 = .ok (.getfield 19, 3) := by decide +kernel
theorem d35_13 : decode prog_46_method_2_code 13 = .ok (.sipush 1023, 3) := by decide +kernel
theorem d35_16 : decode prog_46_method_2_code 16 = .ok (.if_icmp .ne 5, 3) := by decide +kernel
theorem d35_19 : decode prog_46_method_2_code 19 = .ok (.iconst 0, 1) := by decide +kernel
theorem d35_20 : decode prog_46_method_2_code 20 = .ok (.ireturn, 1) := by decide +kernel
theorem d35_21 : decode prog_46_method_2_code 21 = .ok (.aload_n 0, 1) := by decide +kernel
theorem d35_22 : decode prog_46_method_2_code 22 = .ok (.aload_n 0, 1) := by decide +kernel
theorem d35_23 : decode prog_46_method_2_code 23 = .ok (.getfield 3, 3) := by decide +kernel
theorem d35_26 : decode prog_46_method_2_code 26 = .ok (.aload_n 0, 1) := by decide +kernel
theorem d35_27 : decode prog_46_method_2_code 27 = .ok (.dup, 1) := by decide +kernel
theorem d35_28 : decode prog_46_method_2_code 28 = .ok (.getfield 19, 3) := by decide +kernel
theorem d35_31 : decode prog_46_method_2_code 31 = .ok (.iconst 1, 1) := by decide +kernel
theorem d35_32 : decode prog_46_method_2_code 32 = .ok (.iadd, 1) := by decide +kernel
theorem d35_33 : decode prog_46_method_2_code 33 = .ok (.dup_x1, 1) := by decide +kernel
theorem d35_34 : decode prog_46_method_2_code 34 = .ok (.putfield 19, 3) := by decide +kernel
theorem d35_37 : decode prog_46_method_2_code 37 = .ok (.laload, 1) := by decide +kernel
theorem d35_38 : decode prog_46_method_2_code 38 = .ok (.putfield 15, 3) := by decide +kernel
theorem d35_41 : decode prog_46_method_2_code 41 = .ok (.goto (-41), 3) := by decide +kernel
theorem d35_44 : decode prog_46_method_2_code 44 = .ok (.aload_n 0, 1) := by decide +kernel
theorem d35_45 : decode prog_46_method_2_code 45 = .ok (.getfield 19, 3) := by decide +kernel
theorem d35_48 : decode prog_46_method_2_code 48 = .ok (.bipush 64, 2) := by decide +kernel
theorem d35_50 : decode prog_46_method_2_code 50 = .ok (.imul, 1) := by decide +kernel
theorem d35_51 : decode prog_46_method_2_code 51 = .ok (.aload_n 0, 1) := by decide +kernel
theorem d35_52 : decode prog_46_method_2_code 52 = .ok (.getfield 15, 3) := by decide +kernel
theorem d35_55 : decode prog_46_method_2_code 55 = .ok (.invokestatic 25, 3) := by decide +kernel
theorem d35_58 : decode prog_46_method_2_code 58 = .ok (.iadd, 1) := by decide +kernel
theorem d35_59 : decode prog_46_method_2_code 59 = .ok (.istore_n 1, 1) := by decide +kernel
theorem d35_60 : decode prog_46_method_2_code 60 = .ok (.aload_n 0, 1) := by decide +kernel
theorem d35_61 : decode prog_46_method_2_code 61 = .ok (.dup, 1) := by decide +kernel
theorem d35_62 : decode prog_46_method_2_code 62 = .ok (.getfield 15, 3) := by decide +kernel
theorem d35_65 : decode prog_46_method_2_code 65 = .ok (.aload_n 0, 1) := by decide +kernel
theorem d35_66 : decode prog_46_method_2_code 66 = .ok (.getfield 15, 3) := by decide +kernel
theorem d35_69 : decode prog_46_method_2_code 69 = .ok (.lconst 1, 1) := by decide +kernel
theorem d35_70 : decode prog_46_method_2_code 70 = .ok (.lsub, 1) := by decide +kernel
theorem d35_71 : decode prog_46_method_2_code 71 = .ok (.lor, 1) := by decide +kernel
theorem d35_72 : decode prog_46_method_2_code 72 = .ok (.putfield 15, 3) := by decide +kernel
theorem d35_75 : decode prog_46_method_2_code 75 = .ok (.aload_n 0, 1) := by decide +kernel
theorem d35_76 : decode prog_46_method_2_code 76 = .ok (.getfield 15, 3) := by decide +kernel
theorem d35_79 : decode prog_46_method_2_code 79 = .ok (.ldc2_w 29, 3) := by decide +kernel
theorem d35_82 : decode prog_46_method_2_code 82 = .ok (.lcmp, 1) := by decide +kernel
theorem d35_83 : decode prog_46_method_2_code 83 = .ok (.ifCond .ne 36, 3) := by decide +kernel
theorem d35_86 : decode prog_46_method_2_code 86 = .ok (.aload_n 0, 1) := by decide +kernel
theorem d35_87 : decode prog_46_method_2_code 87 = .ok (.getfield 19, 3) := by decide +kernel
theorem d35_90 : decode prog_46_method_2_code 90 = .ok (.sipush 1023, 3) := by decide +kernel
theorem d35_93 : decode prog_46_method_2_code 93 = .ok (.if_icmp .ge 26, 3) := by decide +kernel
theorem d35_96 : decode prog_46_method_2_code 96 = .ok (.aload_n 0, 1) := by decide +kernel
theorem d35_97 : decode prog_46_method_2_code 97 = .ok (.aload_n 0, 1) := by decide +kernel
theorem d35_98 : decode prog_46_method_2_code 98 = .ok (.getfield 3, 3) := by decide +kernel
theorem d35_101 : decode prog_46_method_2_code 101 = .ok (.aload_n 0, 1) := by decide +kernel
theorem d35_102 : decode prog_46_method_2_code 102 = .ok (.dup, 1) := by decide +kernel
theorem d35_103 : decode prog_46_method_2_code 103 = .ok (.getfield 19, 3) := by decide +kernel
theorem d35_106 : decode prog_46_method_2_code 106 = .ok (.iconst 1, 1) := by decide +kernel
theorem d35_107 : decode prog_46_method_2_code 107 = .ok (.iadd, 1) := by decide +kernel
theorem d35_108 : decode prog_46_method_2_code 108 = .ok (.dup_x1, 1) := by decide +kernel
theorem d35_109 : decode prog_46_method_2_code 109 = .ok (.putfield 19, 3) := by decide +kernel
theorem d35_112 : decode prog_46_method_2_code 112 = .ok (.laload, 1) := by decide +kernel
theorem d35_113 : decode prog_46_method_2_code 113 = .ok (.putfield 15, 3) := by decide +kernel
theorem d35_116 : decode prog_46_method_2_code 116 = .ok (.goto (-41), 3) := by decide +kernel
theorem d35_119 : decode prog_46_method_2_code 119 = .ok (.aload_n 0, 1) := by decide +kernel
theorem d35_120 : decode prog_46_method_2_code 120 = .ok (.getfield 15, 3) := by decide +kernel
theorem d35_123 : decode prog_46_method_2_code 123 = .ok (.ldc2_w 29, 3) := by decide +kernel
theorem d35_126 : decode prog_46_method_2_code 126 = .ok (.lcmp, 1) := by decide +kernel
theorem d35_127 : decode prog_46_method_2_code 127 = .ok (.ifCond .ne 8, 3) := by decide +kernel
theorem d35_130 : decode prog_46_method_2_code 130 = .ok (.ldc 31, 2) := by decide +kernel
theorem d35_132 : decode prog_46_method_2_code 132 = .ok (.goto 22, 3) := by decide +kernel
theorem d35_135 : decode prog_46_method_2_code 135 = .ok (.aload_n 0, 1) := by decide +kernel
theorem d35_136 : decode prog_46_method_2_code 136 = .ok (.getfield 19, 3) := by decide +kernel
theorem d35_139 : decode prog_46_method_2_code 139 = .ok (.bipush 64, 2) := by decide +kernel
theorem d35_141 : decode prog_46_method_2_code 141 = .ok (.imul, 1) := by decide +kernel
theorem d35_142 : decode prog_46_method_2_code 142 = .ok (.aload_n 0, 1) := by decide +kernel
theorem d35_143 : decode prog_46_method_2_code 143 = .ok (.getfield 15, 3) := by decide +kernel
theorem d35_146 : decode prog_46_method_2_code 146 = .ok (.ldc2_w 29, 3) := by decide +kernel
theorem d35_149 : decode prog_46_method_2_code 149 = .ok (.lxor, 1) := by decide +kernel
theorem d35_150 : decode prog_46_method_2_code 150 = .ok (.invokestatic 25, 3) := by decide +kernel
theorem d35_153 : decode prog_46_method_2_code 153 = .ok (.iadd, 1) := by decide +kernel
theorem d35_154 : decode prog_46_method_2_code 154 = .ok (.istore_n 2, 1) := by decide +kernel
theorem d35_155 : decode prog_46_method_2_code 155 = .ok (.aload_n 0, 1) := by decide +kernel
theorem d35_156 : decode prog_46_method_2_code 156 = .ok (.dup, 1) := by decide +kernel
theorem d35_157 : decode prog_46_method_2_code 157 = .ok (.getfield 15, 3) := by decide +kernel
theorem d35_160 : decode prog_46_method_2_code 160 = .ok (.aload_n 0, 1) := by decide +kernel
theorem d35_161 : decode prog_46_method_2_code 161 = .ok (.getfield 15, 3) := by decide +kernel
theorem d35_164 : decode prog_46_method_2_code 164 = .ok (.lconst 1, 1) := by decide +kernel
theorem d35_165 : decode prog_46_method_2_code 165 = .ok (.ladd, 1) := by decide +kernel
theorem d35_166 : decode prog_46_method_2_code 166 = .ok (.land, 1) := by decide +kernel
theorem d35_167 : decode prog_46_method_2_code 167 = .ok (.putfield 15, 3) := by decide +kernel
theorem d35_170 : decode prog_46_method_2_code 170 = .ok (.aload_n 0, 1) := by decide +kernel
theorem d35_171 : decode prog_46_method_2_code 171 = .ok (.iload_n 1, 1) := by decide +kernel
theorem d35_172 : decode prog_46_method_2_code 172 = .ok (.iload_n 2, 1) := by decide +kernel
theorem d35_173 : decode prog_46_method_2_code 173 = .ok (.iconst 1, 1) := by decide +kernel
theorem d35_174 : decode prog_46_method_2_code 174 = .ok (.isub, 1) := by decide +kernel
theorem d35_175 : decode prog_46_method_2_code 175 = .ok (.invokevirtual 32, 3) := by decide +kernel
theorem d35_178 : decode prog_46_method_2_code 178 = .ok (.ireturn, 1) := by decide +kernel
theorem d36_0 : decode jdk_35_method_49_code 0 = .ok (.lload_n 0, 1) := by decide +kernel
theorem d36_1 : decode jdk_35_method_49_code 1 = .ok (.l2i, 1) := by decide +kernel
theorem d36_2 : decode jdk_35_method_49_code 2 = .ok (.istore_n 2, 1) := by decide +kernel
theorem d36_3 : decode jdk_35_method_49_code 3 = .ok (.iload_n 2, 1) := by decide +kernel
theorem d36_4 : decode jdk_35_method_49_code 4 = .ok (.ifCond .ne 17, 3) := by decide +kernel
theorem d36_7 : decode jdk_35_method_49_code 7 = .ok (.bipush 32, 2) := by decide +kernel
theorem d36_9 : decode jdk_35_method_49_code 9 = .ok (.lload_n 0, 1) := by decide +kernel
theorem d36_10 : decode jdk_35_method_49_code 10 = .ok (.bipush 32, 2) := by decide +kernel
theorem d36_12 : decode jdk_35_method_49_code 12 = .ok (.lushr, 1) := by decide +kernel
theorem d36_13 : decode jdk_35_method_49_code 13 = .ok (.l2i, 1) := by decide +kernel
theorem d36_14 : decode jdk_35_method_49_code 14 = .ok (.invokestatic 311, 3) := by decide +kernel
theorem d36_17 : decode jdk_35_method_49_code 17 = .ok (.iadd, 1) := by decide +kernel
theorem d36_18 : decode jdk_35_method_49_code 18 = .ok (.goto 7, 3) := by decide +kernel
theorem d36_21 : decode jdk_35_method_49_code 21 = .ok (.iload_n 2, 1) := by decide +kernel
theorem d36_22 : decode jdk_35_method_49_code 22 = .ok (.invokestatic 311, 3) := by decide +kernel
theorem d36_25 : decode jdk_35_method_49_code 25 = .ok (.ireturn, 1) := by decide +kernel
theorem d37_0 : decode jdk_33_method_48_code 0 = .ok (.iload_n 0, 1) := by decide +kernel
theorem d37_1 : decode jdk_33_method_48_code 1 = .ok (.iconst (-1), 1) := by decide +kernel
theorem d37_2 : decode jdk_33_method_48_code 2 = .ok (.ixor, 1) := by decide +kernel
theorem d37_3 : decode jdk_33_method_48_code 3 = .ok (.iload_n 0, 1) := by decide +kernel
theorem d37_4 : decode jdk_33_method_48_code 4 = .ok (.iconst 1, 1) := by decide +kernel
theorem d37_5 : decode jdk_33_method_48_code 5 = .ok (.isub, 1) := by decide +kernel
theorem d37_6 : decode jdk_33_method_48_code 6 = .ok (.iand, 1) := by decide +kernel
theorem d37_7 : decode jdk_33_method_48_code 7 = .ok (.istore_n 0, 1) := by decide +kernel
theorem d37_8 : decode jdk_33_method_48_code 8 = .ok (.iload_n 0, 1) := by decide +kernel
theorem d37_9 : decode jdk_33_method_48_code 9 = .ok (.ifCond .gt 8, 3) := by decide +kernel
theorem d37_12 : decode jdk_33_method_48_code 12 = .ok (.iload_n 0, 1) := by decide +kernel
theorem d37_13 : decode jdk_33_method_48_code 13 = .ok (.bipush 32, 2) := by decide +kernel
theorem d37_15 : decode jdk_33_method_48_code 15 = .ok (.iand, 1) := by decide +kernel
theorem d37_16 : decode jdk_33_method_48_code 16 = .ok (.ireturn, 1) := by decide +kernel
theorem d37_17 : decode jdk_33_method_48_code 17 = .ok (.iconst 1, 1) := by decide +kernel
theorem d37_18 : decode jdk_33_method_48_code 18 = .ok (.istore_n 1, 1) := by decide +kernel
theorem d37_19 : decode jdk_33_method_48_code 19 = .ok (.iload_n 0, 1) := by decide +kernel
theorem d37_20 : decode jdk_33_method_48_code 20 = .ok (.ldc_w 264, 3) := by decide +kernel
theorem d37_23 : decode jdk_33_method_48_code 23 = .ok (.if_icmp .le 11, 3) := by decide +kernel
theorem d37_26 : decode jdk_33_method_48_code 26 = .ok (.iinc 1 16, 3) := by decide +kernel
theorem d37_29 : decode jdk_33_method_48_code 29 = .ok (.iload_n 0, 1) := by decide +kernel
theorem d37_30 : decode jdk_33_method_48_code 30 = .ok (.bipush 16, 2) := by decide +kernel
theorem d37_32 : decode jdk_33_method_48_code 32 = .ok (.iushr, 1) := by decide +kernel
theorem d37_33 : decode jdk_33_method_48_code 33 = .ok (.istore_n 0, 1) := by decide +kernel
theorem d37_34 : decode jdk_33_method_48_code 34 = .ok (.iload_n 0, 1) := by decide +kernel
theorem d37_35 : decode jdk_33_method_48_code 35 = .ok (.sipush 256, 3) := by decide +kernel
theorem d37_38 : decode jdk_33_method_48_code 38 = .ok (.if_icmp .le 11, 3) := by decide +kernel
theorem d37_41 : decode jdk_33_method_48_code 41 = .ok (.iinc 1 8, 3) := by decide +kernel
theorem d37_44 : decode jdk_33_method_48_code 44 = .ok (.iload_n 0, 1) := by decide +kernel
theorem d37_45 : decode jdk_33_method_48_code 45 = .ok (.bipush 8, 2) := by decide +kernel
theorem d37_47 : decode jdk_33_method_48_code 47 = .ok (.iushr, 1) := by decide +kernel
theorem d37_48 : decode jdk_33_method_48_code 48 = .ok (.istore_n 0, 1) := by decide +kernel
theorem d37_49 : decode jdk_33_method_48_code 49 = .ok (.iload_n 0, 1) := by decide +kernel
theorem d37_50 : decode jdk_33_method_48_code 50 = .ok (.bipush 16, 2) := by decide +kernel
theorem d37_52 : decode jdk_33_method_48_code 52 = .ok (.if_icmp .le 10, 3) := by decide +kernel
theorem d37_55 : decode jdk_33_method_48_code 55 = .ok (.iinc 1 4, 3) := by decide +kernel
theorem d37_58 : decode jdk_33_method_48_code 58 = .ok (.iload_n 0, 1) := by decide +kernel
theorem d37_59 : decode jdk_33_method_48_code 59 = .ok (.iconst 4, 1) := by decide +kernel
theorem d37_60 : decode jdk_33_method_48_code 60 = .ok (.iushr, 1) := by decide +kernel
theorem d37_61 : decode jdk_33_method_48_code 61 = .ok (.istore_n 0, 1) := by decide +kernel
theorem d37_62 : decode jdk_33_method_48_code 62 = .ok (.iload_n 0, 1) := by decide +kernel
theorem d37_63 : decode jdk_33_method_48_code 63 = .ok (.iconst 4, 1) := by decide +kernel
theorem d37_64 : decode jdk_33_method_48_code 64 = .ok (.if_icmp .le 10, 3) := by decide +kernel
theorem d37_67 : decode jdk_33_method_48_code 67 = .ok (.iinc 1 2, 3) := by decide +kernel
theorem d37_70 : decode jdk_33_method_48_code 70 = .ok (.iload_n 0, 1) := by decide +kernel
theorem d37_71 : decode jdk_33_method_48_code 71 = .ok (.iconst 2, 1) := by decide +kernel
theorem d37_72 : decode jdk_33_method_48_code 72 = .ok (.iushr, 1) := by decide +kernel
theorem d37_73 : decode jdk_33_method_48_code 73 = .ok (.istore_n 0, 1) := by decide +kernel
theorem d37_74 : decode jdk_33_method_48_code 74 = .ok (.iload_n 1, 1) := by decide +kernel
theorem d37_75 : decode jdk_33_method_48_code 75 = .ok (.iload_n 0, 1) := by decide +kernel
theorem d37_76 : decode jdk_33_method_48_code 76 = .ok (.iconst 1, 1) := by decide +kernel
theorem d37_77 : decode jdk_33_method_48_code 77 = .ok (.iushr, 1) := by decide +kernel
theorem d37_78 : decode jdk_33_method_48_code 78 = .ok (.iadd, 1) := by decide +kernel
theorem d37_79 : decode jdk_33_method_48_code 79 = .ok (.ireturn, 1) := by decide +kernel
theorem d38_0 : decode prog_83_method_5_code 0 = .ok (.aload_n 0, 1) := by decide +kernel
theorem d38_1 : decode prog_83_method_5_code 1 = .ok (.iload_n 1, 1) := by decide +kernel
theorem d38_2 : decode prog_83_method_5_code 2 = .ok (.putfield 7, 3) := by decide +kernel
theorem d38_5 : decode prog_83_method_5_code 5 = .ok (.aload_n 0, 1) := by decide +kernel
theorem d38_6 : decode prog_83_method_5_code 6 = .ok (.iload_n 2, 1) := by decide +kernel
theorem d38_7 : decode prog_83_method_5_code 7 = .ok (.putfield 13, 3) := by decide +kernel
theorem d38_10 : decode prog_83_method_5_code 10 = .ok (.iconst 1, 1) := by decide +kernel
theorem d38_11 : decode prog_83_method_5_code 11 = .ok (.ireturn, 1) := by decide +kernel
theorem d39_0 : decode prog_83_method_3_code 0 = .ok (.aload_n 0, 1) := by decide +kernel
theorem d39_1 : decode prog_83_method_3_code 1 = .ok (.getfield 7, 3) := by decide +kernel
theorem d39_4 : decode prog_83_method_3_code 4 = .ok (.ireturn, 1) := by decide +kernel
theorem d40_0 : decode prog_83_method_4_code 0 = .ok (.aload_n 0, 1) := by decide +kernel
theorem d40_1 : decode prog_83_method_4_code 1 = .ok (.getfield 13, 3) := by decide +kernel
theorem d40_4 : decode prog_83_method_4_code 4 = .ok (.ireturn, 1) := by decide +kernel
theorem d41_0 : decode prog_81_method_1_code 0 = .ok (.aload_n 0, 1) := by decide +kernel
theorem d41_1 : decode prog_81_method_1_code 1 = .ok (.invokespecial 1, 3) := by decide +kernel
theorem d41_4 : decode prog_81_method_1_code 4 = .ok (.aload_n 0, 1) := by decide +kernel
theorem d41_5 : decode prog_81_method_1_code 5 = .ok (.aload_n 1, 1) := by decide +kernel
theorem d41_6 : decode prog_81_method_1_code 6 = .ok (.putfield 7, 3) := by decide +kernel
theorem d41_9 : decode prog_81_method_1_code 9 = .ok (.aload_n 0, 1) := by decide +kernel
theorem d41_10 : decode prog_81_method_1_code 10 = .ok (.iload_n 2, 1) := by decide +kernel
theorem d41_11 : decode prog_81_method_1_code 11 = .ok (.putfield 13, 3) := by decide +kernel
theorem d41_14 : decode prog_81_method_1_code 14 = .ok (.aload_n 0, 1) := by decide +kernel
theorem d41_15 : decode prog_81_method_1_code 15 = .ok (.iload_n 3, 1) := by decide +kernel
theorem d41_16 : decode prog_81_method_1_code 16 = .ok (.putfield 17, 3) := by decide +kernel
theorem d41_19 : decode prog_81_method_1_code 19 = .ok (.return_, 1) := by decide +kernel
theorem d42_0 : decode prog_42_method_25_code 0 = .ok (.aload_n 0, 1) := by decide +kernel
theorem d42_1 : decode prog_42_method_25_code 1 = .ok (.getfield 9, 3) := by decide +kernel
theorem d42_4 : decode prog_42_method_25_code 4 = .ok (.ifCond .lt 11, 3) := by decide +kernel
theorem d42_7 : decode prog_42_method_25_code 7 = .ok (.aload_n 0, 1) := by decide +kernel
theorem d42_8 : decode prog_42_method_25_code 8 = .ok (.aload_n 0, 1) := by decide +kernel
theorem d42_9 : decode prog_42_method_25_code 9 = .ok (.getfield 9, 3) := by decide +kernel
theorem d42_12 : decode prog_42_method_25_code 12 = .ok (.invokevirtual 187, 3) := by decide +kernel
theorem d42_15 : decode prog_42_method_25_code 15 = .ok (.aload_n 0, 1) := by decide +kernel
theorem d42_16 : decode prog_42_method_25_code 16 = .ok (.astore_n 2, 1) := by decide +kernel
theorem d42_17 : decode prog_42_method_25_code 17 = .ok (.aload_n 0, 1) := by decide +kernel
theorem d42_18 : decode prog_42_method_25_code 18 = .ok (.getfield 24, 3) := by decide +kernel
theorem d42_21 : decode prog_42_method_25_code 21 = .ok (.sipush 4096, 3) := by decide +kernel
theorem d42_24 : decode prog_42_method_25_code 24 = .ok (.if_icmp .ne 28, 3) := by decide +kernel
theorem d42_27 : decode prog_42_method_25_code 27 = .ok (.aload_n 0, 1) := by decide +kernel
theorem d42_28 : decode prog_42_method_25_code 28 = .ok (.invokevirtual 136, 3) := by decide +kernel
theorem d42_31 : decode prog_42_method_25_code 31 = .ok (.astore_n 3, 1) := by decide +kernel
theorem d42_32 : decode prog_42_method_25_code 32 = .ok (.aload_n 3, 1) := by decide +kernel
theorem d42_33 : decode prog_42_method_25_code 33 = .ok (.iload_n 1, 1) := by decide +kernel
theorem d42_34 : decode prog_42_method_25_code 34 = .ok (.bipush 6, 2) := by decide +kernel
theorem d42_36 : decode prog_42_method_25_code 36 = .ok (.iushr, 1) := by decide +kernel
theorem d42_37 : decode prog_42_method_25_code 37 = .ok (.dup2, 1) := by decide +kernel
theorem d42_38 : decode prog_42_method_25_code 38 = .ok (.laload, 1) := by decide +kernel
theorem d42_39 : decode prog_42_method_25_code 39 = .ok (.lconst 1, 1) := by decide +kernel
theorem d42_40 : decode prog_42_method_25_code 40 = .ok (.iload_n 1, 1) := by decide +kernel
theorem d42_41 : decode prog_42_method_25_code 41 = .ok (.lshl, 1) := by decide +kernel
theorem d42_42 : decode prog_42_method_25_code 42 = .ok (.lor, 1) := by decide +kernel
theorem d42_43 : decode prog_42_method_25_code 43 = .ok (.lastore, 1) := by decide +kernel
theorem d42_44 : decode prog_42_method_25_code 44 = .ok (.aload_n 3, 1) := by decide +kernel
theorem d42_45 : decode prog_42_method_25_code 45 = .ok (.invokestatic 144, 3) := by decide +kernel
theorem d42_48 : decode prog_42_method_25_code 48 = .ok (.astore_n 2, 1) := by decide +kernel
theorem d42_49 : decode prog_42_method_25_code 49 = .ok (.goto 29, 3) := by decide +kernel
theorem d42_52 : decode prog_42_method_25_code 52 = .ok (.aload_n 0, 1) := by decide +kernel
theorem d42_53 : decode prog_42_method_25_code 53 = .ok (.invokevirtual 180, 3) := by decide +kernel
theorem d42_56 : decode prog_42_method_25_code 56 = .ok (.aload_n 0, 1) := by decide +kernel
theorem d42_57 : decode prog_42_method_25_code 57 = .ok (.getfield 17, 3) := by decide +kernel
theorem d42_60 : decode prog_42_method_25_code 60 = .ok (.aload_n 0, 1) := by decide +kernel
theorem d42_61 : decode prog_42_method_25_code 61 = .ok (.dup, 1) := by decide +kernel
theorem d42_62 : decode prog_42_method_25_code 62 = .ok (.getfield 24, 3) := by decide +kernel
theorem d42_65 : decode prog_42_method_25_code 65 = .ok (.dup_x1, 1) := by decide +kernel
theorem d42_66 : decode prog_42_method_25_code 66 = .ok (.iconst 1, 1) := by decide +kernel
theorem d42_67 : decode prog_42_method_25_code 67 = .ok (.iadd, 1) := by decide +kernel
theorem d42_68 : decode prog_42_method_25_code 68 = .ok (.putfield 24, 3) := by decide +kernel
theorem d42_71 : decode prog_42_method_25_code 71 = .ok (.iload_n 1, 1) := by decide +kernel
theorem d42_72 : decode prog_42_method_25_code 72 = .ok (.castore, 1) := by decide +kernel
theorem d42_73 : decode prog_42_method_25_code 73 = .ok (.aload_n 0, 1) := by decide +kernel
theorem d42_74 : decode prog_42_method_25_code 74 = .ok (.iconst (-1), 1) := by decide +kernel
theorem d42_75 : decode prog_42_method_25_code 75 = .ok (.putfield 13, 3) := by decide +kernel
theorem d42_78 : decode prog_42_method_25_code 78 = .ok (.aload_n 2, 1) := by decide +kernel
theorem d42_79 : decode prog_42_method_25_code 79 = .ok (.areturn, 1) := by decide +kernel
theorem d43_0 : decode prog_42_method_20_code 0 = .ok (.aload_n 0, 1) := by decide +kernel
theorem d43_1 : decode prog_42_method_20_code 1 = .ok (.getfield 24, 3) := by decide +kernel
theorem d43_4 : decode prog_42_method_20_code 4 = .ok (.aload_n 0, 1) := by decide +kernel
theorem d43_5 : decode prog_42_method_20_code 5 = .ok (.getfield 17, 3) := by decide +kernel
theorem d43_8 : decode prog_42_method_20_code 8 = .ok (.arraylength, 1) := by decide +kernel
theorem d43_9 : decode prog_42_method_20_code 9 = .ok (.if_icmp .ne 23, 3) := by decide +kernel
theorem d43_12 : decode prog_42_method_20_code 12 = .ok (.aload_n 0, 1) := by decide +kernel
theorem d43_13 : decode prog_42_method_20_code 13 = .ok (.aload_n 0, 1) := by decide +kernel
theorem d43_14 : decode prog_42_method_20_code 14 = .ok (.getfield 17, 3) := by decide +kernel
theorem d43_17 : decode prog_42_method_20_code 17 = .ok (.aload_n 0, 1) := by decide +kernel
theorem d43_18 : decode prog_42_method_20_code 18 = .ok (.getfield 24, 3) := by decide +kernel
theorem d43_21 : decode prog_42_method_20_code 21 = .ok (.iconst 1, 1) := by decide +kernel
theorem d43_22 : decode prog_42_method_20_code 22 = .ok (.iadd, 1) := by decide +kernel
theorem d43_23 : decode prog_42_method_20_code 23 = .ok (.invokestatic 154, 3) := by decide +kernel
theorem d43_26 : decode prog_42_method_20_code 26 = .ok (.invokestatic 158, 3) := by decide +kernel
theorem d43_29 : decode prog_42_method_20_code 29 = .ok (.putfield 17, 3) := by decide +kernel
theorem d43_32 : decode prog_42_method_20_code 32 = .ok (.return_, 1) := by decide +kernel
theorem nin1 {x y : Addr} (h : x ≠ y) : x ∉ [y] := fun hm => h (List.mem_singleton.mp hm)
theorem nin0' {y : Addr} : y ∉ ([] : List Addr) := fun q => nomatch q
theorem own_sub {x y : Int32} {a b : Int} (hx : x.toInt = a) (hy : y.toInt = b) (h : -2147483648 ≤ a - b) (h' : a - b < 2147483648) : (x - y).toInt = a - b := by
  rw [XT.sub32 (by rw [hx, hy]; exact ⟨by omega, by omega⟩), hx, hy]
theorem own_add {x y : Int32} {a b : Int} (hx : x.toInt = a) (hy : y.toInt = b) (h : -2147483648 ≤ a + b) (h' : a + b < 2147483648) : (x + y).toInt = a + b := by
  rw [XT.add32 (by rw [hx, hy]; exact ⟨by omega, by omega⟩), hx, hy]
/-- an array of chars -/
def CA (Z : State) (h : Heap) (t : Addr) (L : Nat) (f : Nat → Int32) : Prop := Ary Z h t .char L (fun i => .int (f i))
/-- an ArrayContainer -/
def Ac (Z : State) (h : Heap) (a t : Addr) (L : Nat) (cd so rn : Int32) (f : Nat → Int32) : Prop := Exa Z h a "cobblebit/container/ArrayContainer" ∧ Fld Z h a "cobblebit/container/ArrayContainer" "values" "[C" (.ref t) ∧ Fld Z h a "cobblebit/container/ArrayContainer" "cardinality" "I" (.int cd) ∧ Fld Z h a "cobblebit/container/ArrayContainer" "sorted" "I" (.int so) ∧ Fld Z h a "cobblebit/container/ArrayContainer" "removed" "S" (.int (-1)) ∧ Fld Z h a "cobblebit/container/ArrayContainer" "runCount" "I" (.int rn) ∧ CA Z h t L f ∧ t ≠ a
theorem Ac.keep {Z : State} {h h' : Heap} {a t : Addr} {L : Nat} {cd so rn : Int32} {f : Nat → Int32} {ws : List Addr} (B : Ac Z h a t L cd so rn f) (K : Keep h h' ws) (q1 : a ∉ ws) (q2 : t ∉ ws) : Ac Z h' a t L cd so rn f := ⟨B.1.keep K, B.2.1.keep K q1, B.2.2.1.keep K q1, B.2.2.2.1.keep K q1, B.2.2.2.2.1.keep K q1, B.2.2.2.2.2.1.keep K q1, B.2.2.2.2.2.2.1.keep K q2, B.2.2.2.2.2.2.2⟩
set_option maxRecDepth 65536 in
set_option maxHeartbeats 40000000 in
theorem c_cti {l : Launch} {Z : State} {a0 : Array Value} (hw : ∀ d ∈ tables_1, d.before a0 Z = true) {n0 : Nat} {h0 : Heap} {a : Addr} : Con l Z n0 (⟨"cobblebit/container/Container", "<init>", "()V"⟩ : MethodName) prog_59_method_1_code 1 none ({ frames := 1, cells := 0, slots := 0, locals := 12 } : Room) [.ref a] h0 [] (fun v h' => v = none ∧ h' = h0) := by
  refine Con.of (Ls := [.val (.ref a)]) (by decide +kernel) (fun m => by first | (simp [entryFrame, mkF, argsToLocals, Value.category]; done) | (rcases ref_cases hrw with rfl | ⟨b, rfl⟩ <;> rfl) | rfl) (fun p e s m below meth c => ?_)
  show Wp false p l e ({ frames := 1, cells := 0, slots := 0, locals := 12 } : Room) s m ([.ref a] : List Value).toArray below meth c Z "cobblebit/container/Container" "<init>" prog_59_method_1_code 1 none n0 h0 [] (fun v h _ => (fun v h' => v = none ∧ h' = h0) v h) (fun _ => True) h0 0 0 0 [.val (.ref a)] []
  refine aload_n (q1 := 1) d2_0 rfl rfl rfl ?_
  refine initObj (q1 := 4) d2_1 rfl (ww hw 13 rfl) (ww hw 14 rfl) (ww hw 15 rfl) rfl rfl ?_
  refine ret_v d2_4 rfl rfl (fun _ _ => ⟨rfl, rfl⟩)
set_option maxRecDepth 65536 in
set_option maxHeartbeats 40000000 in
theorem c_aci {l : Launch} {Z : State} {a0 : Array Value} (hw : ∀ d ∈ tables_1, d.before a0 Z = true) {n0 : Nat} {h0 : Heap} {a : Addr} {u1 u2 u3 : Value} (X : Exa Z h0 a "cobblebit/container/ArrayContainer") (F1 : Fld Z h0 a "cobblebit/container/ArrayContainer" "removed" "S" u1) (F2 : Fld Z h0 a "cobblebit/container/ArrayContainer" "runCount" "I" u2) (F3 : Fld Z h0 a "cobblebit/container/ArrayContainer" "values" "[C" u3) (F4 : Fld Z h0 a "cobblebit/container/ArrayContainer" "cardinality" "I" (.int 0)) (F5 : Fld Z h0 a "cobblebit/container/ArrayContainer" "sorted" "I" (.int 0)) : Con l Z n0 (⟨"cobblebit/container/ArrayContainer", "<init>", "()V"⟩ : MethodName) prog_42_method_1_code 1 none ({ frames := 2, cells := 1, slots := 4, locals := 24 } : Room) [.ref a] h0 [a] (fun v h' => v = none ∧ Ac Z h' a h0.size 4 0 0 (-1) (fun _ => 0)) := by
  refine Con.of (Ls := [.val (.ref a)]) (by decide +kernel) (fun m => by first | (simp [entryFrame, mkF, argsToLocals, Value.category]; done) | (rcases ref_cases hrw with rfl | ⟨b, rfl⟩ <;> rfl) | rfl) (fun p e s m below meth c => ?_)
  show Wp false p l e ({ frames := 2, cells := 1, slots := 4, locals := 24 } : Room) s m ([.ref a] : List Value).toArray below meth c Z "cobblebit/container/ArrayContainer" "<init>" prog_42_method_1_code 1 none n0 h0 [a] (fun v h _ => (fun v h' => v = none ∧ Ac Z h' a h0.size 4 0 0 (-1) (fun _ => 0)) v h) (fun _ => True) h0 0 0 0 [.val (.ref a)] []
  refine aload_n (q1 := 1) d1_0 rfl rfl rfl ?_
  refine invokespecial (q1 := 4) d1_1 rfl rfl (ww hw 8 rfl) (ww hw 9 rfl) (ww hw 11 rfl) (ww hw 12 rfl) (by decide) pd0 (c_cti hw) rfl rfl rfl rfl all0 (fun v h1 q _ => ?_)
  obtain ⟨rfl, rfl⟩ := q
  refine aload_n (q1 := 5) d1_4 rfl rfl rfl ?_
  refine iconst (q1 := 6) (v := -1) d1_5 rfl rfl ?_
  refine putfieldN (q1 := 9) d1_6 rfl (ww hw 16 rfl) Via.refl (F1) (X) (Or.inl (ww hw 17 rfl)) (ww hw 3 rfl) (ty := .short) (by decide) rfl (fits_nar_short _) (Or.inl own_in1) (fun h6 W6 => ?_)
  refine aload_n (q1 := 10) d1_9 rfl rfl rfl ?_
  refine iconst (q1 := 11) (v := -1) d1_10 rfl rfl ?_
  refine putfield (q1 := 14) d1_11 rfl (ww hw 18 rfl) Via.refl (F2.other W6 (Or.inr (slot_ne (Or.inl (ww hw 19 rfl)) (Or.inl (ww hw 17 rfl)) (by decide) (t := .int) (t' := .short) (by decide) (by decide)))) (X.wr W6) (Or.inl (ww hw 19 rfl)) (ww hw 3 rfl) (ty := .int) (by decide) rfl rfl (Or.inl own_in1) (fun h11 W11 => ?_)
  refine aload_n (q1 := 15) d1_14 rfl rfl rfl ?_
  refine iconst (q1 := 16) (v := 4) d1_15 rfl rfl ?_
  refine newarray (q1 := 18) (len := 4) (cap := 4) d1_16 rfl (ww hw 20 rfl) rfl (by decide) (by decide) (by decide) (by decide) (fun S16 h16 E16 A16 => ?_)
  have X2 := ((X.wr W6).wr W11).ext E16
  have f3 := ((F3.other W6 (Or.inr (slot_ne (Or.inl (ww hw 22 rfl)) (Or.inl (ww hw 17 rfl)) (by decide) (t := (.array .char)) (t' := .short) (by decide) (by decide)))).other W11 (Or.inr (slot_ne (Or.inl (ww hw 22 rfl)) (Or.inl (ww hw 19 rfl)) (by decide) (t := (.array .char)) (t' := .int) (by decide) (by decide)))).ext E16
  refine putfield (q1 := 21) d1_18 rfl (ww hw 21 rfl) Via.refl (f3) (X2) (Or.inl (ww hw 22 rfl)) (ww hw 3 rfl) (ty := (.array .char)) (by decide) rfl rfl (Or.inl own_in1) (fun h18 W18 => ?_)
  have ez : h11.size = h1.size := W11.size.trans W6.size
  rw [ez] at A16 W18
  have ne : h1.size ≠ a := Nat.ne_of_gt X.lt
  have r1 : Fld Z h6 a "cobblebit/container/ArrayContainer" "removed" "S" (.int (-1)) := F1.same W6
  refine ret_v d1_21 rfl rfl (fun _ _ => ⟨rfl, X2.wr W18, f3.same W18, (((F4.other W6 (Or.inr (slot_ne (Or.inl (ww hw 39 rfl)) (Or.inl (ww hw 17 rfl)) (by decide) (t := .int) (t' := .short) (by decide) (by decide)))).other W11 (Or.inr (slot_ne (Or.inl (ww hw 39 rfl)) (Or.inl (ww hw 19 rfl)) (by decide) (t := .int) (t' := .int) (by decide) (by decide)))).ext E16).other W18 (Or.inr (slot_ne (Or.inl (ww hw 39 rfl)) (Or.inl (ww hw 22 rfl)) (by decide) (t := .int) (t' := (.array .char)) (by decide) (by decide))), (((F5.other W6 (Or.inr (slot_ne (Or.inl (ww hw 37 rfl)) (Or.inl (ww hw 17 rfl)) (by decide) (t := .int) (t' := .short) (by decide) (by decide)))).other W11 (Or.inr (slot_ne (Or.inl (ww hw 37 rfl)) (Or.inl (ww hw 19 rfl)) (by decide) (t := .int) (t' := .int) (by decide) (by decide)))).ext E16).other W18 (Or.inr (slot_ne (Or.inl (ww hw 37 rfl)) (Or.inl (ww hw 22 rfl)) (by decide) (t := .int) (t' := (.array .char)) (by decide) (by decide))), ((r1.other W11 (Or.inr (slot_ne (Or.inl (ww hw 17 rfl)) (Or.inl (ww hw 19 rfl)) (by decide) (t := .short) (t' := .int) (by decide) (by decide)))).ext E16).other W18 (Or.inr (slot_ne (Or.inl (ww hw 17 rfl)) (Or.inl (ww hw 22 rfl)) (by decide) (t := .short) (t' := (.array .char)) (by decide) (by decide))), (((F2.other W6 (Or.inr (slot_ne (Or.inl (ww hw 19 rfl)) (Or.inl (ww hw 17 rfl)) (by decide) (t := .int) (t' := .short) (by decide) (by decide)))).same W11).ext E16).other W18 (Or.inr (slot_ne (Or.inl (ww hw 19 rfl)) (Or.inl (ww hw 22 rfl)) (by decide) (t := .int) (t' := (.array .char)) (by decide) (by decide))), A16.other W18 ne, ne⟩)
set_option maxRecDepth 65536 in
set_option maxHeartbeats 40000000 in
theorem c_iss {l : Launch} {Z : State} {a0 : Array Value} (hw : ∀ d ∈ tables_1, d.before a0 Z = true) {n0 : Nat} {h0 : Heap} {a t : Addr} {L : Nat} {cd rn : Int32} {f : Nat → Int32} (B : Ac Z h0 a t L cd cd rn f) : Con l Z n0 (⟨"cobblebit/container/ArrayContainer", "isSettled", "()Z"⟩ : MethodName) prog_42_method_24_code 1 (some .boolean) ({ frames := 0, cells := 0, slots := 0, locals := 0 } : Room) [.ref a] h0 [] (fun v h' => v = some (.int 1) ∧ h' = h0) := by
  refine Con.of (Ls := [.val (.ref a)]) (by decide +kernel) (fun m => by first | (simp [entryFrame, mkF, argsToLocals, Value.category]; done) | (rcases ref_cases hrw with rfl | ⟨b, rfl⟩ <;> rfl) | rfl) (fun p e s m below meth c => ?_)
  show Wp false p l e ({ frames := 0, cells := 0, slots := 0, locals := 0 } : Room) s m ([.ref a] : List Value).toArray below meth c Z "cobblebit/container/ArrayContainer" "isSettled" prog_42_method_24_code 1 (some .boolean) n0 h0 [] (fun v h _ => (fun v h' => v = some (.int 1) ∧ h' = h0) v h) (fun _ => True) h0 0 0 0 [.val (.ref a)] []
  refine aload_n (q1 := 1) d5_0 rfl rfl rfl ?_
  refine getfield (q1 := 4) d5_1 rfl (ww hw 36 rfl) Via.refl (B.2.2.2.1) ?_
  refine aload_n (q1 := 5) d5_4 rfl rfl rfl ?_
  refine getfield (q1 := 8) d5_5 rfl (ww hw 38 rfl) Via.refl (B.2.2.1) ?_
  refine icmp_ne (q1 := 11) (q := 22) d5_8 rfl ⟨by decide, rfl⟩ (fun hq => absurd rfl hq) (fun _ => ?_)
  refine aload_n (q1 := 12) d5_11 rfl rfl rfl ?_
  refine getfield (q1 := 15) d5_12 rfl (ww hw 16 rfl) Via.refl (B.2.2.2.2.1) ?_
  refine if_ge (q1 := 18) (q := 22) d5_15 rfl ⟨by decide, rfl⟩ (fun hq => absurd (by decide) hq) (fun _ => ?_)
  refine iconst (q1 := 19) (v := 1) d5_18 rfl rfl ?_
  refine goto (q := 23) d5_19 ⟨by decide, rfl⟩ ?_
  refine ret_n (t := .boolean) d5_23 rfl (by simp) rfl (fun _ _ => ⟨rfl, rfl⟩)
set_option maxRecDepth 65536 in
set_option maxHeartbeats 40000000 in
theorem c_rgc {l : Launch} {Z : State} {a0 : Array Value} (hw : ∀ d ∈ tables_1, d.before a0 Z = true) {n0 : Nat} {h0 : Heap} {ln : Int32} (hl : ¬ ln < 0) : Con l Z n0 (⟨"java/util/Arrays", "rangeCheck", "(III)V"⟩ : MethodName) jdk_65_method_30_code 3 none ({ frames := 0, cells := 0, slots := 0, locals := 0 } : Room) [.int ln, .int 0, .int 0] h0 [] (fun v h' => v = none ∧ h' = h0) := by
  refine Con.of (Ls := [.val (.int ln), .val (.int 0), .val (.int 0)]) (by decide +kernel) (fun m => by first | (simp [entryFrame, mkF, argsToLocals, Value.category]; done) | (rcases ref_cases hrw with rfl | ⟨b, rfl⟩ <;> rfl) | rfl) (fun p e s m below meth c => ?_)
  show Wp false p l e ({ frames := 0, cells := 0, slots := 0, locals := 0 } : Room) s m ([.int ln, .int 0, .int 0] : List Value).toArray below meth c Z "java/util/Arrays" "rangeCheck" jdk_65_method_30_code 3 none n0 h0 [] (fun v h _ => (fun v h' => v = none ∧ h' = h0) v h) (fun _ => True) h0 0 0 0 [.val (.int ln), .val (.int 0), .val (.int 0)] []
  refine iload_n (q1 := 1) d8_0 rfl rfl ?_
  refine iload_n (q1 := 2) d8_1 rfl rfl ?_
  refine icmp_le (q1 := 5) (q := 46) d8_2 rfl ⟨by decide, rfl⟩ (fun _ => ?_) (fun hq => absurd hq (by decide))
  refine iload_n (q1 := 47) d8_46 rfl rfl ?_
  refine if_ge (q1 := 50) (q := 59) d8_47 rfl ⟨by decide, rfl⟩ (fun _ => ?_) (fun hq => absurd hq (by decide))
  refine iload_n (q1 := 60) d8_59 rfl rfl ?_
  refine iload_n (q1 := 61) d8_60 rfl rfl ?_
  refine icmp_le (q1 := 64) (q := 73) d8_61 rfl ⟨by decide, rfl⟩ (fun _ => ?_) (fun hq => absurd hq hl)
  refine ret_v d8_73 rfl rfl (fun _ _ => ⟨rfl, rfl⟩)
set_option maxRecDepth 65536 in
set_option maxHeartbeats 40000000 in
theorem c_bs0 {l : Launch} {Z : State} {a0 : Array Value} (hw : ∀ d ∈ tables_1, d.before a0 Z = true) {n0 : Nat} {h0 : Heap} {t : Addr} {x : Int32} : Con l Z n0 (⟨"java/util/Arrays", "binarySearch0", "([CIIC)I"⟩ : MethodName) jdk_65_method_65_code 8 (some .int) ({ frames := 0, cells := 0, slots := 0, locals := 0 } : Room) [.ref t, .int 0, .int 0, .int x] h0 [] (fun v h' => v = some (.int (-1)) ∧ h' = h0) := by
  refine Con.of (Ls := [.val (.ref t), .val (.int 0), .val (.int 0), .val (.int x), .unset, .unset, .unset, .unset]) (by decide +kernel) (fun m => by first | (simp [entryFrame, mkF, argsToLocals, Value.category]; done) | (rcases ref_cases hrw with rfl | ⟨b, rfl⟩ <;> rfl) | rfl) (fun p e s m below meth c => ?_)
  show Wp false p l e ({ frames := 0, cells := 0, slots := 0, locals := 0 } : Room) s m ([.ref t, .int 0, .int 0, .int x] : List Value).toArray below meth c Z "java/util/Arrays" "binarySearch0" jdk_65_method_65_code 8 (some .int) n0 h0 [] (fun v h _ => (fun v h' => v = some (.int (-1)) ∧ h' = h0) v h) (fun _ => True) h0 0 0 0 [.val (.ref t), .val (.int 0), .val (.int 0), .val (.int x), .unset, .unset, .unset, .unset] []
  refine iload_n (q1 := 1) d9_0 rfl rfl ?_
  refine istore (q1 := 3) d9_1 rfl rfl ?_
  simp only [List.set_cons_zero, List.set_cons_succ]
  refine iload_n (q1 := 4) d9_3 rfl rfl ?_
  refine iconst (q1 := 5) (v := 1) d9_4 rfl rfl ?_
  refine isub (q1 := 6) d9_5 rfl ?_
  refine istore (q1 := 8) d9_6 rfl rfl ?_
  simp only [List.set_cons_zero, List.set_cons_succ]
  refine iload (q1 := 10) d9_8 rfl rfl ?_
  refine iload (q1 := 12) d9_10 rfl rfl ?_
  refine icmp_gt (q1 := 15) (q := 66) d9_12 rfl ⟨by decide, rfl⟩ (fun _ => ?_) (fun hq => absurd (by decide) hq)
  refine iload (q1 := 68) d9_66 rfl rfl ?_
  refine iconst (q1 := 69) (v := 1) d9_68 rfl rfl ?_
  refine iadd (q1 := 70) d9_69 rfl ?_
  refine ineg (q1 := 71) d9_70 rfl ?_
  refine ret_i d9_71 rfl rfl (fun _ _ => ⟨rfl, rfl⟩)
set_option maxRecDepth 65536 in
set_option maxHeartbeats 40000000 in
theorem c_bse {l : Launch} {Z : State} {a0 : Array Value} (hw : ∀ d ∈ tables_1, d.before a0 Z = true) {n0 : Nat} {h0 : Heap} {t : Addr} {L : Nat} {lI x : Int32} {f : Nat → Int32} (A : CA Z h0 t L f) (hl : lI.toInt = (L : Int)) : Con l Z n0 (⟨"java/util/Arrays", "binarySearch", "([CIIC)I"⟩ : MethodName) jdk_65_method_64_code 4 (some .int) ({ frames := 1, cells := 0, slots := 0, locals := 22 } : Room) [.ref t, .int 0, .int 0, .int x] h0 [] (fun v h' => v = some (.int (-1)) ∧ h' = h0) := by
  refine Con.of (Ls := [.val (.ref t), .val (.int 0), .val (.int 0), .val (.int x)]) (by decide +kernel) (fun m => by first | (simp [entryFrame, mkF, argsToLocals, Value.category]; done) | (rcases ref_cases hrw with rfl | ⟨b, rfl⟩ <;> rfl) | rfl) (fun p e s m below meth c => ?_)
  show Wp false p l e ({ frames := 1, cells := 0, slots := 0, locals := 22 } : Room) s m ([.ref t, .int 0, .int 0, .int x] : List Value).toArray below meth c Z "java/util/Arrays" "binarySearch" jdk_65_method_64_code 4 (some .int) n0 h0 [] (fun v h _ => (fun v h' => v = some (.int (-1)) ∧ h' = h0) v h) (fun _ => True) h0 0 0 0 [.val (.ref t), .val (.int 0), .val (.int 0), .val (.int x)] []
  refine aload_n (q1 := 1) d7_0 rfl rfl rfl ?_
  refine arraylength (q1 := 2) d7_1 rfl (A) hl ?_
  refine iload_n (q1 := 3) d7_2 rfl rfl ?_
  refine iload_n (q1 := 4) d7_3 rfl rfl ?_
  refine invokestatic (q1 := 7) d7_4 rfl (ww hw 49 rfl) (ww hw 50 rfl) (ww hw 47 rfl) (ww hw 51 rfl) (by decide) pd5 (c_rgc hw (by rw [own_lt, hl]; have : (0 : Int32).toInt = 0 := rfl; omega)) rfl rfl rfl rfl all0 (fun v h1 q _ => ?_)
  obtain ⟨rfl, rfl⟩ := q
  refine aload_n (q1 := 8) d7_7 rfl rfl rfl ?_
  refine iload_n (q1 := 9) d7_8 rfl rfl ?_
  refine iload_n (q1 := 10) d7_9 rfl rfl ?_
  refine iload_n (q1 := 11) d7_10 rfl rfl ?_
  refine invokestatic (q1 := 14) d7_11 rfl (ww hw 52 rfl) (ww hw 53 rfl) (ww hw 47 rfl) (ww hw 54 rfl) (by decide) pd4 (c_bs0 hw) rfl rfl rfl rfl all0 (fun v h1 q _ => ?_)
  obtain ⟨rfl, rfl⟩ := q
  refine ret_i d7_14 rfl rfl (fun _ _ => ⟨rfl, rfl⟩)
set_option maxRecDepth 65536 in
set_option maxHeartbeats 40000000 in
theorem c_iaa {l : Launch} {Z : State} {a0 : Array Value} (hw : ∀ d ∈ tables_1, d.before a0 Z = true) {n0 : Nat} {h0 : Heap} {a t : Addr} {L : Nat} {lI rn x so : Int32} {f : Nat → Int32} (B : Ac Z h0 a t L 0 so rn f) (hl : lI.toInt = (L : Int)) : Con l Z n0 (⟨"cobblebit/container/ArrayContainer", "indexAtOrAbove", "(II)I"⟩ : MethodName) prog_42_method_32_code 4 (some .int) ({ frames := 2, cells := 0, slots := 0, locals := 37 } : Room) [.ref a, .int x, .int 0] h0 [] (fun v h' => v = some (.int 0) ∧ h' = h0) := by
  refine Con.of (Ls := [.val (.ref a), .val (.int x), .val (.int 0), .unset]) (by decide +kernel) (fun m => by first | (simp [entryFrame, mkF, argsToLocals, Value.category]; done) | (rcases ref_cases hrw with rfl | ⟨b, rfl⟩ <;> rfl) | rfl) (fun p e s m below meth c => ?_)
  show Wp false p l e ({ frames := 2, cells := 0, slots := 0, locals := 37 } : Room) s m ([.ref a, .int x, .int 0] : List Value).toArray below meth c Z "cobblebit/container/ArrayContainer" "indexAtOrAbove" prog_42_method_32_code 4 (some .int) n0 h0 [] (fun v h _ => (fun v h' => v = some (.int 0) ∧ h' = h0) v h) (fun _ => True) h0 0 0 0 [.val (.ref a), .val (.int x), .val (.int 0), .unset] []
  refine iload_n (q1 := 1) d6_0 rfl rfl ?_
  refine ldcI (q1 := 3) d6_1 rfl (ww hw 44 rfl) ?_
  refine icmp_le (q1 := 6) (q := 11) d6_3 rfl ⟨by decide, rfl⟩ (fun _ => ?_) (fun _ => ?_)
  · refine aload_n (q1 := 12) d6_11 rfl rfl rfl ?_
    refine getfield (q1 := 15) d6_12 rfl (ww hw 21 rfl) Via.refl (B.2.1) ?_
    refine iload_n (q1 := 16) d6_15 rfl rfl ?_
    refine aload_n (q1 := 17) d6_16 rfl rfl rfl ?_
    refine getfield (q1 := 20) d6_17 rfl (ww hw 38 rfl) Via.refl (B.2.2.1) ?_
    refine iload_n (q1 := 21) d6_20 rfl rfl ?_
    refine i2c (q1 := 22) d6_21 rfl ?_
    refine invokestatic (q1 := 25) d6_22 rfl (ww hw 45 rfl) (ww hw 46 rfl) (ww hw 47 rfl) (ww hw 48 rfl) (by decide) pd4 (c_bse hw B.2.2.2.2.2.2.1 hl) rfl rfl rfl rfl all0 (fun v h1 q _ => ?_)
    obtain ⟨rfl, rfl⟩ := q
    refine istore_n (q1 := 26) (jj := 3) d6_25 rfl rfl rfl ?_
    simp only [List.set_cons_zero, List.set_cons_succ]
    refine iload_n (q1 := 27) d6_26 rfl rfl ?_
    refine if_lt (q1 := 30) (q := 34) d6_27 rfl ⟨by decide, rfl⟩ (fun _ => ?_) (fun hq => absurd (by decide) hq)
    refine iload_n (q1 := 35) d6_34 rfl rfl ?_
    refine ineg (q1 := 36) d6_35 rfl ?_
    refine iconst (q1 := 37) (v := 1) d6_36 rfl rfl ?_
    refine isub (q1 := 38) d6_37 rfl ?_
    refine ret_i d6_38 rfl rfl (fun _ _ => ⟨rfl, rfl⟩)
  · refine aload_n (q1 := 7) d6_6 rfl rfl rfl ?_
    refine getfield (q1 := 10) d6_7 rfl (ww hw 38 rfl) Via.refl (B.2.2.1) ?_
    refine ret_i d6_10 rfl rfl (fun _ _ => ⟨rfl, rfl⟩)
def Opr (Z : State) (h : Heap) (o : Addr) : Prop := Exa Z h o "cobblebit/terms/Operation" ∧ Fld Z h o "cobblebit/terms/Operation" "keepsBoth" "Z" (.int 1) ∧ Fld Z h o "cobblebit/terms/Operation" "keepsSecondOnly" "Z" (.int 1)
theorem Opr.ext {Z : State} {h h' : Heap} {o : Addr} (B : Opr Z h o) (E : Ext h h') : Opr Z h' o := ⟨B.1.ext E, B.2.1.ext E, B.2.2.ext E⟩
theorem Opr.keep {Z : State} {h h' : Heap} {o : Addr} {ws : List Addr} (B : Opr Z h o) (K : Keep h h' ws) (q : o ∉ ws) : Opr Z h' o := ⟨B.1.keep K, B.2.1.keep K q, B.2.2.keep K q⟩
set_option maxRecDepth 65536 in
set_option maxHeartbeats 40000000 in
theorem c_kbo {l : Launch} {Z : State} {a0 : Array Value} (hw : ∀ d ∈ tables_1, d.before a0 Z = true) {n0 : Nat} {h0 : Heap} {o : Addr} (B : Opr Z h0 o) : Con l Z n0 (⟨"cobblebit/terms/Operation", "keepsBoth", "()Z"⟩ : MethodName) prog_117_method_6_code 1 (some .boolean) ({ frames := 0, cells := 0, slots := 0, locals := 0 } : Room) [.ref o] h0 [] (fun v h' => v = some (.int 1) ∧ h' = h0) := by
  refine Con.of (Ls := [.val (.ref o)]) (by decide +kernel) (fun m => by first | (simp [entryFrame, mkF, argsToLocals, Value.category]; done) | (rcases ref_cases hrw with rfl | ⟨b, rfl⟩ <;> rfl) | rfl) (fun p e s m below meth c => ?_)
  show Wp false p l e ({ frames := 0, cells := 0, slots := 0, locals := 0 } : Room) s m ([.ref o] : List Value).toArray below meth c Z "cobblebit/terms/Operation" "keepsBoth" prog_117_method_6_code 1 (some .boolean) n0 h0 [] (fun v h _ => (fun v h' => v = some (.int 1) ∧ h' = h0) v h) (fun _ => True) h0 0 0 0 [.val (.ref o)] []
  refine aload_n (q1 := 1) d10_0 rfl rfl rfl ?_
  refine getfield (q1 := 4) d10_1 rfl (ww hw 60 rfl) Via.refl (B.2.1) ?_
  refine ret_n (t := .boolean) d10_4 rfl (by simp) rfl (fun _ _ => ⟨rfl, rfl⟩)
set_option maxRecDepth 65536 in
set_option maxHeartbeats 40000000 in
theorem c_kso {l : Launch} {Z : State} {a0 : Array Value} (hw : ∀ d ∈ tables_1, d.before a0 Z = true) {n0 : Nat} {h0 : Heap} {o : Addr} (B : Opr Z h0 o) : Con l Z n0 (⟨"cobblebit/terms/Operation", "keepsSecondOnly", "()Z"⟩ : MethodName) prog_117_method_5_code 1 (some .boolean) ({ frames := 0, cells := 0, slots := 0, locals := 0 } : Room) [.ref o] h0 [] (fun v h' => v = some (.int 1) ∧ h' = h0) := by
  refine Con.of (Ls := [.val (.ref o)]) (by decide +kernel) (fun m => by first | (simp [entryFrame, mkF, argsToLocals, Value.category]; done) | (rcases ref_cases hrw with rfl | ⟨b, rfl⟩ <;> rfl) | rfl) (fun p e s m below meth c => ?_)
  show Wp false p l e ({ frames := 0, cells := 0, slots := 0, locals := 0 } : Room) s m ([.ref o] : List Value).toArray below meth c Z "cobblebit/terms/Operation" "keepsSecondOnly" prog_117_method_5_code 1 (some .boolean) n0 h0 [] (fun v h _ => (fun v h' => v = some (.int 1) ∧ h' = h0) v h) (fun _ => True) h0 0 0 0 [.val (.ref o)] []
  refine aload_n (q1 := 1) d11_0 rfl rfl rfl ?_
  refine getfield (q1 := 4) d11_1 rfl (ww hw 67 rfl) Via.refl (B.2.2) ?_
  refine ret_n (t := .boolean) d11_4 rfl (by simp) rfl (fun _ _ => ⟨rfl, rfl⟩)
set_option maxRecDepth 65536 in
set_option maxHeartbeats 40000000 in
theorem c_max {l : Launch} {Z : State} {a0 : Array Value} (hw : ∀ d ∈ tables_1, d.before a0 Z = true) {n0 : Nat} {h0 : Heap} {i j : Int32} : Con l Z n0 (⟨"java/lang/Math", "max", "(II)I"⟩ : MethodName) jdk_29_method_65_code 2 (some .int) ({ frames := 0, cells := 0, slots := 0, locals := 0 } : Room) [.int i, .int j] h0 [] (fun v h' => v = some (.int (if i < j then j else i)) ∧ h' = h0) := by
  refine Con.of (Ls := [.val (.int i), .val (.int j)]) (Jvm.Free.JP.mathPlain rfl (by decide +kernel)) (fun m => by first | (simp [entryFrame, mkF, argsToLocals, Value.category]; done) | (rcases ref_cases hrw with rfl | ⟨b, rfl⟩ <;> rfl) | rfl) (fun p e s m below meth c => ?_)
  show Wp false p l e ({ frames := 0, cells := 0, slots := 0, locals := 0 } : Room) s m ([.int i, .int j] : List Value).toArray below meth c Z "java/lang/Math" "max" jdk_29_method_65_code 2 (some .int) n0 h0 [] (fun v h _ => (fun v h' => v = some (.int (if i < j then j else i)) ∧ h' = h0) v h) (fun _ => True) h0 0 0 0 [.val (.int i), .val (.int j)] []
  refine iload_n (q1 := 1) d23_0 rfl rfl ?_
  refine iload_n (q1 := 2) d23_1 rfl rfl ?_
  refine icmp_lt (q1 := 5) (q := 9) d23_2 rfl ⟨by decide, rfl⟩ (fun hq => ?_) (fun hq => ?_)
  · refine iload_n (q1 := 10) d23_9 rfl rfl ?_
    refine ret_i d23_10 rfl rfl (fun _ _ => ⟨by rw [if_pos hq], rfl⟩)
  · refine iload_n (q1 := 6) d23_5 rfl rfl ?_
    refine goto (q := 10) d23_6 ⟨by decide, rfl⟩ ?_
    refine ret_i d23_10 rfl rfl (fun _ _ => ⟨by rw [if_neg hq], rfl⟩)
set_option maxRecDepth 65536 in
set_option maxHeartbeats 40000000 in
theorem c_min {l : Launch} {Z : State} {a0 : Array Value} (hw : ∀ d ∈ tables_1, d.before a0 Z = true) {n0 : Nat} {h0 : Heap} {i j : Int32} : Con l Z n0 (⟨"java/lang/Math", "min", "(II)I"⟩ : MethodName) jdk_29_method_69_code 2 (some .int) ({ frames := 0, cells := 0, slots := 0, locals := 0 } : Room) [.int i, .int j] h0 [] (fun v h' => v = some (.int (if j < i then j else i)) ∧ h' = h0) := by
  refine Con.of (Ls := [.val (.int i), .val (.int j)]) (Jvm.Free.JP.mathPlain rfl (by decide +kernel)) (fun m => by first | (simp [entryFrame, mkF, argsToLocals, Value.category]; done) | (rcases ref_cases hrw with rfl | ⟨b, rfl⟩ <;> rfl) | rfl) (fun p e s m below meth c => ?_)
  show Wp false p l e ({ frames := 0, cells := 0, slots := 0, locals := 0 } : Room) s m ([.int i, .int j] : List Value).toArray below meth c Z "java/lang/Math" "min" jdk_29_method_69_code 2 (some .int) n0 h0 [] (fun v h _ => (fun v h' => v = some (.int (if j < i then j else i)) ∧ h' = h0) v h) (fun _ => True) h0 0 0 0 [.val (.int i), .val (.int j)] []
  refine iload_n (q1 := 1) d22_0 rfl rfl ?_
  refine iload_n (q1 := 2) d22_1 rfl rfl ?_
  refine icmp_gt (q1 := 5) (q := 9) d22_2 rfl ⟨by decide, rfl⟩ (fun hq => ?_) (fun hq => ?_)
  · refine iload_n (q1 := 10) d22_9 rfl rfl ?_
    refine ret_i d22_10 rfl rfl (fun _ _ => ⟨by rw [if_pos hq], rfl⟩)
  · refine iload_n (q1 := 6) d22_5 rfl rfl ?_
    refine goto (q := 10) d22_6 ⟨by decide, rfl⟩ ?_
    refine ret_i d22_10 rfl rfl (fun _ _ => ⟨by rw [if_neg hq], rfl⟩)
def grown (n : Nat) : Nat := max n (min (2 * n) 4103)
set_option maxRecDepth 65536 in
set_option maxHeartbeats 40000000 in
theorem c_grl {l : Launch} {Z : State} {a0 : Array Value} (hw : ∀ d ∈ tables_1, d.before a0 Z = true) {n0 : Nat} {h0 : Heap} {nI : Int32} {n : Nat} (hn : nI.toInt = (n : Int)) (hb : n ≤ 4096) : Con l Z n0 (⟨"cobblebit/container/ArrayContainer", "grownLength", "(I)I"⟩ : MethodName) prog_42_method_56_code 2 (some .int) ({ frames := 1, cells := 0, slots := 0, locals := 14 } : Room) [.int nI] h0 [] (fun v h' => ∃ r : Int32, v = some (.int r) ∧ r.toInt = (grown n : Int) ∧ h' = h0) := by
  refine Con.of (Ls := [.val (.int nI), .unset]) (by decide +kernel) (fun m => by first | (simp [entryFrame, mkF, argsToLocals, Value.category]; done) | (rcases ref_cases hrw with rfl | ⟨b, rfl⟩ <;> rfl) | rfl) (fun p e s m below meth c => ?_)
  show Wp false p l e ({ frames := 1, cells := 0, slots := 0, locals := 14 } : Room) s m ([.int nI] : List Value).toArray below meth c Z "cobblebit/container/ArrayContainer" "grownLength" prog_42_method_56_code 2 (some .int) n0 h0 [] (fun v h _ => (fun v h' => ∃ r : Int32, v = some (.int r) ∧ r.toInt = (grown n : Int) ∧ h' = h0) v h) (fun _ => True) h0 0 0 0 [.val (.int nI), .unset] []
  have two : (2 : Int32).toInt = 2 := rfl
  have e4 : (4103 : Int32).toInt = 4103 := rfl
  have em : (2 * nI).toInt = 2 * (n : Int) := by
    have a := c_imul 2 nI
    have r := rng32 (2 * nI)
    rw [two, hn] at a; omega
  refine sipush (q1 := 3) (v := 4103) d21_0 rfl rfl ?_
  refine istore_n (q1 := 4) (jj := 1) d21_3 rfl rfl rfl ?_
  simp only [List.set_cons_zero, List.set_cons_succ]
  refine iload_n (q1 := 5) d21_4 rfl rfl ?_
  refine iconst (q1 := 6) (v := 2) d21_5 rfl rfl ?_
  refine iload_n (q1 := 7) d21_6 rfl rfl ?_
  refine imul (q1 := 8) d21_7 rfl ?_
  refine iload_n (q1 := 9) d21_8 rfl rfl ?_
  refine invokestatic (q1 := 12) d21_9 rfl (ww hw 121 rfl) (ww hw 122 rfl) (ww hw 123 rfl) (ww hw 124 rfl) (by decide) pd3 (c_min hw) rfl rfl rfl rfl all0 (fun v h1 q _ => ?_)
  obtain ⟨rfl, rfl⟩ := q
  refine invokestatic (q1 := 15) d21_12 rfl (ww hw 125 rfl) (ww hw 126 rfl) (ww hw 123 rfl) (ww hw 127 rfl) (by decide) pd3 (c_max hw) rfl rfl rfl rfl all0 (fun v h1 q _ => ?_)
  obtain ⟨rfl, rfl⟩ := q
  have e1 : (if (4103 : Int32) < 2 * nI then 4103 else 2 * nI).toInt = min (2 * (n : Int)) 4103 := by
    by_cases q : (4103 : Int32) < 2 * nI
    · rw [if_pos q, e4]; rw [own_lt, em, e4] at q; omega
    · rw [if_neg q, em]; rw [own_lt, em, e4] at q; omega
  refine ret_i d21_15 rfl rfl (fun _ _ => ⟨_, rfl, ?_, rfl⟩)
  unfold grown
  by_cases q : nI < (if (4103 : Int32) < 2 * nI then 4103 else 2 * nI)
  · rw [if_pos q, e1]; rw [own_lt, hn, e1] at q; omega
  · rw [if_neg q, hn]; rw [own_lt, hn, e1] at q; omega
set_option maxRecDepth 65536 in
set_option maxHeartbeats 40000000 in
theorem c_cpc {l : Launch} {Z : State} {a0 : Array Value} (hw : ∀ d ∈ tables_1, d.before a0 Z = true) {n0 : Nat} {h0 : Heap} {t : Addr} {L n : Nat} {lI nI : Int32} {f : Nat → Int32} (A : CA Z h0 t L f) (hf : ∀ j, j < L → fits .char (.int (f j)) = true) (hl : lI.toInt = (L : Int)) (hn : nI.toInt = (n : Int)) (hlt : L < n) (h2 : n ≤ 4103) : Con l Z n0 (⟨"java/util/Arrays", "copyOf", "([CI)[C"⟩ : MethodName) jdk_65_method_125_code 3 (some (.array .char)) ({ frames := 1, cells := 1, slots := 4103, locals := 34 } : Room) [.ref t, .int nI] h0 [] (fun v h' => v = some (.ref h0.size) ∧ ∃ f', CA Z h' h0.size n f' ∧ (∀ j, j < L → f' j = f j) ∧ ∀ j, j < n → fits .char (.int (f' j)) = true) := by
  refine Con.of (Ls := [.val (.ref t), .val (.int nI), .unset]) (by decide +kernel) (fun m => by first | (simp [entryFrame, mkF, argsToLocals, Value.category]; done) | (rcases ref_cases hrw with rfl | ⟨b, rfl⟩ <;> rfl) | rfl) (fun p e s m below meth c => ?_)
  show Wp false p l e ({ frames := 1, cells := 1, slots := 4103, locals := 34 } : Room) s m ([.ref t, .int nI] : List Value).toArray below meth c Z "java/util/Arrays" "copyOf" jdk_65_method_125_code 3 (some (.array .char)) n0 h0 [] (fun v h _ => (fun v h' => v = some (.ref h0.size) ∧ ∃ f', CA Z h' h0.size n f' ∧ (∀ j, j < L → f' j = f j) ∧ ∀ j, j < n → fits .char (.int (f' j)) = true) v h) (fun _ => True) h0 0 0 0 [.val (.ref t), .val (.int nI), .unset] []
  refine iload_n (q1 := 1) d24_0 rfl rfl ?_
  refine aload_n (q1 := 2) d24_1 rfl rfl rfl ?_
  refine arraylength (q1 := 3) d24_2 rfl (A) hl ?_
  refine icmp_ne (q1 := 6) (q := 14) d24_3 rfl ⟨by decide, rfl⟩ (fun _ => ?_) (fun hq => absurd (congrArg Int32.toInt hq) (by rw [hl, hn]; omega))
  refine iload_n (q1 := 15) d24_14 rfl rfl ?_
  refine newarray (q1 := 17) (len := n) (cap := 4103) d24_15 rfl (ww hw 20 rfl) hn (show n ≤ 4103 by omega) (by decide) (by decide) (by decide) (fun S15 h15 E15 A15 => ?_)
  refine astore_n (q1 := 18) (jj := 2) d24_17 rfl rfl rfl rfl ?_
  simp only [List.set_cons_zero, List.set_cons_succ]
  refine aload_n (q1 := 19) d24_18 rfl rfl rfl ?_
  refine iconst (q1 := 20) (v := 0) d24_19 rfl rfl ?_
  refine aload_n (q1 := 21) d24_20 rfl rfl rfl ?_
  refine iconst (q1 := 22) (v := 0) d24_21 rfl rfl ?_
  refine aload_n (q1 := 23) d24_22 rfl rfl rfl ?_
  refine arraylength (q1 := 24) d24_23 rfl (A.ext E15) hl ?_
  refine iload_n (q1 := 25) d24_24 rfl rfl ?_
  refine invokestatic (q1 := 28) d24_25 rfl (ww hw 131 rfl) (ww hw 122 rfl) (ww hw 123 rfl) (ww hw 124 rfl) (by decide) pd3 (c_min hw) rfl rfl rfl rfl all0 (fun v h1 q _ => ?_)
  obtain ⟨rfl, rfl⟩ := q
  rw [if_neg (show ¬ nI < lI by rw [own_lt, hl, hn]; omega)]
  refine arraycopy0 (q1 := 31) (za := lI) (zb := nI) (nn := L) d24_28 rfl (ww hw 132 rfl) (ww hw 72 rfl) (ww hw 70 rfl) (ww hw 71 rfl) (A.ext E15) (A15) rfl hl hn (hl) (Nat.le_refl _) (by omega) (hf) ((fun _ _ => rfl)) rfl ((Nat.le_refl _)) rfl rfl (fun h28 K28 A28 => ?_)
  refine aload_n (q1 := 32) d24_31 rfl rfl rfl ?_
  refine ret_a d24_32 rfl rfl rfl rfl (fun _ _ => ⟨rfl, fun j => if j < L then f j else 0, A28.cong fun j hj => ?_, fun j hj => if_pos hj, fun j hj => ?_⟩)
  · by_cases e : j < L
    · simp [e]
    · simp [e, defaultValue, newarray.typeOf]
  · by_cases e : j < L
    · simp only [e, if_true]; exact hf j e
    · simp only [e, if_false]; rfl
set_option maxRecDepth 65536 in
set_option maxHeartbeats 40000000 in
theorem c_rss {l : Launch} {Z : State} {a0 : Array Value} (hw : ∀ d ∈ tables_1, d.before a0 Z = true) {n0 : Nat} {h0 : Heap} {i : Int32} : Con l Z n0 (⟨"cobblebit/container/RunContainer", "storedSize", "(I)I"⟩ : MethodName) prog_81_method_38_code 1 (some .int) ({ frames := 0, cells := 0, slots := 0, locals := 0 } : Room) [.int i] h0 [] (fun v h' => v = some (.int (2 + 4 * i)) ∧ h' = h0) := by
  refine Con.of (Ls := [.val (.int i)]) (by decide +kernel) (fun m => by first | (simp [entryFrame, mkF, argsToLocals, Value.category]; done) | (rcases ref_cases hrw with rfl | ⟨b, rfl⟩ <;> rfl) | rfl) (fun p e s m below meth c => ?_)
  show Wp false p l e ({ frames := 0, cells := 0, slots := 0, locals := 0 } : Room) s m ([.int i] : List Value).toArray below meth c Z "cobblebit/container/RunContainer" "storedSize" prog_81_method_38_code 1 (some .int) n0 h0 [] (fun v h _ => (fun v h' => v = some (.int (2 + 4 * i)) ∧ h' = h0) v h) (fun _ => True) h0 0 0 0 [.val (.int i)] []
  refine iconst (q1 := 1) (v := 2) d15_0 rfl rfl ?_
  refine iconst (q1 := 2) (v := 4) d15_1 rfl rfl ?_
  refine iload_n (q1 := 3) d15_2 rfl rfl ?_
  refine imul (q1 := 4) d15_3 rfl ?_
  refine iadd (q1 := 5) d15_4 rfl ?_
  refine ret_i d15_5 rfl rfl (fun _ _ => ⟨rfl, rfl⟩)
set_option maxRecDepth 65536 in
set_option maxHeartbeats 40000000 in
theorem c_ass {l : Launch} {Z : State} {a0 : Array Value} (hw : ∀ d ∈ tables_1, d.before a0 Z = true) {n0 : Nat} {h0 : Heap} {i : Int32} : Con l Z n0 (⟨"cobblebit/container/ArrayContainer", "storedSize", "(I)I"⟩ : MethodName) prog_42_method_60_code 1 (some .int) ({ frames := 0, cells := 0, slots := 0, locals := 0 } : Room) [.int i] h0 [] (fun v h' => v = some (.int (2 * i)) ∧ h' = h0) := by
  refine Con.of (Ls := [.val (.int i)]) (by decide +kernel) (fun m => by first | (simp [entryFrame, mkF, argsToLocals, Value.category]; done) | (rcases ref_cases hrw with rfl | ⟨b, rfl⟩ <;> rfl) | rfl) (fun p e s m below meth c => ?_)
  show Wp false p l e ({ frames := 0, cells := 0, slots := 0, locals := 0 } : Room) s m ([.int i] : List Value).toArray below meth c Z "cobblebit/container/ArrayContainer" "storedSize" prog_42_method_60_code 1 (some .int) n0 h0 [] (fun v h _ => (fun v h' => v = some (.int (2 * i)) ∧ h' = h0) v h) (fun _ => True) h0 0 0 0 [.val (.int i)] []
  refine iconst (q1 := 1) (v := 2) d18_0 rfl rfl ?_
  refine iload_n (q1 := 2) d18_1 rfl rfl ?_
  refine imul (q1 := 3) d18_2 rfl ?_
  refine ret_i d18_3 rfl rfl (fun _ _ => ⟨rfl, rfl⟩)
set_option maxRecDepth 65536 in
set_option maxHeartbeats 40000000 in
theorem c_pss {l : Launch} {Z : State} {a0 : Array Value} (hw : ∀ d ∈ tables_1, d.before a0 Z = true) {n0 : Nat} {h0 : Heap} {i : Int32} (hi : ¬ (4096 : Int32) < i) : Con l Z n0 (⟨"cobblebit/container/Container", "plainStoredSize", "(I)I"⟩ : MethodName) prog_59_method_34_code 1 (some .int) ({ frames := 1, cells := 0, slots := 0, locals := 12 } : Room) [.int i] h0 [] (fun v h' => v = some (.int (2 * i)) ∧ h' = h0) := by
  refine Con.of (Ls := [.val (.int i)]) (by decide +kernel) (fun m => by first | (simp [entryFrame, mkF, argsToLocals, Value.category]; done) | (rcases ref_cases hrw with rfl | ⟨b, rfl⟩ <;> rfl) | rfl) (fun p e s m below meth c => ?_)
  show Wp false p l e ({ frames := 1, cells := 0, slots := 0, locals := 12 } : Room) s m ([.int i] : List Value).toArray below meth c Z "cobblebit/container/Container" "plainStoredSize" prog_59_method_34_code 1 (some .int) n0 h0 [] (fun v h _ => (fun v h' => v = some (.int (2 * i)) ∧ h' = h0) v h) (fun _ => True) h0 0 0 0 [.val (.int i)] []
  refine iload_n (q1 := 1) d17_0 rfl rfl ?_
  refine sipush (q1 := 4) (v := 4096) d17_1 rfl rfl ?_
  refine icmp_gt (q1 := 7) (q := 14) d17_4 rfl ⟨by decide, rfl⟩ (fun hq => absurd hq hi) (fun _ => ?_)
  refine iload_n (q1 := 8) d17_7 rfl rfl ?_
  refine invokestatic (q1 := 11) d17_8 rfl (ww hw 100 rfl) (ww hw 101 rfl) (ww hw 4 rfl) (ww hw 102 rfl) (by decide) pd9 (c_ass hw) rfl rfl rfl rfl all0 (fun v h1 q _ => ?_)
  obtain ⟨rfl, rfl⟩ := q
  refine goto (q := 17) d17_11 ⟨by decide, rfl⟩ ?_
  refine ret_i d17_17 rfl rfl (fun _ _ => ⟨rfl, rfl⟩)
set_option maxRecDepth 65536 in
set_option maxHeartbeats 40000000 in
theorem c_car {l : Launch} {Z : State} {a0 : Array Value} (hw : ∀ d ∈ tables_1, d.before a0 Z = true) {n0 : Nat} {h0 : Heap} {a t : Addr} {L : Nat} {cd so rn : Int32} {f : Nat → Int32} (B : Ac Z h0 a t L cd so rn f) : Con l Z n0 (⟨"cobblebit/container/ArrayContainer", "cardinality", "()I"⟩ : MethodName) prog_42_method_9_code 1 (some .int) ({ frames := 0, cells := 0, slots := 0, locals := 0 } : Room) [.ref a] h0 [] (fun v h' => v = some (.int cd) ∧ h' = h0) := by
  refine Con.of (Ls := [.val (.ref a)]) (by decide +kernel) (fun m => by first | (simp [entryFrame, mkF, argsToLocals, Value.category]; done) | (rcases ref_cases hrw with rfl | ⟨b, rfl⟩ <;> rfl) | rfl) (fun p e s m below meth c => ?_)
  show Wp false p l e ({ frames := 0, cells := 0, slots := 0, locals := 0 } : Room) s m ([.ref a] : List Value).toArray below meth c Z "cobblebit/container/ArrayContainer" "cardinality" prog_42_method_9_code 1 (some .int) n0 h0 [] (fun v h _ => (fun v h' => v = some (.int cd) ∧ h' = h0) v h) (fun _ => True) h0 0 0 0 [.val (.ref a)] []
  refine aload_n (q1 := 1) d16_0 rfl rfl rfl ?_
  refine getfield (q1 := 4) d16_1 rfl (ww hw 38 rfl) Via.refl (B.2.2.1) ?_
  refine ret_i d16_4 rfl rfl (fun _ _ => ⟨rfl, rfl⟩)
set_option maxRecDepth 65536 in
set_option maxHeartbeats 40000000 in
theorem c_tun {l : Launch} {Z : State} {a0 : Array Value} (hw : ∀ d ∈ tables_1, d.before a0 Z = true) {n0 : Nat} {h0 : Heap} {a t : Addr} {L : Nat} {cd so rn x : Int32} {f : Nat → Int32} {n : Nat} (B : Ac Z h0 a t L cd so rn f) (hn : cd.toInt = (n : Int)) (h1 : 0 < n) (h2 : n ≤ L) (h3 : n ≤ 5000) : Con l Z n0 (⟨"cobblebit/container/ArrayContainer", "takesUnsorted", "(C)Z"⟩ : MethodName) prog_42_method_22_code 2 (some .boolean) ({ frames := 0, cells := 0, slots := 0, locals := 0 } : Room) [.ref a, .int x] h0 [] (fun v h' => v = some (.int (if so = cd then (if cd < 128 then 0 else if (2048 : Int32) < cd then 0 else if x < f (n - 1) then 1 else 0) else 1)) ∧ h' = h0) := by
  refine Con.of (Ls := [.val (.ref a), .val (.int x)]) (by decide +kernel) (fun m => by first | (simp [entryFrame, mkF, argsToLocals, Value.category]; done) | (rcases ref_cases hrw with rfl | ⟨b, rfl⟩ <;> rfl) | rfl) (fun p e s m below meth c => ?_)
  show Wp false p l e ({ frames := 0, cells := 0, slots := 0, locals := 0 } : Room) s m ([.ref a, .int x] : List Value).toArray below meth c Z "cobblebit/container/ArrayContainer" "takesUnsorted" prog_42_method_22_code 2 (some .boolean) n0 h0 [] (fun v h _ => (fun v h' => v = some (.int (if so = cd then (if cd < 128 then 0 else if (2048 : Int32) < cd then 0 else if x < f (n - 1) then 1 else 0) else 1)) ∧ h' = h0) v h) (fun _ => True) h0 0 0 0 [.val (.ref a), .val (.int x)] []
  have one : (1 : Int32).toInt = 1 := rfl
  have e1 : (cd - 1).toInt = ((n - 1 : Nat) : Int) := by
    have := own_sub hn one (by omega) (by omega)
    rw [this]; omega
  refine aload_n (q1 := 1) d20_0 rfl rfl rfl ?_
  refine getfield (q1 := 4) d20_1 rfl (ww hw 36 rfl) Via.refl (B.2.2.2.1) ?_
  refine aload_n (q1 := 5) d20_4 rfl rfl rfl ?_
  refine getfield (q1 := 8) d20_5 rfl (ww hw 38 rfl) Via.refl (B.2.2.1) ?_
  refine icmp_ne (q1 := 11) (q := 46) d20_8 rfl ⟨by decide, rfl⟩ (fun hq => ?_) (fun hq => ?_)
  · refine iconst (q1 := 47) (v := 1) d20_46 rfl rfl ?_
    refine goto (q := 51) d20_47 ⟨by decide, rfl⟩ ?_
    refine ret_n (t := .boolean) d20_51 rfl (by simp) rfl (fun _ _ => ⟨by rw [if_neg hq]; rfl, rfl⟩)
  · rw [if_pos hq]
    refine aload_n (q1 := 12) d20_11 rfl rfl rfl ?_
    refine getfield (q1 := 15) d20_12 rfl (ww hw 38 rfl) Via.refl (B.2.2.1) ?_
    refine sipush (q1 := 18) (v := 128) d20_15 rfl rfl ?_
    refine icmp_lt (q1 := 21) (q := 50) d20_18 rfl ⟨by decide, rfl⟩ (fun q1 => ?_) (fun q1 => ?_)
    · refine iconst (q1 := 51) (v := 0) d20_50 rfl rfl ?_
      refine ret_n (t := .boolean) d20_51 rfl (by simp) rfl (fun _ _ => ⟨by rw [if_pos q1]; rfl, rfl⟩)
    · refine aload_n (q1 := 22) d20_21 rfl rfl rfl ?_
      refine getfield (q1 := 25) d20_22 rfl (ww hw 38 rfl) Via.refl (B.2.2.1) ?_
      refine sipush (q1 := 28) (v := 2048) d20_25 rfl rfl ?_
      refine icmp_gt (q1 := 31) (q := 50) d20_28 rfl ⟨by decide, rfl⟩ (fun q2 => ?_) (fun q2 => ?_)
      · refine iconst (q1 := 51) (v := 0) d20_50 rfl rfl ?_
        refine ret_n (t := .boolean) d20_51 rfl (by simp) rfl (fun _ _ => ⟨by rw [if_neg q1, if_pos q2]; rfl, rfl⟩)
      · refine iload_n (q1 := 32) d20_31 rfl rfl ?_
        refine aload_n (q1 := 33) d20_32 rfl rfl rfl ?_
        refine getfield (q1 := 36) d20_33 rfl (ww hw 21 rfl) Via.refl (B.2.1) ?_
        refine aload_n (q1 := 37) d20_36 rfl rfl rfl ?_
        refine getfield (q1 := 40) d20_37 rfl (ww hw 38 rfl) Via.refl (B.2.2.1) ?_
        refine iconst (q1 := 41) (v := 1) d20_40 rfl rfl ?_
        refine isub (q1 := 42) d20_41 rfl ?_
        refine caload (q1 := 43) d20_42 rfl (B.2.2.2.2.2.2.1) e1 (show n - 1 < L by omega) rfl ?_
        refine icmp_ge (q1 := 46) (q := 50) d20_43 rfl ⟨by decide, rfl⟩ (fun q3 => ?_) (fun q3 => ?_)
        · refine iconst (q1 := 51) (v := 0) d20_50 rfl rfl ?_
          refine ret_n (t := .boolean) d20_51 rfl (by simp) rfl (fun _ _ => ⟨by rw [if_neg q1, if_neg q2, if_neg q3]; rfl, rfl⟩)
        · refine iconst (q1 := 47) (v := 1) d20_46 rfl rfl ?_
          refine goto (q := 51) d20_47 ⟨by decide, rfl⟩ ?_
          refine ret_n (t := .boolean) d20_51 rfl (by simp) rfl (fun _ _ => ⟨by rw [if_neg q1, if_neg q2, if_pos q3]; rfl, rfl⟩)
set_option maxRecDepth 65536 in
set_option maxHeartbeats 40000000 in
theorem c_rst {l : Launch} {Z : State} {a0 : Array Value} (hw : ∀ d ∈ tables_1, d.before a0 Z = true) {n0 : Nat} {h0 : Heap} {a t : Addr} {L : Nat} {cd so rn : Int32} {f : Nat → Int32} {n : Nat} (B : Ac Z h0 a t L cd so rn f) (hn : cd.toInt = (n : Int)) (h1 : 0 < n) (h2 : n ≤ L) (h3 : n ≤ 5000) (hf : ∀ i, i + 1 < n → f (i + 1) = f i + 1) : Con l Z n0 (⟨"cobblebit/container/ArrayContainer", "runStarts", "(II)I"⟩ : MethodName) prog_42_method_58_code 5 (some .int) ({ frames := 0, cells := 0, slots := 0, locals := 0 } : Room) [.ref a, .int 0, .int cd] h0 [] (fun v h' => v = some (.int 1) ∧ h' = h0) := by
  refine Con.of (Ls := [.val (.ref a), .val (.int 0), .val (.int cd), .unset, .unset]) (by decide +kernel) (fun m => by first | (simp [entryFrame, mkF, argsToLocals, Value.category]; done) | (rcases ref_cases hrw with rfl | ⟨b, rfl⟩ <;> rfl) | rfl) (fun p e s m below meth c => ?_)
  show Wp false p l e ({ frames := 0, cells := 0, slots := 0, locals := 0 } : Room) s m ([.ref a, .int 0, .int cd] : List Value).toArray below meth c Z "cobblebit/container/ArrayContainer" "runStarts" prog_42_method_58_code 5 (some .int) n0 h0 [] (fun v h _ => (fun v h' => v = some (.int 1) ∧ h' = h0) v h) (fun _ => True) h0 0 0 0 [.val (.ref a), .val (.int 0), .val (.int cd), .unset, .unset] []
  have one : (1 : Int32).toInt = 1 := rfl
  have z0 : (0 : Int32).toInt = 0 := rfl
  have loop : ∀ (r i : Nat) (j : Int32), i + 1 + r = n → j.toInt = ((i + 1 : Nat) : Int) → Wp false p l e ({ frames := 0, cells := 0, slots := 0, locals := 0 } : Room) s m ([.ref a, .int 0, .int cd] : List Value).toArray below meth c Z "cobblebit/container/ArrayContainer" "runStarts" prog_42_method_58_code 5 (some .int) n0 h0 [] (fun v h _ => (fun v h' => v = some (.int 1) ∧ h' = h0) v h) (fun _ => True) h0 0 0 5 [.val (.ref a), .val (.int 0), .val (.int cd), .val (.int 1), .val (.int j)] [] := by
    intro r
    induction r with
    | zero =>
      intro i j hi hj
      refine iload (q1 := 7) d14_5 rfl rfl ?_
      refine iload_n (q1 := 8) d14_7 rfl rfl ?_
      refine icmp_ge (q1 := 11) (q := 46) d14_8 rfl ⟨by decide, rfl⟩ (fun _ => ?_) (fun hc => absurd hc (by rw [own_lt, hj, hn]; omega))
      refine iload_n (q1 := 47) d14_46 rfl rfl ?_
      refine ret_i d14_47 rfl rfl (fun _ _ => ⟨rfl, rfl⟩)
    | succ r ih =>
      intro i j hi hj
      have ep : (j - 1).toInt = (i : Int) := by
        have := own_sub hj one (by omega) (by omega)
        rw [this]; omega
      refine iload (q1 := 7) d14_5 rfl rfl ?_
      refine iload_n (q1 := 8) d14_7 rfl rfl ?_
      refine icmp_ge (q1 := 11) (q := 46) d14_8 rfl ⟨by decide, rfl⟩ (fun hc => absurd (show j < cd by rw [own_lt, hj, hn]; omega) hc) (fun _ => ?_)
      refine iload (q1 := 13) d14_11 rfl rfl ?_
      refine if_eq (q1 := 16) (q := 37) d14_13 rfl ⟨by decide, rfl⟩ (fun hc => absurd (congrArg Int32.toInt hc) (by rw [hj, z0]; omega)) (fun _ => ?_)
      refine aload_n (q1 := 17) d14_16 rfl rfl rfl ?_
      refine getfield (q1 := 20) d14_17 rfl (ww hw 21 rfl) Via.refl (B.2.1) ?_
      refine iload (q1 := 22) d14_20 rfl rfl ?_
      refine caload (q1 := 23) d14_22 rfl (B.2.2.2.2.2.2.1) hj (show i + 1 < L by omega) rfl ?_
      refine aload_n (q1 := 24) d14_23 rfl rfl rfl ?_
      refine getfield (q1 := 27) d14_24 rfl (ww hw 21 rfl) Via.refl (B.2.1) ?_
      refine iload (q1 := 29) d14_27 rfl rfl ?_
      refine iconst (q1 := 30) (v := 1) d14_29 rfl rfl ?_
      refine isub (q1 := 31) d14_30 rfl ?_
      refine caload (q1 := 32) d14_31 rfl (B.2.2.2.2.2.2.1) ep (show i < L by omega) rfl ?_
      refine iconst (q1 := 33) (v := 1) d14_32 rfl rfl ?_
      refine iadd (q1 := 34) d14_33 rfl ?_
      refine icmp_eq (q1 := 37) (q := 40) d14_34 rfl ⟨by decide, rfl⟩ (fun _ => ?_) (fun hc => absurd (hf i (by omega)) hc)
      refine iinc (q1 := 43) (v := 1) d14_40 rfl rfl rfl ?_
      simp only [List.set_cons_zero, List.set_cons_succ]
      refine goto (q := 5) d14_43 ⟨by decide, rfl⟩ ?_
      exact ih (i + 1) (j + 1) (by omega) (own_succ hj (by omega))
  refine iconst (q1 := 1) (v := 0) d14_0 rfl rfl ?_
  refine istore_n (q1 := 2) (jj := 3) d14_1 rfl rfl rfl ?_
  simp only [List.set_cons_zero, List.set_cons_succ]
  refine iload_n (q1 := 3) d14_2 rfl rfl ?_
  refine istore (q1 := 5) d14_3 rfl rfl ?_
  simp only [List.set_cons_zero, List.set_cons_succ]
  refine iload (q1 := 7) d14_5 rfl rfl ?_
  refine iload_n (q1 := 8) d14_7 rfl rfl ?_
  refine icmp_ge (q1 := 11) (q := 46) d14_8 rfl ⟨by decide, rfl⟩ (fun hc => absurd (show (0 : Int32) < cd by rw [own_lt, hn, z0]; omega) hc) (fun _ => ?_)
  refine iload (q1 := 13) d14_11 rfl rfl ?_
  refine if_eq (q1 := 16) (q := 37) d14_13 rfl ⟨by decide, rfl⟩ (fun _ => ?_) (fun hc => absurd rfl hc)
  refine iinc (q1 := 40) (v := 1) d14_37 rfl rfl rfl ?_
  simp only [List.set_cons_zero, List.set_cons_succ]
  refine iinc (q1 := 43) (v := 1) d14_40 rfl rfl rfl ?_
  simp only [List.set_cons_zero, List.set_cons_succ]
  refine goto (q := 5) d14_43 ⟨by decide, rfl⟩ ?_
  exact loop (n - 1) 0 _ (by omega) rfl
set_option maxRecDepth 65536 in
set_option maxHeartbeats 40000000 in
theorem c_rco {l : Launch} {Z : State} {a0 : Array Value} (hw : ∀ d ∈ tables_1, d.before a0 Z = true) {n0 : Nat} {h0 : Heap} {a t : Addr} {L : Nat} {cd so : Int32} {f : Nat → Int32} {n : Nat} (B : Ac Z h0 a t L cd so (-1) f) (hn : cd.toInt = (n : Int)) (h1 : 0 < n) (h2 : n ≤ L) (h3 : n ≤ 5000) (hf : ∀ i, i + 1 < n → f (i + 1) = f i + 1) : Con l Z n0 (⟨"cobblebit/container/ArrayContainer", "runCount", "()I"⟩ : MethodName) prog_42_method_57_code 2 (some .int) ({ frames := 1, cells := 0, slots := 0, locals := 16 } : Room) [.ref a] h0 [a] (fun v h' => v = some (.int 1) ∧ Ac Z h' a t L cd so 1 f) := by
  refine Con.of (Ls := [.val (.ref a), .unset]) (by decide +kernel) (fun m => by first | (simp [entryFrame, mkF, argsToLocals, Value.category]; done) | (rcases ref_cases hrw with rfl | ⟨b, rfl⟩ <;> rfl) | rfl) (fun p e s m below meth c => ?_)
  show Wp false p l e ({ frames := 1, cells := 0, slots := 0, locals := 16 } : Room) s m ([.ref a] : List Value).toArray below meth c Z "cobblebit/container/ArrayContainer" "runCount" prog_42_method_57_code 2 (some .int) n0 h0 [a] (fun v h _ => (fun v h' => v = some (.int 1) ∧ Ac Z h' a t L cd so 1 f) v h) (fun _ => True) h0 0 0 0 [.val (.ref a), .unset] []
  refine aload_n (q1 := 1) d13_0 rfl rfl rfl ?_
  refine getfield (q1 := 4) d13_1 rfl (ww hw 18 rfl) Via.refl (B.2.2.2.2.2.1) ?_
  refine istore_n (q1 := 5) (jj := 1) d13_4 rfl rfl rfl ?_
  simp only [List.set_cons_zero, List.set_cons_succ]
  refine iload_n (q1 := 6) d13_5 rfl rfl ?_
  refine iconst (q1 := 7) (v := -1) d13_6 rfl rfl ?_
  refine icmp_ne (q1 := 10) (q := 25) d13_7 rfl ⟨by decide, rfl⟩ (fun hq => absurd rfl hq) (fun _ => ?_)
  refine aload_n (q1 := 11) d13_10 rfl rfl rfl ?_
  refine iconst (q1 := 12) (v := 0) d13_11 rfl rfl ?_
  refine aload_n (q1 := 13) d13_12 rfl rfl rfl ?_
  refine getfield (q1 := 16) d13_13 rfl (ww hw 38 rfl) Via.refl (B.2.2.1) ?_
  refine invokepriv (q1 := 19) d13_16 rfl (ww hw 84 rfl) (ww hw 85 rfl) (ww hw 3 rfl) (ww hw 86 rfl) (ww hw 4 rfl) (ww hw 87 rfl) (by decide) pd3 (B.1) (c_rst hw B hn h1 h2 h3 hf) rfl rfl rfl rfl all0 (fun v h1 q _ => ?_)
  obtain ⟨rfl, rfl⟩ := q
  refine istore_n (q1 := 20) (jj := 1) d13_19 rfl rfl rfl ?_
  simp only [List.set_cons_zero, List.set_cons_succ]
  refine aload_n (q1 := 21) d13_20 rfl rfl rfl ?_
  refine iload_n (q1 := 22) d13_21 rfl rfl ?_
  refine putfield (q1 := 25) d13_22 rfl (ww hw 18 rfl) Via.refl (B.2.2.2.2.2.1) (B.1) (Or.inl (ww hw 19 rfl)) (ww hw 3 rfl) (ty := .int) (by decide) rfl rfl (Or.inl own_in1) (fun h22 W22 => ?_)
  refine iload_n (q1 := 26) d13_25 rfl rfl ?_
  refine ret_i d13_26 rfl rfl (fun _ _ => ⟨rfl, B.1.wr W22, B.2.1.other W22 (Or.inr (slot_ne (Or.inl (ww hw 22 rfl)) (Or.inl (ww hw 19 rfl)) (by decide) (t := (.array .char)) (t' := .int) (by decide) (by decide))), B.2.2.1.other W22 (Or.inr (slot_ne (Or.inl (ww hw 39 rfl)) (Or.inl (ww hw 19 rfl)) (by decide) (t := .int) (t' := .int) (by decide) (by decide))), B.2.2.2.1.other W22 (Or.inr (slot_ne (Or.inl (ww hw 37 rfl)) (Or.inl (ww hw 19 rfl)) (by decide) (t := .int) (t' := .int) (by decide) (by decide))), B.2.2.2.2.1.other W22 (Or.inr (slot_ne (Or.inl (ww hw 17 rfl)) (Or.inl (ww hw 19 rfl)) (by decide) (t := .short) (t' := .int) (by decide) (by decide))), B.2.2.2.2.2.1.same W22, B.2.2.2.2.2.2.1.other W22 B.2.2.2.2.2.2.2, B.2.2.2.2.2.2.2⟩)
set_option maxRecDepth 65536 in
set_option maxHeartbeats 40000000 in
theorem c_knd {l : Launch} {Z : State} {a0 : Array Value} (hw : ∀ d ∈ tables_1, d.before a0 Z = true) {n0 : Nat} {h0 : Heap} {a : Addr} {ka : Addr} (S : Sta Z Z.heap "cobblebit/terms/ContainerKind" "ARRAY" "Lcobblebit/terms/ContainerKind;" (.ref ka)) : Con l Z n0 (⟨"cobblebit/container/ArrayContainer", "kind", "()Lcobblebit/terms/ContainerKind;"⟩ : MethodName) prog_42_method_8_code 1 (some (.object "cobblebit/terms/ContainerKind")) ({ frames := 0, cells := 0, slots := 0, locals := 0 } : Room) [.ref a] h0 [] (fun v h' => v = some (.ref ka) ∧ h' = h0) := by
  refine Con.of (Ls := [.val (.ref a)]) (by decide +kernel) (fun m => by first | (simp [entryFrame, mkF, argsToLocals, Value.category]; done) | (rcases ref_cases hrw with rfl | ⟨b, rfl⟩ <;> rfl) | rfl) (fun p e s m below meth c => ?_)
  show Wp false p l e ({ frames := 0, cells := 0, slots := 0, locals := 0 } : Room) s m ([.ref a] : List Value).toArray below meth c Z "cobblebit/container/ArrayContainer" "kind" prog_42_method_8_code 1 (some (.object "cobblebit/terms/ContainerKind")) n0 h0 [] (fun v h _ => (fun v h' => v = some (.ref ka) ∧ h' = h0) v h) (fun _ => True) h0 0 0 0 [.val (.ref a)] []
  refine kept fun K O => ?_
  refine getstatic (q1 := 3) d19_0 rfl (ww hw 108 rfl) Via.refl (S.ext O.2) ?_
  refine ret_a d19_3 rfl rfl rfl rfl (fun _ _ => ⟨rfl, rfl⟩)
def bitX (i : Int32) : Int64 := (1 : Int64) <<< (i &&& 0x3f).toInt64
def ixN (v : Int32) : Nat := v.toInt.toNat / 64
/-- the words after i turns -/
def wdF (f : Nat → Int32) : Nat → Nat → Int64
  | 0, _ => 0
  | i + 1, w => if w = ixN (f i) then wdF f i w ||| bitX (f i) else wdF f i w
theorem own_ix {v : Int32} (h0 : 0 ≤ v.toInt) : (v.toUInt32 >>> ((6 : Int32) &&& 31).toUInt32).toInt32.toInt = (ixN v : Int) := by
  have a := c_iushr v 6 6 (by decide)
  have r := rng32 v
  have e : v.toInt % 4294967296 = v.toInt := Int.emod_eq_of_lt h0 (by omega)
  unfold ixN
  omega
set_option maxRecDepth 65536 in
set_option maxHeartbeats 40000000 in
theorem c_sb3 {l : Launch} {Z : State} {a0 : Array Value} (hw : ∀ d ∈ tables_1, d.before a0 Z = true) {n0 : Nat} {h0 : Heap} {t w : Addr} {L : Nat} {cd : Int32} {f : Nat → Int32} {n : Nat} (A : CA Z h0 t L f) (W : Ary Z h0 w .long 1024 (fun _ => .long 0)) (hne : t ≠ w) (hn : cd.toInt = (n : Int)) (h2 : n ≤ L) (h3 : n ≤ 5000) (hf : ∀ i, i < n → 0 ≤ (f i).toInt ∧ (f i).toInt < 65536) : Con l Z n0 (⟨"cobblebit/container/ArrayContainer", "setBits", "([CI[J)V"⟩ : MethodName) prog_42_method_47_code 4 none ({ frames := 0, cells := 0, slots := 0, locals := 0 } : Room) [.ref t, .int cd, .ref w] h0 [w] (fun v h' => v = none ∧ Ary Z h' w .long 1024 (fun q => .long (wdF f n q))) := by
  refine Con.of (Ls := [.val (.ref t), .val (.int cd), .val (.ref w), .unset]) (by decide +kernel) (fun m => by first | (simp [entryFrame, mkF, argsToLocals, Value.category]; done) | (rcases ref_cases hrw with rfl | ⟨b, rfl⟩ <;> rfl) | rfl) (fun p e s m below meth c => ?_)
  show Wp false p l e ({ frames := 0, cells := 0, slots := 0, locals := 0 } : Room) s m ([.ref t, .int cd, .ref w] : List Value).toArray below meth c Z "cobblebit/container/ArrayContainer" "setBits" prog_42_method_47_code 4 none n0 h0 [w] (fun v h _ => (fun v h' => v = none ∧ Ary Z h' w .long 1024 (fun q => .long (wdF f n q))) v h) (fun _ => True) h0 0 0 0 [.val (.ref t), .val (.int cd), .val (.ref w), .unset] []
  have loop : ∀ (r i : Nat) (j : Int32) (h : Heap), i + r = n → j.toInt = (i : Int) → Ary Z h w .long 1024 (fun q => .long (wdF f i q)) → Wp false p l e ({ frames := 0, cells := 0, slots := 0, locals := 0 } : Room) s m ([.ref t, .int cd, .ref w] : List Value).toArray below meth c Z "cobblebit/container/ArrayContainer" "setBits" prog_42_method_47_code 4 none n0 h0 [w] (fun v h _ => (fun v h' => v = none ∧ Ary Z h' w .long 1024 (fun q => .long (wdF f n q))) v h) (fun _ => True) h 0 0 2 [.val (.ref t), .val (.int cd), .val (.ref w), .val (.int j)] [] := by
    intro r
    induction r with
    | zero =>
      intro i j h hi hj V
      refine iload_n (q1 := 3) d27_2 rfl rfl ?_
      refine iload_n (q1 := 4) d27_3 rfl rfl ?_
      refine icmp_ge (q1 := 7) (q := 29) d27_4 rfl ⟨by decide, rfl⟩ (fun _ => ?_) (fun hc => absurd hc (by rw [own_lt, hj, hn]; omega))
      have e : i = n := by omega
      subst e
      refine ret_v d27_29 rfl rfl (fun _ _ => ⟨rfl, V⟩)
    | succ r ih =>
      intro i j h hi hj V
      obtain ⟨f0, f1⟩ := hf i (by omega)
      have ei := own_ix f0
      have il : ixN (f i) < 1024 := by unfold ixN; omega
      refine iload_n (q1 := 3) d27_2 rfl rfl ?_
      refine iload_n (q1 := 4) d27_3 rfl rfl ?_
      refine icmp_ge (q1 := 7) (q := 29) d27_4 rfl ⟨by decide, rfl⟩ (fun hc => absurd (show j < cd by rw [own_lt, hj, hn]; omega) hc) (fun _ => ?_)
      refine kept fun K O => ?_
      have A1 := Ary.keep A K (nin1 hne)
      refine aload_n (q1 := 8) d27_7 rfl rfl rfl ?_
      refine aload_n (q1 := 9) d27_8 rfl rfl rfl ?_
      refine iload_n (q1 := 10) d27_9 rfl rfl ?_
      refine caload (q1 := 11) d27_10 rfl (A1) hj (show i < L by omega) rfl ?_
      refine bipush (q1 := 13) (v := 6) d27_11 rfl rfl ?_
      refine iushr (q1 := 14) d27_13 rfl ?_
      refine dup2 (q1 := 15) d27_14 rfl rfl rfl ?_
      refine laload (q1 := 16) d27_15 rfl (V) ei il rfl ?_
      refine lconst (q1 := 17) (v := 1) d27_16 rfl rfl ?_
      refine aload_n (q1 := 18) d27_17 rfl rfl rfl ?_
      refine iload_n (q1 := 19) d27_18 rfl rfl ?_
      refine caload (q1 := 20) d27_19 rfl (A1) hj (show i < L by omega) rfl ?_
      refine lshl (q1 := 21) d27_20 rfl ?_
      refine lor (q1 := 22) d27_21 rfl ?_
      refine lastore (q1 := 23) d27_22 rfl (V) ei il (Or.inl own_in1) (fun h22 W22 => ?_)
      refine iinc (q1 := 26) (v := 1) d27_23 rfl rfl rfl ?_
      simp only [List.set_cons_zero, List.set_cons_succ]
      refine goto (q := 2) d27_26 ⟨by decide, rfl⟩ ?_
      refine ih (i + 1) (j + 1) h22 (by omega) (own_succ hj (by omega)) ((V.same W22).cong fun q hq => ?_)
      by_cases e : q = ixN (f i)
      · rw [if_pos e]; show _ = Value.long (wdF f (i + 1) q); rw [show wdF f (i + 1) q = wdF f i q ||| bitX (f i) from if_pos e, e]; rfl
      · rw [if_neg e]; show _ = Value.long (wdF f (i + 1) q); rw [show wdF f (i + 1) q = wdF f i q from if_neg e]
  refine iconst (q1 := 1) (v := 0) d27_0 rfl rfl ?_
  refine istore_n (q1 := 2) (jj := 3) d27_1 rfl rfl rfl ?_
  simp only [List.set_cons_zero, List.set_cons_succ]
  exact loop n 0 0 h0 (by omega) rfl W
set_option maxRecDepth 65536 in
set_option maxHeartbeats 40000000 in
theorem c_sb1 {l : Launch} {Z : State} {a0 : Array Value} (hw : ∀ d ∈ tables_1, d.before a0 Z = true) {n0 : Nat} {h0 : Heap} {a t w : Addr} {L : Nat} {cd so rn : Int32} {f : Nat → Int32} {n : Nat} (B : Ac Z h0 a t L cd so rn f) (W : Ary Z h0 w .long 1024 (fun _ => .long 0)) (hne : t ≠ w) (hn : cd.toInt = (n : Int)) (h2 : n ≤ L) (h3 : n ≤ 5000) (hf : ∀ i, i < n → 0 ≤ (f i).toInt ∧ (f i).toInt < 65536) : Con l Z n0 (⟨"cobblebit/container/ArrayContainer", "setBits", "([J)V"⟩ : MethodName) prog_42_method_46_code 2 none ({ frames := 1, cells := 0, slots := 0, locals := 15 } : Room) [.ref a, .ref w] h0 [w] (fun v h' => v = none ∧ Ary Z h' w .long 1024 (fun q => .long (wdF f n q))) := by
  refine Con.of (Ls := [.val (.ref a), .val (.ref w)]) (by decide +kernel) (fun m => by first | (simp [entryFrame, mkF, argsToLocals, Value.category]; done) | (rcases ref_cases hrw with rfl | ⟨b, rfl⟩ <;> rfl) | rfl) (fun p e s m below meth c => ?_)
  show Wp false p l e ({ frames := 1, cells := 0, slots := 0, locals := 15 } : Room) s m ([.ref a, .ref w] : List Value).toArray below meth c Z "cobblebit/container/ArrayContainer" "setBits" prog_42_method_46_code 2 none n0 h0 [w] (fun v h _ => (fun v h' => v = none ∧ Ary Z h' w .long 1024 (fun q => .long (wdF f n q))) v h) (fun _ => True) h0 0 0 0 [.val (.ref a), .val (.ref w)] []
  refine aload_n (q1 := 1) d26_0 rfl rfl rfl ?_
  refine getfield (q1 := 4) d26_1 rfl (ww hw 21 rfl) Via.refl (B.2.1) ?_
  refine aload_n (q1 := 5) d26_4 rfl rfl rfl ?_
  refine getfield (q1 := 8) d26_5 rfl (ww hw 38 rfl) Via.refl (B.2.2.1) ?_
  refine aload_n (q1 := 9) d26_8 rfl rfl rfl ?_
  refine invokestatic (q1 := 12) d26_9 rfl (ww hw 144 rfl) (ww hw 145 rfl) (ww hw 4 rfl) (ww hw 146 rfl) (by decide) pd15 (c_sb3 hw B.2.2.2.2.2.2.1 W hne hn h2 h3 hf) rfl rfl rfl rfl (allS (Or.inl own_in1) all0) (fun v h1 q _ => ?_)
  obtain ⟨rfl, V⟩ := q
  refine ret_v d26_12 rfl rfl (fun _ _ => ⟨rfl, V⟩)
set_option maxRecDepth 65536 in
set_option maxHeartbeats 40000000 in
theorem c_tow {l : Launch} {Z : State} {a0 : Array Value} (hw : ∀ d ∈ tables_1, d.before a0 Z = true) {n0 : Nat} {h0 : Heap} {a t : Addr} {L : Nat} {cd so rn : Int32} {f : Nat → Int32} {n : Nat} (B : Ac Z h0 a t L cd so rn f) (hn : cd.toInt = (n : Int)) (h2 : n ≤ L) (hm : n ≤ 5000) (hf : ∀ i, i < n → 0 ≤ (f i).toInt ∧ (f i).toInt < 65536) : Con l Z n0 (⟨"cobblebit/container/ArrayContainer", "toWords", "()[J"⟩ : MethodName) prog_42_method_45_code 2 (some (.array .long)) ({ frames := 2, cells := 1, slots := 1024, locals := 28 } : Room) [.ref a] h0 [] (fun v h' => v = some (.ref h0.size) ∧ Ary Z h' h0.size .long 1024 (fun q => .long (wdF f n q))) := by
  refine Con.of (Ls := [.val (.ref a), .unset]) (by decide +kernel) (fun m => by first | (simp [entryFrame, mkF, argsToLocals, Value.category]; done) | (rcases ref_cases hrw with rfl | ⟨b, rfl⟩ <;> rfl) | rfl) (fun p e s m below meth c => ?_)
  show Wp false p l e ({ frames := 2, cells := 1, slots := 1024, locals := 28 } : Room) s m ([.ref a] : List Value).toArray below meth c Z "cobblebit/container/ArrayContainer" "toWords" prog_42_method_45_code 2 (some (.array .long)) n0 h0 [] (fun v h _ => (fun v h' => v = some (.ref h0.size) ∧ Ary Z h' h0.size .long 1024 (fun q => .long (wdF f n q))) v h) (fun _ => True) h0 0 0 0 [.val (.ref a), .unset] []
  refine sipush (q1 := 3) (v := 1024) d25_0 rfl rfl ?_
  refine newarray (q1 := 5) (len := 1024) (cap := 1024) d25_3 rfl (ww hw 138 rfl) rfl (by decide) (by decide) (by decide) (by decide) (fun S3 h3 E3 A3 => ?_)
  refine astore_n (q1 := 6) (jj := 1) d25_5 rfl rfl rfl rfl ?_
  simp only [List.set_cons_zero, List.set_cons_succ]
  refine aload_n (q1 := 7) d25_6 rfl rfl rfl ?_
  refine aload_n (q1 := 8) d25_7 rfl rfl rfl ?_
  have B1 := B.keep ((Keep.refl h0 []).ext E3) nin0' nin0'
  refine invokevirt (q1 := 11) d25_8 rfl (ww hw 139 rfl) (ww hw 140 rfl) (ww hw 142 rfl) (ww hw 141 rfl) (ww hw 4 rfl) (ww hw 143 rfl) (by decide) pd14 (B1.1) (c_sb1 hw B1 A3 (Nat.ne_of_lt (Ary.lt B.2.2.2.2.2.2.1)) hn h2 hm hf) rfl rfl rfl rfl (allS (Or.inr S3) all0) (fun v h1 q _ => ?_)
  obtain ⟨rfl, V⟩ := q
  refine aload_n (q1 := 12) d25_11 rfl rfl rfl ?_
  refine ret_a d25_12 rfl rfl rfl rfl (fun _ _ => ⟨rfl, V⟩)
def ush (x y : Int32) : Int32 := (x.toUInt32 >>> (y &&& 31).toUInt32).toInt32
def nz5 (a n : Int32) : Int32 := n + ush a 1
def nz4 (a n : Int32) : Int32 := if (4 : Int32) < a then nz5 (ush a 2) (n + 2) else nz5 a n
def nz3 (a n : Int32) : Int32 := if (16 : Int32) < a then nz4 (ush a 4) (n + 4) else nz4 a n
def nz2 (a n : Int32) : Int32 := if (256 : Int32) < a then nz3 (ush a 8) (n + 8) else nz3 a n
def nz1 (a n : Int32) : Int32 := if (65536 : Int32) < a then nz2 (ush a 16) (n + 16) else nz2 a n
def ntzI (i : Int32) : Int32 := if (0 : Int32) < ((i ^^^ (-1)) &&& (i - 1)) then nz1 ((i ^^^ (-1)) &&& (i - 1)) 1 else ((i ^^^ (-1)) &&& (i - 1)) &&& 32
def ntzL (x : Int64) : Int32 := if x.toInt32 = 0 then 32 + ntzI ((x.toUInt64 >>> ((32 : Int32) &&& 0x3f).toInt64.toUInt64).toInt64).toInt32 else ntzI x.toInt32
set_option maxRecDepth 65536 in
set_option maxHeartbeats 40000000 in
theorem c_int {l : Launch} {Z : State} {a0 : Array Value} (hw : ∀ d ∈ tables_1, d.before a0 Z = true) {n0 : Nat} {h0 : Heap} {i : Int32} : Con l Z n0 (⟨"java/lang/Integer", "numberOfTrailingZeros", "(I)I"⟩ : MethodName) jdk_33_method_48_code 2 (some .int) ({ frames := 0, cells := 0, slots := 0, locals := 0 } : Room) [.int i] h0 [] (fun v h' => v = some (.int (ntzI i)) ∧ h' = h0) := by
  refine Con.of (Ls := [.val (.int i), .unset]) (by decide +kernel) (fun m => by first | (simp [entryFrame, mkF, argsToLocals, Value.category]; done) | (rcases ref_cases hrw with rfl | ⟨b, rfl⟩ <;> rfl) | rfl) (fun p e s m below meth c => ?_)
  show Wp false p l e ({ frames := 0, cells := 0, slots := 0, locals := 0 } : Room) s m ([.int i] : List Value).toArray below meth c Z "java/lang/Integer" "numberOfTrailingZeros" jdk_33_method_48_code 2 (some .int) n0 h0 [] (fun v h _ => (fun v h' => v = some (.int (ntzI i)) ∧ h' = h0) v h) (fun _ => True) h0 0 0 0 [.val (.int i), .unset] []
  have j5 : ∀ a n : Int32, nz5 a n = ntzI i → Wp false p l e ({ frames := 0, cells := 0, slots := 0, locals := 0 } : Room) s m ([.int i] : List Value).toArray below meth c Z "java/lang/Integer" "numberOfTrailingZeros" jdk_33_method_48_code 2 (some .int) n0 h0 [] (fun v h _ => (fun v h' => v = some (.int (ntzI i)) ∧ h' = h0) v h) (fun _ => True) h0 0 0 74 [.val (.int a), .val (.int n)] [] := by
    intro a n hq
    refine iload_n (q1 := 75) d37_74 rfl rfl ?_
    refine iload_n (q1 := 76) d37_75 rfl rfl ?_
    refine iconst (q1 := 77) (v := 1) d37_76 rfl rfl ?_
    refine iushr (q1 := 78) d37_77 rfl ?_
    refine iadd (q1 := 79) d37_78 rfl ?_
    refine ret_i d37_79 rfl rfl (fun _ _ => ⟨by rw [← hq]; rfl, rfl⟩)
  have j4 : ∀ a n : Int32, nz4 a n = ntzI i → Wp false p l e ({ frames := 0, cells := 0, slots := 0, locals := 0 } : Room) s m ([.int i] : List Value).toArray below meth c Z "java/lang/Integer" "numberOfTrailingZeros" jdk_33_method_48_code 2 (some .int) n0 h0 [] (fun v h _ => (fun v h' => v = some (.int (ntzI i)) ∧ h' = h0) v h) (fun _ => True) h0 0 0 62 [.val (.int a), .val (.int n)] [] := by
    intro a n hq
    unfold nz4 at hq
    refine iload_n (q1 := 63) d37_62 rfl rfl ?_
    refine iconst (q1 := 64) (v := 4) d37_63 rfl rfl ?_
    refine icmp_le (q1 := 67) (q := 74) d37_64 rfl ⟨by decide, rfl⟩ (fun hc => ?_) (fun hc => ?_)
    · rw [if_neg hc] at hq; exact j5 _ _ hq
    · rw [if_pos hc] at hq
      refine iinc (q1 := 70) (v := 2) d37_67 rfl rfl rfl ?_
      simp only [List.set_cons_zero, List.set_cons_succ]
      refine iload_n (q1 := 71) d37_70 rfl rfl ?_
      refine iconst (q1 := 72) (v := 2) d37_71 rfl rfl ?_
      refine iushr (q1 := 73) d37_72 rfl ?_
      refine istore_n (q1 := 74) (jj := 0) d37_73 rfl rfl rfl ?_
      simp only [List.set_cons_zero, List.set_cons_succ]
      exact j5 _ _ hq
  have j3 : ∀ a n : Int32, nz3 a n = ntzI i → Wp false p l e ({ frames := 0, cells := 0, slots := 0, locals := 0 } : Room) s m ([.int i] : List Value).toArray below meth c Z "java/lang/Integer" "numberOfTrailingZeros" jdk_33_method_48_code 2 (some .int) n0 h0 [] (fun v h _ => (fun v h' => v = some (.int (ntzI i)) ∧ h' = h0) v h) (fun _ => True) h0 0 0 49 [.val (.int a), .val (.int n)] [] := by
    intro a n hq
    unfold nz3 at hq
    refine iload_n (q1 := 50) d37_49 rfl rfl ?_
    refine bipush (q1 := 52) (v := 16) d37_50 rfl rfl ?_
    refine icmp_le (q1 := 55) (q := 62) d37_52 rfl ⟨by decide, rfl⟩ (fun hc => ?_) (fun hc => ?_)
    · rw [if_neg hc] at hq; exact j4 _ _ hq
    · rw [if_pos hc] at hq
      refine iinc (q1 := 58) (v := 4) d37_55 rfl rfl rfl ?_
      simp only [List.set_cons_zero, List.set_cons_succ]
      refine iload_n (q1 := 59) d37_58 rfl rfl ?_
      refine iconst (q1 := 60) (v := 4) d37_59 rfl rfl ?_
      refine iushr (q1 := 61) d37_60 rfl ?_
      refine istore_n (q1 := 62) (jj := 0) d37_61 rfl rfl rfl ?_
      simp only [List.set_cons_zero, List.set_cons_succ]
      exact j4 _ _ hq
  have j2 : ∀ a n : Int32, nz2 a n = ntzI i → Wp false p l e ({ frames := 0, cells := 0, slots := 0, locals := 0 } : Room) s m ([.int i] : List Value).toArray below meth c Z "java/lang/Integer" "numberOfTrailingZeros" jdk_33_method_48_code 2 (some .int) n0 h0 [] (fun v h _ => (fun v h' => v = some (.int (ntzI i)) ∧ h' = h0) v h) (fun _ => True) h0 0 0 34 [.val (.int a), .val (.int n)] [] := by
    intro a n hq
    unfold nz2 at hq
    refine iload_n (q1 := 35) d37_34 rfl rfl ?_
    refine sipush (q1 := 38) (v := 256) d37_35 rfl rfl ?_
    refine icmp_le (q1 := 41) (q := 49) d37_38 rfl ⟨by decide, rfl⟩ (fun hc => ?_) (fun hc => ?_)
    · rw [if_neg hc] at hq; exact j3 _ _ hq
    · rw [if_pos hc] at hq
      refine iinc (q1 := 44) (v := 8) d37_41 rfl rfl rfl ?_
      simp only [List.set_cons_zero, List.set_cons_succ]
      refine iload_n (q1 := 45) d37_44 rfl rfl ?_
      refine bipush (q1 := 47) (v := 8) d37_45 rfl rfl ?_
      refine iushr (q1 := 48) d37_47 rfl ?_
      refine istore_n (q1 := 49) (jj := 0) d37_48 rfl rfl rfl ?_
      simp only [List.set_cons_zero, List.set_cons_succ]
      exact j3 _ _ hq
  refine iload_n (q1 := 1) d37_0 rfl rfl ?_
  refine iconst (q1 := 2) (v := -1) d37_1 rfl rfl ?_
  refine ixor (q1 := 3) d37_2 rfl ?_
  refine iload_n (q1 := 4) d37_3 rfl rfl ?_
  refine iconst (q1 := 5) (v := 1) d37_4 rfl rfl ?_
  refine isub (q1 := 6) d37_5 rfl ?_
  refine iand (q1 := 7) d37_6 rfl ?_
  refine istore_n (q1 := 8) (jj := 0) d37_7 rfl rfl rfl ?_
  simp only [List.set_cons_zero, List.set_cons_succ]
  refine iload_n (q1 := 9) d37_8 rfl rfl ?_
  refine if_gt (q1 := 12) (q := 17) d37_9 rfl ⟨by decide, rfl⟩ (fun hc => ?_) (fun hc => ?_)
  · have hq : nz1 ((i ^^^ (-1)) &&& (i - 1)) 1 = ntzI i := by unfold ntzI; rw [if_pos hc]
    unfold nz1 at hq
    refine iconst (q1 := 18) (v := 1) d37_17 rfl rfl ?_
    refine istore_n (q1 := 19) (jj := 1) d37_18 rfl rfl rfl ?_
    simp only [List.set_cons_zero, List.set_cons_succ]
    refine iload_n (q1 := 20) d37_19 rfl rfl ?_
    refine ldcwI (q1 := 23) d37_20 rfl (ww hw 198 rfl) ?_
    refine icmp_le (q1 := 26) (q := 34) d37_23 rfl ⟨by decide, rfl⟩ (fun hd => ?_) (fun hd => ?_)
    · rw [if_neg hd] at hq; exact j2 _ _ hq
    · rw [if_pos hd] at hq
      refine iinc (q1 := 29) (v := 16) d37_26 rfl rfl rfl ?_
      simp only [List.set_cons_zero, List.set_cons_succ]
      refine iload_n (q1 := 30) d37_29 rfl rfl ?_
      refine bipush (q1 := 32) (v := 16) d37_30 rfl rfl ?_
      refine iushr (q1 := 33) d37_32 rfl ?_
      refine istore_n (q1 := 34) (jj := 0) d37_33 rfl rfl rfl ?_
      simp only [List.set_cons_zero, List.set_cons_succ]
      exact j2 _ _ hq
  · refine iload_n (q1 := 13) d37_12 rfl rfl ?_
    refine bipush (q1 := 15) (v := 32) d37_13 rfl rfl ?_
    refine iand (q1 := 16) d37_15 rfl ?_
    refine ret_i d37_16 rfl rfl (fun _ _ => ⟨by unfold ntzI; rw [if_neg hc], rfl⟩)
set_option maxRecDepth 65536 in
set_option maxHeartbeats 40000000 in
theorem c_lnt {l : Launch} {Z : State} {a0 : Array Value} (hw : ∀ d ∈ tables_1, d.before a0 Z = true) {n0 : Nat} {h0 : Heap} {x : Int64} : Con l Z n0 (⟨"java/lang/Long", "numberOfTrailingZeros", "(J)I"⟩ : MethodName) jdk_35_method_49_code 3 (some .int) ({ frames := 1, cells := 0, slots := 0, locals := 14 } : Room) [.long x] h0 [] (fun v h' => v = some (.int (ntzL x)) ∧ h' = h0) := by
  refine Con.of (Ls := [.val (.long x), .second, .unset]) (by decide +kernel) (fun m => by first | (simp [entryFrame, mkF, argsToLocals, Value.category]; done) | (rcases ref_cases hrw with rfl | ⟨b, rfl⟩ <;> rfl) | rfl) (fun p e s m below meth c => ?_)
  show Wp false p l e ({ frames := 1, cells := 0, slots := 0, locals := 14 } : Room) s m ([.long x] : List Value).toArray below meth c Z "java/lang/Long" "numberOfTrailingZeros" jdk_35_method_49_code 3 (some .int) n0 h0 [] (fun v h _ => (fun v h' => v = some (.int (ntzL x)) ∧ h' = h0) v h) (fun _ => True) h0 0 0 0 [.val (.long x), .second, .unset] []
  refine lload_n (q1 := 1) d36_0 rfl rfl ?_
  refine l2i (q1 := 2) d36_1 rfl ?_
  refine istore_n (q1 := 3) (jj := 2) d36_2 rfl rfl rfl ?_
  simp only [List.set_cons_zero, List.set_cons_succ]
  refine iload_n (q1 := 4) d36_3 rfl rfl ?_
  refine if_ne (q1 := 7) (q := 21) d36_4 rfl ⟨by decide, rfl⟩ (fun hc => ?_) (fun hc => ?_)
  · refine iload_n (q1 := 22) d36_21 rfl rfl ?_
    refine invokestatic (q1 := 25) d36_22 rfl (ww hw 194 rfl) (ww hw 195 rfl) (ww hw 196 rfl) (ww hw 197 rfl) (by decide) pd9 (c_int hw) rfl rfl rfl rfl all0 (fun v h1 q _ => ?_)
    obtain ⟨rfl, rfl⟩ := q
    refine ret_i d36_25 rfl rfl (fun _ _ => ⟨by unfold ntzL; rw [if_neg hc], rfl⟩)
  · refine bipush (q1 := 9) (v := 32) d36_7 rfl rfl ?_
    refine lload_n (q1 := 10) d36_9 rfl rfl ?_
    refine bipush (q1 := 12) (v := 32) d36_10 rfl rfl ?_
    refine lushr (q1 := 13) d36_12 rfl ?_
    refine l2i (q1 := 14) d36_13 rfl ?_
    refine invokestatic (q1 := 17) d36_14 rfl (ww hw 194 rfl) (ww hw 195 rfl) (ww hw 196 rfl) (ww hw 197 rfl) (by decide) pd9 (c_int hw) rfl rfl rfl rfl all0 (fun v h1 q _ => ?_)
    obtain ⟨rfl, rfl⟩ := q
    refine iadd (q1 := 18) d36_17 rfl ?_
    refine goto (q := 25) d36_18 ⟨by decide, rfl⟩ ?_
    refine ret_i d36_25 rfl rfl (fun _ _ => ⟨by unfold ntzL; rw [if_pos hc], rfl⟩)
def us (x : Int64) (y : Int32) : Int64 := (x.toUInt64 >>> (y &&& 0x3f).toInt64.toUInt64).toInt64
def b1 (x : Int64) : Int64 := x - (us x 1 &&& 6148914691236517205)
def b2 (x : Int64) : Int64 := (x &&& 3689348814741910323) + (us x 2 &&& 3689348814741910323)
def b3 (x : Int64) : Int64 := (x + us x 4) &&& 1085102592571150095
def b4 (x : Int64) : Int64 := x + us x 8
def b5 (x : Int64) : Int64 := x + us x 16
def b6 (x : Int64) : Int64 := x + us x 32
def bcL (x : Int64) : Int32 := (b6 (b5 (b4 (b3 (b2 (b1 x)))))).toInt32 &&& 127
set_option maxRecDepth 65536 in
set_option maxHeartbeats 40000000 in
theorem c_bc {l : Launch} {Z : State} {a0 : Array Value} (hw : ∀ d ∈ tables_1, d.before a0 Z = true) {n0 : Nat} {h0 : Heap} {x : Int64} : Con l Z n0 (⟨"java/lang/Long", "bitCount", "(J)I"⟩ : MethodName) jdk_35_method_50_code 2 (some .int) ({ frames := 0, cells := 0, slots := 0, locals := 0 } : Room) [.long x] h0 [] (fun v h' => v = some (.int (bcL x)) ∧ h' = h0) := by
  refine Con.of (Ls := [.val (.long x), .second]) (by decide +kernel) (fun m => by first | (simp [entryFrame, mkF, argsToLocals, Value.category]; done) | (rcases ref_cases hrw with rfl | ⟨b, rfl⟩ <;> rfl) | rfl) (fun p e s m below meth c => ?_)
  show Wp false p l e ({ frames := 0, cells := 0, slots := 0, locals := 0 } : Room) s m ([.long x] : List Value).toArray below meth c Z "java/lang/Long" "bitCount" jdk_35_method_50_code 2 (some .int) n0 h0 [] (fun v h _ => (fun v h' => v = some (.int (bcL x)) ∧ h' = h0) v h) (fun _ => True) h0 0 0 0 [.val (.long x), .second] []
  refine lload_n (q1 := 1) d31_0 rfl rfl ?_
  refine lload_n (q1 := 2) d31_1 rfl rfl ?_
  refine iconst (q1 := 3) (v := 1) d31_2 rfl rfl ?_
  refine lushr (q1 := 4) d31_3 rfl ?_
  refine ldc2J (q1 := 7) d31_4 rfl (ww hw 162 rfl) ?_
  refine land (q1 := 8) d31_7 rfl ?_
  refine lsub (q1 := 9) d31_8 rfl ?_
  refine lstore_n (q1 := 10) (jj := 0) (jk := 1) d31_9 rfl rfl rfl rfl ?_
  simp only [List.set_cons_zero, List.set_cons_succ]
  refine lload_n (q1 := 11) d31_10 rfl rfl ?_
  refine ldc2J (q1 := 14) d31_11 rfl (ww hw 163 rfl) ?_
  refine land (q1 := 15) d31_14 rfl ?_
  refine lload_n (q1 := 16) d31_15 rfl rfl ?_
  refine iconst (q1 := 17) (v := 2) d31_16 rfl rfl ?_
  refine lushr (q1 := 18) d31_17 rfl ?_
  refine ldc2J (q1 := 21) d31_18 rfl (ww hw 163 rfl) ?_
  refine land (q1 := 22) d31_21 rfl ?_
  refine ladd (q1 := 23) d31_22 rfl ?_
  refine lstore_n (q1 := 24) (jj := 0) (jk := 1) d31_23 rfl rfl rfl rfl ?_
  simp only [List.set_cons_zero, List.set_cons_succ]
  refine lload_n (q1 := 25) d31_24 rfl rfl ?_
  refine lload_n (q1 := 26) d31_25 rfl rfl ?_
  refine iconst (q1 := 27) (v := 4) d31_26 rfl rfl ?_
  refine lushr (q1 := 28) d31_27 rfl ?_
  refine ladd (q1 := 29) d31_28 rfl ?_
  refine ldc2J (q1 := 32) d31_29 rfl (ww hw 164 rfl) ?_
  refine land (q1 := 33) d31_32 rfl ?_
  refine lstore_n (q1 := 34) (jj := 0) (jk := 1) d31_33 rfl rfl rfl rfl ?_
  simp only [List.set_cons_zero, List.set_cons_succ]
  refine lload_n (q1 := 35) d31_34 rfl rfl ?_
  refine lload_n (q1 := 36) d31_35 rfl rfl ?_
  refine bipush (q1 := 38) (v := 8) d31_36 rfl rfl ?_
  refine lushr (q1 := 39) d31_38 rfl ?_
  refine ladd (q1 := 40) d31_39 rfl ?_
  refine lstore_n (q1 := 41) (jj := 0) (jk := 1) d31_40 rfl rfl rfl rfl ?_
  simp only [List.set_cons_zero, List.set_cons_succ]
  refine lload_n (q1 := 42) d31_41 rfl rfl ?_
  refine lload_n (q1 := 43) d31_42 rfl rfl ?_
  refine bipush (q1 := 45) (v := 16) d31_43 rfl rfl ?_
  refine lushr (q1 := 46) d31_45 rfl ?_
  refine ladd (q1 := 47) d31_46 rfl ?_
  refine lstore_n (q1 := 48) (jj := 0) (jk := 1) d31_47 rfl rfl rfl rfl ?_
  simp only [List.set_cons_zero, List.set_cons_succ]
  refine lload_n (q1 := 49) d31_48 rfl rfl ?_
  refine lload_n (q1 := 50) d31_49 rfl rfl ?_
  refine bipush (q1 := 52) (v := 32) d31_50 rfl rfl ?_
  refine lushr (q1 := 53) d31_52 rfl ?_
  refine ladd (q1 := 54) d31_53 rfl ?_
  refine lstore_n (q1 := 55) (jj := 0) (jk := 1) d31_54 rfl rfl rfl rfl ?_
  simp only [List.set_cons_zero, List.set_cons_succ]
  refine lload_n (q1 := 56) d31_55 rfl rfl ?_
  refine l2i (q1 := 57) d31_56 rfl ?_
  refine bipush (q1 := 59) (v := 127) d31_57 rfl rfl ?_
  refine iand (q1 := 60) d31_59 rfl ?_
  refine ret_i d31_60 rfl rfl (fun _ _ => ⟨rfl, rfl⟩)
/-- the starts of runs in word w -/
def stF (g : Nat → Int64) (w : Nat) : Int64 := g w &&& (((g w <<< ((1 : Int32) &&& 0x3f).toInt64) ||| us (if w = 0 then 0 else g (w - 1)) 63) ^^^ (-1))
set_option maxRecDepth 65536 in
set_option maxHeartbeats 40000000 in
theorem c_brs {l : Launch} {Z : State} {a0 : Array Value} (hw : ∀ d ∈ tables_1, d.before a0 Z = true) {n0 : Nat} {h0 : Heap} {w : Addr} {g : Nat → Int64} {w0 : Nat} (A : Ary Z h0 w .long 1024 (fun q => .long (g q))) (hw0 : w0 < 1024) (hs : ∀ q, q < 1024 → bcL (stF g q) = if q = w0 then 1 else 0) : Con l Z n0 (⟨"cobblebit/container/BitmapContainer", "runStarts", "([JII)I"⟩ : MethodName) prog_45_method_43_code 9 (some .int) ({ frames := 1, cells := 0, slots := 0, locals := 15 } : Room) [.ref w, .int 0, .int 1024] h0 [] (fun v h' => v = some (.int 1) ∧ h' = h0) := by
  refine Con.of (Ls := [.val (.ref w), .val (.int 0), .val (.int 1024), .unset, .unset, .unset, .unset, .unset, .unset]) (by decide +kernel) (fun m => by first | (simp [entryFrame, mkF, argsToLocals, Value.category]; done) | (rcases ref_cases hrw with rfl | ⟨b, rfl⟩ <;> rfl) | rfl) (fun p e s m below meth c => ?_)
  show Wp false p l e ({ frames := 1, cells := 0, slots := 0, locals := 15 } : Room) s m ([.ref w, .int 0, .int 1024] : List Value).toArray below meth c Z "cobblebit/container/BitmapContainer" "runStarts" prog_45_method_43_code 9 (some .int) n0 h0 [] (fun v h _ => (fun v h' => v = some (.int 1) ∧ h' = h0) v h) (fun _ => True) h0 0 0 0 [.val (.ref w), .val (.int 0), .val (.int 1024), .unset, .unset, .unset, .unset, .unset, .unset] []
  have e4 : (1024 : Int32).toInt = 1024 := rfl
  have loop : ∀ (r i : Nat) (j x : Int32) (o1 : Slot) (o2 : Slot), i + r = 1024 → j.toInt = (i : Int) → x = (if w0 < i then 1 else 0) → twoAt [.val (.ref w), .val (.int 0), .val (.int 1024), .val (.int x), .val (.long (if i = 0 then 0 else g (i - 1))), .second, .val (.int j), o1, o2] 7 = true → Wp false p l e ({ frames := 1, cells := 0, slots := 0, locals := 15 } : Room) s m ([.ref w, .int 0, .int 1024] : List Value).toArray below meth c Z "cobblebit/container/BitmapContainer" "runStarts" prog_45_method_43_code 9 (some .int) n0 h0 [] (fun v h _ => (fun v h' => v = some (.int 1) ∧ h' = h0) v h) (fun _ => True) h0 0 0 20 [.val (.ref w), .val (.int 0), .val (.int 1024), .val (.int x), .val (.long (if i = 0 then 0 else g (i - 1))), .second, .val (.int j), o1, o2] [] := by
    intro r
    induction r with
    | zero =>
      intro i j x o1 o2 hi hj hx ho
      refine iload (q1 := 22) d30_20 rfl rfl ?_
      refine iload_n (q1 := 23) d30_22 rfl rfl ?_
      refine icmp_ge (q1 := 26) (q := 65) d30_23 rfl ⟨by decide, rfl⟩ (fun _ => ?_) (fun hc => absurd hc (by rw [own_lt, hj, e4]; omega))
      refine iload_n (q1 := 66) d30_65 rfl rfl ?_
      refine ret_i d30_66 rfl rfl (fun _ _ => ⟨by rw [hx, if_pos (by omega)], rfl⟩)
    | succ r ih =>
      intro i j x o1 o2 hi hj hx ho
      refine iload (q1 := 22) d30_20 rfl rfl ?_
      refine iload_n (q1 := 23) d30_22 rfl rfl ?_
      refine icmp_ge (q1 := 26) (q := 65) d30_23 rfl ⟨by decide, rfl⟩ (fun hc => absurd (show j < 1024 by rw [own_lt, hj, e4]; omega) hc) (fun _ => ?_)
      refine aload_n (q1 := 27) d30_26 rfl rfl rfl ?_
      refine iload (q1 := 29) d30_27 rfl rfl ?_
      refine laload (q1 := 30) d30_29 rfl (A) hj (show i < 1024 by omega) rfl ?_
      refine lstore (q1 := 32) (jk := 8) d30_30 rfl rfl ho ?_
      simp only [List.set_cons_zero, List.set_cons_succ]
      refine iload_n (q1 := 33) d30_32 rfl rfl ?_
      refine lload (q1 := 35) d30_33 rfl rfl ?_
      refine lload (q1 := 37) d30_35 rfl rfl ?_
      refine iconst (q1 := 38) (v := 1) d30_37 rfl rfl ?_
      refine lshl (q1 := 39) d30_38 rfl ?_
      refine lload (q1 := 41) d30_39 rfl rfl ?_
      refine bipush (q1 := 43) (v := 63) d30_41 rfl rfl ?_
      refine lushr (q1 := 44) d30_43 rfl ?_
      refine lor (q1 := 45) d30_44 rfl ?_
      refine ldc2J (q1 := 48) d30_45 rfl (ww hw 157 rfl) ?_
      refine lxor (q1 := 49) d30_48 rfl ?_
      refine land (q1 := 50) d30_49 rfl ?_
      refine invokestatic (q1 := 53) d30_50 rfl (ww hw 158 rfl) (ww hw 159 rfl) (ww hw 160 rfl) (ww hw 161 rfl) (by decide) pd19 (c_bc hw) rfl rfl rfl rfl all0 (fun v h1 q _ => ?_)
      obtain ⟨rfl, rfl⟩ := q
      refine iadd (q1 := 54) d30_53 rfl ?_
      refine istore_n (q1 := 55) (jj := 3) d30_54 rfl rfl rfl ?_
      simp only [List.set_cons_zero, List.set_cons_succ]
      refine lload (q1 := 57) d30_55 rfl rfl ?_
      refine lstore (q1 := 59) (jk := 5) d30_57 rfl rfl rfl ?_
      simp only [List.set_cons_zero, List.set_cons_succ]
      refine iinc (q1 := 62) (v := 1) d30_59 rfl rfl rfl ?_
      simp only [List.set_cons_zero, List.set_cons_succ]
      refine goto (q := 20) d30_62 ⟨by decide, rfl⟩ ?_
      have hb := hs i (by omega)
      have hx2 : x + bcL (stF g i) = (if w0 < i + 1 then 1 else 0) := by
        rw [hx, hb]
        by_cases e1 : w0 < i
        · rw [if_pos e1, if_neg (by omega), if_pos (by omega)]; rfl
        · by_cases e2 : i = w0
          · rw [if_neg e1, if_pos e2, if_pos (by omega)]; rfl
          · rw [if_neg e1, if_neg e2, if_neg (by omega)]; rfl
      have hy := ih (i + 1) (j + 1) _ (.val (.long (g i))) .second (by omega) (own_succ hj (by omega)) hx2 rfl
      exact hy
  refine iconst (q1 := 1) (v := 0) d30_0 rfl rfl ?_
  refine istore_n (q1 := 2) (jj := 3) d30_1 rfl rfl rfl ?_
  simp only [List.set_cons_zero, List.set_cons_succ]
  refine iload_n (q1 := 3) d30_2 rfl rfl ?_
  refine if_le (q1 := 6) (q := 14) d30_3 rfl ⟨by decide, rfl⟩ (fun _ => ?_) (fun hq => absurd hq (by decide))
  refine lconst (q1 := 15) (v := 0) d30_14 rfl rfl ?_
  refine lstore (q1 := 17) (jk := 5) d30_15 rfl rfl rfl ?_
  simp only [List.set_cons_zero, List.set_cons_succ]
  refine iload_n (q1 := 18) d30_17 rfl rfl ?_
  refine istore (q1 := 20) d30_18 rfl rfl ?_
  simp only [List.set_cons_zero, List.set_cons_succ]
  exact loop 1024 0 0 0 .unset .unset (by omega) rfl (by rw [if_neg (by omega)]) rfl
set_option maxRecDepth 65536 in
set_option maxHeartbeats 40000000 in
theorem c_brc {l : Launch} {Z : State} {a0 : Array Value} (hw : ∀ d ∈ tables_1, d.before a0 Z = true) {n0 : Nat} {h0 : Heap} {w : Addr} {g : Nat → Int64} {w0 : Nat} (A : Ary Z h0 w .long 1024 (fun q => .long (g q))) (hw0 : w0 < 1024) (hs : ∀ q, q < 1024 → bcL (stF g q) = if q = w0 then 1 else 0) : Con l Z n0 (⟨"cobblebit/container/BitmapContainer", "runCount", "([J)I"⟩ : MethodName) prog_45_method_41_code 1 (some .int) ({ frames := 2, cells := 0, slots := 0, locals := 35 } : Room) [.ref w] h0 [] (fun v h' => v = some (.int 1) ∧ h' = h0) := by
  refine Con.of (Ls := [.val (.ref w)]) (by decide +kernel) (fun m => by first | (simp [entryFrame, mkF, argsToLocals, Value.category]; done) | (rcases ref_cases hrw with rfl | ⟨b, rfl⟩ <;> rfl) | rfl) (fun p e s m below meth c => ?_)
  show Wp false p l e ({ frames := 2, cells := 0, slots := 0, locals := 35 } : Room) s m ([.ref w] : List Value).toArray below meth c Z "cobblebit/container/BitmapContainer" "runCount" prog_45_method_41_code 1 (some .int) n0 h0 [] (fun v h _ => (fun v h' => v = some (.int 1) ∧ h' = h0) v h) (fun _ => True) h0 0 0 0 [.val (.ref w)] []
  refine aload_n (q1 := 1) d29_0 rfl rfl rfl ?_
  refine iconst (q1 := 2) (v := 0) d29_1 rfl rfl ?_
  refine sipush (q1 := 5) (v := 1024) d29_2 rfl rfl ?_
  refine invokestatic (q1 := 8) d29_5 rfl (ww hw 154 rfl) (ww hw 155 rfl) (ww hw 152 rfl) (ww hw 156 rfl) (by decide) pd18 (c_brs hw A hw0 hs) rfl rfl rfl rfl all0 (fun v h1 q _ => ?_)
  obtain ⟨rfl, rfl⟩ := q
  refine ret_i d29_8 rfl rfl (fun _ _ => ⟨rfl, rfl⟩)
def Bw (Z : State) (h : Heap) (r w : Addr) (x : Int64) (i s1 e1 : Int32) : Prop := Exa Z h r "cobblebit/container/BitmapContainer$1" ∧ Fld Z h r "cobblebit/container/BitmapContainer$1" "val$words" "[J" (.ref w) ∧ Fld Z h r "cobblebit/container/BitmapContainer$1" "word" "J" (.long x) ∧ Fld Z h r "cobblebit/container/BitmapContainer$1" "index" "I" (.int i) ∧ Fld Z h r "cobblebit/container/RunWalk" "start" "I" (.int s1) ∧ Fld Z h r "cobblebit/container/RunWalk" "end" "I" (.int e1)
set_option maxRecDepth 65536 in
set_option maxHeartbeats 40000000 in
theorem c_rwi {l : Launch} {Z : State} {a0 : Array Value} (hw : ∀ d ∈ tables_1, d.before a0 Z = true) {n0 : Nat} {h0 : Heap} {a : Addr} : Con l Z n0 (⟨"cobblebit/container/RunWalk", "<init>", "()V"⟩ : MethodName) prog_83_method_1_code 1 none ({ frames := 1, cells := 0, slots := 0, locals := 12 } : Room) [.ref a] h0 [] (fun v h' => v = none ∧ h' = h0) := by
  refine Con.of (Ls := [.val (.ref a)]) (by decide +kernel) (fun m => by first | (simp [entryFrame, mkF, argsToLocals, Value.category]; done) | (rcases ref_cases hrw with rfl | ⟨b, rfl⟩ <;> rfl) | rfl) (fun p e s m below meth c => ?_)
  show Wp false p l e ({ frames := 1, cells := 0, slots := 0, locals := 12 } : Room) s m ([.ref a] : List Value).toArray below meth c Z "cobblebit/container/RunWalk" "<init>" prog_83_method_1_code 1 none n0 h0 [] (fun v h _ => (fun v h' => v = none ∧ h' = h0) v h) (fun _ => True) h0 0 0 0 [.val (.ref a)] []
  refine aload_n (q1 := 1) d34_0 rfl rfl rfl ?_
  refine initObj (q1 := 4) d34_1 rfl (ww hw 181 rfl) (ww hw 14 rfl) (ww hw 15 rfl) rfl rfl ?_
  refine ret_v d34_4 rfl rfl (fun _ _ => ⟨rfl, rfl⟩)
set_option maxRecDepth 65536 in
set_option maxHeartbeats 40000000 in
theorem c_b1i {l : Launch} {Z : State} {a0 : Array Value} (hw : ∀ d ∈ tables_1, d.before a0 Z = true) {n0 : Nat} {h0 : Heap} {r w : Addr} {u1 u2 : Value} {i s1 e1 : Int32} {g : Nat → Int64} (X : Exa Z h0 r "cobblebit/container/BitmapContainer$1") (F1 : Fld Z h0 r "cobblebit/container/BitmapContainer$1" "val$words" "[J" u1) (F2 : Fld Z h0 r "cobblebit/container/BitmapContainer$1" "word" "J" u2) (F3 : Fld Z h0 r "cobblebit/container/BitmapContainer$1" "index" "I" (.int i)) (F4 : Fld Z h0 r "cobblebit/container/RunWalk" "start" "I" (.int s1)) (F5 : Fld Z h0 r "cobblebit/container/RunWalk" "end" "I" (.int e1)) (A : Ary Z h0 w .long 1024 (fun q => .long (g q))) (hne : w ≠ r) : Con l Z n0 (⟨"cobblebit/container/BitmapContainer$1", "<init>", "([J)V"⟩ : MethodName) prog_46_method_1_code 2 none ({ frames := 2, cells := 0, slots := 0, locals := 25 } : Room) [.ref r, .ref w] h0 [r] (fun v h' => v = none ∧ ∃ x, Bw Z h' r w x i s1 e1) := by
  refine Con.of (Ls := [.val (.ref r), .val (.ref w)]) (by decide +kernel) (fun m => by first | (simp [entryFrame, mkF, argsToLocals, Value.category]; done) | (rcases ref_cases hrw with rfl | ⟨b, rfl⟩ <;> rfl) | rfl) (fun p e s m below meth c => ?_)
  show Wp false p l e ({ frames := 2, cells := 0, slots := 0, locals := 25 } : Room) s m ([.ref r, .ref w] : List Value).toArray below meth c Z "cobblebit/container/BitmapContainer$1" "<init>" prog_46_method_1_code 2 none n0 h0 [r] (fun v h _ => (fun v h' => v = none ∧ ∃ x, Bw Z h' r w x i s1 e1) v h) (fun _ => True) h0 0 0 0 [.val (.ref r), .val (.ref w)] []
  refine aload_n (q1 := 1) d33_0 rfl rfl rfl ?_
  refine aload_n (q1 := 2) d33_1 rfl rfl rfl ?_
  refine putfield (q1 := 5) d33_2 rfl (ww hw 174 rfl) Via.refl (F1) (X) (Or.inr ⟨(ww hw 175 rfl), rfl, rfl⟩) (ww hw 169 rfl) (ty := (.array .long)) (by decide) rfl rfl (Or.inl own_in1) (fun h2 W2 => ?_)
  refine aload_n (q1 := 6) d33_5 rfl rfl rfl ?_
  refine invokespecial (q1 := 9) d33_6 rfl rfl (ww hw 176 rfl) (ww hw 177 rfl) (ww hw 179 rfl) (ww hw 180 rfl) (by decide) pd0 (c_rwi hw) rfl rfl rfl rfl all0 (fun v h1 q _ => ?_)
  obtain ⟨rfl, rfl⟩ := q
  refine aload_n (q1 := 10) d33_9 rfl rfl rfl ?_
  refine aload_n (q1 := 11) d33_10 rfl rfl rfl ?_
  refine getfield (q1 := 14) d33_11 rfl (ww hw 174 rfl) Via.refl (F1.same W2) ?_
  refine iconst (q1 := 15) (v := 0) d33_14 rfl rfl ?_
  refine laload (q1 := 16) (i := 0) d33_15 rfl (A.other W2 hne) rfl (by decide) rfl ?_
  refine putfield (q1 := 19) d33_16 rfl (ww hw 182 rfl) Via.refl (F2.other W2 (Or.inr (slot_ne (Or.inl (ww hw 183 rfl)) (Or.inr (ww hw 175 rfl)) (by decide) (t := .long) (t' := (.array .long)) (by decide) (by decide)))) (X.wr W2) (Or.inl (ww hw 183 rfl)) (ww hw 169 rfl) (ty := .long) (by decide) rfl rfl (Or.inl own_in1) (fun h16 W16 => ?_)
  refine ret_v d33_19 rfl rfl (fun _ _ => ⟨rfl, _, (X.wr W2).wr W16, (F1.same W2).other W16 (Or.inr (slot_ne (Or.inr (ww hw 175 rfl)) (Or.inl (ww hw 183 rfl)) (by decide) (t := (.array .long)) (t' := .long) (by decide) (by decide))), (F2.other W2 (Or.inr (slot_ne (Or.inl (ww hw 183 rfl)) (Or.inr (ww hw 175 rfl)) (by decide) (t := .long) (t' := (.array .long)) (by decide) (by decide)))).same W16, (F3.other W2 (Or.inr (slot_ne (Or.inl (ww hw 190 rfl)) (Or.inr (ww hw 175 rfl)) (by decide) (t := .int) (t' := (.array .long)) (by decide) (by decide)))).other W16 (Or.inr (slot_ne (Or.inl (ww hw 190 rfl)) (Or.inl (ww hw 183 rfl)) (by decide) (t := .int) (t' := .long) (by decide) (by decide))), (F4.other W2 (Or.inr (slot_ne (Or.inl (ww hw 207 rfl)) (Or.inr (ww hw 175 rfl)) (by decide) (t := .int) (t' := (.array .long)) (by decide) (by decide)))).other W16 (Or.inr (slot_ne (Or.inl (ww hw 207 rfl)) (Or.inl (ww hw 183 rfl)) (by decide) (t := .int) (t' := .long) (by decide) (by decide))), (F5.other W2 (Or.inr (slot_ne (Or.inl (ww hw 209 rfl)) (Or.inr (ww hw 175 rfl)) (by decide) (t := .int) (t' := (.array .long)) (by decide) (by decide)))).other W16 (Or.inr (slot_ne (Or.inl (ww hw 209 rfl)) (Or.inl (ww hw 183 rfl)) (by decide) (t := .int) (t' := .long) (by decide) (by decide)))⟩)
set_option maxRecDepth 65536 in
set_option maxHeartbeats 40000000 in
theorem c_ruo {l : Launch} {Z : State} {a0 : Array Value} (hw : ∀ d ∈ tables_1, d.before a0 Z = true) {n0 : Nat} {h0 : Heap} {w : Addr} {g : Nat → Int64} (A : Ary Z h0 w .long 1024 (fun q => .long (g q))) : Con l Z n0 (⟨"cobblebit/container/BitmapContainer", "runsOf", "([J)Lcobblebit/container/RunWalk;"⟩ : MethodName) prog_45_method_42_code 1 (some (.object "cobblebit/container/RunWalk")) ({ frames := 3, cells := 1, slots := 5, locals := 40 } : Room) [.ref w] h0 [] (fun v h' => v = some (.ref h0.size) ∧ ∃ x, Bw Z h' h0.size w x 0 0 0) := by
  refine Con.of (Ls := [.val (.ref w)]) (by decide +kernel) (fun m => by first | (simp [entryFrame, mkF, argsToLocals, Value.category]; done) | (rcases ref_cases hrw with rfl | ⟨b, rfl⟩ <;> rfl) | rfl) (fun p e s m below meth c => ?_)
  show Wp false p l e ({ frames := 3, cells := 1, slots := 5, locals := 40 } : Room) s m ([.ref w] : List Value).toArray below meth c Z "cobblebit/container/BitmapContainer" "runsOf" prog_45_method_42_code 1 (some (.object "cobblebit/container/RunWalk")) n0 h0 [] (fun v h _ => (fun v h' => v = some (.ref h0.size) ∧ ∃ x, Bw Z h' h0.size w x 0 0 0) v h) (fun _ => True) h0 0 0 0 [.val (.ref w)] []
  refine new (q1 := 3) d32_0 rfl (ww hw 168 rfl) (ww hw 169 rfl) (ww hw 170 rfl) (by decide) (by decide) (fun S0 h0 E0 X0 D0 U0 => ?_)
  refine Jvm.OwnWp.dup (q1 := 4) d32_3 rfl rfl ?_
  refine aload_n (q1 := 5) d32_4 rfl rfl rfl ?_
  refine invokespecial (q1 := 8) d32_5 rfl rfl (ww hw 171 rfl) (ww hw 172 rfl) (ww hw 170 rfl) (ww hw 173 rfl) (by decide) pd14 (c_b1i hw X0 (D0 (Or.inr (ww hw 175 rfl)) (ty := .array .long) (by decide)) (D0 (Or.inl (ww hw 183 rfl)) (ty := .long) (by decide)) (D0 (Or.inl (ww hw 190 rfl)) (ty := .int) (by decide)) (D0 (Or.inl (ww hw 207 rfl)) (ty := .int) (by decide)) (D0 (Or.inl (ww hw 209 rfl)) (ty := .int) (by decide)) (A.ext E0) (Nat.ne_of_lt A.lt)) rfl rfl rfl rfl (allS (Or.inr S0) all0) (fun v h1 q _ => ?_)
  obtain ⟨rfl, x, B⟩ := q
  refine ret_a d32_8 rfl rfl rfl rfl (fun _ _ => ⟨rfl, x, B⟩)
set_option maxRecDepth 65536 in
set_option maxHeartbeats 40000000 in
theorem c_fnd {l : Launch} {Z : State} {a0 : Array Value} (hw : ∀ d ∈ tables_1, d.before a0 Z = true) {n0 : Nat} {h0 : Heap} {r w : Addr} {x : Int64} {i s1 e1 i1 i2 : Int32} (B : Bw Z h0 r w x i s1 e1) : Con l Z n0 (⟨"cobblebit/container/RunWalk", "found", "(II)Z"⟩ : MethodName) prog_83_method_5_code 3 (some .boolean) ({ frames := 0, cells := 0, slots := 0, locals := 0 } : Room) [.ref r, .int i1, .int i2] h0 [r] (fun v h' => v = some (.int 1) ∧ Bw Z h' r w x i i1 i2) := by
  refine Con.of (Ls := [.val (.ref r), .val (.int i1), .val (.int i2)]) (by decide +kernel) (fun m => by first | (simp [entryFrame, mkF, argsToLocals, Value.category]; done) | (rcases ref_cases hrw with rfl | ⟨b, rfl⟩ <;> rfl) | rfl) (fun p e s m below meth c => ?_)
  show Wp false p l e ({ frames := 0, cells := 0, slots := 0, locals := 0 } : Room) s m ([.ref r, .int i1, .int i2] : List Value).toArray below meth c Z "cobblebit/container/RunWalk" "found" prog_83_method_5_code 3 (some .boolean) n0 h0 [r] (fun v h _ => (fun v h' => v = some (.int 1) ∧ Bw Z h' r w x i i1 i2) v h) (fun _ => True) h0 0 0 0 [.val (.ref r), .val (.int i1), .val (.int i2)] []
  refine aload_n (q1 := 1) d38_0 rfl rfl rfl ?_
  refine iload_n (q1 := 2) d38_1 rfl rfl ?_
  refine putfield (q1 := 5) d38_2 rfl (ww hw 206 rfl) Via.refl (B.2.2.2.2.1) (B.1) (Or.inl (ww hw 207 rfl)) (ww hw 169 rfl) (ty := .int) (by decide) rfl rfl (Or.inl own_in1) (fun h2 W2 => ?_)
  refine aload_n (q1 := 6) d38_5 rfl rfl rfl ?_
  refine iload_n (q1 := 7) d38_6 rfl rfl ?_
  refine putfield (q1 := 10) d38_7 rfl (ww hw 208 rfl) Via.refl (B.2.2.2.2.2.other W2 (Or.inr (slot_ne (Or.inl (ww hw 209 rfl)) (Or.inl (ww hw 207 rfl)) (by decide) (t := .int) (t' := .int) (by decide) (by decide)))) (B.1.wr W2) (Or.inl (ww hw 209 rfl)) (ww hw 169 rfl) (ty := .int) (by decide) rfl rfl (Or.inl own_in1) (fun h7 W7 => ?_)
  refine iconst (q1 := 11) (v := 1) d38_10 rfl rfl ?_
  refine ret_n (t := .boolean) d38_11 rfl (by simp) rfl (fun _ _ => ⟨rfl, (B.1.wr W2).wr W7, (B.2.1.other W2 (Or.inr (slot_ne (Or.inr (ww hw 175 rfl)) (Or.inl (ww hw 207 rfl)) (by decide) (t := (.array .long)) (t' := .int) (by decide) (by decide)))).other W7 (Or.inr (slot_ne (Or.inr (ww hw 175 rfl)) (Or.inl (ww hw 209 rfl)) (by decide) (t := (.array .long)) (t' := .int) (by decide) (by decide))), (B.2.2.1.other W2 (Or.inr (slot_ne (Or.inl (ww hw 183 rfl)) (Or.inl (ww hw 207 rfl)) (by decide) (t := .long) (t' := .int) (by decide) (by decide)))).other W7 (Or.inr (slot_ne (Or.inl (ww hw 183 rfl)) (Or.inl (ww hw 209 rfl)) (by decide) (t := .long) (t' := .int) (by decide) (by decide))), (B.2.2.2.1.other W2 (Or.inr (slot_ne (Or.inl (ww hw 190 rfl)) (Or.inl (ww hw 207 rfl)) (by decide) (t := .int) (t' := .int) (by decide) (by decide)))).other W7 (Or.inr (slot_ne (Or.inl (ww hw 190 rfl)) (Or.inl (ww hw 209 rfl)) (by decide) (t := .int) (t' := .int) (by decide) (by decide))), (B.2.2.2.2.1.same W2).other W7 (Or.inr (slot_ne (Or.inl (ww hw 207 rfl)) (Or.inl (ww hw 209 rfl)) (by decide) (t := .int) (t' := .int) (by decide) (by decide))), (B.2.2.2.2.2.other W2 (Or.inr (slot_ne (Or.inl (ww hw 209 rfl)) (Or.inl (ww hw 207 rfl)) (by decide) (t := .int) (t' := .int) (by decide) (by decide)))).same W7⟩)
set_option maxRecDepth 65536 in
set_option maxHeartbeats 40000000 in
theorem c_rws {l : Launch} {Z : State} {a0 : Array Value} (hw : ∀ d ∈ tables_1, d.before a0 Z = true) {n0 : Nat} {h0 : Heap} {r w : Addr} {x : Int64} {i s1 e1 : Int32} (B : Bw Z h0 r w x i s1 e1) : Con l Z n0 (⟨"cobblebit/container/RunWalk", "start", "()I"⟩ : MethodName) prog_83_method_3_code 1 (some .int) ({ frames := 0, cells := 0, slots := 0, locals := 0 } : Room) [.ref r] h0 [] (fun v h' => v = some (.int s1) ∧ h' = h0) := by
  refine Con.of (Ls := [.val (.ref r)]) (by decide +kernel) (fun m => by first | (simp [entryFrame, mkF, argsToLocals, Value.category]; done) | (rcases ref_cases hrw with rfl | ⟨b, rfl⟩ <;> rfl) | rfl) (fun p e s m below meth c => ?_)
  show Wp false p l e ({ frames := 0, cells := 0, slots := 0, locals := 0 } : Room) s m ([.ref r] : List Value).toArray below meth c Z "cobblebit/container/RunWalk" "start" prog_83_method_3_code 1 (some .int) n0 h0 [] (fun v h _ => (fun v h' => v = some (.int s1) ∧ h' = h0) v h) (fun _ => True) h0 0 0 0 [.val (.ref r)] []
  refine aload_n (q1 := 1) d39_0 rfl rfl rfl ?_
  refine getfield (q1 := 4) d39_1 rfl (ww hw 206 rfl) Via.refl (B.2.2.2.2.1) ?_
  refine ret_i d39_4 rfl rfl (fun _ _ => ⟨rfl, rfl⟩)
set_option maxRecDepth 65536 in
set_option maxHeartbeats 40000000 in
theorem c_rwe {l : Launch} {Z : State} {a0 : Array Value} (hw : ∀ d ∈ tables_1, d.before a0 Z = true) {n0 : Nat} {h0 : Heap} {r w : Addr} {x : Int64} {i s1 e1 : Int32} (B : Bw Z h0 r w x i s1 e1) : Con l Z n0 (⟨"cobblebit/container/RunWalk", "end", "()I"⟩ : MethodName) prog_83_method_4_code 1 (some .int) ({ frames := 0, cells := 0, slots := 0, locals := 0 } : Room) [.ref r] h0 [] (fun v h' => v = some (.int e1) ∧ h' = h0) := by
  refine Con.of (Ls := [.val (.ref r)]) (by decide +kernel) (fun m => by first | (simp [entryFrame, mkF, argsToLocals, Value.category]; done) | (rcases ref_cases hrw with rfl | ⟨b, rfl⟩ <;> rfl) | rfl) (fun p e s m below meth c => ?_)
  show Wp false p l e ({ frames := 0, cells := 0, slots := 0, locals := 0 } : Room) s m ([.ref r] : List Value).toArray below meth c Z "cobblebit/container/RunWalk" "end" prog_83_method_4_code 1 (some .int) n0 h0 [] (fun v h _ => (fun v h' => v = some (.int e1) ∧ h' = h0) v h) (fun _ => True) h0 0 0 0 [.val (.ref r)] []
  refine aload_n (q1 := 1) d40_0 rfl rfl rfl ?_
  refine getfield (q1 := 4) d40_1 rfl (ww hw 208 rfl) Via.refl (B.2.2.2.2.2) ?_
  refine ret_i d40_4 rfl rfl (fun _ _ => ⟨rfl, rfl⟩)
set_option maxRecDepth 65536 in
set_option maxHeartbeats 40000000 in
theorem c_rci {l : Launch} {Z : State} {a0 : Array Value} (hw : ∀ d ∈ tables_1, d.before a0 Z = true) {n0 : Nat} {h0 : Heap} {a t : Addr} {i j : Int32} {u1 u2 u3 : Value} (X : Exa Z h0 a "cobblebit/container/RunContainer") (F1 : Fld Z h0 a "cobblebit/container/RunContainer" "runs" "[C" u1) (F2 : Fld Z h0 a "cobblebit/container/RunContainer" "runCount" "I" u2) (F3 : Fld Z h0 a "cobblebit/container/RunContainer" "cardinality" "I" u3) : Con l Z n0 (⟨"cobblebit/container/RunContainer", "<init>", "([CII)V"⟩ : MethodName) prog_81_method_1_code 4 none ({ frames := 2, cells := 0, slots := 0, locals := 24 } : Room) [.ref a, .ref t, .int i, .int j] h0 [a] (fun v h' => v = none) := by
  refine Con.of (Ls := [.val (.ref a), .val (.ref t), .val (.int i), .val (.int j)]) (by decide +kernel) (fun m => by first | (simp [entryFrame, mkF, argsToLocals, Value.category]; done) | (rcases ref_cases hrw with rfl | ⟨b, rfl⟩ <;> rfl) | rfl) (fun p e s m below meth c => ?_)
  show Wp false p l e ({ frames := 2, cells := 0, slots := 0, locals := 24 } : Room) s m ([.ref a, .ref t, .int i, .int j] : List Value).toArray below meth c Z "cobblebit/container/RunContainer" "<init>" prog_81_method_1_code 4 none n0 h0 [a] (fun v h _ => (fun v h' => v = none) v h) (fun _ => True) h0 0 0 0 [.val (.ref a), .val (.ref t), .val (.int i), .val (.int j)] []
  refine aload_n (q1 := 1) d41_0 rfl rfl rfl ?_
  refine invokespecial (q1 := 4) d41_1 rfl rfl (ww hw 225 rfl) (ww hw 9 rfl) (ww hw 11 rfl) (ww hw 12 rfl) (by decide) pd0 (c_cti hw) rfl rfl rfl rfl all0 (fun v h1 q _ => ?_)
  obtain ⟨rfl, rfl⟩ := q
  refine aload_n (q1 := 5) d41_4 rfl rfl rfl ?_
  refine aload_n (q1 := 6) d41_5 rfl rfl rfl ?_
  refine putfield (q1 := 9) d41_6 rfl (ww hw 226 rfl) Via.refl (F1) (X) (Or.inl (ww hw 227 rfl)) (ww hw 221 rfl) (ty := (.array .char)) (by decide) rfl rfl (Or.inl own_in1) (fun h6 W6 => ?_)
  refine aload_n (q1 := 10) d41_9 rfl rfl rfl ?_
  refine iload_n (q1 := 11) d41_10 rfl rfl ?_
  refine putfield (q1 := 14) d41_11 rfl (ww hw 228 rfl) Via.refl (F2.other W6 (Or.inr (slot_ne (Or.inl (ww hw 229 rfl)) (Or.inl (ww hw 227 rfl)) (by decide) (t := .int) (t' := (.array .char)) (by decide) (by decide)))) (X.wr W6) (Or.inl (ww hw 229 rfl)) (ww hw 221 rfl) (ty := .int) (by decide) rfl rfl (Or.inl own_in1) (fun h11 W11 => ?_)
  refine aload_n (q1 := 15) d41_14 rfl rfl rfl ?_
  refine iload_n (q1 := 16) d41_15 rfl rfl ?_
  refine putfield (q1 := 19) d41_16 rfl (ww hw 230 rfl) Via.refl ((F3.other W6 (Or.inr (slot_ne (Or.inl (ww hw 231 rfl)) (Or.inl (ww hw 227 rfl)) (by decide) (t := .int) (t' := (.array .char)) (by decide) (by decide)))).other W11 (Or.inr (slot_ne (Or.inl (ww hw 231 rfl)) (Or.inl (ww hw 229 rfl)) (by decide) (t := .int) (t' := .int) (by decide) (by decide)))) ((X.wr W6).wr W11) (Or.inl (ww hw 231 rfl)) (ww hw 221 rfl) (ty := .int) (by decide) rfl rfl (Or.inl own_in1) (fun h16 W16 => ?_)
  refine ret_v d41_19 rfl rfl (fun _ _ => rfl)
set_option maxRecDepth 65536 in
set_option maxHeartbeats 40000000 in
theorem c_nxt {l : Launch} {Z : State} {a0 : Array Value} (hw : ∀ d ∈ tables_1, d.before a0 Z = true) {n0 : Nat} {h0 : Heap} {r w : Addr} {x0 : Int64} {i0 s0 e0 : Int32} {g : Nat → Int64} {k0 : Nat} (R0 : Bw Z h0 r w x0 i0 s0 e0) (A0 : Ary Z h0 w .long 1024 (fun q => .long (g q))) (hne : w ≠ r) (hi0 : i0.toInt = (k0 : Int)) (hk0 : k0 ≤ 1023) : Con l Z n0 (⟨"cobblebit/container/BitmapContainer$1", "next", "()Z"⟩ : MethodName) prog_46_method_2_code 3 (some .boolean) ({ frames := 2, cells := 0, slots := 0, locals := 30 } : Room) [.ref r] h0 [r] (fun v h' => ∃ b : Int32, v = some (.int b) ∧ ∃ x i s1 e1, Bw Z h' r w x i s1 e1) := by
  refine Con.of (Ls := [.val (.ref r), .unset, .unset]) (by decide +kernel) (fun m => by first | (simp [entryFrame, mkF, argsToLocals, Value.category]; done) | (rcases ref_cases hrw with rfl | ⟨b, rfl⟩ <;> rfl) | rfl) (fun p e s m below meth c => ?_)
  show Wp false p l e ({ frames := 2, cells := 0, slots := 0, locals := 30 } : Room) s m ([.ref r] : List Value).toArray below meth c Z "cobblebit/container/BitmapContainer$1" "next" prog_46_method_2_code 3 (some .boolean) n0 h0 [r] (fun v h _ => (fun v h' => ∃ b : Int32, v = some (.int b) ∧ ∃ x i s1 e1, Bw Z h' r w x i s1 e1) v h) (fun _ => True) h0 0 0 0 [.val (.ref r), .unset, .unset] []
  have e3 : (1023 : Int32).toInt = 1023 := rfl
  have fin : ∀ (h : Heap) (x : Int64) (i s1 e1 z : Int32), Bw Z h r w x i s1 e1 → Wp false p l e ({ frames := 2, cells := 0, slots := 0, locals := 30 } : Room) s m ([.ref r] : List Value).toArray below meth c Z "cobblebit/container/BitmapContainer$1" "next" prog_46_method_2_code 3 (some .boolean) n0 h0 [r] (fun v h _ => (fun v h' => ∃ b : Int32, v = some (.int b) ∧ ∃ x i s1 e1, Bw Z h' r w x i s1 e1) v h) (fun _ => True) h 0 0 119 [.val (.ref r), .val (.int z), .unset] [] := by
    intro h x i s1 e1 z R
    have las : ∀ z2 : Int32, Wp false p l e ({ frames := 2, cells := 0, slots := 0, locals := 30 } : Room) s m ([.ref r] : List Value).toArray below meth c Z "cobblebit/container/BitmapContainer$1" "next" prog_46_method_2_code 3 (some .boolean) n0 h0 [r] (fun v h _ => (fun v h' => ∃ b : Int32, v = some (.int b) ∧ ∃ x i s1 e1, Bw Z h' r w x i s1 e1) v h) (fun _ => True) h 0 0 154 [.val (.ref r), .val (.int z), .unset] [.int z2] := by
      intro z2
      refine istore_n (q1 := 155) (jj := 2) d35_154 rfl rfl rfl ?_
      simp only [List.set_cons_zero, List.set_cons_succ]
      refine aload_n (q1 := 156) d35_155 rfl rfl rfl ?_
      refine Jvm.OwnWp.dup (q1 := 157) d35_156 rfl rfl ?_
      refine getfield (q1 := 160) d35_157 rfl (ww hw 182 rfl) Via.refl (R.2.2.1) ?_
      refine aload_n (q1 := 161) d35_160 rfl rfl rfl ?_
      refine getfield (q1 := 164) d35_161 rfl (ww hw 182 rfl) Via.refl (R.2.2.1) ?_
      refine lconst (q1 := 165) (v := 1) d35_164 rfl rfl ?_
      refine ladd (q1 := 166) d35_165 rfl ?_
      refine land (q1 := 167) d35_166 rfl ?_
      refine putfield (q1 := 170) d35_167 rfl (ww hw 182 rfl) Via.refl (R.2.2.1) (R.1) (Or.inl (ww hw 183 rfl)) (ww hw 169 rfl) (ty := .long) (by decide) rfl rfl (Or.inl own_in1) (fun h167 W167 => ?_)
      have R2 : Bw Z h167 r w (x &&& (x + 1)) i s1 e1 := ⟨R.1.wr W167, R.2.1.other W167 (Or.inr (slot_ne (Or.inr (ww hw 175 rfl)) (Or.inl (ww hw 183 rfl)) (by decide) (t := (.array .long)) (t' := .long) (by decide) (by decide))), R.2.2.1.same W167, R.2.2.2.1.other W167 (Or.inr (slot_ne (Or.inl (ww hw 190 rfl)) (Or.inl (ww hw 183 rfl)) (by decide) (t := .int) (t' := .long) (by decide) (by decide))), R.2.2.2.2.1.other W167 (Or.inr (slot_ne (Or.inl (ww hw 207 rfl)) (Or.inl (ww hw 183 rfl)) (by decide) (t := .int) (t' := .long) (by decide) (by decide))), R.2.2.2.2.2.other W167 (Or.inr (slot_ne (Or.inl (ww hw 209 rfl)) (Or.inl (ww hw 183 rfl)) (by decide) (t := .int) (t' := .long) (by decide) (by decide)))⟩
      refine aload_n (q1 := 171) d35_170 rfl rfl rfl ?_
      refine iload_n (q1 := 172) d35_171 rfl rfl ?_
      refine iload_n (q1 := 173) d35_172 rfl rfl ?_
      refine iconst (q1 := 174) (v := 1) d35_173 rfl rfl ?_
      refine isub (q1 := 175) d35_174 rfl ?_
      refine invokeup (q1 := 178) d35_175 rfl (ww hw 200 rfl) (ww hw 201 rfl) (ww hw 202 rfl) (by decide) (ww hw 204 rfl) (ww hw 203 rfl) (ww hw 179 rfl) (ww hw 205 rfl) pd21 (R2.1) (c_fnd hw R2) rfl rfl rfl rfl (allS (Or.inl own_in1) all0) (fun v h1 q _ => ?_)
      obtain ⟨rfl, R3⟩ := q
      refine ret_n (t := .boolean) d35_178 rfl (by simp) rfl (fun _ _ => ⟨_, rfl, _, _, _, _, R3⟩)
    refine aload_n (q1 := 120) d35_119 rfl rfl rfl ?_
    refine getfield (q1 := 123) d35_120 rfl (ww hw 182 rfl) Via.refl (R.2.2.1) ?_
    refine ldc2J (q1 := 126) d35_123 rfl (ww hw 199 rfl) ?_
    refine lcmp (q1 := 127) d35_126 rfl ?_
    refine if_ne (q1 := 130) (q := 135) d35_127 rfl ⟨by decide, rfl⟩ (fun _ => ?_) (fun _ => ?_)
    · refine aload_n (q1 := 136) d35_135 rfl rfl rfl ?_
      refine getfield (q1 := 139) d35_136 rfl (ww hw 189 rfl) Via.refl (R.2.2.2.1) ?_
      refine bipush (q1 := 141) (v := 64) d35_139 rfl rfl ?_
      refine imul (q1 := 142) d35_141 rfl ?_
      refine aload_n (q1 := 143) d35_142 rfl rfl rfl ?_
      refine getfield (q1 := 146) d35_143 rfl (ww hw 182 rfl) Via.refl (R.2.2.1) ?_
      refine ldc2J (q1 := 149) d35_146 rfl (ww hw 199 rfl) ?_
      refine lxor (q1 := 150) d35_149 rfl ?_
      refine invokestatic (q1 := 153) d35_150 rfl (ww hw 191 rfl) (ww hw 192 rfl) (ww hw 160 rfl) (ww hw 193 rfl) (by decide) pd19 (c_lnt hw) rfl rfl rfl rfl all0 (fun v h1 q _ => ?_)
      obtain ⟨rfl, rfl⟩ := q
      refine iadd (q1 := 154) d35_153 rfl ?_
      exact las _
    · refine ldcI (q1 := 132) d35_130 rfl (ww hw 247 rfl) ?_
      refine goto (q := 154) d35_132 ⟨by decide, rfl⟩ ?_
      exact las _
  have l2 : ∀ (n : Nat) (h : Heap) (x : Int64) (i s1 e1 z : Int32) (k : Nat), k + n = 1023 → i.toInt = (k : Int) → Bw Z h r w x i s1 e1 → Ary Z h w .long 1024 (fun q => .long (g q)) → Wp false p l e ({ frames := 2, cells := 0, slots := 0, locals := 30 } : Room) s m ([.ref r] : List Value).toArray below meth c Z "cobblebit/container/BitmapContainer$1" "next" prog_46_method_2_code 3 (some .boolean) n0 h0 [r] (fun v h _ => (fun v h' => ∃ b : Int32, v = some (.int b) ∧ ∃ x i s1 e1, Bw Z h' r w x i s1 e1) v h) (fun _ => True) h 0 0 75 [.val (.ref r), .val (.int z), .unset] [] := by
    intro n
    induction n with
    | zero =>
      intro h x i s1 e1 z k hk hi R A
      refine aload_n (q1 := 76) d35_75 rfl rfl rfl ?_
      refine getfield (q1 := 79) d35_76 rfl (ww hw 182 rfl) Via.refl (R.2.2.1) ?_
      refine ldc2J (q1 := 82) d35_79 rfl (ww hw 199 rfl) ?_
      refine lcmp (q1 := 83) d35_82 rfl ?_
      refine if_ne (q1 := 86) (q := 119) d35_83 rfl ⟨by decide, rfl⟩ (fun _ => ?_) (fun _ => ?_)
      · exact fin h x i s1 e1 z R
      · refine aload_n (q1 := 87) d35_86 rfl rfl rfl ?_
        refine getfield (q1 := 90) d35_87 rfl (ww hw 189 rfl) Via.refl (R.2.2.2.1) ?_
        refine sipush (q1 := 93) (v := 1023) d35_90 rfl rfl ?_
        refine icmp_ge (q1 := 96) (q := 119) d35_93 rfl ⟨by decide, rfl⟩ (fun _ => ?_) (fun hc => absurd hc (by rw [own_lt, hi, e3]; omega))
        exact fin h x i s1 e1 z R
    | succ n ih =>
      intro h x i s1 e1 z k hk hi R A
      refine aload_n (q1 := 76) d35_75 rfl rfl rfl ?_
      refine getfield (q1 := 79) d35_76 rfl (ww hw 182 rfl) Via.refl (R.2.2.1) ?_
      refine ldc2J (q1 := 82) d35_79 rfl (ww hw 199 rfl) ?_
      refine lcmp (q1 := 83) d35_82 rfl ?_
      refine if_ne (q1 := 86) (q := 119) d35_83 rfl ⟨by decide, rfl⟩ (fun _ => ?_) (fun _ => ?_)
      · exact fin h x i s1 e1 z R
      · refine aload_n (q1 := 87) d35_86 rfl rfl rfl ?_
        refine getfield (q1 := 90) d35_87 rfl (ww hw 189 rfl) Via.refl (R.2.2.2.1) ?_
        refine sipush (q1 := 93) (v := 1023) d35_90 rfl rfl ?_
        refine icmp_ge (q1 := 96) (q := 119) d35_93 rfl ⟨by decide, rfl⟩ (fun hc => absurd (show i < 1023 by rw [own_lt, hi, e3]; omega) hc) (fun _ => ?_)
        refine aload_n (q1 := 97) d35_96 rfl rfl rfl ?_
        refine aload_n (q1 := 98) d35_97 rfl rfl rfl ?_
        refine getfield (q1 := 101) d35_98 rfl (ww hw 174 rfl) Via.refl (R.2.1) ?_
        refine aload_n (q1 := 102) d35_101 rfl rfl rfl ?_
        refine Jvm.OwnWp.dup (q1 := 103) d35_102 rfl rfl ?_
        refine getfield (q1 := 106) d35_103 rfl (ww hw 189 rfl) Via.refl (R.2.2.2.1) ?_
        refine iconst (q1 := 107) (v := 1) d35_106 rfl rfl ?_
        refine iadd (q1 := 108) d35_107 rfl ?_
        refine dup_x1 (q1 := 109) d35_108 rfl rfl rfl ?_
        refine putfield (q1 := 112) d35_109 rfl (ww hw 189 rfl) Via.refl (R.2.2.2.1) (R.1) (Or.inl (ww hw 190 rfl)) (ww hw 169 rfl) (ty := .int) (by decide) rfl rfl (Or.inl own_in1) (fun h109 W109 => ?_)
        refine laload (q1 := 113) d35_112 rfl (A.other W109 hne) (own_succ hi (by omega)) (show k + 1 < 1024 by omega) rfl ?_
        refine putfield (q1 := 116) d35_113 rfl (ww hw 182 rfl) Via.refl (R.2.2.1.other W109 (Or.inr (slot_ne (Or.inl (ww hw 183 rfl)) (Or.inl (ww hw 190 rfl)) (by decide) (t := .long) (t' := .int) (by decide) (by decide)))) (R.1.wr W109) (Or.inl (ww hw 183 rfl)) (ww hw 169 rfl) (ty := .long) (by decide) rfl rfl (Or.inl own_in1) (fun h113 W113 => ?_)
        refine goto (q := 75) d35_116 ⟨by decide, rfl⟩ ?_
        exact ih h113 _ _ s1 e1 z (k + 1) (by omega) (own_succ hi (by omega)) ⟨(R.1.wr W109).wr W113, (R.2.1.other W109 (Or.inr (slot_ne (Or.inr (ww hw 175 rfl)) (Or.inl (ww hw 190 rfl)) (by decide) (t := (.array .long)) (t' := .int) (by decide) (by decide)))).other W113 (Or.inr (slot_ne (Or.inr (ww hw 175 rfl)) (Or.inl (ww hw 183 rfl)) (by decide) (t := (.array .long)) (t' := .long) (by decide) (by decide))), (R.2.2.1.other W109 (Or.inr (slot_ne (Or.inl (ww hw 183 rfl)) (Or.inl (ww hw 190 rfl)) (by decide) (t := .long) (t' := .int) (by decide) (by decide)))).same W113, (R.2.2.2.1.same W109).other W113 (Or.inr (slot_ne (Or.inl (ww hw 190 rfl)) (Or.inl (ww hw 183 rfl)) (by decide) (t := .int) (t' := .long) (by decide) (by decide))), (R.2.2.2.2.1.other W109 (Or.inr (slot_ne (Or.inl (ww hw 207 rfl)) (Or.inl (ww hw 190 rfl)) (by decide) (t := .int) (t' := .int) (by decide) (by decide)))).other W113 (Or.inr (slot_ne (Or.inl (ww hw 207 rfl)) (Or.inl (ww hw 183 rfl)) (by decide) (t := .int) (t' := .long) (by decide) (by decide))), (R.2.2.2.2.2.other W109 (Or.inr (slot_ne (Or.inl (ww hw 209 rfl)) (Or.inl (ww hw 190 rfl)) (by decide) (t := .int) (t' := .int) (by decide) (by decide)))).other W113 (Or.inr (slot_ne (Or.inl (ww hw 209 rfl)) (Or.inl (ww hw 183 rfl)) (by decide) (t := .int) (t' := .long) (by decide) (by decide)))⟩ ((A.other W109 hne).other W113 hne)
  have tail : ∀ (h : Heap) (x : Int64) (i s1 e1 : Int32) (k : Nat), k ≤ 1023 → i.toInt = (k : Int) → Bw Z h r w x i s1 e1 → Ary Z h w .long 1024 (fun q => .long (g q)) → Wp false p l e ({ frames := 2, cells := 0, slots := 0, locals := 30 } : Room) s m ([.ref r] : List Value).toArray below meth c Z "cobblebit/container/BitmapContainer$1" "next" prog_46_method_2_code 3 (some .boolean) n0 h0 [r] (fun v h _ => (fun v h' => ∃ b : Int32, v = some (.int b) ∧ ∃ x i s1 e1, Bw Z h' r w x i s1 e1) v h) (fun _ => True) h 0 0 44 [.val (.ref r), .unset, .unset] [] := by
    intro h x i s1 e1 k hk hi R A
    refine aload_n (q1 := 45) d35_44 rfl rfl rfl ?_
    refine getfield (q1 := 48) d35_45 rfl (ww hw 189 rfl) Via.refl (R.2.2.2.1) ?_
    refine bipush (q1 := 50) (v := 64) d35_48 rfl rfl ?_
    refine imul (q1 := 51) d35_50 rfl ?_
    refine aload_n (q1 := 52) d35_51 rfl rfl rfl ?_
    refine getfield (q1 := 55) d35_52 rfl (ww hw 182 rfl) Via.refl (R.2.2.1) ?_
    refine invokestatic (q1 := 58) d35_55 rfl (ww hw 191 rfl) (ww hw 192 rfl) (ww hw 160 rfl) (ww hw 193 rfl) (by decide) pd19 (c_lnt hw) rfl rfl rfl rfl all0 (fun v h1 q _ => ?_)
    obtain ⟨rfl, rfl⟩ := q
    refine iadd (q1 := 59) d35_58 rfl ?_
    refine istore_n (q1 := 60) (jj := 1) d35_59 rfl rfl rfl ?_
    simp only [List.set_cons_zero, List.set_cons_succ]
    refine aload_n (q1 := 61) d35_60 rfl rfl rfl ?_
    refine Jvm.OwnWp.dup (q1 := 62) d35_61 rfl rfl ?_
    refine getfield (q1 := 65) d35_62 rfl (ww hw 182 rfl) Via.refl (R.2.2.1) ?_
    refine aload_n (q1 := 66) d35_65 rfl rfl rfl ?_
    refine getfield (q1 := 69) d35_66 rfl (ww hw 182 rfl) Via.refl (R.2.2.1) ?_
    refine lconst (q1 := 70) (v := 1) d35_69 rfl rfl ?_
    refine lsub (q1 := 71) d35_70 rfl ?_
    refine lor (q1 := 72) d35_71 rfl ?_
    refine putfield (q1 := 75) d35_72 rfl (ww hw 182 rfl) Via.refl (R.2.2.1) (R.1) (Or.inl (ww hw 183 rfl)) (ww hw 169 rfl) (ty := .long) (by decide) rfl rfl (Or.inl own_in1) (fun h72 W72 => ?_)
    exact l2 (1023 - k) h72 _ i s1 e1 _ k (by omega) hi ⟨R.1.wr W72, R.2.1.other W72 (Or.inr (slot_ne (Or.inr (ww hw 175 rfl)) (Or.inl (ww hw 183 rfl)) (by decide) (t := (.array .long)) (t' := .long) (by decide) (by decide))), R.2.2.1.same W72, R.2.2.2.1.other W72 (Or.inr (slot_ne (Or.inl (ww hw 190 rfl)) (Or.inl (ww hw 183 rfl)) (by decide) (t := .int) (t' := .long) (by decide) (by decide))), R.2.2.2.2.1.other W72 (Or.inr (slot_ne (Or.inl (ww hw 207 rfl)) (Or.inl (ww hw 183 rfl)) (by decide) (t := .int) (t' := .long) (by decide) (by decide))), R.2.2.2.2.2.other W72 (Or.inr (slot_ne (Or.inl (ww hw 209 rfl)) (Or.inl (ww hw 183 rfl)) (by decide) (t := .int) (t' := .long) (by decide) (by decide)))⟩ (A.other W72 hne)
  have l1 : ∀ (n : Nat) (h : Heap) (x : Int64) (i s1 e1 : Int32) (k : Nat), k + n = 1023 → i.toInt = (k : Int) → Bw Z h r w x i s1 e1 → Ary Z h w .long 1024 (fun q => .long (g q)) → Wp false p l e ({ frames := 2, cells := 0, slots := 0, locals := 30 } : Room) s m ([.ref r] : List Value).toArray below meth c Z "cobblebit/container/BitmapContainer$1" "next" prog_46_method_2_code 3 (some .boolean) n0 h0 [r] (fun v h _ => (fun v h' => ∃ b : Int32, v = some (.int b) ∧ ∃ x i s1 e1, Bw Z h' r w x i s1 e1) v h) (fun _ => True) h 0 0 0 [.val (.ref r), .unset, .unset] [] := by
    intro n
    induction n with
    | zero =>
      intro h x i s1 e1 k hk hi R A
      refine aload_n (q1 := 1) d35_0 rfl rfl rfl ?_
      refine getfield (q1 := 4) d35_1 rfl (ww hw 182 rfl) Via.refl (R.2.2.1) ?_
      refine lconst (q1 := 5) (v := 0) d35_4 rfl rfl ?_
      refine lcmp (q1 := 6) d35_5 rfl ?_
      refine if_ne (q1 := 9) (q := 44) d35_6 rfl ⟨by decide, rfl⟩ (fun _ => ?_) (fun _ => ?_)
      · exact tail h x i s1 e1 k (by omega) hi R A
      · refine aload_n (q1 := 10) d35_9 rfl rfl rfl ?_
        refine getfield (q1 := 13) d35_10 rfl (ww hw 189 rfl) Via.refl (R.2.2.2.1) ?_
        refine sipush (q1 := 16) (v := 1023) d35_13 rfl rfl ?_
        refine icmp_ne (q1 := 19) (q := 21) d35_16 rfl ⟨by decide, rfl⟩ (fun hc => absurd (own_eq (by rw [hi, e3]; omega)) hc) (fun _ => ?_)
        refine iconst (q1 := 20) (v := 0) d35_19 rfl rfl ?_
        refine ret_n (t := .boolean) d35_20 rfl (by simp) rfl (fun _ _ => ⟨_, rfl, _, _, _, _, R⟩)
    | succ n ih =>
      intro h x i s1 e1 k hk hi R A
      refine aload_n (q1 := 1) d35_0 rfl rfl rfl ?_
      refine getfield (q1 := 4) d35_1 rfl (ww hw 182 rfl) Via.refl (R.2.2.1) ?_
      refine lconst (q1 := 5) (v := 0) d35_4 rfl rfl ?_
      refine lcmp (q1 := 6) d35_5 rfl ?_
      refine if_ne (q1 := 9) (q := 44) d35_6 rfl ⟨by decide, rfl⟩ (fun _ => ?_) (fun _ => ?_)
      · exact tail h x i s1 e1 k (by omega) hi R A
      · refine aload_n (q1 := 10) d35_9 rfl rfl rfl ?_
        refine getfield (q1 := 13) d35_10 rfl (ww hw 189 rfl) Via.refl (R.2.2.2.1) ?_
        refine sipush (q1 := 16) (v := 1023) d35_13 rfl rfl ?_
        refine icmp_ne (q1 := 19) (q := 21) d35_16 rfl ⟨by decide, rfl⟩ (fun _ => ?_) (fun hc => absurd (congrArg Int32.toInt hc) (by rw [hi, e3]; omega))
        refine aload_n (q1 := 22) d35_21 rfl rfl rfl ?_
        refine aload_n (q1 := 23) d35_22 rfl rfl rfl ?_
        refine getfield (q1 := 26) d35_23 rfl (ww hw 174 rfl) Via.refl (R.2.1) ?_
        refine aload_n (q1 := 27) d35_26 rfl rfl rfl ?_
        refine Jvm.OwnWp.dup (q1 := 28) d35_27 rfl rfl ?_
        refine getfield (q1 := 31) d35_28 rfl (ww hw 189 rfl) Via.refl (R.2.2.2.1) ?_
        refine iconst (q1 := 32) (v := 1) d35_31 rfl rfl ?_
        refine iadd (q1 := 33) d35_32 rfl ?_
        refine dup_x1 (q1 := 34) d35_33 rfl rfl rfl ?_
        refine putfield (q1 := 37) d35_34 rfl (ww hw 189 rfl) Via.refl (R.2.2.2.1) (R.1) (Or.inl (ww hw 190 rfl)) (ww hw 169 rfl) (ty := .int) (by decide) rfl rfl (Or.inl own_in1) (fun h34 W34 => ?_)
        refine laload (q1 := 38) d35_37 rfl (A.other W34 hne) (own_succ hi (by omega)) (show k + 1 < 1024 by omega) rfl ?_
        refine putfield (q1 := 41) d35_38 rfl (ww hw 182 rfl) Via.refl (R.2.2.1.other W34 (Or.inr (slot_ne (Or.inl (ww hw 183 rfl)) (Or.inl (ww hw 190 rfl)) (by decide) (t := .long) (t' := .int) (by decide) (by decide)))) (R.1.wr W34) (Or.inl (ww hw 183 rfl)) (ww hw 169 rfl) (ty := .long) (by decide) rfl rfl (Or.inl own_in1) (fun h38 W38 => ?_)
        refine goto (q := 0) d35_41 ⟨by decide, rfl⟩ ?_
        exact ih h38 _ _ s1 e1 (k + 1) (by omega) (own_succ hi (by omega)) ⟨(R.1.wr W34).wr W38, (R.2.1.other W34 (Or.inr (slot_ne (Or.inr (ww hw 175 rfl)) (Or.inl (ww hw 190 rfl)) (by decide) (t := (.array .long)) (t' := .int) (by decide) (by decide)))).other W38 (Or.inr (slot_ne (Or.inr (ww hw 175 rfl)) (Or.inl (ww hw 183 rfl)) (by decide) (t := (.array .long)) (t' := .long) (by decide) (by decide))), (R.2.2.1.other W34 (Or.inr (slot_ne (Or.inl (ww hw 183 rfl)) (Or.inl (ww hw 190 rfl)) (by decide) (t := .long) (t' := .int) (by decide) (by decide)))).same W38, (R.2.2.2.1.same W34).other W38 (Or.inr (slot_ne (Or.inl (ww hw 190 rfl)) (Or.inl (ww hw 183 rfl)) (by decide) (t := .int) (t' := .long) (by decide) (by decide))), (R.2.2.2.2.1.other W34 (Or.inr (slot_ne (Or.inl (ww hw 207 rfl)) (Or.inl (ww hw 190 rfl)) (by decide) (t := .int) (t' := .int) (by decide) (by decide)))).other W38 (Or.inr (slot_ne (Or.inl (ww hw 207 rfl)) (Or.inl (ww hw 183 rfl)) (by decide) (t := .int) (t' := .long) (by decide) (by decide))), (R.2.2.2.2.2.other W34 (Or.inr (slot_ne (Or.inl (ww hw 209 rfl)) (Or.inl (ww hw 190 rfl)) (by decide) (t := .int) (t' := .int) (by decide) (by decide)))).other W38 (Or.inr (slot_ne (Or.inl (ww hw 209 rfl)) (Or.inl (ww hw 183 rfl)) (by decide) (t := .int) (t' := .long) (by decide) (by decide)))⟩ ((A.other W34 hne).other W38 hne)
  exact l1 (1023 - k0) h0 x0 i0 s0 e0 k0 (by omega) hi0 R0 A0
set_option maxRecDepth 65536 in
set_option maxHeartbeats 40000000 in
theorem c_rof {l : Launch} {Z : State} {a0 : Array Value} (hw : ∀ d ∈ tables_1, d.before a0 Z = true) {n0 : Nat} {h0 : Heap} {w : Addr} {g : Nat → Int64} {w0 : Nat} (A : Ary Z h0 w .long 1024 (fun q => .long (g q))) (hw0 : w0 < 1024) (hs : ∀ q, q < 1024 → bcL (stF g q) = if q = w0 then 1 else 0) : Con l Z n0 (⟨"cobblebit/container/RunContainer", "of", "([J)Lcobblebit/container/RunContainer;"⟩ : MethodName) prog_81_method_3_code 6 (some (.object "cobblebit/container/RunContainer")) ({ frames := 4, cells := 3, slots := 11, locals := 60 } : Room) [.ref w] h0 [] (fun v h' => ∃ x : Addr, v = some (.ref x)) := by
  refine Con.of (Ls := [.val (.ref w), .unset, .unset, .unset, .unset, .unset]) (by decide +kernel) (fun m => by first | (simp [entryFrame, mkF, argsToLocals, Value.category]; done) | (rcases ref_cases hrw with rfl | ⟨b, rfl⟩ <;> rfl) | rfl) (fun p e s m below meth c => ?_)
  show Wp false p l e ({ frames := 4, cells := 3, slots := 11, locals := 60 } : Room) s m ([.ref w] : List Value).toArray below meth c Z "cobblebit/container/RunContainer" "of" prog_81_method_3_code 6 (some (.object "cobblebit/container/RunContainer")) n0 h0 [] (fun v h _ => (fun v h' => ∃ x : Addr, v = some (.ref x)) v h) (fun _ => True) h0 0 0 0 [.val (.ref w), .unset, .unset, .unset, .unset, .unset] []
  refine aload_n (q1 := 1) d28_0 rfl rfl rfl ?_
  refine invokestatic (q1 := 4) d28_1 rfl (ww hw 150 rfl) (ww hw 151 rfl) (ww hw 152 rfl) (ww hw 153 rfl) (by decide) pd17 (c_brc hw A hw0 hs) rfl rfl rfl rfl all0 (fun v h1 q _ => ?_)
  obtain ⟨rfl, rfl⟩ := q
  refine istore_n (q1 := 5) (jj := 1) d28_4 rfl rfl rfl ?_
  simp only [List.set_cons_zero, List.set_cons_succ]
  refine iconst (q1 := 6) (v := 2) d28_5 rfl rfl ?_
  refine iload_n (q1 := 7) d28_6 rfl rfl ?_
  refine imul (q1 := 8) d28_7 rfl ?_
  refine newarray (q1 := 10) (len := 2) (cap := 2) d28_8 rfl (ww hw 20 rfl) rfl (by decide) (by decide) (by decide) (by decide) (fun S8 h8 E8 A8 => ?_)
  refine astore_n (q1 := 11) (jj := 2) d28_10 rfl rfl rfl rfl ?_
  simp only [List.set_cons_zero, List.set_cons_succ]
  refine iconst (q1 := 12) (v := 0) d28_11 rfl rfl ?_
  refine istore_n (q1 := 13) (jj := 3) d28_12 rfl rfl rfl ?_
  simp only [List.set_cons_zero, List.set_cons_succ]
  refine aload_n (q1 := 14) d28_13 rfl rfl rfl ?_
  refine invokestatic (q1 := 17) d28_14 rfl (ww hw 165 rfl) (ww hw 166 rfl) (ww hw 152 rfl) (ww hw 167 rfl) (by decide) pd20 (c_ruo hw (A.ext E8)) rfl rfl rfl rfl all0 (fun v h14 q K14 => ?_)
  obtain ⟨rfl, x, R⟩ := q
  have A14 := (A.ext E8).keep K14 nin0'
  have T14 := A8.keep K14 nin0'
  have l8 : @LT.lt Nat _ h1.size h8.size := A8.lt
  have lw : @LT.lt Nat _ w h1.size := A.lt
  refine astore (q1 := 19) d28_17 rfl rfl rfl ?_
  simp only [List.set_cons_zero, List.set_cons_succ]
  refine iconst (q1 := 20) (v := 0) d28_19 rfl rfl ?_
  refine istore (q1 := 22) d28_20 rfl rfl ?_
  simp only [List.set_cons_zero, List.set_cons_succ]
  refine iload (q1 := 24) d28_22 rfl rfl ?_
  refine iload_n (q1 := 25) d28_24 rfl rfl ?_
  refine icmp_ge (q1 := 28) (q := 88) d28_25 rfl ⟨by decide, rfl⟩ (fun hq => absurd (by decide) hq) (fun _ => ?_)
  refine aload (q1 := 30) d28_28 rfl rfl rfl ?_
  refine invokevirtual (q1 := 33) d28_30 rfl (ww hw 184 rfl) (ww hw 185 rfl) (fun vm0 hZ => nf_sel (args := #[]) (mvT (s := s.setVm vm0) hZ (ww hw 204 rfl)) rfl) (ww hw 186 rfl) (ww hw 187 rfl) (ww hw 170 rfl) (ww hw 188 rfl) (by decide) pd2 (R.1) (c_nxt hw R A14 (Nat.ne_of_lt (Nat.lt_trans lw l8)) (k0 := 0) rfl (by decide)) rfl rfl rfl rfl (allS (Or.inr (Nat.le_of_lt l8)) all0) (fun v h30 q K30 => ?_)
  obtain ⟨b, rfl, x1, i1, s1, e1, R1⟩ := q
  have T30 := T14.keep K30 (nin1 (Nat.ne_of_lt l8))
  refine Jvm.OwnWp.pop (q1 := 34) d28_33 rfl rfl ?_
  refine aload_n (q1 := 35) d28_34 rfl rfl rfl ?_
  refine iconst (q1 := 36) (v := 2) d28_35 rfl rfl ?_
  refine iload (q1 := 38) d28_36 rfl rfl ?_
  refine imul (q1 := 39) d28_38 rfl ?_
  refine aload (q1 := 41) d28_39 rfl rfl rfl ?_
  refine invokevirt (q1 := 44) d28_41 rfl (ww hw 210 rfl) (ww hw 211 rfl) (ww hw 213 rfl) (ww hw 212 rfl) (ww hw 179 rfl) (ww hw 214 rfl) (by decide) pd8 (R1.1) (c_rws hw R1) rfl rfl rfl rfl all0 (fun v h41 q _ => ?_)
  obtain ⟨rfl, rfl⟩ := q
  refine i2c (q1 := 45) d28_44 rfl ?_
  refine castore (q1 := 46) (i := 0) d28_45 rfl (T30) rfl (by decide) (Or.inr (Nat.le_refl _)) (fun h45 W45 => ?_)
  have ne : h8.size ≠ h1.size := Nat.ne_of_gt l8
  have R2 : Bw Z h45 h8.size w x1 i1 s1 e1 := ⟨R1.1.wr W45, R1.2.1.other W45 (Or.inl ne), R1.2.2.1.other W45 (Or.inl ne), R1.2.2.2.1.other W45 (Or.inl ne), R1.2.2.2.2.1.other W45 (Or.inl ne), R1.2.2.2.2.2.other W45 (Or.inl ne)⟩
  refine aload_n (q1 := 47) d28_46 rfl rfl rfl ?_
  refine iconst (q1 := 48) (v := 2) d28_47 rfl rfl ?_
  refine iload (q1 := 50) d28_48 rfl rfl ?_
  refine imul (q1 := 51) d28_50 rfl ?_
  refine iconst (q1 := 52) (v := 1) d28_51 rfl rfl ?_
  refine iadd (q1 := 53) d28_52 rfl ?_
  refine aload (q1 := 55) d28_53 rfl rfl rfl ?_
  refine invokevirt (q1 := 58) d28_55 rfl (ww hw 215 rfl) (ww hw 216 rfl) (ww hw 218 rfl) (ww hw 217 rfl) (ww hw 179 rfl) (ww hw 219 rfl) (by decide) pd8 (R2.1) (c_rwe hw R2) rfl rfl rfl rfl all0 (fun v h55 q _ => ?_)
  obtain ⟨rfl, rfl⟩ := q
  refine aload (q1 := 60) d28_58 rfl rfl rfl ?_
  refine invokevirt (q1 := 63) d28_60 rfl (ww hw 210 rfl) (ww hw 211 rfl) (ww hw 213 rfl) (ww hw 212 rfl) (ww hw 179 rfl) (ww hw 214 rfl) (by decide) pd8 (R2.1) (c_rws hw R2) rfl rfl rfl rfl all0 (fun v h60 q _ => ?_)
  obtain ⟨rfl, rfl⟩ := q
  refine isub (q1 := 64) d28_63 rfl ?_
  refine i2c (q1 := 65) d28_64 rfl ?_
  refine castore (q1 := 66) (i := 1) d28_65 rfl (T30.same W45) rfl (by decide) (Or.inr (Nat.le_refl _)) (fun h65 W65 => ?_)
  have R3 : Bw Z h65 h8.size w x1 i1 s1 e1 := ⟨R2.1.wr W65, R2.2.1.other W65 (Or.inl ne), R2.2.2.1.other W65 (Or.inl ne), R2.2.2.2.1.other W65 (Or.inl ne), R2.2.2.2.2.1.other W65 (Or.inl ne), R2.2.2.2.2.2.other W65 (Or.inl ne)⟩
  refine iload_n (q1 := 67) d28_66 rfl rfl ?_
  refine aload (q1 := 69) d28_67 rfl rfl rfl ?_
  refine invokevirt (q1 := 72) d28_69 rfl (ww hw 215 rfl) (ww hw 216 rfl) (ww hw 218 rfl) (ww hw 217 rfl) (ww hw 179 rfl) (ww hw 219 rfl) (by decide) pd8 (R3.1) (c_rwe hw R3) rfl rfl rfl rfl all0 (fun v h69 q _ => ?_)
  obtain ⟨rfl, rfl⟩ := q
  refine aload (q1 := 74) d28_72 rfl rfl rfl ?_
  refine invokevirt (q1 := 77) d28_74 rfl (ww hw 210 rfl) (ww hw 211 rfl) (ww hw 213 rfl) (ww hw 212 rfl) (ww hw 179 rfl) (ww hw 214 rfl) (by decide) pd8 (R3.1) (c_rws hw R3) rfl rfl rfl rfl all0 (fun v h74 q _ => ?_)
  obtain ⟨rfl, rfl⟩ := q
  refine isub (q1 := 78) d28_77 rfl ?_
  refine iconst (q1 := 79) (v := 1) d28_78 rfl rfl ?_
  refine iadd (q1 := 80) d28_79 rfl ?_
  refine iadd (q1 := 81) d28_80 rfl ?_
  refine istore_n (q1 := 82) (jj := 3) d28_81 rfl rfl rfl ?_
  simp only [List.set_cons_zero, List.set_cons_succ]
  refine iinc (q1 := 85) (v := 1) d28_82 rfl rfl rfl ?_
  simp only [List.set_cons_zero, List.set_cons_succ]
  refine goto (q := 22) d28_85 ⟨by decide, rfl⟩ ?_
  refine iload (q1 := 24) d28_22 rfl rfl ?_
  refine iload_n (q1 := 25) d28_24 rfl rfl ?_
  refine icmp_ge (q1 := 28) (q := 88) d28_25 rfl ⟨by decide, rfl⟩ (fun _ => ?_) (fun hq => absurd hq (by decide))
  refine new (q1 := 91) d28_88 rfl (ww hw 220 rfl) (ww hw 221 rfl) (ww hw 90 rfl) (by decide) (by decide) (fun S88 h88 E88 X88 D88 U88 => ?_)
  refine Jvm.OwnWp.dup (q1 := 92) d28_91 rfl rfl ?_
  refine aload_n (q1 := 93) d28_92 rfl rfl rfl ?_
  refine iload_n (q1 := 94) d28_93 rfl rfl ?_
  refine iload_n (q1 := 95) d28_94 rfl rfl ?_
  refine invokespecial (q1 := 98) d28_95 rfl rfl (ww hw 222 rfl) (ww hw 223 rfl) (ww hw 90 rfl) (ww hw 224 rfl) (by decide) pd22 (c_rci hw X88 (D88 (Or.inl (ww hw 227 rfl)) (ty := .array .char) (by decide)) (D88 (Or.inl (ww hw 229 rfl)) (ty := .int) (by decide)) (D88 (Or.inl (ww hw 231 rfl)) (ty := .int) (by decide))) rfl rfl rfl rfl (allS (Or.inr S88) all0) (fun v h95 q _ => ?_)
  obtain rfl := q
  refine ret_a d28_98 rfl rfl rfl rfl (fun _ _ => ⟨_, rfl⟩)
def OneRun (g : Nat → Int64) : Prop := ∃ w0, w0 < 1024 ∧ ∀ q, q < 1024 → bcL (stF g q) = if q = w0 then 1 else 0
set_option maxRecDepth 65536 in
set_option maxHeartbeats 40000000 in
theorem c_rop {l : Launch} {Z : State} {a0 : Array Value} (hw : ∀ d ∈ tables_1, d.before a0 Z = true) {n0 : Nat} {h0 : Heap} {a t ka kr : Addr} {L : Nat} {cd so : Int32} {f : Nat → Int32} {n : Nat} (KA : Sta Z Z.heap "cobblebit/terms/ContainerKind" "ARRAY" "Lcobblebit/terms/ContainerKind;" (.ref ka)) (KR : Sta Z Z.heap "cobblebit/terms/ContainerKind" "RUN" "Lcobblebit/terms/ContainerKind;" (.ref kr)) (hk : ka ≠ kr) (B : Ac Z h0 a t L cd so (-1) f) (hn : cd.toInt = (n : Int)) (hp : 0 < n) (hL : n ≤ L) (hb : n ≤ 4096) (hf : ∀ i, i + 1 < n → f (i + 1) = f i + 1) (hv : ∀ i, i < n → 0 ≤ (f i).toInt ∧ (f i).toInt < 65536) (H1 : OneRun (wdF f n)) : Con l Z n0 (⟨"cobblebit/container/Container", "runOptimised", "()Lcobblebit/container/Container;"⟩ : MethodName) prog_59_method_28_code 2 (some (.object "cobblebit/container/Container")) ({ frames := 5, cells := 4, slots := 1035, locals := 80 } : Room) [.ref a] h0 [a] (fun v h' => ∃ x : Addr, v = some (.ref x) ∧ Ac Z h' a t L cd so 1 f) := by
  refine Con.of (Ls := [.val (.ref a), .unset]) (by decide +kernel) (fun m => by first | (simp [entryFrame, mkF, argsToLocals, Value.category]; done) | (rcases ref_cases hrw with rfl | ⟨b, rfl⟩ <;> rfl) | rfl) (fun p e s m below meth c => ?_)
  show Wp false p l e ({ frames := 5, cells := 4, slots := 1035, locals := 80 } : Room) s m ([.ref a] : List Value).toArray below meth c Z "cobblebit/container/Container" "runOptimised" prog_59_method_28_code 2 (some (.object "cobblebit/container/Container")) n0 h0 [a] (fun v h _ => (fun v h' => ∃ x : Addr, v = some (.ref x) ∧ Ac Z h' a t L cd so 1 f) v h) (fun _ => True) h0 0 0 0 [.val (.ref a), .unset] []
  obtain ⟨w0, hw0, hs⟩ := H1
  have e4 : (4096 : Int32).toInt = 4096 := rfl
  have fin : ∀ (h : Heap) (z : Int32), Ac Z h a t L cd so 1 f → Wp false p l e ({ frames := 5, cells := 4, slots := 1035, locals := 80 } : Room) s m ([.ref a] : List Value).toArray below meth c Z "cobblebit/container/Container" "runOptimised" prog_59_method_28_code 2 (some (.object "cobblebit/container/Container")) n0 h0 [a] (fun v h _ => (fun v h' => ∃ x : Addr, v = some (.ref x) ∧ Ac Z h' a t L cd so 1 f) v h) (fun _ => True) h 0 0 22 [.val (.ref a), .unset] [.int z] := by
    intro h z B1
    refine istore_n (q1 := 23) (jj := 1) d12_22 rfl rfl rfl ?_
    simp only [List.set_cons_zero, List.set_cons_succ]
    refine aload_n (q1 := 24) d12_23 rfl rfl rfl ?_
    refine invokevirtual (q1 := 27) d12_24 rfl (ww hw 103 rfl) (ww hw 104 rfl) (fun vm0 hZ => nf_sel (args := #[]) (mvT (s := s.setVm vm0) hZ (ww hw 77 rfl)) rfl) (ww hw 105 rfl) (ww hw 106 rfl) (ww hw 4 rfl) (ww hw 107 rfl) (by decide) pd10 (B1.1) (c_knd hw KA) rfl rfl rfl rfl all0 (fun v h1 q _ => ?_)
    obtain ⟨rfl, rfl⟩ := q
    refine kept fun K O => ?_
    refine getstatic (q1 := 30) d12_27 rfl (ww hw 111 rfl) Via.refl (KR.ext O.2) ?_
    refine acmp_ne (q1 := 33) (q := 46) d12_30 rfl ⟨by decide, rfl⟩ rfl rfl (fun _ => ?_) (fun hq => absurd (Value.ref.inj hq) hk)
    refine iload_n (q1 := 47) d12_46 rfl rfl ?_
    refine if_eq (q1 := 50) (q := 60) d12_47 rfl ⟨by decide, rfl⟩ (fun _ => ?_) (fun _ => ?_)
    · refine aload_n (q1 := 61) d12_60 rfl rfl rfl ?_
      refine ret_a d12_61 rfl rfl rfl rfl (fun _ _ => ⟨_, rfl, B1⟩)
    · refine aload_n (q1 := 51) d12_50 rfl rfl rfl ?_
      refine invokevirtual (q1 := 54) d12_51 rfl (ww hw 133 rfl) (ww hw 134 rfl) (fun vm0 hZ => nf_sel (args := #[]) (mvT (s := s.setVm vm0) hZ (ww hw 77 rfl)) rfl) (ww hw 135 rfl) (ww hw 136 rfl) (ww hw 4 rfl) (ww hw 137 rfl) (by decide) pd13 (B1.1) (c_tow hw B1 hn hL (by omega) hv) rfl rfl rfl rfl all0 (fun v h2 q K2 => ?_)
      obtain ⟨rfl, W⟩ := q
      refine invokestatic (q1 := 57) d12_54 rfl (ww hw 147 rfl) (ww hw 148 rfl) (ww hw 90 rfl) (ww hw 149 rfl) (by decide) pd16 (c_rof hw W hw0 hs) rfl rfl rfl rfl all0 (fun v h3 q K3 => ?_)
      obtain ⟨x, rfl⟩ := q
      refine goto (q := 61) d12_57 ⟨by decide, rfl⟩ ?_
      refine ret_a d12_61 rfl rfl rfl rfl (fun _ _ => ⟨_, rfl, (B1.keep K2 nin0' nin0').keep K3 nin0' nin0'⟩)
  refine aload_n (q1 := 1) d12_0 rfl rfl rfl ?_
  refine invokevirtual (q1 := 4) d12_1 rfl (ww hw 79 rfl) (ww hw 80 rfl) (fun vm0 hZ => nf_sel (args := #[]) (mvT (s := s.setVm vm0) hZ (ww hw 77 rfl)) rfl) (ww hw 81 rfl) (ww hw 82 rfl) (ww hw 4 rfl) (ww hw 83 rfl) (by decide) pd8 (B.1) (c_rco hw B hn hp hL (by omega) hf) rfl rfl rfl rfl (allS (Or.inl own_in1) all0) (fun v h1 q K1 => ?_)
  obtain ⟨rfl, B1⟩ := q
  refine invokestatic (q1 := 7) d12_4 rfl (ww hw 88 rfl) (ww hw 89 rfl) (ww hw 90 rfl) (ww hw 91 rfl) (by decide) pd9 (c_rss hw) rfl rfl rfl rfl all0 (fun v h2 q _ => ?_)
  obtain ⟨rfl, rfl⟩ := q
  refine aload_n (q1 := 8) d12_7 rfl rfl rfl ?_
  refine invokevirtual (q1 := 11) d12_8 rfl (ww hw 92 rfl) (ww hw 93 rfl) (fun vm0 hZ => nf_sel (args := #[]) (mvT (s := s.setVm vm0) hZ (ww hw 77 rfl)) rfl) (ww hw 94 rfl) (ww hw 95 rfl) (ww hw 4 rfl) (ww hw 96 rfl) (by decide) pd8 (B1.1) (c_car hw B1) rfl rfl rfl rfl all0 (fun v h2 q _ => ?_)
  obtain ⟨rfl, rfl⟩ := q
  refine invokestatic (q1 := 14) d12_11 rfl (ww hw 97 rfl) (ww hw 98 rfl) (ww hw 11 rfl) (ww hw 99 rfl) (by decide) pd9 (c_pss hw (by rw [own_lt, hn, e4]; omega)) rfl rfl rfl rfl all0 (fun v h2 q _ => ?_)
  obtain ⟨rfl, rfl⟩ := q
  refine icmp_ge (q1 := 17) (q := 21) d12_14 rfl ⟨by decide, rfl⟩ (fun _ => ?_) (fun _ => ?_)
  · refine iconst (q1 := 22) (v := 0) d12_21 rfl rfl ?_
    exact fin _ _ B1
  · refine iconst (q1 := 18) (v := 1) d12_17 rfl rfl ?_
    refine goto (q := 22) d12_18 ⟨by decide, rfl⟩ ?_
    exact fin _ _ B1
set_option maxRecDepth 65536 in
set_option maxHeartbeats 40000000 in
theorem c_gwf {l : Launch} {Z : State} {a0 : Array Value} (hw : ∀ d ∈ tables_1, d.before a0 Z = true) {n0 : Nat} {h0 : Heap} {a t : Addr} {L : Nat} {cd so rn lI : Int32} {f : Nat → Int32} {n : Nat} (B : Ac Z h0 a t L cd so rn f) (hn : cd.toInt = (n : Int)) (hl : lI.toInt = (L : Int)) (hL : n ≤ L) (hb : n ≤ 4095) (hf : ∀ j, j < L → fits .char (.int (f j)) = true) : Con l Z n0 (⟨"cobblebit/container/ArrayContainer", "growWhereFull", "()V"⟩ : MethodName) prog_42_method_20_code 1 none ({ frames := 2, cells := 1, slots := 4103, locals := 50 } : Room) [.ref a] h0 [a] (fun v h' => v = none ∧ ∃ t' L' f', Ac Z h' a t' L' cd so rn f' ∧ n < L' ∧ (t' = t ∨ h0.size ≤ t')) := by
  refine Con.of (Ls := [.val (.ref a)]) (by decide +kernel) (fun m => by first | (simp [entryFrame, mkF, argsToLocals, Value.category]; done) | (rcases ref_cases hrw with rfl | ⟨b, rfl⟩ <;> rfl) | rfl) (fun p e s m below meth c => ?_)
  show Wp false p l e ({ frames := 2, cells := 1, slots := 4103, locals := 50 } : Room) s m ([.ref a] : List Value).toArray below meth c Z "cobblebit/container/ArrayContainer" "growWhereFull" prog_42_method_20_code 1 none n0 h0 [a] (fun v h _ => (fun v h' => v = none ∧ ∃ t' L' f', Ac Z h' a t' L' cd so rn f' ∧ n < L' ∧ (t' = t ∨ h0.size ≤ t')) v h) (fun _ => True) h0 0 0 0 [.val (.ref a)] []
  have one : (1 : Int32).toInt = 1 := rfl
  refine aload_n (q1 := 1) d43_0 rfl rfl rfl ?_
  refine getfield (q1 := 4) d43_1 rfl (ww hw 38 rfl) Via.refl (B.2.2.1) ?_
  refine aload_n (q1 := 5) d43_4 rfl rfl rfl ?_
  refine getfield (q1 := 8) d43_5 rfl (ww hw 21 rfl) Via.refl (B.2.1) ?_
  refine arraylength (q1 := 9) d43_8 rfl (B.2.2.2.2.2.2.1) hl ?_
  refine icmp_ne (q1 := 12) (q := 32) d43_9 rfl ⟨by decide, rfl⟩ (fun hq => ?_) (fun hq => ?_)
  · have hne : n ≠ L := fun e => hq (own_eq (by rw [hn, hl, e]))
    refine ret_v d43_32 rfl rfl (fun _ _ => ⟨rfl, t, L, f, B, by omega, Or.inl rfl⟩)
  · have e : n = L := by have := congrArg Int32.toInt hq; rw [hn, hl] at this; omega
    refine aload_n (q1 := 13) d43_12 rfl rfl rfl ?_
    refine aload_n (q1 := 14) d43_13 rfl rfl rfl ?_
    refine getfield (q1 := 17) d43_14 rfl (ww hw 21 rfl) Via.refl (B.2.1) ?_
    refine aload_n (q1 := 18) d43_17 rfl rfl rfl ?_
    refine getfield (q1 := 21) d43_18 rfl (ww hw 38 rfl) Via.refl (B.2.2.1) ?_
    refine iconst (q1 := 22) (v := 1) d43_21 rfl rfl ?_
    refine iadd (q1 := 23) d43_22 rfl ?_
    refine invokestatic (q1 := 26) d43_23 rfl (ww hw 118 rfl) (ww hw 119 rfl) (ww hw 4 rfl) (ww hw 120 rfl) (by decide) pd9 (c_grl hw (n := n + 1) (by rw [own_add hn one (by omega) (by omega)]; omega) (by omega)) rfl rfl rfl rfl all0 (fun v h1 q _ => ?_)
    obtain ⟨r, rfl, er, rfl⟩ := q
    have g1 : n + 1 ≤ grown (n + 1) := by unfold grown; omega
    have g2 : grown (n + 1) ≤ 4103 := by unfold grown; omega
    refine invokestatic (q1 := 29) d43_26 rfl (ww hw 128 rfl) (ww hw 129 rfl) (ww hw 47 rfl) (ww hw 130 rfl) (by decide) pd12 (c_cpc hw B.2.2.2.2.2.2.1 hf hl er (by omega) g2) rfl rfl rfl rfl all0 (fun v h2 q K => ?_)
    obtain ⟨rfl, f', A, hff⟩ := q
    have B2 := B.keep K nin0' nin0'
    refine putfield (q1 := 32) d43_29 rfl (ww hw 21 rfl) Via.refl (B2.2.1) (B2.1) (Or.inl (ww hw 22 rfl)) (ww hw 3 rfl) (ty := (.array .char)) (by decide) rfl rfl (Or.inl own_in1) (fun h29 W29 => ?_)
    have ne : h1.size ≠ a := Nat.ne_of_gt B.1.lt
    refine ret_v d43_32 rfl rfl (fun _ _ => ⟨rfl, _, _, f', ⟨B2.1.wr W29, B2.2.1.same W29, B2.2.2.1.other W29 (Or.inr (slot_ne (Or.inl (ww hw 39 rfl)) (Or.inl (ww hw 22 rfl)) (by decide) (t := .int) (t' := (.array .char)) (by decide) (by decide))), B2.2.2.2.1.other W29 (Or.inr (slot_ne (Or.inl (ww hw 37 rfl)) (Or.inl (ww hw 22 rfl)) (by decide) (t := .int) (t' := (.array .char)) (by decide) (by decide))), B2.2.2.2.2.1.other W29 (Or.inr (slot_ne (Or.inl (ww hw 17 rfl)) (Or.inl (ww hw 22 rfl)) (by decide) (t := .short) (t' := (.array .char)) (by decide) (by decide))), B2.2.2.2.2.2.1.other W29 (Or.inr (slot_ne (Or.inl (ww hw 19 rfl)) (Or.inl (ww hw 22 rfl)) (by decide) (t := .int) (t' := (.array .char)) (by decide) (by decide))), Ary.other A W29 ne, ne⟩, by omega, Or.inr (Nat.le_refl _)⟩)
set_option maxRecDepth 65536 in
set_option maxHeartbeats 40000000 in
theorem c_adu {l : Launch} {Z : State} {a0 : Array Value} (hw : ∀ d ∈ tables_1, d.before a0 Z = true) {n0 : Nat} {h0 : Heap} {a t : Addr} {L : Nat} {cd so rn lI x : Int32} {f : Nat → Int32} {n : Nat} (B : Ac Z h0 a t L cd so rn f) (hn : cd.toInt = (n : Int)) (hl : lI.toInt = (L : Int)) (hL : n ≤ L) (hb : n ≤ 4095) (hf : ∀ j, j < L → fits .char (.int (f j)) = true) : Con l Z n0 (⟨"cobblebit/container/ArrayContainer", "addUnsorted", "(C)Lcobblebit/container/Container;"⟩ : MethodName) prog_42_method_25_code 4 (some (.object "cobblebit/container/Container")) ({ frames := 3, cells := 1, slots := 4103, locals := 62 } : Room) [.ref a, .int x] h0 [a, t] (fun v h' => ∃ y : Addr, v = some (.ref y) ∧ ∃ t' L' f', Ac Z h' a t' L' (cd + 1) so (-1) f' ∧ n < L') := by
  refine Con.of (Ls := [.val (.ref a), .val (.int x), .unset, .unset]) (by decide +kernel) (fun m => by first | (simp [entryFrame, mkF, argsToLocals, Value.category]; done) | (rcases ref_cases hrw with rfl | ⟨b, rfl⟩ <;> rfl) | rfl) (fun p e s m below meth c => ?_)
  show Wp false p l e ({ frames := 3, cells := 1, slots := 4103, locals := 62 } : Room) s m ([.ref a, .int x] : List Value).toArray below meth c Z "cobblebit/container/ArrayContainer" "addUnsorted" prog_42_method_25_code 4 (some (.object "cobblebit/container/Container")) n0 h0 [a, t] (fun v h _ => (fun v h' => ∃ y : Addr, v = some (.ref y) ∧ ∃ t' L' f', Ac Z h' a t' L' (cd + 1) so (-1) f' ∧ n < L') v h) (fun _ => True) h0 0 0 0 [.val (.ref a), .val (.int x), .unset, .unset] []
  have e4 : (4096 : Int32).toInt = 4096 := rfl
  refine aload_n (q1 := 1) d42_0 rfl rfl rfl ?_
  refine getfield (q1 := 4) d42_1 rfl (ww hw 16 rfl) Via.refl (B.2.2.2.2.1) ?_
  refine if_lt (q1 := 7) (q := 15) d42_4 rfl ⟨by decide, rfl⟩ (fun _ => ?_) (fun hq => absurd (by decide) hq)
  refine aload_n (q1 := 16) d42_15 rfl rfl rfl ?_
  refine astore_n (q1 := 17) (jj := 2) d42_16 rfl rfl rfl rfl ?_
  simp only [List.set_cons_zero, List.set_cons_succ]
  refine aload_n (q1 := 18) d42_17 rfl rfl rfl ?_
  refine getfield (q1 := 21) d42_18 rfl (ww hw 38 rfl) Via.refl (B.2.2.1) ?_
  refine sipush (q1 := 24) (v := 4096) d42_21 rfl rfl ?_
  refine icmp_ne (q1 := 27) (q := 52) d42_24 rfl ⟨by decide, rfl⟩ (fun _ => ?_) (fun hq => absurd (congrArg Int32.toInt hq) (by rw [hn, e4]; omega))
  refine aload_n (q1 := 53) d42_52 rfl rfl rfl ?_
  refine invokepriv (q1 := 56) d42_53 rfl (ww hw 237 rfl) (ww hw 238 rfl) (ww hw 3 rfl) (ww hw 239 rfl) (ww hw 4 rfl) (ww hw 240 rfl) (by decide) pd0 (B.1) (c_gwf hw B hn hl hL hb hf) rfl rfl rfl rfl (allS (Or.inl own_in1) all0) (fun v h1 q K => ?_)
  obtain ⟨rfl, t', L', f', B1, hlt, ht⟩ := q
  refine aload_n (q1 := 57) d42_56 rfl rfl rfl ?_
  refine getfield (q1 := 60) d42_57 rfl (ww hw 21 rfl) Via.refl (B1.2.1) ?_
  refine aload_n (q1 := 61) d42_60 rfl rfl rfl ?_
  refine Jvm.OwnWp.dup (q1 := 62) d42_61 rfl rfl ?_
  refine getfield (q1 := 65) d42_62 rfl (ww hw 38 rfl) Via.refl (B1.2.2.1) ?_
  refine dup_x1 (q1 := 66) d42_65 rfl rfl rfl ?_
  refine iconst (q1 := 67) (v := 1) d42_66 rfl rfl ?_
  refine iadd (q1 := 68) d42_67 rfl ?_
  refine putfield (q1 := 71) d42_68 rfl (ww hw 38 rfl) Via.refl (B1.2.2.1) (B1.1) (Or.inl (ww hw 39 rfl)) (ww hw 3 rfl) (ty := .int) (by decide) rfl rfl (Or.inl own_in1) (fun h68 W68 => ?_)
  refine iload_n (q1 := 72) d42_71 rfl rfl ?_
  have A1 := Ary.other B1.2.2.2.2.2.2.1 W68 B1.2.2.2.2.2.2.2
  refine castore (q1 := 73) d42_72 rfl (A1) hn hlt ((ht.elim (fun e => Or.inl (by rw [e]; exact List.mem_cons_of_mem _ own_in1)) Or.inr)) (fun h72 W72 => ?_)
  have nta := B1.2.2.2.2.2.2.2
  have F1 := (B1.2.2.2.2.2.1.other W68 (Or.inr (slot_ne (Or.inl (ww hw 19 rfl)) (Or.inl (ww hw 39 rfl)) (by decide) (t := .int) (t' := .int) (by decide) (by decide)))).other W72 (Or.inl (Ne.symm nta))
  refine aload_n (q1 := 74) d42_73 rfl rfl rfl ?_
  refine iconst (q1 := 75) (v := -1) d42_74 rfl rfl ?_
  refine putfield (q1 := 78) d42_75 rfl (ww hw 18 rfl) Via.refl (F1) ((B1.1.wr W68).wr W72) (Or.inl (ww hw 19 rfl)) (ww hw 3 rfl) (ty := .int) (by decide) rfl rfl (Or.inl own_in1) (fun h75 W75 => ?_)
  refine aload_n (q1 := 79) d42_78 rfl rfl rfl ?_
  refine ret_a d42_79 rfl rfl rfl rfl (fun _ _ => ⟨_, rfl, t', L', fun j => if j = n then (nar .char x) else f' j, ⟨((B1.1.wr W68).wr W72).wr W75, ((B1.2.1.other W68 (Or.inr (slot_ne (Or.inl (ww hw 22 rfl)) (Or.inl (ww hw 39 rfl)) (by decide) (t := (.array .char)) (t' := .int) (by decide) (by decide)))).other W72 (Or.inl (Ne.symm nta))).other W75 (Or.inr (slot_ne (Or.inl (ww hw 22 rfl)) (Or.inl (ww hw 19 rfl)) (by decide) (t := (.array .char)) (t' := .int) (by decide) (by decide))), ((B1.2.2.1.same W68).other W72 (Or.inl (Ne.symm nta))).other W75 (Or.inr (slot_ne (Or.inl (ww hw 39 rfl)) (Or.inl (ww hw 19 rfl)) (by decide) (t := .int) (t' := .int) (by decide) (by decide))), ((B1.2.2.2.1.other W68 (Or.inr (slot_ne (Or.inl (ww hw 37 rfl)) (Or.inl (ww hw 39 rfl)) (by decide) (t := .int) (t' := .int) (by decide) (by decide)))).other W72 (Or.inl (Ne.symm nta))).other W75 (Or.inr (slot_ne (Or.inl (ww hw 37 rfl)) (Or.inl (ww hw 19 rfl)) (by decide) (t := .int) (t' := .int) (by decide) (by decide))), ((B1.2.2.2.2.1.other W68 (Or.inr (slot_ne (Or.inl (ww hw 17 rfl)) (Or.inl (ww hw 39 rfl)) (by decide) (t := .short) (t' := .int) (by decide) (by decide)))).other W72 (Or.inl (Ne.symm nta))).other W75 (Or.inr (slot_ne (Or.inl (ww hw 17 rfl)) (Or.inl (ww hw 19 rfl)) (by decide) (t := .short) (t' := .int) (by decide) (by decide))), F1.same W75, Ary.other ((A1.same W72).cong fun j hj => ?_) W75 nta, nta⟩, hlt⟩)
  by_cases e : j = n
  · simp [e]
  · simp [e]
def vF (fi : Int32) (i : Nat) : Int32 := Int32.ofInt (fi.toInt + i)
theorem vF_toInt {fi : Int32} {i : Nat} (h0 : 0 ≤ fi.toInt) (h1 : fi.toInt + i < 65536) : (vF fi i).toInt = fi.toInt + i := by
  unfold vF
  rw [Int32.toInt_ofInt_of_le (by omega) (by omega)]
theorem vF_nar {fi j : Int32} {i : Nat} (h0 : 0 ≤ fi.toInt) (hj : j.toInt = (i : Int)) (h1 : fi.toInt + i < 65536) : nar .char ((fi + j).toUInt32.toUInt16.toUInt32.toInt32) = vF fi i := by
  have e : (fi + j).toInt = fi.toInt + i := own_add rfl hj (by omega) (by omega)
  have a := c_i2c (fi + j)
  have b := c_i2c ((fi + j).toUInt32.toUInt16.toUInt32.toInt32)
  have v := vF_toInt h0 h1
  apply own_eq
  rw [v]
  show ((fi + j).toUInt32.toUInt16.toUInt32.toInt32.toUInt32.toUInt16.toUInt32.toInt32).toInt = _
  rw [e] at a
  omega
theorem vF_succ {fi : Int32} {i : Nat} (h0 : 0 ≤ fi.toInt) (h1 : fi.toInt + i + 1 < 65536) : vF fi (i + 1) = vF fi i + 1 := by
  have a := vF_toInt (i := i) h0 (by omega)
  have b := vF_toInt (i := i + 1) h0 (by omega)
  have one : (1 : Int32).toInt = 1 := rfl
  have c := own_add a one (by omega) (by omega)
  apply own_eq; rw [b, c]; omega
theorem vF_fits {fi : Int32} {i : Nat} (h0 : 0 ≤ fi.toInt) (h1 : fi.toInt + i < 65536) : fits .char (.int (vF fi i)) = true := by
  have a := vF_toInt h0 h1
  have q := fits_nar_char (vF fi i)
  have e : nar .char (vF fi i) = vF fi i := by
    have b := c_i2c (vF fi i)
    apply own_eq
    show ((vF fi i).toUInt32.toUInt16.toUInt32.toInt32).toInt = _
    rw [a] at b ⊢
    omega
  rw [e] at q; exact q
theorem bit_fin : ∀ k : Fin 64, bcL ⟨⟨BitVec.twoPow 64 k.val⟩⟩ = 1 := by decide
theorem bc_zero : bcL 0 = 0 := by decide
theorem sh_fin : ∀ k : Fin 64, (((1 : Int64) <<< (Int64.ofNat k.val)).toBitVec) = BitVec.twoPow 64 k.val := by decide
theorem and63 (v : Int32) (h : 0 ≤ v.toInt) : (v &&& 0x3f).toInt64 = Int64.ofNat (v.toInt.toNat % 64) := by
  apply Int64.toInt_inj.mp
  rw [Int32.toInt_toInt64]
  have e : (v &&& 0x3f).toInt = (v.toInt.toNat % 64 : Nat) := by
    show (v.toBitVec &&& 0x3f#32).toInt = _
    have hm : v.toBitVec.toNat = v.toInt.toNat := by
      have : v.toInt = v.toBitVec.toInt := rfl
      rw [this] at h ⊢
      rw [BitVec.toInt_eq_toNat_cond] at h ⊢
      split at h <;> omega
    have a : (v.toBitVec &&& 0x3f#32).toNat = v.toInt.toNat % 64 := by
      rw [BitVec.toNat_and, hm]
      exact Nat.and_two_pow_sub_one_eq_mod _ 6
    rw [BitVec.toInt_eq_toNat_cond, a]
    split <;> omega
  rw [e]
  rw [Int64.toInt_ofNat_of_lt (by omega)]
theorem bitX_bv (v : Int32) (h : 0 ≤ v.toInt) : (bitX v).toBitVec = BitVec.twoPow 64 (v.toInt.toNat % 64) := by
  unfold bitX
  rw [and63 v h]
  exact sh_fin ⟨v.toInt.toNat % 64, Nat.mod_lt _ (by decide)⟩
theorem wd_bit {fi : Int32} {F : Nat} (hF : fi.toInt = (F : Int)) : ∀ (n : Nat), F + n ≤ 65536 → ∀ w b, b < 64 → (wdF (vF fi) n w).toBitVec.getLsbD b = decide (F ≤ 64 * w + b ∧ 64 * w + b < F + n)
  | 0, _, w, b, hb => by
    show (0 : Int64).toBitVec.getLsbD b = _
    have : (0 : Int64).toBitVec = 0#64 := rfl
    rw [this, BitVec.getLsbD_zero]
    symm; apply decide_eq_false; omega
  | n + 1, hn, w, b, hb => by
    have ih := wd_bit hF n (by omega) w b hb
    have v := vF_toInt (fi := fi) (i := n) (by omega) (by omega)
    have vN : (vF fi n).toInt.toNat = F + n := by rw [v, hF]; omega
    have eb := bitX_bv (vF fi n) (by omega)
    rw [vN] at eb
    show (if w = ixN (vF fi n) then wdF (vF fi) n w ||| bitX (vF fi n) else wdF (vF fi) n w).toBitVec.getLsbD b = _
    have ex : ixN (vF fi n) = (F + n) / 64 := by unfold ixN; rw [vN]
    rw [ex]
    by_cases e : w = (F + n) / 64
    · rw [if_pos e, Int64.toBitVec_or, BitVec.getLsbD_or, ih, eb, BitVec.getLsbD_twoPow, Bool.eq_iff_iff]
      simp only [Bool.or_eq_true, Bool.and_eq_true, decide_eq_true_eq]
      omega
    · rw [if_neg e, ih, Bool.eq_iff_iff]
      simp only [decide_eq_true_eq]
      omega
theorem st_bit {g : Nat → Int64} {w b : Nat} (hb : b < 64) : (stF g w).toBitVec.getLsbD b = ((g w).toBitVec.getLsbD b && !((if b = 0 then (if w = 0 then false else (g (w - 1)).toBitVec.getLsbD 63) else (g w).toBitVec.getLsbD (b - 1)))) := by
  have e1 : (g w <<< ((1 : Int32) &&& 0x3f).toInt64).toBitVec = (g w).toBitVec <<< 1 := by
    rw [Int64.toBitVec_shiftLeft]; rfl
  have e2 : ∀ x : Int64, (us x 63).toBitVec = x.toBitVec >>> 63 := by
    intro x
    show (x.toUInt64 >>> ((63 : Int32) &&& 0x3f).toInt64.toUInt64).toBitVec = _
    rw [UInt64.toBitVec_shiftRight]; rfl
  show ((g w) &&& (((g w <<< ((1 : Int32) &&& 0x3f).toInt64) ||| us (if w = 0 then 0 else g (w - 1)) 63) ^^^ (-1))).toBitVec.getLsbD b = _
  rw [Int64.toBitVec_and, Int64.toBitVec_xor, Int64.toBitVec_or, e1, e2]
  have e3 : (-1 : Int64).toBitVec = BitVec.allOnes 64 := rfl
  rw [e3, BitVec.getLsbD_and, BitVec.getLsbD_xor, BitVec.getLsbD_or, BitVec.getLsbD_allOnes, BitVec.getLsbD_shiftLeft, BitVec.getLsbD_ushiftRight]
  simp only [hb, decide_true, Bool.true_and, Bool.xor_true]
  congr 2
  by_cases e : b = 0
  · subst e
    simp
    by_cases hw : w = 0
    · simp [hw]
    · simp [hw]
  · have : ¬ b < 1 := by omega
    simp [e, this]
    have h64 : 64 ≤ 63 + b := by omega
    intro h
    rw [BitVec.getLsbD_of_ge _ _ h64] at h
    exact absurd h (by simp)
theorem one_run {fi : Int32} {n : Nat} (h0 : 0 ≤ fi.toInt) (hn : 1 ≤ n) (hb : fi.toInt + n ≤ 65536) : OneRun (wdF (vF fi) n) := by
  obtain ⟨F, hF⟩ : ∃ F : Nat, fi.toInt = (F : Int) := ⟨fi.toInt.toNat, by omega⟩
  have hN : F + n ≤ 65536 := by omega
  refine ⟨F / 64, by omega, fun q hq => ?_⟩
  have bits : ∀ b, b < 64 → (stF (wdF (vF fi) n) q).toBitVec.getLsbD b = decide (64 * q + b = F) := by
    intro b hb64
    rw [st_bit hb64, wd_bit hF n hN q b hb64]
    by_cases e : b = 0
    · subst e
      by_cases hq0 : q = 0
      · subst hq0
        simp
        rw [Bool.eq_iff_iff]; simp; omega
      · rw [if_pos rfl, if_neg hq0, wd_bit hF n hN (q - 1) 63 (by decide), Bool.eq_iff_iff]
        simp only [Bool.and_eq_true, Bool.not_eq_true', decide_eq_true_eq, decide_eq_false_iff_not]
        omega
    · rw [if_neg e, wd_bit hF n hN q (b - 1) (by omega), Bool.eq_iff_iff]
      simp only [Bool.and_eq_true, Bool.not_eq_true', decide_eq_true_eq, decide_eq_false_iff_not]
      omega
  by_cases e : q = F / 64
  · rw [if_pos e]
    have k := bit_fin ⟨F % 64, Nat.mod_lt _ (by decide)⟩
    have : stF (wdF (vF fi) n) q = ⟨⟨BitVec.twoPow 64 (F % 64)⟩⟩ := by
      apply Int64.toBitVec_inj.mp
      show _ = BitVec.twoPow 64 (F % 64)
      apply BitVec.eq_of_getLsbD_eq
      intro b hb64
      rw [bits b hb64, BitVec.getLsbD_twoPow, Bool.eq_iff_iff]
      simp only [Bool.and_eq_true, decide_eq_true_eq]
      omega
    rw [this]; exact k
  · rw [if_neg e]
    have : stF (wdF (vF fi) n) q = 0 := by
      apply Int64.toBitVec_inj.mp
      show _ = 0#64
      apply BitVec.eq_of_getLsbD_eq
      intro b hb64
      rw [bits b hb64, BitVec.getLsbD_zero]
      apply decide_eq_false; omega
    rw [this]; exact bc_zero
theorem wdF_cong {f g : Nat → Int32} : ∀ (n : Nat), (∀ i, i < n → f i = g i) → wdF f n = wdF g n
  | 0, _ => rfl
  | n + 1, h => by
    have ih := wdF_cong n (fun i hi => h i (by omega))
    funext w
    show (if w = ixN (f n) then wdF f n w ||| bitX (f n) else wdF f n w) = (if w = ixN (g n) then wdF g n w ||| bitX (g n) else wdF g n w)
    rw [ih, h n (by omega)]
def ofV : Value → Int32
  | .int i => i
  | _ => 0
theorem fits_ofV {v : Value} (h : fits .char v = true) : v = .int (ofV v) := by
  cases v <;> first | rfl | (exact absurd h (by simp [fits]))
set_option maxRecDepth 65536 in
set_option maxHeartbeats 40000000 in
theorem c_edr {l : Launch} {Z : State} {a0 : Array Value} (hw : ∀ d ∈ tables_1, d.before a0 Z = true) {n0 : Nat} {h0 : Heap} {a t o ka kr : Addr} {fi la : Int32} {n : Nat} {f0 : Nat → Int32} (KA : Sta Z Z.heap "cobblebit/terms/ContainerKind" "ARRAY" "Lcobblebit/terms/ContainerKind;" (.ref ka)) (KR : Sta Z Z.heap "cobblebit/terms/ContainerKind" "RUN" "Lcobblebit/terms/ContainerKind;" (.ref kr)) (hk : ka ≠ kr) (P : Opr Z h0 o) (B : Ac Z h0 a t 4 0 0 (-1) f0) (hf0 : ∀ j, j < 4 → fits .char (.int (f0 j)) = true) (h0f : 0 ≤ fi.toInt) (hn : la.toInt - fi.toInt + 1 = (n : Int)) (h2 : 2 ≤ n) (hb : n ≤ 4095) (hla : la.toInt ≤ 65535) (hoa : o ≠ a) (hot : o ≠ t) : Con l Z n0 (⟨"cobblebit/container/ArrayContainer", "editRange", "(Lcobblebit/terms/Operation;II)Lcobblebit/container/Container;"⟩ : MethodName) prog_42_method_31_code 12 (some (.object "cobblebit/container/Container")) ({ frames := 6, cells := 6, slots := 5142, locals := 110 } : Room) [.ref a, .ref o, .int fi, .int la] h0 [a, t] (fun v h' => ∃ x : Addr, v = some (.ref x) ∧ ∃ (t' : Addr) (L' : Nat) (cI lI : Int32) (f' : Nat → Int32), cI.toInt = (n : Int) ∧ lI.toInt = (L' : Int) ∧ Ac Z h' a t' L' cI cI 1 f' ∧ n ≤ L' ∧ f' (n - 1) = vF fi (n - 1) ∧ (∀ j, j < L' → fits .char (.int (f' j)) = true) ∧ (t' = t ∨ h0.size ≤ t')) := by
  refine Con.of (Ls := [.val (.ref a), .val (.ref o), .val (.int fi), .val (.int la), .unset, .unset, .unset, .unset, .unset, .unset, .unset, .unset]) (by decide +kernel) (fun m => by first | (simp [entryFrame, mkF, argsToLocals, Value.category]; done) | (rcases ref_cases hrw with rfl | ⟨b, rfl⟩ <;> rfl) | rfl) (fun p e s m below meth c => ?_)
  show Wp false p l e ({ frames := 6, cells := 6, slots := 5142, locals := 110 } : Room) s m ([.ref a, .ref o, .int fi, .int la] : List Value).toArray below meth c Z "cobblebit/container/ArrayContainer" "editRange" prog_42_method_31_code 12 (some (.object "cobblebit/container/Container")) n0 h0 [a, t] (fun v h _ => (fun v h' => ∃ x : Addr, v = some (.ref x) ∧ ∃ (t' : Addr) (L' : Nat) (cI lI : Int32) (f' : Nat → Int32), cI.toInt = (n : Int) ∧ lI.toInt = (L' : Int) ∧ Ac Z h' a t' L' cI cI 1 f' ∧ n ≤ L' ∧ f' (n - 1) = vF fi (n - 1) ∧ (∀ j, j < L' → fits .char (.int (f' j)) = true) ∧ (t' = t ∨ h0.size ≤ t')) v h) (fun _ => True) h0 0 0 0 [.val (.ref a), .val (.ref o), .val (.int fi), .val (.int la), .unset, .unset, .unset, .unset, .unset, .unset, .unset, .unset] []
  have z0 : (0 : Int32).toInt = 0 := rfl
  have one : (1 : Int32).toInt = 1 := rfl
  have e4 : (4096 : Int32).toInt = 4096 := rfl
  have fill : ∀ (cI l1 : Int32) (h : Heap) (t1 : Addr) (L1 : Nat) (f1 : Nat → Int32), cI.toInt = (n : Int) → l1.toInt = (L1 : Int) → Ac Z h a t1 L1 0 0 (-1) f1 → n ≤ L1 → (∀ j, j < L1 → fits .char (.int (f1 j)) = true) → Opr Z h o → (t1 = t ∨ h0.size ≤ t1) → o ≠ t1 → Wp false p l e ({ frames := 6, cells := 6, slots := 5142, locals := 110 } : Room) s m ([.ref a, .ref o, .int fi, .int la] : List Value).toArray below meth c Z "cobblebit/container/ArrayContainer" "editRange" prog_42_method_31_code 12 (some (.object "cobblebit/container/Container")) n0 h0 [a, t] (fun v h _ => (fun v h' => ∃ x : Addr, v = some (.ref x) ∧ ∃ (t' : Addr) (L' : Nat) (cI lI : Int32) (f' : Nat → Int32), cI.toInt = (n : Int) ∧ lI.toInt = (L' : Int) ∧ Ac Z h' a t' L' cI cI 1 f' ∧ n ≤ L' ∧ f' (n - 1) = vF fi (n - 1) ∧ (∀ j, j < L' → fits .char (.int (f' j)) = true) ∧ (t' = t ∨ h0.size ≤ t')) v h) (fun _ => True) h 1 4103 223 [.val (.ref a), .val (.ref o), .val (.int fi), .val (.int la), .val (.int 0), .val (.int 0), .val (.int (0 - 0)), .val (.int cI), .val (.int cI), .val .null, .val (.int 0), .unset] [] := by
    intro cI l1 h t1 L1 f1 hc hl1 B1 hL1 hff P1 ht1 ho1
    have wt : t1 ∈ [a, t] ∨ h0.size ≤ t1 := ht1.elim (fun e => Or.inl (by rw [e]; exact List.mem_cons_of_mem _ own_in1)) Or.inr
    have loop : ∀ (r i : Nat) (j : Int32) (h : Heap) (f2 : Nat → Int32), i + r = n → j.toInt = (i : Int) → Ac Z h a t1 L1 0 0 (-1) f2 → (∀ q, q < i → f2 q = vF fi q) → (∀ j, j < L1 → fits .char (.int (f2 j)) = true) → Wp false p l e ({ frames := 6, cells := 6, slots := 5142, locals := 110 } : Room) s m ([.ref a, .ref o, .int fi, .int la] : List Value).toArray below meth c Z "cobblebit/container/ArrayContainer" "editRange" prog_42_method_31_code 12 (some (.object "cobblebit/container/Container")) n0 h0 [a, t] (fun v h _ => (fun v h' => ∃ x : Addr, v = some (.ref x) ∧ ∃ (t' : Addr) (L' : Nat) (cI lI : Int32) (f' : Nat → Int32), cI.toInt = (n : Int) ∧ lI.toInt = (L' : Int) ∧ Ac Z h' a t' L' cI cI 1 f' ∧ n ≤ L' ∧ f' (n - 1) = vF fi (n - 1) ∧ (∀ j, j < L' → fits .char (.int (f' j)) = true) ∧ (t' = t ∨ h0.size ≤ t')) v h) (fun _ => True) h 1 4103 280 [.val (.ref a), .val (.ref o), .val (.int fi), .val (.int la), .val (.int 0), .val (.int 0), .val (.int (0 - 0)), .val (.int cI), .val (.int cI), .val .null, .val (.int 0), .val (.int j)] [] := by
      intro r
      induction r with
      | zero =>
        intro i j h f2 hi hj B2 hq hft
        have nta := B2.2.2.2.2.2.2.2
        refine iload (q1 := 282) d4_280 rfl rfl ?_
        refine iload (q1 := 284) d4_282 rfl rfl ?_
        refine icmp_ge (q1 := 287) (q := 308) d4_284 rfl ⟨by decide, rfl⟩ (fun _ => ?_) (fun hc' => absurd hc' (by rw [own_lt, hj, hc]; omega))
        refine aload_n (q1 := 309) d4_308 rfl rfl rfl ?_
        refine iload (q1 := 311) d4_309 rfl rfl ?_
        refine putfield (q1 := 314) d4_311 rfl (ww hw 38 rfl) Via.refl (B2.2.2.1) (B2.1) (Or.inl (ww hw 39 rfl)) (ww hw 3 rfl) (ty := .int) (by decide) rfl rfl (Or.inl own_in1) (fun h311 W311 => ?_)
        refine aload_n (q1 := 315) d4_314 rfl rfl rfl ?_
        refine iload (q1 := 317) d4_315 rfl rfl ?_
        refine putfield (q1 := 320) d4_317 rfl (ww hw 36 rfl) Via.refl (B2.2.2.2.1.other W311 (Or.inr (slot_ne (Or.inl (ww hw 37 rfl)) (Or.inl (ww hw 39 rfl)) (by decide) (t := .int) (t' := .int) (by decide) (by decide)))) (B2.1.wr W311) (Or.inl (ww hw 37 rfl)) (ww hw 3 rfl) (ty := .int) (by decide) rfl rfl (Or.inl own_in1) (fun h317 W317 => ?_)
        have B3 : Ac Z h317 a t1 L1 cI cI (-1) f2 := ⟨(B2.1.wr W311).wr W317, (B2.2.1.other W311 (Or.inr (slot_ne (Or.inl (ww hw 22 rfl)) (Or.inl (ww hw 39 rfl)) (by decide) (t := (.array .char)) (t' := .int) (by decide) (by decide)))).other W317 (Or.inr (slot_ne (Or.inl (ww hw 22 rfl)) (Or.inl (ww hw 37 rfl)) (by decide) (t := (.array .char)) (t' := .int) (by decide) (by decide))), (B2.2.2.1.same W311).other W317 (Or.inr (slot_ne (Or.inl (ww hw 39 rfl)) (Or.inl (ww hw 37 rfl)) (by decide) (t := .int) (t' := .int) (by decide) (by decide))), (B2.2.2.2.1.other W311 (Or.inr (slot_ne (Or.inl (ww hw 37 rfl)) (Or.inl (ww hw 39 rfl)) (by decide) (t := .int) (t' := .int) (by decide) (by decide)))).same W317, (B2.2.2.2.2.1.other W311 (Or.inr (slot_ne (Or.inl (ww hw 17 rfl)) (Or.inl (ww hw 39 rfl)) (by decide) (t := .short) (t' := .int) (by decide) (by decide)))).other W317 (Or.inr (slot_ne (Or.inl (ww hw 17 rfl)) (Or.inl (ww hw 37 rfl)) (by decide) (t := .short) (t' := .int) (by decide) (by decide))), (B2.2.2.2.2.2.1.other W311 (Or.inr (slot_ne (Or.inl (ww hw 19 rfl)) (Or.inl (ww hw 39 rfl)) (by decide) (t := .int) (t' := .int) (by decide) (by decide)))).other W317 (Or.inr (slot_ne (Or.inl (ww hw 19 rfl)) (Or.inl (ww hw 37 rfl)) (by decide) (t := .int) (t' := .int) (by decide) (by decide))), Ary.other (Ary.other B2.2.2.2.2.2.2.1 W311 nta) W317 nta, nta⟩
        have hq' : ∀ q, q < n → f2 q = vF fi q := fun q hqn => hq q (by omega)
        have H1 : OneRun (wdF f2 n) := by rw [wdF_cong n hq']; exact one_run h0f (by omega) (by omega)
        refine aload_n (q1 := 321) d4_320 rfl rfl rfl ?_
        refine getfield (q1 := 324) d4_321 rfl (ww hw 18 rfl) Via.refl (B3.2.2.2.2.2.1) ?_
        refine iconst (q1 := 325) (v := -1) d4_324 rfl rfl ?_
        refine icmp_eq (q1 := 328) (q := 358) d4_325 rfl ⟨by decide, rfl⟩ (fun _ => ?_) (fun hc' => absurd rfl hc')
        refine aload_n (q1 := 359) d4_358 rfl rfl rfl ?_
        refine invokeup (q1 := 362) d4_359 rfl (ww hw 73 rfl) (ww hw 74 rfl) (ww hw 75 rfl) (by decide) (ww hw 77 rfl) (ww hw 76 rfl) (ww hw 11 rfl) (ww hw 78 rfl) pd7 (B3.1) (c_rop hw KA KR hk B3 hc (by omega) hL1 (by omega) (fun i hi => by rw [hq' i (by omega), hq' (i + 1) hi]; exact vF_succ h0f (by omega)) (fun i hi => by rw [hq' i hi, vF_toInt h0f (by omega)]; omega) H1) rfl rfl rfl rfl (allS (Or.inl own_in1) all0) (fun v h359 q K359 => ?_)
        obtain ⟨x, rfl, B4⟩ := q
        refine ret_a d4_362 rfl rfl rfl rfl (fun _ _ => ⟨x, rfl, t1, L1, cI, l1, f2, hc, hl1, B4, hL1, hq' (n - 1) (by omega), hft, ht1⟩)
      | succ r ih =>
        intro i j h f2 hi hj B2 hq hft
        refine iload (q1 := 282) d4_280 rfl rfl ?_
        refine iload (q1 := 284) d4_282 rfl rfl ?_
        refine icmp_ge (q1 := 287) (q := 308) d4_284 rfl ⟨by decide, rfl⟩ (fun hc' => absurd (show j < cI by rw [own_lt, hj, hc]; omega) hc') (fun _ => ?_)
        refine aload_n (q1 := 288) d4_287 rfl rfl rfl ?_
        refine getfield (q1 := 291) d4_288 rfl (ww hw 21 rfl) Via.refl (B2.2.1) ?_
        refine iload (q1 := 293) d4_291 rfl rfl ?_
        refine iload (q1 := 295) d4_293 rfl rfl ?_
        refine iadd (q1 := 296) d4_295 rfl ?_
        refine iload_n (q1 := 297) d4_296 rfl rfl ?_
        refine iload (q1 := 299) d4_297 rfl rfl ?_
        refine iadd (q1 := 300) d4_299 rfl ?_
        refine i2c (q1 := 301) d4_300 rfl ?_
        refine castore (q1 := 302) d4_301 rfl (B2.2.2.2.2.2.2.1) (by rw [Int32.zero_add]; exact hj) (show i < L1 by omega) (wt) (fun h301 W301 => ?_)
        have nta := B2.2.2.2.2.2.2.2
        refine iinc (q1 := 305) (v := 1) d4_302 rfl rfl rfl ?_
        simp only [List.set_cons_zero, List.set_cons_succ]
        refine goto (q := 280) d4_305 ⟨by decide, rfl⟩ ?_
        have ev := vF_nar h0f hj (show fi.toInt + i < 65536 by omega)
        refine ih (i + 1) (j + 1) h301 (fun q => if q = i then vF fi i else f2 q) (by omega) (own_succ hj (by omega)) ⟨B2.1.wr W301, B2.2.1.other W301 (Or.inl (Ne.symm nta)), B2.2.2.1.other W301 (Or.inl (Ne.symm nta)), B2.2.2.2.1.other W301 (Or.inl (Ne.symm nta)), B2.2.2.2.2.1.other W301 (Or.inl (Ne.symm nta)), B2.2.2.2.2.2.1.other W301 (Or.inl (Ne.symm nta)), (Ary.same B2.2.2.2.2.2.2.1 W301).cong (fun q hq' => ?_), nta⟩ (fun q hq' => ?_) (fun q hq' => ?_)
        · by_cases e : q = i
          · rw [if_pos e]; show _ = Value.int (if q = i then vF fi i else f2 q); rw [if_pos e, ev]
          · rw [if_neg e]; show _ = Value.int (if q = i then vF fi i else f2 q); rw [if_neg e]
        · by_cases e : q = i
          · show (if q = i then vF fi i else f2 q) = _; rw [if_pos e, e]
          · show (if q = i then vF fi i else f2 q) = _; rw [if_neg e]; exact hq q (by omega)
        · show fits .char (.int (if q = i then vF fi i else f2 q)) = true
          by_cases e : q = i
          · rw [if_pos e]; exact vF_fits h0f (by omega)
          · rw [if_neg e]; exact hft q hq'
    refine aload_n (q1 := 224) d4_223 rfl rfl rfl ?_
    refine getfield (q1 := 227) d4_224 rfl (ww hw 21 rfl) Via.refl (B1.2.1) ?_
    refine iload (q1 := 229) d4_227 rfl rfl ?_
    refine aload_n (q1 := 230) d4_229 rfl rfl rfl ?_
    refine getfield (q1 := 233) d4_230 rfl (ww hw 21 rfl) Via.refl (B1.2.1) ?_
    refine iload (q1 := 235) d4_233 rfl rfl ?_
    refine iload (q1 := 237) d4_235 rfl rfl ?_
    refine iadd (q1 := 238) d4_237 rfl ?_
    refine aload_n (q1 := 239) d4_238 rfl rfl rfl ?_
    refine getfield (q1 := 242) d4_239 rfl (ww hw 38 rfl) Via.refl (B1.2.2.1) ?_
    refine iload (q1 := 244) d4_242 rfl rfl ?_
    refine isub (q1 := 245) d4_244 rfl ?_
    refine arraycopyG (q1 := 248) (za := l1) (zb := l1) (nn := 0) (sn := 0) (dn := n) d4_245 rfl (ww hw 69 rfl) (ww hw 72 rfl) (ww hw 70 rfl) (ww hw 71 rfl) (B1.2.2.2.2.2.2.1) (B1.2.2.2.2.2.2.1) rfl hl1 hl1 rfl rfl (by rw [Int32.zero_add]; exact hc) (by omega) (by omega) (hff) (hff) (wt) rfl rfl (fun h245 f245 K245 A245 F245 => ?_)
    have nta := B1.2.2.2.2.2.2.2
    have na : a ∉ [t1] := nin1 (Ne.symm nta)
    have P2 := P1.keep K245 (nin1 ho1)
    have fe : ∀ j, j < L1 → f245 j = .int (ofV (f245 j)) := fun j hj => fits_ofV (F245 j hj)
    have B2 : Ac Z h245 a t1 L1 0 0 (-1) (fun j => ofV (f245 j)) := ⟨B1.1.keep K245, B1.2.1.keep K245 na, B1.2.2.1.keep K245 na, B1.2.2.2.1.keep K245 na, B1.2.2.2.2.1.keep K245 na, B1.2.2.2.2.2.1.keep K245 na, Ary.cong A245 fe, nta⟩
    refine aload (q1 := 250) d4_248 rfl rfl rfl ?_
    refine ifnull (q1 := 253) (q := 270) d4_250 rfl ⟨by decide, rfl⟩ rfl (fun _ => ?_) (fun hq => absurd rfl hq)
    refine aload_n (q1 := 271) d4_270 rfl rfl rfl ?_
    refine invokevirt (q1 := 274) d4_271 rfl (ww hw 62 rfl) (ww hw 63 rfl) (ww hw 65 rfl) (ww hw 64 rfl) (ww hw 24 rfl) (ww hw 66 rfl) (by decide) pd2 (P2.1) (c_kso hw P2) rfl rfl rfl rfl all0 (fun v h1 q _ => ?_)
    obtain ⟨rfl, rfl⟩ := q
    refine if_eq (q1 := 277) (q := 308) d4_274 rfl ⟨by decide, rfl⟩ (fun hq => absurd hq (by decide)) (fun _ => ?_)
    refine iconst (q1 := 278) (v := 0) d4_277 rfl rfl ?_
    refine istore (q1 := 280) d4_278 rfl rfl ?_
    simp only [List.set_cons_zero, List.set_cons_succ]
    exact loop n 0 0 _ _ (by omega) rfl B2 (fun q hq => absurd hq (by omega)) (fun j hj => by have := F245 j hj; rw [fe j hj] at this; exact this)
  refine aload_n (q1 := 1) d4_0 rfl rfl rfl ?_
  refine invokevirt (q1 := 4) d4_1 rfl (ww hw 31 rfl) (ww hw 32 rfl) (ww hw 34 rfl) (ww hw 33 rfl) (ww hw 4 rfl) (ww hw 35 rfl) (by decide) pd2 (B.1) (c_iss hw B) rfl rfl rfl rfl all0 (fun v h1 q _ => ?_)
  obtain ⟨rfl, rfl⟩ := q
  refine if_ne (q1 := 7) (q := 11) d4_4 rfl ⟨by decide, rfl⟩ (fun _ => ?_) (fun hq => absurd hq (by decide))
  refine iload_n (q1 := 12) d4_11 rfl rfl ?_
  refine iload_n (q1 := 13) d4_12 rfl rfl ?_
  refine icmp_ne (q1 := 16) (q := 24) d4_13 rfl ⟨by decide, rfl⟩ (fun _ => ?_) (fun hq => absurd (congrArg Int32.toInt hq) (by omega))
  refine aload_n (q1 := 25) d4_24 rfl rfl rfl ?_
  refine iload_n (q1 := 26) d4_25 rfl rfl ?_
  refine iconst (q1 := 27) (v := 0) d4_26 rfl rfl ?_
  refine invokepriv (q1 := 30) d4_27 rfl (ww hw 40 rfl) (ww hw 41 rfl) (ww hw 3 rfl) (ww hw 42 rfl) (ww hw 4 rfl) (ww hw 43 rfl) (by decide) pd3 (B.1) (c_iaa hw B (lI := 4) rfl) rfl rfl rfl rfl all0 (fun v h1 q _ => ?_)
  obtain ⟨rfl, rfl⟩ := q
  refine istore (q1 := 32) d4_30 rfl rfl ?_
  simp only [List.set_cons_zero, List.set_cons_succ]
  refine aload_n (q1 := 33) d4_32 rfl rfl rfl ?_
  refine iload_n (q1 := 34) d4_33 rfl rfl ?_
  refine iconst (q1 := 35) (v := 1) d4_34 rfl rfl ?_
  refine iadd (q1 := 36) d4_35 rfl ?_
  refine iload (q1 := 38) d4_36 rfl rfl ?_
  refine invokepriv (q1 := 41) d4_38 rfl (ww hw 40 rfl) (ww hw 41 rfl) (ww hw 3 rfl) (ww hw 42 rfl) (ww hw 4 rfl) (ww hw 43 rfl) (by decide) pd3 (B.1) (c_iaa hw B (lI := 4) rfl) rfl rfl rfl rfl all0 (fun v h1 q _ => ?_)
  obtain ⟨rfl, rfl⟩ := q
  refine istore (q1 := 43) d4_41 rfl rfl ?_
  simp only [List.set_cons_zero, List.set_cons_succ]
  refine iload (q1 := 45) d4_43 rfl rfl ?_
  refine iload (q1 := 47) d4_45 rfl rfl ?_
  refine isub (q1 := 48) d4_47 rfl ?_
  refine istore (q1 := 50) d4_48 rfl rfl ?_
  simp only [List.set_cons_zero, List.set_cons_succ]
  refine aload_n (q1 := 51) d4_50 rfl rfl rfl ?_
  refine invokevirt (q1 := 54) d4_51 rfl (ww hw 55 rfl) (ww hw 56 rfl) (ww hw 58 rfl) (ww hw 57 rfl) (ww hw 24 rfl) (ww hw 59 rfl) (by decide) pd2 (P.1) (c_kbo hw P) rfl rfl rfl rfl all0 (fun v h1 q _ => ?_)
  obtain ⟨rfl, rfl⟩ := q
  refine if_eq (q1 := 57) (q := 62) d4_54 rfl ⟨by decide, rfl⟩ (fun hq => absurd hq (by decide)) (fun _ => ?_)
  refine iload (q1 := 59) d4_57 rfl rfl ?_
  refine goto (q := 63) d4_59 ⟨by decide, rfl⟩ ?_
  refine aload_n (q1 := 64) d4_63 rfl rfl rfl ?_
  refine invokevirt (q1 := 67) d4_64 rfl (ww hw 62 rfl) (ww hw 63 rfl) (ww hw 65 rfl) (ww hw 64 rfl) (ww hw 24 rfl) (ww hw 66 rfl) (by decide) pd2 (P.1) (c_kso hw P) rfl rfl rfl rfl all0 (fun v h1 q _ => ?_)
  obtain ⟨rfl, rfl⟩ := q
  refine if_eq (q1 := 70) (q := 81) d4_67 rfl ⟨by decide, rfl⟩ (fun hq => absurd hq (by decide)) (fun _ => ?_)
  refine iload_n (q1 := 71) d4_70 rfl rfl ?_
  refine iload_n (q1 := 72) d4_71 rfl rfl ?_
  refine isub (q1 := 73) d4_72 rfl ?_
  refine iconst (q1 := 74) (v := 1) d4_73 rfl rfl ?_
  refine iadd (q1 := 75) d4_74 rfl ?_
  refine iload (q1 := 77) d4_75 rfl rfl ?_
  refine isub (q1 := 78) d4_77 rfl ?_
  refine goto (q := 82) d4_78 ⟨by decide, rfl⟩ ?_
  refine iadd (q1 := 83) d4_82 rfl ?_
  refine istore (q1 := 85) d4_83 rfl rfl ?_
  simp only [List.set_cons_zero, List.set_cons_succ]
  refine aload_n (q1 := 86) d4_85 rfl rfl rfl ?_
  refine getfield (q1 := 89) d4_86 rfl (ww hw 38 rfl) Via.refl (B.2.2.1) ?_
  refine iload (q1 := 91) d4_89 rfl rfl ?_
  refine isub (q1 := 92) d4_91 rfl ?_
  refine iload (q1 := 94) d4_92 rfl rfl ?_
  refine iadd (q1 := 95) d4_94 rfl ?_
  refine istore (q1 := 97) d4_95 rfl rfl ?_
  simp only [List.set_cons_zero, List.set_cons_succ]
  refine iload (q1 := 99) d4_97 rfl rfl ?_
  refine sipush (q1 := 102) (v := 4096) d4_99 rfl rfl ?_
  have e7 : (0 : Int32) - 0 + (la - fi + 1 - (0 - 0)) = la - fi + 1 := by
    have : (0 : Int32) - 0 = 0 := rfl
    rw [this]; simp
  have e8 : (0 : Int32) - (0 - 0) + (0 - 0 + (la - fi + 1 - (0 - 0))) = la - fi + 1 := by
    rw [e7]; have : (0 : Int32) - (0 - 0) = 0 := rfl
    rw [this]; simp
  rw [e8, e7]
  have hc : (la - fi + 1).toInt = (n : Int) := by
    have a1 := own_sub (x := la) (y := fi) rfl rfl (by omega) (by omega)
    rw [own_add a1 one (by omega) (by omega)]; omega
  generalize la - fi + 1 = cI at *
  refine icmp_le (q1 := 105) (q := 134) d4_102 rfl ⟨by decide, rfl⟩ (fun _ => ?_) (fun hq => absurd hq (by rw [own_lt, hc, e4]; omega))
  refine aload_n (q1 := 135) d4_134 rfl rfl rfl ?_
  refine invokevirt (q1 := 138) d4_135 rfl (ww hw 62 rfl) (ww hw 63 rfl) (ww hw 65 rfl) (ww hw 64 rfl) (ww hw 24 rfl) (ww hw 66 rfl) (by decide) pd2 (P.1) (c_kso hw P) rfl rfl rfl rfl all0 (fun v h1 q _ => ?_)
  obtain ⟨rfl, rfl⟩ := q
  refine if_eq (q1 := 141) (q := 163) d4_138 rfl ⟨by decide, rfl⟩ (fun hq => absurd hq (by decide)) (fun _ => ?_)
  refine aload_n (q1 := 142) d4_141 rfl rfl rfl ?_
  refine invokevirt (q1 := 145) d4_142 rfl (ww hw 55 rfl) (ww hw 56 rfl) (ww hw 58 rfl) (ww hw 57 rfl) (ww hw 24 rfl) (ww hw 59 rfl) (by decide) pd2 (P.1) (c_kbo hw P) rfl rfl rfl rfl all0 (fun v h1 q _ => ?_)
  obtain ⟨rfl, rfl⟩ := q
  refine if_ne (q1 := 148) (q := 163) d4_145 rfl ⟨by decide, rfl⟩ (fun _ => ?_) (fun hq => absurd hq (by decide))
  refine aconst_null (q1 := 164) d4_163 rfl ?_
  refine astore (q1 := 166) d4_164 rfl rfl rfl ?_
  simp only [List.set_cons_zero, List.set_cons_succ]
  refine aload_n (q1 := 167) d4_166 rfl rfl rfl ?_
  refine getfield (q1 := 170) d4_167 rfl (ww hw 18 rfl) Via.refl (B.2.2.2.2.2.1) ?_
  refine iconst (q1 := 171) (v := -1) d4_170 rfl rfl ?_
  refine icmp_ne (q1 := 174) (q := 178) d4_171 rfl ⟨by decide, rfl⟩ (fun hq => absurd rfl hq) (fun _ => ?_)
  refine iconst (q1 := 175) (v := 0) d4_174 rfl rfl ?_
  refine goto (q := 195) d4_175 ⟨by decide, rfl⟩ ?_
  refine istore (q1 := 197) d4_195 rfl rfl ?_
  simp only [List.set_cons_zero, List.set_cons_succ]
  refine iload (q1 := 199) d4_197 rfl rfl ?_
  refine aload_n (q1 := 200) d4_199 rfl rfl rfl ?_
  refine getfield (q1 := 203) d4_200 rfl (ww hw 21 rfl) Via.refl (B.2.1) ?_
  refine arraylength (q1 := 204) (z := 4) d4_203 rfl (B.2.2.2.2.2.2.1) rfl ?_
  have e44 : (4 : Int32).toInt = 4 := rfl
  refine icmp_le (q1 := 207) (q := 223) d4_204 rfl ⟨by decide, rfl⟩ (fun hle => ?_) (fun hgt => ?_)
  · refine more (k' := 1) (n' := 4103) (by decide) (by decide) ?_
    exact fill cI 4 _ t 4 f0 hc rfl B (by rw [own_lt, e44, hc] at hle; omega) hf0 P (Or.inl rfl) hot
  · rw [own_lt, e44, hc] at hgt
    refine aload_n (q1 := 208) d4_207 rfl rfl rfl ?_
    refine aload_n (q1 := 209) d4_208 rfl rfl rfl ?_
    refine getfield (q1 := 212) d4_209 rfl (ww hw 21 rfl) Via.refl (B.2.1) ?_
    refine iload (q1 := 214) d4_212 rfl rfl ?_
    refine invokestatic (q1 := 217) d4_214 rfl (ww hw 118 rfl) (ww hw 119 rfl) (ww hw 4 rfl) (ww hw 120 rfl) (by decide) pd9 (c_grl hw (n := n) hc (by omega)) rfl rfl rfl rfl all0 (fun v h1 q _ => ?_)
    obtain ⟨r, rfl, er, rfl⟩ := q
    have g1 : n ≤ grown n := by unfold grown; omega
    have g2 : grown n ≤ 4103 := by unfold grown; omega
    refine invokestatic (q1 := 220) d4_217 rfl (ww hw 128 rfl) (ww hw 129 rfl) (ww hw 47 rfl) (ww hw 130 rfl) (by decide) pd12 (c_cpc hw B.2.2.2.2.2.2.1 hf0 (lI := 4) rfl er (by omega) g2) rfl rfl rfl rfl all0 (fun v h2 q K => ?_)
    obtain ⟨rfl, f', A, hff, hft⟩ := q
    have B2 := B.keep K nin0' nin0'
    have P2 := P.keep K nin0'
    refine putfield (q1 := 223) d4_220 rfl (ww hw 21 rfl) Via.refl (B2.2.1) (B2.1) (Or.inl (ww hw 22 rfl)) (ww hw 3 rfl) (ty := (.array .char)) (by decide) rfl rfl (Or.inl own_in1) (fun h220 W220 => ?_)
    have ne : h1.size ≠ a := Nat.ne_of_gt B.1.lt
    exact fill cI r h220 _ (grown n) f' hc er ⟨B2.1.wr W220, B2.2.1.same W220, B2.2.2.1.other W220 (Or.inr (slot_ne (Or.inl (ww hw 39 rfl)) (Or.inl (ww hw 22 rfl)) (by decide) (t := .int) (t' := (.array .char)) (by decide) (by decide))), B2.2.2.2.1.other W220 (Or.inr (slot_ne (Or.inl (ww hw 37 rfl)) (Or.inl (ww hw 22 rfl)) (by decide) (t := .int) (t' := (.array .char)) (by decide) (by decide))), B2.2.2.2.2.1.other W220 (Or.inr (slot_ne (Or.inl (ww hw 17 rfl)) (Or.inl (ww hw 22 rfl)) (by decide) (t := .short) (t' := (.array .char)) (by decide) (by decide))), B2.2.2.2.2.2.1.other W220 (Or.inr (slot_ne (Or.inl (ww hw 19 rfl)) (Or.inl (ww hw 22 rfl)) (by decide) (t := .int) (t' := (.array .char)) (by decide) (by decide))), Ary.other A W220 ne, ne⟩ g1 hft ⟨P2.1.wr W220, P2.2.1.other W220 (Or.inl hoa), P2.2.2.other W220 (Or.inl hoa)⟩ (Or.inr (Nat.le_refl _)) (Nat.ne_of_lt P.1.lt)
theorem own_cc (p : Int32) : ∃ n : Nat, (2 + (p &&& 2147483647) % 4094 : Int32).toInt = (n : Int) ∧ 2 ≤ n ∧ n ≤ 4095 := by
  have m := c_mask p 2147483647 31 (by decide) (by decide)
  have r := (c_irem (p &&& 2147483647) 4094 4094 rfl).1 (by omega)
  have two : (2 : Int32).toInt = 2 := rfl
  have q := own_add two r (by omega) (by omega)
  exact ⟨(2 + (p &&& 2147483647) % 4094 : Int32).toInt.toNat, by omega, by omega, by omega⟩
theorem own_ll {cI : Int32} {n : Nat} (hc : cI.toInt = (n : Int)) (h2 : 2 ≤ n) (hb : n ≤ 4095) (p : Int32) : (65537 - cI : Int32) ≠ 0 ∧ (n : Int) - 1 ≤ (cI - 1 + (p &&& 2147483647) % (65537 - cI)).toInt ∧ (cI - 1 + (p &&& 2147483647) % (65537 - cI)).toInt ≤ 65535 := by
  have m := c_mask p 2147483647 31 (by decide) (by decide)
  have e6 : (65537 : Int32).toInt = 65537 := rfl
  have one : (1 : Int32).toInt = 1 := rfl
  have z0 : (0 : Int32).toInt = 0 := rfl
  have d := own_sub e6 hc (by omega) (by omega)
  have r := (c_iremV (p &&& 2147483647) (65537 - cI)).1 (by omega) (by omega)
  have u := own_sub hc one (by omega) (by omega)
  have v := own_add u (y := (p &&& 2147483647) % (65537 - cI)) rfl (by omega) (by omega)
  refine ⟨fun q => ?_, by omega, by omega⟩
  have := congrArg Int32.toInt q
  omega
set_option maxRecDepth 65536 in
set_option maxHeartbeats 40000000 in
theorem law {l : Launch} {Z : State} {a0 : Array Value} (hw : ∀ d ∈ tables_1, d.before a0 Z = true) {n0 : Nat} {h0 : Heap} {p1 p2 p3 p4 p5 : Int32} {o ka kr : Addr} (KO : Sta Z Z.heap "cobblebit/terms/Operation" "OR" "Lcobblebit/terms/Operation;" (.ref o)) (KA : Sta Z Z.heap "cobblebit/terms/ContainerKind" "ARRAY" "Lcobblebit/terms/ContainerKind;" (.ref ka)) (KR : Sta Z Z.heap "cobblebit/terms/ContainerKind" "RUN" "Lcobblebit/terms/ContainerKind;" (.ref kr)) (hk : ka ≠ kr) (P0 : Opr Z Z.heap o) : Con l Z n0 x code maxLocals ret room_1 [.int p1, .int p2, .int p3, .int p4, .int p5] h0 [] (fun v h' => v = some (.int 1)) := by
  refine Con.of (Ls := [.val (.int p1), .val (.int p2), .val (.int p3), .val (.int p4), .val (.int p5), .unset, .unset, .unset, .unset, .unset, .unset, .unset]) (by decide +kernel) (fun m => by first | (simp [entryFrame, mkF, argsToLocals, Value.category, maxLocals]; done) | (rcases ref_cases hrw with rfl | ⟨b, rfl⟩ <;> rfl) | rfl) (fun p e s m below meth c => ?_)
  show Wp false p l e room_1 s m ([.int p1, .int p2, .int p3, .int p4, .int p5] : List Value).toArray below meth c Z "cobblebit/container/ArrayContainerTakesUnsortedPinLaw" "law" code maxLocals (some .boolean) n0 h0 [] (fun v h _ => (fun v h' => v = some (.int 1)) v h) (fun _ => True) h0 0 0 0 [.val (.int p1), .val (.int p2), .val (.int p3), .val (.int p4), .val (.int p5), .unset, .unset, .unset, .unset, .unset, .unset, .unset] []
  have one : (1 : Int32).toInt = 1 := rfl
  have main : ∀ (cI la fi lo un : Int32) (n : Nat), cI.toInt = (n : Int) → 2 ≤ n → n ≤ 4095 → 0 ≤ fi.toInt → la.toInt - fi.toInt + 1 = (n : Int) → la.toInt ≤ 65535 → (un = 0 ∨ un = 1) → Wp false p l e room_1 s m ([.int p1, .int p2, .int p3, .int p4, .int p5] : List Value).toArray below meth c Z "cobblebit/container/ArrayContainerTakesUnsortedPinLaw" "law" code maxLocals (some .boolean) n0 h0 [] (fun v h _ => (fun v h' => v = some (.int 1)) v h) (fun _ => True) h0 0 0 56 [.val (.int p1), .val (.int p2), .val (.int p3), .val (.int p4), .val (.int p5), .val (.int cI), .val (.int la), .val (.int fi), .val (.int lo), .val (.int un), .unset, .unset] [] := by
    intro cI la fi lo un n hc h2 hb h0f hn hla hun
    have fin : ∀ (ex : Int32) (h : Heap) (av t : Addr) (L : Nat) (cd so rn : Int32) (f : Nat → Int32) (q : Nat), Ac Z h av t L cd so rn f → cd.toInt = (q : Int) → 0 < q → q ≤ L → q ≤ 5000 → (if so = cd then (if cd < 128 then 0 else if (2048 : Int32) < cd then 0 else if lo < f (q - 1) then 1 else 0) else 1) = ex → Wp false p l e room_1 s m ([.int p1, .int p2, .int p3, .int p4, .int p5] : List Value).toArray below meth c Z "cobblebit/container/ArrayContainerTakesUnsortedPinLaw" "law" code maxLocals (some .boolean) n0 h0 [] (fun v h _ => (fun v h' => v = some (.int 1)) v h) (fun _ => True) h 24 10368 132 [.val (.int p1), .val (.int p2), .val (.int p3), .val (.int p4), .val (.int p5), .val (.int cI), .val (.int la), .val (.int fi), .val (.int lo), .val (.int un), .val (.ref av), .val (.int ex)] [] := by
      intro ex h av t L cd so rn f q B hq q0 qL q5 hex
      refine aload (q1 := 134) at_132 rfl rfl rfl ?_
      refine iload (q1 := 136) at_134 rfl rfl ?_
      refine invokevirt (q1 := 139) at_136 rfl (ww hw 113 rfl) (ww hw 114 rfl) (ww hw 116 rfl) (ww hw 115 rfl) (ww hw 4 rfl) (ww hw 117 rfl) (by decide) pd11 (B.1) (c_tun hw B hq q0 qL q5) rfl rfl rfl rfl all0 (fun v h1 q _ => ?_)
      obtain ⟨rfl, rfl⟩ := q
      refine iload (q1 := 141) at_139 rfl rfl ?_
      refine icmp_ne (q1 := 144) (q := 148) at_141 rfl ⟨by decide, rfl⟩ (fun hq => absurd hex hq) (fun _ => ?_)
      refine iconst (q1 := 145) (v := 1) at_144 rfl rfl ?_
      refine goto (q := 149) at_145 ⟨by decide, rfl⟩ ?_
      refine ret_n (t := .boolean) at_149 rfl (by simp) rfl (fun _ _ => rfl)
    refine kept fun K0 O0 => ?_
    have P := P0.ext O0.2
    refine new (q1 := 59) at_56 rfl (ww hw 2 rfl) (ww hw 3 rfl) (ww hw 4 rfl) (by decide) (by decide) (fun S56 h56 E56 X56 D56 U56 => ?_)
    refine Jvm.OwnWp.dup (q1 := 60) at_59 rfl rfl ?_
    refine invokespecial (q1 := 63) at_60 rfl rfl (ww hw 5 rfl) (ww hw 6 rfl) (ww hw 4 rfl) (ww hw 7 rfl) (by decide) pd0 (c_aci hw X56 (D56 (Or.inl (ww hw 17 rfl)) (ty := .short) (by decide)) (D56 (Or.inl (ww hw 19 rfl)) (ty := .int) (by decide)) (D56 (Or.inl (ww hw 22 rfl)) (ty := .array .char) (by decide)) (D56 (Or.inl (ww hw 39 rfl)) (ty := .int) (by decide)) (D56 (Or.inl (ww hw 37 rfl)) (ty := .int) (by decide))) rfl rfl rfl rfl (allS (Or.inr S56) all0) (fun v h60 q K60 => ?_)
    obtain ⟨rfl, B⟩ := q
    have lo0 : @LT.lt Nat _ o h0.size := P.1.lt
    have l56 : @LT.lt Nat _ h0.size h56.size := X56.lt
    have no1 : o ≠ h0.size := Nat.ne_of_lt lo0
    have no2 : o ≠ h56.size := Nat.ne_of_lt (Nat.lt_trans lo0 l56)
    have P2 : Opr Z h60 o := (P.ext E56).keep K60 (nin1 no1)
    refine astore (q1 := 65) at_63 rfl rfl rfl ?_
    simp only [List.set_cons_zero, List.set_cons_succ]
    refine aload (q1 := 67) at_65 rfl rfl rfl ?_
    refine kept fun K1 O1 => ?_
    refine getstatic (q1 := 70) at_67 rfl (ww hw 23 rfl) Via.refl (KO.ext O1.2) ?_
    refine iload (q1 := 72) at_70 rfl rfl ?_
    refine iload (q1 := 74) at_72 rfl rfl ?_
    refine invokevirt (q1 := 77) at_74 rfl (ww hw 26 rfl) (ww hw 27 rfl) (ww hw 29 rfl) (ww hw 28 rfl) (ww hw 4 rfl) (ww hw 30 rfl) (by decide) pd1 (B.1) (c_edr hw KA KR hk P2 B (fun _ _ => rfl) h0f hn h2 hb hla no1 no2) rfl rfl rfl rfl (allS (Or.inr S56) (allS (Or.inr (Nat.le_of_lt l56)) all0)) (fun v h74 q K74 => ?_)
    obtain ⟨x, rfl, t', L', c2, lI, f', hc2, hl, B2, hL, hfl, hft, ht⟩ := q
    have ec : c2 = cI := own_eq (by rw [hc2, hc])
    subst ec
    have el : f' (n - 1) = la := own_eq (by rw [hfl, vF_toInt h0f (by omega)]; omega)
    have ht' : h0.size ≤ t' := ht.elim (fun e => by rw [e]; exact Nat.le_of_lt l56) (fun e => Nat.le_trans (Nat.le_of_lt l56) (Nat.le_trans (Nat.le_of_lt (Ary.lt B.2.2.2.2.2.2.1)) e))
    refine Jvm.OwnWp.pop (q1 := 78) at_77 rfl rfl ?_
    refine iload (q1 := 80) at_78 rfl rfl ?_
    rcases hun with rfl | rfl
    · refine if_eq (q1 := 83) (q := 91) at_80 rfl ⟨by decide, rfl⟩ (fun _ => ?_) (fun hq => absurd rfl hq)
      refine iload (q1 := 93) at_91 rfl rfl ?_
      refine if_eq (q1 := 96) (q := 102) at_93 rfl ⟨by decide, rfl⟩ (fun _ => ?_) (fun hq => absurd rfl hq)
      refine iload (q1 := 104) at_102 rfl rfl ?_
      refine sipush (q1 := 107) (v := 128) at_104 rfl rfl ?_
      refine more (k' := 24) (n' := 10368) (by decide) (by decide) ?_
      refine icmp_lt (q1 := 110) (q := 129) at_107 rfl ⟨by decide, rfl⟩ (fun q1 => ?_) (fun q1 => ?_)
      · refine iconst (q1 := 130) (v := 0) at_129 rfl rfl ?_
        refine istore (q1 := 132) at_130 rfl rfl ?_
        simp only [List.set_cons_zero, List.set_cons_succ]
        exact fin 0 _ _ _ _ _ _ _ _ n B2 hc2 (by omega) hL (by omega) (by rw [if_pos rfl, if_pos q1])
      · refine iload (q1 := 112) at_110 rfl rfl ?_
        refine sipush (q1 := 115) (v := 2048) at_112 rfl rfl ?_
        refine icmp_gt (q1 := 118) (q := 129) at_115 rfl ⟨by decide, rfl⟩ (fun q2 => ?_) (fun q2 => ?_)
        · refine iconst (q1 := 130) (v := 0) at_129 rfl rfl ?_
          refine istore (q1 := 132) at_130 rfl rfl ?_
          simp only [List.set_cons_zero, List.set_cons_succ]
          exact fin 0 _ _ _ _ _ _ _ _ n B2 hc2 (by omega) hL (by omega) (by rw [if_pos rfl, if_neg q1, if_pos q2])
        · refine iload (q1 := 120) at_118 rfl rfl ?_
          refine iload (q1 := 122) at_120 rfl rfl ?_
          refine icmp_ge (q1 := 125) (q := 129) at_122 rfl ⟨by decide, rfl⟩ (fun q3 => ?_) (fun q3 => ?_)
          · refine iconst (q1 := 130) (v := 0) at_129 rfl rfl ?_
            refine istore (q1 := 132) at_130 rfl rfl ?_
            simp only [List.set_cons_zero, List.set_cons_succ]
            exact fin 0 _ _ _ _ _ _ _ _ n B2 hc2 (by omega) hL (by omega) (by rw [if_pos rfl, if_neg q1, if_neg q2, el, if_neg q3])
          · refine iconst (q1 := 126) (v := 1) at_125 rfl rfl ?_
            refine goto (q := 130) at_126 ⟨by decide, rfl⟩ ?_
            refine istore (q1 := 132) at_130 rfl rfl ?_
            simp only [List.set_cons_zero, List.set_cons_succ]
            exact fin 1 _ _ _ _ _ _ _ _ n B2 hc2 (by omega) hL (by omega) (by rw [if_pos rfl, if_neg q1, if_neg q2, el, if_pos q3])
    · refine if_eq (q1 := 83) (q := 91) at_80 rfl ⟨by decide, rfl⟩ (fun hq => absurd hq (by decide)) (fun _ => ?_)
      refine aload (q1 := 85) at_83 rfl rfl rfl ?_
      refine iload_n (q1 := 86) at_85 rfl rfl ?_
      refine i2c (q1 := 87) at_86 rfl ?_
      refine invokevirt (q1 := 90) at_87 rfl (ww hw 232 rfl) (ww hw 233 rfl) (ww hw 235 rfl) (ww hw 234 rfl) (ww hw 4 rfl) (ww hw 236 rfl) (by decide) pd23 (B2.1) (c_adu hw B2 hc2 hl hL hb hft) rfl rfl rfl rfl (allS (Or.inr S56) (allS (Or.inr ht') all0)) (fun v h87 q K87 => ?_)
      obtain ⟨y, rfl, t2, L2, f2, B3, hlt⟩ := q
      have hc3 := own_succ hc2 (by omega)
      refine Jvm.OwnWp.pop (q1 := 91) at_90 rfl rfl ?_
      refine iload (q1 := 93) at_91 rfl rfl ?_
      refine if_eq (q1 := 96) (q := 102) at_93 rfl ⟨by decide, rfl⟩ (fun hq => absurd hq (by decide)) (fun _ => ?_)
      refine iconst (q1 := 97) (v := 1) at_96 rfl rfl ?_
      refine istore (q1 := 99) at_97 rfl rfl ?_
      simp only [List.set_cons_zero, List.set_cons_succ]
      refine goto (q := 132) at_99 ⟨by decide, rfl⟩ ?_
      refine more (k' := 24) (n' := 10368) (by decide) (by decide) ?_
      exact fin 1 _ _ _ _ _ _ _ _ (n + 1) B3 hc3 (by omega) hlt (by omega) (by rw [if_neg (fun e => absurd (congrArg Int32.toInt e) (by rw [hc3, hc2]; omega))])
  obtain ⟨n, hc, h2, hb⟩ := own_cc p1
  refine iconst (q1 := 1) (v := 2) at_0 rfl rfl ?_
  refine iload_n (q1 := 2) at_1 rfl rfl ?_
  refine ldcI (q1 := 4) at_2 rfl (ww hw 0 rfl) ?_
  refine iand (q1 := 5) at_4 rfl ?_
  refine sipush (q1 := 8) (v := 4094) at_5 rfl rfl ?_
  refine irem (q1 := 9) at_8 rfl (by decide) ?_
  refine iadd (q1 := 10) at_9 rfl ?_
  generalize (2 + (p1 &&& 2147483647) % 4094 : Int32) = cI at *
  obtain ⟨d0, l1, l2⟩ := own_ll hc h2 hb p2
  refine istore (q1 := 12) at_10 rfl rfl ?_
  simp only [List.set_cons_zero, List.set_cons_succ]
  refine iload (q1 := 14) at_12 rfl rfl ?_
  refine iconst (q1 := 15) (v := 1) at_14 rfl rfl ?_
  refine isub (q1 := 16) at_15 rfl ?_
  refine iload_n (q1 := 17) at_16 rfl rfl ?_
  refine ldcI (q1 := 19) at_17 rfl (ww hw 0 rfl) ?_
  refine iand (q1 := 20) at_19 rfl ?_
  refine ldcI (q1 := 22) at_20 rfl (ww hw 1 rfl) ?_
  refine iload (q1 := 24) at_22 rfl rfl ?_
  refine isub (q1 := 25) at_24 rfl ?_
  refine irem (q1 := 26) at_25 rfl d0 ?_
  refine iadd (q1 := 27) at_26 rfl ?_
  generalize (cI - 1 + (p2 &&& 2147483647) % (65537 - cI) : Int32) = la at *
  have s1 := own_sub (x := la) rfl hc (by omega) (by omega)
  have s2 := own_add s1 one (by omega) (by omega)
  refine istore (q1 := 29) at_27 rfl rfl ?_
  simp only [List.set_cons_zero, List.set_cons_succ]
  refine iload (q1 := 31) at_29 rfl rfl ?_
  refine iload (q1 := 33) at_31 rfl rfl ?_
  refine isub (q1 := 34) at_33 rfl ?_
  refine iconst (q1 := 35) (v := 1) at_34 rfl rfl ?_
  refine iadd (q1 := 36) at_35 rfl ?_
  refine istore (q1 := 38) at_36 rfl rfl ?_
  simp only [List.set_cons_zero, List.set_cons_succ]
  refine iload_n (q1 := 39) at_38 rfl rfl ?_
  refine i2c (q1 := 40) at_39 rfl ?_
  refine istore (q1 := 42) at_40 rfl rfl ?_
  simp only [List.set_cons_zero, List.set_cons_succ]
  refine iload (q1 := 44) at_42 rfl rfl ?_
  refine iconst (q1 := 45) (v := 1) at_44 rfl rfl ?_
  refine iand (q1 := 46) at_45 rfl ?_
  refine if_eq (q1 := 49) (q := 53) at_46 rfl ⟨by decide, rfl⟩ (fun _ => ?_) (fun _ => ?_)
  · refine iconst (q1 := 54) (v := 0) at_53 rfl rfl ?_
    refine istore (q1 := 56) at_54 rfl rfl ?_
    simp only [List.set_cons_zero, List.set_cons_succ]
    exact main cI la _ _ 0 n hc h2 hb (by omega) (by omega) (by omega) (Or.inl rfl)
  · refine iconst (q1 := 50) (v := 1) at_49 rfl rfl ?_
    refine goto (q := 54) at_50 ⟨by decide, rfl⟩ ?_
    refine istore (q1 := 56) at_54 rfl rfl ?_
    simp only [List.set_cons_zero, List.set_cons_succ]
    exact main cI la _ _ 1 n hc h2 hb (by omega) (by omega) (by omega) (Or.inr rfl)
theorem own_fi {args : Array Value} {s : State} {t : Term} {C n d : String} {o : Addr} {k : Int32} (et : t.eval args s none [] s = some (.ref o)) (h : (Cond.eq (Term.field t C n d) (Term.int k)).value args s none s [] = some true) : Fld s s.heap o C n d (.int k) := by
  have q := fld_at (C := C) (n := n) (dd := d) et
  cases hv : s.fieldOf? o C n d with
  | none => rw [hv] at q; simp [Cond.value, q] at h
  | some x =>
    rw [hv] at q
    have z := Term.int_eval (args := args) (first := s) (o := none) (idx := []) (s := s) k
    cases x <;> simp [Cond.value, q, z] at h
    subst h
    exact Fld.start hv
set_option maxRecDepth 65536 in
set_option maxHeartbeats 40000000 in
theorem comes_1 {Post : Tables → Env → Array Value → State → Outcome → State → Prop} (hpost : ∀ tb e args s v u, (limb_1_1.after args s (.returned v) u = true ∧ limb_1_2.after args s (.returned v) u = true ∧ True) → FrameEnd s (.returned v) u (Jvm.fieldLocs frame_1_writes args s ++ Jvm.arrayLocs frame_1_arrays args s ++ Jvm.staticLocs frame_1_statics s) 24 10368 → Post tb e args s (.returned v) u) :
    ArmFor flags0 classFile x code maxLocals ret World_1 tables_1 room_1 Calls_1 rest_1 Pre_1 Post := by
  intro l hfl _ _ p e ha hc hk s m args below hf hA hF happ hP
  obtain ⟨hcalls, hrest, hpre⟩ := hP
  obtain ⟨-, -, -, hnamed, -, -, -, hat⟩ := (Spec.applies_iff hf).mp happ
  obtain ⟨hg, hn⟩ := and_e (Cond.before_iff.mp (show (Jvm.Cond.and given_1 narrow_1).before args s = true from hpre))
  obtain ⟨g1, g2⟩ := and_e hg
  obtain ⟨g3, g4⟩ := and_e g2
  obtain ⟨g5, g6⟩ := and_e g4
  obtain ⟨g7, g8⟩ := and_e g6
  obtain ⟨g9, g10⟩ := and_e g8
  obtain ⟨w0, w1, w2, w3, w4, rfl⟩ : ∃ w0 w1 w2 w3 w4 : Value, args = #[w0, w1, w2, w3, w4] := by
    have hs : args.size = 5 := by simpa [Cond.value, given_1] using g1
    obtain ⟨L⟩ := args
    match L, hs with
    | [w0, w1, w2, w3, w4], _ => exact ⟨w0, w1, w2, w3, w4, rfl⟩
  have hw := fun d (hd : d ∈ tables_1) => atoms_spec (ws := Jvm.Cond.code x code maxLocals ret :: tables_1) hat d (List.mem_cons_of_mem _ hd)
  have hfit : Fit s := fun {y c} hc i hi => by
    obtain ⟨ha, rfl⟩ := Array.getElem?_eq_some_iff.mp hc
    have q := List.all_eq_true.mp ((Array.all_eq_true_iff_forall_mem.mp hF) _ (Array.getElem_mem ha)) i (List.mem_range.mpr hi)
    simpa [Array.getElem?_eq_getElem hi] using q
  obtain ⟨i0, ei0⟩ := is_v g3
  obtain rfl : w0 = (.int i0) := Option.some.inj ei0
  obtain ⟨i1, ei1⟩ := is_v g5
  obtain rfl : w1 = (.int i1) := Option.some.inj ei1
  obtain ⟨i2, ei2⟩ := is_v g7
  obtain rfl : w2 = (.int i2) := Option.some.inj ei2
  obtain ⟨i3, ei3⟩ := is_v g9
  obtain rfl : w3 = (.int i3) := Option.some.inj ei3
  obtain ⟨i4, ei4⟩ := is_v g10
  obtain rfl : w4 = (.int i4) := Option.some.inj ei4
  obtain ⟨n1, hn⟩ := and_e hn
  obtain ⟨n2, hn⟩ := and_e hn
  obtain ⟨n3, hn⟩ := and_e hn
  obtain ⟨n4, hn⟩ := and_e hn
  obtain ⟨n5, hn⟩ := and_e hn
  obtain ⟨n6, n7⟩ := and_e hn
  obtain ⟨o, eo⟩ := exa_v n1
  obtain ⟨ka, ea⟩ := exa_v n4
  obtain ⟨kr, er⟩ := exa_v n5
  have KO : Sta s s.heap "cobblebit/terms/Operation" "OR" "Lcobblebit/terms/Operation;" (.ref o) := Sta.start eo (Or.inr ⟨(ww hw 24 rfl), (ww hw 25 rfl)⟩)
  have KA : Sta s s.heap "cobblebit/terms/ContainerKind" "ARRAY" "Lcobblebit/terms/ContainerKind;" (.ref ka) := Sta.start ea (Or.inr ⟨(ww hw 109 rfl), (ww hw 110 rfl)⟩)
  have KR : Sta s s.heap "cobblebit/terms/ContainerKind" "RUN" "Lcobblebit/terms/ContainerKind;" (.ref kr) := Sta.start er (Or.inr ⟨(ww hw 109 rfl), (ww hw 112 rfl)⟩)
  have hkk : ka ≠ kr := (own_fi ea n6).ne (own_fi er n7) (by decide)
  have P0 : Opr s s.heap o := ⟨exa_at eo n1, own_fi eo n2, own_fi eo n3⟩
  obtain ⟨n, o, h1, h2, h3, _, L, rfl, ⟨rfl, N, -⟩, hq⟩ := law (l := l) hw (p1 := i0) (p2 := i1) (p3 := i2) (p4 := i3) (p5 := i4) KO KA KR hkk P0 (Old.start s) all0 tables_1 p e ha hc hk s m _ below hf ((Spec.applies_iff_loose hf).mp happ).1 ⟨rfl, State.Warmed39.refl s, rfl⟩ trivial
  refine ⟨n, _, h1, h2, h3, hpost _ _ _ _ _ _ ⟨Cond.after_iff.mpr rfl, Cond.after_iff.mpr (eq_i res_at (Term.int_eval (1)) rfl), trivial⟩ ⟨hq.1, hq.2.1, (hq.2.2.sift fun y hy => Or.inr ((N y hy).elim (fun q => nomatch q) id)).mono (by decide) (by decide)⟩⟩
theorem main_1_1 : Claimed_1_1 := comes_1 fun _ _ _ _ _ _ h hF => ⟨h.1, hF⟩
theorem main_1_2 : Claimed_1_2 := comes_1 fun _ _ _ _ _ _ h hF => ⟨h.2.1, hF⟩
end Jvm.Pilot.@@N@@
namespace Jvm.Pilot.@@N@@
open Jvm Jvm.ClassFile Sem Op Lib Jvm.Free Jvm.Stand Jvm.Pilot.@@N@@.Jvm.D
/-! MADE BY PROGRAM (witnessworld.py) out of the Statement's table words and the real class files: 31 classes; the members and pool entries that the words name. The judged class is class 1, her method 1. -/
namespace start1
open Jvm.ClassFile
def u (s : String) : CpInfo := .utf8 (stringToUtf16 s)
/-- a pool by its gaps: so many unusable entries, then the entry; so many at the end -/
def gap : Nat → List CpInfo → List CpInfo
  | 0, r => r
  | n + 1, r => .unusable :: gap n r
def poolList (es : List (Nat × CpInfo)) (last : Nat) : List CpInfo := es.foldr (fun e r => gap e.1 (e.2 :: r)) (gap last [])
def pool (es : List (Nat × CpInfo)) (last : Nat) : Array CpInfo := ⟨poolList es last⟩
def fileOf (pool : Array CpInfo) (this : Nat) (attrs : Array Attribute := #[]) (ms : Array MethodInfo := #[]) (fl : Nat := 33) (sup : Nat := 0) (ifs : Array Nat := #[]) (fds : Array FieldInfo := #[]) : ClassFile where
  minorVersion := 0
  majorVersion := 65
  constantPool := pool
  accessFlags := fl
  thisClass := this
  superClass := sup
  interfaces := ifs
  fields := fds
  methods := ms
  attributes := attrs
def plain (name : String) (sup : Option ClassId) : Class where
  name := name
  kind := .ordinary
  loader := none
  accessFlags := 33
  super := sup
  interfaces := #[]
  cf := none
  fields := #[]
  methods := #[]
  instanceTypes := #[]
  staticTypes := #[]
  resolved := #[]
  callSites := []
  init := .initialized
  statics := none
  mirror := none

def pool0 : Array CpInfo := pool [(5, u "<init>"), (0, u "()V"), (1, .class_ 10), (1, u "java/lang/Object")] 113

def k0c0 : Code := { maxStack := 0, maxLocals := 1, code := object_method_1_code, exceptionTable := #[], attributes := #[] }
def k0m0 : Method := { name := "<init>", desc := "()V", sig := { parameters := [], returnType := none }, accessFlags := 1, code := some k0c0 }
/-- java/lang/Object -/
def k0 : Class := { plain "java/lang/Object" none with
  accessFlags := 33
  interfaces := #[]
  cf := some (fileOf pool0 8 #[] #[{ accessFlags := 1, nameIndex := 5, descriptorIndex := 6, attributes := #[] }] 33 0 #[] #[])
  fields := #[]
  methods := #[k0m0]
  instanceTypes := #[]
  staticTypes := #[]
  resolved := Array.replicate 124 none
  statics := none }

def pool1 : Array CpInfo := pool [(2, .class_ 4), (0, .nameAndType 5 6), (0, u "java/lang/Object"), (0, u "<init>"), (0, u "()V"), (0, .integer 2147483647), (0, .integer 65537), (0, .class_ 10), (0, u "cobblebit/container/ArrayContainer"), (0, .methodref 9 3), (0, .fieldref 13 14), (0, .class_ 15), (0, .nameAndType 16 17), (0, u "cobblebit/terms/Operation"), (0, u "OR"), (0, u "Lcobblebit/terms/Operation;"), (0, .methodref 9 19), (0, .nameAndType 20 21), (0, u "editRange"), (0, u "(Lcobblebit/terms/Operation;II)Lcobblebit/container/Container;"), (0, .methodref 9 23), (0, .nameAndType 24 25), (0, u "addUnsorted"), (0, u "(C)Lcobblebit/container/Container;"), (0, .methodref 9 27), (0, .nameAndType 28 29), (0, u "takesUnsorted"), (0, u "(C)Z"), (0, .class_ 31), (0, u "cobblebit/container/ArrayContainerTakesUnsortedPinLaw"), (2, u "law"), (0, u "(IIIII)Z")] 3

def k1m0 : Method := { name := "<init>", desc := "()V", sig := { parameters := [], returnType := none }, accessFlags := 1, code := none }
def k1c1 : Code := { maxStack := 4, maxLocals := 12, code := code, exceptionTable := #[], attributes := #[] }
def k1m1 : Method := { name := "law", desc := "(IIIII)Z", sig := { parameters := [.int, .int, .int, .int, .int], returnType := some .boolean }, accessFlags := 9, code := some k1c1 }
/-- cobblebit/container/ArrayContainerTakesUnsortedPinLaw -/
def k1 : Class := { plain "cobblebit/container/ArrayContainerTakesUnsortedPinLaw" (some 0) with
  accessFlags := 49
  interfaces := #[]
  cf := some (fileOf pool1 30 #[] #[{ accessFlags := 1, nameIndex := 5, descriptorIndex := 6, attributes := #[] }, { accessFlags := 9, nameIndex := 34, descriptorIndex := 35, attributes := #[] }] 49 2 #[] #[])
  fields := #[]
  methods := #[k1m0, k1m1]
  instanceTypes := #[]
  staticTypes := #[]
  resolved := Array.replicate 39 none
  statics := none }

def pool2 : Array CpInfo := pool [(1, .methodref 2 3), (0, .class_ 4), (0, .nameAndType 5 6), (0, u "java/lang/Object"), (0, u "<init>"), (0, u "()V"), (0, .methodref 8 9), (0, .class_ 10), (0, .nameAndType 11 12), (0, u "cobblebit/container/Container"), (0, u "cardinality"), (0, u "()I"), (29, u "()Lcobblebit/container/Container;"), (0, .methodref 8 44), (0, .nameAndType 45 46), (0, u "kind"), (0, u "()Lcobblebit/terms/ContainerKind;"), (0, .fieldref 48 49), (0, .class_ 50), (0, .nameAndType 51 52), (0, u "cobblebit/terms/ContainerKind"), (0, u "RUN"), (0, u "Lcobblebit/terms/ContainerKind;"), (3, .methodref 8 57), (0, .nameAndType 58 12), (0, u "runCount"), (4, .methodref 64 65), (0, .class_ 66), (0, .nameAndType 67 68), (0, u "cobblebit/container/RunContainer"), (0, u "storedSize"), (0, u "(I)I"), (0, .methodref 8 70), (0, .nameAndType 71 68), (0, u "plainStoredSize"), (2, u "shared"), (0, u "Z"), (0, .methodref 8 77), (0, .nameAndType 78 79), (0, u "toWords"), (0, u "()[J"), (0, .methodref 64 81), (0, .nameAndType 82 83), (0, u "of"), (0, u "([J)Lcobblebit/container/RunContainer;"), (21, u "runOptimised"), (0, .class_ 107), (0, u "cobblebit/container/ArrayContainer"), (0, .methodref 106 65), (2, u "UNCOUNTED"), (0, u "I")] 34

def k2c0 : Code := { maxStack := 1, maxLocals := 1, code := prog_59_method_1_code, exceptionTable := #[], attributes := #[] }
def k2m0 : Method := { name := "<init>", desc := "()V", sig := { parameters := [], returnType := none }, accessFlags := 1, code := some k2c0 }
def k2m1 : Method := { name := "kind", desc := "()Lcobblebit/terms/ContainerKind;", sig := { parameters := [], returnType := some (.object "cobblebit/terms/ContainerKind") }, accessFlags := 1025, code := none }
def k2m2 : Method := { name := "cardinality", desc := "()I", sig := { parameters := [], returnType := some .int }, accessFlags := 1025, code := none }
def k2c3 : Code := { maxStack := 2, maxLocals := 2, code := prog_59_method_28_code, exceptionTable := #[], attributes := #[] }
def k2m3 : Method := { name := "runOptimised", desc := "()Lcobblebit/container/Container;", sig := { parameters := [], returnType := some (.object "cobblebit/container/Container") }, accessFlags := 16, code := some k2c3 }
def k2m4 : Method := { name := "toWords", desc := "()[J", sig := { parameters := [], returnType := some (.array .long) }, accessFlags := 1024, code := none }
def k2m5 : Method := { name := "runCount", desc := "()I", sig := { parameters := [], returnType := some .int }, accessFlags := 1024, code := none }
def k2c6 : Code := { maxStack := 2, maxLocals := 1, code := prog_59_method_34_code, exceptionTable := #[], attributes := #[] }
def k2m6 : Method := { name := "plainStoredSize", desc := "(I)I", sig := { parameters := [.int], returnType := some .int }, accessFlags := 9, code := some k2c6 }
/-- cobblebit/container/Container -/
def k2 : Class := { plain "cobblebit/container/Container" (some 0) with
  accessFlags := 1057
  interfaces := #[]
  cf := some (fileOf pool2 8 #[] #[{ accessFlags := 1, nameIndex := 5, descriptorIndex := 6, attributes := #[] }, { accessFlags := 1025, nameIndex := 45, descriptorIndex := 46, attributes := #[] }, { accessFlags := 1025, nameIndex := 11, descriptorIndex := 12, attributes := #[] }, { accessFlags := 16, nameIndex := 105, descriptorIndex := 42, attributes := #[] }, { accessFlags := 1024, nameIndex := 78, descriptorIndex := 79, attributes := #[] }, { accessFlags := 1024, nameIndex := 58, descriptorIndex := 12, attributes := #[] }, { accessFlags := 9, nameIndex := 71, descriptorIndex := 68, attributes := #[] }] 1057 2 #[] #[{ accessFlags := 24, nameIndex := 111, descriptorIndex := 112, attributes := #[] }, { accessFlags := 2, nameIndex := 74, descriptorIndex := 75, attributes := #[] }])
  fields := #[{ name := "UNCOUNTED", type := .int, accessFlags := 24, slot := 0, constantValue := 0 }, { name := "shared", type := .boolean, accessFlags := 2, slot := 0, constantValue := 0 }]
  methods := #[k2m0, k2m1, k2m2, k2m3, k2m4, k2m5, k2m6]
  instanceTypes := #[.boolean]
  staticTypes := #[.int]
  resolved := Array.replicate 147 none
  statics := none }

def pool3 : Array CpInfo := pool [(1, .class_ 2), (0, u "cobblebit/container/Ranges"), (0, .class_ 4), (0, u "java/lang/Object")] 17

/-- cobblebit/container/Ranges -/
def k3 : Class := { plain "cobblebit/container/Ranges" (some 0) with
  accessFlags := 1536
  interfaces := #[]
  cf := some (fileOf pool3 1 #[] #[] 1536 3 #[] #[])
  fields := #[]
  methods := #[]
  instanceTypes := #[]
  staticTypes := #[]
  resolved := Array.replicate 22 none
  statics := none }

def pool4 : Array CpInfo := pool [(1, .class_ 2), (0, u "cobblebit/container/ArrayContainer"), (0, .methodref 4 5), (0, .class_ 6), (0, .nameAndType 7 8), (0, u "cobblebit/container/Container"), (0, u "<init>"), (0, u "()V"), (0, .fieldref 1 10), (0, .nameAndType 11 12), (0, u "removed"), (0, u "S"), (0, .fieldref 1 14), (0, .nameAndType 15 16), (0, u "runCount"), (0, u "I"), (0, .fieldref 1 18), (0, .nameAndType 19 20), (0, u "values"), (0, u "[C"), (3, .fieldref 1 25), (0, .nameAndType 26 16), (0, u "cardinality"), (0, .fieldref 1 28), (0, .nameAndType 29 16), (0, u "sorted"), (54, .fieldref 85 86), (0, .class_ 87), (0, .nameAndType 88 89), (0, u "cobblebit/terms/ContainerKind"), (0, u "ARRAY"), (0, u "Lcobblebit/terms/ContainerKind;"), (0, .methodref 91 92), (0, .class_ 93), (0, .nameAndType 94 95), (0, u "java/util/Arrays"), (0, u "binarySearch"), (0, u "([CIIC)I"), (3, u "(C)Z"), (13, u "(C)Lcobblebit/container/Container;"), (3, .methodref 1 118), (0, .nameAndType 119 120), (0, u "isSettled"), (0, u "()Z"), (14, u "()I"), (0, .methodref 1 137), (0, .nameAndType 138 139), (0, u "toWords"), (0, u "()[J"), (3, u "([J)V"), (10, .methodref 1 155), (0, .nameAndType 156 157), (0, u "grownLength"), (0, u "(I)I"), (0, .methodref 91 159), (0, .nameAndType 160 161), (0, u "copyOf"), (0, u "([CI)[C"), (12, .methodref 175 176), (0, .class_ 177), (0, .nameAndType 178 179), (0, u "java/lang/System"), (0, u "arraycopy"), (0, u "(Ljava/lang/Object;ILjava/lang/Object;II)V"), (0, .methodref 1 181), (0, .nameAndType 182 8), (0, u "growWhereFull"), (21, .methodref 1 205), (0, .nameAndType 206 207), (0, u "indexAtOrAbove"), (0, u "(II)I"), (0, .methodref 209 210), (0, .class_ 211), (0, .nameAndType 212 120), (0, u "cobblebit/terms/Operation"), (0, u "keepsBoth"), (0, .methodref 209 214), (0, .nameAndType 215 120), (0, u "keepsSecondOnly"), (12, .methodref 4 229), (0, .nameAndType 230 231), (0, u "runOptimised"), (0, u "()Lcobblebit/container/Container;"), (4, .methodref 237 238), (0, .class_ 239), (0, .nameAndType 240 207), (0, u "java/lang/Math"), (0, u "min"), (0, .methodref 1 242), (0, .nameAndType 243 207), (0, u "runStarts"), (0, .methodref 1 229), (0, .integer 65535), (4, .class_ 251), (0, u "cobblebit/container/ArrayContainer$1"), (5, .methodref 1 258), (0, .nameAndType 259 143), (0, u "setBits"), (0, .methodref 1 261), (0, .nameAndType 259 262), (0, u "([CI[J)V"), (14, .class_ 278), (0, u "cobblebit/container/Ranges"), (12, .methodref 237 292), (0, .nameAndType 293 207), (0, u "max"), (2, u "storedSize"), (4, u "MAX_CARDINALITY"), (2, u "WAITS_FROM"), (1, u "UNSORTED_UP_TO"), (1, u "FEW_UNSORTED"), (1, u "DENSE_FROM"), (0, u "DENSE_GAP"), (10, u "kind"), (0, u "()Lcobblebit/terms/ContainerKind;"), (3, u "takesUnsorted"), (1, u "addUnsorted"), (2, u "editRange"), (0, u "(Lcobblebit/terms/Operation;II)Lcobblebit/container/Container;")] 27

def k4c0 : Code := { maxStack := 2, maxLocals := 1, code := prog_42_method_1_code, exceptionTable := #[], attributes := #[] }
def k4m0 : Method := { name := "<init>", desc := "()V", sig := { parameters := [], returnType := none }, accessFlags := 0, code := some k4c0 }
def k4c1 : Code := { maxStack := 1, maxLocals := 1, code := prog_42_method_8_code, exceptionTable := #[], attributes := #[] }
def k4m1 : Method := { name := "kind", desc := "()Lcobblebit/terms/ContainerKind;", sig := { parameters := [], returnType := some (.object "cobblebit/terms/ContainerKind") }, accessFlags := 1, code := some k4c1 }
def k4c2 : Code := { maxStack := 1, maxLocals := 1, code := prog_42_method_9_code, exceptionTable := #[], attributes := #[] }
def k4m2 : Method := { name := "cardinality", desc := "()I", sig := { parameters := [], returnType := some .int }, accessFlags := 1, code := some k4c2 }
def k4c3 : Code := { maxStack := 4, maxLocals := 1, code := prog_42_method_20_code, exceptionTable := #[], attributes := #[] }
def k4m3 : Method := { name := "growWhereFull", desc := "()V", sig := { parameters := [], returnType := none }, accessFlags := 2, code := some k4c3 }
def k4c4 : Code := { maxStack := 4, maxLocals := 2, code := prog_42_method_22_code, exceptionTable := #[], attributes := #[] }
def k4m4 : Method := { name := "takesUnsorted", desc := "(C)Z", sig := { parameters := [.char], returnType := some .boolean }, accessFlags := 0, code := some k4c4 }
def k4c5 : Code := { maxStack := 2, maxLocals := 1, code := prog_42_method_24_code, exceptionTable := #[], attributes := #[] }
def k4m5 : Method := { name := "isSettled", desc := "()Z", sig := { parameters := [], returnType := some .boolean }, accessFlags := 0, code := some k4c5 }
def k4c6 : Code := { maxStack := 7, maxLocals := 4, code := prog_42_method_25_code, exceptionTable := #[], attributes := #[] }
def k4m6 : Method := { name := "addUnsorted", desc := "(C)Lcobblebit/container/Container;", sig := { parameters := [.char], returnType := some (.object "cobblebit/container/Container") }, accessFlags := 0, code := some k4c6 }
def k4c7 : Code := { maxStack := 6, maxLocals := 12, code := prog_42_method_31_code, exceptionTable := #[], attributes := #[] }
def k4m7 : Method := { name := "editRange", desc := "(Lcobblebit/terms/Operation;II)Lcobblebit/container/Container;", sig := { parameters := [(.object "cobblebit/terms/Operation"), .int, .int], returnType := some (.object "cobblebit/container/Container") }, accessFlags := 0, code := some k4c7 }
def k4c8 : Code := { maxStack := 4, maxLocals := 4, code := prog_42_method_32_code, exceptionTable := #[], attributes := #[] }
def k4m8 : Method := { name := "indexAtOrAbove", desc := "(II)I", sig := { parameters := [.int, .int], returnType := some .int }, accessFlags := 2, code := some k4c8 }
def k4c9 : Code := { maxStack := 2, maxLocals := 2, code := prog_42_method_45_code, exceptionTable := #[], attributes := #[] }
def k4m9 : Method := { name := "toWords", desc := "()[J", sig := { parameters := [], returnType := some (.array .long) }, accessFlags := 0, code := some k4c9 }
def k4c10 : Code := { maxStack := 3, maxLocals := 2, code := prog_42_method_46_code, exceptionTable := #[], attributes := #[] }
def k4m10 : Method := { name := "setBits", desc := "([J)V", sig := { parameters := [(.array .long)], returnType := none }, accessFlags := 1, code := some k4c10 }
def k4c11 : Code := { maxStack := 8, maxLocals := 4, code := prog_42_method_47_code, exceptionTable := #[], attributes := #[] }
def k4m11 : Method := { name := "setBits", desc := "([CI[J)V", sig := { parameters := [(.array .char), .int, (.array .long)], returnType := none }, accessFlags := 8, code := some k4c11 }
def k4c12 : Code := { maxStack := 3, maxLocals := 2, code := prog_42_method_56_code, exceptionTable := #[], attributes := #[] }
def k4m12 : Method := { name := "grownLength", desc := "(I)I", sig := { parameters := [.int], returnType := some .int }, accessFlags := 8, code := some k4c12 }
def k4c13 : Code := { maxStack := 3, maxLocals := 2, code := prog_42_method_57_code, exceptionTable := #[], attributes := #[] }
def k4m13 : Method := { name := "runCount", desc := "()I", sig := { parameters := [], returnType := some .int }, accessFlags := 0, code := some k4c13 }
def k4c14 : Code := { maxStack := 4, maxLocals := 5, code := prog_42_method_58_code, exceptionTable := #[], attributes := #[] }
def k4m14 : Method := { name := "runStarts", desc := "(II)I", sig := { parameters := [.int, .int], returnType := some .int }, accessFlags := 2, code := some k4c14 }
def k4c15 : Code := { maxStack := 2, maxLocals := 1, code := prog_42_method_60_code, exceptionTable := #[], attributes := #[] }
def k4m15 : Method := { name := "storedSize", desc := "(I)I", sig := { parameters := [.int], returnType := some .int }, accessFlags := 8, code := some k4c15 }
/-- cobblebit/container/ArrayContainer -/
def k4 : Class := { plain "cobblebit/container/ArrayContainer" (some 2) with
  accessFlags := 49
  interfaces := #[3]
  cf := some (fileOf pool4 1 #[.nestMembers #[250]] #[{ accessFlags := 0, nameIndex := 7, descriptorIndex := 8, attributes := #[] }, { accessFlags := 1, nameIndex := 322, descriptorIndex := 323, attributes := #[] }, { accessFlags := 1, nameIndex := 26, descriptorIndex := 135, attributes := #[] }, { accessFlags := 2, nameIndex := 182, descriptorIndex := 8, attributes := #[] }, { accessFlags := 0, nameIndex := 327, descriptorIndex := 99, attributes := #[] }, { accessFlags := 0, nameIndex := 119, descriptorIndex := 120, attributes := #[] }, { accessFlags := 0, nameIndex := 329, descriptorIndex := 113, attributes := #[] }, { accessFlags := 0, nameIndex := 332, descriptorIndex := 333, attributes := #[] }, { accessFlags := 2, nameIndex := 206, descriptorIndex := 207, attributes := #[] }, { accessFlags := 0, nameIndex := 138, descriptorIndex := 139, attributes := #[] }, { accessFlags := 1, nameIndex := 259, descriptorIndex := 143, attributes := #[] }, { accessFlags := 8, nameIndex := 259, descriptorIndex := 262, attributes := #[] }, { accessFlags := 8, nameIndex := 156, descriptorIndex := 157, attributes := #[] }, { accessFlags := 0, nameIndex := 15, descriptorIndex := 135, attributes := #[] }, { accessFlags := 2, nameIndex := 243, descriptorIndex := 207, attributes := #[] }, { accessFlags := 8, nameIndex := 296, descriptorIndex := 157, attributes := #[] }] 49 4 #[277] #[{ accessFlags := 25, nameIndex := 301, descriptorIndex := 16, attributes := #[] }, { accessFlags := 26, nameIndex := 304, descriptorIndex := 16, attributes := #[] }, { accessFlags := 26, nameIndex := 306, descriptorIndex := 16, attributes := #[] }, { accessFlags := 26, nameIndex := 308, descriptorIndex := 16, attributes := #[] }, { accessFlags := 26, nameIndex := 310, descriptorIndex := 16, attributes := #[] }, { accessFlags := 26, nameIndex := 311, descriptorIndex := 16, attributes := #[] }, { accessFlags := 2, nameIndex := 19, descriptorIndex := 20, attributes := #[] }, { accessFlags := 2, nameIndex := 26, descriptorIndex := 16, attributes := #[] }, { accessFlags := 2, nameIndex := 29, descriptorIndex := 16, attributes := #[] }, { accessFlags := 2, nameIndex := 11, descriptorIndex := 12, attributes := #[] }, { accessFlags := 2, nameIndex := 15, descriptorIndex := 16, attributes := #[] }])
  fields := #[{ name := "MAX_CARDINALITY", type := .int, accessFlags := 25, slot := 0, constantValue := 0 }, { name := "WAITS_FROM", type := .int, accessFlags := 26, slot := 1, constantValue := 0 }, { name := "UNSORTED_UP_TO", type := .int, accessFlags := 26, slot := 2, constantValue := 0 }, { name := "FEW_UNSORTED", type := .int, accessFlags := 26, slot := 3, constantValue := 0 }, { name := "DENSE_FROM", type := .int, accessFlags := 26, slot := 4, constantValue := 0 }, { name := "DENSE_GAP", type := .int, accessFlags := 26, slot := 5, constantValue := 0 }, { name := "values", type := (.array .char), accessFlags := 2, slot := 1, constantValue := 0 }, { name := "cardinality", type := .int, accessFlags := 2, slot := 2, constantValue := 0 }, { name := "sorted", type := .int, accessFlags := 2, slot := 3, constantValue := 0 }, { name := "removed", type := .short, accessFlags := 2, slot := 4, constantValue := 0 }, { name := "runCount", type := .int, accessFlags := 2, slot := 5, constantValue := 0 }]
  methods := #[k4m0, k4m1, k4m2, k4m3, k4m4, k4m5, k4m6, k4m7, k4m8, k4m9, k4m10, k4m11, k4m12, k4m13, k4m14, k4m15]
  instanceTypes := #[.boolean, (.array .char), .int, .int, .short, .int]
  staticTypes := #[.int, .int, .int, .int, .int, .int]
  resolved := Array.replicate 361 none
  statics := none }

def pool5 : Array CpInfo := pool [(1, .class_ 2), (0, u "java/lang/constant/Constable"), (0, .class_ 4), (0, u "java/lang/Object")] 6

/-- java/lang/constant/Constable -/
def k5 : Class := { plain "java/lang/constant/Constable" (some 0) with
  accessFlags := 1537
  interfaces := #[]
  cf := some (fileOf pool5 1 #[] #[] 1537 3 #[] #[])
  fields := #[]
  methods := #[]
  instanceTypes := #[]
  staticTypes := #[]
  resolved := Array.replicate 11 none
  statics := none }

def pool6 : Array CpInfo := pool [(1, .class_ 2), (0, u "java/lang/Comparable"), (0, .class_ 4), (0, u "java/lang/Object")] 7

/-- java/lang/Comparable -/
def k6 : Class := { plain "java/lang/Comparable" (some 0) with
  accessFlags := 1537
  interfaces := #[]
  cf := some (fileOf pool6 1 #[] #[] 1537 3 #[] #[])
  fields := #[]
  methods := #[]
  instanceTypes := #[]
  staticTypes := #[]
  resolved := Array.replicate 12 none
  statics := none }

def pool7 : Array CpInfo := pool [(1, .class_ 2), (0, u "java/io/Serializable"), (0, .class_ 4), (0, u "java/lang/Object")] 2

/-- java/io/Serializable -/
def k7 : Class := { plain "java/io/Serializable" (some 0) with
  accessFlags := 1537
  interfaces := #[]
  cf := some (fileOf pool7 1 #[] #[] 1537 3 #[] #[])
  fields := #[]
  methods := #[]
  instanceTypes := #[]
  staticTypes := #[]
  resolved := Array.replicate 7 none
  statics := none }

def pool8 : Array CpInfo := pool [(2, .class_ 4), (1, u "java/lang/Enum"), (0, u "name"), (0, u "Ljava/lang/String;"), (2, u "ordinal"), (0, u "I"), (1, .class_ 14), (1, u "java/lang/Object"), (4, u "hash"), (86, .class_ 108), (1, u "java/lang/Enum$EnumDesc"), (2, .class_ 112), (0, u "java/lang/constant/Constable"), (0, .class_ 114), (0, u "java/lang/Comparable"), (0, .class_ 116), (0, u "java/io/Serializable")] 87

/-- java/lang/Enum -/
def k8 : Class := { plain "java/lang/Enum" (some 0) with
  accessFlags := 1057
  interfaces := #[5, 6, 7]
  cf := some (fileOf pool8 2 #[.nestMembers #[106]] #[] 1057 12 #[111, 113, 115] #[{ accessFlags := 18, nameIndex := 5, descriptorIndex := 6, attributes := #[] }, { accessFlags := 18, nameIndex := 9, descriptorIndex := 10, attributes := #[] }, { accessFlags := 2, nameIndex := 19, descriptorIndex := 10, attributes := #[] }])
  fields := #[{ name := "name", type := (.object "java/lang/String"), accessFlags := 18, slot := 0, constantValue := 0 }, { name := "ordinal", type := .int, accessFlags := 18, slot := 1, constantValue := 0 }, { name := "hash", type := .int, accessFlags := 2, slot := 2, constantValue := 0 }]
  methods := #[]
  instanceTypes := #[(.object "java/lang/String"), .int, .int]
  staticTypes := #[]
  resolved := Array.replicate 204 none
  statics := none }

def pool9 : Array CpInfo := pool [(1, .class_ 2), (0, u "cobblebit/terms/Operation"), (2, u "AND"), (0, u "Lcobblebit/terms/Operation;"), (2, u "OR"), (2, u "XOR"), (2, u "ANDNOT"), (2, u "$VALUES"), (0, u "[Lcobblebit/terms/Operation;"), (6, .class_ 28), (1, u "java/lang/Enum"), (8, u "keepsFirstOnly"), (0, u "Z"), (0, .fieldref 1 40), (0, .nameAndType 41 38), (0, u "keepsSecondOnly"), (0, .fieldref 1 43), (0, .nameAndType 44 38), (0, u "keepsBoth"), (18, u "()Z")] 5

def k9c0 : Code := { maxStack := 1, maxLocals := 1, code := prog_117_method_5_code, exceptionTable := #[], attributes := #[] }
def k9m0 : Method := { name := "keepsSecondOnly", desc := "()Z", sig := { parameters := [], returnType := some .boolean }, accessFlags := 1, code := some k9c0 }
def k9c1 : Code := { maxStack := 1, maxLocals := 1, code := prog_117_method_6_code, exceptionTable := #[], attributes := #[] }
def k9m1 : Method := { name := "keepsBoth", desc := "()Z", sig := { parameters := [], returnType := some .boolean }, accessFlags := 1, code := some k9c1 }
/-- cobblebit/terms/Operation -/
def k9 : Class := { plain "cobblebit/terms/Operation" (some 8) with
  accessFlags := 16433
  interfaces := #[]
  cf := some (fileOf pool9 1 #[] #[{ accessFlags := 1, nameIndex := 41, descriptorIndex := 63, attributes := #[] }, { accessFlags := 1, nameIndex := 44, descriptorIndex := 63, attributes := #[] }] 16433 26 #[] #[{ accessFlags := 16409, nameIndex := 5, descriptorIndex := 6, attributes := #[] }, { accessFlags := 16409, nameIndex := 9, descriptorIndex := 6, attributes := #[] }, { accessFlags := 16409, nameIndex := 12, descriptorIndex := 6, attributes := #[] }, { accessFlags := 16409, nameIndex := 15, descriptorIndex := 6, attributes := #[] }, { accessFlags := 18, nameIndex := 37, descriptorIndex := 38, attributes := #[] }, { accessFlags := 18, nameIndex := 41, descriptorIndex := 38, attributes := #[] }, { accessFlags := 18, nameIndex := 44, descriptorIndex := 38, attributes := #[] }, { accessFlags := 4122, nameIndex := 18, descriptorIndex := 19, attributes := #[] }])
  fields := #[{ name := "AND", type := (.object "cobblebit/terms/Operation"), accessFlags := 16409, slot := 0, constantValue := 0 }, { name := "OR", type := (.object "cobblebit/terms/Operation"), accessFlags := 16409, slot := 1, constantValue := 0 }, { name := "XOR", type := (.object "cobblebit/terms/Operation"), accessFlags := 16409, slot := 2, constantValue := 0 }, { name := "ANDNOT", type := (.object "cobblebit/terms/Operation"), accessFlags := 16409, slot := 3, constantValue := 0 }, { name := "keepsFirstOnly", type := .boolean, accessFlags := 18, slot := 3, constantValue := 0 }, { name := "keepsSecondOnly", type := .boolean, accessFlags := 18, slot := 4, constantValue := 0 }, { name := "keepsBoth", type := .boolean, accessFlags := 18, slot := 5, constantValue := 0 }, { name := "$VALUES", type := (.array (.object "cobblebit/terms/Operation")), accessFlags := 4122, slot := 4, constantValue := 0 }]
  methods := #[k9m0, k9m1]
  instanceTypes := #[(.object "java/lang/String"), .int, .int, .boolean, .boolean, .boolean]
  staticTypes := #[(.object "cobblebit/terms/Operation"), (.object "cobblebit/terms/Operation"), (.object "cobblebit/terms/Operation"), (.object "cobblebit/terms/Operation"), (.array (.object "cobblebit/terms/Operation"))]
  resolved := Array.replicate 69 none
  statics := some 0 }

def pool10 : Array CpInfo := pool [(2, .class_ 4), (1, u "java/lang/Object"), (0, u "<init>"), (0, u "()V"), (6, .methodref 14 15), (0, .class_ 16), (0, .nameAndType 17 18), (0, u "java/util/Arrays"), (0, u "rangeCheck"), (0, u "(III)V"), (55, .class_ 76), (1, u "java/util/Arrays$NaturalOrder"), (36, .class_ 115), (1, u "java/util/Arrays$LegacyMergeSort"), (1, u "Z"), (32, .methodref 151 152), (0, .class_ 153), (0, .nameAndType 154 155), (0, u "java/lang/System"), (0, u "arraycopy"), (0, u "(Ljava/lang/Object;ILjava/lang/Object;II)V"), (51, u "binarySearch0"), (7, .methodref 14 216), (0, .nameAndType 207 217), (0, u "([CIIC)I"), (84, u "copyOf"), (1, .methodref 305 306), (0, .class_ 307), (0, .nameAndType 308 309), (0, u "java/lang/Math"), (0, u "min"), (0, u "(II)I"), (65, .class_ 376), (0, u "java/util/Arrays$ArrayList"), (68, u "$assertionsDisabled"), (269, u "MIN_ARRAY_SORT_GRAN"), (0, u "I"), (2, u "INSERTIONSORT_THRESHOLD"), (74, u "binarySearch"), (78, u "([CI)[C"), (101, .class_ 976), (0, u "java/util/Arrays$ArrayItr")] 52

def k10m0 : Method := { name := "<init>", desc := "()V", sig := { parameters := [], returnType := none }, accessFlags := 2, code := none }
def k10c1 : Code := { maxStack := 4, maxLocals := 3, code := jdk_65_method_30_code, exceptionTable := #[], attributes := #[] }
def k10m1 : Method := { name := "rangeCheck", desc := "(III)V", sig := { parameters := [.int, .int, .int], returnType := none }, accessFlags := 8, code := some k10c1 }
def k10c2 : Code := { maxStack := 4, maxLocals := 4, code := jdk_65_method_64_code, exceptionTable := #[], attributes := #[] }
def k10m2 : Method := { name := "binarySearch", desc := "([CIIC)I", sig := { parameters := [(.array .char), .int, .int, .char], returnType := some .int }, accessFlags := 9, code := some k10c2 }
def k10c3 : Code := { maxStack := 2, maxLocals := 8, code := jdk_65_method_65_code, exceptionTable := #[], attributes := #[] }
def k10m3 : Method := { name := "binarySearch0", desc := "([CIIC)I", sig := { parameters := [(.array .char), .int, .int, .char], returnType := some .int }, accessFlags := 10, code := some k10c3 }
def k10c4 : Code := { maxStack := 6, maxLocals := 3, code := jdk_65_method_125_code, exceptionTable := #[], attributes := #[] }
def k10m4 : Method := { name := "copyOf", desc := "([CI)[C", sig := { parameters := [(.array .char), .int], returnType := some (.array .char) }, accessFlags := 9, code := some k10c4 }
/-- java/util/Arrays -/
def k10 : Class := { plain "java/util/Arrays" (some 0) with
  accessFlags := 49
  interfaces := #[]
  cf := some (fileOf pool10 14 #[.nestMembers #[975, 375, 113, 74]] #[{ accessFlags := 2, nameIndex := 5, descriptorIndex := 6, attributes := #[] }, { accessFlags := 8, nameIndex := 17, descriptorIndex := 18, attributes := #[] }, { accessFlags := 9, nameIndex := 794, descriptorIndex := 217, attributes := #[] }, { accessFlags := 10, nameIndex := 207, descriptorIndex := 217, attributes := #[] }, { accessFlags := 9, nameIndex := 302, descriptorIndex := 873, attributes := #[] }] 49 2 #[] #[{ accessFlags := 26, nameIndex := 715, descriptorIndex := 716, attributes := #[] }, { accessFlags := 26, nameIndex := 719, descriptorIndex := 716, attributes := #[] }, { accessFlags := 4120, nameIndex := 445, descriptorIndex := 117, attributes := #[] }])
  fields := #[{ name := "MIN_ARRAY_SORT_GRAN", type := .int, accessFlags := 26, slot := 0, constantValue := 0 }, { name := "INSERTIONSORT_THRESHOLD", type := .int, accessFlags := 26, slot := 1, constantValue := 0 }, { name := "$assertionsDisabled", type := .boolean, accessFlags := 4120, slot := 2, constantValue := 0 }]
  methods := #[k10m0, k10m1, k10m2, k10m3, k10m4]
  instanceTypes := #[]
  staticTypes := #[.int, .int, .boolean]
  resolved := Array.replicate 1029 none
  statics := none }

def pool11 : Array CpInfo := pool [(2, .class_ 4), (1, u "java/lang/Object"), (0, u "<init>"), (0, u "()V"), (1, .class_ 10), (1, u "java/lang/System"), (0, u "allowSecurityManager"), (0, u "I"), (16, u "cons"), (0, u "Ljava/io/Console;"), (77, .class_ 110), (1, u "java/lang/System$CallersHolder"), (43, u "initialErrStream"), (0, u "Ljava/io/PrintStream;"), (19, u "security"), (0, u "Ljava/lang/SecurityManager;"), (31, .class_ 209), (0, u "java/lang/System$1"), (7, u "props"), (0, u "Ljava/util/Properties;"), (2, u "lineSeparator"), (0, u "Ljava/lang/String;"), (96, .class_ 321), (1, u "java/lang/System$LoggerFinder"), (5, .class_ 328), (0, u "java/lang/System$Logger"), (67, u "err"), (2, u "out"), (91, u "notSupportedJnuEncoding"), (15, u "in"), (17, u "initialIn"), (0, u "Ljava/io/InputStream;"), (35, u "bootLayer"), (0, u "Ljava/lang/ModuleLayer;"), (99, .class_ 664), (0, u "java/lang/System$2"), (9, u "NEVER"), (2, u "MAYBE"), (49, u "arraycopy"), (0, u "(Ljava/lang/Object;ILjava/lang/Object;II)V"), (72, .class_ 802), (0, u "java/lang/System$Logger$Level")] 31

def k11m0 : Method := { name := "<init>", desc := "()V", sig := { parameters := [], returnType := none }, accessFlags := 2, code := none }
def k11m1 : Method := { name := "arraycopy", desc := "(Ljava/lang/Object;ILjava/lang/Object;II)V", sig := { parameters := [(.object "java/lang/Object"), .int, (.object "java/lang/Object"), .int, .int], returnType := none }, accessFlags := 265, code := none }
/-- java/lang/System -/
def k11 : Class := { plain "java/lang/System" (some 0) with
  accessFlags := 49
  interfaces := #[]
  cf := some (fileOf pool11 8 #[.nestMembers #[319, 327, 801, 108, 663, 208]] #[{ accessFlags := 2, nameIndex := 5, descriptorIndex := 6, attributes := #[] }, { accessFlags := 265, nameIndex := 727, descriptorIndex := 728, attributes := #[] }] 49 2 #[] #[{ accessFlags := 25, nameIndex := 507, descriptorIndex := 526, attributes := #[] }, { accessFlags := 25, nameIndex := 399, descriptorIndex := 155, attributes := #[] }, { accessFlags := 25, nameIndex := 396, descriptorIndex := 155, attributes := #[] }, { accessFlags := 10, nameIndex := 525, descriptorIndex := 526, attributes := #[] }, { accessFlags := 26, nameIndex := 674, descriptorIndex := 12, attributes := #[] }, { accessFlags := 26, nameIndex := 677, descriptorIndex := 12, attributes := #[] }, { accessFlags := 10, nameIndex := 11, descriptorIndex := 12, attributes := #[] }, { accessFlags := 74, nameIndex := 175, descriptorIndex := 176, attributes := #[] }, { accessFlags := 10, nameIndex := 491, descriptorIndex := 222, attributes := #[] }, { accessFlags := 74, nameIndex := 29, descriptorIndex := 30, attributes := #[] }, { accessFlags := 74, nameIndex := 154, descriptorIndex := 155, attributes := #[] }, { accessFlags := 10, nameIndex := 217, descriptorIndex := 218, attributes := #[] }, { accessFlags := 10, nameIndex := 221, descriptorIndex := 222, attributes := #[] }, { accessFlags := 8, nameIndex := 562, descriptorIndex := 563, attributes := #[] }])
  fields := #[{ name := "in", type := (.object "java/io/InputStream"), accessFlags := 25, slot := 0, constantValue := 0 }, { name := "out", type := (.object "java/io/PrintStream"), accessFlags := 25, slot := 1, constantValue := 0 }, { name := "err", type := (.object "java/io/PrintStream"), accessFlags := 25, slot := 2, constantValue := 0 }, { name := "initialIn", type := (.object "java/io/InputStream"), accessFlags := 10, slot := 3, constantValue := 0 }, { name := "NEVER", type := .int, accessFlags := 26, slot := 4, constantValue := 0 }, { name := "MAYBE", type := .int, accessFlags := 26, slot := 5, constantValue := 0 }, { name := "allowSecurityManager", type := .int, accessFlags := 10, slot := 6, constantValue := 0 }, { name := "security", type := (.object "java/lang/SecurityManager"), accessFlags := 74, slot := 7, constantValue := 0 }, { name := "notSupportedJnuEncoding", type := (.object "java/lang/String"), accessFlags := 10, slot := 8, constantValue := 0 }, { name := "cons", type := (.object "java/io/Console"), accessFlags := 74, slot := 9, constantValue := 0 }, { name := "initialErrStream", type := (.object "java/io/PrintStream"), accessFlags := 74, slot := 10, constantValue := 0 }, { name := "props", type := (.object "java/util/Properties"), accessFlags := 10, slot := 11, constantValue := 0 }, { name := "lineSeparator", type := (.object "java/lang/String"), accessFlags := 10, slot := 12, constantValue := 0 }, { name := "bootLayer", type := (.object "java/lang/ModuleLayer"), accessFlags := 8, slot := 13, constantValue := 0 }]
  methods := #[k11m0, k11m1]
  instanceTypes := #[]
  staticTypes := #[(.object "java/io/InputStream"), (.object "java/io/PrintStream"), (.object "java/io/PrintStream"), (.object "java/io/InputStream"), .int, .int, .int, (.object "java/lang/SecurityManager"), (.object "java/lang/String"), (.object "java/io/Console"), (.object "java/io/PrintStream"), (.object "java/util/Properties"), (.object "java/lang/String"), (.object "java/lang/ModuleLayer")]
  resolved := Array.replicate 834 none
  statics := none }

def pool12 : Array CpInfo := pool [(1, .methodref 2 3), (0, .class_ 4), (0, .nameAndType 5 6), (0, u "cobblebit/container/Container"), (0, u "<init>"), (0, u "()V"), (0, .fieldref 8 9), (0, .class_ 10), (0, .nameAndType 11 12), (0, u "cobblebit/container/RunContainer"), (0, u "runs"), (0, u "[C"), (0, .fieldref 8 14), (0, .nameAndType 15 16), (0, u "runCount"), (0, u "I"), (0, .fieldref 8 18), (0, .nameAndType 19 16), (0, u "cardinality"), (0, .methodref 8 21), (0, .nameAndType 5 22), (0, u "([CII)V"), (0, .methodref 24 25), (0, .class_ 26), (0, .nameAndType 15 27), (0, u "cobblebit/container/BitmapContainer"), (0, u "([J)I"), (0, .methodref 24 29), (0, .nameAndType 30 31), (0, u "runsOf"), (0, u "([J)Lcobblebit/container/RunWalk;"), (0, .methodref 33 34), (0, .class_ 35), (0, .nameAndType 36 37), (0, u "cobblebit/container/RunWalk"), (0, u "next"), (0, u "()Z"), (0, .methodref 33 39), (0, .nameAndType 40 41), (0, u "start"), (0, u "()I"), (0, .methodref 33 43), (0, .nameAndType 44 41), (0, u "end"), (52, u "storedSize"), (0, u "(I)I"), (30, u "of"), (0, u "([J)Lcobblebit/container/RunContainer;"), (22, .class_ 154), (0, u "cobblebit/container/RunContainer$1"), (92, .class_ 248), (0, u "cobblebit/container/Ranges")] 43

def k12c0 : Code := { maxStack := 2, maxLocals := 4, code := prog_81_method_1_code, exceptionTable := #[], attributes := #[] }
def k12m0 : Method := { name := "<init>", desc := "([CII)V", sig := { parameters := [(.array .char), .int, .int], returnType := none }, accessFlags := 0, code := some k12c0 }
def k12c1 : Code := { maxStack := 5, maxLocals := 6, code := prog_81_method_3_code, exceptionTable := #[], attributes := #[] }
def k12m1 : Method := { name := "of", desc := "([J)Lcobblebit/container/RunContainer;", sig := { parameters := [(.array .long)], returnType := some (.object "cobblebit/container/RunContainer") }, accessFlags := 8, code := some k12c1 }
def k12c2 : Code := { maxStack := 3, maxLocals := 1, code := prog_81_method_38_code, exceptionTable := #[], attributes := #[] }
def k12m2 : Method := { name := "storedSize", desc := "(I)I", sig := { parameters := [.int], returnType := some .int }, accessFlags := 9, code := some k12c2 }
/-- cobblebit/container/RunContainer -/
def k12 : Class := { plain "cobblebit/container/RunContainer" (some 2) with
  accessFlags := 49
  interfaces := #[3]
  cf := some (fileOf pool12 8 #[.nestMembers #[153]] #[{ accessFlags := 0, nameIndex := 5, descriptorIndex := 22, attributes := #[] }, { accessFlags := 8, nameIndex := 129, descriptorIndex := 130, attributes := #[] }, { accessFlags := 9, nameIndex := 97, descriptorIndex := 98, attributes := #[] }] 49 2 #[247] #[{ accessFlags := 2, nameIndex := 11, descriptorIndex := 12, attributes := #[] }, { accessFlags := 2, nameIndex := 15, descriptorIndex := 16, attributes := #[] }, { accessFlags := 2, nameIndex := 19, descriptorIndex := 16, attributes := #[] }])
  fields := #[{ name := "runs", type := (.array .char), accessFlags := 2, slot := 1, constantValue := 0 }, { name := "runCount", type := .int, accessFlags := 2, slot := 2, constantValue := 0 }, { name := "cardinality", type := .int, accessFlags := 2, slot := 3, constantValue := 0 }]
  methods := #[k12m0, k12m1, k12m2]
  instanceTypes := #[.boolean, (.array .char), .int, .int]
  staticTypes := #[]
  resolved := Array.replicate 292 none
  statics := none }

def pool13 : Array CpInfo := pool [(1, .class_ 2), (0, u "cobblebit/terms/ContainerKind"), (2, u "ARRAY"), (0, u "Lcobblebit/terms/ContainerKind;"), (2, u "BITMAP"), (2, u "RUN"), (2, u "$VALUES"), (0, u "[Lcobblebit/terms/ContainerKind;"), (6, .class_ 25), (1, u "java/lang/Enum")] 25

/-- cobblebit/terms/ContainerKind -/
def k13 : Class := { plain "cobblebit/terms/ContainerKind" (some 8) with
  accessFlags := 16433
  interfaces := #[]
  cf := some (fileOf pool13 1 #[] #[] 16433 23 #[] #[{ accessFlags := 16409, nameIndex := 5, descriptorIndex := 6, attributes := #[] }, { accessFlags := 16409, nameIndex := 9, descriptorIndex := 6, attributes := #[] }, { accessFlags := 16409, nameIndex := 12, descriptorIndex := 6, attributes := #[] }, { accessFlags := 4122, nameIndex := 15, descriptorIndex := 16, attributes := #[] }])
  fields := #[{ name := "ARRAY", type := (.object "cobblebit/terms/ContainerKind"), accessFlags := 16409, slot := 0, constantValue := 0 }, { name := "BITMAP", type := (.object "cobblebit/terms/ContainerKind"), accessFlags := 16409, slot := 1, constantValue := 0 }, { name := "RUN", type := (.object "cobblebit/terms/ContainerKind"), accessFlags := 16409, slot := 2, constantValue := 0 }, { name := "$VALUES", type := (.array (.object "cobblebit/terms/ContainerKind")), accessFlags := 4122, slot := 3, constantValue := 0 }]
  methods := #[]
  instanceTypes := #[(.object "java/lang/String"), .int, .int]
  staticTypes := #[(.object "cobblebit/terms/ContainerKind"), (.object "cobblebit/terms/ContainerKind"), (.object "cobblebit/terms/ContainerKind"), (.array (.object "cobblebit/terms/ContainerKind"))]
  resolved := Array.replicate 51 none
  statics := some 1 }

def pool14 : Array CpInfo := pool [(1, .class_ 2), (0, u "java/lang/Math"), (1, .class_ 6), (1, u "java/lang/Object"), (0, u "<init>"), (0, u "()V"), (89, .class_ 100), (1, u "java/lang/Math$RandomNumberGeneratorHolder"), (71, u "negativeZeroFloatBits"), (0, u "J"), (2, u "negativeZeroDoubleBits"), (21, u "max"), (2, u "min"), (43, u "$assertionsDisabled"), (0, u "Z"), (88, u "(II)I"), (2, u "twoToTheDoubleScaleDown"), (0, u "D"), (4, u "twoToTheDoubleScaleUp"), (9, u "E"), (3, u "PI"), (2, u "TAU"), (2, u "DEGREES_TO_RADIANS"), (0, u "RADIANS_TO_DEGREES")] 94

def k14m0 : Method := { name := "<init>", desc := "()V", sig := { parameters := [], returnType := none }, accessFlags := 2, code := none }
def k14c1 : Code := { maxStack := 2, maxLocals := 2, code := jdk_29_method_65_code, exceptionTable := #[], attributes := #[] }
def k14m1 : Method := { name := "max", desc := "(II)I", sig := { parameters := [.int, .int], returnType := some .int }, accessFlags := 9, code := some k14c1 }
def k14c2 : Code := { maxStack := 2, maxLocals := 2, code := jdk_29_method_69_code, exceptionTable := #[], attributes := #[] }
def k14m2 : Method := { name := "min", desc := "(II)I", sig := { parameters := [.int, .int], returnType := some .int }, accessFlags := 9, code := some k14c2 }
/-- java/lang/Math -/
def k14 : Class := { plain "java/lang/Math" (some 0) with
  accessFlags := 49
  interfaces := #[]
  cf := some (fileOf pool14 1 #[.nestMembers #[98]] #[{ accessFlags := 2, nameIndex := 7, descriptorIndex := 8, attributes := #[] }, { accessFlags := 9, nameIndex := 198, descriptorIndex := 335, attributes := #[] }, { accessFlags := 9, nameIndex := 201, descriptorIndex := 335, attributes := #[] }] 49 4 #[] #[{ accessFlags := 25, nameIndex := 354, descriptorIndex := 339, attributes := #[] }, { accessFlags := 25, nameIndex := 358, descriptorIndex := 339, attributes := #[] }, { accessFlags := 25, nameIndex := 361, descriptorIndex := 339, attributes := #[] }, { accessFlags := 26, nameIndex := 364, descriptorIndex := 339, attributes := #[] }, { accessFlags := 26, nameIndex := 365, descriptorIndex := 339, attributes := #[] }, { accessFlags := 26, nameIndex := 172, descriptorIndex := 173, attributes := #[] }, { accessFlags := 26, nameIndex := 176, descriptorIndex := 173, attributes := #[] }, { accessFlags := 8, nameIndex := 344, descriptorIndex := 339, attributes := #[] }, { accessFlags := 8, nameIndex := 338, descriptorIndex := 339, attributes := #[] }, { accessFlags := 4120, nameIndex := 245, descriptorIndex := 246, attributes := #[] }])
  fields := #[{ name := "E", type := .double, accessFlags := 25, slot := 0, constantValue := 0 }, { name := "PI", type := .double, accessFlags := 25, slot := 1, constantValue := 0 }, { name := "TAU", type := .double, accessFlags := 25, slot := 2, constantValue := 0 }, { name := "DEGREES_TO_RADIANS", type := .double, accessFlags := 26, slot := 3, constantValue := 0 }, { name := "RADIANS_TO_DEGREES", type := .double, accessFlags := 26, slot := 4, constantValue := 0 }, { name := "negativeZeroFloatBits", type := .long, accessFlags := 26, slot := 5, constantValue := 0 }, { name := "negativeZeroDoubleBits", type := .long, accessFlags := 26, slot := 6, constantValue := 0 }, { name := "twoToTheDoubleScaleUp", type := .double, accessFlags := 8, slot := 7, constantValue := 0 }, { name := "twoToTheDoubleScaleDown", type := .double, accessFlags := 8, slot := 8, constantValue := 0 }, { name := "$assertionsDisabled", type := .boolean, accessFlags := 4120, slot := 9, constantValue := 0 }]
  methods := #[k14m0, k14m1, k14m2]
  instanceTypes := #[]
  staticTypes := #[.double, .double, .double, .double, .double, .long, .long, .double, .double, .boolean]
  resolved := Array.replicate 460 none
  statics := none }

def pool15 : Array CpInfo := pool [(1, .class_ 2), (0, u "cobblebit/container/BitmapContainer"), (0, .class_ 4), (0, u "java/lang/Long"), (1, .class_ 8), (1, u "cobblebit/container/Container"), (0, u "<init>"), (3, u "runCount"), (0, u "I"), (2, u "words"), (0, u "[J"), (8, u "cardinality"), (5, u "bitCount"), (0, u "([J)I"), (26, u "(J)I"), (0, .methodref 3 63), (0, .nameAndType 33 61), (36, .long 18446744073709551615), (14, u "([J)V"), (33, u "([JII)I"), (9, .methodref 1 160), (0, .nameAndType 161 149), (0, u "runStarts"), (24, u "runsOf"), (0, u "([J)Lcobblebit/container/RunWalk;"), (2, .class_ 191), (0, u "cobblebit/container/BitmapContainer$1"), (0, .methodref 190 193), (0, .nameAndType 9 115), (4, u "WORDS"), (2, u "STORED_SIZE"), (1, u "PAST_LAST_VALUE")] 48

def k15c0 : Code := { maxStack := 3, maxLocals := 1, code := prog_45_method_41_code, exceptionTable := #[], attributes := #[] }
def k15m0 : Method := { name := "runCount", desc := "([J)I", sig := { parameters := [(.array .long)], returnType := some .int }, accessFlags := 8, code := some k15c0 }
def k15c1 : Code := { maxStack := 3, maxLocals := 1, code := prog_45_method_42_code, exceptionTable := #[], attributes := #[] }
def k15m1 : Method := { name := "runsOf", desc := "([J)Lcobblebit/container/RunWalk;", sig := { parameters := [(.array .long)], returnType := some (.object "cobblebit/container/RunWalk") }, accessFlags := 8, code := some k15c1 }
def k15c2 : Code := { maxStack := 8, maxLocals := 9, code := prog_45_method_43_code, exceptionTable := #[], attributes := #[] }
def k15m2 : Method := { name := "runStarts", desc := "([JII)I", sig := { parameters := [(.array .long), .int, .int], returnType := some .int }, accessFlags := 10, code := some k15c2 }
/-- cobblebit/container/BitmapContainer -/
def k15 : Class := { plain "cobblebit/container/BitmapContainer" (some 2) with
  accessFlags := 49
  interfaces := #[]
  cf := some (fileOf pool15 1 #[.nestMembers #[190]] #[{ accessFlags := 8, nameIndex := 13, descriptorIndex := 34, attributes := #[] }, { accessFlags := 8, nameIndex := 186, descriptorIndex := 187, attributes := #[] }, { accessFlags := 10, nameIndex := 161, descriptorIndex := 149, attributes := #[] }] 49 6 #[] #[{ accessFlags := 24, nameIndex := 198, descriptorIndex := 14, attributes := #[] }, { accessFlags := 24, nameIndex := 201, descriptorIndex := 14, attributes := #[] }, { accessFlags := 24, nameIndex := 203, descriptorIndex := 14, attributes := #[] }, { accessFlags := 18, nameIndex := 17, descriptorIndex := 18, attributes := #[] }, { accessFlags := 2, nameIndex := 27, descriptorIndex := 14, attributes := #[] }, { accessFlags := 2, nameIndex := 13, descriptorIndex := 14, attributes := #[] }])
  fields := #[{ name := "WORDS", type := .int, accessFlags := 24, slot := 0, constantValue := 0 }, { name := "STORED_SIZE", type := .int, accessFlags := 24, slot := 1, constantValue := 0 }, { name := "PAST_LAST_VALUE", type := .int, accessFlags := 24, slot := 2, constantValue := 0 }, { name := "words", type := (.array .long), accessFlags := 18, slot := 1, constantValue := 0 }, { name := "cardinality", type := .int, accessFlags := 2, slot := 2, constantValue := 0 }, { name := "runCount", type := .int, accessFlags := 2, slot := 3, constantValue := 0 }]
  methods := #[k15m0, k15m1, k15m2]
  instanceTypes := #[.boolean, (.array .long), .int, .int]
  staticTypes := #[.int, .int, .int]
  resolved := Array.replicate 252 none
  statics := none }

def pool16 : Array CpInfo := pool [(2, .class_ 4), (1, u "java/lang/Object"), (0, u "<init>"), (0, u "()V"), (1, .class_ 10), (1, u "java/lang/Number"), (2, .class_ 14), (0, u "java/io/Serializable"), (0, u "serialVersionUID"), (0, u "J")] 20

def k16m0 : Method := { name := "<init>", desc := "()V", sig := { parameters := [], returnType := none }, accessFlags := 1, code := none }
/-- java/lang/Number -/
def k16 : Class := { plain "java/lang/Number" (some 0) with
  accessFlags := 1057
  interfaces := #[7]
  cf := some (fileOf pool16 8 #[] #[{ accessFlags := 1, nameIndex := 5, descriptorIndex := 6, attributes := #[] }] 1057 2 #[13] #[{ accessFlags := 26, nameIndex := 15, descriptorIndex := 16, attributes := #[] }])
  fields := #[{ name := "serialVersionUID", type := .long, accessFlags := 26, slot := 0, constantValue := 0 }]
  methods := #[k16m0]
  instanceTypes := #[]
  staticTypes := #[.long]
  resolved := Array.replicate 37 none
  statics := none }

def pool17 : Array CpInfo := pool [(1, .class_ 2), (0, u "java/lang/constant/ConstantDesc"), (0, .class_ 4), (0, u "java/lang/Object")] 32

/-- java/lang/constant/ConstantDesc -/
def k17 : Class := { plain "java/lang/constant/ConstantDesc" (some 0) with
  accessFlags := 1537
  interfaces := #[]
  cf := some (fileOf pool17 1 #[] #[] 1537 3 #[] #[])
  fields := #[]
  methods := #[]
  instanceTypes := #[]
  staticTypes := #[]
  resolved := Array.replicate 37 none
  statics := none }

def pool18 : Array CpInfo := pool [(1, .class_ 2), (0, u "java/lang/Long"), (15, .class_ 20), (1, u "java/lang/Integer"), (80, u "(J)I"), (133, .class_ 237), (1, u "java/lang/Long$LongCache"), (33, .class_ 272), (0, u "java/lang/Number"), (2, u "value"), (0, u "J"), (33, u "(I)I"), (0, .methodref 18 312), (0, .nameAndType 313 310), (0, u "numberOfTrailingZeros"), (0, .long 6148914691236517205), (1, .long 3689348814741910323), (1, .long 1085102592571150095), (42, u "TYPE"), (0, u "Ljava/lang/Class;"), (0, .class_ 364), (0, u "java/lang/Comparable"), (0, .class_ 366), (0, u "java/lang/constant/Constable"), (0, .class_ 368), (0, u "java/lang/constant/ConstantDesc"), (0, u "MIN_VALUE"), (1, u "MAX_VALUE"), (4, u "SIZE"), (0, u "I"), (1, u "BYTES"), (1, u "serialVersionUID"), (94, u "bitCount")] 47

def k18c0 : Code := { maxStack := 4, maxLocals := 3, code := jdk_35_method_49_code, exceptionTable := #[], attributes := #[] }
def k18m0 : Method := { name := "numberOfTrailingZeros", desc := "(J)I", sig := { parameters := [.long], returnType := some .int }, accessFlags := 9, code := some k18c0 }
def k18c1 : Code := { maxStack := 6, maxLocals := 2, code := jdk_35_method_50_code, exceptionTable := #[], attributes := #[] }
def k18m1 : Method := { name := "bitCount", desc := "(J)I", sig := { parameters := [.long], returnType := some .int }, accessFlags := 9, code := some k18c1 }
/-- java/lang/Long -/
def k18 : Class := { plain "java/lang/Long" (some 16) with
  accessFlags := 49
  interfaces := #[6, 5, 17]
  cf := some (fileOf pool18 1 #[.nestMembers #[235]] #[{ accessFlags := 9, nameIndex := 313, descriptorIndex := 101, attributes := #[] }, { accessFlags := 9, nameIndex := 476, descriptorIndex := 101, attributes := #[] }] 49 271 #[363, 365, 367] #[{ accessFlags := 25, nameIndex := 369, descriptorIndex := 276, attributes := #[] }, { accessFlags := 25, nameIndex := 371, descriptorIndex := 276, attributes := #[] }, { accessFlags := 25, nameIndex := 361, descriptorIndex := 362, attributes := #[] }, { accessFlags := 18, nameIndex := 275, descriptorIndex := 276, attributes := #[] }, { accessFlags := 25, nameIndex := 376, descriptorIndex := 377, attributes := #[] }, { accessFlags := 25, nameIndex := 379, descriptorIndex := 377, attributes := #[] }, { accessFlags := 26, nameIndex := 381, descriptorIndex := 276, attributes := #[] }])
  fields := #[{ name := "MIN_VALUE", type := .long, accessFlags := 25, slot := 0, constantValue := 0 }, { name := "MAX_VALUE", type := .long, accessFlags := 25, slot := 1, constantValue := 0 }, { name := "TYPE", type := (.object "java/lang/Class"), accessFlags := 25, slot := 2, constantValue := 0 }, { name := "value", type := .long, accessFlags := 18, slot := 0, constantValue := 0 }, { name := "SIZE", type := .int, accessFlags := 25, slot := 3, constantValue := 0 }, { name := "BYTES", type := .int, accessFlags := 25, slot := 4, constantValue := 0 }, { name := "serialVersionUID", type := .long, accessFlags := 26, slot := 5, constantValue := 0 }]
  methods := #[k18m0, k18m1]
  instanceTypes := #[.long]
  staticTypes := #[.long, .long, (.object "java/lang/Class"), .int, .int, .long]
  resolved := Array.replicate 524 none
  statics := none }

def pool19 : Array CpInfo := pool [(1, .methodref 2 3), (0, .class_ 4), (0, .nameAndType 5 6), (0, u "java/lang/Object"), (0, u "<init>"), (0, u "()V"), (0, .fieldref 8 9), (0, .class_ 10), (0, .nameAndType 11 12), (0, u "cobblebit/container/RunWalk"), (0, u "start"), (0, u "I"), (0, .fieldref 8 14), (0, .nameAndType 15 12), (0, u "end"), (2, u "next"), (0, u "()Z"), (0, u "()I"), (0, u "found"), (0, u "(II)Z")] 2

def k19c0 : Code := { maxStack := 1, maxLocals := 1, code := prog_83_method_1_code, exceptionTable := #[], attributes := #[] }
def k19m0 : Method := { name := "<init>", desc := "()V", sig := { parameters := [], returnType := none }, accessFlags := 0, code := some k19c0 }
def k19m1 : Method := { name := "next", desc := "()Z", sig := { parameters := [], returnType := some .boolean }, accessFlags := 1024, code := none }
def k19c2 : Code := { maxStack := 1, maxLocals := 1, code := prog_83_method_3_code, exceptionTable := #[], attributes := #[] }
def k19m2 : Method := { name := "start", desc := "()I", sig := { parameters := [], returnType := some .int }, accessFlags := 16, code := some k19c2 }
def k19c3 : Code := { maxStack := 1, maxLocals := 1, code := prog_83_method_4_code, exceptionTable := #[], attributes := #[] }
def k19m3 : Method := { name := "end", desc := "()I", sig := { parameters := [], returnType := some .int }, accessFlags := 16, code := some k19c3 }
def k19c4 : Code := { maxStack := 2, maxLocals := 3, code := prog_83_method_5_code, exceptionTable := #[], attributes := #[] }
def k19m4 : Method := { name := "found", desc := "(II)Z", sig := { parameters := [.int, .int], returnType := some .boolean }, accessFlags := 16, code := some k19c4 }
/-- cobblebit/container/RunWalk -/
def k19 : Class := { plain "cobblebit/container/RunWalk" (some 0) with
  accessFlags := 1056
  interfaces := #[]
  cf := some (fileOf pool19 8 #[] #[{ accessFlags := 0, nameIndex := 5, descriptorIndex := 6, attributes := #[] }, { accessFlags := 1024, nameIndex := 18, descriptorIndex := 19, attributes := #[] }, { accessFlags := 16, nameIndex := 11, descriptorIndex := 20, attributes := #[] }, { accessFlags := 16, nameIndex := 15, descriptorIndex := 20, attributes := #[] }, { accessFlags := 16, nameIndex := 21, descriptorIndex := 22, attributes := #[] }] 1056 2 #[] #[{ accessFlags := 2, nameIndex := 11, descriptorIndex := 12, attributes := #[] }, { accessFlags := 2, nameIndex := 15, descriptorIndex := 12, attributes := #[] }])
  fields := #[{ name := "start", type := .int, accessFlags := 2, slot := 0, constantValue := 0 }, { name := "end", type := .int, accessFlags := 2, slot := 1, constantValue := 0 }]
  methods := #[k19m0, k19m1, k19m2, k19m3, k19m4]
  instanceTypes := #[.int, .int]
  staticTypes := #[]
  resolved := Array.replicate 25 none
  statics := none }

def pool20 : Array CpInfo := pool [(1, .class_ 2), (0, u "cobblebit/container/BitmapContainer"), (0, .fieldref 4 5), (0, .class_ 6), (0, .nameAndType 7 8), (0, u "cobblebit/container/BitmapContainer$1"), (0, u "val$words"), (0, u "[J"), (0, .methodref 10 11), (0, .class_ 12), (0, .nameAndType 13 14), (0, u "cobblebit/container/RunWalk"), (0, u "<init>"), (0, u "()V"), (0, .fieldref 4 16), (0, .nameAndType 17 18), (0, u "word"), (0, u "J"), (0, .fieldref 4 20), (0, .nameAndType 21 22), (0, u "index"), (0, u "I"), (0, .class_ 24), (0, u "java/lang/Long"), (0, .methodref 23 26), (0, .nameAndType 27 28), (0, u "numberOfTrailingZeros"), (0, u "(J)I"), (0, .long 18446744073709551615), (1, .integer 65536), (0, .methodref 4 33), (0, .nameAndType 34 35), (0, u "found"), (0, u "(II)Z"), (0, u "([J)V"), (2, u "next"), (0, u "()Z")] 9

def k20c0 : Code := { maxStack := 3, maxLocals := 2, code := prog_46_method_1_code, exceptionTable := #[], attributes := #[] }
def k20m0 : Method := { name := "<init>", desc := "([J)V", sig := { parameters := [(.array .long)], returnType := none }, accessFlags := 0, code := some k20c0 }
def k20c1 : Code := { maxStack := 7, maxLocals := 3, code := prog_46_method_2_code, exceptionTable := #[], attributes := #[] }
def k20m1 : Method := { name := "next", desc := "()Z", sig := { parameters := [], returnType := some .boolean }, accessFlags := 0, code := some k20c1 }
/-- cobblebit/container/BitmapContainer$1 -/
def k20 : Class := { plain "cobblebit/container/BitmapContainer$1" (some 19) with
  accessFlags := 32
  interfaces := #[]
  cf := some (fileOf pool20 4 #[.nestHost 1] #[{ accessFlags := 0, nameIndex := 13, descriptorIndex := 36, attributes := #[] }, { accessFlags := 0, nameIndex := 39, descriptorIndex := 40, attributes := #[] }] 32 10 #[] #[{ accessFlags := 2, nameIndex := 21, descriptorIndex := 22, attributes := #[] }, { accessFlags := 2, nameIndex := 17, descriptorIndex := 18, attributes := #[] }, { accessFlags := 4112, nameIndex := 7, descriptorIndex := 8, attributes := #[] }])
  fields := #[{ name := "index", type := .int, accessFlags := 2, slot := 2, constantValue := 0 }, { name := "word", type := .long, accessFlags := 2, slot := 3, constantValue := 0 }, { name := "val$words", type := (.array .long), accessFlags := 4112, slot := 4, constantValue := 0 }]
  methods := #[k20m0, k20m1]
  instanceTypes := #[.int, .int, .int, .long, (.array .long)]
  staticTypes := #[]
  resolved := Array.replicate 50 none
  statics := none }

def pool21 : Array CpInfo := pool [(1, .class_ 2), (0, u "java/lang/Integer"), (16, u "digits"), (0, u "[C"), (33, u "(I)I"), (30, u "DigitOnes"), (0, u "[B"), (2, u "DigitTens"), (99, .class_ 190), (0, u "java/lang/Integer$IntegerCache"), (3, u "I"), (8, .class_ 204), (0, u "java/lang/Number"), (2, u "value"), (56, .integer 65536), (37, u "TYPE"), (0, u "Ljava/lang/Class;"), (0, .class_ 305), (0, u "java/lang/Comparable"), (0, .class_ 307), (0, u "java/lang/constant/Constable"), (0, .class_ 309), (0, u "java/lang/constant/ConstantDesc"), (0, u "MIN_VALUE"), (1, u "MAX_VALUE"), (3, u "SIZE"), (1, u "BYTES"), (1, u "serialVersionUID"), (0, u "J"), (84, u "numberOfTrailingZeros")] 46

def k21c0 : Code := { maxStack := 3, maxLocals := 2, code := jdk_33_method_48_code, exceptionTable := #[], attributes := #[] }
def k21m0 : Method := { name := "numberOfTrailingZeros", desc := "(I)I", sig := { parameters := [.int], returnType := some .int }, accessFlags := 9, code := some k21c0 }
/-- java/lang/Integer -/
def k21 : Class := { plain "java/lang/Integer" (some 16) with
  accessFlags := 49
  interfaces := #[6, 5, 17]
  cf := some (fileOf pool21 1 #[.nestMembers #[189]] #[{ accessFlags := 9, nameIndex := 406, descriptorIndex := 54, attributes := #[] }] 49 203 #[304, 306, 308] #[{ accessFlags := 25, nameIndex := 310, descriptorIndex := 194, attributes := #[] }, { accessFlags := 25, nameIndex := 312, descriptorIndex := 194, attributes := #[] }, { accessFlags := 25, nameIndex := 302, descriptorIndex := 303, attributes := #[] }, { accessFlags := 24, nameIndex := 19, descriptorIndex := 20, attributes := #[] }, { accessFlags := 24, nameIndex := 89, descriptorIndex := 86, attributes := #[] }, { accessFlags := 24, nameIndex := 85, descriptorIndex := 86, attributes := #[] }, { accessFlags := 18, nameIndex := 207, descriptorIndex := 194, attributes := #[] }, { accessFlags := 25, nameIndex := 316, descriptorIndex := 194, attributes := #[] }, { accessFlags := 25, nameIndex := 318, descriptorIndex := 194, attributes := #[] }, { accessFlags := 26, nameIndex := 320, descriptorIndex := 321, attributes := #[] }])
  fields := #[{ name := "MIN_VALUE", type := .int, accessFlags := 25, slot := 0, constantValue := 0 }, { name := "MAX_VALUE", type := .int, accessFlags := 25, slot := 1, constantValue := 0 }, { name := "TYPE", type := (.object "java/lang/Class"), accessFlags := 25, slot := 2, constantValue := 0 }, { name := "digits", type := (.array .char), accessFlags := 24, slot := 3, constantValue := 0 }, { name := "DigitTens", type := (.array .byte), accessFlags := 24, slot := 4, constantValue := 0 }, { name := "DigitOnes", type := (.array .byte), accessFlags := 24, slot := 5, constantValue := 0 }, { name := "value", type := .int, accessFlags := 18, slot := 0, constantValue := 0 }, { name := "SIZE", type := .int, accessFlags := 25, slot := 6, constantValue := 0 }, { name := "BYTES", type := .int, accessFlags := 25, slot := 7, constantValue := 0 }, { name := "serialVersionUID", type := .long, accessFlags := 26, slot := 8, constantValue := 0 }]
  methods := #[k21m0]
  instanceTypes := #[.int]
  staticTypes := #[.int, .int, (.object "java/lang/Class"), (.array .char), (.array .byte), (.array .byte), .int, .int, .long]
  resolved := Array.replicate 453 none
  statics := none }

def pool22 : Array CpInfo := pool [(1, u "java/lang/Cloneable"), (0, .class_ 1), (0, u "java/lang/Object"), (0, .class_ 3)] 3

/-- java/lang/Cloneable -/
def k22 : Class := { plain "java/lang/Cloneable" (some 0) with
  accessFlags := 1537
  interfaces := #[]
  cf := some (fileOf pool22 2 #[] #[] 1537 4 #[] #[])
  fields := #[]
  methods := #[]
  instanceTypes := #[]
  staticTypes := #[]
  resolved := Array.replicate 8 none
  statics := none }

/-- the primitive byte -/
def k23 : Class := { plain "byte" none with kind := .primitive 'B', accessFlags := 0x411 }
/-- [B -/
def k24 : Class := { plain "[B" (some 0) with kind := .array 23 .byte, interfaces := #[22, 7], accessFlags := 1041 }

/-- the primitive char -/
def k25 : Class := { plain "char" none with kind := .primitive 'C', accessFlags := 0x411 }
/-- [C -/
def k26 : Class := { plain "[C" (some 0) with kind := .array 25 .char, interfaces := #[22, 7], accessFlags := 1041 }

/-- the primitive int -/
def k27 : Class := { plain "int" none with kind := .primitive 'I', accessFlags := 0x411 }
/-- [I -/
def k28 : Class := { plain "[I" (some 0) with kind := .array 27 .int, interfaces := #[22, 7], accessFlags := 1041 }

/-- the primitive long -/
def k29 : Class := { plain "long" none with kind := .primitive 'J', accessFlags := 0x411 }
/-- [J -/
def k30 : Class := { plain "[J" (some 0) with kind := .array 29 .long, interfaces := #[22, 7], accessFlags := 1041 }

def heap : Heap := #[{ cls := 9, slots := #[.null, .ref 2, .null, .null, .null], vm := .statics 9 },
  { cls := 13, slots := #[.ref 3, .null, .ref 4, .null], vm := .statics 13 },
  { cls := 9, slots := #[.null, .int 1, .int 0, .int 1, .int 1, .int 1], vm := .none },
  { cls := 13, slots := #[.null, .int 0, .int 0], vm := .none },
  { cls := 13, slots := #[.null, .int 2, .int 0], vm := .none }]
def classes : Array Class := #[k0, k1, k2, k3, k4, k5, k6, k7, k8, k9, k10, k11, k12, k13, k14, k15, k16, k17, k18, k19, k20, k21, k22, k23, k24, k25, k26, k27, k28, k29, k30]
def interned : List (Array UInt16 × Addr) := []
def slotsUsed : Nat := 21
def theMethod : MethodId := ⟨1, 1⟩
def args0 : Array Value := #[.int 5, .int 5, .int 5, .int 5, .int 5]
def aboutOver (below : List Frame) : State where
  vm := { classes := classes, interned := interned.toArray }
  heap := heap
  slotsUsed := slotsUsed
  threads := #[{ frames := .invoking theMethod args0 :: below }]
def below0 : List Frame := [.native { method := ⟨0, 0⟩, args := #[] }]
def about1 : State := aboutOver below0
def p0 : Program := .bare "" "" ""
def e0 : Env := launch0.env 0 0 0
theorem w_frames : about1.frames = Frame.invoking theMethod args0 :: below0 := rfl
set_option maxRecDepth 65536 in
theorem w_args : argsFit about1.vm theMethod args0 = true := by decide +kernel
set_option maxRecDepth 65536 in
theorem w_heap : heapFits about1 = true := by decide +kernel
set_option maxRecDepth 65536 in
theorem w_runnable : about1.curStatus? = some .runnable := by decide +kernel
set_option maxRecDepth 65536 in
theorem w_alone : about1.alone = true := by decide +kernel
set_option maxRecDepth 65536 in
theorem w_named : about1.methodNamed? x = some theMethod := by decide +kernel
set_option maxRecDepth 65536 in
theorem w_hears : about1.hears theMethod below0 = true := by decide +kernel
set_option maxRecDepth 65536 in
theorem w_ripe : about1.ripe theMethod args0 below0 = true := by decide +kernel
theorem w_running : about1.status = .running := rfl
set_option maxRecDepth 65536 in
theorem w_room : about1.hasRoom e0.platform room_1 = true :=
  launch0.hasRoom_least _ room_1 (by decide +kernel) (by decide +kernel) (by decide +kernel) (by decide +kernel) (by decide +kernel) (by decide +kernel)
theorem allAtoms_all (ts : List Jvm.Cond) (a : Array Jvm.Value) (st : Jvm.State) : (allAtoms ts).before a st = ts.all (fun c => c.before a st) := by
  induction ts with
  | nil => rfl
  | cons c t ih =>
    show (Jvm.Cond.and c (allAtoms t)).before a st = _
    rw [Jvm.Cond.before_and, ih, List.all_cons]
def words1 : List Jvm.Cond := Jvm.Cond.code x code maxLocals ret :: tables_1
/-- a 'code' word, met by the world's own term for the bytes: nothing is compared byte by byte -/
theorem code_word {y : MethodName} {bytes : ByteArray} {mx : Nat} {rt : Option FieldType} {a : Array Value} {s : State} {m : MethodId} {meth : Method} {c : Code} (h1 : s.methodNamed? y = some m) (h2 : s.vm.method? m = some meth) (h3 : meth.code = some c) (h4 : c.code = bytes)
    (h5 : (c.maxLocals == mx && c.exceptionTable.isEmpty && decide (c.maxStack ≤ mostOperands) && decide (meth.sig.returnType = rt) && !meth.locks && decide (parseMethodDescriptor y.desc = some meth.sig)) = true) : (Jvm.Cond.code y bytes mx rt).before a s = true := by
  simp only [Bool.and_eq_true, beq_iff_eq, Bool.not_eq_true', decide_eq_true_eq] at h5
  obtain ⟨⟨⟨⟨⟨g1, g2⟩, g3⟩, g4⟩, g5⟩, g6⟩ := h5
  simp [Cond.before, Cond.holds, Cond.value, h1, h2, h3, h4, g1, g2, g3, g4, g5, g6]
def isCode : Jvm.Cond → Bool
  | .code _ _ _ _ => true
  | _ => false
theorem all_split {L : List Jvm.Cond} {P : Jvm.Cond → Bool} (h1 : L.all (fun c => isCode c || P c) = true) (h2 : ∀ c ∈ L.filter isCode, P c = true) : L.all P = true := by
  refine List.all_eq_true.mpr fun c hc => ?_
  have h := List.all_eq_true.mp h1 c hc
  rcases Bool.eq_false_or_eq_true (isCode c) with hi | hi
  · exact h2 c (List.mem_filter.mpr ⟨hc, hi⟩)
  · simpa [hi] using h
set_option maxRecDepth 65536 in
theorem w_c0 : (Jvm.Cond.code x code maxLocals ret).before args0 about1 = true := code_word (m := ⟨1, 1⟩) (meth := k1m1) (c := k1c1) (by decide +kernel) rfl rfl rfl (by decide +kernel)
set_option maxRecDepth 65536 in
theorem w_c1 : (Jvm.Cond.code ({ cls := "cobblebit/container/ArrayContainer", name := "<init>", desc := "()V" } : Jvm.MethodName) prog_42_method_1_code (1 : Nat) (Option.none : Option Jvm.ClassFile.FieldType)).before args0 about1 = true := code_word (m := ⟨4, 0⟩) (meth := k4m0) (c := k4c0) (by decide +kernel) rfl rfl rfl (by decide +kernel)
set_option maxRecDepth 65536 in
theorem w_c2 : (Jvm.Cond.code ({ cls := "cobblebit/container/Container", name := "<init>", desc := "()V" } : Jvm.MethodName) prog_59_method_1_code (1 : Nat) (Option.none : Option Jvm.ClassFile.FieldType)).before args0 about1 = true := code_word (m := ⟨2, 0⟩) (meth := k2m0) (c := k2c0) (by decide +kernel) rfl rfl rfl (by decide +kernel)
set_option maxRecDepth 65536 in
theorem w_c3 : (Jvm.Cond.code ({ cls := "java/lang/Object", name := "<init>", desc := "()V" } : Jvm.MethodName) object_method_1_code (1 : Nat) (Option.none : Option Jvm.ClassFile.FieldType)).before args0 about1 = true := code_word (m := ⟨0, 0⟩) (meth := k0m0) (c := k0c0) (by decide +kernel) rfl rfl rfl (by decide +kernel)
set_option maxRecDepth 65536 in
theorem w_c4 : (Jvm.Cond.code ({ cls := "cobblebit/container/ArrayContainer", name := "editRange", desc := "(Lcobblebit/terms/Operation;II)Lcobblebit/container/Container;" } : Jvm.MethodName) prog_42_method_31_code (12 : Nat) (Option.some (Jvm.ClassFile.FieldType.object "cobblebit/container/Container"))).before args0 about1 = true := code_word (m := ⟨4, 7⟩) (meth := k4m7) (c := k4c7) (by decide +kernel) rfl rfl rfl (by decide +kernel)
set_option maxRecDepth 65536 in
theorem w_c5 : (Jvm.Cond.code ({ cls := "cobblebit/container/ArrayContainer", name := "isSettled", desc := "()Z" } : Jvm.MethodName) prog_42_method_24_code (1 : Nat) (Option.some Jvm.ClassFile.FieldType.boolean)).before args0 about1 = true := code_word (m := ⟨4, 5⟩) (meth := k4m5) (c := k4c5) (by decide +kernel) rfl rfl rfl (by decide +kernel)
set_option maxRecDepth 65536 in
theorem w_c6 : (Jvm.Cond.code ({ cls := "cobblebit/container/ArrayContainer", name := "indexAtOrAbove", desc := "(II)I" } : Jvm.MethodName) prog_42_method_32_code (4 : Nat) (Option.some Jvm.ClassFile.FieldType.int)).before args0 about1 = true := code_word (m := ⟨4, 8⟩) (meth := k4m8) (c := k4c8) (by decide +kernel) rfl rfl rfl (by decide +kernel)
set_option maxRecDepth 65536 in
theorem w_c7 : (Jvm.Cond.code ({ cls := "java/util/Arrays", name := "binarySearch", desc := "([CIIC)I" } : Jvm.MethodName) jdk_65_method_64_code (4 : Nat) (Option.some Jvm.ClassFile.FieldType.int)).before args0 about1 = true := code_word (m := ⟨10, 2⟩) (meth := k10m2) (c := k10c2) (by decide +kernel) rfl rfl rfl (by decide +kernel)
set_option maxRecDepth 65536 in
theorem w_c8 : (Jvm.Cond.code ({ cls := "java/util/Arrays", name := "rangeCheck", desc := "(III)V" } : Jvm.MethodName) jdk_65_method_30_code (3 : Nat) (Option.none : Option Jvm.ClassFile.FieldType)).before args0 about1 = true := code_word (m := ⟨10, 1⟩) (meth := k10m1) (c := k10c1) (by decide +kernel) rfl rfl rfl (by decide +kernel)
set_option maxRecDepth 65536 in
theorem w_c9 : (Jvm.Cond.code ({ cls := "java/util/Arrays", name := "binarySearch0", desc := "([CIIC)I" } : Jvm.MethodName) jdk_65_method_65_code (8 : Nat) (Option.some Jvm.ClassFile.FieldType.int)).before args0 about1 = true := code_word (m := ⟨10, 3⟩) (meth := k10m3) (c := k10c3) (by decide +kernel) rfl rfl rfl (by decide +kernel)
set_option maxRecDepth 65536 in
theorem w_c10 : (Jvm.Cond.code ({ cls := "cobblebit/terms/Operation", name := "keepsBoth", desc := "()Z" } : Jvm.MethodName) prog_117_method_6_code (1 : Nat) (Option.some Jvm.ClassFile.FieldType.boolean)).before args0 about1 = true := code_word (m := ⟨9, 1⟩) (meth := k9m1) (c := k9c1) (by decide +kernel) rfl rfl rfl (by decide +kernel)
set_option maxRecDepth 65536 in
theorem w_c11 : (Jvm.Cond.code ({ cls := "cobblebit/terms/Operation", name := "keepsSecondOnly", desc := "()Z" } : Jvm.MethodName) prog_117_method_5_code (1 : Nat) (Option.some Jvm.ClassFile.FieldType.boolean)).before args0 about1 = true := code_word (m := ⟨9, 0⟩) (meth := k9m0) (c := k9c0) (by decide +kernel) rfl rfl rfl (by decide +kernel)
set_option maxRecDepth 65536 in
theorem w_c12 : (Jvm.Cond.code ({ cls := "cobblebit/container/Container", name := "runOptimised", desc := "()Lcobblebit/container/Container;" } : Jvm.MethodName) prog_59_method_28_code (2 : Nat) (Option.some (Jvm.ClassFile.FieldType.object "cobblebit/container/Container"))).before args0 about1 = true := code_word (m := ⟨2, 3⟩) (meth := k2m3) (c := k2c3) (by decide +kernel) rfl rfl rfl (by decide +kernel)
set_option maxRecDepth 65536 in
theorem w_c13 : (Jvm.Cond.code ({ cls := "cobblebit/container/ArrayContainer", name := "runCount", desc := "()I" } : Jvm.MethodName) prog_42_method_57_code (2 : Nat) (Option.some Jvm.ClassFile.FieldType.int)).before args0 about1 = true := code_word (m := ⟨4, 13⟩) (meth := k4m13) (c := k4c13) (by decide +kernel) rfl rfl rfl (by decide +kernel)
set_option maxRecDepth 65536 in
theorem w_c14 : (Jvm.Cond.code ({ cls := "cobblebit/container/ArrayContainer", name := "runStarts", desc := "(II)I" } : Jvm.MethodName) prog_42_method_58_code (5 : Nat) (Option.some Jvm.ClassFile.FieldType.int)).before args0 about1 = true := code_word (m := ⟨4, 14⟩) (meth := k4m14) (c := k4c14) (by decide +kernel) rfl rfl rfl (by decide +kernel)
set_option maxRecDepth 65536 in
theorem w_c15 : (Jvm.Cond.code ({ cls := "cobblebit/container/RunContainer", name := "storedSize", desc := "(I)I" } : Jvm.MethodName) prog_81_method_38_code (1 : Nat) (Option.some Jvm.ClassFile.FieldType.int)).before args0 about1 = true := code_word (m := ⟨12, 2⟩) (meth := k12m2) (c := k12c2) (by decide +kernel) rfl rfl rfl (by decide +kernel)
set_option maxRecDepth 65536 in
theorem w_c16 : (Jvm.Cond.code ({ cls := "cobblebit/container/ArrayContainer", name := "cardinality", desc := "()I" } : Jvm.MethodName) prog_42_method_9_code (1 : Nat) (Option.some Jvm.ClassFile.FieldType.int)).before args0 about1 = true := code_word (m := ⟨4, 2⟩) (meth := k4m2) (c := k4c2) (by decide +kernel) rfl rfl rfl (by decide +kernel)
set_option maxRecDepth 65536 in
theorem w_c17 : (Jvm.Cond.code ({ cls := "cobblebit/container/Container", name := "plainStoredSize", desc := "(I)I" } : Jvm.MethodName) prog_59_method_34_code (1 : Nat) (Option.some Jvm.ClassFile.FieldType.int)).before args0 about1 = true := code_word (m := ⟨2, 6⟩) (meth := k2m6) (c := k2c6) (by decide +kernel) rfl rfl rfl (by decide +kernel)
set_option maxRecDepth 65536 in
theorem w_c18 : (Jvm.Cond.code ({ cls := "cobblebit/container/ArrayContainer", name := "storedSize", desc := "(I)I" } : Jvm.MethodName) prog_42_method_60_code (1 : Nat) (Option.some Jvm.ClassFile.FieldType.int)).before args0 about1 = true := code_word (m := ⟨4, 15⟩) (meth := k4m15) (c := k4c15) (by decide +kernel) rfl rfl rfl (by decide +kernel)
set_option maxRecDepth 65536 in
theorem w_c19 : (Jvm.Cond.code ({ cls := "cobblebit/container/ArrayContainer", name := "kind", desc := "()Lcobblebit/terms/ContainerKind;" } : Jvm.MethodName) prog_42_method_8_code (1 : Nat) (Option.some (Jvm.ClassFile.FieldType.object "cobblebit/terms/ContainerKind"))).before args0 about1 = true := code_word (m := ⟨4, 1⟩) (meth := k4m1) (c := k4c1) (by decide +kernel) rfl rfl rfl (by decide +kernel)
set_option maxRecDepth 65536 in
theorem w_c20 : (Jvm.Cond.code ({ cls := "cobblebit/container/ArrayContainer", name := "takesUnsorted", desc := "(C)Z" } : Jvm.MethodName) prog_42_method_22_code (2 : Nat) (Option.some Jvm.ClassFile.FieldType.boolean)).before args0 about1 = true := code_word (m := ⟨4, 4⟩) (meth := k4m4) (c := k4c4) (by decide +kernel) rfl rfl rfl (by decide +kernel)
set_option maxRecDepth 65536 in
theorem w_c21 : (Jvm.Cond.code ({ cls := "cobblebit/container/ArrayContainer", name := "grownLength", desc := "(I)I" } : Jvm.MethodName) prog_42_method_56_code (2 : Nat) (Option.some Jvm.ClassFile.FieldType.int)).before args0 about1 = true := code_word (m := ⟨4, 12⟩) (meth := k4m12) (c := k4c12) (by decide +kernel) rfl rfl rfl (by decide +kernel)
set_option maxRecDepth 65536 in
theorem w_c22 : (Jvm.Cond.code ({ cls := "java/lang/Math", name := "min", desc := "(II)I" } : Jvm.MethodName) jdk_29_method_69_code (2 : Nat) (Option.some Jvm.ClassFile.FieldType.int)).before args0 about1 = true := code_word (m := ⟨14, 2⟩) (meth := k14m2) (c := k14c2) (by decide +kernel) rfl rfl rfl (by decide +kernel)
set_option maxRecDepth 65536 in
theorem w_c23 : (Jvm.Cond.code ({ cls := "java/lang/Math", name := "max", desc := "(II)I" } : Jvm.MethodName) jdk_29_method_65_code (2 : Nat) (Option.some Jvm.ClassFile.FieldType.int)).before args0 about1 = true := code_word (m := ⟨14, 1⟩) (meth := k14m1) (c := k14c1) (by decide +kernel) rfl rfl rfl (by decide +kernel)
set_option maxRecDepth 65536 in
theorem w_c24 : (Jvm.Cond.code ({ cls := "java/util/Arrays", name := "copyOf", desc := "([CI)[C" } : Jvm.MethodName) jdk_65_method_125_code (3 : Nat) (Option.some (Jvm.ClassFile.FieldType.array Jvm.ClassFile.FieldType.char))).before args0 about1 = true := code_word (m := ⟨10, 4⟩) (meth := k10m4) (c := k10c4) (by decide +kernel) rfl rfl rfl (by decide +kernel)
set_option maxRecDepth 65536 in
theorem w_c25 : (Jvm.Cond.code ({ cls := "cobblebit/container/ArrayContainer", name := "toWords", desc := "()[J" } : Jvm.MethodName) prog_42_method_45_code (2 : Nat) (Option.some (Jvm.ClassFile.FieldType.array Jvm.ClassFile.FieldType.long))).before args0 about1 = true := code_word (m := ⟨4, 9⟩) (meth := k4m9) (c := k4c9) (by decide +kernel) rfl rfl rfl (by decide +kernel)
set_option maxRecDepth 65536 in
theorem w_c26 : (Jvm.Cond.code ({ cls := "cobblebit/container/ArrayContainer", name := "setBits", desc := "([J)V" } : Jvm.MethodName) prog_42_method_46_code (2 : Nat) (Option.none : Option Jvm.ClassFile.FieldType)).before args0 about1 = true := code_word (m := ⟨4, 10⟩) (meth := k4m10) (c := k4c10) (by decide +kernel) rfl rfl rfl (by decide +kernel)
set_option maxRecDepth 65536 in
theorem w_c27 : (Jvm.Cond.code ({ cls := "cobblebit/container/ArrayContainer", name := "setBits", desc := "([CI[J)V" } : Jvm.MethodName) prog_42_method_47_code (4 : Nat) (Option.none : Option Jvm.ClassFile.FieldType)).before args0 about1 = true := code_word (m := ⟨4, 11⟩) (meth := k4m11) (c := k4c11) (by decide +kernel) rfl rfl rfl (by decide +kernel)
set_option maxRecDepth 65536 in
theorem w_c28 : (Jvm.Cond.code ({ cls := "cobblebit/container/RunContainer", name := "of", desc := "([J)Lcobblebit/container/RunContainer;" } : Jvm.MethodName) prog_81_method_3_code (6 : Nat) (Option.some (Jvm.ClassFile.FieldType.object "cobblebit/container/RunContainer"))).before args0 about1 = true := code_word (m := ⟨12, 1⟩) (meth := k12m1) (c := k12c1) (by decide +kernel) rfl rfl rfl (by decide +kernel)
set_option maxRecDepth 65536 in
theorem w_c29 : (Jvm.Cond.code ({ cls := "cobblebit/container/BitmapContainer", name := "runCount", desc := "([J)I" } : Jvm.MethodName) prog_45_method_41_code (1 : Nat) (Option.some Jvm.ClassFile.FieldType.int)).before args0 about1 = true := code_word (m := ⟨15, 0⟩) (meth := k15m0) (c := k15c0) (by decide +kernel) rfl rfl rfl (by decide +kernel)
set_option maxRecDepth 65536 in
theorem w_c30 : (Jvm.Cond.code ({ cls := "cobblebit/container/BitmapContainer", name := "runStarts", desc := "([JII)I" } : Jvm.MethodName) prog_45_method_43_code (9 : Nat) (Option.some Jvm.ClassFile.FieldType.int)).before args0 about1 = true := code_word (m := ⟨15, 2⟩) (meth := k15m2) (c := k15c2) (by decide +kernel) rfl rfl rfl (by decide +kernel)
set_option maxRecDepth 65536 in
theorem w_c31 : (Jvm.Cond.code ({ cls := "java/lang/Long", name := "bitCount", desc := "(J)I" } : Jvm.MethodName) jdk_35_method_50_code (2 : Nat) (Option.some Jvm.ClassFile.FieldType.int)).before args0 about1 = true := code_word (m := ⟨18, 1⟩) (meth := k18m1) (c := k18c1) (by decide +kernel) rfl rfl rfl (by decide +kernel)
set_option maxRecDepth 65536 in
theorem w_c32 : (Jvm.Cond.code ({ cls := "cobblebit/container/BitmapContainer", name := "runsOf", desc := "([J)Lcobblebit/container/RunWalk;" } : Jvm.MethodName) prog_45_method_42_code (1 : Nat) (Option.some (Jvm.ClassFile.FieldType.object "cobblebit/container/RunWalk"))).before args0 about1 = true := code_word (m := ⟨15, 1⟩) (meth := k15m1) (c := k15c1) (by decide +kernel) rfl rfl rfl (by decide +kernel)
set_option maxRecDepth 65536 in
theorem w_c33 : (Jvm.Cond.code ({ cls := "cobblebit/container/BitmapContainer$1", name := "<init>", desc := "([J)V" } : Jvm.MethodName) prog_46_method_1_code (2 : Nat) (Option.none : Option Jvm.ClassFile.FieldType)).before args0 about1 = true := code_word (m := ⟨20, 0⟩) (meth := k20m0) (c := k20c0) (by decide +kernel) rfl rfl rfl (by decide +kernel)
set_option maxRecDepth 65536 in
theorem w_c34 : (Jvm.Cond.code ({ cls := "cobblebit/container/RunWalk", name := "<init>", desc := "()V" } : Jvm.MethodName) prog_83_method_1_code (1 : Nat) (Option.none : Option Jvm.ClassFile.FieldType)).before args0 about1 = true := code_word (m := ⟨19, 0⟩) (meth := k19m0) (c := k19c0) (by decide +kernel) rfl rfl rfl (by decide +kernel)
set_option maxRecDepth 65536 in
theorem w_c35 : (Jvm.Cond.code ({ cls := "cobblebit/container/BitmapContainer$1", name := "next", desc := "()Z" } : Jvm.MethodName) prog_46_method_2_code (3 : Nat) (Option.some Jvm.ClassFile.FieldType.boolean)).before args0 about1 = true := code_word (m := ⟨20, 1⟩) (meth := k20m1) (c := k20c1) (by decide +kernel) rfl rfl rfl (by decide +kernel)
set_option maxRecDepth 65536 in
theorem w_c36 : (Jvm.Cond.code ({ cls := "java/lang/Long", name := "numberOfTrailingZeros", desc := "(J)I" } : Jvm.MethodName) jdk_35_method_49_code (3 : Nat) (Option.some Jvm.ClassFile.FieldType.int)).before args0 about1 = true := code_word (m := ⟨18, 0⟩) (meth := k18m0) (c := k18c0) (by decide +kernel) rfl rfl rfl (by decide +kernel)
set_option maxRecDepth 65536 in
theorem w_c37 : (Jvm.Cond.code ({ cls := "java/lang/Integer", name := "numberOfTrailingZeros", desc := "(I)I" } : Jvm.MethodName) jdk_33_method_48_code (2 : Nat) (Option.some Jvm.ClassFile.FieldType.int)).before args0 about1 = true := code_word (m := ⟨21, 0⟩) (meth := k21m0) (c := k21c0) (by decide +kernel) rfl rfl rfl (by decide +kernel)
set_option maxRecDepth 65536 in
theorem w_c38 : (Jvm.Cond.code ({ cls := "cobblebit/container/RunWalk", name := "found", desc := "(II)Z" } : Jvm.MethodName) prog_83_method_5_code (3 : Nat) (Option.some Jvm.ClassFile.FieldType.boolean)).before args0 about1 = true := code_word (m := ⟨19, 4⟩) (meth := k19m4) (c := k19c4) (by decide +kernel) rfl rfl rfl (by decide +kernel)
set_option maxRecDepth 65536 in
theorem w_c39 : (Jvm.Cond.code ({ cls := "cobblebit/container/RunWalk", name := "start", desc := "()I" } : Jvm.MethodName) prog_83_method_3_code (1 : Nat) (Option.some Jvm.ClassFile.FieldType.int)).before args0 about1 = true := code_word (m := ⟨19, 2⟩) (meth := k19m2) (c := k19c2) (by decide +kernel) rfl rfl rfl (by decide +kernel)
set_option maxRecDepth 65536 in
theorem w_c40 : (Jvm.Cond.code ({ cls := "cobblebit/container/RunWalk", name := "end", desc := "()I" } : Jvm.MethodName) prog_83_method_4_code (1 : Nat) (Option.some Jvm.ClassFile.FieldType.int)).before args0 about1 = true := code_word (m := ⟨19, 3⟩) (meth := k19m3) (c := k19c3) (by decide +kernel) rfl rfl rfl (by decide +kernel)
set_option maxRecDepth 65536 in
theorem w_c41 : (Jvm.Cond.code ({ cls := "cobblebit/container/RunContainer", name := "<init>", desc := "([CII)V" } : Jvm.MethodName) prog_81_method_1_code (4 : Nat) (Option.none : Option Jvm.ClassFile.FieldType)).before args0 about1 = true := code_word (m := ⟨12, 0⟩) (meth := k12m0) (c := k12c0) (by decide +kernel) rfl rfl rfl (by decide +kernel)
set_option maxRecDepth 65536 in
theorem w_c42 : (Jvm.Cond.code ({ cls := "cobblebit/container/ArrayContainer", name := "addUnsorted", desc := "(C)Lcobblebit/container/Container;" } : Jvm.MethodName) prog_42_method_25_code (4 : Nat) (Option.some (Jvm.ClassFile.FieldType.object "cobblebit/container/Container"))).before args0 about1 = true := code_word (m := ⟨4, 6⟩) (meth := k4m6) (c := k4c6) (by decide +kernel) rfl rfl rfl (by decide +kernel)
set_option maxRecDepth 65536 in
theorem w_c43 : (Jvm.Cond.code ({ cls := "cobblebit/container/ArrayContainer", name := "growWhereFull", desc := "()V" } : Jvm.MethodName) prog_42_method_20_code (1 : Nat) (Option.none : Option Jvm.ClassFile.FieldType)).before args0 about1 = true := code_word (m := ⟨4, 3⟩) (meth := k4m3) (c := k4c3) (by decide +kernel) rfl rfl rfl (by decide +kernel)
def codes1 : List Jvm.Cond := [Jvm.Cond.code x code maxLocals ret, Jvm.Cond.code ({ cls := "cobblebit/container/ArrayContainer", name := "<init>", desc := "()V" } : Jvm.MethodName) prog_42_method_1_code (1 : Nat) (Option.none : Option Jvm.ClassFile.FieldType), Jvm.Cond.code ({ cls := "cobblebit/container/Container", name := "<init>", desc := "()V" } : Jvm.MethodName) prog_59_method_1_code (1 : Nat) (Option.none : Option Jvm.ClassFile.FieldType), Jvm.Cond.code ({ cls := "java/lang/Object", name := "<init>", desc := "()V" } : Jvm.MethodName) object_method_1_code (1 : Nat) (Option.none : Option Jvm.ClassFile.FieldType), Jvm.Cond.code ({ cls := "cobblebit/container/ArrayContainer", name := "editRange", desc := "(Lcobblebit/terms/Operation;II)Lcobblebit/container/Container;" } : Jvm.MethodName) prog_42_method_31_code (12 : Nat) (Option.some (Jvm.ClassFile.FieldType.object "cobblebit/container/Container")), Jvm.Cond.code ({ cls := "cobblebit/container/ArrayContainer", name := "isSettled", desc := "()Z" } : Jvm.MethodName) prog_42_method_24_code (1 : Nat) (Option.some Jvm.ClassFile.FieldType.boolean), Jvm.Cond.code ({ cls := "cobblebit/container/ArrayContainer", name := "indexAtOrAbove", desc := "(II)I" } : Jvm.MethodName) prog_42_method_32_code (4 : Nat) (Option.some Jvm.ClassFile.FieldType.int), Jvm.Cond.code ({ cls := "java/util/Arrays", name := "binarySearch", desc := "([CIIC)I" } : Jvm.MethodName) jdk_65_method_64_code (4 : Nat) (Option.some Jvm.ClassFile.FieldType.int), Jvm.Cond.code ({ cls := "java/util/Arrays", name := "rangeCheck", desc := "(III)V" } : Jvm.MethodName) jdk_65_method_30_code (3 : Nat) (Option.none : Option Jvm.ClassFile.FieldType), Jvm.Cond.code ({ cls := "java/util/Arrays", name := "binarySearch0", desc := "([CIIC)I" } : Jvm.MethodName) jdk_65_method_65_code (8 : Nat) (Option.some Jvm.ClassFile.FieldType.int), Jvm.Cond.code ({ cls := "cobblebit/terms/Operation", name := "keepsBoth", desc := "()Z" } : Jvm.MethodName) prog_117_method_6_code (1 : Nat) (Option.some Jvm.ClassFile.FieldType.boolean), Jvm.Cond.code ({ cls := "cobblebit/terms/Operation", name := "keepsSecondOnly", desc := "()Z" } : Jvm.MethodName) prog_117_method_5_code (1 : Nat) (Option.some Jvm.ClassFile.FieldType.boolean), Jvm.Cond.code ({ cls := "cobblebit/container/Container", name := "runOptimised", desc := "()Lcobblebit/container/Container;" } : Jvm.MethodName) prog_59_method_28_code (2 : Nat) (Option.some (Jvm.ClassFile.FieldType.object "cobblebit/container/Container")), Jvm.Cond.code ({ cls := "cobblebit/container/ArrayContainer", name := "runCount", desc := "()I" } : Jvm.MethodName) prog_42_method_57_code (2 : Nat) (Option.some Jvm.ClassFile.FieldType.int), Jvm.Cond.code ({ cls := "cobblebit/container/ArrayContainer", name := "runStarts", desc := "(II)I" } : Jvm.MethodName) prog_42_method_58_code (5 : Nat) (Option.some Jvm.ClassFile.FieldType.int), Jvm.Cond.code ({ cls := "cobblebit/container/RunContainer", name := "storedSize", desc := "(I)I" } : Jvm.MethodName) prog_81_method_38_code (1 : Nat) (Option.some Jvm.ClassFile.FieldType.int), Jvm.Cond.code ({ cls := "cobblebit/container/ArrayContainer", name := "cardinality", desc := "()I" } : Jvm.MethodName) prog_42_method_9_code (1 : Nat) (Option.some Jvm.ClassFile.FieldType.int), Jvm.Cond.code ({ cls := "cobblebit/container/Container", name := "plainStoredSize", desc := "(I)I" } : Jvm.MethodName) prog_59_method_34_code (1 : Nat) (Option.some Jvm.ClassFile.FieldType.int), Jvm.Cond.code ({ cls := "cobblebit/container/ArrayContainer", name := "storedSize", desc := "(I)I" } : Jvm.MethodName) prog_42_method_60_code (1 : Nat) (Option.some Jvm.ClassFile.FieldType.int), Jvm.Cond.code ({ cls := "cobblebit/container/ArrayContainer", name := "kind", desc := "()Lcobblebit/terms/ContainerKind;" } : Jvm.MethodName) prog_42_method_8_code (1 : Nat) (Option.some (Jvm.ClassFile.FieldType.object "cobblebit/terms/ContainerKind")), Jvm.Cond.code ({ cls := "cobblebit/container/ArrayContainer", name := "takesUnsorted", desc := "(C)Z" } : Jvm.MethodName) prog_42_method_22_code (2 : Nat) (Option.some Jvm.ClassFile.FieldType.boolean), Jvm.Cond.code ({ cls := "cobblebit/container/ArrayContainer", name := "grownLength", desc := "(I)I" } : Jvm.MethodName) prog_42_method_56_code (2 : Nat) (Option.some Jvm.ClassFile.FieldType.int), Jvm.Cond.code ({ cls := "java/lang/Math", name := "min", desc := "(II)I" } : Jvm.MethodName) jdk_29_method_69_code (2 : Nat) (Option.some Jvm.ClassFile.FieldType.int), Jvm.Cond.code ({ cls := "java/lang/Math", name := "max", desc := "(II)I" } : Jvm.MethodName) jdk_29_method_65_code (2 : Nat) (Option.some Jvm.ClassFile.FieldType.int), Jvm.Cond.code ({ cls := "java/util/Arrays", name := "copyOf", desc := "([CI)[C" } : Jvm.MethodName) jdk_65_method_125_code (3 : Nat) (Option.some (Jvm.ClassFile.FieldType.array Jvm.ClassFile.FieldType.char)), Jvm.Cond.code ({ cls := "cobblebit/container/ArrayContainer", name := "toWords", desc := "()[J" } : Jvm.MethodName) prog_42_method_45_code (2 : Nat) (Option.some (Jvm.ClassFile.FieldType.array Jvm.ClassFile.FieldType.long)), Jvm.Cond.code ({ cls := "cobblebit/container/ArrayContainer", name := "setBits", desc := "([J)V" } : Jvm.MethodName) prog_42_method_46_code (2 : Nat) (Option.none : Option Jvm.ClassFile.FieldType), Jvm.Cond.code ({ cls := "cobblebit/container/ArrayContainer", name := "setBits", desc := "([CI[J)V" } : Jvm.MethodName) prog_42_method_47_code (4 : Nat) (Option.none : Option Jvm.ClassFile.FieldType), Jvm.Cond.code ({ cls := "cobblebit/container/RunContainer", name := "of", desc := "([J)Lcobblebit/container/RunContainer;" } : Jvm.MethodName) prog_81_method_3_code (6 : Nat) (Option.some (Jvm.ClassFile.FieldType.object "cobblebit/container/RunContainer")), Jvm.Cond.code ({ cls := "cobblebit/container/BitmapContainer", name := "runCount", desc := "([J)I" } : Jvm.MethodName) prog_45_method_41_code (1 : Nat) (Option.some Jvm.ClassFile.FieldType.int), Jvm.Cond.code ({ cls := "cobblebit/container/BitmapContainer", name := "runStarts", desc := "([JII)I" } : Jvm.MethodName) prog_45_method_43_code (9 : Nat) (Option.some Jvm.ClassFile.FieldType.int), Jvm.Cond.code ({ cls := "java/lang/Long", name := "bitCount", desc := "(J)I" } : Jvm.MethodName) jdk_35_method_50_code (2 : Nat) (Option.some Jvm.ClassFile.FieldType.int), Jvm.Cond.code ({ cls := "cobblebit/container/BitmapContainer", name := "runsOf", desc := "([J)Lcobblebit/container/RunWalk;" } : Jvm.MethodName) prog_45_method_42_code (1 : Nat) (Option.some (Jvm.ClassFile.FieldType.object "cobblebit/container/RunWalk")), Jvm.Cond.code ({ cls := "cobblebit/container/BitmapContainer$1", name := "<init>", desc := "([J)V" } : Jvm.MethodName) prog_46_method_1_code (2 : Nat) (Option.none : Option Jvm.ClassFile.FieldType), Jvm.Cond.code ({ cls := "cobblebit/container/RunWalk", name := "<init>", desc := "()V" } : Jvm.MethodName) prog_83_method_1_code (1 : Nat) (Option.none : Option Jvm.ClassFile.FieldType), Jvm.Cond.code ({ cls := "cobblebit/container/BitmapContainer$1", name := "next", desc := "()Z" } : Jvm.MethodName) prog_46_method_2_code (3 : Nat) (Option.some Jvm.ClassFile.FieldType.boolean), Jvm.Cond.code ({ cls := "java/lang/Long", name := "numberOfTrailingZeros", desc := "(J)I" } : Jvm.MethodName) jdk_35_method_49_code (3 : Nat) (Option.some Jvm.ClassFile.FieldType.int), Jvm.Cond.code ({ cls := "java/lang/Integer", name := "numberOfTrailingZeros", desc := "(I)I" } : Jvm.MethodName) jdk_33_method_48_code (2 : Nat) (Option.some Jvm.ClassFile.FieldType.int), Jvm.Cond.code ({ cls := "cobblebit/container/RunWalk", name := "found", desc := "(II)Z" } : Jvm.MethodName) prog_83_method_5_code (3 : Nat) (Option.some Jvm.ClassFile.FieldType.boolean), Jvm.Cond.code ({ cls := "cobblebit/container/RunWalk", name := "start", desc := "()I" } : Jvm.MethodName) prog_83_method_3_code (1 : Nat) (Option.some Jvm.ClassFile.FieldType.int), Jvm.Cond.code ({ cls := "cobblebit/container/RunWalk", name := "end", desc := "()I" } : Jvm.MethodName) prog_83_method_4_code (1 : Nat) (Option.some Jvm.ClassFile.FieldType.int), Jvm.Cond.code ({ cls := "cobblebit/container/RunContainer", name := "<init>", desc := "([CII)V" } : Jvm.MethodName) prog_81_method_1_code (4 : Nat) (Option.none : Option Jvm.ClassFile.FieldType), Jvm.Cond.code ({ cls := "cobblebit/container/ArrayContainer", name := "addUnsorted", desc := "(C)Lcobblebit/container/Container;" } : Jvm.MethodName) prog_42_method_25_code (4 : Nat) (Option.some (Jvm.ClassFile.FieldType.object "cobblebit/container/Container")), Jvm.Cond.code ({ cls := "cobblebit/container/ArrayContainer", name := "growWhereFull", desc := "()V" } : Jvm.MethodName) prog_42_method_20_code (1 : Nat) (Option.none : Option Jvm.ClassFile.FieldType)]
set_option maxRecDepth 65536 in
theorem codes_eq : words1.filter isCode = codes1 := rfl
theorem w_codes : ∀ c ∈ words1.filter isCode, c.before args0 about1 = true := by
  rw [codes_eq]
  intro c hc
  simp only [codes1, List.mem_cons, List.not_mem_nil, or_false] at hc
  rcases hc with rfl | rfl | rfl | rfl | rfl | rfl | rfl | rfl | rfl | rfl | rfl | rfl | rfl | rfl | rfl | rfl | rfl | rfl | rfl | rfl | rfl | rfl | rfl | rfl | rfl | rfl | rfl | rfl | rfl | rfl | rfl | rfl | rfl | rfl | rfl | rfl | rfl | rfl | rfl | rfl | rfl | rfl | rfl | rfl
  · exact w_c0
  · exact w_c1
  · exact w_c2
  · exact w_c3
  · exact w_c4
  · exact w_c5
  · exact w_c6
  · exact w_c7
  · exact w_c8
  · exact w_c9
  · exact w_c10
  · exact w_c11
  · exact w_c12
  · exact w_c13
  · exact w_c14
  · exact w_c15
  · exact w_c16
  · exact w_c17
  · exact w_c18
  · exact w_c19
  · exact w_c20
  · exact w_c21
  · exact w_c22
  · exact w_c23
  · exact w_c24
  · exact w_c25
  · exact w_c26
  · exact w_c27
  · exact w_c28
  · exact w_c29
  · exact w_c30
  · exact w_c31
  · exact w_c32
  · exact w_c33
  · exact w_c34
  · exact w_c35
  · exact w_c36
  · exact w_c37
  · exact w_c38
  · exact w_c39
  · exact w_c40
  · exact w_c41
  · exact w_c42
  · exact w_c43
set_option maxRecDepth 65536 in
theorem w_t1 : (words1.take 24).all (fun c => isCode c || c.before args0 about1) = true := by decide +kernel
set_option maxRecDepth 65536 in
theorem w_t2 : ((words1.drop 24).take 24).all (fun c => isCode c || c.before args0 about1) = true := by decide +kernel
set_option maxRecDepth 65536 in
theorem w_t3 : (((words1.drop 24).drop 24).take 24).all (fun c => isCode c || c.before args0 about1) = true := by decide +kernel
set_option maxRecDepth 65536 in
theorem w_t4 : ((((words1.drop 24).drop 24).drop 24).take 24).all (fun c => isCode c || c.before args0 about1) = true := by decide +kernel
set_option maxRecDepth 65536 in
theorem w_t5 : (((((words1.drop 24).drop 24).drop 24).drop 24).take 24).all (fun c => isCode c || c.before args0 about1) = true := by decide +kernel
set_option maxRecDepth 65536 in
theorem w_t6 : ((((((words1.drop 24).drop 24).drop 24).drop 24).drop 24).take 24).all (fun c => isCode c || c.before args0 about1) = true := by decide +kernel
set_option maxRecDepth 65536 in
theorem w_t7 : (((((((words1.drop 24).drop 24).drop 24).drop 24).drop 24).drop 24).take 24).all (fun c => isCode c || c.before args0 about1) = true := by decide +kernel
set_option maxRecDepth 65536 in
theorem w_t8 : ((((((((words1.drop 24).drop 24).drop 24).drop 24).drop 24).drop 24).drop 24).take 24).all (fun c => isCode c || c.before args0 about1) = true := by decide +kernel
set_option maxRecDepth 65536 in
theorem w_t9 : (((((((((words1.drop 24).drop 24).drop 24).drop 24).drop 24).drop 24).drop 24).drop 24).take 24).all (fun c => isCode c || c.before args0 about1) = true := by decide +kernel
set_option maxRecDepth 65536 in
theorem w_t10 : ((((((((((words1.drop 24).drop 24).drop 24).drop 24).drop 24).drop 24).drop 24).drop 24).drop 24).take 24).all (fun c => isCode c || c.before args0 about1) = true := by decide +kernel
set_option maxRecDepth 65536 in
theorem w_t11 : ((((((((((words1.drop 24).drop 24).drop 24).drop 24).drop 24).drop 24).drop 24).drop 24).drop 24).drop 24).all (fun c => isCode c || c.before args0 about1) = true := by decide +kernel
theorem w_tables : (allAtoms (Jvm.Cond.code x code maxLocals ret :: tables_1)).before args0 about1 = true := by
  rw [allAtoms_all]
  show words1.all (fun c => c.before args0 about1) = true
  refine all_split ?_ w_codes
  rw [← List.take_append_drop 24 words1, List.all_append, w_t1, ← List.take_append_drop 24 (words1.drop 24), List.all_append, w_t2, ← List.take_append_drop 24 ((words1.drop 24).drop 24), List.all_append, w_t3, ← List.take_append_drop 24 (((words1.drop 24).drop 24).drop 24), List.all_append, w_t4, ← List.take_append_drop 24 ((((words1.drop 24).drop 24).drop 24).drop 24), List.all_append, w_t5, ← List.take_append_drop 24 (((((words1.drop 24).drop 24).drop 24).drop 24).drop 24), List.all_append, w_t6, ← List.take_append_drop 24 ((((((words1.drop 24).drop 24).drop 24).drop 24).drop 24).drop 24), List.all_append, w_t7, ← List.take_append_drop 24 (((((((words1.drop 24).drop 24).drop 24).drop 24).drop 24).drop 24).drop 24), List.all_append, w_t8, ← List.take_append_drop 24 ((((((((words1.drop 24).drop 24).drop 24).drop 24).drop 24).drop 24).drop 24).drop 24), List.all_append, w_t9, ← List.take_append_drop 24 (((((((((words1.drop 24).drop 24).drop 24).drop 24).drop 24).drop 24).drop 24).drop 24).drop 24), List.all_append, w_t10, w_t11]
  rfl
set_option maxRecDepth 65536 in
theorem w_case : (Jvm.Cond.and given_1 narrow_1).before args0 about1 = true := by decide +kernel
theorem w_applies : (headSpec (Jvm.Cond.code x code maxLocals ret :: tables_1) room_1).applies x e0.platform about1 = true :=
  (Spec.applies_iff w_frames).mpr ⟨w_running, w_runnable, w_alone, w_named, w_hears, w_ripe, w_room, w_tables⟩
theorem atStart : AtStart classFile x code maxLocals ret World_1 tables_1 room_1 Calls_1 rest_1 Pre_1 launch0 p0 e0 about1 theMethod args0 below0 :=
  ⟨lists_1, trivial, launch0.admits_env _ _ _, launch0.least_env, fairChoices_fair.cas, fairChoices_fair.clock, w_frames, w_args, w_heap, w_applies, trivial, trivial, w_case⟩
end start1
theorem witness_1 : WitnessClaimed_1 := ⟨start1.p0, start1.e0, start1.about1, start1.theMethod, start1.args0, start1.below0, start1.atStart⟩
end Jvm.Pilot.@@N@@
