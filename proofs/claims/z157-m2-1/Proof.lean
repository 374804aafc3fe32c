import JvmDerived
import JvmDerived.Pilot.@@N@@Statement
import JvmDerived.Pilot.@@N@@Code
set_option linter.unusedVariables false
set_option linter.unusedSimpArgs false
namespace Jvm.OwnWp
open Sem ClassFile Op Lib Jvm.Free Jvm.Stand Jvm.LawKit Jvm.RoadKit
set_option maxHeartbeats 1000000
/-! the walk of a body as a weakest precondition: own text over the library's laws -/
def EnvOk (p : Program) (s : State) (m : MethodId) (meth : Method) (c : Code) (Z : State) (own nam : String) (bytes : ByteArray) (maxL : Nat) (ret : Option FieldType) (n0 : Nat) (h0 : Heap) (ws : List Addr) : Prop :=
  p.tables.exec = Jvm.exec ∧ c.code = bytes ∧ c.maxLocals = maxL ∧ Z.Warmed39 s.vm ∧ s.vm.findClass own = some m.cls ∧ meth.name = nam ∧ meth.sig.returnType = ret ∧ meth.locks = false ∧ s.heap = h0 ∧ Old Z n0 h0 ∧ ∀ a ∈ ws, n0 ≤ a
/-- what may be written: the named objects and what is new -/
def Pmt (h0 : Heap) (ws : List Addr) (L : List Loc) : Prop := ∀ y ∈ L, y.base ∈ ws ∨ h0.size ≤ y.base
theorem Pmt.nil (h0 : Heap) (ws : List Addr) : Pmt h0 ws [] := fun _ q => nomatch q
theorem Pmt.app {h0 : Heap} {ws : List Addr} {L L' : List Loc} (N : Pmt h0 ws L) (N' : Pmt h0 ws L') : Pmt h0 ws (L ++ L') := fun y q => (List.mem_append.mp q).elim (N y) (N' y)
theorem Pmt.snoc {h0 : Heap} {ws : List Addr} {L : List Loc} {a : Addr} {sl : Nat} (N : Pmt h0 ws L) (q : a ∈ ws ∨ h0.size ≤ a) : Pmt h0 ws (L ++ [⟨a, sl⟩]) := N.app fun y hy => by cases List.mem_singleton.mp hy; exact q
theorem keep_of {s t : State} {h : Heap} {ws : List Addr} {L : List Loc} {k n : Nat} (q : s.sameButNew t L k n) (N : Pmt s.heap ws L) (e : t.heap = h) : Keep s.heap h ws := by
  subst e
  obtain ⟨-, q1, -, -, -, q2⟩ := q
  refine ⟨q1, fun x c hx hn => ?_, fun x c hx => ?_⟩
  · obtain ⟨c', r1, r2, r3, r4⟩ := q2 x c hx
    have e : c'.slots = c.slots := by
      apply Array.ext_getElem?
      intro i
      refine r4 i fun hm => ?_
      rcases N _ hm with u | u
      · exact hn u
      · exact absurd (Array.getElem?_eq_some_iff.mp hx).1 (Nat.not_lt.mpr u)
    rw [r1, r2, e]
  · obtain ⟨c', r1, r2, r3, r4⟩ := q2 x c hx
    exact ⟨c', r1, by rw [r2], by rw [r2], r3⟩
/-- the tables over which the walk stands: the start's own, or (wide) tables that have grown since by interned constants, of which I is known -/
def Base (wd : Bool) (I : Vm → Prop) (Z s : State) (vm0 : Vm) (h : Heap) : Prop :=
  match wd with
  | false => vm0 = s.vm
  | true => s.Since vm0 h.size ∧ Z.Warmed39 vm0 ∧ I vm0
def EndF (wd : Bool) (s : State) (o : Outcome) (t : State) (L : List Loc) (k n : Nat) : Prop :=
  match wd with
  | false => FrameEnd s o t L k n
  | true => ReturnedEndW s o t L k n
/-- what is known of the tables at the end -/
def EndI (wd : Bool) (J : Vm → Prop) (t : State) : Prop := wd = true → J t.vm
theorem EndF.same {wd : Bool} {s : State} {o : Outcome} {t : State} {L : List Loc} {k n : Nat} (h : EndF wd s o t L k n) : s.sameButNew { t with vm := s.vm } L k n := by
  cases wd
  · exact h.2.2
  · exact h.2.2.2
def Wp (wd : Bool) (p : Program) (l : Launch) (e : Env) (R : Room) (s : State) (m : MethodId) (args : Array Value) (below : List Frame) (meth : Method) (c : Code) (Z : State) (own nam : String) (bytes : ByteArray) (maxL : Nat) (ret : Option FieldType) (n0 : Nat) (h0 : Heap) (ws : List Addr) (Q : Option Value → Heap → Prop) (I : Vm → Prop) (h : Heap) (k n pc : Nat) (Ls : List Slot) (st : List Value) : Prop :=
  EnvOk p s m meth c Z own nam bytes maxL ret n0 h0 ws → ∀ (T : State) (L : List Loc) (vm0 : Vm), Base wd I Z s vm0 h → Stand p l e R (s.setVm vm0) m args below meth c T L k n → Pmt h0 ws L → T.heap = h →
    ∃ s₂ o, Steps p.tables e below (T.setTop (mkF m pc Ls.toArray st)) s₂ ∧ s₂.status = .running ∧ Ended s₂ below o ∧ ∃ v L', o = .returned v ∧ (Q v s₂.heap ∧ Pmt h0 ws L') ∧ EndF wd s o s₂ L' R.cells R.slots
/-- a method's contract, at one heap and with these arguments -/
def Con (l : Launch) (Z : State) (n0 : Nat) (y : MethodName) (bytes : ByteArray) (maxL : Nat) (ret : Option FieldType) (rm : Room) (as : List Value) (h0 : Heap) (ws : List Addr) (Q : Option Value → Heap → Prop) : Prop :=
  Old Z n0 h0 → (∀ a ∈ ws, n0 ≤ a) → ∀ wds, MetFree l y (head1 (Cond.code y bytes maxL ret :: wds) rm) (fun a U => a = as.toArray ∧ Z.Warmed39 U.vm ∧ U.heap = h0) (fun _ _ _ _ _ => True) (fun _ U o U' => ∃ v L, o = .returned v ∧ (Q v U'.heap ∧ Pmt h0 ws L ∧ Keep h0 U'.heap ws) ∧ FrameEnd U o U' L rm.cells rm.slots)
theorem Con.of {l : Launch} {Z : State} {n0 : Nat} {y : MethodName} {bytes : ByteArray} {maxL : Nat} {ret : Option FieldType} {rm : Room} {as : List Value} {h0 : Heap} {ws : List Addr} {Q : Option Value → Heap → Prop} {Ls : List Slot}
    (hpl : plainFor y = true) (hent : ∀ m, entryFrame m as.toArray maxL = mkF m 0 Ls.toArray [])
    (g : ∀ p e s m below meth c, Wp false p l e rm s m as.toArray below meth c Z y.cls y.name bytes maxL ret n0 h0 ws Q (fun _ => True) h0 0 0 0 Ls []) : Con l Z n0 y bytes maxL ret rm as h0 ws Q := by
  intro hO hws wds
  refine MetFree.of_bodySF hpl hisR ?_
  intro p e s m args below meth c s₁ Bd hml0 hP hK
  obtain ⟨rfl, hZ, hh⟩ := hP
  have X0 : Stand p l e rm s m as.toArray below meth c s₁ [] 0 0 := Stand.of_body Bd
  have e0 : s₁.heap = h0 := by rw [← hh, Bd.state]; rfl
  rw [hent]
  obtain ⟨s2, o, r1, r2, r3, v, L, r4, ⟨r5, r6⟩, r7⟩ := g p e s m below meth c ⟨Bd.exec, Bd.bytes, hml0, hZ, findClass_of_methodNamed Bd.named, (name_of_methodNamed Bd.named Bd.method).1, Bd.returns, Bd.notSynchronized, hh, hO, hws⟩ s₁ [] s.vm rfl X0 (Pmt.nil _ _) e0
  exact ⟨s2, o, r1, r2, r3, v, L, r4, ⟨r5, r6, by rw [← hh]; exact keep_of r7.2.2 (by rw [hh]; exact r6) rfl⟩, r7⟩
theorem Con.post {l : Launch} {Z : State} {n0 : Nat} {y : MethodName} {bytes : ByteArray} {maxL : Nat} {ret : Option FieldType} {rm : Room} {as : List Value} {h0 : Heap} {ws : List Addr} {Q Q' : Option Value → Heap → Prop}
    (c : Con l Z n0 y bytes maxL ret rm as h0 ws Q) (f : ∀ v h, Q v h → Q' v h) : Con l Z n0 y bytes maxL ret rm as h0 ws Q' := fun hO hws wds p e ha hc hk s m args below hf happ hP hK => by
  obtain ⟨a1, a2, a3, a4, a5, v, L, a6, ⟨a7, a8⟩, a9⟩ := c hO hws wds p e ha hc hk s m args below hf happ hP hK
  exact ⟨a1, a2, a3, a4, a5, v, L, a6, ⟨f _ _ a7, a8⟩, a9⟩
/-- the contract of a method that may intern constants -/
def ConW (l : Launch) (Z : State) (n0 : Nat) (y : MethodName) (bytes : ByteArray) (maxL : Nat) (ret : Option FieldType) (rm : Room) (as : List Value) (h0 : Heap) (ws : List Addr) (I : Vm → Prop) (Q : Option Value → Heap → Prop) : Prop :=
  Old Z n0 h0 → (∀ a ∈ ws, n0 ≤ a) → ∀ wds, MetFree l y (head1 (Cond.code y bytes maxL ret :: wds) rm) (fun a U => a = as.toArray ∧ Z.Warmed39 U.vm ∧ U.heap = h0 ∧ I U.vm) (fun _ _ _ _ _ => True) (fun _ U o U' => ∃ v L, o = .returned v ∧ (Q v U'.heap ∧ Pmt h0 ws L ∧ Keep h0 U'.heap ws) ∧ ReturnedEndW U o U' L rm.cells rm.slots)
theorem ConW.of {l : Launch} {Z : State} {n0 : Nat} {y : MethodName} {bytes : ByteArray} {maxL : Nat} {ret : Option FieldType} {rm : Room} {as : List Value} {h0 : Heap} {ws : List Addr} {I : Vm → Prop} {Q : Option Value → Heap → Prop} {Ls : List Slot}
    (hpl : plainFor y = true) (hent : ∀ m, entryFrame m as.toArray maxL = mkF m 0 Ls.toArray [])
    (g : ∀ p e s m below meth c, Wp true p l e rm s m as.toArray below meth c Z y.cls y.name bytes maxL ret n0 h0 ws Q I h0 0 0 0 Ls []) : ConW l Z n0 y bytes maxL ret rm as h0 ws I Q := by
  intro hO hws wds
  refine MetFree.of_bodySF hpl hisR ?_
  intro p e s m args below meth c s₁ Bd hml0 hP hK
  obtain ⟨rfl, hZ, hh, hI⟩ := hP
  have X0 : Stand p l e rm s m as.toArray below meth c s₁ [] 0 0 := Stand.of_body Bd
  have e0 : s₁.heap = h0 := by rw [← hh, Bd.state]; rfl
  rw [hent]
  obtain ⟨s2, o, r1, r2, r3, v, L, r4, ⟨r5, r6⟩, r7⟩ := g p e s m below meth c ⟨Bd.exec, Bd.bytes, hml0, hZ, findClass_of_methodNamed Bd.named, (name_of_methodNamed Bd.named Bd.method).1, Bd.returns, Bd.notSynchronized, hh, hO, hws⟩ s₁ [] s.vm ⟨(State.WarmedH.refl s).since _, hZ, hI⟩ X0 (Pmt.nil _ _) e0
  exact ⟨s2, o, r1, r2, r3, v, L, r4, ⟨r5, r6, by rw [← hh]; exact keep_of r7.2.2.2 (by rw [hh]; exact r6) rfl⟩, r7⟩
/-- what a call pushes -/
def psh : Option Value → List Value → List Value
  | none, r => r
  | some v, r => v :: r
theorem psh_eq (v : Option Value) (r : List Value) : v.toList ++ r = psh v r := by cases v <;> rfl
def oneB : Slot → Bool
  | .unset => true
  | .second => false
  | .val v => v.category == 1
def oneAt (Ls : List Slot) (j : Nat) : Bool := (Ls[j]?.map oneB).getD false
theorem oneAt_spec {Ls : List Slot} {j : Nat} (h : oneAt Ls j = true) : ∃ o, Ls.toArray[j]? = some o ∧ (o = .unset ∨ ∃ w, o = .val w ∧ w.category = 1) := by
  unfold oneAt at h
  cases q : Ls[j]? with
  | none => simp [q] at h
  | some o =>
    refine ⟨o, by simpa using q, ?_⟩
    cases o <;> simp [q, oneB] at h ⊢
    exact h
/-- two words, for a long -/
def twoAt (Ls : List Slot) (j : Nat) : Bool := (match Ls[j]? with | some .second => false | some _ => true | none => false) && (match Ls[j + 1]? with | some .second => true | some .unset => true | some (.val w) => w.category == 1 | none => false)
theorem two_store {Ls : List Slot} {j : Nat} {x : Int64} (h : twoAt Ls j = true) : storeLocals Ls.toArray j (.long x) = some ((Ls.set j (.val (.long x))).set (j + 1) .second).toArray := by
  unfold twoAt at h
  cases q : Ls[j]? with
  | none => simp [q] at h
  | some o =>
    cases r : Ls[j + 1]? with
    | none => simp [r] at h
    | some o' =>
      obtain ⟨b1, -⟩ := List.getElem?_eq_some_iff.mp q
      obtain ⟨b2, -⟩ := List.getElem?_eq_some_iff.mp r
      cases o with
      | second => simp [q] at h
      | unset => cases o' <;> simp_all [storeLocals, storeSelf, setAt, Value.category]
      | val w =>
        cases o' <;> by_cases hw : w.category = 2 <;> simp_all [storeLocals, storeSelf, setAt, Value.category]
        all_goals rw [List.set_comm _ _ (show j + 1 ≠ j by omega), List.set_set]
theorem one_store {Ls : List Slot} {j : Nat} {v : Value} (h : oneAt Ls j = true) (hv : v.category = 1) : storeLocals Ls.toArray j v = some (Ls.set j (.val v)).toArray := by
  obtain ⟨o, q1, q2⟩ := oneAt_spec h
  rw [XS.store1 q1 q2 hv]; simp
section Walk
variable {wd : Bool} {I : Vm → Prop} {vm0 : Vm} {p : Program} {l : Launch} {e : Env} {R : Room} {s : State} {m : MethodId} {args : Array Value} {below : List Frame} {meth : Method} {c : Code} {Z : State} {own nam : String} {bytes : ByteArray} {maxL : Nat} {ret : Option FieldType} {n0 : Nat} {h0 : Heap} {ws : List Addr} {Q : Option Value → Heap → Prop} {h : Heap} {k n pc : Nat} {Ls : List Slot} {st rest : List Value} {a0 : Array Value}
theorem bZ (E : EnvOk p s m meth c Z own nam bytes maxL ret n0 h0 ws) (B : Base wd I Z s vm0 h) : Z.Warmed39 (s.setVm vm0).vm := by
  cases wd
  · cases B; exact E.2.2.2.1
  · exact B.2.1
theorem bO (E : EnvOk p s m meth c Z own nam bytes maxL ret n0 h0 ws) (B : Base wd I Z s vm0 h) : (s.setVm vm0).vm.findClass own = some m.cls := by
  cases wd
  · cases B; exact E.2.2.2.2.1
  · show vm0.findClass own = _
    rw [B.1.1.alike.findClass]; exact E.2.2.2.2.1
theorem bG {h' : Heap} (B : Base wd I Z s vm0 h) (q : h.size ≤ h'.size) : Base wd I Z s vm0 h' := by
  cases wd
  · exact B
  · exact ⟨⟨B.1.1, B.1.2.mono q⟩, B.2⟩
theorem szOf (E : EnvOk p s m meth c Z own nam bytes maxL ret n0 h0 ws) {T : State} {L : List Loc} (X : Stand p l e R (s.setVm vm0) m args below meth c T L k n) (eT : T.heap = h) : h0.size ≤ h.size := by
  have q : s.heap.size ≤ T.heap.size := X.same.2.1
  rw [E.2.2.2.2.2.2.2.2.1] at q
  rw [← eT]; exact q
theorem keepOf (E : EnvOk p s m meth c Z own nam bytes maxL ret n0 h0 ws) {T : State} {L : List Loc} (X : Stand p l e R (s.setVm vm0) m args below meth c T L k n) (N : Pmt h0 ws L) (eT : T.heap = h) : Keep h0 h ws := by
  have q := E.2.2.2.2.2.2.2.2.1
  rw [← q]; exact keep_of (s := s.setVm vm0) X.same (by show Pmt s.heap ws L; rw [q]; exact N) eT
theorem endOf (E : EnvOk p s m meth c Z own nam bytes maxL ret n0 h0 ws) (B : Base wd I Z s vm0 h) {U : State} {L : List Loc} {o : Outcome} (hr : ∃ v, o = .returned v) (hW : (s.setVm vm0).WarmedH U.vm) (hs : (s.setVm vm0).sameButNew ({ U with vm := (s.setVm vm0).vm } : State) L k n) (hU : U.heap = h) (hk : k ≤ R.cells) (hn : n ≤ R.slots) : EndF wd s o U L R.cells R.slots := by
  cases wd
  · cases B; exact ⟨hr, hW, hs.mono hk hn⟩
  · obtain ⟨r1, r2, r3⟩ := B.1.ended hW (by rw [hU]; exact Nat.le_refl _) hs
    exact ⟨hr, r1, r2, r3.mono hk hn⟩
theorem n0Of (E : EnvOk p s m meth c Z own nam bytes maxL ret n0 h0 ws) {x : Addr} (q : x ∈ ws ∨ h0.size ≤ x) : n0 ≤ x := by
  obtain ⟨o1, o2⟩ := E.2.2.2.2.2.2.2.2.2.1
  rcases q with q | q
  · exact E.2.2.2.2.2.2.2.2.2.2 x q
  · have := o2.1; omega
theorem oldOf (E : EnvOk p s m meth c Z own nam bytes maxL ret n0 h0 ws) {T : State} {L : List Loc} (X : Stand p l e R (s.setVm vm0) m args below meth c T L k n) (N : Pmt h0 ws L) (eT : T.heap = h) : Old Z n0 h :=
  E.2.2.2.2.2.2.2.2.2.1.keep (keepOf E X N eT) E.2.2.2.2.2.2.2.2.2.2
theorem pmtOf (E : EnvOk p s m meth c Z own nam bytes maxL ret n0 h0 ws) {T : State} {L L' : List Loc} {ws' : List Addr} (X : Stand p l e R (s.setVm vm0) m args below meth c T L k n) (eT : T.heap = h) (hws : ∀ x ∈ ws', x ∈ ws ∨ h0.size ≤ x) (N' : Pmt h ws' L') : Pmt h0 ws L' := fun y hy => by
  rcases N' y hy with q | q
  · exact hws _ q
  · exact Or.inr (Nat.le_trans (szOf E X eT) q)
/-- what is kept since the body's start -/
theorem kept (g : Keep h0 h ws → Old Z n0 h → Wp wd p l e R s m args below meth c Z own nam bytes maxL ret n0 h0 ws Q I h k n pc Ls st) : Wp wd p l e R s m args below meth c Z own nam bytes maxL ret n0 h0 ws Q I h k n pc Ls st := fun E T L vm0 B X N eT => g (keepOf E X N eT) (oldOf E X N eT) E T L vm0 B X N eT
theorem step {pc' : Nat} {Ls' : List Slot} {st' : List Value} (g : Wp wd p l e R s m args below meth c Z own nam bytes maxL ret n0 h0 ws Q I h k n pc' Ls' st')
    (f : EnvOk p s m meth c Z own nam bytes maxL ret n0 h0 ws → ∀ (T : State) (L : List Loc) (t : State) (vm0 : Vm), Base wd I Z s vm0 h → Stand p l e R (s.setVm vm0) m args below meth c T L k n → T.heap = h → Steps p.tables e below (T.setTop (mkF m pc' Ls'.toArray st')) t → Steps p.tables e below (T.setTop (mkF m pc Ls.toArray st)) t) : Wp wd p l e R s m args below meth c Z own nam bytes maxL ret n0 h0 ws Q I h k n pc Ls st := fun E T L vm0 B X N eT => by
  obtain ⟨s2, o, hs, r⟩ := g E T L vm0 B X N eT
  exact ⟨s2, o, f E T L s2 vm0 B X eT hs, r⟩
/-- a law that hands back a new state -/
theorem lawS {pc' : Nat} {Ls' : List Slot} {st' : List Value}
    (f : EnvOk p s m meth c Z own nam bytes maxL ret n0 h0 ws → ∀ (T : State) (L : List Loc) (vm0 : Vm), Base wd I Z s vm0 h → Stand p l e R (s.setVm vm0) m args below meth c T L k n → Pmt h0 ws L → T.heap = h → ∃ (T' : State) (L' : List Loc) (h' : Heap) (k' n' : Nat), Stand p l e R (s.setVm vm0) m args below meth c T' L' k' n' ∧ Pmt h0 ws L' ∧ T'.heap = h' ∧ h.size ≤ h'.size ∧ (∀ t, Steps p.tables e below (T'.setTop (mkF m pc' Ls'.toArray st')) t → Steps p.tables e below (T.setTop (mkF m pc Ls.toArray st)) t) ∧ Wp wd p l e R s m args below meth c Z own nam bytes maxL ret n0 h0 ws Q I h' k' n' pc' Ls' st') : Wp wd p l e R s m args below meth c Z own nam bytes maxL ret n0 h0 ws Q I h k n pc Ls st := fun E T L vm0 B X N eT => by
  obtain ⟨T', L', h', k', n', X', N', e', gr, st', g⟩ := f E T L vm0 B X N eT
  obtain ⟨s2, o, hs, r⟩ := g E T' L' vm0 (bG B gr) X' N' e'
  exact ⟨s2, o, st' _ hs, r⟩
theorem more {k' n' : Nat} (hk : k ≤ k') (hn : n ≤ n') (g : Wp wd p l e R s m args below meth c Z own nam bytes maxL ret n0 h0 ws Q I h k' n' pc Ls st) : Wp wd p l e R s m args below meth c Z own nam bytes maxL ret n0 h0 ws Q I h k n pc Ls st := fun E T L vm0 B X N eT =>
  g E T L vm0 B (X.mono hk hn) N eT
theorem conv {Q' : Option Value → Heap → Prop} (g : Wp wd p l e R s m args below meth c Z own nam bytes maxL ret n0 h0 ws Q' I h k n pc Ls st) (f : ∀ v h, Q' v h → Q v h) : Wp wd p l e R s m args below meth c Z own nam bytes maxL ret n0 h0 ws Q I h k n pc Ls st := fun E T L vm0 B X N eT => by
  obtain ⟨s2, o, h1, h2, h3, v, L', h4, ⟨h5, h6⟩, h7⟩ := g E T L vm0 B X N eT
  exact ⟨s2, o, h1, h2, h3, v, L', h4, ⟨f _ _ h5, h6⟩, h7⟩
theorem wk {J : Vm → Prop} (hJ : ∀ vm, I vm → J vm) (g : Wp wd p l e R s m args below meth c Z own nam bytes maxL ret n0 h0 ws Q J h k n pc Ls st) : Wp wd p l e R s m args below meth c Z own nam bytes maxL ret n0 h0 ws Q I h k n pc Ls st := fun E T L vm0 B X N eT =>
  g E T L vm0 (by cases wd; exact B; exact ⟨B.1, B.2.1, hJ _ B.2.2⟩) X N eT

theorem iadd {q1 : Nat} {x y : Int32} (hd : decode bytes pc = .ok (.iadd, 1)) (hq1 : pc + 1 = q1) (g : Wp wd p l e R s m args below meth c Z own nam bytes maxL ret n0 h0 ws Q I h k n q1 Ls (.int (x + y) :: rest)) : Wp wd p l e R s m args below meth c Z own nam bytes maxL ret n0 h0 ws Q I h k n pc Ls (.int y :: .int x :: rest) := by
  subst hq1
  exact  step g fun E T L t vm0 B X _ hr => XS.iadd X.here E.1 rfl (hb E.2.1 hd) rfl hr

theorem isub {q1 : Nat} {x y : Int32} (hd : decode bytes pc = .ok (.isub, 1)) (hq1 : pc + 1 = q1) (g : Wp wd p l e R s m args below meth c Z own nam bytes maxL ret n0 h0 ws Q I h k n q1 Ls (.int (x - y) :: rest)) : Wp wd p l e R s m args below meth c Z own nam bytes maxL ret n0 h0 ws Q I h k n pc Ls (.int y :: .int x :: rest) := by
  subst hq1
  exact  step g fun E T L t vm0 B X _ hr => XS.isub X.here E.1 rfl (hb E.2.1 hd) rfl hr

theorem imul {q1 : Nat} {x y : Int32} (hd : decode bytes pc = .ok (.imul, 1)) (hq1 : pc + 1 = q1) (g : Wp wd p l e R s m args below meth c Z own nam bytes maxL ret n0 h0 ws Q I h k n q1 Ls (.int (x * y) :: rest)) : Wp wd p l e R s m args below meth c Z own nam bytes maxL ret n0 h0 ws Q I h k n pc Ls (.int y :: .int x :: rest) := by
  subst hq1
  exact  step g fun E T L t vm0 B X _ hr => XS.imul X.here E.1 rfl (hb E.2.1 hd) rfl hr

theorem iand {q1 : Nat} {x y : Int32} (hd : decode bytes pc = .ok (.iand, 1)) (hq1 : pc + 1 = q1) (g : Wp wd p l e R s m args below meth c Z own nam bytes maxL ret n0 h0 ws Q I h k n q1 Ls (.int (x &&& y) :: rest)) : Wp wd p l e R s m args below meth c Z own nam bytes maxL ret n0 h0 ws Q I h k n pc Ls (.int y :: .int x :: rest) := by
  subst hq1
  exact  step g fun E T L t vm0 B X _ hr => XS.iand X.here E.1 rfl (hb E.2.1 hd) rfl hr

theorem ior {q1 : Nat} {x y : Int32} (hd : decode bytes pc = .ok (.ior, 1)) (hq1 : pc + 1 = q1) (g : Wp wd p l e R s m args below meth c Z own nam bytes maxL ret n0 h0 ws Q I h k n q1 Ls (.int (x ||| y) :: rest)) : Wp wd p l e R s m args below meth c Z own nam bytes maxL ret n0 h0 ws Q I h k n pc Ls (.int y :: .int x :: rest) := by
  subst hq1
  exact  step g fun E T L t vm0 B X _ hr => XS.ior X.here E.1 rfl (hb E.2.1 hd) rfl hr

theorem ixor {q1 : Nat} {x y : Int32} (hd : decode bytes pc = .ok (.ixor, 1)) (hq1 : pc + 1 = q1) (g : Wp wd p l e R s m args below meth c Z own nam bytes maxL ret n0 h0 ws Q I h k n q1 Ls (.int (x ^^^ y) :: rest)) : Wp wd p l e R s m args below meth c Z own nam bytes maxL ret n0 h0 ws Q I h k n pc Ls (.int y :: .int x :: rest) := by
  subst hq1
  exact  step g fun E T L t vm0 B X _ hr => XS.ixor X.here E.1 rfl (hb E.2.1 hd) rfl hr

theorem ladd {q1 : Nat} {x y : Int64} (hd : decode bytes pc = .ok (.ladd, 1)) (hq1 : pc + 1 = q1) (g : Wp wd p l e R s m args below meth c Z own nam bytes maxL ret n0 h0 ws Q I h k n q1 Ls (.long (x + y) :: rest)) : Wp wd p l e R s m args below meth c Z own nam bytes maxL ret n0 h0 ws Q I h k n pc Ls (.long y :: .long x :: rest) := by
  subst hq1
  exact  step g fun E T L t vm0 B X _ hr => XS.ladd X.here E.1 rfl (hb E.2.1 hd) rfl hr

theorem lsub {q1 : Nat} {x y : Int64} (hd : decode bytes pc = .ok (.lsub, 1)) (hq1 : pc + 1 = q1) (g : Wp wd p l e R s m args below meth c Z own nam bytes maxL ret n0 h0 ws Q I h k n q1 Ls (.long (x - y) :: rest)) : Wp wd p l e R s m args below meth c Z own nam bytes maxL ret n0 h0 ws Q I h k n pc Ls (.long y :: .long x :: rest) := by
  subst hq1
  exact  step g fun E T L t vm0 B X _ hr => XS.lsub X.here E.1 rfl (hb E.2.1 hd) rfl hr

theorem lmul {q1 : Nat} {x y : Int64} (hd : decode bytes pc = .ok (.lmul, 1)) (hq1 : pc + 1 = q1) (g : Wp wd p l e R s m args below meth c Z own nam bytes maxL ret n0 h0 ws Q I h k n q1 Ls (.long (x * y) :: rest)) : Wp wd p l e R s m args below meth c Z own nam bytes maxL ret n0 h0 ws Q I h k n pc Ls (.long y :: .long x :: rest) := by
  subst hq1
  exact  step g fun E T L t vm0 B X _ hr => XS.lmul X.here E.1 rfl (hb E.2.1 hd) rfl hr

theorem land {q1 : Nat} {x y : Int64} (hd : decode bytes pc = .ok (.land, 1)) (hq1 : pc + 1 = q1) (g : Wp wd p l e R s m args below meth c Z own nam bytes maxL ret n0 h0 ws Q I h k n q1 Ls (.long (x &&& y) :: rest)) : Wp wd p l e R s m args below meth c Z own nam bytes maxL ret n0 h0 ws Q I h k n pc Ls (.long y :: .long x :: rest) := by
  subst hq1
  exact  step g fun E T L t vm0 B X _ hr => XS.land X.here E.1 rfl (hb E.2.1 hd) rfl hr

theorem lor {q1 : Nat} {x y : Int64} (hd : decode bytes pc = .ok (.lor, 1)) (hq1 : pc + 1 = q1) (g : Wp wd p l e R s m args below meth c Z own nam bytes maxL ret n0 h0 ws Q I h k n q1 Ls (.long (x ||| y) :: rest)) : Wp wd p l e R s m args below meth c Z own nam bytes maxL ret n0 h0 ws Q I h k n pc Ls (.long y :: .long x :: rest) := by
  subst hq1
  exact  step g fun E T L t vm0 B X _ hr => XS.lor X.here E.1 rfl (hb E.2.1 hd) rfl hr

theorem lxor {q1 : Nat} {x y : Int64} (hd : decode bytes pc = .ok (.lxor, 1)) (hq1 : pc + 1 = q1) (g : Wp wd p l e R s m args below meth c Z own nam bytes maxL ret n0 h0 ws Q I h k n q1 Ls (.long (x ^^^ y) :: rest)) : Wp wd p l e R s m args below meth c Z own nam bytes maxL ret n0 h0 ws Q I h k n pc Ls (.long y :: .long x :: rest) := by
  subst hq1
  exact  step g fun E T L t vm0 B X _ hr => XS.lxor X.here E.1 rfl (hb E.2.1 hd) rfl hr

theorem ishl {q1 : Nat} {x y : Int32} (hd : decode bytes pc = .ok (.ishl, 1)) (hq1 : pc + 1 = q1) (g : Wp wd p l e R s m args below meth c Z own nam bytes maxL ret n0 h0 ws Q I h k n q1 Ls (.int (x <<< (y &&& 31)) :: rest)) : Wp wd p l e R s m args below meth c Z own nam bytes maxL ret n0 h0 ws Q I h k n pc Ls (.int y :: .int x :: rest) := by
  subst hq1
  exact  step g fun E T L t vm0 B X _ hr => XS.ishl X.here E.1 rfl (hb E.2.1 hd) rfl hr

theorem ishr {q1 : Nat} {x y : Int32} (hd : decode bytes pc = .ok (.ishr, 1)) (hq1 : pc + 1 = q1) (g : Wp wd p l e R s m args below meth c Z own nam bytes maxL ret n0 h0 ws Q I h k n q1 Ls (.int (x >>> (y &&& 31)) :: rest)) : Wp wd p l e R s m args below meth c Z own nam bytes maxL ret n0 h0 ws Q I h k n pc Ls (.int y :: .int x :: rest) := by
  subst hq1
  exact  step g fun E T L t vm0 B X _ hr => XS.ishr X.here E.1 rfl (hb E.2.1 hd) rfl hr

theorem iushr {q1 : Nat} {x y : Int32} (hd : decode bytes pc = .ok (.iushr, 1)) (hq1 : pc + 1 = q1) (g : Wp wd p l e R s m args below meth c Z own nam bytes maxL ret n0 h0 ws Q I h k n q1 Ls (.int ((x.toUInt32 >>> (y &&& 31).toUInt32).toInt32) :: rest)) : Wp wd p l e R s m args below meth c Z own nam bytes maxL ret n0 h0 ws Q I h k n pc Ls (.int y :: .int x :: rest) := by
  subst hq1
  exact  step g fun E T L t vm0 B X _ hr => XS.iushr X.here E.1 rfl (hb E.2.1 hd) rfl hr

theorem lshl {q1 : Nat} {x : Int64} {y : Int32} (hd : decode bytes pc = .ok (.lshl, 1)) (hq1 : pc + 1 = q1) (g : Wp wd p l e R s m args below meth c Z own nam bytes maxL ret n0 h0 ws Q I h k n q1 Ls (.long (x <<< (y &&& 0x3f).toInt64) :: rest)) : Wp wd p l e R s m args below meth c Z own nam bytes maxL ret n0 h0 ws Q I h k n pc Ls (.int y :: .long x :: rest) := by
  subst hq1
  exact  step g fun E T L t vm0 B X _ hr => XS.lshl X.here E.1 rfl (hb E.2.1 hd) rfl hr

theorem lshr {q1 : Nat} {x : Int64} {y : Int32} (hd : decode bytes pc = .ok (.lshr, 1)) (hq1 : pc + 1 = q1) (g : Wp wd p l e R s m args below meth c Z own nam bytes maxL ret n0 h0 ws Q I h k n q1 Ls (.long (x >>> (y &&& 0x3f).toInt64) :: rest)) : Wp wd p l e R s m args below meth c Z own nam bytes maxL ret n0 h0 ws Q I h k n pc Ls (.int y :: .long x :: rest) := by
  subst hq1
  exact  step g fun E T L t vm0 B X _ hr => XS.lshr X.here E.1 rfl (hb E.2.1 hd) rfl hr

theorem lushr {q1 : Nat} {x : Int64} {y : Int32} (hd : decode bytes pc = .ok (.lushr, 1)) (hq1 : pc + 1 = q1) (g : Wp wd p l e R s m args below meth c Z own nam bytes maxL ret n0 h0 ws Q I h k n q1 Ls (.long ((x.toUInt64 >>> (y &&& 0x3f).toInt64.toUInt64).toInt64) :: rest)) : Wp wd p l e R s m args below meth c Z own nam bytes maxL ret n0 h0 ws Q I h k n pc Ls (.int y :: .long x :: rest) := by
  subst hq1
  exact  step g fun E T L t vm0 B X _ hr => XS.lushr X.here E.1 rfl (hb E.2.1 hd) rfl hr

theorem lcmp {q1 : Nat} {x y : Int64} (hd : decode bytes pc = .ok (.lcmp, 1)) (hq1 : pc + 1 = q1) (g : Wp wd p l e R s m args below meth c Z own nam bytes maxL ret n0 h0 ws Q I h k n q1 Ls (.int (lcmpW x y) :: rest)) : Wp wd p l e R s m args below meth c Z own nam bytes maxL ret n0 h0 ws Q I h k n pc Ls (.long y :: .long x :: rest) := by
  subst hq1
  exact  step g fun E T L t vm0 B X _ hr => XS.lcmp X.here E.1 rfl (hb E.2.1 hd) rfl hr

theorem idiv {q1 : Nat} {x y : Int32} (hd : decode bytes pc = .ok (.idiv, 1)) (hq1 : pc + 1 = q1) (hy : y ≠ 0) (g : Wp wd p l e R s m args below meth c Z own nam bytes maxL ret n0 h0 ws Q I h k n q1 Ls (.int (x / y) :: rest)) : Wp wd p l e R s m args below meth c Z own nam bytes maxL ret n0 h0 ws Q I h k n pc Ls (.int y :: .int x :: rest) := by
  subst hq1
  exact  step g fun E T L t vm0 B X _ hr => XS.idiv X.here E.1 rfl (hb E.2.1 hd) rfl hy hr

theorem ldiv {q1 : Nat} {x y : Int64} (hd : decode bytes pc = .ok (.ldiv, 1)) (hq1 : pc + 1 = q1) (hy : y ≠ 0) (g : Wp wd p l e R s m args below meth c Z own nam bytes maxL ret n0 h0 ws Q I h k n q1 Ls (.long (x / y) :: rest)) : Wp wd p l e R s m args below meth c Z own nam bytes maxL ret n0 h0 ws Q I h k n pc Ls (.long y :: .long x :: rest) := by
  subst hq1
  exact  step g fun E T L t vm0 B X _ hr => XS.ldiv X.here E.1 rfl (hb E.2.1 hd) rfl hy hr

theorem irem {q1 : Nat} {x y : Int32} (hd : decode bytes pc = .ok (.irem, 1)) (hq1 : pc + 1 = q1) (hy : y ≠ 0) (g : Wp wd p l e R s m args below meth c Z own nam bytes maxL ret n0 h0 ws Q I h k n q1 Ls (.int (x % y) :: rest)) : Wp wd p l e R s m args below meth c Z own nam bytes maxL ret n0 h0 ws Q I h k n pc Ls (.int y :: .int x :: rest) := by
  subst hq1
  exact  step g fun E T L t vm0 B X _ hr => iremM X E.1 rfl (hb E.2.1 hd) rfl hy hr

theorem ineg {q1 : Nat} {x : Int32} (hd : decode bytes pc = .ok (.ineg, 1)) (hq1 : pc + 1 = q1) (g : Wp wd p l e R s m args below meth c Z own nam bytes maxL ret n0 h0 ws Q I h k n q1 Ls (.int (-x) :: rest)) : Wp wd p l e R s m args below meth c Z own nam bytes maxL ret n0 h0 ws Q I h k n pc Ls (.int x :: rest) := by
  subst hq1
  exact  step g fun E T L t vm0 B X _ hr => XS.ineg X.here E.1 rfl (hb E.2.1 hd) rfl hr

theorem lneg {q1 : Nat} {x : Int64} (hd : decode bytes pc = .ok (.lneg, 1)) (hq1 : pc + 1 = q1) (g : Wp wd p l e R s m args below meth c Z own nam bytes maxL ret n0 h0 ws Q I h k n q1 Ls (.long (-x) :: rest)) : Wp wd p l e R s m args below meth c Z own nam bytes maxL ret n0 h0 ws Q I h k n pc Ls (.long x :: rest) := by
  subst hq1
  exact  step g fun E T L t vm0 B X _ hr => XS.lneg X.here E.1 rfl (hb E.2.1 hd) rfl hr

theorem i2l {q1 : Nat} {x : Int32} (hd : decode bytes pc = .ok (.i2l, 1)) (hq1 : pc + 1 = q1) (g : Wp wd p l e R s m args below meth c Z own nam bytes maxL ret n0 h0 ws Q I h k n q1 Ls (.long (x.toInt64) :: rest)) : Wp wd p l e R s m args below meth c Z own nam bytes maxL ret n0 h0 ws Q I h k n pc Ls (.int x :: rest) := by
  subst hq1
  exact  step g fun E T L t vm0 B X _ hr => XS.i2l X.here E.1 rfl (hb E.2.1 hd) rfl hr

theorem l2i {q1 : Nat} {x : Int64} (hd : decode bytes pc = .ok (.l2i, 1)) (hq1 : pc + 1 = q1) (g : Wp wd p l e R s m args below meth c Z own nam bytes maxL ret n0 h0 ws Q I h k n q1 Ls (.int (x.toInt32) :: rest)) : Wp wd p l e R s m args below meth c Z own nam bytes maxL ret n0 h0 ws Q I h k n pc Ls (.long x :: rest) := by
  subst hq1
  exact  step g fun E T L t vm0 B X _ hr => XS.l2i X.here E.1 rfl (hb E.2.1 hd) rfl hr

theorem i2b {q1 : Nat} {x : Int32} (hd : decode bytes pc = .ok (.i2b, 1)) (hq1 : pc + 1 = q1) (g : Wp wd p l e R s m args below meth c Z own nam bytes maxL ret n0 h0 ws Q I h k n q1 Ls (.int (x.toInt8.toInt32) :: rest)) : Wp wd p l e R s m args below meth c Z own nam bytes maxL ret n0 h0 ws Q I h k n pc Ls (.int x :: rest) := by
  subst hq1
  exact  step g fun E T L t vm0 B X _ hr => XS.i2b X.here E.1 rfl (hb E.2.1 hd) rfl hr

theorem i2s {q1 : Nat} {x : Int32} (hd : decode bytes pc = .ok (.i2s, 1)) (hq1 : pc + 1 = q1) (g : Wp wd p l e R s m args below meth c Z own nam bytes maxL ret n0 h0 ws Q I h k n q1 Ls (.int (x.toInt16.toInt32) :: rest)) : Wp wd p l e R s m args below meth c Z own nam bytes maxL ret n0 h0 ws Q I h k n pc Ls (.int x :: rest) := by
  subst hq1
  exact  step g fun E T L t vm0 B X _ hr => XS.i2s X.here E.1 rfl (hb E.2.1 hd) rfl hr

theorem i2c {q1 : Nat} {x : Int32} (hd : decode bytes pc = .ok (.i2c, 1)) (hq1 : pc + 1 = q1) (g : Wp wd p l e R s m args below meth c Z own nam bytes maxL ret n0 h0 ws Q I h k n q1 Ls (.int (x.toUInt32.toUInt16.toUInt32.toInt32) :: rest)) : Wp wd p l e R s m args below meth c Z own nam bytes maxL ret n0 h0 ws Q I h k n pc Ls (.int x :: rest) := by
  subst hq1
  exact  step g fun E T L t vm0 B X _ hr => XS.i2c X.here E.1 rfl (hb E.2.1 hd) rfl hr

theorem iconst {q1 : Nat} {i : Int} {v : Int32} (hd : decode bytes pc = .ok (.iconst i, 1)) (hq1 : pc + 1 = q1) (hv : Int32.ofInt i = v) (g : Wp wd p l e R s m args below meth c Z own nam bytes maxL ret n0 h0 ws Q I h k n q1 Ls (.int v :: st)) : Wp wd p l e R s m args below meth c Z own nam bytes maxL ret n0 h0 ws Q I h k n pc Ls st := by
  subst hq1
  exact  step g fun E T L t vm0 B X _ hr => XT.iconstV X.here E.1 rfl v (hb E.2.1 hd) hv hr

theorem bipush {q1 : Nat} {i : Int} {v : Int32} (hd : decode bytes pc = .ok (.bipush i, 2)) (hq1 : pc + 2 = q1) (hv : (Int8.ofInt i).toInt32 = v) (g : Wp wd p l e R s m args below meth c Z own nam bytes maxL ret n0 h0 ws Q I h k n q1 Ls (.int v :: st)) : Wp wd p l e R s m args below meth c Z own nam bytes maxL ret n0 h0 ws Q I h k n pc Ls st := by
  subst hq1
  exact  step g fun E T L t vm0 B X _ hr => XT.bipushV X.here E.1 rfl v (hb E.2.1 hd) hv hr

theorem sipush {q1 : Nat} {i : Int} {v : Int32} (hd : decode bytes pc = .ok (.sipush i, 3)) (hq1 : pc + 3 = q1) (hv : (Int16.ofInt i).toInt32 = v) (g : Wp wd p l e R s m args below meth c Z own nam bytes maxL ret n0 h0 ws Q I h k n q1 Ls (.int v :: st)) : Wp wd p l e R s m args below meth c Z own nam bytes maxL ret n0 h0 ws Q I h k n pc Ls st := by
  subst hq1
  exact  step g fun E T L t vm0 B X _ hr => XT.sipushV X.here E.1 rfl v (hb E.2.1 hd) hv hr

theorem lconst {q1 : Nat} {i : Fin 2} {v : Int64} (hd : decode bytes pc = .ok (.lconst i, 1)) (hq1 : pc + 1 = q1) (hv : Int64.ofNat i = v) (g : Wp wd p l e R s m args below meth c Z own nam bytes maxL ret n0 h0 ws Q I h k n q1 Ls (.long v :: st)) : Wp wd p l e R s m args below meth c Z own nam bytes maxL ret n0 h0 ws Q I h k n pc Ls st := by
  subst hq1
  exact  step g fun E T L t vm0 B X _ hr => XT.lconstV X.here E.1 rfl v (hb E.2.1 hd) hv hr

theorem aconst_null {q1 : Nat} (hd : decode bytes pc = .ok (.aconst_null, 1)) (hq1 : pc + 1 = q1) (g : Wp wd p l e R s m args below meth c Z own nam bytes maxL ret n0 h0 ws Q I h k n q1 Ls (.null :: st)) : Wp wd p l e R s m args below meth c Z own nam bytes maxL ret n0 h0 ws Q I h k n pc Ls st := by
  subst hq1
  exact  step g fun E T L t vm0 B X _ hr => XS.aconstNull X.here E.1 rfl (hb E.2.1 hd) hr

theorem ldcI {q1 : Nat} {i : Nat} {v : Int32} (hd : decode bytes pc = .ok (.ldc i, 2)) (hq1 : pc + 2 = q1) (w : (Cond.constant own i v).before a0 Z = true) (g : Wp wd p l e R s m args below meth c Z own nam bytes maxL ret n0 h0 ws Q I h k n q1 Ls (.int v :: st)) : Wp wd p l e R s m args below meth c Z own nam bytes maxL ret n0 h0 ws Q I h k n pc Ls st := by
  subst hq1
  exact  step g fun E T L t vm0 B X _ hr => X.ldcInt E.1 (bO E B) (mvT (bZ E B) w) (g := mkF m pc Ls.toArray st) rfl (hb E.2.1 hd) _ hr

theorem ldcwI {q1 : Nat} {i : Nat} {v : Int32} (hd : decode bytes pc = .ok (.ldc_w i, 3)) (hq1 : pc + 3 = q1) (w : (Cond.constant own i v).before a0 Z = true) (g : Wp wd p l e R s m args below meth c Z own nam bytes maxL ret n0 h0 ws Q I h k n q1 Ls (.int v :: st)) : Wp wd p l e R s m args below meth c Z own nam bytes maxL ret n0 h0 ws Q I h k n pc Ls st := by
  subst hq1
  exact  step g fun E T L t vm0 B X _ hr => X.ldcwInt E.1 (bO E B) (mvT (bZ E B) w) (g := mkF m pc Ls.toArray st) rfl (hb E.2.1 hd) _ hr

theorem ldc2J {q1 : Nat} {i : Nat} {v : Int64} (hd : decode bytes pc = .ok (.ldc2_w i, 3)) (hq1 : pc + 3 = q1) (w : (Cond.constantLong own i v).before a0 Z = true) (g : Wp wd p l e R s m args below meth c Z own nam bytes maxL ret n0 h0 ws Q I h k n q1 Ls (.long v :: st)) : Wp wd p l e R s m args below meth c Z own nam bytes maxL ret n0 h0 ws Q I h k n pc Ls st := by
  subst hq1
  exact  step g fun E T L t vm0 B X _ hr => X.ldc2Long E.1 (bO E B) (mvT (bZ E B) w) (g := mkF m pc Ls.toArray st) rfl (hb E.2.1 hd) _ hr

theorem iload {q1 : Nat} {j : Nat} {v : Int32} (hd : decode bytes pc = .ok (.iload j, 2)) (hq1 : pc + 2 = q1) (hl : Ls[j]? = some (.val (.int v))) (g : Wp wd p l e R s m args below meth c Z own nam bytes maxL ret n0 h0 ws Q I h k n q1 Ls ((.int v) :: st)) : Wp wd p l e R s m args below meth c Z own nam bytes maxL ret n0 h0 ws Q I h k n pc Ls st := by
  subst hq1
  exact  step g fun E T L t vm0 B X _ hr => XS.iload X.here E.1 rfl (hb E.2.1 hd) (by simpa using hl) hr

theorem iload_n {q1 : Nat} {j : Fin 4} {v : Int32} (hd : decode bytes pc = .ok (.iload_n j, 1)) (hq1 : pc + 1 = q1) (hl : Ls[j.val]? = some (.val (.int v))) (g : Wp wd p l e R s m args below meth c Z own nam bytes maxL ret n0 h0 ws Q I h k n q1 Ls ((.int v) :: st)) : Wp wd p l e R s m args below meth c Z own nam bytes maxL ret n0 h0 ws Q I h k n pc Ls st := by
  subst hq1
  exact  step g fun E T L t vm0 B X _ hr => XS.iloadN X.here E.1 rfl (hb E.2.1 hd) (by simpa using hl) hr

theorem lload {q1 : Nat} {j : Nat} {v : Int64} (hd : decode bytes pc = .ok (.lload j, 2)) (hq1 : pc + 2 = q1) (hl : Ls[j]? = some (.val (.long v))) (g : Wp wd p l e R s m args below meth c Z own nam bytes maxL ret n0 h0 ws Q I h k n q1 Ls ((.long v) :: st)) : Wp wd p l e R s m args below meth c Z own nam bytes maxL ret n0 h0 ws Q I h k n pc Ls st := by
  subst hq1
  exact  step g fun E T L t vm0 B X _ hr => XS.lload X.here E.1 rfl (hb E.2.1 hd) (by simpa using hl) hr

theorem lload_n {q1 : Nat} {j : Fin 4} {v : Int64} (hd : decode bytes pc = .ok (.lload_n j, 1)) (hq1 : pc + 1 = q1) (hl : Ls[j.val]? = some (.val (.long v))) (g : Wp wd p l e R s m args below meth c Z own nam bytes maxL ret n0 h0 ws Q I h k n q1 Ls ((.long v) :: st)) : Wp wd p l e R s m args below meth c Z own nam bytes maxL ret n0 h0 ws Q I h k n pc Ls st := by
  subst hq1
  exact  step g fun E T L t vm0 B X _ hr => XS.lloadN X.here E.1 rfl (hb E.2.1 hd) (by simpa using hl) hr

theorem aload {q1 : Nat} {j : Nat} {v : Value} (hd : decode bytes pc = .ok (.aload j, 2)) (hq1 : pc + 2 = q1) (hl : Ls[j]? = some (.val (v))) (hv : v.isRef = true) (g : Wp wd p l e R s m args below meth c Z own nam bytes maxL ret n0 h0 ws Q I h k n q1 Ls ((v) :: st)) : Wp wd p l e R s m args below meth c Z own nam bytes maxL ret n0 h0 ws Q I h k n pc Ls st := by
  subst hq1
  exact  step g fun E T L t vm0 B X _ hr => XS.aload X.here E.1 rfl (hb E.2.1 hd) (by simpa using hl) hv hr

theorem aload_n {q1 : Nat} {j : Fin 4} {v : Value} (hd : decode bytes pc = .ok (.aload_n j, 1)) (hq1 : pc + 1 = q1) (hl : Ls[j.val]? = some (.val (v))) (hv : v.isRef = true) (g : Wp wd p l e R s m args below meth c Z own nam bytes maxL ret n0 h0 ws Q I h k n q1 Ls ((v) :: st)) : Wp wd p l e R s m args below meth c Z own nam bytes maxL ret n0 h0 ws Q I h k n pc Ls st := by
  subst hq1
  exact  step g fun E T L t vm0 B X _ hr => XS.aloadN X.here E.1 rfl (hb E.2.1 hd) (by simpa using hl) hv hr

theorem istore {q1 : Nat} {j : Nat} {x : Int32} (hd : decode bytes pc = .ok (.istore j, 2)) (hq1 : pc + 2 = q1) (ho : oneAt Ls j = true) (g : Wp wd p l e R s m args below meth c Z own nam bytes maxL ret n0 h0 ws Q I h k n q1 (Ls.set j (.val (.int x))) rest) : Wp wd p l e R s m args below meth c Z own nam bytes maxL ret n0 h0 ws Q I h k n pc Ls (.int x :: rest) := by
  subst hq1
  exact  step g fun E T L t vm0 B X _ hr => XS.istore X.here E.1 rfl (hb E.2.1 hd) rfl (one_store ho rfl) hr

theorem istore_n {q1 : Nat} {j : Fin 4} {jj : Nat} {x : Int32} (hd : decode bytes pc = .ok (.istore_n j, 1)) (hq1 : pc + 1 = q1) (hj : j.val = jj) (ho : oneAt Ls jj = true) (g : Wp wd p l e R s m args below meth c Z own nam bytes maxL ret n0 h0 ws Q I h k n q1 (Ls.set jj (.val (.int x))) rest) : Wp wd p l e R s m args below meth c Z own nam bytes maxL ret n0 h0 ws Q I h k n pc Ls (.int x :: rest) := by
  subst hq1
  exact  step g fun E T L t vm0 B X _ hr => XS.istoreN X.here E.1 rfl (hb E.2.1 hd) rfl (by subst hj; exact one_store ho rfl) hr

theorem astore {q1 : Nat} {j : Nat} {x : Value} (hd : decode bytes pc = .ok (.astore j, 2)) (hq1 : pc + 2 = q1) (ho : oneAt Ls j = true) (hv : x.isRef = true) (g : Wp wd p l e R s m args below meth c Z own nam bytes maxL ret n0 h0 ws Q I h k n q1 (Ls.set j (.val x)) rest) : Wp wd p l e R s m args below meth c Z own nam bytes maxL ret n0 h0 ws Q I h k n pc Ls (x :: rest) := by
  subst hq1
  exact  step g fun E T L t vm0 B X _ hr => XS.astore X.here E.1 rfl (hb E.2.1 hd) rfl hv (one_store ho (XT.cat1 hv)) hr

theorem astore_n {q1 : Nat} {j : Fin 4} {jj : Nat} {x : Value} (hd : decode bytes pc = .ok (.astore_n j, 1)) (hq1 : pc + 1 = q1) (hj : j.val = jj) (ho : oneAt Ls jj = true) (hv : x.isRef = true) (g : Wp wd p l e R s m args below meth c Z own nam bytes maxL ret n0 h0 ws Q I h k n q1 (Ls.set jj (.val x)) rest) : Wp wd p l e R s m args below meth c Z own nam bytes maxL ret n0 h0 ws Q I h k n pc Ls (x :: rest) := by
  subst hq1
  exact  step g fun E T L t vm0 B X _ hr => XS.astoreN X.here E.1 rfl (hb E.2.1 hd) rfl hv (by subst hj; exact one_store ho (XT.cat1 hv)) hr

theorem lstore {q1 : Nat} {j jk : Nat} {x : Int64} (hd : decode bytes pc = .ok (.lstore j, 2)) (hq1 : pc + 2 = q1) (hjk : j + 1 = jk) (ho : twoAt Ls j = true) (g : Wp wd p l e R s m args below meth c Z own nam bytes maxL ret n0 h0 ws Q I h k n q1 ((Ls.set j (.val (.long x))).set jk .second) rest) : Wp wd p l e R s m args below meth c Z own nam bytes maxL ret n0 h0 ws Q I h k n pc Ls (.long x :: rest) := by
  subst hq1
  exact  step g fun E T L t vm0 B X _ hr => XS.lstore X.here E.1 rfl (hb E.2.1 hd) rfl (by subst hjk; exact two_store ho) hr

theorem lstore_n {q1 : Nat} {j : Fin 4} {jj jk : Nat} {x : Int64} (hd : decode bytes pc = .ok (.lstore_n j, 1)) (hq1 : pc + 1 = q1) (hj : j.val = jj) (hjk : jj + 1 = jk) (ho : twoAt Ls jj = true) (g : Wp wd p l e R s m args below meth c Z own nam bytes maxL ret n0 h0 ws Q I h k n q1 ((Ls.set jj (.val (.long x))).set jk .second) rest) : Wp wd p l e R s m args below meth c Z own nam bytes maxL ret n0 h0 ws Q I h k n pc Ls (.long x :: rest) := by
  subst hq1
  exact  step g fun E T L t vm0 B X _ hr => XS.lstoreN X.here E.1 rfl (hb E.2.1 hd) rfl (by subst hj; subst hjk; exact two_store ho) hr

theorem iinc {q1 : Nat} {j : Nat} {i : Int} {x v : Int32} (hd : decode bytes pc = .ok (.iinc j i, 3)) (hq1 : pc + 3 = q1) (hv : Int32.ofInt i = v) (hl : Ls[j]? = some (.val (.int x))) (g : Wp wd p l e R s m args below meth c Z own nam bytes maxL ret n0 h0 ws Q I h k n q1 (Ls.set j (.val (.int (x + v)))) st) : Wp wd p l e R s m args below meth c Z own nam bytes maxL ret n0 h0 ws Q I h k n pc Ls st := by
  subst hq1
  exact  step g fun E T L t vm0 B X _ hr => XT.iincV X.here E.1 rfl v (hb E.2.1 hd) hv (by simpa using hl) (one_store (by simp [oneAt, hl, oneB, Value.category]) rfl) hr

theorem dup {q1 : Nat} {x : Value} (hd : decode bytes pc = .ok (.dup, 1)) (hq1 : pc + 1 = q1) (hc : x.category = 1) (g : Wp wd p l e R s m args below meth c Z own nam bytes maxL ret n0 h0 ws Q I h k n q1 Ls (x :: x :: rest)) : Wp wd p l e R s m args below meth c Z own nam bytes maxL ret n0 h0 ws Q I h k n pc Ls (x :: rest) := by
  subst hq1
  exact  step g fun E T L t vm0 B X _ hr => XS.dup X.here E.1 rfl (hb E.2.1 hd) rfl hc hr

theorem pop {q1 : Nat} {x : Value} (hd : decode bytes pc = .ok (.pop, 1)) (hq1 : pc + 1 = q1) (hc : x.category = 1) (g : Wp wd p l e R s m args below meth c Z own nam bytes maxL ret n0 h0 ws Q I h k n q1 Ls rest) : Wp wd p l e R s m args below meth c Z own nam bytes maxL ret n0 h0 ws Q I h k n pc Ls (x :: rest) := by
  subst hq1
  exact  step g fun E T L t vm0 B X _ hr => XS.pop X.here E.1 rfl (hb E.2.1 hd) rfl hc hr

theorem dup_x1 {q1 : Nat} {x y : Value} (hd : decode bytes pc = .ok (.dup_x1, 1)) (hq1 : pc + 1 = q1) (hc : x.category = 1) (hc' : y.category = 1) (g : Wp wd p l e R s m args below meth c Z own nam bytes maxL ret n0 h0 ws Q I h k n q1 Ls (x :: y :: x :: rest)) : Wp wd p l e R s m args below meth c Z own nam bytes maxL ret n0 h0 ws Q I h k n pc Ls (x :: y :: rest) := by
  subst hq1
  exact  step g fun E T L t vm0 B X _ hr => XS.dupX1 X.here E.1 rfl (hb E.2.1 hd) rfl hc hc' hr

theorem dup2 {q1 : Nat} {x y : Value} (hd : decode bytes pc = .ok (.dup2, 1)) (hq1 : pc + 1 = q1) (hc : x.category = 1) (hc' : y.category = 1) (g : Wp wd p l e R s m args below meth c Z own nam bytes maxL ret n0 h0 ws Q I h k n q1 Ls (x :: y :: x :: y :: rest)) : Wp wd p l e R s m args below meth c Z own nam bytes maxL ret n0 h0 ws Q I h k n pc Ls (x :: y :: rest) := by
  subst hq1
  exact  step g fun E T L t vm0 B X _ hr => XT.dup2 X.here E.1 rfl (hb E.2.1 hd) rfl hc hc' hr

theorem dup2L {q1 : Nat} {x : Int64} (hd : decode bytes pc = .ok (.dup2, 1)) (hq1 : pc + 1 = q1) (g : Wp wd p l e R s m args below meth c Z own nam bytes maxL ret n0 h0 ws Q I h k n q1 Ls (.long x :: .long x :: rest)) : Wp wd p l e R s m args below meth c Z own nam bytes maxL ret n0 h0 ws Q I h k n pc Ls (.long x :: rest) := by
  subst hq1
  exact  step g fun E T L t vm0 B X _ hr => XT.dup2L X.here E.1 rfl (hb E.2.1 hd) rfl hr

theorem goto {o : Int} {q : Nat} (hd : decode bytes pc = .ok (.goto o, 3)) (hq : (0 ≤ (pc : Int) + o) ∧ ((pc : Int) + o).toNat = q) (g : Wp wd p l e R s m args below meth c Z own nam bytes maxL ret n0 h0 ws Q I h k n q Ls st) : Wp wd p l e R s m args below meth c Z own nam bytes maxL ret n0 h0 ws Q I h k n pc Ls st :=
  step g fun E T L t vm0 B X _ hr => XS.goto X.here E.1 rfl rfl (hb E.2.1 hd) hq.1 hq.2 hr

theorem if_eq {q1 : Nat} {o : Int} {q : Nat} {x : Int32} (hd : decode bytes pc = .ok (.ifCond .eq o, 3)) (hq1 : pc + 3 = q1) (hq : (0 ≤ (pc : Int) + o) ∧ ((pc : Int) + o).toNat = q) (gt : x = 0 → Wp wd p l e R s m args below meth c Z own nam bytes maxL ret n0 h0 ws Q I h k n q Ls rest) (gf : ¬ x = 0 → Wp wd p l e R s m args below meth c Z own nam bytes maxL ret n0 h0 ws Q I h k n q1 Ls rest) : Wp wd p l e R s m args below meth c Z own nam bytes maxL ret n0 h0 ws Q I h k n pc Ls (.int x :: rest) := by
  subst hq1
  by_cases hc : x = 0
  · exact step (gt hc) fun E T L t vm0 B X _ hr => XS.ifYes X.here E.1 rfl rfl (hb E.2.1 hd) rfl ((if0 _ _).trans (teq hc).1) hq.1 hq.2 hr
  · exact step (gf hc) fun E T L t vm0 B X _ hr => XS.ifNo X.here E.1 rfl (hb E.2.1 hd) rfl ((if0 _ _).trans (feq hc).1) hr

theorem icmp_eq {q1 : Nat} {o : Int} {q : Nat} {x y : Int32} (hd : decode bytes pc = .ok (.if_icmp .eq o, 3)) (hq1 : pc + 3 = q1) (hq : (0 ≤ (pc : Int) + o) ∧ ((pc : Int) + o).toNat = q) (gt : x = y → Wp wd p l e R s m args below meth c Z own nam bytes maxL ret n0 h0 ws Q I h k n q Ls rest) (gf : ¬ x = y → Wp wd p l e R s m args below meth c Z own nam bytes maxL ret n0 h0 ws Q I h k n q1 Ls rest) : Wp wd p l e R s m args below meth c Z own nam bytes maxL ret n0 h0 ws Q I h k n pc Ls (.int y :: .int x :: rest) := by
  subst hq1
  by_cases hc : x = y
  · exact step (gt hc) fun E T L t vm0 B X _ hr => XS.icmpYes X.here E.1 rfl rfl (hb E.2.1 hd) rfl (teq hc).1 hq.1 hq.2 hr
  · exact step (gf hc) fun E T L t vm0 B X _ hr => XS.icmpNo X.here E.1 rfl (hb E.2.1 hd) rfl (feq hc).1 hr

theorem if_ne {q1 : Nat} {o : Int} {q : Nat} {x : Int32} (hd : decode bytes pc = .ok (.ifCond .ne o, 3)) (hq1 : pc + 3 = q1) (hq : (0 ≤ (pc : Int) + o) ∧ ((pc : Int) + o).toNat = q) (gt : ¬ x = 0 → Wp wd p l e R s m args below meth c Z own nam bytes maxL ret n0 h0 ws Q I h k n q Ls rest) (gf : x = 0 → Wp wd p l e R s m args below meth c Z own nam bytes maxL ret n0 h0 ws Q I h k n q1 Ls rest) : Wp wd p l e R s m args below meth c Z own nam bytes maxL ret n0 h0 ws Q I h k n pc Ls (.int x :: rest) := by
  subst hq1
  by_cases hc : x = 0
  · exact step (gf hc) fun E T L t vm0 B X _ hr => XS.ifNo X.here E.1 rfl (hb E.2.1 hd) rfl ((if0 _ _).trans (teq hc).2) hr
  · exact step (gt hc) fun E T L t vm0 B X _ hr => XS.ifYes X.here E.1 rfl rfl (hb E.2.1 hd) rfl ((if0 _ _).trans (feq hc).2) hq.1 hq.2 hr

theorem icmp_ne {q1 : Nat} {o : Int} {q : Nat} {x y : Int32} (hd : decode bytes pc = .ok (.if_icmp .ne o, 3)) (hq1 : pc + 3 = q1) (hq : (0 ≤ (pc : Int) + o) ∧ ((pc : Int) + o).toNat = q) (gt : ¬ x = y → Wp wd p l e R s m args below meth c Z own nam bytes maxL ret n0 h0 ws Q I h k n q Ls rest) (gf : x = y → Wp wd p l e R s m args below meth c Z own nam bytes maxL ret n0 h0 ws Q I h k n q1 Ls rest) : Wp wd p l e R s m args below meth c Z own nam bytes maxL ret n0 h0 ws Q I h k n pc Ls (.int y :: .int x :: rest) := by
  subst hq1
  by_cases hc : x = y
  · exact step (gf hc) fun E T L t vm0 B X _ hr => XS.icmpNo X.here E.1 rfl (hb E.2.1 hd) rfl (teq hc).2 hr
  · exact step (gt hc) fun E T L t vm0 B X _ hr => XS.icmpYes X.here E.1 rfl rfl (hb E.2.1 hd) rfl (feq hc).2 hq.1 hq.2 hr

theorem if_lt {q1 : Nat} {o : Int} {q : Nat} {x : Int32} (hd : decode bytes pc = .ok (.ifCond .lt o, 3)) (hq1 : pc + 3 = q1) (hq : (0 ≤ (pc : Int) + o) ∧ ((pc : Int) + o).toNat = q) (gt : x < 0 → Wp wd p l e R s m args below meth c Z own nam bytes maxL ret n0 h0 ws Q I h k n q Ls rest) (gf : ¬ x < 0 → Wp wd p l e R s m args below meth c Z own nam bytes maxL ret n0 h0 ws Q I h k n q1 Ls rest) : Wp wd p l e R s m args below meth c Z own nam bytes maxL ret n0 h0 ws Q I h k n pc Ls (.int x :: rest) := by
  subst hq1
  by_cases hc : x < 0
  · exact step (gt hc) fun E T L t vm0 B X _ hr => XS.ifYes X.here E.1 rfl rfl (hb E.2.1 hd) rfl ((if0 _ _).trans (tlt hc).1) hq.1 hq.2 hr
  · exact step (gf hc) fun E T L t vm0 B X _ hr => XS.ifNo X.here E.1 rfl (hb E.2.1 hd) rfl ((if0 _ _).trans (flt hc).1) hr

theorem icmp_lt {q1 : Nat} {o : Int} {q : Nat} {x y : Int32} (hd : decode bytes pc = .ok (.if_icmp .lt o, 3)) (hq1 : pc + 3 = q1) (hq : (0 ≤ (pc : Int) + o) ∧ ((pc : Int) + o).toNat = q) (gt : x < y → Wp wd p l e R s m args below meth c Z own nam bytes maxL ret n0 h0 ws Q I h k n q Ls rest) (gf : ¬ x < y → Wp wd p l e R s m args below meth c Z own nam bytes maxL ret n0 h0 ws Q I h k n q1 Ls rest) : Wp wd p l e R s m args below meth c Z own nam bytes maxL ret n0 h0 ws Q I h k n pc Ls (.int y :: .int x :: rest) := by
  subst hq1
  by_cases hc : x < y
  · exact step (gt hc) fun E T L t vm0 B X _ hr => XS.icmpYes X.here E.1 rfl rfl (hb E.2.1 hd) rfl (tlt hc).1 hq.1 hq.2 hr
  · exact step (gf hc) fun E T L t vm0 B X _ hr => XS.icmpNo X.here E.1 rfl (hb E.2.1 hd) rfl (flt hc).1 hr

theorem if_ge {q1 : Nat} {o : Int} {q : Nat} {x : Int32} (hd : decode bytes pc = .ok (.ifCond .ge o, 3)) (hq1 : pc + 3 = q1) (hq : (0 ≤ (pc : Int) + o) ∧ ((pc : Int) + o).toNat = q) (gt : ¬ x < 0 → Wp wd p l e R s m args below meth c Z own nam bytes maxL ret n0 h0 ws Q I h k n q Ls rest) (gf : x < 0 → Wp wd p l e R s m args below meth c Z own nam bytes maxL ret n0 h0 ws Q I h k n q1 Ls rest) : Wp wd p l e R s m args below meth c Z own nam bytes maxL ret n0 h0 ws Q I h k n pc Ls (.int x :: rest) := by
  subst hq1
  by_cases hc : x < 0
  · exact step (gf hc) fun E T L t vm0 B X _ hr => XS.ifNo X.here E.1 rfl (hb E.2.1 hd) rfl ((if0 _ _).trans (tlt hc).2.1) hr
  · exact step (gt hc) fun E T L t vm0 B X _ hr => XS.ifYes X.here E.1 rfl rfl (hb E.2.1 hd) rfl ((if0 _ _).trans (flt hc).2.1) hq.1 hq.2 hr

theorem icmp_ge {q1 : Nat} {o : Int} {q : Nat} {x y : Int32} (hd : decode bytes pc = .ok (.if_icmp .ge o, 3)) (hq1 : pc + 3 = q1) (hq : (0 ≤ (pc : Int) + o) ∧ ((pc : Int) + o).toNat = q) (gt : ¬ x < y → Wp wd p l e R s m args below meth c Z own nam bytes maxL ret n0 h0 ws Q I h k n q Ls rest) (gf : x < y → Wp wd p l e R s m args below meth c Z own nam bytes maxL ret n0 h0 ws Q I h k n q1 Ls rest) : Wp wd p l e R s m args below meth c Z own nam bytes maxL ret n0 h0 ws Q I h k n pc Ls (.int y :: .int x :: rest) := by
  subst hq1
  by_cases hc : x < y
  · exact step (gf hc) fun E T L t vm0 B X _ hr => XS.icmpNo X.here E.1 rfl (hb E.2.1 hd) rfl (tlt hc).2.1 hr
  · exact step (gt hc) fun E T L t vm0 B X _ hr => XS.icmpYes X.here E.1 rfl rfl (hb E.2.1 hd) rfl (flt hc).2.1 hq.1 hq.2 hr

theorem if_gt {q1 : Nat} {o : Int} {q : Nat} {x : Int32} (hd : decode bytes pc = .ok (.ifCond .gt o, 3)) (hq1 : pc + 3 = q1) (hq : (0 ≤ (pc : Int) + o) ∧ ((pc : Int) + o).toNat = q) (gt : 0 < x → Wp wd p l e R s m args below meth c Z own nam bytes maxL ret n0 h0 ws Q I h k n q Ls rest) (gf : ¬ 0 < x → Wp wd p l e R s m args below meth c Z own nam bytes maxL ret n0 h0 ws Q I h k n q1 Ls rest) : Wp wd p l e R s m args below meth c Z own nam bytes maxL ret n0 h0 ws Q I h k n pc Ls (.int x :: rest) := by
  subst hq1
  by_cases hc : 0 < x
  · exact step (gt hc) fun E T L t vm0 B X _ hr => XS.ifYes X.here E.1 rfl rfl (hb E.2.1 hd) rfl ((if0 _ _).trans (tlt hc).2.2.1) hq.1 hq.2 hr
  · exact step (gf hc) fun E T L t vm0 B X _ hr => XS.ifNo X.here E.1 rfl (hb E.2.1 hd) rfl ((if0 _ _).trans (flt hc).2.2.1) hr

theorem icmp_gt {q1 : Nat} {o : Int} {q : Nat} {x y : Int32} (hd : decode bytes pc = .ok (.if_icmp .gt o, 3)) (hq1 : pc + 3 = q1) (hq : (0 ≤ (pc : Int) + o) ∧ ((pc : Int) + o).toNat = q) (gt : y < x → Wp wd p l e R s m args below meth c Z own nam bytes maxL ret n0 h0 ws Q I h k n q Ls rest) (gf : ¬ y < x → Wp wd p l e R s m args below meth c Z own nam bytes maxL ret n0 h0 ws Q I h k n q1 Ls rest) : Wp wd p l e R s m args below meth c Z own nam bytes maxL ret n0 h0 ws Q I h k n pc Ls (.int y :: .int x :: rest) := by
  subst hq1
  by_cases hc : y < x
  · exact step (gt hc) fun E T L t vm0 B X _ hr => XS.icmpYes X.here E.1 rfl rfl (hb E.2.1 hd) rfl (tlt hc).2.2.1 hq.1 hq.2 hr
  · exact step (gf hc) fun E T L t vm0 B X _ hr => XS.icmpNo X.here E.1 rfl (hb E.2.1 hd) rfl (flt hc).2.2.1 hr

theorem if_le {q1 : Nat} {o : Int} {q : Nat} {x : Int32} (hd : decode bytes pc = .ok (.ifCond .le o, 3)) (hq1 : pc + 3 = q1) (hq : (0 ≤ (pc : Int) + o) ∧ ((pc : Int) + o).toNat = q) (gt : ¬ 0 < x → Wp wd p l e R s m args below meth c Z own nam bytes maxL ret n0 h0 ws Q I h k n q Ls rest) (gf : 0 < x → Wp wd p l e R s m args below meth c Z own nam bytes maxL ret n0 h0 ws Q I h k n q1 Ls rest) : Wp wd p l e R s m args below meth c Z own nam bytes maxL ret n0 h0 ws Q I h k n pc Ls (.int x :: rest) := by
  subst hq1
  by_cases hc : 0 < x
  · exact step (gf hc) fun E T L t vm0 B X _ hr => XS.ifNo X.here E.1 rfl (hb E.2.1 hd) rfl ((if0 _ _).trans (tlt hc).2.2.2) hr
  · exact step (gt hc) fun E T L t vm0 B X _ hr => XS.ifYes X.here E.1 rfl rfl (hb E.2.1 hd) rfl ((if0 _ _).trans (flt hc).2.2.2) hq.1 hq.2 hr

theorem icmp_le {q1 : Nat} {o : Int} {q : Nat} {x y : Int32} (hd : decode bytes pc = .ok (.if_icmp .le o, 3)) (hq1 : pc + 3 = q1) (hq : (0 ≤ (pc : Int) + o) ∧ ((pc : Int) + o).toNat = q) (gt : ¬ y < x → Wp wd p l e R s m args below meth c Z own nam bytes maxL ret n0 h0 ws Q I h k n q Ls rest) (gf : y < x → Wp wd p l e R s m args below meth c Z own nam bytes maxL ret n0 h0 ws Q I h k n q1 Ls rest) : Wp wd p l e R s m args below meth c Z own nam bytes maxL ret n0 h0 ws Q I h k n pc Ls (.int y :: .int x :: rest) := by
  subst hq1
  by_cases hc : y < x
  · exact step (gf hc) fun E T L t vm0 B X _ hr => XS.icmpNo X.here E.1 rfl (hb E.2.1 hd) rfl (tlt hc).2.2.2 hr
  · exact step (gt hc) fun E T L t vm0 B X _ hr => XS.icmpYes X.here E.1 rfl rfl (hb E.2.1 hd) rfl (flt hc).2.2.2 hq.1 hq.2 hr

theorem ifnull {q1 : Nat} {o : Int} {q : Nat} {v : Value} (hd : decode bytes pc = .ok (.ifnull o, 3)) (hq1 : pc + 3 = q1) (hq : (0 ≤ (pc : Int) + o) ∧ ((pc : Int) + o).toNat = q) (hv : v.isRef = true) (gt : v = .null → Wp wd p l e R s m args below meth c Z own nam bytes maxL ret n0 h0 ws Q I h k n q Ls rest) (gf : ¬ v = .null → Wp wd p l e R s m args below meth c Z own nam bytes maxL ret n0 h0 ws Q I h k n q1 Ls rest) : Wp wd p l e R s m args below meth c Z own nam bytes maxL ret n0 h0 ws Q I h k n pc Ls (v :: rest) := by
  subst hq1
  by_cases hn : v = .null
  · exact step (gt hn) fun E T L t vm0 B X _ hr => XT.nullYes X.here E.1 rfl rfl (hb E.2.1 hd) rfl hn hq.1 hq.2 hr
  · exact step (gf hn) fun E T L t vm0 B X _ hr => XT.nullNo X.here E.1 rfl (hb E.2.1 hd) rfl hv hn hr

theorem ifnonnull {q1 : Nat} {o : Int} {q : Nat} {v : Value} (hd : decode bytes pc = .ok (.ifnonnull o, 3)) (hq1 : pc + 3 = q1) (hq : (0 ≤ (pc : Int) + o) ∧ ((pc : Int) + o).toNat = q) (hv : v.isRef = true) (gt : ¬ v = .null → Wp wd p l e R s m args below meth c Z own nam bytes maxL ret n0 h0 ws Q I h k n q Ls rest) (gf : v = .null → Wp wd p l e R s m args below meth c Z own nam bytes maxL ret n0 h0 ws Q I h k n q1 Ls rest) : Wp wd p l e R s m args below meth c Z own nam bytes maxL ret n0 h0 ws Q I h k n pc Ls (v :: rest) := by
  subst hq1
  by_cases hn : v = .null
  · exact step (gf hn) fun E T L t vm0 B X _ hr => XT.nonnullNo X.here E.1 rfl (hb E.2.1 hd) rfl hn hr
  · exact step (gt hn) fun E T L t vm0 B X _ hr => XT.nonnullYes X.here E.1 rfl rfl (hb E.2.1 hd) rfl hv hn hq.1 hq.2 hr

theorem acmp_eq {q1 : Nat} {o : Int} {q : Nat} {x y : Value} (hd : decode bytes pc = .ok (.if_acmp .eq o, 3)) (hq1 : pc + 3 = q1) (hq : (0 ≤ (pc : Int) + o) ∧ ((pc : Int) + o).toNat = q) (hx : x.isRef = true) (hy : y.isRef = true) (gt : x = y → Wp wd p l e R s m args below meth c Z own nam bytes maxL ret n0 h0 ws Q I h k n q Ls rest) (gf : ¬ x = y → Wp wd p l e R s m args below meth c Z own nam bytes maxL ret n0 h0 ws Q I h k n q1 Ls rest) : Wp wd p l e R s m args below meth c Z own nam bytes maxL ret n0 h0 ws Q I h k n pc Ls (y :: x :: rest) := by
  subst hq1
  by_cases hn : x = y
  · exact step (gt hn) fun E T L t vm0 B X _ hr => XT.acmpYes X.here E.1 rfl rfl (hb E.2.1 hd) rfl hx hy (XT.aa_eq_t hn) hq.1 hq.2 hr
  · exact step (gf hn) fun E T L t vm0 B X _ hr => XT.acmpNo X.here E.1 rfl (hb E.2.1 hd) rfl hx hy (XT.aa_eq_f hn) hr

theorem acmp_ne {q1 : Nat} {o : Int} {q : Nat} {x y : Value} (hd : decode bytes pc = .ok (.if_acmp .ne o, 3)) (hq1 : pc + 3 = q1) (hq : (0 ≤ (pc : Int) + o) ∧ ((pc : Int) + o).toNat = q) (hx : x.isRef = true) (hy : y.isRef = true) (gt : ¬ x = y → Wp wd p l e R s m args below meth c Z own nam bytes maxL ret n0 h0 ws Q I h k n q Ls rest) (gf : x = y → Wp wd p l e R s m args below meth c Z own nam bytes maxL ret n0 h0 ws Q I h k n q1 Ls rest) : Wp wd p l e R s m args below meth c Z own nam bytes maxL ret n0 h0 ws Q I h k n pc Ls (y :: x :: rest) := by
  subst hq1
  by_cases hn : x = y
  · exact step (gf hn) fun E T L t vm0 B X _ hr => XT.acmpNo X.here E.1 rfl (hb E.2.1 hd) rfl hx hy (XT.aa_ne_f hn) hr
  · exact step (gt hn) fun E T L t vm0 B X _ hr => XT.acmpYes X.here E.1 rfl rfl (hb E.2.1 hd) rfl hx hy (XT.aa_ne_t hn) hq.1 hq.2 hr

theorem getfield {q1 : Nat} {i : Nat} {R0 O f d : String} {a : Addr} {v : Value} (hd : decode bytes pc = .ok (.getfield i, 3)) (hq1 : pc + 3 = q1) (w : (Cond.fieldLink own i R0 f d).before a0 Z = true) (via : Via Z R0 O f d) (F : Fld Z h a O f d v) (g : Wp wd p l e R s m args below meth c Z own nam bytes maxL ret n0 h0 ws Q I h k n q1 Ls (v :: rest)) : Wp wd p l e R s m args below meth c Z own nam bytes maxL ret n0 h0 ws Q I h k n pc Ls (.ref a :: rest) := by
  subst hq1
  exact  lawS fun E T L vm0 B X N eT => by
    obtain ⟨T', X', e', st'⟩ := getF X E.1 (bZ E B) (bO E B) (host := "") (Or.inl w) via eT F (g := mkF m pc Ls.toArray (.ref a :: rest)) rfl rfl (hb E.2.1 hd)
    exact ⟨T', L, h, k, n, X', N, e', Nat.le_refl _, st', g⟩

theorem putfield {q1 : Nat} {i kk : Nat} {R0 O f d C : String} {ty : FieldType} {a : Addr} {v old : Value} (hd : decode bytes pc = .ok (.putfield i, 3)) (hq1 : pc + 3 = q1) (w : (Cond.fieldLink own i R0 f d).before a0 Z = true) (via : Via Z R0 O f d) (F : Fld Z h a O f d old) (X0 : Exa Z h a C) (Lw : (Cond.lays C O f d).before a0 Z = true ∨ ((Cond.laysFinal C O f d).before a0 Z = true ∧ own = O ∧ nam = "<init>")) (wi : (Cond.instantiable C kk).before a0 Z = true) (hty : parseFieldDescriptor d = some ty) (hn : narrow ty v = v) (hf : fits ty v = true) (ha : a ∈ ws ∨ h0.size ≤ a)
    (g : ∀ h', Wr h h' a (Jvm.RoadKit.slotOf Z O f d) v → Wp wd p l e R s m args below meth c Z own nam bytes maxL ret n0 h0 ws Q I h' k n q1 Ls rest) : Wp wd p l e R s m args below meth c Z own nam bytes maxL ret n0 h0 ws Q I h k n pc Ls (v :: .ref a :: rest) := by
  subst hq1
  exact  lawS fun E T L vm0 B X N eT => by
    obtain ⟨T', h', X', e', W', st'⟩ := putF X E.1 (bZ E B) (bO E B) (host := "") (Or.inl w) via eT F X0 (Lw.imp id fun q => ⟨q.1, q.2.1, E.2.2.2.2.2.1.trans q.2.2⟩) wi hty hn hf (g := mkF m pc Ls.toArray (v :: .ref a :: rest)) rfl rfl (hb E.2.1 hd)
    exact ⟨T', _, h', k, n, X', Pmt.snoc N ha, e', Nat.le_of_eq W'.size.symm, st', g h' W'⟩

theorem putfieldN {q1 : Nat} {i kk : Nat} {R0 O f d C : String} {ty : FieldType} {a : Addr} {v v' old : Value} (hd : decode bytes pc = .ok (.putfield i, 3)) (hq1 : pc + 3 = q1) (w : (Cond.fieldLink own i R0 f d).before a0 Z = true) (via : Via Z R0 O f d) (F : Fld Z h a O f d old) (X0 : Exa Z h a C) (Lw : (Cond.lays C O f d).before a0 Z = true ∨ ((Cond.laysFinal C O f d).before a0 Z = true ∧ own = O ∧ nam = "<init>")) (wi : (Cond.instantiable C kk).before a0 Z = true) (hty : parseFieldDescriptor d = some ty) (hn : narrow ty v = v') (hf : fits ty v' = true) (ha : a ∈ ws ∨ h0.size ≤ a)
    (g : ∀ h', Wr h h' a (Jvm.RoadKit.slotOf Z O f d) v' → Wp wd p l e R s m args below meth c Z own nam bytes maxL ret n0 h0 ws Q I h' k n q1 Ls rest) : Wp wd p l e R s m args below meth c Z own nam bytes maxL ret n0 h0 ws Q I h k n pc Ls (v :: .ref a :: rest) := by
  subst hq1
  exact  lawS fun E T L vm0 B X N eT => by
    obtain ⟨T', h', X', e', W', st'⟩ := putFN X E.1 (bZ E B) (bO E B) w via eT F X0 (Lw.imp id fun q => ⟨q.1, q.2.1, E.2.2.2.2.2.1.trans q.2.2⟩) wi hty hn hf (g := mkF m pc Ls.toArray (v :: .ref a :: rest)) rfl rfl (hb E.2.1 hd)
    exact ⟨T', _, h', k, n, X', Pmt.snoc N ha, e', Nat.le_of_eq W'.size.symm, st', g h' W'⟩

theorem getstatic {q1 : Nat} {i : Nat} {R0 O f d : String} {v : Value} (hd : decode bytes pc = .ok (.getstatic i, 3)) (hq1 : pc + 3 = q1) (w : (Cond.fieldLink own i R0 f d).before a0 Z = true) (via : Via Z R0 O f d) (F : Sta Z h O f d v) (g : Wp wd p l e R s m args below meth c Z own nam bytes maxL ret n0 h0 ws Q I h k n q1 Ls (v :: st)) : Wp wd p l e R s m args below meth c Z own nam bytes maxL ret n0 h0 ws Q I h k n pc Ls st := by
  subst hq1
  exact  lawS fun E T L vm0 B X N eT => by
    obtain ⟨T', X', e', st'⟩ := getS (host := "") X E.1 (bZ E B) (bO E B) w via eT F (g := mkF m pc Ls.toArray st) rfl (hb E.2.1 hd)
    exact ⟨T', L, h, k, n, X', N, e', Nat.le_refl _, st', g⟩

theorem checkcast {q1 : Nat} {i : Nat} {K : String} {a : Addr} (hd : decode bytes pc = .ok (.checkcast i, 3)) (hq1 : pc + 3 = q1) (w : (Cond.classLink own i K).before a0 Z = true) (II : Ins Z h a K true) (g : Wp wd p l e R s m args below meth c Z own nam bytes maxL ret n0 h0 ws Q I h k n q1 Ls (.ref a :: rest)) : Wp wd p l e R s m args below meth c Z own nam bytes maxL ret n0 h0 ws Q I h k n pc Ls (.ref a :: rest) := by
  subst hq1
  exact  lawS fun E T L vm0 B X N eT => by
    obtain ⟨T', X', e', st'⟩ := castY X E.1 (bZ E B) (bO E B) w eT II (g := mkF m pc Ls.toArray (.ref a :: rest)) rfl rfl (hb E.2.1 hd)
    exact ⟨T', L, h, k, n, X', N, e', Nat.le_refl _, st', g⟩

theorem instanceofY {q1 : Nat} {i : Nat} {K : String} {a : Addr} (hd : decode bytes pc = .ok (.instanceof i, 3)) (hq1 : pc + 3 = q1) (w : (Cond.classLink own i K).before a0 Z = true) (II : Ins Z h a K true) (g : Wp wd p l e R s m args below meth c Z own nam bytes maxL ret n0 h0 ws Q I h k n q1 Ls (.int 1 :: rest)) : Wp wd p l e R s m args below meth c Z own nam bytes maxL ret n0 h0 ws Q I h k n pc Ls (.ref a :: rest) := by
  subst hq1
  exact  lawS fun E T L vm0 B X N eT => by
    obtain ⟨T', X', e', st'⟩ := instY X E.1 (bZ E B) (bO E B) w eT II (g := mkF m pc Ls.toArray (.ref a :: rest)) rfl rfl (hb E.2.1 hd)
    exact ⟨T', L, h, k, n, X', N, e', Nat.le_refl _, st', g⟩

theorem new {q1 : Nat} {i sz : Nat} {C : String} (hd : decode bytes pc = .ok (.new i, 3)) (hq1 : pc + 3 = q1) (w : (Cond.classLink own i C).before a0 Z = true) (wi : (Cond.instantiable C sz).before a0 Z = true) (wz : (Cond.initialized C).before a0 Z = true) (hk : k + 1 ≤ R.cells) (hn : n + sz ≤ R.slots)
    (g : h0.size ≤ h.size → ∀ h', Ext h h' → Exa Z h' h.size C → (∀ {O nm d : String} {ty : FieldType}, Laid Z a0 C O nm d → parseFieldDescriptor d = some ty → Fld Z h' h.size O nm d (defaultValue ty)) → Unt h' h.size → Wp wd p l e R s m args below meth c Z own nam bytes maxL ret n0 h0 ws Q I h' (k + 1) (n + sz) q1 Ls (.ref h.size :: st)) : Wp wd p l e R s m args below meth c Z own nam bytes maxL ret n0 h0 ws Q I h k n pc Ls st := by
  subst hq1
  exact  lawS fun E T L vm0 B X N eT => by
    obtain ⟨T', h', X', e', E', A', D', U', st'⟩ := newO X E.1 (bZ E B) (bO E B) w wi wz eT (g := mkF m pc Ls.toArray st) rfl (hb E.2.1 hd) hk hn
    exact ⟨T', L, h', _, _, X', N, e', E'.1, st', g (szOf E X eT) h' E' A' D' U'⟩

/-- an array: its kind, length and values -/
def Ary (Z : State) (h : Heap) (a : Addr) (ty : FieldType) (len : Nat) (f : Nat → Value) : Prop := ∃ cl : Cell, Arr Z h a cl ty ∧ cl.slots.size = len ∧ len < 2 ^ 31 ∧ ∀ i, i < len → cl.slots[i]? = some (f i)
theorem Ary.lt {h : Heap} {a : Addr} {ty : FieldType} {len : Nat} {f : Nat → Value} (A : Ary Z h a ty len f) : a < h.size := by obtain ⟨c, q, -⟩ := A; exact q.lt
theorem Ary.ext {h h' : Heap} {a : Addr} {ty : FieldType} {len : Nat} {f : Nat → Value} (A : Ary Z h a ty len f) (E : Ext h h') : Ary Z h' a ty len f := by obtain ⟨c, q, r⟩ := A; exact ⟨c, q.ext E, r⟩
theorem Ary.other {h h' : Heap} {a b : Addr} {ty : FieldType} {len sl : Nat} {f : Nat → Value} {v : Value} (A : Ary Z h a ty len f) (W : Wr h h' b sl v) (q : a ≠ b) : Ary Z h' a ty len f := by obtain ⟨c, q', r⟩ := A; exact ⟨c, q'.other W q, r⟩
theorem Ary.keep {h h' : Heap} {a : Addr} {ty : FieldType} {len : Nat} {f : Nat → Value} {ws : List Addr} (A : Ary Z h a ty len f) (K : Keep h h' ws) (q : a ∉ ws) : Ary Z h' a ty len f := by obtain ⟨c, q', r⟩ := A; exact ⟨c, ⟨K.2.1 a c q'.1 q, q'.2⟩, r⟩
theorem Ary.same {h h' : Heap} {a : Addr} {ty : FieldType} {len j : Nat} {f : Nat → Value} {v : Value} (A : Ary Z h a ty len f) (W : Wr h h' a j v) : Ary Z h' a ty len (fun i => if i = j then v else f i) := by
  obtain ⟨c, q, r1, r2, r3⟩ := A
  refine ⟨_, q.same W, by rw [sz_set]; exact r1, r2, fun i hi => ?_⟩
  by_cases e : i = j
  · subst e; simp [Cell.setSlot, r1, hi]
  · simp only [e, if_false]; rw [← r3 i hi]; exact Array.getElem?_setIfInBounds_ne (Ne.symm e)
theorem Ary.cong {h : Heap} {a : Addr} {ty : FieldType} {len : Nat} {f f' : Nat → Value} (A : Ary Z h a ty len f) (q : ∀ i, i < len → f i = f' i) : Ary Z h a ty len f' := by obtain ⟨c, q', r1, r2, r3⟩ := A; exact ⟨c, q', r1, r2, fun i hi => by rw [← q i hi]; exact r3 i hi⟩
theorem Ary.bound {h : Heap} {a : Addr} {ty : FieldType} {len : Nat} {f : Nat → Value} (A : Ary Z h a ty len f) : len < 2 ^ 31 := by obtain ⟨c, q, r1, r2, r3⟩ := A; exact r2
theorem idx_ok {j : Int32} {i len : Nat} (hj : j.toInt = (i : Int)) (hi : i < len) {cl : Cell} (r : cl.slots.size = len) : ¬ (j < 0 ∨ cl.slots.size ≤ j.toNatClampNeg) ∧ j.toNatClampNeg = i := by
  have e : j.toNatClampNeg = i := by simp [Int32.toNatClampNeg, hj]
  refine ⟨fun q => ?_, e⟩
  rcases q with q | q
  · rw [Int32.lt_iff_toInt_lt, hj] at q; simp at q; omega
  · omega
theorem len_int {len : Nat} {z : Int32} (hz : z.toInt = (len : Int)) (hl : len < 2 ^ 31) : len.toInt32 = z := Int32.toInt_inj.mp (by rw [len_toInt hl, hz])
theorem arraylength {q1 : Nat} {a : Addr} {ty : FieldType} {len : Nat} {f : Nat → Value} {z : Int32} (hd : decode bytes pc = .ok (.arraylength, 1)) (hq1 : pc + 1 = q1) (A : Ary Z h a ty len f) (hz : z.toInt = (len : Int)) (g : Wp wd p l e R s m args below meth c Z own nam bytes maxL ret n0 h0 ws Q I h k n q1 Ls (.int z :: rest)) : Wp wd p l e R s m args below meth c Z own nam bytes maxL ret n0 h0 ws Q I h k n pc Ls (.ref a :: rest) := by
  subst hq1
  exact  step g fun E T L t vm0 B X eT hr => by
    obtain ⟨cl, q, r1, r2, r3⟩ := A
    refine X.arraylength E.1 (by rw [eT]; exact q.1) (State.isArrayOf_alike (bZ E B).alike q.2.1) (g := mkF m pc Ls.toArray (.ref a :: rest)) rfl rfl (hb E.2.1 hd) _ ?_
    rw [r1, len_int hz r2]; exact hr
/-- a fresh array -/
theorem newarray {q1 : Nat} {aty : ArrayType} {N : Int32} {len cap : Nat} (hd : decode bytes pc = .ok (.newarray aty, 2)) (hq1 : pc + 2 = q1) (w : (Cond.arrayClass (newarray.typeOf aty)).before a0 Z = true) (hN : N.toInt = (len : Int)) (hcap : len ≤ cap) (hb0 : cap * 8 ≤ 536870912) (hk : k + 1 ≤ R.cells) (hn : n + cap ≤ R.slots)
    (g : h0.size ≤ h.size → ∀ h', Ext h h' → Ary Z h' h.size (newarray.typeOf aty) len (fun _ => defaultValue (newarray.typeOf aty)) → Wp wd p l e R s m args below meth c Z own nam bytes maxL ret n0 h0 ws Q I h' (k + 1) (n + cap) q1 Ls (.ref h.size :: rest)) : Wp wd p l e R s m args below meth c Z own nam bytes maxL ret n0 h0 ws Q I h k n pc Ls (.int N :: rest) := by
  subst hq1
  exact  lawS fun E T L vm0 B X NN eT => by
    have hneg : ¬ N < 0 := by rw [Int32.lt_iff_toInt_lt, hN]; simp
    have hcl : N.toNatClampNeg = len := by simp [Int32.toNatClampNeg, hN]
    obtain ⟨T', h', cA, X', e', E', A', st'⟩ := newP X E.1 (bZ E B) w eT (g := mkF m pc Ls.toArray (.int N :: rest)) rfl (hb E.2.1 hd) rfl hneg (cap := cap) (by omega) hb0 hk hn
    refine ⟨T', L, h', _, _, X', NN, e', E'.1, st', g (szOf E X eT) h' E' ⟨_, A', by rw [sz_new, hcl], by omega, fun i hi => ?_⟩⟩
    simp [newA, hcl, hi]
/-- a fresh array of references, with what may lie in it -/
def AryR (Z : State) (h : Heap) (a : Addr) (C : String) (len : Nat) (f : Nat → Value) : Prop := ∃ cl : Cell, Arr Z h a cl (.object C) ∧ Ovr Z cl.cls C ∧ cl.slots.size = len ∧ len < 2 ^ 31 ∧ ∀ i, i < len → cl.slots[i]? = some (f i)
theorem AryR.ary {h : Heap} {a : Addr} {C : String} {len : Nat} {f : Nat → Value} (A : AryR Z h a C len f) : Ary Z h a (.object C) len f := by obtain ⟨c, q, -, r⟩ := A; exact ⟨c, q, r⟩
theorem AryR.lt {h : Heap} {a : Addr} {C : String} {len : Nat} {f : Nat → Value} (A : AryR Z h a C len f) : a < h.size := A.ary.lt
theorem AryR.ext {h h' : Heap} {a : Addr} {C : String} {len : Nat} {f : Nat → Value} (A : AryR Z h a C len f) (E : Ext h h') : AryR Z h' a C len f := by obtain ⟨c, q, r⟩ := A; exact ⟨c, q.ext E, r⟩
theorem AryR.other {h h' : Heap} {a b : Addr} {C : String} {len sl : Nat} {f : Nat → Value} {v : Value} (A : AryR Z h a C len f) (W : Wr h h' b sl v) (q : a ≠ b) : AryR Z h' a C len f := by obtain ⟨c, q', r⟩ := A; exact ⟨c, q'.other W q, r⟩
theorem AryR.keep {h h' : Heap} {a : Addr} {C : String} {len : Nat} {f : Nat → Value} {ws : List Addr} (A : AryR Z h a C len f) (K : Keep h h' ws) (q : a ∉ ws) : AryR Z h' a C len f := by obtain ⟨c, q', r⟩ := A; exact ⟨c, ⟨K.2.1 a c q'.1 q, q'.2⟩, r⟩
theorem AryR.same {h h' : Heap} {a : Addr} {C : String} {len j : Nat} {f : Nat → Value} {v : Value} (A : AryR Z h a C len f) (W : Wr h h' a j v) : AryR Z h' a C len (fun i => if i = j then v else f i) := by
  obtain ⟨c, q, o, r1, r2, r3⟩ := A
  refine ⟨_, q.same W, o, by rw [sz_set]; exact r1, r2, fun i hi => ?_⟩
  by_cases e : i = j
  · subst e; simp [Cell.setSlot, r1, hi]
  · simp only [e, if_false]; rw [← r3 i hi]; exact Array.getElem?_setIfInBounds_ne (Ne.symm e)
theorem AryR.cong {h : Heap} {a : Addr} {C : String} {len : Nat} {f f' : Nat → Value} (A : AryR Z h a C len f) (q : ∀ i, i < len → f i = f' i) : AryR Z h a C len f' := by obtain ⟨c, q', o, r1, r2, r3⟩ := A; exact ⟨c, q', o, r1, r2, fun i hi => by rw [← q i hi]; exact r3 i hi⟩
theorem anewarray {q1 : Nat} {i : Nat} {C : String} {N : Int32} {len cap : Nat} (hd : decode bytes pc = .ok (.anewarray i, 3)) (hq1 : pc + 3 = q1) (w1 : (Cond.classLink own i C).before a0 Z = true) (w2 : (Cond.arrayOver (.object C)).before a0 Z = true) (hN : N.toInt = (len : Int)) (hcap : len ≤ cap) (hb0 : cap * 8 ≤ 536870912) (hk : k + 1 ≤ R.cells) (hn : n + cap ≤ R.slots)
    (g : h0.size ≤ h.size → ∀ h', Ext h h' → AryR Z h' h.size C len (fun _ => .null) → Wp wd p l e R s m args below meth c Z own nam bytes maxL ret n0 h0 ws Q I h' (k + 1) (n + cap) q1 Ls (.ref h.size :: rest)) : Wp wd p l e R s m args below meth c Z own nam bytes maxL ret n0 h0 ws Q I h k n pc Ls (.int N :: rest) := by
  subst hq1
  exact  lawS fun E T L vm0 B X NN eT => by
    have hneg : ¬ N < 0 := by rw [Int32.lt_iff_toInt_lt, hN]; simp
    have hcl : N.toNatClampNeg = len := by simp [Int32.toNatClampNeg, hN]
    obtain ⟨T', h', cA, X', e', E', A', O', st'⟩ := newR X E.1 (bZ E B) (bO E B) w1 w2 eT (g := mkF m pc Ls.toArray (.int N :: rest)) rfl (hb E.2.1 hd) rfl hneg (cap := cap) (by omega) hb0 hk hn
    refine ⟨T', L, h', _, _, X', NN, e', E'.1, st', g (szOf E X eT) h' E' ⟨_, A', O', by rw [sz_new, hcl], by omega, fun i hi => ?_⟩⟩
    simp [newA, hcl, hi, defaultValue]

theorem iaload {q1 : Nat} {a : Addr} {len i : Nat} {f : Nat → Value} {j : Int32} {v : Value} (hd : decode bytes pc = .ok (.iaload, 1)) (hq1 : pc + 1 = q1) (A : Ary Z h a .int len f) (hj : j.toInt = (i : Int)) (hi : i < len) (hv : f i = v) (g : Wp wd p l e R s m args below meth c Z own nam bytes maxL ret n0 h0 ws Q I h k n q1 Ls (v :: rest)) : Wp wd p l e R s m args below meth c Z own nam bytes maxL ret n0 h0 ws Q I h k n pc Ls (.int j :: .ref a :: rest) := by
  subst hq1
  exact  step g fun E T L t vm0 B X eT hr => by
    obtain ⟨cl, q, r1, r2, r3⟩ := A
    obtain ⟨b1, b2⟩ := idx_ok hj hi r1
    exact X.iaload E.1 (v := v) (by rw [eT]; exact q.1) (State.isArrayOf_alike (bZ E B).alike q.2.1) q.2.2 b1 (by rw [b2, r3 i hi, hv]) (g := mkF m pc Ls.toArray (.int j :: .ref a :: rest)) rfl rfl (hb E.2.1 hd) _ hr

theorem laload {q1 : Nat} {a : Addr} {len i : Nat} {f : Nat → Value} {j : Int32} {v : Value} (hd : decode bytes pc = .ok (.laload, 1)) (hq1 : pc + 1 = q1) (A : Ary Z h a .long len f) (hj : j.toInt = (i : Int)) (hi : i < len) (hv : f i = v) (g : Wp wd p l e R s m args below meth c Z own nam bytes maxL ret n0 h0 ws Q I h k n q1 Ls (v :: rest)) : Wp wd p l e R s m args below meth c Z own nam bytes maxL ret n0 h0 ws Q I h k n pc Ls (.int j :: .ref a :: rest) := by
  subst hq1
  exact  step g fun E T L t vm0 B X eT hr => by
    obtain ⟨cl, q, r1, r2, r3⟩ := A
    obtain ⟨b1, b2⟩ := idx_ok hj hi r1
    exact X.laload E.1 (v := v) (by rw [eT]; exact q.1) (State.isArrayOf_alike (bZ E B).alike q.2.1) q.2.2 b1 (by rw [b2, r3 i hi, hv]) (g := mkF m pc Ls.toArray (.int j :: .ref a :: rest)) rfl rfl (hb E.2.1 hd) _ hr

theorem caload {q1 : Nat} {a : Addr} {len i : Nat} {f : Nat → Value} {j : Int32} {v : Value} (hd : decode bytes pc = .ok (.caload, 1)) (hq1 : pc + 1 = q1) (A : Ary Z h a .char len f) (hj : j.toInt = (i : Int)) (hi : i < len) (hv : f i = v) (g : Wp wd p l e R s m args below meth c Z own nam bytes maxL ret n0 h0 ws Q I h k n q1 Ls (v :: rest)) : Wp wd p l e R s m args below meth c Z own nam bytes maxL ret n0 h0 ws Q I h k n pc Ls (.int j :: .ref a :: rest) := by
  subst hq1
  exact  step g fun E T L t vm0 B X eT hr => by
    obtain ⟨cl, q, r1, r2, r3⟩ := A
    obtain ⟨b1, b2⟩ := idx_ok hj hi r1
    exact X.caload E.1 (v := v) (by rw [eT]; exact q.1) (State.isArrayOf_alike (bZ E B).alike q.2.1) q.2.2 b1 (by rw [b2, r3 i hi, hv]) (g := mkF m pc Ls.toArray (.int j :: .ref a :: rest)) rfl rfl (hb E.2.1 hd) _ hr

theorem baload {q1 : Nat} {a : Addr} {len i : Nat} {f : Nat → Value} {j : Int32} {v : Value} (hd : decode bytes pc = .ok (.baload, 1)) (hq1 : pc + 1 = q1) (A : Ary Z h a .byte len f) (hj : j.toInt = (i : Int)) (hi : i < len) (hv : f i = v) (g : Wp wd p l e R s m args below meth c Z own nam bytes maxL ret n0 h0 ws Q I h k n q1 Ls (v :: rest)) : Wp wd p l e R s m args below meth c Z own nam bytes maxL ret n0 h0 ws Q I h k n pc Ls (.int j :: .ref a :: rest) := by
  subst hq1
  exact  step g fun E T L t vm0 B X eT hr => by
    obtain ⟨cl, q, r1, r2, r3⟩ := A
    obtain ⟨b1, b2⟩ := idx_ok hj hi r1
    exact X.baloadBytes E.1 (v := v) (by rw [eT]; exact q.1) (State.isArrayOf_alike (bZ E B).alike q.2.1) q.2.2 b1 (by rw [b2, r3 i hi, hv]) (g := mkF m pc Ls.toArray (.int j :: .ref a :: rest)) rfl rfl (hb E.2.1 hd) _ hr

theorem aaload {q1 : Nat} {a : Addr} {len i : Nat} {ty : FieldType} {f : Nat → Value} {j : Int32} {v : Value} (hd : decode bytes pc = .ok (.aaload, 1)) (hq1 : pc + 1 = q1) (A : Ary Z h a ty len f) (hty : ty.isReference = true) (hj : j.toInt = (i : Int)) (hi : i < len) (hv : f i = v) (g : Wp wd p l e R s m args below meth c Z own nam bytes maxL ret n0 h0 ws Q I h k n q1 Ls (v :: rest)) : Wp wd p l e R s m args below meth c Z own nam bytes maxL ret n0 h0 ws Q I h k n pc Ls (.int j :: .ref a :: rest) := by
  subst hq1
  exact  step g fun E T L t vm0 B X eT hr => by
    obtain ⟨cl, q, r1, r2, r3⟩ := A
    obtain ⟨b1, b2⟩ := idx_ok hj hi r1
    exact X.aaload E.1 (v := v) (by rw [eT]; exact q.1) (State.isArrayOf_alike (bZ E B).alike q.2.1) hty q.2.2 b1 (by rw [b2, r3 i hi, hv]) (g := mkF m pc Ls.toArray (.int j :: .ref a :: rest)) rfl rfl (hb E.2.1 hd) _ hr

theorem iastore {q1 : Nat} {a : Addr} {len i : Nat} {f : Nat → Value} {j : Int32} {x : Int32} (hd : decode bytes pc = .ok (.iastore, 1)) (hq1 : pc + 1 = q1) (A : Ary Z h a .int len f) (hj : j.toInt = (i : Int)) (hi : i < len) (ha : a ∈ ws ∨ h0.size ≤ a) (g : ∀ h', Wr h h' a i (.int x) → Wp wd p l e R s m args below meth c Z own nam bytes maxL ret n0 h0 ws Q I h' k n q1 Ls rest) : Wp wd p l e R s m args below meth c Z own nam bytes maxL ret n0 h0 ws Q I h k n pc Ls (.int x :: .int j :: .ref a :: rest) := by
  subst hq1
  exact  lawS fun E T L vm0 B X N eT => by
    obtain ⟨cl, q, r1, r2, r3⟩ := A
    obtain ⟨b1, b2⟩ := idx_ok hj hi r1
    obtain ⟨T', h', X', e', W', st'⟩ := stI X E.1 (bZ E B) eT q b1 (g := mkF m pc Ls.toArray (.int x :: .int j :: .ref a :: rest)) rfl rfl (hb E.2.1 hd)
    exact ⟨T', _, h', k, n, X', Pmt.snoc N ha, e', Nat.le_of_eq W'.size.symm, st', g h' (b2 ▸ W')⟩

theorem castore {q1 : Nat} {a : Addr} {len i : Nat} {f : Nat → Value} {j : Int32} {x : Int32} (hd : decode bytes pc = .ok (.castore, 1)) (hq1 : pc + 1 = q1) (A : Ary Z h a .char len f) (hj : j.toInt = (i : Int)) (hi : i < len) (ha : a ∈ ws ∨ h0.size ≤ a) (g : ∀ h', Wr h h' a i (.int (nar .char x)) → Wp wd p l e R s m args below meth c Z own nam bytes maxL ret n0 h0 ws Q I h' k n q1 Ls rest) : Wp wd p l e R s m args below meth c Z own nam bytes maxL ret n0 h0 ws Q I h k n pc Ls (.int x :: .int j :: .ref a :: rest) := by
  subst hq1
  exact  lawS fun E T L vm0 B X N eT => by
    obtain ⟨cl, q, r1, r2, r3⟩ := A
    obtain ⟨b1, b2⟩ := idx_ok hj hi r1
    obtain ⟨T', h', X', e', W', st'⟩ := stC X E.1 (bZ E B) eT q b1 (g := mkF m pc Ls.toArray (.int x :: .int j :: .ref a :: rest)) rfl rfl (hb E.2.1 hd)
    exact ⟨T', _, h', k, n, X', Pmt.snoc N ha, e', Nat.le_of_eq W'.size.symm, st', g h' (b2 ▸ W')⟩

theorem bastore {q1 : Nat} {a : Addr} {len i : Nat} {f : Nat → Value} {j : Int32} {x : Int32} (hd : decode bytes pc = .ok (.bastore, 1)) (hq1 : pc + 1 = q1) (A : Ary Z h a .byte len f) (hj : j.toInt = (i : Int)) (hi : i < len) (ha : a ∈ ws ∨ h0.size ≤ a) (g : ∀ h', Wr h h' a i (.int (nar .byte x)) → Wp wd p l e R s m args below meth c Z own nam bytes maxL ret n0 h0 ws Q I h' k n q1 Ls rest) : Wp wd p l e R s m args below meth c Z own nam bytes maxL ret n0 h0 ws Q I h k n pc Ls (.int x :: .int j :: .ref a :: rest) := by
  subst hq1
  exact  lawS fun E T L vm0 B X N eT => by
    obtain ⟨cl, q, r1, r2, r3⟩ := A
    obtain ⟨b1, b2⟩ := idx_ok hj hi r1
    obtain ⟨T', h', X', e', W', st'⟩ := stB X E.1 (bZ E B) eT q b1 (g := mkF m pc Ls.toArray (.int x :: .int j :: .ref a :: rest)) rfl rfl (hb E.2.1 hd)
    exact ⟨T', _, h', k, n, X', Pmt.snoc N ha, e', Nat.le_of_eq W'.size.symm, st', g h' (b2 ▸ W')⟩

theorem lastore {q1 : Nat} {a : Addr} {len i : Nat} {f : Nat → Value} {j : Int32} {x : Int64} (hd : decode bytes pc = .ok (.lastore, 1)) (hq1 : pc + 1 = q1) (A : Ary Z h a .long len f) (hj : j.toInt = (i : Int)) (hi : i < len) (ha : a ∈ ws ∨ h0.size ≤ a) (g : ∀ h', Wr h h' a i (.long x) → Wp wd p l e R s m args below meth c Z own nam bytes maxL ret n0 h0 ws Q I h' k n q1 Ls rest) : Wp wd p l e R s m args below meth c Z own nam bytes maxL ret n0 h0 ws Q I h k n pc Ls (.long x :: .int j :: .ref a :: rest) := by
  subst hq1
  exact  lawS fun E T L vm0 B X N eT => by
    obtain ⟨cl, q, r1, r2, r3⟩ := A
    obtain ⟨b1, b2⟩ := idx_ok hj hi r1
    obtain ⟨T', h', X', e', W', st'⟩ := stJ X E.1 (bZ E B) eT q b1 (g := mkF m pc Ls.toArray (.long x :: .int j :: .ref a :: rest)) rfl rfl (hb E.2.1 hd)
    exact ⟨T', _, h', k, n, X', Pmt.snoc N ha, e', Nat.le_of_eq W'.size.symm, st', g h' (b2 ▸ W')⟩

theorem aastore {q1 : Nat} {a : Addr} {C : String} {len i : Nat} {f : Nat → Value} {j : Int32} {v : Value} (hd : decode bytes pc = .ok (.aastore, 1)) (hq1 : pc + 1 = q1) (A : AryR Z h a C len f) (hj : j.toInt = (i : Int)) (hi : i < len) (ha : a ∈ ws ∨ h0.size ≤ a) (hS : v = .null ∨ ∃ y, v = .ref y ∧ Ins Z h y C true) (g : ∀ h', Wr h h' a i v → Wp wd p l e R s m args below meth c Z own nam bytes maxL ret n0 h0 ws Q I h' k n q1 Ls rest) : Wp wd p l e R s m args below meth c Z own nam bytes maxL ret n0 h0 ws Q I h k n pc Ls (v :: .int j :: .ref a :: rest) := by
  subst hq1
  exact  lawS fun E T L vm0 B X N eT => by
    obtain ⟨cl, q, o, r1, r2, r3⟩ := A
    obtain ⟨b1, b2⟩ := idx_ok hj hi r1
    have S : Sto Z h a v := by
      rcases hS with rfl | ⟨y, rfl, I⟩
      · exact Or.inl rfl
      · exact Sto.of q o I
    obtain ⟨T', h', X', e', W', st'⟩ := stR X E.1 (bZ E B) eT q b1 rfl S (g := mkF m pc Ls.toArray (v :: .int j :: .ref a :: rest)) rfl rfl (hb E.2.1 hd)
    exact ⟨T', _, h', k, n, X', Pmt.snoc N ha, e', Nat.le_of_eq W'.size.symm, st', g h' (b2 ▸ W')⟩

theorem initObj {q1 : Nat} {i : Nat} {a : Addr} (hd : decode bytes pc = .ok (.invokespecial i, 3)) (hq1 : pc + 3 = q1) (w1 : (Cond.methodLink own i Lib.objectInit).before a0 Z = true) (w2 : (Cond.instanceMethod Lib.objectInit).before a0 Z = true) (w3 : (Cond.code Lib.objectInit ⟨#[0xb1]⟩ 1 none).before a0 Z = true) (hL : Ls.length = maxL) (hr : (Nat.ble 1 R.frames && Nat.ble ((rest.map fun v => v.category).sum + 12) R.locals) = true) (g : Wp wd p l e R s m args below meth c Z own nam bytes maxL ret n0 h0 ws Q I h k n q1 Ls rest) : Wp wd p l e R s m args below meth c Z own nam bytes maxL ret n0 h0 ws Q I h k n pc Ls (.ref a :: rest) := by
  subst hq1
  exact  lawS fun E T L vm0 B X N eT => by
    have hr' := Bool.and_eq_true_iff.mp hr
    obtain ⟨T', X', e', st'⟩ := initO X E.1 (bZ E B) (bO E B) w1 w2 w3 eT (g := mkF m pc Ls.toArray (.ref a :: rest)) rfl (by rw [E.2.2.1, ← hL]; simp) rfl (hb E.2.1 hd) (Nat.le_of_ble_eq_true hr'.1) (W := (rest.map fun v => v.category).sum) (by show 2 * 0 + _ ≤ _; omega) (Nat.le_of_ble_eq_true hr'.2)
    exact ⟨T', L, h, k, n, X', N, e', Nat.le_refl _, st', g⟩

/-- the room that a call asks -/
def roomOk (R rm : Room) (maxL' : Nat) (rest : List Value) (k n : Nat) : Bool := Nat.ble (rm.frames + 1) R.frames && Nat.ble ((rest.map fun v => v.category).sum + (maxL' + 11) + rm.locals) R.locals && Nat.ble (k + rm.cells) R.cells && Nat.ble (n + rm.slots) R.slots
theorem roomOk_spec {R rm : Room} {maxL' k n : Nat} {rest : List Value} (h : roomOk R rm maxL' rest k n = true) : rm.frames + 1 ≤ R.frames ∧ (rest.map fun v => v.category).sum + (maxL' + 11) + rm.locals ≤ R.locals ∧ k + rm.cells ≤ R.cells ∧ n + rm.slots ≤ R.slots := by
  simp only [roomOk, Bool.and_eq_true] at h
  exact ⟨Nat.le_of_ble_eq_true h.1.1.1, Nat.le_of_ble_eq_true h.1.1.2, Nat.le_of_ble_eq_true h.1.2, Nat.le_of_ble_eq_true h.2⟩
theorem rev_eq (as r : List Value) : List.reverseAux as r = as.reverse ++ r := by simp [List.reverseAux_eq]
section Calls
variable {y : MethodName} {bytes' : ByteArray} {maxL' : Nat} {ret' : Option FieldType} {rm : Room} {as : List Value} {ws' : List Addr} {Q' : Option Value → Heap → Prop} {ps : List FieldType} {r' : Option FieldType} {i : Nat} {a : Addr}
theorem invokestatic {q1 : Nat} (hd : decode bytes pc = .ok (.invokestatic i, 3)) (hq1 : pc + 3 = q1) (w1 : (Cond.methodLink own i y).before a0 Z = true) (w2 : (Cond.static y).before a0 Z = true) (w3 : (Cond.initialized y.cls).before a0 Z = true) (w4 : (Cond.code y bytes' maxL' ret').before a0 Z = true) (hy : y.cls ≠ "java/lang/invoke/MethodHandle" ∧ y.cls ≠ "java/lang/invoke/VarHandle") (pd : parseMethodDescriptor y.desc = some ⟨ps, r'⟩)
    (C : Con l Z n0 y bytes' maxL' ret' rm as h ws' Q') (hst : st = List.reverseAux as rest) (hlen : as.length = ps.length) (hL : Ls.length = maxL) (hr : roomOk R rm maxL' rest k n = true) (hws : ∀ x ∈ ws', x ∈ ws ∨ h0.size ≤ x) (g : ∀ v h', Q' v h' → Keep h h' ws' → Wp wd p l e R s m args below meth c Z own nam bytes maxL ret n0 h0 ws Q I h' (k + rm.cells) (n + rm.slots) q1 Ls (psh v rest)) : Wp wd p l e R s m args below meth c Z own nam bytes maxL ret n0 h0 ws Q I h k n pc Ls st := by
  subst hq1
  exact  fun E T L vm0 B X N eT => by
    obtain ⟨r1, r2, r3, r4⟩ := roomOk_spec hr
    subst hst
    obtain ⟨v, vm, ⟨T1, L1, k1, n1⟩, -, X1, ⟨Lc, hQ, l1, y1, z1⟩, st1⟩ := Jvm.LawKit.callS X E.1 (bO E B) (mvT (bZ E B) w1) (mvT (bZ E B) w2) (mvT (bZ E B) w3) (mvT (bZ E B) w4) hy (backOf (Q := fun v h1 L => Q' v h1 ∧ Pmt h ws' L ∧ Keep h h1 ws') (C (oldOf E X N eT) (fun x hx => n0Of E (hws x hx)) []) (bZ E B) w4 w3 r1 r2) (g := mkF m pc Ls.toArray (List.reverseAux as rest)) rfl (by rw [E.2.2.1, ← hL]; simp) (argsL := as) (rest := rest) (lenOf pd hlen) (rev_eq as rest) (by show 2 * 0 + _ ≤ _; omega) (hb E.2.1 hd) (fun _ _ => ⟨rfl, eT, r3, r4⟩)
    dsimp only [Pt.U, Pt.locs, Pt.cells, Pt.slots] at X1 l1 y1 z1 st1 hQ
    subst l1 y1 z1
    obtain ⟨s2, o, hs, r⟩ := g v _ hQ.1 hQ.2.2 E T1 _ vm0 (bG B hQ.2.2.1) X1 (N.app (pmtOf E X eT hws hQ.2.1)) rfl
    exact ⟨s2, o, st1 _ (by rw [psh_eq]; exact hs), r⟩
theorem invokespecial {q1 : Nat} (hd : decode bytes pc = .ok (.invokespecial i, 3)) (hq1 : pc + 3 = q1) (hy1 : y.name = "<init>") (w1 : (Cond.methodLink own i y).before a0 Z = true) (w2 : (Cond.instanceMethod y).before a0 Z = true) (w3 : (Cond.initialized y.cls).before a0 Z = true) (w4 : (Cond.code y bytes' maxL' none).before a0 Z = true) (hy : y.cls ≠ "java/lang/invoke/MethodHandle" ∧ y.cls ≠ "java/lang/invoke/VarHandle") (pd : parseMethodDescriptor y.desc = some ⟨ps, r'⟩)
    (C : Con l Z n0 y bytes' maxL' none rm (.ref a :: as) h ws' Q') (hst : st = List.reverseAux as (.ref a :: rest)) (hlen : as.length = ps.length) (hL : Ls.length = maxL) (hr : roomOk R rm maxL' rest k n = true) (hws : ∀ x ∈ ws', x ∈ ws ∨ h0.size ≤ x) (g : ∀ v h', Q' v h' → Keep h h' ws' → Wp wd p l e R s m args below meth c Z own nam bytes maxL ret n0 h0 ws Q I h' (k + rm.cells) (n + rm.slots) q1 Ls (psh v rest)) : Wp wd p l e R s m args below meth c Z own nam bytes maxL ret n0 h0 ws Q I h k n pc Ls st := by
  subst hq1
  exact  fun E T L vm0 B X N eT => by
    obtain ⟨r1, r2, r3, r4⟩ := roomOk_spec hr
    subst hst
    obtain ⟨v, vm, ⟨T1, L1, k1, n1⟩, -, X1, ⟨Lc, hQ, l1, y1, z1⟩, st1⟩ := X.specialBack E.1 hy1 (bO E B) (mvT (bZ E B) w1) (mvT (bZ E B) w2) (mvT (bZ E B) w4) hy (backOf (Q := fun v h1 L => Q' v h1 ∧ Pmt h ws' L ∧ Keep h h1 ws') (C (oldOf E X N eT) (fun x hx => n0Of E (hws x hx)) []) (bZ E B) w4 w3 r1 r2) (g := mkF m pc Ls.toArray (List.reverseAux as (.ref a :: rest))) rfl (by rw [E.2.2.1, ← hL]; simp) (Steps.refl _) (a := a) (argsL := as) (rest := rest) (lenOf pd hlen) (rev_eq as _) (by show 2 * 0 + _ ≤ _; omega) (hb E.2.1 hd) (fun _ _ => ⟨rfl, eT, r3, r4⟩)
    dsimp only [Pt.U, Pt.locs, Pt.cells, Pt.slots] at X1 l1 y1 z1 st1 hQ
    subst l1 y1 z1
    obtain ⟨s2, o, hs, r⟩ := g v _ hQ.1 hQ.2.2 E T1 _ vm0 (bG B hQ.2.2.1) X1 (N.app (pmtOf E X eT hws hQ.2.1)) rfl
    exact ⟨s2, o, st1.trans (by rw [psh_eq]; exact hs), r⟩
theorem invokevirtual {q1 : Nat} {z : MethodName} {D : String} (hd : decode bytes pc = .ok (.invokevirtual i, 3)) (hq1 : pc + 3 = q1) (w1 : (Cond.methodLink own i y).before a0 Z = true) (w2 : (Cond.declares y).before a0 Z = true) (nf : ∀ vm0, Z.Warmed39 vm0 → NotFace (s.setVm vm0) y) (w3 : (Cond.selects D y z).before a0 Z = true) (w4 : (Cond.instanceMethod z).before a0 Z = true) (w5 : (Cond.initialized z.cls).before a0 Z = true) (w6 : (Cond.code z bytes' maxL' ret').before a0 Z = true) (hy : y.cls ≠ "java/lang/invoke/MethodHandle" ∧ y.cls ≠ "java/lang/invoke/VarHandle") (pd : parseMethodDescriptor y.desc = some ⟨ps, r'⟩)
    (X0 : Exa Z h a D) (C : Con l Z n0 z bytes' maxL' ret' rm (.ref a :: as) h ws' Q') (hst : st = List.reverseAux as (.ref a :: rest)) (hlen : as.length = ps.length) (hL : Ls.length = maxL) (hr : roomOk R rm maxL' rest k n = true) (hws : ∀ x ∈ ws', x ∈ ws ∨ h0.size ≤ x) (g : ∀ v h', Q' v h' → Keep h h' ws' → Wp wd p l e R s m args below meth c Z own nam bytes maxL ret n0 h0 ws Q I h' (k + rm.cells) (n + rm.slots) q1 Ls (psh v rest)) : Wp wd p l e R s m args below meth c Z own nam bytes maxL ret n0 h0 ws Q I h k n pc Ls st := by
  subst hq1
  exact  fun E T L vm0 B X N eT => by
    obtain ⟨r1, r2, r3, r4⟩ := roomOk_spec hr
    subst hst
    obtain ⟨cq, kq, qa, qb, qc⟩ := isOf (bZ E B) eT X0
    obtain ⟨v, vm, ⟨T1, L1, k1, n1⟩, -, X1, ⟨Lc, hQ, l1, y1, z1⟩, st1⟩ := X.virtualBack E.1 (bO E B) (mvT (bZ E B) w1) (mvT (bZ E B) w2) (nf vm0 (bZ E B)) (mvT (bZ E B) w3) (mvT (bZ E B) w4) hy (backOf (Q := fun v h1 L => Q' v h1 ∧ Pmt h ws' L ∧ Keep h h1 ws') (C (oldOf E X N eT) (fun x hx => n0Of E (hws x hx)) []) (bZ E B) w6 w5 r1 r2) qa qc (g := mkF m pc Ls.toArray (List.reverseAux as (.ref a :: rest))) rfl (by rw [E.2.2.1, ← hL]; simp) (Steps.refl _) (argsL := as) (rest := rest) (lenOf pd hlen) (rev_eq as _) (by show 2 * 0 + _ ≤ _; omega) (hb E.2.1 hd) (fun _ _ => ⟨rfl, eT, r3, r4⟩)
    dsimp only [Pt.U, Pt.locs, Pt.cells, Pt.slots] at X1 l1 y1 z1 st1 hQ
    subst l1 y1 z1
    obtain ⟨s2, o, hs, r⟩ := g v _ hQ.1 hQ.2.2 E T1 _ vm0 (bG B hQ.2.2.1) X1 (N.app (pmtOf E X eT hws hQ.2.1)) rfl
    exact ⟨s2, o, st1.trans (by rw [psh_eq]; exact hs), r⟩
/-- the method that the entry names is the one that is run -/
theorem invokevirt {q1 : Nat} (hd : decode bytes pc = .ok (.invokevirtual i, 3)) (hq1 : pc + 3 = q1) (w1 : (Cond.methodLink own i y).before a0 Z = true) (w2 : (Cond.declares y).before a0 Z = true) {D : String} (w3 : (Cond.selects D y y).before a0 Z = true) (w4 : (Cond.instanceMethod y).before a0 Z = true) (w5 : (Cond.initialized y.cls).before a0 Z = true) (w6 : (Cond.code y bytes' maxL' ret').before a0 Z = true) (hy : y.cls ≠ "java/lang/invoke/MethodHandle" ∧ y.cls ≠ "java/lang/invoke/VarHandle") (pd : parseMethodDescriptor y.desc = some ⟨ps, r'⟩)
    (X0 : Exa Z h a D) (C : Con l Z n0 y bytes' maxL' ret' rm (.ref a :: as) h ws' Q') (hst : st = List.reverseAux as (.ref a :: rest)) (hlen : as.length = ps.length) (hL : Ls.length = maxL) (hr : roomOk R rm maxL' rest k n = true) (hws : ∀ x ∈ ws', x ∈ ws ∨ h0.size ≤ x) (g : ∀ v h', Q' v h' → Keep h h' ws' → Wp wd p l e R s m args below meth c Z own nam bytes maxL ret n0 h0 ws Q I h' (k + rm.cells) (n + rm.slots) q1 Ls (psh v rest)) : Wp wd p l e R s m args below meth c Z own nam bytes maxL ret n0 h0 ws Q I h k n pc Ls st := by
  subst hq1
  exact  invokevirtual hd rfl w1 w2 (fun vm0 hz => notFace_of_selects (args := #[]) (mvT (s := s.setVm vm0) hz w3)) w3 w4 w5 w6 hy pd X0 C hst hlen hL hr hws g
end Calls
/-! the end -/
theorem ret_v (hd : decode bytes pc = .ok (.return_, 1)) (hret : ret = none) (hr : (Nat.ble k R.cells && Nat.ble n R.slots) = true) (hQ : Q none h) : Wp wd p l e R s m args below meth c Z own nam bytes maxL ret n0 h0 ws Q I h k n pc Ls [] := fun E T L vm0 B X N eT => by
  have hr' := Bool.and_eq_true_iff.mp hr
  obtain ⟨fs, hrr, hrun, hended, hW, hsame⟩ := X.leave (v := none) (fun _ => rfl) E.2.2.2.2.2.2.2.1
  refine ⟨_, _, ?_, hrun, hended, _, _, rfl, ⟨?_, N⟩, endOf E B ⟨_, rfl⟩ hW hsame eT (Nat.le_of_ble_eq_true hr'.1) (Nat.le_of_ble_eq_true hr'.2)⟩
  · exact X.returnOut E.1 (E.2.2.2.2.2.2.1.trans hret) (hb E.2.1 hd) hrr
  · show Q none T.heap
    rw [eT]; exact hQ
theorem ret_w {w : Value} {t : FieldType} {ii : Instr} (hd : decode bytes pc = .ok (ii, 1)) (hret : ret = some t) (hn : narrow t w = w)
    (hi : (ii = .ireturn ∧ (t = .int ∨ t = .boolean ∨ t = .byte ∨ t = .char ∨ t = .short) ∧ ∃ z, w = .int z) ∨ (ii = .lreturn ∧ t = .long ∧ ∃ z, w = .long z) ∨ (ii = .dreturn ∧ t = .double ∧ ∃ z, w = .double z) ∨ (ii = .freturn ∧ t = .float ∧ ∃ z, w = .float z) ∨ (ii = .areturn ∧ t.isReference = true ∧ w.isRef = true))
    (hr : (Nat.ble k R.cells && Nat.ble n R.slots) = true) (hQ : Q (some w) h) : Wp wd p l e R s m args below meth c Z own nam bytes maxL ret n0 h0 ws Q I h k n pc Ls (w :: rest) := fun E T L vm0 B X N eT => by
  have hr' := Bool.and_eq_true_iff.mp hr
  obtain ⟨fs, hrr, hrun, hended, hW, hsame⟩ := X.leave (v := some w) (fun h => by rw [E.2.2.2.2.2.2.1, hret] at h; cases h) E.2.2.2.2.2.2.2.1
  refine ⟨_, _, ?_, hrun, hended, _, _, rfl, ⟨?_, N⟩, endOf E B ⟨_, rfl⟩ hW hsame eT (Nat.le_of_ble_eq_true hr'.1) (Nat.le_of_ble_eq_true hr'.2)⟩
  · exact retOut X E.1 (E.2.2.2.2.2.2.1.trans hret) hn hi (hb E.2.1 hd) hrr
  · show Q _ T.heap
    rw [eT]; exact hQ
theorem ret_i {x : Int32} (hd : decode bytes pc = .ok (.ireturn, 1)) (hret : ret = some .int) (hr : (Nat.ble k R.cells && Nat.ble n R.slots) = true) (hQ : Q (some (.int x)) h) : Wp wd p l e R s m args below meth c Z own nam bytes maxL ret n0 h0 ws Q I h k n pc Ls (.int x :: rest) :=
  ret_w hd hret rfl (Or.inl ⟨rfl, Or.inl rfl, x, rfl⟩) hr hQ
theorem ret_l {x : Int64} (hd : decode bytes pc = .ok (.lreturn, 1)) (hret : ret = some .long) (hr : (Nat.ble k R.cells && Nat.ble n R.slots) = true) (hQ : Q (some (.long x)) h) : Wp wd p l e R s m args below meth c Z own nam bytes maxL ret n0 h0 ws Q I h k n pc Ls (.long x :: rest) :=
  ret_w hd hret rfl (Or.inr (Or.inl ⟨rfl, rfl, x, rfl⟩)) hr hQ
theorem ret_a {w : Value} {t : FieldType} (hd : decode bytes pc = .ok (.areturn, 1)) (hret : ret = some t) (ht : t.isReference = true) (hw : w.isRef = true) (hr : (Nat.ble k R.cells && Nat.ble n R.slots) = true) (hQ : Q (some w) h) : Wp wd p l e R s m args below meth c Z own nam bytes maxL ret n0 h0 ws Q I h k n pc Ls (w :: rest) :=
  ret_w hd hret (by cases t <;> first | (cases ht; done) | (cases w <;> first | rfl | (cases hw; done))) (Or.inr (Or.inr (Or.inr (Or.inr ⟨rfl, ht, hw⟩)))) hr hQ
theorem ret_n {x : Int32} {t : FieldType} (hd : decode bytes pc = .ok (.ireturn, 1)) (hret : ret = some t) (ht : t = .boolean ∨ t = .byte ∨ t = .char ∨ t = .short) (hr : (Nat.ble k R.cells && Nat.ble n R.slots) = true) (hQ : Q (some (.int (nar t x))) h) : Wp wd p l e R s m args below meth c Z own nam bytes maxL ret n0 h0 ws Q I h k n pc Ls (.int x :: rest) := fun E T L vm0 B X N eT => by
  have hr' := Bool.and_eq_true_iff.mp hr
  obtain ⟨fs, hrr, hrun, hended, hW, hsame⟩ := X.leave (v := some (.int (nar t x))) (fun h => by rw [E.2.2.2.2.2.2.1, hret] at h; cases h) E.2.2.2.2.2.2.2.1
  refine ⟨_, _, ?_, hrun, hended, _, _, rfl, ⟨?_, N⟩, endOf E B ⟨_, rfl⟩ hW hsame eT (Nat.le_of_ble_eq_true hr'.1) (Nat.le_of_ble_eq_true hr'.2)⟩
  · exact retN X E.1 (E.2.2.2.2.2.2.1.trans hret) ht (hb E.2.1 hd) hrr
  · show Q _ T.heap
    rw [eT]; exact hQ
end Walk
end Jvm.OwnWp
namespace Jvm.Pilot.@@N@@
open Jvm Jvm.ClassFile Sem Op Lib Jvm.Free Jvm.Stand Jvm.LawKit Jvm.RoadKit Jvm.OwnWp Bundle Jvm.Pilot.@@N@@.Jvm.D
theorem ww {Z : State} {a0 : Array Value} (hw : ∀ d ∈ tables_1, d.before a0 Z = true) (i : Nat) {d : Jvm.Cond} (h : tables_1[i]? = some d) : d.before a0 Z = true := hw d (List.mem_of_getElem? h)
theorem pd0 : parseMethodDescriptor "([C)V" = some ⟨[(.array .char)], none⟩ := by decide +kernel
theorem pd1 : parseMethodDescriptor "([CIILjava/lang/Void;)V" = some ⟨[(.array .char), .int, .int, (.object "java/lang/Void")], none⟩ := by decide +kernel
theorem pd2 : parseMethodDescriptor "()V" = some ⟨[], none⟩ := by decide +kernel
theorem pd3 : parseMethodDescriptor "([CII)[B" = some ⟨[(.array .char), .int, .int], some (.array .byte)⟩ := by decide +kernel
theorem pd4 : parseMethodDescriptor "([CI[BII)I" = some ⟨[(.array .char), .int, (.array .byte), .int, .int], some .int⟩ := by decide +kernel
theorem pd5 : parseMethodDescriptor "([BI)B" = some ⟨[(.array .byte), .int], some .byte⟩ := by decide +kernel
theorem pd6 : parseMethodDescriptor "(ILjava/lang/String;II)V" = some ⟨[.int, (.object "java/lang/String"), .int, .int], none⟩ := by decide +kernel
theorem pd7 : parseMethodDescriptor "(II)I" = some ⟨[.int, .int], some .int⟩ := by decide +kernel
theorem pd8 : parseMethodDescriptor "(I)V" = some ⟨[.int], none⟩ := by decide +kernel
theorem pd9 : parseMethodDescriptor "(I)Ljava/lang/String;" = some ⟨[.int], some (.object "java/lang/String")⟩ := by decide +kernel
theorem pd10 : parseMethodDescriptor "(I)I" = some ⟨[.int], some .int⟩ := by decide +kernel
theorem pd11 : parseMethodDescriptor "()I" = some ⟨[], some .int⟩ := by decide +kernel
theorem own_succ {j : Int32} {i : Nat} (h : j.toInt = (i : Int)) (hb : i < 2147483647) : (j + 1).toInt = ((i + 1 : Nat) : Int) := by
  have e : (1 : Int32).toInt = 1 := rfl
  rw [XT.add32 (by rw [h, e]; constructor <;> omega), h, e]; omega
theorem own_lt {x y : Int32} : x < y ↔ x.toInt < y.toInt := Int32.lt_iff_toInt_lt
theorem own_eq {x y : Int32} (h : x.toInt = y.toInt) : x = y := Int32.toInt_inj.mp h
theorem own_b8 (x : Int32) : nar .byte (x.toInt8.toInt32) = x.toInt8.toInt32 := by simp [nar]
theorem own_and255 (x : Int32) : ∃ n : Nat, (x &&& 255).toInt = (n : Int) ∧ n < 256 := by
  have h := c_mask x 255 8 (by decide) (by decide)
  refine ⟨(x &&& 255).toInt.toNat, ?_, ?_⟩ <;> omega
theorem own_c8 (x : Int32) : nar .char ((x &&& 255).toUInt32.toUInt16.toUInt32.toInt32) = x &&& 255 := by
  rw [i2c_mask]; exact i2c_mask x
theorem own_le255 (x : Int32) : ¬ (255 : Int32) < x &&& 255 := by
  obtain ⟨n, h1, h2⟩ := own_and255 x
  rw [own_lt, h1]; have : (255 : Int32).toInt = 255 := rfl; omega
theorem own_in1 {a : Addr} : ∀ {L : List Addr}, a ∈ a :: L := List.mem_cons_self
theorem d1_0 : decode jdk_42_method_3_code 0 = .ok (.aload_n 0, 1) := by decide +kernel
theorem d1_1 : decode jdk_42_method_3_code 1 = .ok (.aload_n 1, 1) := by decide +kernel
theorem d1_2 : decode jdk_42_method_3_code 2 = .ok (.iconst 0, 1) := by decide +kernel
theorem d1_3 : decode jdk_42_method_3_code 3 = .ok (.aload_n 1, 1) := by decide +kernel
theorem d1_4 : decode jdk_42_method_3_code 4 = .ok (.arraylength, 1) := by decide +kernel
theorem d1_5 : decode jdk_42_method_3_code 5 = .ok (.aconst_null, 1) := by decide +kernel
theorem d1_6 : decode jdk_42_method_3_code 6 = .ok (.invokespecial 27, 3) := by decide +kernel
theorem d1_9 : decode jdk_42_method_3_code 9 = .ok (.return_, 1) := by decide +kernel
theorem d2_0 : decode jdk_42_method_149_code 0 = .ok (.aload_n 0, 1) := by decide +kernel
theorem d2_1 : decode jdk_42_method_149_code 1 = .ok (.invokespecial 1, 3) := by decide +kernel
theorem d2_4 : decode jdk_42_method_149_code 4 = .ok (.iload_n 3, 1) := by decide +kernel
theorem d2_5 : decode jdk_42_method_149_code 5 = .ok (.ifCond .ne 22, 3) := by decide +kernel
theorem d2_8 : decode jdk_42_method_149_code 8 = .ok (.aload_n 0, 1) := by decide +kernel
theorem d2_9 : decode jdk_42_method_149_code 9 = .ok (.ldc 7, 2) := by decide +kernel
theorem d2_11 : decode jdk_42_method_149_code 11 = .ok (.getfield 9, 3) := by decide +kernel
theorem d2_14 : decode jdk_42_method_149_code 14 = .ok (.putfield 9, 3) := by decide +kernel
theorem d2_17 : decode jdk_42_method_149_code 17 = .ok (.aload_n 0, 1) := by decide +kernel
theorem d2_18 : decode jdk_42_method_149_code 18 = .ok (.ldc 7, 2) := by decide +kernel
theorem d2_20 : decode jdk_42_method_149_code 20 = .ok (.getfield 15, 3) := by decide +kernel
theorem d2_23 : decode jdk_42_method_149_code 23 = .ok (.putfield 15, 3) := by decide +kernel
theorem d2_26 : decode jdk_42_method_149_code 26 = .ok (.return_, 1) := by decide +kernel
theorem d2_27 : decode jdk_42_method_149_code 27 = .ok (.getstatic 38, 3) := by decide +kernel
theorem d2_30 : decode jdk_42_method_149_code 30 = .ok (.ifCond .eq 28, 3) := by decide +kernel
theorem d2_33 : decode jdk_42_method_149_code 33 = .ok (.aload_n 1, 1) := by decide +kernel
theorem d2_34 : decode jdk_42_method_149_code 34 = .ok (.iload_n 2, 1) := by decide +kernel
theorem d2_35 : decode jdk_42_method_149_code 35 = .ok (.iload_n 3, 1) := by decide +kernel
theorem d2_36 : decode jdk_42_method_149_code 36 = .ok (.invokestatic 177, 3) := by decide +kernel
theorem d2_39 : decode jdk_42_method_149_code 39 = .ok (.astore 5, 2) := by decide +kernel
theorem d2_41 : decode jdk_42_method_149_code 41 = .ok (.aload_n 0, 1) := by decide +kernel
theorem d2_42 : decode jdk_42_method_149_code 42 = .ok (.aload 5, 2) := by decide +kernel
theorem d2_44 : decode jdk_42_method_149_code 44 = .ok (.iload_n 3, 1) := by decide +kernel
theorem d2_45 : decode jdk_42_method_149_code 45 = .ok (.invokestatic 47, 3) := by decide +kernel
theorem d2_48 : decode jdk_42_method_149_code 48 = .ok (.putfield 15, 3) := by decide +kernel
theorem d2_51 : decode jdk_42_method_149_code 51 = .ok (.aload_n 0, 1) := by decide +kernel
theorem d2_52 : decode jdk_42_method_149_code 52 = .ok (.aload 5, 2) := by decide +kernel
theorem d2_54 : decode jdk_42_method_149_code 54 = .ok (.putfield 9, 3) := by decide +kernel
theorem d2_57 : decode jdk_42_method_149_code 57 = .ok (.return_, 1) := by decide +kernel
theorem d2_58 : decode jdk_42_method_149_code 58 = .ok (.aload_n 0, 1) := by decide +kernel
theorem d2_59 : decode jdk_42_method_149_code 59 = .ok (.iconst 1, 1) := by decide +kernel
theorem d2_60 : decode jdk_42_method_149_code 60 = .ok (.putfield 15, 3) := by decide +kernel
theorem d2_63 : decode jdk_42_method_149_code 63 = .ok (.aload_n 0, 1) := by decide +kernel
theorem d2_64 : decode jdk_42_method_149_code 64 = .ok (.aload_n 1, 1) := by decide +kernel
theorem d2_65 : decode jdk_42_method_149_code 65 = .ok (.iload_n 2, 1) := by decide +kernel
theorem d2_66 : decode jdk_42_method_149_code 66 = .ok (.iload_n 3, 1) := by decide +kernel
theorem d2_67 : decode jdk_42_method_149_code 67 = .ok (.invokestatic 180, 3) := by decide +kernel
theorem d2_70 : decode jdk_42_method_149_code 70 = .ok (.putfield 9, 3) := by decide +kernel
theorem d2_73 : decode jdk_42_method_149_code 73 = .ok (.return_, 1) := by decide +kernel
theorem d4_0 : decode jdk_52_method_16_code 0 = .ok (.iload_n 2, 1) := by decide +kernel
theorem d4_1 : decode jdk_52_method_16_code 1 = .ok (.newarray .byte, 2) := by decide +kernel
theorem d4_3 : decode jdk_52_method_16_code 3 = .ok (.astore_n 3, 1) := by decide +kernel
theorem d4_4 : decode jdk_52_method_16_code 4 = .ok (.aload_n 0, 1) := by decide +kernel
theorem d4_5 : decode jdk_52_method_16_code 5 = .ok (.iload_n 1, 1) := by decide +kernel
theorem d4_6 : decode jdk_52_method_16_code 6 = .ok (.aload_n 3, 1) := by decide +kernel
theorem d4_7 : decode jdk_52_method_16_code 7 = .ok (.iconst 0, 1) := by decide +kernel
theorem d4_8 : decode jdk_52_method_16_code 8 = .ok (.iload_n 2, 1) := by decide +kernel
theorem d4_9 : decode jdk_52_method_16_code 9 = .ok (.invokestatic 115, 3) := by decide +kernel
theorem d4_12 : decode jdk_52_method_16_code 12 = .ok (.istore 4, 2) := by decide +kernel
theorem d4_14 : decode jdk_52_method_16_code 14 = .ok (.iload 4, 2) := by decide +kernel
theorem d4_16 : decode jdk_52_method_16_code 16 = .ok (.iload_n 2, 1) := by decide +kernel
theorem d4_17 : decode jdk_52_method_16_code 17 = .ok (.if_icmp .eq 40, 3) := by decide +kernel
theorem d4_20 : decode jdk_52_method_16_code 20 = .ok (.aload_n 0, 1) := by decide +kernel
theorem d4_21 : decode jdk_52_method_16_code 21 = .ok (.iload_n 1, 1) := by decide +kernel
theorem d4_22 : decode jdk_52_method_16_code 22 = .ok (.iload_n 2, 1) := by decide +kernel
theorem d4_23 : decode jdk_52_method_16_code 23 = .ok (.invokestatic 119, 3) := by decide +kernel
theorem d4_26 : decode jdk_52_method_16_code 26 = .ok (.astore 5, 2) := by decide +kernel
theorem d4_28 : decode jdk_52_method_16_code 28 = .ok (.aload 5, 2) := by decide +kernel
theorem d4_30 : decode jdk_52_method_16_code 30 = .ok (.iload 4, 2) := by decide +kernel
theorem d4_32 : decode jdk_52_method_16_code 32 = .ok (.invokestatic 71, 3) := by decide +kernel
theorem d4_35 : decode jdk_52_method_16_code 35 = .ok (.sipush 255, 3) := by decide +kernel
theorem d4_38 : decode jdk_52_method_16_code 38 = .ok (.if_icmp .gt 16, 3) := by decide +kernel
theorem d4_41 : decode jdk_52_method_16_code 41 = .ok (.aload 5, 2) := by decide +kernel
theorem d4_43 : decode jdk_52_method_16_code 43 = .ok (.iconst 0, 1) := by decide +kernel
theorem d4_44 : decode jdk_52_method_16_code 44 = .ok (.aload_n 3, 1) := by decide +kernel
theorem d4_45 : decode jdk_52_method_16_code 45 = .ok (.iconst 0, 1) := by decide +kernel
theorem d4_46 : decode jdk_52_method_16_code 46 = .ok (.iload_n 2, 1) := by decide +kernel
theorem d4_47 : decode jdk_52_method_16_code 47 = .ok (.invokestatic 123, 3) := by decide +kernel
theorem d4_50 : decode jdk_52_method_16_code 50 = .ok (.iload_n 2, 1) := by decide +kernel
theorem d4_51 : decode jdk_52_method_16_code 51 = .ok (.if_icmp .eq 6, 3) := by decide +kernel
theorem d4_54 : decode jdk_52_method_16_code 54 = .ok (.aload 5, 2) := by decide +kernel
theorem d4_56 : decode jdk_52_method_16_code 56 = .ok (.areturn, 1) := by decide +kernel
theorem d4_57 : decode jdk_52_method_16_code 57 = .ok (.aload_n 3, 1) := by decide +kernel
theorem d4_58 : decode jdk_52_method_16_code 58 = .ok (.areturn, 1) := by decide +kernel
theorem d5_0 : decode jdk_52_method_21_code 0 = .ok (.iconst 0, 1) := by decide +kernel
theorem d5_1 : decode jdk_52_method_21_code 1 = .ok (.istore 5, 2) := by decide +kernel
theorem d5_3 : decode jdk_52_method_21_code 3 = .ok (.iload 5, 2) := by decide +kernel
theorem d5_5 : decode jdk_52_method_21_code 5 = .ok (.iload 4, 2) := by decide +kernel
theorem d5_7 : decode jdk_52_method_21_code 7 = .ok (.if_icmp .ge 37, 3) := by decide +kernel
theorem d5_10 : decode jdk_52_method_21_code 10 = .ok (.aload_n 0, 1) := by decide +kernel
theorem d5_11 : decode jdk_52_method_21_code 11 = .ok (.iload_n 1, 1) := by decide +kernel
theorem d5_12 : decode jdk_52_method_21_code 12 = .ok (.caload, 1) := by decide +kernel
theorem d5_13 : decode jdk_52_method_21_code 13 = .ok (.istore 6, 2) := by decide +kernel
theorem d5_15 : decode jdk_52_method_21_code 15 = .ok (.iload 6, 2) := by decide +kernel
theorem d5_17 : decode jdk_52_method_21_code 17 = .ok (.sipush 255, 3) := by decide +kernel
theorem d5_20 : decode jdk_52_method_21_code 20 = .ok (.if_icmp .le 6, 3) := by decide +kernel
theorem d5_23 : decode jdk_52_method_21_code 23 = .ok (.iload 5, 2) := by decide +kernel
theorem d5_25 : decode jdk_52_method_21_code 25 = .ok (.ireturn, 1) := by decide +kernel
theorem d5_26 : decode jdk_52_method_21_code 26 = .ok (.aload_n 2, 1) := by decide +kernel
theorem d5_27 : decode jdk_52_method_21_code 27 = .ok (.iload_n 3, 1) := by decide +kernel
theorem d5_28 : decode jdk_52_method_21_code 28 = .ok (.iload 6, 2) := by decide +kernel
theorem d5_30 : decode jdk_52_method_21_code 30 = .ok (.i2b, 1) := by decide +kernel
theorem d5_31 : decode jdk_52_method_21_code 31 = .ok (.bastore, 1) := by decide +kernel
theorem d5_32 : decode jdk_52_method_21_code 32 = .ok (.iinc 1 1, 3) := by decide +kernel
theorem d5_35 : decode jdk_52_method_21_code 35 = .ok (.iinc 3 1, 3) := by decide +kernel
theorem d5_38 : decode jdk_52_method_21_code 38 = .ok (.iinc 5 1, 3) := by decide +kernel
theorem d5_41 : decode jdk_52_method_21_code 41 = .ok (.goto (-38), 3) := by decide +kernel
theorem d5_44 : decode jdk_52_method_21_code 44 = .ok (.iload 4, 2) := by decide +kernel
theorem d5_46 : decode jdk_52_method_21_code 46 = .ok (.ireturn, 1) := by decide +kernel
theorem d6_0 : decode jdk_52_method_15_code 0 = .ok (.iload_n 1, 1) := by decide +kernel
theorem d6_1 : decode jdk_52_method_15_code 1 = .ok (.aload_n 0, 1) := by decide +kernel
theorem d6_2 : decode jdk_52_method_15_code 2 = .ok (.arraylength, 1) := by decide +kernel
theorem d6_3 : decode jdk_52_method_15_code 3 = .ok (.isub, 1) := by decide +kernel
theorem d6_4 : decode jdk_52_method_15_code 4 = .ok (.bipush 31, 2) := by decide +kernel
theorem d6_6 : decode jdk_52_method_15_code 6 = .ok (.iushr, 1) := by decide +kernel
theorem d6_7 : decode jdk_52_method_15_code 7 = .ok (.i2b, 1) := by decide +kernel
theorem d6_8 : decode jdk_52_method_15_code 8 = .ok (.ireturn, 1) := by decide +kernel
/-- chars of which none is above 255 -/
def Lat (cf : Nat → Int32) (len : Nat) : Prop := ∀ i, i < len → ¬ (255 : Int32) < cf i
set_option maxRecDepth 65536 in
set_option maxHeartbeats 40000000 in
theorem c_cm5 {l : Launch} {Z : State} {a0 : Array Value} (hw : ∀ d ∈ tables_1, d.before a0 Z = true) {n0 : Nat} {h0 : Heap} {vb db : Addr} {len : Nat} {lenI : Int32} {cf : Nat → Int32} (hlen : lenI.toInt = (len : Int)) (V : Ary Z h0 vb .char len (fun i => .int (cf i))) (B : Ary Z h0 db .byte len (fun _ => .int 0)) (hne : vb ≠ db) (hc : Lat cf len) : Con l Z n0 (⟨"java/lang/StringUTF16", "compress", "([CI[BII)I"⟩ : MethodName) jdk_52_method_21_code 7 (some .int) ({ frames := 0, cells := 0, slots := 0, locals := 0 } : Room) [.ref vb, .int 0, .ref db, .int 0, .int lenI] h0 [db] (fun v h' => v = some (.int lenI) ∧ Ary Z h' db .byte len (fun t => .int (cf t).toInt8.toInt32)) := by
  refine Con.of (Ls := [.val (.ref vb), .val (.int 0), .val (.ref db), .val (.int 0), .val (.int lenI), .unset, .unset]) (by decide +kernel) (fun m => by first | rfl | simp [entryFrame, mkF, argsToLocals, Value.category]) (fun p e s m below meth c => ?_)
  show Wp false p l e ({ frames := 0, cells := 0, slots := 0, locals := 0 } : Room) s m ([.ref vb, .int 0, .ref db, .int 0, .int lenI] : List Value).toArray below meth c Z "java/lang/StringUTF16" "compress" jdk_52_method_21_code 7 (some .int) n0 h0 [db] (fun v h' => v = some (.int lenI) ∧ Ary Z h' db .byte len (fun t => .int (cf t).toInt8.toInt32)) (fun _ => True) h0 0 0 0 [.val (.ref vb), .val (.int 0), .val (.ref db), .val (.int 0), .val (.int lenI), .unset, .unset] []
  have hb := V.bound
  have loop : ∀ (r i : Nat) (j : Int32) (h : Heap) (o6 : Slot), i + r = len → j.toInt = (i : Int) → oneB o6 = true → Ary Z h db .byte len (fun t => if t < i then .int (cf t).toInt8.toInt32 else .int 0) → Wp false p l e ({ frames := 0, cells := 0, slots := 0, locals := 0 } : Room) s m ([.ref vb, .int 0, .ref db, .int 0, .int lenI] : List Value).toArray below meth c Z "java/lang/StringUTF16" "compress" jdk_52_method_21_code 7 (some .int) n0 h0 [db] (fun v h' => v = some (.int lenI) ∧ Ary Z h' db .byte len (fun t => .int (cf t).toInt8.toInt32)) (fun _ => True) h 0 0 3 [.val (.ref vb), .val (.int j), .val (.ref db), .val (.int j), .val (.int lenI), .val (.int j), o6] [] := by
    intro r
    induction r with
    | zero =>
      intro i j h o6 hi hj ho A
      refine iload (q1 := 5) d5_3 rfl rfl ?_
      refine iload (q1 := 7) d5_5 rfl rfl ?_
      refine icmp_ge (q1 := 10) (q := 44) d5_7 rfl ⟨by decide, rfl⟩ (fun hc => ?_) (fun hc => ?_)
      · refine iload (q1 := 46) d5_44 rfl rfl ?_
        refine ret_i d5_46 rfl rfl ?_
        exact ⟨rfl, A.cong fun t ht => by simp [show t < i by omega]⟩
      · exact absurd hc (by rw [own_lt, hj, hlen]; omega)
    | succ r ih =>
      intro i j h o6 hi hj ho A
      refine iload (q1 := 5) d5_3 rfl rfl ?_
      refine iload (q1 := 7) d5_5 rfl rfl ?_
      refine icmp_ge (q1 := 10) (q := 44) d5_7 rfl ⟨by decide, rfl⟩ (fun hc => absurd (show j < lenI by rw [own_lt, hj, hlen]; omega) hc) (fun _ => ?_)
      refine kept fun K O => ?_
      refine aload_n (q1 := 11) d5_10 rfl rfl rfl ?_
      refine iload_n (q1 := 12) d5_11 rfl rfl ?_
      refine caload (q1 := 13) d5_12 rfl (V.keep K (ninS hne nin0)) hj (show i < len by omega) rfl ?_
      refine istore (q1 := 15) d5_13 rfl ho ?_
      simp only [List.set_cons_zero, List.set_cons_succ]
      refine iload (q1 := 17) d5_15 rfl rfl ?_
      refine sipush (q1 := 20) (v := 255) d5_17 rfl rfl ?_
      refine icmp_le (q1 := 23) (q := 26) d5_20 rfl ⟨by decide, rfl⟩ (fun _ => ?_) (fun hq => absurd hq (hc i (by omega)))
      refine aload_n (q1 := 27) d5_26 rfl rfl rfl ?_
      refine iload_n (q1 := 28) d5_27 rfl rfl ?_
      refine iload (q1 := 30) d5_28 rfl rfl ?_
      refine i2b (q1 := 31) d5_30 rfl ?_
      refine bastore (q1 := 32) d5_31 rfl (A) hj (show i < len by omega) (Or.inl (List.mem_singleton.mpr rfl)) (fun h31 W31 => ?_)
      refine iinc (q1 := 35) (v := 1) d5_32 rfl rfl rfl ?_
      simp only [List.set_cons_zero, List.set_cons_succ]
      refine iinc (q1 := 38) (v := 1) d5_35 rfl rfl rfl ?_
      simp only [List.set_cons_zero, List.set_cons_succ]
      refine iinc (q1 := 41) (v := 1) d5_38 rfl rfl rfl ?_
      simp only [List.set_cons_zero, List.set_cons_succ]
      refine goto (q := 3) d5_41 ⟨by decide, rfl⟩ ?_
      refine ih (i + 1) (j + 1) h31 _ (by omega) (own_succ hj (by omega)) rfl ((A.same W31).cong fun t ht => ?_)
      by_cases e : t = i
      · subst e; simp [own_b8]
      · by_cases e2 : t < i
        · simp [e, e2, show t < i + 1 by omega]
        · simp [e, e2, show ¬ t < i + 1 by omega]
  refine iconst (q1 := 1) (v := 0) d5_0 rfl rfl ?_
  refine istore (q1 := 3) d5_1 rfl rfl ?_
  simp only [List.set_cons_zero, List.set_cons_succ]
  exact loop len 0 0 h0 _ (by omega) rfl rfl (B.cong fun t ht => by simp)
set_option maxRecDepth 65536 in
set_option maxHeartbeats 40000000 in
theorem c_cm3 {l : Launch} {Z : State} {a0 : Array Value} (hw : ∀ d ∈ tables_1, d.before a0 Z = true) {n0 : Nat} {h0 : Heap} {vb : Addr} {len : Nat} {lenI : Int32} {cf : Nat → Int32} (hlen : lenI.toInt = (len : Int)) (hcap : len ≤ 4000) (V : Ary Z h0 vb .char len (fun i => .int (cf i))) (hc : Lat cf len) : Con l Z n0 (⟨"java/lang/StringUTF16", "compress", "([CII)[B"⟩ : MethodName) jdk_52_method_16_code 6 (some (.array .byte)) { frames := 1, cells := 1, slots := len, locals := 18 } [.ref vb, .int 0, .int lenI] h0 [] (fun v h' => v = some (.ref h0.size) ∧ Ary Z h' h0.size .byte len (fun t => .int (cf t).toInt8.toInt32)) := by
  refine Con.of (Ls := [.val (.ref vb), .val (.int 0), .val (.int lenI), .unset, .unset, .unset]) (by decide +kernel) (fun m => by first | rfl | simp [entryFrame, mkF, argsToLocals, Value.category]) (fun p e s m below meth c => ?_)
  show Wp false p l e ({ frames := 1, cells := 1, slots := len, locals := 18 }) s m ([.ref vb, .int 0, .int lenI] : List Value).toArray below meth c Z "java/lang/StringUTF16" "compress" jdk_52_method_16_code 6 (some (.array .byte)) n0 h0 [] (fun v h' => v = some (.ref h0.size) ∧ Ary Z h' h0.size .byte len (fun t => .int (cf t).toInt8.toInt32)) (fun _ => True) h0 0 0 0 [.val (.ref vb), .val (.int 0), .val (.int lenI), .unset, .unset, .unset] []
  refine iload_n (q1 := 1) d4_0 rfl rfl ?_
  refine newarray (q1 := 3) (len := len) (cap := len) d4_1 rfl (ww hw 19 rfl) hlen (Nat.le_refl _) (by omega) (Nat.le_refl _) (by show 0 + len ≤ len; omega) (fun S1 h1 E1 A1 => ?_)
  refine astore_n (q1 := 4) (jj := 3) d4_3 rfl rfl rfl rfl ?_
  simp only [List.set_cons_zero, List.set_cons_succ]
  refine aload_n (q1 := 5) d4_4 rfl rfl rfl ?_
  refine iload_n (q1 := 6) d4_5 rfl rfl ?_
  refine aload_n (q1 := 7) d4_6 rfl rfl rfl ?_
  refine iconst (q1 := 8) (v := 0) d4_7 rfl rfl ?_
  refine iload_n (q1 := 9) d4_8 rfl rfl ?_
  refine invokestatic (q1 := 12) d4_9 rfl (ww hw 20 rfl) (ww hw 21 rfl) (ww hw 17 rfl) (ww hw 22 rfl) (by decide) pd4 (c_cm5 hw hlen (V.ext E1) A1 (Nat.ne_of_lt V.lt) hc) rfl rfl rfl (by simp [roomOk, Value.category]) (allS (Or.inr S1) all0) (fun v h' q K => ?_)
  obtain ⟨rfl, A2⟩ := q
  refine istore (q1 := 14) d4_12 rfl rfl ?_
  simp only [List.set_cons_zero, List.set_cons_succ]
  refine iload (q1 := 16) d4_14 rfl rfl ?_
  refine iload_n (q1 := 17) d4_16 rfl rfl ?_
  refine icmp_eq (q1 := 20) (q := 57) d4_17 rfl ⟨by decide, rfl⟩ (fun _ => ?_) (fun hq => absurd rfl hq)
  refine aload_n (q1 := 58) d4_57 rfl rfl rfl ?_
  refine ret_a d4_58 rfl rfl rfl (by simp) ?_
  exact ⟨rfl, A2⟩
theorem own_cfl (z : Int32) : (((z - z).toUInt32 >>> ((31 : Int32) &&& 31).toUInt32).toInt32).toInt8.toInt32 = 0 := by
  rw [Int32.sub_self]; decide
set_option maxRecDepth 65536 in
set_option maxHeartbeats 40000000 in
theorem c_cfl {l : Launch} {Z : State} {a0 : Array Value} (hw : ∀ d ∈ tables_1, d.before a0 Z = true) {n0 : Nat} {h0 : Heap} {db : Addr} {len : Nat} {lenI : Int32} {f : Nat → Value} (hlen : lenI.toInt = (len : Int)) (A : Ary Z h0 db .byte len f) : Con l Z n0 (⟨"java/lang/StringUTF16", "coderFromArrayLen", "([BI)B"⟩ : MethodName) jdk_52_method_15_code 2 (some .byte) ({ frames := 0, cells := 0, slots := 0, locals := 0 } : Room) [.ref db, .int lenI] h0 [] (fun v h' => v = some (.int 0) ∧ h' = h0) := by
  refine Con.of (Ls := [.val (.ref db), .val (.int lenI)]) (by decide +kernel) (fun m => by first | rfl | simp [entryFrame, mkF, argsToLocals, Value.category]) (fun p e s m below meth c => ?_)
  show Wp false p l e ({ frames := 0, cells := 0, slots := 0, locals := 0 } : Room) s m ([.ref db, .int lenI] : List Value).toArray below meth c Z "java/lang/StringUTF16" "coderFromArrayLen" jdk_52_method_15_code 2 (some .byte) n0 h0 [] (fun v h' => v = some (.int 0) ∧ h' = h0) (fun _ => True) h0 0 0 0 [.val (.ref db), .val (.int lenI)] []
  refine iload_n (q1 := 1) d6_0 rfl rfl ?_
  refine aload_n (q1 := 2) d6_1 rfl rfl rfl ?_
  refine arraylength (q1 := 3) d6_2 rfl (A) hlen ?_
  refine isub (q1 := 4) d6_3 rfl ?_
  refine bipush (q1 := 6) (v := 31) d6_4 rfl rfl ?_
  refine iushr (q1 := 7) d6_6 rfl ?_
  refine i2b (q1 := 8) d6_7 rfl ?_
  refine ret_n (t := .byte) d6_8 rfl (by simp) rfl ?_
  refine ⟨?_, rfl⟩
  rw [own_cfl]; rfl
/-- a String as it was made of Latin-1 chars -/
def StrOf (Z : State) (h : Heap) (x : Addr) (len : Nat) (cf : Nat → Int32) (t : Addr) : Prop := Exa Z h x "java/lang/String" ∧ Fld Z h x "java/lang/String" "coder" "B" (.int 0) ∧ Fld Z h x "java/lang/String" "value" "[B" (.ref t) ∧ Ary Z h t .byte len (fun i => .int (cf i).toInt8.toInt32)
def Cmpct (Z : State) (z : Int32) : Prop := Sta Z Z.heap "java/lang/String" "COMPACT_STRINGS" "Z" (.int z) ∧ ¬ z = 0
set_option maxRecDepth 65536 in
set_option maxHeartbeats 40000000 in
theorem c_si4 {l : Launch} {Z : State} {a0 : Array Value} (hw : ∀ d ∈ tables_1, d.before a0 Z = true) {n0 : Nat} {h0 : Heap} {x vb : Addr} {len : Nat} {lenI z : Int32} {cf : Nat → Int32} {v0 c0 : Value} (hlen : lenI.toInt = (len : Int)) (hpos : 0 < len) (hcap : len ≤ 4000) (X : Exa Z h0 x "java/lang/String") (FV : Fld Z h0 x "java/lang/String" "value" "[B" v0) (FC : Fld Z h0 x "java/lang/String" "coder" "B" c0) (V : Ary Z h0 vb .char len (fun i => .int (cf i))) (hc : Lat cf len) (S : Cmpct Z z) : Con l Z n0 (⟨"java/lang/String", "<init>", "([CIILjava/lang/Void;)V"⟩ : MethodName) jdk_42_method_149_code 6 none { frames := 2, cells := 1, slots := len, locals := 35 } [.ref x, .ref vb, .int 0, .int lenI, .null] h0 [x] (fun v h' => v = none ∧ StrOf Z h' x len cf h0.size) := by
  refine Con.of (Ls := [.val (.ref x), .val (.ref vb), .val (.int 0), .val (.int lenI), .val .null, .unset]) (by decide +kernel) (fun m => by first | rfl | simp [entryFrame, mkF, argsToLocals, Value.category]) (fun p e s m below meth c => ?_)
  show Wp false p l e ({ frames := 2, cells := 1, slots := len, locals := 35 }) s m ([.ref x, .ref vb, .int 0, .int lenI, .null] : List Value).toArray below meth c Z "java/lang/String" "<init>" jdk_42_method_149_code 6 none n0 h0 [x] (fun v h' => v = none ∧ StrOf Z h' x len cf h0.size) (fun _ => True) h0 0 0 0 [.val (.ref x), .val (.ref vb), .val (.int 0), .val (.int lenI), .val .null, .unset] []
  refine aload_n (q1 := 1) d2_0 rfl rfl rfl ?_
  refine initObj (q1 := 4) d2_1 rfl (ww hw 11 rfl) (ww hw 12 rfl) (ww hw 13 rfl) rfl rfl ?_
  refine iload_n (q1 := 5) d2_4 rfl rfl ?_
  refine if_ne (q1 := 8) (q := 27) d2_5 rfl ⟨by decide, rfl⟩ (fun _ => ?_) (fun hq => absurd hq (by intro e; rw [e] at hlen; simp at hlen; omega))
  refine kept fun K O => ?_
  refine getstatic (q1 := 30) d2_27 rfl (ww hw 14 rfl) Via.refl (S.1.ext O.2) ?_
  refine if_eq (q1 := 33) (q := 58) d2_30 rfl ⟨by decide, rfl⟩ (fun hq => absurd hq S.2) (fun _ => ?_)
  refine aload_n (q1 := 34) d2_33 rfl rfl rfl ?_
  refine iload_n (q1 := 35) d2_34 rfl rfl ?_
  refine iload_n (q1 := 36) d2_35 rfl rfl ?_
  refine invokestatic (q1 := 39) d2_36 rfl (ww hw 15 rfl) (ww hw 16 rfl) (ww hw 17 rfl) (ww hw 18 rfl) (by decide) pd3 (c_cm3 hw hlen hcap V hc) rfl rfl rfl (by simp [roomOk, Value.category]) all0 (fun v h1 q K1 => ?_)
  obtain ⟨rfl, A1⟩ := q
  refine astore (q1 := 41) d2_39 rfl rfl rfl ?_
  simp only [List.set_cons_zero, List.set_cons_succ]
  refine aload_n (q1 := 42) d2_41 rfl rfl rfl ?_
  refine aload (q1 := 44) d2_42 rfl rfl rfl ?_
  refine iload_n (q1 := 45) d2_44 rfl rfl ?_
  refine invokestatic (q1 := 48) d2_45 rfl (ww hw 23 rfl) (ww hw 24 rfl) (ww hw 17 rfl) (ww hw 25 rfl) (by decide) pd5 (c_cfl hw hlen A1) rfl rfl rfl (by simp [roomOk, Value.category]) all0 (fun v h2 q K2 => ?_)
  obtain ⟨rfl, rfl⟩ := q
  have X1 := X.keep K1
  have FV1 := FV.keep K1 nin0
  have FC1 := FC.keep K1 nin0
  have hxt : h0.size ≠ x := Nat.ne_of_gt X.lt
  refine putfieldN (q1 := 51) d2_48 rfl (ww hw 26 rfl) Via.refl (FC1) (X1) (Or.inr ⟨(ww hw 27 rfl), rfl, rfl⟩) (ww hw 1 rfl) (ty := .byte) (by decide) rfl (fits_nar_byte _) (Or.inl (List.mem_singleton.mpr rfl)) (fun h48 W48 => ?_)
  refine aload_n (q1 := 52) d2_51 rfl rfl rfl ?_
  refine aload (q1 := 54) d2_52 rfl rfl rfl ?_
  refine putfield (q1 := 57) d2_54 rfl (ww hw 28 rfl) Via.refl (FV1.other W48 (Or.inr (slot_ne (Or.inr (ww hw 29 rfl)) (Or.inr (ww hw 27 rfl)) (by decide) (t := (.array .byte)) (t' := .byte) (by decide) (by decide)))) (X1.wr W48) (Or.inr ⟨(ww hw 29 rfl), rfl, rfl⟩) (ww hw 1 rfl) (ty := (.array .byte)) (by decide) rfl rfl (Or.inl (List.mem_singleton.mpr rfl)) (fun h54 W54 => ?_)
  refine ret_v d2_57 rfl (by simp) ?_
  refine ⟨rfl, (X1.wr W48).wr W54, ?_, ?_, ?_⟩
  · exact (FC1.same W48).other W54 (Or.inr (slot_ne (Or.inr (ww hw 27 rfl)) (Or.inr (ww hw 29 rfl)) (by decide) (t := .byte) (t' := (.array .byte)) (by decide) (by decide)))
  · exact (FV1.other W48 (Or.inr (slot_ne (Or.inr (ww hw 29 rfl)) (Or.inr (ww hw 27 rfl)) (by decide) (t := (.array .byte)) (t' := .byte) (by decide) (by decide)))).same W54
  · exact (A1.other W48 hxt).other W54 hxt
set_option maxRecDepth 65536 in
set_option maxHeartbeats 40000000 in
theorem c_si1 {l : Launch} {Z : State} {a0 : Array Value} (hw : ∀ d ∈ tables_1, d.before a0 Z = true) {n0 : Nat} {h0 : Heap} {x vb : Addr} {len : Nat} {lenI z : Int32} {cf : Nat → Int32} {v0 c0 : Value} (hlen : lenI.toInt = (len : Int)) (hpos : 0 < len) (hcap : len ≤ 4000) (X : Exa Z h0 x "java/lang/String") (FV : Fld Z h0 x "java/lang/String" "value" "[B" v0) (FC : Fld Z h0 x "java/lang/String" "coder" "B" c0) (V : Ary Z h0 vb .char len (fun i => .int (cf i))) (hc : Lat cf len) (S : Cmpct Z z) : Con l Z n0 (⟨"java/lang/String", "<init>", "([C)V"⟩ : MethodName) jdk_42_method_3_code 2 none { frames := 3, cells := 1, slots := len, locals := 52 } [.ref x, .ref vb] h0 [x] (fun v h' => v = none ∧ StrOf Z h' x len cf h0.size) := by
  refine Con.of (Ls := [.val (.ref x), .val (.ref vb)]) (by decide +kernel) (fun m => by first | rfl | simp [entryFrame, mkF, argsToLocals, Value.category]) (fun p e s m below meth c => ?_)
  show Wp false p l e ({ frames := 3, cells := 1, slots := len, locals := 52 }) s m ([.ref x, .ref vb] : List Value).toArray below meth c Z "java/lang/String" "<init>" jdk_42_method_3_code 2 none n0 h0 [x] (fun v h' => v = none ∧ StrOf Z h' x len cf h0.size) (fun _ => True) h0 0 0 0 [.val (.ref x), .val (.ref vb)] []
  refine aload_n (q1 := 1) d1_0 rfl rfl rfl ?_
  refine aload_n (q1 := 2) d1_1 rfl rfl rfl ?_
  refine iconst (q1 := 3) (v := 0) d1_2 rfl rfl ?_
  refine aload_n (q1 := 4) d1_3 rfl rfl rfl ?_
  refine arraylength (q1 := 5) d1_4 rfl (V) hlen ?_
  refine aconst_null (q1 := 6) d1_5 rfl ?_
  refine invokespecial (q1 := 9) d1_6 rfl rfl (ww hw 7 rfl) (ww hw 8 rfl) (ww hw 2 rfl) (ww hw 10 rfl) (by decide) pd1 (c_si4 hw hlen hpos hcap X FV FC V hc S) rfl rfl rfl (by simp [roomOk, Value.category]) (allS (Or.inl (List.mem_singleton.mpr rfl)) all0) (fun v h1 q K1 => ?_)
  obtain ⟨rfl, Q1⟩ := q
  refine ret_v d1_9 rfl (by simp) ?_
  exact ⟨rfl, Q1⟩
theorem d7_0 : decode prog_21_method_1_code 0 = .ok (.aload_n 0, 1) := by decide +kernel
theorem d7_1 : decode prog_21_method_1_code 1 = .ok (.invokespecial 1, 3) := by decide +kernel
theorem d7_4 : decode prog_21_method_1_code 4 = .ok (.aload_n 0, 1) := by decide +kernel
theorem d7_5 : decode prog_21_method_1_code 5 = .ok (.sipush 256, 3) := by decide +kernel
theorem d7_8 : decode prog_21_method_1_code 8 = .ok (.anewarray 9, 3) := by decide +kernel
theorem d7_11 : decode prog_21_method_1_code 11 = .ok (.putfield 11, 3) := by decide +kernel
theorem d7_14 : decode prog_21_method_1_code 14 = .ok (.aload_n 0, 1) := by decide +kernel
theorem d7_15 : decode prog_21_method_1_code 15 = .ok (.sipush 256, 3) := by decide +kernel
theorem d7_18 : decode prog_21_method_1_code 18 = .ok (.newarray .int, 2) := by decide +kernel
theorem d7_20 : decode prog_21_method_1_code 20 = .ok (.putfield 15, 3) := by decide +kernel
theorem d7_23 : decode prog_21_method_1_code 23 = .ok (.aload_n 0, 1) := by decide +kernel
theorem d7_24 : decode prog_21_method_1_code 24 = .ok (.sipush 256, 3) := by decide +kernel
theorem d7_27 : decode prog_21_method_1_code 27 = .ok (.newarray .int, 2) := by decide +kernel
theorem d7_29 : decode prog_21_method_1_code 29 = .ok (.putfield 19, 3) := by decide +kernel
theorem d7_32 : decode prog_21_method_1_code 32 = .ok (.return_, 1) := by decide +kernel
theorem d8_0 : decode prog_21_method_4_code 0 = .ok (.aload_n 0, 1) := by decide +kernel
theorem d8_1 : decode prog_21_method_4_code 1 = .ok (.getfield 11, 3) := by decide +kernel
theorem d8_4 : decode prog_21_method_4_code 4 = .ok (.iload_n 1, 1) := by decide +kernel
theorem d8_5 : decode prog_21_method_4_code 5 = .ok (.aload_n 2, 1) := by decide +kernel
theorem d8_6 : decode prog_21_method_4_code 6 = .ok (.aastore, 1) := by decide +kernel
theorem d8_7 : decode prog_21_method_4_code 7 = .ok (.aload_n 0, 1) := by decide +kernel
theorem d8_8 : decode prog_21_method_4_code 8 = .ok (.getfield 15, 3) := by decide +kernel
theorem d8_11 : decode prog_21_method_4_code 11 = .ok (.iload_n 1, 1) := by decide +kernel
theorem d8_12 : decode prog_21_method_4_code 12 = .ok (.iload_n 3, 1) := by decide +kernel
theorem d8_13 : decode prog_21_method_4_code 13 = .ok (.iastore, 1) := by decide +kernel
theorem d8_14 : decode prog_21_method_4_code 14 = .ok (.aload_n 0, 1) := by decide +kernel
theorem d8_15 : decode prog_21_method_4_code 15 = .ok (.getfield 19, 3) := by decide +kernel
theorem d8_18 : decode prog_21_method_4_code 18 = .ok (.iload_n 1, 1) := by decide +kernel
theorem d8_19 : decode prog_21_method_4_code 19 = .ok (.iload 4, 2) := by decide +kernel
theorem d8_21 : decode prog_21_method_4_code 21 = .ok (.iastore, 1) := by decide +kernel
theorem d8_22 : decode prog_21_method_4_code 22 = .ok (.aload_n 0, 1) := by decide +kernel
theorem d8_23 : decode prog_21_method_4_code 23 = .ok (.aload_n 0, 1) := by decide +kernel
theorem d8_24 : decode prog_21_method_4_code 24 = .ok (.getfield 34, 3) := by decide +kernel
theorem d8_27 : decode prog_21_method_4_code 27 = .ok (.iload_n 1, 1) := by decide +kernel
theorem d8_28 : decode prog_21_method_4_code 28 = .ok (.iconst 1, 1) := by decide +kernel
theorem d8_29 : decode prog_21_method_4_code 29 = .ok (.iadd, 1) := by decide +kernel
theorem d8_30 : decode prog_21_method_4_code 30 = .ok (.invokestatic 57, 3) := by decide +kernel
theorem d8_33 : decode prog_21_method_4_code 33 = .ok (.putfield 34, 3) := by decide +kernel
theorem d8_36 : decode prog_21_method_4_code 36 = .ok (.return_, 1) := by decide +kernel
theorem d9_0 : decode jdk_29_method_65_code 0 = .ok (.iload_n 0, 1) := by decide +kernel
theorem d9_1 : decode jdk_29_method_65_code 1 = .ok (.iload_n 1, 1) := by decide +kernel
theorem d9_2 : decode jdk_29_method_65_code 2 = .ok (.if_icmp .lt 7, 3) := by decide +kernel
theorem d9_5 : decode jdk_29_method_65_code 5 = .ok (.iload_n 0, 1) := by decide +kernel
theorem d9_6 : decode jdk_29_method_65_code 6 = .ok (.goto 4, 3) := by decide +kernel
theorem d9_9 : decode jdk_29_method_65_code 9 = .ok (.iload_n 1, 1) := by decide +kernel
theorem d9_10 : decode jdk_29_method_65_code 10 = .ok (.ireturn, 1) := by decide +kernel
theorem d10_0 : decode prog_21_method_5_code 0 = .ok (.aload_n 0, 1) := by decide +kernel
theorem d10_1 : decode prog_21_method_5_code 1 = .ok (.getfield 11, 3) := by decide +kernel
theorem d10_4 : decode prog_21_method_5_code 4 = .ok (.iload_n 1, 1) := by decide +kernel
theorem d10_5 : decode prog_21_method_5_code 5 = .ok (.aconst_null, 1) := by decide +kernel
theorem d10_6 : decode prog_21_method_5_code 6 = .ok (.aastore, 1) := by decide +kernel
theorem d10_7 : decode prog_21_method_5_code 7 = .ok (.aload_n 0, 1) := by decide +kernel
theorem d10_8 : decode prog_21_method_5_code 8 = .ok (.getfield 15, 3) := by decide +kernel
theorem d10_11 : decode prog_21_method_5_code 11 = .ok (.iload_n 1, 1) := by decide +kernel
theorem d10_12 : decode prog_21_method_5_code 12 = .ok (.iconst 0, 1) := by decide +kernel
theorem d10_13 : decode prog_21_method_5_code 13 = .ok (.iastore, 1) := by decide +kernel
theorem d10_14 : decode prog_21_method_5_code 14 = .ok (.aload_n 0, 1) := by decide +kernel
theorem d10_15 : decode prog_21_method_5_code 15 = .ok (.getfield 19, 3) := by decide +kernel
theorem d10_18 : decode prog_21_method_5_code 18 = .ok (.iload_n 1, 1) := by decide +kernel
theorem d10_19 : decode prog_21_method_5_code 19 = .ok (.iconst 0, 1) := by decide +kernel
theorem d10_20 : decode prog_21_method_5_code 20 = .ok (.iastore, 1) := by decide +kernel
theorem d10_21 : decode prog_21_method_5_code 21 = .ok (.return_, 1) := by decide +kernel
theorem d11_0 : decode prog_21_method_7_code 0 = .ok (.aload_n 0, 1) := by decide +kernel
theorem d11_1 : decode prog_21_method_7_code 1 = .ok (.getfield 11, 3) := by decide +kernel
theorem d11_4 : decode prog_21_method_7_code 4 = .ok (.iload_n 1, 1) := by decide +kernel
theorem d11_5 : decode prog_21_method_7_code 5 = .ok (.aaload, 1) := by decide +kernel
theorem d11_6 : decode prog_21_method_7_code 6 = .ok (.areturn, 1) := by decide +kernel
theorem d12_0 : decode prog_21_method_8_code 0 = .ok (.aload_n 0, 1) := by decide +kernel
theorem d12_1 : decode prog_21_method_8_code 1 = .ok (.getfield 15, 3) := by decide +kernel
theorem d12_4 : decode prog_21_method_8_code 4 = .ok (.iload_n 1, 1) := by decide +kernel
theorem d12_5 : decode prog_21_method_8_code 5 = .ok (.iaload, 1) := by decide +kernel
theorem d12_6 : decode prog_21_method_8_code 6 = .ok (.ireturn, 1) := by decide +kernel
theorem d13_0 : decode prog_21_method_9_code 0 = .ok (.aload_n 0, 1) := by decide +kernel
theorem d13_1 : decode prog_21_method_9_code 1 = .ok (.getfield 19, 3) := by decide +kernel
theorem d13_4 : decode prog_21_method_9_code 4 = .ok (.iload_n 1, 1) := by decide +kernel
theorem d13_5 : decode prog_21_method_9_code 5 = .ok (.iaload, 1) := by decide +kernel
theorem d13_6 : decode prog_21_method_9_code 6 = .ok (.ireturn, 1) := by decide +kernel
theorem d14_0 : decode prog_21_method_6_code 0 = .ok (.aload_n 0, 1) := by decide +kernel
theorem d14_1 : decode prog_21_method_6_code 1 = .ok (.getfield 34, 3) := by decide +kernel
theorem d14_4 : decode prog_21_method_6_code 4 = .ok (.ireturn, 1) := by decide +kernel
def Blk (Z : State) (h : Heap) (b i1 i2 i3 : Addr) (fi fl fc : Nat → Value) (sz : Int32) : Prop :=
  Exa Z h b "com/example/bonsense/bonsense/index/SlotBlock" ∧ Fld Z h b "com/example/bonsense/bonsense/index/SlotBlock" "ids" "[Ljava/lang/String;" (.ref i1) ∧ Fld Z h b "com/example/bonsense/bonsense/index/SlotBlock" "lengths" "[I" (.ref i2) ∧ Fld Z h b "com/example/bonsense/bonsense/index/SlotBlock" "largestCounts" "[I" (.ref i3) ∧ Fld Z h b "com/example/bonsense/bonsense/index/SlotBlock" "size" "I" (.int sz) ∧ AryR Z h i1 "java/lang/String" 256 fi ∧ Ary Z h i2 .int 256 fl ∧ Ary Z h i3 .int 256 fc ∧ b < i1 ∧ i1 < i2 ∧ i2 < i3
set_option maxRecDepth 65536 in
set_option maxHeartbeats 40000000 in
theorem c_init {l : Launch} {Z : State} {a0 : Array Value} (hw : ∀ d ∈ tables_1, d.before a0 Z = true) {n0 : Nat} {h0 : Heap} {b : Addr} {u1 u2 u3 : Value} (X : Exa Z h0 b "com/example/bonsense/bonsense/index/SlotBlock") (F1 : Fld Z h0 b "com/example/bonsense/bonsense/index/SlotBlock" "ids" "[Ljava/lang/String;" u1) (F2 : Fld Z h0 b "com/example/bonsense/bonsense/index/SlotBlock" "lengths" "[I" u2) (F3 : Fld Z h0 b "com/example/bonsense/bonsense/index/SlotBlock" "largestCounts" "[I" u3) (F4 : Fld Z h0 b "com/example/bonsense/bonsense/index/SlotBlock" "size" "I" (.int 0)) : Con l Z n0 (⟨"com/example/bonsense/bonsense/index/SlotBlock", "<init>", "()V"⟩ : MethodName) prog_21_method_1_code 1 none ({ frames := 1, cells := 3, slots := 768, locals := 12 } : Room) [.ref b] h0 [b] (fun v h' => v = none ∧ ∃ i1 i2 i3, h0.size ≤ i1 ∧ Blk Z h' b i1 i2 i3 (fun _ => .null) (fun _ => .int 0) (fun _ => .int 0) 0) := by
  refine Con.of (Ls := [.val (.ref b)]) (by decide +kernel) (fun m => by first | rfl | simp [entryFrame, mkF, argsToLocals, Value.category]) (fun p e s m below meth c => ?_)
  show Wp false p l e ({ frames := 1, cells := 3, slots := 768, locals := 12 } : Room) s m ([.ref b] : List Value).toArray below meth c Z "com/example/bonsense/bonsense/index/SlotBlock" "<init>" prog_21_method_1_code 1 none n0 h0 [b] (fun v h' => v = none ∧ ∃ i1 i2 i3, h0.size ≤ i1 ∧ Blk Z h' b i1 i2 i3 (fun _ => .null) (fun _ => .int 0) (fun _ => .int 0) 0) (fun _ => True) h0 0 0 0 [.val (.ref b)] []
  have n1 : h0.size ≠ b := Nat.ne_of_gt X.lt
  refine aload_n (q1 := 1) d7_0 rfl rfl rfl ?_
  refine initObj (q1 := 4) d7_1 rfl (ww hw 36 rfl) (ww hw 12 rfl) (ww hw 13 rfl) rfl rfl ?_
  refine aload_n (q1 := 5) d7_4 rfl rfl rfl ?_
  refine sipush (q1 := 8) (v := 256) d7_5 rfl rfl ?_
  refine anewarray (q1 := 11) (len := 256) (cap := 256) d7_8 rfl (ww hw 37 rfl) (ww hw 38 rfl) rfl (by decide) (by decide) (by decide) (by decide) (fun S8 h8 E8 A8 => ?_)
  refine putfield (q1 := 14) d7_11 rfl (ww hw 39 rfl) Via.refl (F1.ext E8) (X.ext E8) (Or.inr ⟨(ww hw 40 rfl), rfl, rfl⟩) (ww hw 31 rfl) (ty := (.array (.object "java/lang/String"))) (by decide) rfl rfl (Or.inl own_in1) (fun h11 W11 => ?_)
  have x1 := (X.ext E8).wr W11
  have f1 := (F1.ext E8).same W11
  have f2 := (F2.ext E8).other W11 (Or.inr (slot_ne (Or.inr (ww hw 43 rfl)) (Or.inr (ww hw 40 rfl)) (by decide) (t := (.array .int)) (t' := (.array (.object "java/lang/String"))) (by decide) (by decide)))
  have f3 := (F3.ext E8).other W11 (Or.inr (slot_ne (Or.inr (ww hw 45 rfl)) (Or.inr (ww hw 40 rfl)) (by decide) (t := (.array .int)) (t' := (.array (.object "java/lang/String"))) (by decide) (by decide)))
  have f4 := (F4.ext E8).other W11 (Or.inr (slot_ne (Or.inl (ww hw 52 rfl)) (Or.inr (ww hw 40 rfl)) (by decide) (t := .int) (t' := (.array (.object "java/lang/String"))) (by decide) (by decide)))
  have a1 := A8.other W11 n1
  have z1 : h0.size < h11.size := by rw [W11.size]; exact A8.lt
  refine aload_n (q1 := 15) d7_14 rfl rfl rfl ?_
  refine sipush (q1 := 18) (v := 256) d7_15 rfl rfl ?_
  refine newarray (q1 := 20) (len := 256) (cap := 256) d7_18 rfl (ww hw 41 rfl) rfl (by decide) (by decide) (by decide) (by decide) (fun S18 h18 E18 A18 => ?_)
  have n2 : h11.size ≠ b := Nat.ne_of_gt (Nat.lt_trans X.lt z1)
  refine putfield (q1 := 23) d7_20 rfl (ww hw 42 rfl) Via.refl (f2.ext E18) (x1.ext E18) (Or.inr ⟨(ww hw 43 rfl), rfl, rfl⟩) (ww hw 31 rfl) (ty := (.array .int)) (by decide) rfl rfl (Or.inl own_in1) (fun h20 W20 => ?_)
  have x2 := (x1.ext E18).wr W20
  have g1 := (f1.ext E18).other W20 (Or.inr (slot_ne (Or.inr (ww hw 40 rfl)) (Or.inr (ww hw 43 rfl)) (by decide) (t := (.array (.object "java/lang/String"))) (t' := (.array .int)) (by decide) (by decide)))
  have g2 := (f2.ext E18).same W20
  have g3 := (f3.ext E18).other W20 (Or.inr (slot_ne (Or.inr (ww hw 45 rfl)) (Or.inr (ww hw 43 rfl)) (by decide) (t := (.array .int)) (t' := (.array .int)) (by decide) (by decide)))
  have g4 := (f4.ext E18).other W20 (Or.inr (slot_ne (Or.inl (ww hw 52 rfl)) (Or.inr (ww hw 43 rfl)) (by decide) (t := .int) (t' := (.array .int)) (by decide) (by decide)))
  have b1 := (a1.ext E18).other W20 n1
  have b2 := A18.other W20 n2
  have z2 : h11.size < h20.size := by rw [W20.size]; exact A18.lt
  refine aload_n (q1 := 24) d7_23 rfl rfl rfl ?_
  refine sipush (q1 := 27) (v := 256) d7_24 rfl rfl ?_
  refine newarray (q1 := 29) (len := 256) (cap := 256) d7_27 rfl (ww hw 41 rfl) rfl (by decide) (by decide) (by decide) (by decide) (fun S27 h27 E27 A27 => ?_)
  have n3 : h20.size ≠ b := Nat.ne_of_gt (Nat.lt_trans (Nat.lt_trans X.lt z1) z2)
  refine putfield (q1 := 32) d7_29 rfl (ww hw 44 rfl) Via.refl (g3.ext E27) (x2.ext E27) (Or.inr ⟨(ww hw 45 rfl), rfl, rfl⟩) (ww hw 31 rfl) (ty := (.array .int)) (by decide) rfl rfl (Or.inl own_in1) (fun h29 W29 => ?_)
  refine ret_v d7_32 rfl rfl ?_
  refine ⟨rfl, h0.size, h11.size, h20.size, Nat.le_refl _, (x2.ext E27).wr W29, (g1.ext E27).other W29 (Or.inr (slot_ne (Or.inr (ww hw 40 rfl)) (Or.inr (ww hw 45 rfl)) (by decide) (t := (.array (.object "java/lang/String"))) (t' := (.array .int)) (by decide) (by decide))), (g2.ext E27).other W29 (Or.inr (slot_ne (Or.inr (ww hw 43 rfl)) (Or.inr (ww hw 45 rfl)) (by decide) (t := (.array .int)) (t' := (.array .int)) (by decide) (by decide))), (g3.ext E27).same W29, (g4.ext E27).other W29 (Or.inr (slot_ne (Or.inl (ww hw 52 rfl)) (Or.inr (ww hw 45 rfl)) (by decide) (t := .int) (t' := (.array .int)) (by decide) (by decide))), (b1.ext E27).other W29 n1, (b2.ext E27).other W29 n2, A27.other W29 n3, X.lt, z1, z2⟩
set_option maxRecDepth 65536 in
set_option maxHeartbeats 40000000 in
theorem c_max {l : Launch} {Z : State} {a0 : Array Value} (hw : ∀ d ∈ tables_1, d.before a0 Z = true) {n0 : Nat} {h0 : Heap} {x y : Int32} : Con l Z n0 (⟨"java/lang/Math", "max", "(II)I"⟩ : MethodName) jdk_29_method_65_code 2 (some .int) ({ frames := 0, cells := 0, slots := 0, locals := 0 } : Room) [.int x, .int y] h0 [] (fun v h' => v = some (.int (if x < y then y else x)) ∧ h' = h0) := by
  refine Con.of (Ls := [.val (.int x), .val (.int y)]) (Jvm.Free.JP.mathPlain rfl (by decide +kernel)) (fun m => by first | rfl | simp [entryFrame, mkF, argsToLocals, Value.category]) (fun p e s m below meth c => ?_)
  show Wp false p l e ({ frames := 0, cells := 0, slots := 0, locals := 0 } : Room) s m ([.int x, .int y] : List Value).toArray below meth c Z "java/lang/Math" "max" jdk_29_method_65_code 2 (some .int) n0 h0 [] (fun v h' => v = some (.int (if x < y then y else x)) ∧ h' = h0) (fun _ => True) h0 0 0 0 [.val (.int x), .val (.int y)] []
  refine iload_n (q1 := 1) d9_0 rfl rfl ?_
  refine iload_n (q1 := 2) d9_1 rfl rfl ?_
  refine icmp_lt (q1 := 5) (q := 9) d9_2 rfl ⟨by decide, rfl⟩ (fun hq => ?_) (fun hq => ?_)
  · refine iload_n (q1 := 10) d9_9 rfl rfl ?_
    refine ret_i d9_10 rfl rfl ?_
    simp [hq]
  · refine iload_n (q1 := 6) d9_5 rfl rfl ?_
    refine goto (q := 10) d9_6 ⟨by decide, rfl⟩ ?_
    refine ret_i d9_10 rfl rfl ?_
    simp [hq]
set_option maxRecDepth 65536 in
set_option maxHeartbeats 40000000 in
theorem c_fill {l : Launch} {Z : State} {a0 : Array Value} (hw : ∀ d ∈ tables_1, d.before a0 Z = true) {n0 : Nat} {h0 : Heap} {b i1 i2 i3 sr : Addr} {fi fl fc : Nat → Value} {sz p2 p4 p5 : Int32} {i : Nat} (B : Blk Z h0 b i1 i2 i3 fi fl fc sz) (hi : p2.toInt = (i : Int)) (hlt : i < 256) (I : Ins Z h0 sr "java/lang/String" true) : Con l Z n0 (⟨"com/example/bonsense/bonsense/index/SlotBlock", "fill", "(ILjava/lang/String;II)V"⟩ : MethodName) prog_21_method_4_code 5 none ({ frames := 1, cells := 0, slots := 0, locals := 14 } : Room) [.ref b, .int p2, .ref sr, .int p4, .int p5] h0 [b, i1, i2, i3] (fun v h' => v = none ∧ Blk Z h' b i1 i2 i3 (fun t => if t = i then .ref sr else fi t) (fun t => if t = i then .int p4 else fl t) (fun t => if t = i then .int p5 else fc t) (if sz < p2 + 1 then p2 + 1 else sz)) := by
  refine Con.of (Ls := [.val (.ref b), .val (.int p2), .val (.ref sr), .val (.int p4), .val (.int p5)]) (by decide +kernel) (fun m => by first | rfl | simp [entryFrame, mkF, argsToLocals, Value.category]) (fun p e s m below meth c => ?_)
  show Wp false p l e ({ frames := 1, cells := 0, slots := 0, locals := 14 } : Room) s m ([.ref b, .int p2, .ref sr, .int p4, .int p5] : List Value).toArray below meth c Z "com/example/bonsense/bonsense/index/SlotBlock" "fill" prog_21_method_4_code 5 none n0 h0 [b, i1, i2, i3] (fun v h' => v = none ∧ Blk Z h' b i1 i2 i3 (fun t => if t = i then .ref sr else fi t) (fun t => if t = i then .int p4 else fl t) (fun t => if t = i then .int p5 else fc t) (if sz < p2 + 1 then p2 + 1 else sz)) (fun _ => True) h0 0 0 0 [.val (.ref b), .val (.int p2), .val (.ref sr), .val (.int p4), .val (.int p5)] []
  obtain ⟨X, F1, F2, F3, F4, A1, A2, A3, o1, o2, o3⟩ := B
  have m1 : i1 ∈ [b, i1, i2, i3] := by simp
  have m2 : i2 ∈ [b, i1, i2, i3] := by simp
  have m3 : i3 ∈ [b, i1, i2, i3] := by simp
  refine aload_n (q1 := 1) d8_0 rfl rfl rfl ?_
  refine getfield (q1 := 4) d8_1 rfl (ww hw 39 rfl) Via.refl (F1) ?_
  refine iload_n (q1 := 5) d8_4 rfl rfl ?_
  refine aload_n (q1 := 6) d8_5 rfl rfl rfl ?_
  refine aastore (q1 := 7) d8_6 rfl (A1) hi hlt (Or.inl m1) (Or.inr ⟨sr, rfl, I⟩) (fun h1 W1 => ?_)
  have e1 : b ≠ i1 := Nat.ne_of_lt o1
  refine aload_n (q1 := 8) d8_7 rfl rfl rfl ?_
  refine getfield (q1 := 11) d8_8 rfl (ww hw 42 rfl) Via.refl (F2.other W1 (Or.inl e1)) ?_
  refine iload_n (q1 := 12) d8_11 rfl rfl ?_
  refine iload_n (q1 := 13) d8_12 rfl rfl ?_
  refine iastore (q1 := 14) d8_13 rfl (A2.other W1 (Nat.ne_of_gt o2)) hi hlt (Or.inl m2) (fun h2 W2 => ?_)
  have e2 : b ≠ i2 := Nat.ne_of_lt (Nat.lt_trans o1 o2)
  refine aload_n (q1 := 15) d8_14 rfl rfl rfl ?_
  refine getfield (q1 := 18) d8_15 rfl (ww hw 44 rfl) Via.refl ((F3.other W1 (Or.inl e1)).other W2 (Or.inl e2)) ?_
  refine iload_n (q1 := 19) d8_18 rfl rfl ?_
  refine iload (q1 := 21) d8_19 rfl rfl ?_
  have e3 : b ≠ i3 := Nat.ne_of_lt (Nat.lt_trans (Nat.lt_trans o1 o2) o3)
  have e13 : i3 ≠ i1 := Nat.ne_of_gt (Nat.lt_trans o2 o3)
  refine iastore (q1 := 22) d8_21 rfl ((A3.other W1 e13).other W2 (Nat.ne_of_gt o3)) hi hlt (Or.inl m3) (fun h3 W3 => ?_)
  have f4 := ((F4.other W1 (Or.inl e1)).other W2 (Or.inl e2)).other W3 (Or.inl e3)
  have x4 := ((X.wr W1).wr W2).wr W3
  refine aload_n (q1 := 23) d8_22 rfl rfl rfl ?_
  refine aload_n (q1 := 24) d8_23 rfl rfl rfl ?_
  refine getfield (q1 := 27) d8_24 rfl (ww hw 51 rfl) Via.refl (f4) ?_
  refine iload_n (q1 := 28) d8_27 rfl rfl ?_
  refine iconst (q1 := 29) (v := 1) d8_28 rfl rfl ?_
  refine iadd (q1 := 30) d8_29 rfl ?_
  refine invokestatic (q1 := 33) d8_30 rfl (ww hw 53 rfl) (ww hw 54 rfl) (ww hw 55 rfl) (ww hw 56 rfl) (by decide) pd7 (c_max hw) rfl rfl rfl rfl all0 (fun v h4 q K4 => ?_)
  obtain ⟨rfl, rfl⟩ := q
  refine putfield (q1 := 36) d8_33 rfl (ww hw 51 rfl) Via.refl (f4) (x4) (Or.inl (ww hw 52 rfl)) (ww hw 31 rfl) (ty := .int) (by decide) rfl rfl (Or.inl own_in1) (fun h5 W5 => ?_)
  refine ret_v d8_36 rfl rfl ?_
  refine ⟨rfl, x4.wr W5, ?_, ?_, ?_, f4.same W5, ?_, ?_, ?_, o1, o2, o3⟩
  · exact (((F1.other W1 (Or.inl e1)).other W2 (Or.inl e2)).other W3 (Or.inl e3)).other W5 (Or.inr (slot_ne (Or.inr (ww hw 40 rfl)) (Or.inl (ww hw 52 rfl)) (by decide) (t := (.array (.object "java/lang/String"))) (t' := .int) (by decide) (by decide)))
  · exact (((F2.other W1 (Or.inl e1)).other W2 (Or.inl e2)).other W3 (Or.inl e3)).other W5 (Or.inr (slot_ne (Or.inr (ww hw 43 rfl)) (Or.inl (ww hw 52 rfl)) (by decide) (t := (.array .int)) (t' := .int) (by decide) (by decide)))
  · exact (((F3.other W1 (Or.inl e1)).other W2 (Or.inl e2)).other W3 (Or.inl e3)).other W5 (Or.inr (slot_ne (Or.inr (ww hw 45 rfl)) (Or.inl (ww hw 52 rfl)) (by decide) (t := (.array .int)) (t' := .int) (by decide) (by decide)))
  · exact (((A1.same W1).other W2 (Nat.ne_of_lt o2)).other W3 e13.symm).other W5 e1.symm
  · exact (((A2.other W1 (Nat.ne_of_gt o2)).same W2).other W3 (Nat.ne_of_lt o3)).other W5 e2.symm
  · exact (((A3.other W1 e13).other W2 (Nat.ne_of_gt o3)).same W3).other W5 e3.symm
set_option maxRecDepth 65536 in
set_option maxHeartbeats 40000000 in
theorem c_empty {l : Launch} {Z : State} {a0 : Array Value} (hw : ∀ d ∈ tables_1, d.before a0 Z = true) {n0 : Nat} {h0 : Heap} {b i1 i2 i3 : Addr} {fi fl fc : Nat → Value} {sz p2 : Int32} {i : Nat} (B : Blk Z h0 b i1 i2 i3 fi fl fc sz) (hi : p2.toInt = (i : Int)) (hlt : i < 256) : Con l Z n0 (⟨"com/example/bonsense/bonsense/index/SlotBlock", "empty", "(I)V"⟩ : MethodName) prog_21_method_5_code 2 none ({ frames := 0, cells := 0, slots := 0, locals := 0 } : Room) [.ref b, .int p2] h0 [i1, i2, i3] (fun v h' => v = none ∧ Blk Z h' b i1 i2 i3 (fun t => if t = i then .null else fi t) (fun t => if t = i then .int 0 else fl t) (fun t => if t = i then .int 0 else fc t) sz) := by
  refine Con.of (Ls := [.val (.ref b), .val (.int p2)]) (by decide +kernel) (fun m => by first | rfl | simp [entryFrame, mkF, argsToLocals, Value.category]) (fun p e s m below meth c => ?_)
  show Wp false p l e ({ frames := 0, cells := 0, slots := 0, locals := 0 } : Room) s m ([.ref b, .int p2] : List Value).toArray below meth c Z "com/example/bonsense/bonsense/index/SlotBlock" "empty" prog_21_method_5_code 2 none n0 h0 [i1, i2, i3] (fun v h' => v = none ∧ Blk Z h' b i1 i2 i3 (fun t => if t = i then .null else fi t) (fun t => if t = i then .int 0 else fl t) (fun t => if t = i then .int 0 else fc t) sz) (fun _ => True) h0 0 0 0 [.val (.ref b), .val (.int p2)] []
  obtain ⟨X, F1, F2, F3, F4, A1, A2, A3, o1, o2, o3⟩ := B
  have m1 : i1 ∈ [i1, i2, i3] := by simp
  have m2 : i2 ∈ [i1, i2, i3] := by simp
  have m3 : i3 ∈ [i1, i2, i3] := by simp
  refine aload_n (q1 := 1) d10_0 rfl rfl rfl ?_
  refine getfield (q1 := 4) d10_1 rfl (ww hw 39 rfl) Via.refl (F1) ?_
  refine iload_n (q1 := 5) d10_4 rfl rfl ?_
  refine aconst_null (q1 := 6) d10_5 rfl ?_
  refine aastore (q1 := 7) d10_6 rfl (A1) hi hlt (Or.inl m1) (Or.inl rfl) (fun h1 W1 => ?_)
  have e1 : b ≠ i1 := Nat.ne_of_lt o1
  refine aload_n (q1 := 8) d10_7 rfl rfl rfl ?_
  refine getfield (q1 := 11) d10_8 rfl (ww hw 42 rfl) Via.refl (F2.other W1 (Or.inl e1)) ?_
  refine iload_n (q1 := 12) d10_11 rfl rfl ?_
  refine iconst (q1 := 13) (v := 0) d10_12 rfl rfl ?_
  refine iastore (q1 := 14) d10_13 rfl (A2.other W1 (Nat.ne_of_gt o2)) hi hlt (Or.inl m2) (fun h2 W2 => ?_)
  have e2 : b ≠ i2 := Nat.ne_of_lt (Nat.lt_trans o1 o2)
  refine aload_n (q1 := 15) d10_14 rfl rfl rfl ?_
  refine getfield (q1 := 18) d10_15 rfl (ww hw 44 rfl) Via.refl ((F3.other W1 (Or.inl e1)).other W2 (Or.inl e2)) ?_
  refine iload_n (q1 := 19) d10_18 rfl rfl ?_
  refine iconst (q1 := 20) (v := 0) d10_19 rfl rfl ?_
  have e3 : b ≠ i3 := Nat.ne_of_lt (Nat.lt_trans (Nat.lt_trans o1 o2) o3)
  have e13 : i3 ≠ i1 := Nat.ne_of_gt (Nat.lt_trans o2 o3)
  refine iastore (q1 := 21) d10_20 rfl ((A3.other W1 e13).other W2 (Nat.ne_of_gt o3)) hi hlt (Or.inl m3) (fun h3 W3 => ?_)
  refine ret_v d10_21 rfl rfl ?_
  refine ⟨rfl, ((X.wr W1).wr W2).wr W3, ?_, ?_, ?_, ?_, ?_, ?_, ?_, o1, o2, o3⟩
  · exact ((F1.other W1 (Or.inl e1)).other W2 (Or.inl e2)).other W3 (Or.inl e3)
  · exact ((F2.other W1 (Or.inl e1)).other W2 (Or.inl e2)).other W3 (Or.inl e3)
  · exact ((F3.other W1 (Or.inl e1)).other W2 (Or.inl e2)).other W3 (Or.inl e3)
  · exact ((F4.other W1 (Or.inl e1)).other W2 (Or.inl e2)).other W3 (Or.inl e3)
  · exact ((A1.same W1).other W2 (Nat.ne_of_lt o2)).other W3 e13.symm
  · exact ((A2.other W1 (Nat.ne_of_gt o2)).same W2).other W3 (Nat.ne_of_lt o3)
  · exact ((A3.other W1 e13).other W2 (Nat.ne_of_gt o3)).same W3
set_option maxRecDepth 65536 in
set_option maxHeartbeats 40000000 in
theorem c_id {l : Launch} {Z : State} {a0 : Array Value} (hw : ∀ d ∈ tables_1, d.before a0 Z = true) {n0 : Nat} {h0 : Heap} {b i1 i2 i3 : Addr} {fi fl fc : Nat → Value} {sz p2 : Int32} {i : Nat} {w : Value} (B : Blk Z h0 b i1 i2 i3 fi fl fc sz) (hi : p2.toInt = (i : Int)) (hlt : i < 256) (hv : fi i = w) (hr : w.isRef = true) : Con l Z n0 (⟨"com/example/bonsense/bonsense/index/SlotBlock", "id", "(I)Ljava/lang/String;"⟩ : MethodName) prog_21_method_7_code 2 (some (.object "java/lang/String")) ({ frames := 0, cells := 0, slots := 0, locals := 0 } : Room) [.ref b, .int p2] h0 [] (fun v h' => v = some w ∧ h' = h0) := by
  refine Con.of (Ls := [.val (.ref b), .val (.int p2)]) (by decide +kernel) (fun m => by first | rfl | simp [entryFrame, mkF, argsToLocals, Value.category]) (fun p e s m below meth c => ?_)
  show Wp false p l e ({ frames := 0, cells := 0, slots := 0, locals := 0 } : Room) s m ([.ref b, .int p2] : List Value).toArray below meth c Z "com/example/bonsense/bonsense/index/SlotBlock" "id" prog_21_method_7_code 2 (some (.object "java/lang/String")) n0 h0 [] (fun v h' => v = some w ∧ h' = h0) (fun _ => True) h0 0 0 0 [.val (.ref b), .val (.int p2)] []
  refine aload_n (q1 := 1) d11_0 rfl rfl rfl ?_
  refine getfield (q1 := 4) d11_1 rfl (ww hw 39 rfl) Via.refl (B.2.1) ?_
  refine iload_n (q1 := 5) d11_4 rfl rfl ?_
  refine aaload (q1 := 6) d11_5 rfl (B.2.2.2.2.2.1.ary) rfl hi hlt hv ?_
  refine ret_a d11_6 rfl rfl hr rfl ⟨rfl, rfl⟩
set_option maxRecDepth 65536 in
set_option maxHeartbeats 40000000 in
theorem c_len {l : Launch} {Z : State} {a0 : Array Value} (hw : ∀ d ∈ tables_1, d.before a0 Z = true) {n0 : Nat} {h0 : Heap} {b i1 i2 i3 : Addr} {fi fl fc : Nat → Value} {sz p2 : Int32} {i : Nat} {w : Int32} (B : Blk Z h0 b i1 i2 i3 fi fl fc sz) (hi : p2.toInt = (i : Int)) (hlt : i < 256) (hv : fl i = .int w) : Con l Z n0 (⟨"com/example/bonsense/bonsense/index/SlotBlock", "length", "(I)I"⟩ : MethodName) prog_21_method_8_code 2 (some .int) ({ frames := 0, cells := 0, slots := 0, locals := 0 } : Room) [.ref b, .int p2] h0 [] (fun v h' => v = some (.int w) ∧ h' = h0) := by
  refine Con.of (Ls := [.val (.ref b), .val (.int p2)]) (by decide +kernel) (fun m => by first | rfl | simp [entryFrame, mkF, argsToLocals, Value.category]) (fun p e s m below meth c => ?_)
  show Wp false p l e ({ frames := 0, cells := 0, slots := 0, locals := 0 } : Room) s m ([.ref b, .int p2] : List Value).toArray below meth c Z "com/example/bonsense/bonsense/index/SlotBlock" "length" prog_21_method_8_code 2 (some .int) n0 h0 [] (fun v h' => v = some (.int w) ∧ h' = h0) (fun _ => True) h0 0 0 0 [.val (.ref b), .val (.int p2)] []
  refine aload_n (q1 := 1) d12_0 rfl rfl rfl ?_
  refine getfield (q1 := 4) d12_1 rfl (ww hw 42 rfl) Via.refl (B.2.2.1) ?_
  refine iload_n (q1 := 5) d12_4 rfl rfl ?_
  refine iaload (q1 := 6) d12_5 rfl (B.2.2.2.2.2.2.1) hi hlt hv ?_
  refine ret_i d12_6 rfl rfl ⟨rfl, rfl⟩
set_option maxRecDepth 65536 in
set_option maxHeartbeats 40000000 in
theorem c_cnt {l : Launch} {Z : State} {a0 : Array Value} (hw : ∀ d ∈ tables_1, d.before a0 Z = true) {n0 : Nat} {h0 : Heap} {b i1 i2 i3 : Addr} {fi fl fc : Nat → Value} {sz p2 : Int32} {i : Nat} {w : Int32} (B : Blk Z h0 b i1 i2 i3 fi fl fc sz) (hi : p2.toInt = (i : Int)) (hlt : i < 256) (hv : fc i = .int w) : Con l Z n0 (⟨"com/example/bonsense/bonsense/index/SlotBlock", "largestCount", "(I)I"⟩ : MethodName) prog_21_method_9_code 2 (some .int) ({ frames := 0, cells := 0, slots := 0, locals := 0 } : Room) [.ref b, .int p2] h0 [] (fun v h' => v = some (.int w) ∧ h' = h0) := by
  refine Con.of (Ls := [.val (.ref b), .val (.int p2)]) (by decide +kernel) (fun m => by first | rfl | simp [entryFrame, mkF, argsToLocals, Value.category]) (fun p e s m below meth c => ?_)
  show Wp false p l e ({ frames := 0, cells := 0, slots := 0, locals := 0 } : Room) s m ([.ref b, .int p2] : List Value).toArray below meth c Z "com/example/bonsense/bonsense/index/SlotBlock" "largestCount" prog_21_method_9_code 2 (some .int) n0 h0 [] (fun v h' => v = some (.int w) ∧ h' = h0) (fun _ => True) h0 0 0 0 [.val (.ref b), .val (.int p2)] []
  refine aload_n (q1 := 1) d13_0 rfl rfl rfl ?_
  refine getfield (q1 := 4) d13_1 rfl (ww hw 44 rfl) Via.refl (B.2.2.2.1) ?_
  refine iload_n (q1 := 5) d13_4 rfl rfl ?_
  refine iaload (q1 := 6) d13_5 rfl (B.2.2.2.2.2.2.2.1) hi hlt hv ?_
  refine ret_i d13_6 rfl rfl ⟨rfl, rfl⟩
set_option maxRecDepth 65536 in
set_option maxHeartbeats 40000000 in
theorem c_size {l : Launch} {Z : State} {a0 : Array Value} (hw : ∀ d ∈ tables_1, d.before a0 Z = true) {n0 : Nat} {h0 : Heap} {b i1 i2 i3 : Addr} {fi fl fc : Nat → Value} {sz : Int32} (B : Blk Z h0 b i1 i2 i3 fi fl fc sz) : Con l Z n0 (⟨"com/example/bonsense/bonsense/index/SlotBlock", "size", "()I"⟩ : MethodName) prog_21_method_6_code 1 (some .int) ({ frames := 0, cells := 0, slots := 0, locals := 0 } : Room) [.ref b] h0 [] (fun v h' => v = some (.int sz) ∧ h' = h0) := by
  refine Con.of (Ls := [.val (.ref b)]) (by decide +kernel) (fun m => by first | rfl | simp [entryFrame, mkF, argsToLocals, Value.category]) (fun p e s m below meth c => ?_)
  show Wp false p l e ({ frames := 0, cells := 0, slots := 0, locals := 0 } : Room) s m ([.ref b] : List Value).toArray below meth c Z "com/example/bonsense/bonsense/index/SlotBlock" "size" prog_21_method_6_code 1 (some .int) n0 h0 [] (fun v h' => v = some (.int sz) ∧ h' = h0) (fun _ => True) h0 0 0 0 [.val (.ref b)] []
  refine aload_n (q1 := 1) d14_0 rfl rfl rfl ?_
  refine getfield (q1 := 4) d14_1 rfl (ww hw 51 rfl) Via.refl (B.2.2.2.2.1) ?_
  refine ret_i d14_4 rfl rfl ⟨rfl, rfl⟩
set_option maxRecDepth 65536 in
set_option maxHeartbeats 40000000 in
theorem law {l : Launch} {Z : State} {a0 : Array Value} (hw : ∀ d ∈ tables_1, d.before a0 Z = true) {n0 : Nat} {h0 : Heap} {p1 p2 p3 p4 z : Int32} (S : Cmpct Z z) : Con l Z n0 x code maxLocals ret room_1 [.int p1, .int p2, .int p3, .int p4] h0 [] (fun v h' => v = some (.int 1)) := by
  refine Con.of (Ls := [.val (.int p1), .val (.int p2), .val (.int p3), .val (.int p4), .unset, .unset, .unset, .unset, .unset, .unset, .unset, .unset, .unset, .unset]) (by decide +kernel) (fun m => by first | rfl | simp [entryFrame, mkF, argsToLocals, Value.category]) (fun p e s m below meth c => ?_)
  show Wp false p l e room_1 s m ([.int p1, .int p2, .int p3, .int p4] : List Value).toArray below meth c Z "com/example/bonsense/bonsense/index/SlotBlockEmptyPinLaw" "law" code maxLocals (some .boolean) n0 h0 [] (fun v h' => v = some (.int 1)) (fun _ => True) h0 0 0 0 [.val (.int p1), .val (.int p2), .val (.int p3), .val (.int p4), .unset, .unset, .unset, .unset, .unset, .unset, .unset, .unset, .unset, .unset] []
  obtain ⟨na, ha, hna⟩ := own_and255 p1
  have main : ∀ (cv : Int32) (nc : Nat), cv.toInt = (nc : Int) → nc < 256 → Wp false p l e room_1 s m ([.int p1, .int p2, .int p3, .int p4] : List Value).toArray below meth c Z "com/example/bonsense/bonsense/index/SlotBlockEmptyPinLaw" "law" code maxLocals (some .boolean) n0 h0 [] (fun v h' => v = some (.int 1)) (fun _ => True) h0 0 0 29 [.val (.int p1), .val (.int p2), .val (.int p3), .val (.int p4), .val (.int (p1 &&& 255)), .unset, .unset, .unset, .unset, .unset, .unset, .unset, .unset, .unset] [.int cv] := by
    intro cv nc hcv hnc
    refine istore (q1 := 31) at_29 rfl rfl ?_
    simp only [List.set_cons_zero, List.set_cons_succ]
    refine new (q1 := 34) at_31 rfl (ww hw 0 rfl) (ww hw 1 rfl) (ww hw 2 rfl) (by decide) (by decide) (fun S31 h31 E31 X31 D31 U31 => ?_)
    refine dup (q1 := 35) at_34 rfl rfl ?_
    refine iconst (q1 := 36) (v := 1) at_35 rfl rfl ?_
    refine newarray (q1 := 38) (len := 1) (cap := 1) at_36 rfl (ww hw 3 rfl) rfl (by decide) (by decide) (by decide) (by decide) (fun S36 h36 E36 A36 => ?_)
    refine dup (q1 := 39) at_38 rfl rfl ?_
    refine iconst (q1 := 40) (v := 0) at_39 rfl rfl ?_
    refine iload_n (q1 := 41) at_40 rfl rfl ?_
    refine sipush (q1 := 44) (v := 255) at_41 rfl rfl ?_
    refine iand (q1 := 45) at_44 rfl ?_
    refine i2c (q1 := 46) at_45 rfl ?_
    refine castore (q1 := 47) (i := 0) at_46 rfl (A36) rfl (by decide) (Or.inr S36) (fun h46 W46 => ?_)
    have V : Ary Z h46 h31.size .char 1 (fun _ => .int (p4 &&& 255)) := (A36.same W46).cong (fun t ht => by have e : t = 0 := (by omega); subst e; rw [if_pos rfl, own_c8])
    have ne : h0.size ≠ h31.size := Nat.ne_of_lt X31.lt
    have XS := (X31.ext E36).wr W46
    have FV := ((D31 (Or.inr (ww hw 29 rfl)) (ty := .array .byte) (by decide)).ext E36).other W46 (Or.inl ne)
    have FC := ((D31 (Or.inr (ww hw 27 rfl)) (ty := .byte) (by decide)).ext E36).other W46 (Or.inl ne)
    refine invokespecial (q1 := 50) at_47 rfl rfl (ww hw 4 rfl) (ww hw 5 rfl) (ww hw 2 rfl) (ww hw 6 rfl) (by decide) pd0 (c_si1 hw (len := 1) (lenI := 1) rfl (by decide) (by decide) XS FV FC V (fun _ _ => own_le255 p4) S) rfl rfl rfl rfl (allS (Or.inr (Nat.le_refl _)) all0) (fun v h47 q K47 => ?_)
    obtain ⟨rfl, XT, -, -, -⟩ := q
    refine astore (q1 := 52) at_50 rfl rfl rfl ?_
    simp only [List.set_cons_zero, List.set_cons_succ]
    refine new (q1 := 55) at_52 rfl (ww hw 30 rfl) (ww hw 31 rfl) (ww hw 32 rfl) (by decide) (by decide) (fun S52 h52 E52 X52 D52 U52 => ?_)
    refine dup (q1 := 56) at_55 rfl rfl ?_
    refine invokespecial (q1 := 59) at_56 rfl rfl (ww hw 33 rfl) (ww hw 34 rfl) (ww hw 32 rfl) (ww hw 35 rfl) (by decide) pd2 (c_init hw X52 (D52 (Or.inr (ww hw 40 rfl)) (ty := .array (.object "java/lang/String")) (by decide)) (D52 (Or.inr (ww hw 43 rfl)) (ty := .array .int) (by decide)) (D52 (Or.inr (ww hw 45 rfl)) (ty := .array .int) (by decide)) (D52 (Or.inl (ww hw 52 rfl)) (ty := .int) (by decide))) rfl rfl rfl rfl (allS (Or.inr S52) all0) (fun v h56 q K56 => ?_)
    obtain ⟨rfl, i1, i2, i3, hi1, B56⟩ := q
    have o1 : h47.size < i1 := B56.2.2.2.2.2.2.2.2.1
    have o2 : i1 < i2 := B56.2.2.2.2.2.2.2.2.2.1
    have o3 : i2 < i3 := B56.2.2.2.2.2.2.2.2.2.2
    have q1 : h47.size ≤ h52.size := E52.1
    have z1 : h0.size ≤ i1 := Nat.le_trans S52 (Nat.le_of_lt o1)
    have z2 : h0.size ≤ i2 := Nat.le_trans z1 (Nat.le_of_lt o2)
    have z3 : h0.size ≤ i3 := Nat.le_trans z2 (Nat.le_of_lt o3)
    refine astore (q1 := 61) at_59 rfl rfl rfl ?_
    simp only [List.set_cons_zero, List.set_cons_succ]
    refine aload (q1 := 63) at_61 rfl rfl rfl ?_
    refine iload (q1 := 65) at_63 rfl rfl ?_
    refine aload (q1 := 67) at_65 rfl rfl rfl ?_
    refine iload_n (q1 := 68) at_67 rfl rfl ?_
    refine iload_n (q1 := 69) at_68 rfl rfl ?_
    refine invokevirt (q1 := 72) at_69 rfl (ww hw 46 rfl) (ww hw 47 rfl) (ww hw 49 rfl) (ww hw 48 rfl) (ww hw 32 rfl) (ww hw 50 rfl) (by decide) pd6 (B56.1) (c_fill hw B56 ha hna (Ins.self ((XT.ext E52).keep K56))) rfl rfl rfl rfl (allS (Or.inr S52) (allS (Or.inr z1) (allS (Or.inr z2) (allS (Or.inr z3) all0)))) (fun v h69 q K69 => ?_)
    obtain ⟨rfl, B69⟩ := q
    have hs : (0 : Int32) < (p1 &&& 255) + 1 := by rw [own_lt, own_succ ha (by omega)]; have : (0 : Int32).toInt = 0 := rfl; omega
    rw [if_pos hs] at B69
    refine aload (q1 := 74) at_72 rfl rfl rfl ?_
    refine iload (q1 := 76) at_74 rfl rfl ?_
    refine invokevirt (q1 := 79) at_76 rfl (ww hw 57 rfl) (ww hw 58 rfl) (ww hw 60 rfl) (ww hw 59 rfl) (ww hw 32 rfl) (ww hw 61 rfl) (by decide) pd8 (B69.1) (c_empty hw B69 hcv hnc) rfl rfl rfl rfl (allS (Or.inr z1) (allS (Or.inr z2) (allS (Or.inr z3) all0))) (fun v h76 q K76 => ?_)
    obtain ⟨rfl, B76⟩ := q
    refine aload (q1 := 81) at_79 rfl rfl rfl ?_
    refine iload (q1 := 83) at_81 rfl rfl ?_
    refine invokevirt (q1 := 86) at_83 rfl (ww hw 62 rfl) (ww hw 63 rfl) (ww hw 65 rfl) (ww hw 64 rfl) (ww hw 32 rfl) (ww hw 66 rfl) (by decide) pd9 (B76.1) (c_id hw B76 hcv hnc (w := .null) (by simp) rfl) rfl rfl rfl rfl all0 (fun v h83 q _ => ?_)
    obtain ⟨rfl, rfl⟩ := q
    refine ifnonnull (q1 := 89) (q := 113) at_86 rfl ⟨by decide, rfl⟩ rfl (fun hq => absurd rfl hq) (fun _ => ?_)
    refine aload (q1 := 91) at_89 rfl rfl rfl ?_
    refine iload (q1 := 93) at_91 rfl rfl ?_
    refine invokevirt (q1 := 96) at_93 rfl (ww hw 67 rfl) (ww hw 68 rfl) (ww hw 70 rfl) (ww hw 69 rfl) (ww hw 32 rfl) (ww hw 71 rfl) (by decide) pd10 (B76.1) (c_len hw B76 hcv hnc (w := 0) (by simp)) rfl rfl rfl rfl all0 (fun v h93 q _ => ?_)
    obtain ⟨rfl, rfl⟩ := q
    refine if_ne (q1 := 99) (q := 113) at_96 rfl ⟨by decide, rfl⟩ (fun hq => absurd rfl hq) (fun _ => ?_)
    refine aload (q1 := 101) at_99 rfl rfl rfl ?_
    refine iload (q1 := 103) at_101 rfl rfl ?_
    refine invokevirt (q1 := 106) at_103 rfl (ww hw 72 rfl) (ww hw 73 rfl) (ww hw 75 rfl) (ww hw 74 rfl) (ww hw 32 rfl) (ww hw 76 rfl) (by decide) pd10 (B76.1) (c_cnt hw B76 hcv hnc (w := 0) (by simp)) rfl rfl rfl rfl all0 (fun v h103 q _ => ?_)
    obtain ⟨rfl, rfl⟩ := q
    refine if_ne (q1 := 109) (q := 113) at_106 rfl ⟨by decide, rfl⟩ (fun hq => absurd rfl hq) (fun _ => ?_)
    refine iconst (q1 := 110) (v := 1) at_109 rfl rfl ?_
    refine goto (q := 114) at_110 ⟨by decide, rfl⟩ ?_
    refine istore (q1 := 116) at_114 rfl rfl ?_
    simp only [List.set_cons_zero, List.set_cons_succ]
    refine aload (q1 := 118) at_116 rfl rfl rfl ?_
    refine invokevirt (q1 := 121) at_118 rfl (ww hw 77 rfl) (ww hw 78 rfl) (ww hw 80 rfl) (ww hw 79 rfl) (ww hw 32 rfl) (ww hw 81 rfl) (by decide) pd11 (B76.1) (c_size hw B76) rfl rfl rfl rfl all0 (fun v h118 q _ => ?_)
    obtain ⟨rfl, rfl⟩ := q
    refine iload (q1 := 123) at_121 rfl rfl ?_
    refine iconst (q1 := 124) (v := 1) at_123 rfl rfl ?_
    refine iadd (q1 := 125) at_124 rfl ?_
    refine icmp_ne (q1 := 128) (q := 132) at_125 rfl ⟨by decide, rfl⟩ (fun hq => absurd rfl hq) (fun _ => ?_)
    refine iconst (q1 := 129) (v := 1) at_128 rfl rfl ?_
    refine goto (q := 133) at_129 ⟨by decide, rfl⟩ ?_
    refine istore (q1 := 135) at_133 rfl rfl ?_
    simp only [List.set_cons_zero, List.set_cons_succ]
    refine aload (q1 := 137) at_135 rfl rfl rfl ?_
    refine iload (q1 := 139) at_137 rfl rfl ?_
    by_cases hca : na = nc
    · have hcv' : p1 &&& 255 = cv := own_eq (by rw [ha, hcv, hca])
      refine invokevirt (q1 := 142) at_139 rfl (ww hw 62 rfl) (ww hw 63 rfl) (ww hw 65 rfl) (ww hw 64 rfl) (ww hw 32 rfl) (ww hw 66 rfl) (by decide) pd9 (B76.1) (c_id hw B76 ha hna (w := .null) (by simp [hca]) rfl) rfl rfl rfl rfl all0 (fun v h139 q _ => ?_)
      obtain ⟨rfl, rfl⟩ := q
      refine astore (q1 := 144) at_142 rfl rfl rfl ?_
      simp only [List.set_cons_zero, List.set_cons_succ]
      refine aload (q1 := 146) at_144 rfl rfl rfl ?_
      refine iload (q1 := 148) at_146 rfl rfl ?_
      refine invokevirt (q1 := 151) at_148 rfl (ww hw 67 rfl) (ww hw 68 rfl) (ww hw 70 rfl) (ww hw 69 rfl) (ww hw 32 rfl) (ww hw 71 rfl) (by decide) pd10 (B76.1) (c_len hw B76 ha hna (w := 0) (by simp [hca])) rfl rfl rfl rfl all0 (fun v h148 q _ => ?_)
      obtain ⟨rfl, rfl⟩ := q
      refine istore (q1 := 153) at_151 rfl rfl ?_
      simp only [List.set_cons_zero, List.set_cons_succ]
      refine aload (q1 := 155) at_153 rfl rfl rfl ?_
      refine iload (q1 := 157) at_155 rfl rfl ?_
      refine invokevirt (q1 := 160) at_157 rfl (ww hw 72 rfl) (ww hw 73 rfl) (ww hw 75 rfl) (ww hw 74 rfl) (ww hw 32 rfl) (ww hw 76 rfl) (by decide) pd10 (B76.1) (c_cnt hw B76 ha hna (w := 0) (by simp [hca])) rfl rfl rfl rfl all0 (fun v h157 q _ => ?_)
      obtain ⟨rfl, rfl⟩ := q
      refine istore (q1 := 162) at_160 rfl rfl ?_
      simp only [List.set_cons_zero, List.set_cons_succ]
      refine iload (q1 := 164) at_162 rfl rfl ?_
      refine iload (q1 := 166) at_164 rfl rfl ?_
      refine icmp_ne (q1 := 169) (q := 194) at_166 rfl ⟨by decide, rfl⟩ (fun hq => absurd hcv'.symm hq) (fun _ => ?_)
      refine aload (q1 := 171) at_169 rfl rfl rfl ?_
      refine ifnonnull (q1 := 174) (q := 188) at_171 rfl ⟨by decide, rfl⟩ rfl (fun hq => absurd rfl hq) (fun _ => ?_)
      refine iload (q1 := 176) at_174 rfl rfl ?_
      refine if_ne (q1 := 179) (q := 188) at_176 rfl ⟨by decide, rfl⟩ (fun hq => absurd rfl hq) (fun _ => ?_)
      refine iload (q1 := 181) at_179 rfl rfl ?_
      refine if_ne (q1 := 184) (q := 188) at_181 rfl ⟨by decide, rfl⟩ (fun hq => absurd rfl hq) (fun _ => ?_)
      refine iconst (q1 := 185) (v := 1) at_184 rfl rfl ?_
      refine goto (q := 189) at_185 ⟨by decide, rfl⟩ ?_
      refine istore (q1 := 191) at_189 rfl rfl ?_
      simp only [List.set_cons_zero, List.set_cons_succ]
      refine goto (q := 220) at_191 ⟨by decide, rfl⟩ ?_
      refine iload (q1 := 222) at_220 rfl rfl ?_
      refine if_eq (q1 := 225) (q := 239) at_222 rfl ⟨by decide, rfl⟩ (fun hq => absurd hq (by decide)) (fun _ => ?_)
      refine iload (q1 := 227) at_225 rfl rfl ?_
      refine if_eq (q1 := 230) (q := 239) at_227 rfl ⟨by decide, rfl⟩ (fun hq => absurd hq (by decide)) (fun _ => ?_)
      refine iload (q1 := 232) at_230 rfl rfl ?_
      refine if_eq (q1 := 235) (q := 239) at_232 rfl ⟨by decide, rfl⟩ (fun hq => absurd hq (by decide)) (fun _ => ?_)
      refine iconst (q1 := 236) (v := 1) at_235 rfl rfl ?_
      refine goto (q := 240) at_236 ⟨by decide, rfl⟩ ?_
      refine ret_n (t := .boolean) at_240 rfl (by simp) rfl rfl
    · have hcv' : ¬ cv = p1 &&& 255 := fun q => hca (by rw [q, ha] at hcv; omega)
      refine invokevirt (q1 := 142) at_139 rfl (ww hw 62 rfl) (ww hw 63 rfl) (ww hw 65 rfl) (ww hw 64 rfl) (ww hw 32 rfl) (ww hw 66 rfl) (by decide) pd9 (B76.1) (c_id hw B76 ha hna (w := .ref h0.size) (by simp [hca]) rfl) rfl rfl rfl rfl all0 (fun v h139 q _ => ?_)
      obtain ⟨rfl, rfl⟩ := q
      refine astore (q1 := 144) at_142 rfl rfl rfl ?_
      simp only [List.set_cons_zero, List.set_cons_succ]
      refine aload (q1 := 146) at_144 rfl rfl rfl ?_
      refine iload (q1 := 148) at_146 rfl rfl ?_
      refine invokevirt (q1 := 151) at_148 rfl (ww hw 67 rfl) (ww hw 68 rfl) (ww hw 70 rfl) (ww hw 69 rfl) (ww hw 32 rfl) (ww hw 71 rfl) (by decide) pd10 (B76.1) (c_len hw B76 ha hna (w := p2) (by simp [hca])) rfl rfl rfl rfl all0 (fun v h148 q _ => ?_)
      obtain ⟨rfl, rfl⟩ := q
      refine istore (q1 := 153) at_151 rfl rfl ?_
      simp only [List.set_cons_zero, List.set_cons_succ]
      refine aload (q1 := 155) at_153 rfl rfl rfl ?_
      refine iload (q1 := 157) at_155 rfl rfl ?_
      refine invokevirt (q1 := 160) at_157 rfl (ww hw 72 rfl) (ww hw 73 rfl) (ww hw 75 rfl) (ww hw 74 rfl) (ww hw 32 rfl) (ww hw 76 rfl) (by decide) pd10 (B76.1) (c_cnt hw B76 ha hna (w := p3) (by simp [hca])) rfl rfl rfl rfl all0 (fun v h157 q _ => ?_)
      obtain ⟨rfl, rfl⟩ := q
      refine istore (q1 := 162) at_160 rfl rfl ?_
      simp only [List.set_cons_zero, List.set_cons_succ]
      refine iload (q1 := 164) at_162 rfl rfl ?_
      refine iload (q1 := 166) at_164 rfl rfl ?_
      refine icmp_ne (q1 := 169) (q := 194) at_166 rfl ⟨by decide, rfl⟩ (fun _ => ?_) (fun hq => absurd hq hcv')
      refine aload (q1 := 196) at_194 rfl rfl rfl ?_
      refine aload (q1 := 198) at_196 rfl rfl rfl ?_
      refine acmp_ne (q1 := 201) (q := 217) at_198 rfl ⟨by decide, rfl⟩ rfl rfl (fun hq => absurd rfl hq) (fun _ => ?_)
      refine iload (q1 := 203) at_201 rfl rfl ?_
      refine iload_n (q1 := 204) at_203 rfl rfl ?_
      refine icmp_ne (q1 := 207) (q := 217) at_204 rfl ⟨by decide, rfl⟩ (fun hq => absurd rfl hq) (fun _ => ?_)
      refine iload (q1 := 209) at_207 rfl rfl ?_
      refine iload_n (q1 := 210) at_209 rfl rfl ?_
      refine icmp_ne (q1 := 213) (q := 217) at_210 rfl ⟨by decide, rfl⟩ (fun hq => absurd rfl hq) (fun _ => ?_)
      refine iconst (q1 := 214) (v := 1) at_213 rfl rfl ?_
      refine goto (q := 218) at_214 ⟨by decide, rfl⟩ ?_
      refine istore (q1 := 220) at_218 rfl rfl ?_
      simp only [List.set_cons_zero, List.set_cons_succ]
      refine iload (q1 := 222) at_220 rfl rfl ?_
      refine if_eq (q1 := 225) (q := 239) at_222 rfl ⟨by decide, rfl⟩ (fun hq => absurd hq (by decide)) (fun _ => ?_)
      refine iload (q1 := 227) at_225 rfl rfl ?_
      refine if_eq (q1 := 230) (q := 239) at_227 rfl ⟨by decide, rfl⟩ (fun hq => absurd hq (by decide)) (fun _ => ?_)
      refine iload (q1 := 232) at_230 rfl rfl ?_
      refine if_eq (q1 := 235) (q := 239) at_232 rfl ⟨by decide, rfl⟩ (fun hq => absurd hq (by decide)) (fun _ => ?_)
      refine iconst (q1 := 236) (v := 1) at_235 rfl rfl ?_
      refine goto (q := 240) at_236 ⟨by decide, rfl⟩ ?_
      refine ret_n (t := .boolean) at_240 rfl (by simp) rfl rfl
  refine iload_n (q1 := 1) at_0 rfl rfl ?_
  refine sipush (q1 := 4) (v := 255) at_1 rfl rfl ?_
  refine iand (q1 := 5) at_4 rfl ?_
  refine istore (q1 := 7) at_5 rfl rfl ?_
  simp only [List.set_cons_zero, List.set_cons_succ]
  refine iload_n (q1 := 8) at_7 rfl rfl ?_
  refine bipush (q1 := 10) (v := 16) at_8 rfl rfl ?_
  refine iushr (q1 := 11) at_10 rfl ?_
  refine iconst (q1 := 12) (v := 1) at_11 rfl rfl ?_
  refine iand (q1 := 13) at_12 rfl ?_
  refine if_eq (q1 := 16) (q := 21) at_13 rfl ⟨by decide, rfl⟩ (fun _ => ?_) (fun _ => ?_)
  · refine iload_n (q1 := 22) at_21 rfl rfl ?_
    refine bipush (q1 := 24) (v := 8) at_22 rfl rfl ?_
    refine iushr (q1 := 25) at_24 rfl ?_
    refine sipush (q1 := 28) (v := 255) at_25 rfl rfl ?_
    refine iand (q1 := 29) at_28 rfl ?_
    obtain ⟨nc, hc1, hc2⟩ := own_and255 ((p1.toUInt32 >>> ((8 : Int32) &&& 31).toUInt32).toInt32)
    exact main _ nc hc1 hc2
  · refine iload (q1 := 18) at_16 rfl rfl ?_
    refine goto (q := 29) at_18 ⟨by decide, rfl⟩ ?_
    exact main _ na ha hna
set_option maxRecDepth 65536 in
set_option maxHeartbeats 40000000 in
theorem comes_1 {Post : Tables → Env → Array Value → State → Outcome → State → Prop} (hpost : ∀ tb e args s v u, (limb_1_1.after args s (.returned v) u = true ∧ limb_1_2.after args s (.returned v) u = true ∧ True) → FrameEnd s (.returned v) u (Jvm.fieldLocs frame_1_writes args s ++ Jvm.arrayLocs frame_1_arrays args s ++ Jvm.staticLocs frame_1_statics s) 24 1664 → Post tb e args s (.returned v) u) :
    ArmFor flags0 classFile x code maxLocals ret World_1 tables_1 room_1 Calls_1 rest_1 Pre_1 Post := by
  intro l hfl _ _ p e ha hc hk s m args below hf hA hF happ hP
  obtain ⟨hcalls, hrest, hpre⟩ := hP
  obtain ⟨-, -, -, hnamed, -, -, -, hat⟩ := (Spec.applies_iff hf).mp happ
  obtain ⟨hg, hn⟩ := and_e (Cond.before_iff.mp (show (Jvm.Cond.and given_1 narrow_1).before args s = true from hpre))
  obtain ⟨g1, g2⟩ := and_e hg
  obtain ⟨g3, g4⟩ := and_e g2
  obtain ⟨g5, g6⟩ := and_e g4
  obtain ⟨g7, g8⟩ := and_e g6
  obtain ⟨w0, w1, w2, w3, rfl⟩ : ∃ w0 w1 w2 w3 : Value, args = #[w0, w1, w2, w3] := by
    have hs : args.size = 4 := by simpa [Cond.value, given_1] using g1
    obtain ⟨L⟩ := args
    match L, hs with
    | [w0, w1, w2, w3], _ => exact ⟨w0, w1, w2, w3, rfl⟩
  have hw := fun d (hd : d ∈ tables_1) => atoms_spec (ws := Jvm.Cond.code x code maxLocals ret :: tables_1) hat d (List.mem_cons_of_mem _ hd)
  have hfit : Fit s := fun {y c} hc i hi => by
    obtain ⟨ha, rfl⟩ := Array.getElem?_eq_some_iff.mp hc
    have q := List.all_eq_true.mp ((Array.all_eq_true_iff_forall_mem.mp hF) _ (Array.getElem_mem ha)) i (List.mem_range.mpr hi)
    simpa [Array.getElem?_eq_getElem hi] using q
  obtain ⟨hsets, hown0⟩ := atoms_of _ (rest_1_c_eq ▸ (show rest_1_c.before _ s = true from hrest))
  obtain ⟨i0, ei0⟩ := is_v g3
  obtain rfl : w0 = (.int i0) := Option.some.inj ei0
  obtain ⟨i1, ei1⟩ := is_v g5
  obtain rfl : w1 = (.int i1) := Option.some.inj ei1
  obtain ⟨i2, ei2⟩ := is_v g7
  obtain rfl : w2 = (.int i2) := Option.some.inj ei2
  obtain ⟨i3, ei3⟩ := is_v g8
  obtain rfl : w3 = (.int i3) := Option.some.inj ei3
  obtain ⟨z, ez⟩ := is_v (Cond.before_iff.mp (hsets _ (List.mem_of_getElem? (i := 1) rfl)))
  have S : Cmpct s z := ⟨Sta.start ez (Or.inl (hsets _ (List.mem_of_getElem? (i := 0) rfl))), gotF (Cond.eq_ints ez (Term.int_eval (0))) (not_v (Cond.before_iff.mp (hsets _ (List.mem_of_getElem? (i := 2) rfl))))⟩
  obtain ⟨n, o, h1, h2, h3, _, L, rfl, ⟨rfl, N, -⟩, hq⟩ := law (l := l) hw (p1 := i0) (p2 := i1) (p3 := i2) (p4 := i3) S (Old.start s) all0 tables_1 p e ha hc hk s m _ below hf ((Spec.applies_iff_loose hf).mp happ).1 ⟨rfl, State.Warmed39.refl s, rfl⟩ trivial
  refine ⟨n, _, h1, h2, h3, hpost _ _ _ _ _ _ ⟨Cond.after_iff.mpr rfl, Cond.after_iff.mpr (eq_i res_at (Term.int_eval (1)) rfl), trivial⟩ ⟨hq.1, hq.2.1, (hq.2.2.sift fun y hy => Or.inr ((N y hy).elim (fun q => nomatch q) id)).mono (by decide) (by decide)⟩⟩
theorem main_1_1 : Claimed_1_1 := comes_1 fun _ _ _ _ _ _ h hF => ⟨h.1, hF⟩
theorem main_1_2 : Claimed_1_2 := comes_1 fun _ _ _ _ _ _ h hF => ⟨h.2.1, hF⟩
end Jvm.Pilot.@@N@@
namespace Jvm.Pilot.@@N@@
open Jvm Jvm.ClassFile Sem Op Lib Jvm.Free Jvm.Stand Jvm.Pilot.@@N@@.Jvm.D
/-! MADE BY PROGRAM (witnessworld.py) out of the Statement's table words and the real class files: 22 classes; the members and pool entries that the words name. The judged class is class 1, her method 1. -/
namespace start1
open Jvm.ClassFile
def u (s : String) : CpInfo := .utf8 (stringToUtf16 s)
/-- a pool by its gaps: so many unusable entries, then the entry; so many at the end -/
def gap : Nat → List CpInfo → List CpInfo
  | 0, r => r
  | n + 1, r => .unusable :: gap n r
def poolList (es : List (Nat × CpInfo)) (last : Nat) : List CpInfo := es.foldr (fun e r => gap e.1 (e.2 :: r)) (gap last [])
def pool (es : List (Nat × CpInfo)) (last : Nat) : Array CpInfo := ⟨poolList es last⟩
def fileOf (pool : Array CpInfo) (this : Nat) (attrs : Array Attribute := #[]) (ms : Array MethodInfo := #[]) (fl : Nat := 33) (sup : Nat := 0) (ifs : Array Nat := #[]) (fds : Array FieldInfo := #[]) : ClassFile where
  minorVersion := 0
  majorVersion := 65
  constantPool := pool
  accessFlags := fl
  thisClass := this
  superClass := sup
  interfaces := ifs
  fields := fds
  methods := ms
  attributes := attrs
def plain (name : String) (sup : Option ClassId) : Class where
  name := name
  kind := .ordinary
  loader := none
  accessFlags := 33
  super := sup
  interfaces := #[]
  cf := none
  fields := #[]
  methods := #[]
  instanceTypes := #[]
  staticTypes := #[]
  resolved := #[]
  callSites := []
  init := .initialized
  statics := none
  mirror := none

def pool0 : Array CpInfo := pool [(5, u "<init>"), (0, u "()V"), (1, .class_ 10), (1, u "java/lang/Object")] 113

def k0c0 : Code := { maxStack := 0, maxLocals := 1, code := object_method_1_code, exceptionTable := #[], attributes := #[] }
def k0m0 : Method := { name := "<init>", desc := "()V", sig := { parameters := [], returnType := none }, accessFlags := 1, code := some k0c0 }
/-- java/lang/Object -/
def k0 : Class := { plain "java/lang/Object" none with
  accessFlags := 33
  interfaces := #[]
  cf := some (fileOf pool0 8 #[] #[{ accessFlags := 1, nameIndex := 5, descriptorIndex := 6, attributes := #[] }] 33 0 #[] #[])
  fields := #[]
  methods := #[k0m0]
  instanceTypes := #[]
  staticTypes := #[]
  resolved := Array.replicate 124 none
  statics := none }

def pool1 : Array CpInfo := pool [(2, .class_ 4), (0, .nameAndType 5 6), (0, u "java/lang/Object"), (0, u "<init>"), (0, u "()V"), (0, .class_ 8), (0, u "java/lang/String"), (0, .methodref 7 10), (0, .nameAndType 5 11), (0, u "([C)V"), (0, .class_ 13), (0, u "com/example/bonsense/bonsense/index/SlotBlock"), (0, .methodref 12 3), (0, .methodref 12 16), (0, .nameAndType 17 18), (0, u "fill"), (0, u "(ILjava/lang/String;II)V"), (0, .methodref 12 20), (0, .nameAndType 21 22), (0, u "empty"), (0, u "(I)V"), (0, .methodref 12 24), (0, .nameAndType 25 26), (0, u "id"), (0, u "(I)Ljava/lang/String;"), (0, .methodref 12 28), (0, .nameAndType 29 30), (0, u "length"), (0, u "(I)I"), (0, .methodref 12 32), (0, .nameAndType 33 30), (0, u "largestCount"), (0, .methodref 12 35), (0, .nameAndType 36 37), (0, u "size"), (0, u "()I"), (0, .class_ 39), (0, u "com/example/bonsense/bonsense/index/SlotBlockEmptyPinLaw"), (2, u "law"), (0, u "(IIII)Z")] 3

def k1m0 : Method := { name := "<init>", desc := "()V", sig := { parameters := [], returnType := none }, accessFlags := 1, code := none }
def k1c1 : Code := { maxStack := 7, maxLocals := 14, code := code, exceptionTable := #[], attributes := #[] }
def k1m1 : Method := { name := "law", desc := "(IIII)Z", sig := { parameters := [.int, .int, .int, .int], returnType := some .boolean }, accessFlags := 9, code := some k1c1 }
/-- com/example/bonsense/bonsense/index/SlotBlockEmptyPinLaw -/
def k1 : Class := { plain "com/example/bonsense/bonsense/index/SlotBlockEmptyPinLaw" (some 0) with
  accessFlags := 49
  interfaces := #[]
  cf := some (fileOf pool1 38 #[] #[{ accessFlags := 1, nameIndex := 5, descriptorIndex := 6, attributes := #[] }, { accessFlags := 9, nameIndex := 42, descriptorIndex := 43, attributes := #[] }] 49 2 #[] #[])
  fields := #[]
  methods := #[k1m0, k1m1]
  instanceTypes := #[]
  staticTypes := #[]
  resolved := Array.replicate 47 none
  statics := none }

def pool2 : Array CpInfo := pool [(1, .class_ 2), (0, u "java/io/Serializable"), (0, .class_ 4), (0, u "java/lang/Object")] 2

/-- java/io/Serializable -/
def k2 : Class := { plain "java/io/Serializable" (some 0) with
  accessFlags := 1537
  interfaces := #[]
  cf := some (fileOf pool2 1 #[] #[] 1537 3 #[] #[])
  fields := #[]
  methods := #[]
  instanceTypes := #[]
  staticTypes := #[]
  resolved := Array.replicate 7 none
  statics := none }

def pool3 : Array CpInfo := pool [(1, .class_ 2), (0, u "java/lang/Comparable"), (0, .class_ 4), (0, u "java/lang/Object")] 7

/-- java/lang/Comparable -/
def k3 : Class := { plain "java/lang/Comparable" (some 0) with
  accessFlags := 1537
  interfaces := #[]
  cf := some (fileOf pool3 1 #[] #[] 1537 3 #[] #[])
  fields := #[]
  methods := #[]
  instanceTypes := #[]
  staticTypes := #[]
  resolved := Array.replicate 12 none
  statics := none }

def pool4 : Array CpInfo := pool [(2, .class_ 4), (1, u "java/lang/CharSequence"), (42, .class_ 48), (0, u "java/lang/CharSequence$1CodePointIterator"), (10, .class_ 60), (0, u "java/lang/CharSequence$1CharIterator"), (5, .class_ 67), (0, u "java/lang/Object")] 63

/-- java/lang/CharSequence -/
def k4 : Class := { plain "java/lang/CharSequence" (some 0) with
  accessFlags := 1537
  interfaces := #[]
  cf := some (fileOf pool4 2 #[.nestMembers #[47, 59]] #[] 1537 66 #[] #[])
  fields := #[]
  methods := #[]
  instanceTypes := #[]
  staticTypes := #[]
  resolved := Array.replicate 131 none
  statics := none }

def pool5 : Array CpInfo := pool [(1, .class_ 2), (0, u "java/lang/constant/Constable"), (0, .class_ 4), (0, u "java/lang/Object")] 6

/-- java/lang/constant/Constable -/
def k5 : Class := { plain "java/lang/constant/Constable" (some 0) with
  accessFlags := 1537
  interfaces := #[]
  cf := some (fileOf pool5 1 #[] #[] 1537 3 #[] #[])
  fields := #[]
  methods := #[]
  instanceTypes := #[]
  staticTypes := #[]
  resolved := Array.replicate 11 none
  statics := none }

def pool6 : Array CpInfo := pool [(1, .class_ 2), (0, u "java/lang/constant/ConstantDesc"), (0, .class_ 4), (0, u "java/lang/Object")] 32

/-- java/lang/constant/ConstantDesc -/
def k6 : Class := { plain "java/lang/constant/ConstantDesc" (some 0) with
  accessFlags := 1537
  interfaces := #[]
  cf := some (fileOf pool6 1 #[] #[] 1537 3 #[] #[])
  fields := #[]
  methods := #[]
  instanceTypes := #[]
  staticTypes := #[]
  resolved := Array.replicate 37 none
  statics := none }

def pool7 : Array CpInfo := pool [(1, .methodref 2 3), (0, .class_ 4), (0, .nameAndType 5 6), (0, u "java/lang/Object"), (0, u "<init>"), (0, u "()V"), (2, .fieldref 10 11), (0, .class_ 12), (0, .nameAndType 13 14), (0, u "java/lang/String"), (0, u "value"), (0, u "[B"), (0, .fieldref 10 16), (0, .nameAndType 17 18), (0, u "coder"), (0, u "B"), (2, u "hash"), (0, u "I"), (2, u "hashIsZero"), (0, u "Z"), (0, .methodref 10 28), (0, .nameAndType 5 29), (0, u "([CIILjava/lang/Void;)V"), (8, .fieldref 10 39), (0, .nameAndType 40 26), (0, u "COMPACT_STRINGS"), (1, .class_ 44), (1, u "java/lang/StringUTF16"), (0, u "compress"), (1, .methodref 42 48), (0, .nameAndType 49 50), (0, u "coderFromArrayLen"), (0, u "([BI)B"), (126, .methodref 42 178), (0, .nameAndType 45 179), (0, u "([CII)[B"), (395, .class_ 576), (0, u "java/lang/CharSequence"), (22, u "CASE_INSENSITIVE_ORDER"), (0, u "Ljava/util/Comparator;"), (409, u "([C)V"), (90, u "serialPersistentFields"), (0, u "[Ljava/io/ObjectStreamField;"), (0, .class_ 1104), (0, u "java/lang/String$CaseInsensitiveComparator"), (1, .class_ 1107), (0, u "java/io/Serializable"), (0, .class_ 1109), (0, u "java/lang/Comparable"), (0, .class_ 1111), (0, u "java/lang/constant/Constable"), (0, .class_ 1113), (0, u "java/lang/constant/ConstantDesc"), (2, u "serialVersionUID"), (0, u "J"), (3, u "REPL"), (0, u "C"), (2, u "LATIN1"), (1, u "UTF16")] 323

def k7m0 : Method := { name := "<init>", desc := "()V", sig := { parameters := [], returnType := none }, accessFlags := 1, code := none }
def k7c1 : Code := { maxStack := 5, maxLocals := 2, code := jdk_42_method_3_code, exceptionTable := #[], attributes := #[] }
def k7m1 : Method := { name := "<init>", desc := "([C)V", sig := { parameters := [(.array .char)], returnType := none }, accessFlags := 1, code := some k7c1 }
def k7c2 : Code := { maxStack := 4, maxLocals := 6, code := jdk_42_method_149_code, exceptionTable := #[], attributes := #[] }
def k7m2 : Method := { name := "<init>", desc := "([CIILjava/lang/Void;)V", sig := { parameters := [(.array .char), .int, .int, (.object "java/lang/Void")], returnType := none }, accessFlags := 2, code := some k7c2 }
/-- java/lang/String -/
def k7 : Class := { plain "java/lang/String" (some 0) with
  accessFlags := 49
  interfaces := #[2, 3, 4, 5, 6]
  cf := some (fileOf pool7 10 #[.nestMembers #[1103]] #[{ accessFlags := 1, nameIndex := 5, descriptorIndex := 6, attributes := #[] }, { accessFlags := 1, nameIndex := 5, descriptorIndex := 1010, attributes := #[] }, { accessFlags := 2, nameIndex := 5, descriptorIndex := 29, attributes := #[] }] 49 2 #[1106, 1108, 575, 1110, 1112] #[{ accessFlags := 18, nameIndex := 13, descriptorIndex := 14, attributes := #[] }, { accessFlags := 18, nameIndex := 17, descriptorIndex := 18, attributes := #[] }, { accessFlags := 2, nameIndex := 21, descriptorIndex := 22, attributes := #[] }, { accessFlags := 2, nameIndex := 25, descriptorIndex := 26, attributes := #[] }, { accessFlags := 26, nameIndex := 1116, descriptorIndex := 1117, attributes := #[] }, { accessFlags := 24, nameIndex := 40, descriptorIndex := 26, attributes := #[] }, { accessFlags := 26, nameIndex := 1101, descriptorIndex := 1102, attributes := #[] }, { accessFlags := 26, nameIndex := 1121, descriptorIndex := 1122, attributes := #[] }, { accessFlags := 25, nameIndex := 599, descriptorIndex := 600, attributes := #[] }, { accessFlags := 24, nameIndex := 1125, descriptorIndex := 18, attributes := #[] }, { accessFlags := 24, nameIndex := 1127, descriptorIndex := 18, attributes := #[] }])
  fields := #[{ name := "value", type := (.array .byte), accessFlags := 18, slot := 0, constantValue := 0 }, { name := "coder", type := .byte, accessFlags := 18, slot := 1, constantValue := 0 }, { name := "hash", type := .int, accessFlags := 2, slot := 2, constantValue := 0 }, { name := "hashIsZero", type := .boolean, accessFlags := 2, slot := 3, constantValue := 0 }, { name := "serialVersionUID", type := .long, accessFlags := 26, slot := 0, constantValue := 0 }, { name := "COMPACT_STRINGS", type := .boolean, accessFlags := 24, slot := 1, constantValue := 0 }, { name := "serialPersistentFields", type := (.array (.object "java/io/ObjectStreamField")), accessFlags := 26, slot := 2, constantValue := 0 }, { name := "REPL", type := .char, accessFlags := 26, slot := 3, constantValue := 0 }, { name := "CASE_INSENSITIVE_ORDER", type := (.object "java/util/Comparator"), accessFlags := 25, slot := 4, constantValue := 0 }, { name := "LATIN1", type := .byte, accessFlags := 24, slot := 5, constantValue := 0 }, { name := "UTF16", type := .byte, accessFlags := 24, slot := 6, constantValue := 0 }]
  methods := #[k7m0, k7m1, k7m2]
  instanceTypes := #[(.array .byte), .byte, .int, .boolean]
  staticTypes := #[.long, .boolean, (.array (.object "java/io/ObjectStreamField")), .char, (.object "java/util/Comparator"), .byte, .byte]
  resolved := Array.replicate 1451 none
  statics := some 0 }

def pool8 : Array CpInfo := pool [(6, .class_ 8), (1, u "java/lang/Object"), (0, u "<init>"), (0, u "()V"), (1, .class_ 14), (1, u "java/lang/StringUTF16"), (31, u "$assertionsDisabled"), (0, u "Z"), (13, u "HI_BYTE_SHIFT"), (0, u "I"), (2, u "LO_BYTE_SHIFT"), (49, .methodref 12 116), (0, .nameAndType 117 118), (0, u "compress"), (0, u "([CI[BII)I"), (3, u "([CII)[B"), (138, u "coderFromArrayLen"), (0, u "([BI)B"), (106, .class_ 371), (1, u "java/lang/StringUTF16$LinesSpliterator"), (58, u "MAX_LENGTH"), (196, .class_ 628), (0, u "java/lang/StringUTF16$CodePointsSpliterator"), (0, .class_ 630), (0, u "java/lang/StringUTF16$CharsSpliterator")] 4

def k8m0 : Method := { name := "<init>", desc := "()V", sig := { parameters := [], returnType := none }, accessFlags := 0, code := none }
def k8c1 : Code := { maxStack := 2, maxLocals := 2, code := jdk_52_method_15_code, exceptionTable := #[], attributes := #[] }
def k8m1 : Method := { name := "coderFromArrayLen", desc := "([BI)B", sig := { parameters := [(.array .byte), .int], returnType := some .byte }, accessFlags := 8, code := some k8c1 }
def k8c2 : Code := { maxStack := 5, maxLocals := 6, code := jdk_52_method_16_code, exceptionTable := #[], attributes := #[] }
def k8m2 : Method := { name := "compress", desc := "([CII)[B", sig := { parameters := [(.array .char), .int, .int], returnType := some (.array .byte) }, accessFlags := 9, code := some k8c2 }
def k8c3 : Code := { maxStack := 3, maxLocals := 7, code := jdk_52_method_21_code, exceptionTable := #[], attributes := #[] }
def k8m3 : Method := { name := "compress", desc := "([CI[BII)I", sig := { parameters := [(.array .char), .int, (.array .byte), .int, .int], returnType := some .int }, accessFlags := 9, code := some k8c3 }
/-- java/lang/StringUTF16 -/
def k8 : Class := { plain "java/lang/StringUTF16" (some 0) with
  accessFlags := 48
  interfaces := #[]
  cf := some (fileOf pool8 12 #[.nestMembers #[627, 629, 369]] #[{ accessFlags := 0, nameIndex := 9, descriptorIndex := 10, attributes := #[] }, { accessFlags := 8, nameIndex := 261, descriptorIndex := 262, attributes := #[] }, { accessFlags := 9, nameIndex := 117, descriptorIndex := 122, attributes := #[] }, { accessFlags := 9, nameIndex := 117, descriptorIndex := 118, attributes := #[] }] 48 6 #[] #[{ accessFlags := 26, nameIndex := 61, descriptorIndex := 62, attributes := #[] }, { accessFlags := 26, nameIndex := 65, descriptorIndex := 62, attributes := #[] }, { accessFlags := 24, nameIndex := 430, descriptorIndex := 62, attributes := #[] }, { accessFlags := 4120, nameIndex := 46, descriptorIndex := 47, attributes := #[] }])
  fields := #[{ name := "HI_BYTE_SHIFT", type := .int, accessFlags := 26, slot := 0, constantValue := 0 }, { name := "LO_BYTE_SHIFT", type := .int, accessFlags := 26, slot := 1, constantValue := 0 }, { name := "MAX_LENGTH", type := .int, accessFlags := 24, slot := 2, constantValue := 0 }, { name := "$assertionsDisabled", type := .boolean, accessFlags := 4120, slot := 3, constantValue := 0 }]
  methods := #[k8m0, k8m1, k8m2, k8m3]
  instanceTypes := #[]
  staticTypes := #[.int, .int, .int, .boolean]
  resolved := Array.replicate 635 none
  statics := none }

def pool9 : Array CpInfo := pool [(1, .methodref 2 3), (0, .class_ 4), (0, .nameAndType 5 6), (0, u "java/lang/Object"), (0, u "<init>"), (0, u "()V"), (0, .class_ 8), (0, u "com/example/bonsense/bonsense/index/SlotBlock"), (0, .class_ 10), (0, u "java/lang/String"), (0, .fieldref 7 12), (0, .nameAndType 13 14), (0, u "ids"), (0, u "[Ljava/lang/String;"), (0, .fieldref 7 16), (0, .nameAndType 17 18), (0, u "lengths"), (0, u "[I"), (0, .fieldref 7 20), (0, .nameAndType 21 18), (0, u "largestCounts"), (11, u "()I"), (0, .fieldref 7 35), (0, .nameAndType 36 37), (0, u "size"), (0, u "I"), (19, .methodref 58 59), (0, .class_ 60), (0, .nameAndType 61 62), (0, u "java/lang/Math"), (0, u "max"), (0, u "(II)I"), (0, u "SIZE"), (8, u "fill"), (0, u "(ILjava/lang/String;II)V"), (0, u "empty"), (0, u "(I)V"), (0, u "id"), (0, u "(I)Ljava/lang/String;"), (0, u "length"), (0, u "(I)I"), (0, u "largestCount")] 2

def k9c0 : Code := { maxStack := 2, maxLocals := 1, code := prog_21_method_1_code, exceptionTable := #[], attributes := #[] }
def k9m0 : Method := { name := "<init>", desc := "()V", sig := { parameters := [], returnType := none }, accessFlags := 0, code := some k9c0 }
def k9c1 : Code := { maxStack := 4, maxLocals := 5, code := prog_21_method_4_code, exceptionTable := #[], attributes := #[] }
def k9m1 : Method := { name := "fill", desc := "(ILjava/lang/String;II)V", sig := { parameters := [.int, (.object "java/lang/String"), .int, .int], returnType := none }, accessFlags := 0, code := some k9c1 }
def k9c2 : Code := { maxStack := 3, maxLocals := 2, code := prog_21_method_5_code, exceptionTable := #[], attributes := #[] }
def k9m2 : Method := { name := "empty", desc := "(I)V", sig := { parameters := [.int], returnType := none }, accessFlags := 0, code := some k9c2 }
def k9c3 : Code := { maxStack := 1, maxLocals := 1, code := prog_21_method_6_code, exceptionTable := #[], attributes := #[] }
def k9m3 : Method := { name := "size", desc := "()I", sig := { parameters := [], returnType := some .int }, accessFlags := 0, code := some k9c3 }
def k9c4 : Code := { maxStack := 2, maxLocals := 2, code := prog_21_method_7_code, exceptionTable := #[], attributes := #[] }
def k9m4 : Method := { name := "id", desc := "(I)Ljava/lang/String;", sig := { parameters := [.int], returnType := some (.object "java/lang/String") }, accessFlags := 0, code := some k9c4 }
def k9c5 : Code := { maxStack := 2, maxLocals := 2, code := prog_21_method_8_code, exceptionTable := #[], attributes := #[] }
def k9m5 : Method := { name := "length", desc := "(I)I", sig := { parameters := [.int], returnType := some .int }, accessFlags := 0, code := some k9c5 }
def k9c6 : Code := { maxStack := 2, maxLocals := 2, code := prog_21_method_9_code, exceptionTable := #[], attributes := #[] }
def k9m6 : Method := { name := "largestCount", desc := "(I)I", sig := { parameters := [.int], returnType := some .int }, accessFlags := 0, code := some k9c6 }
/-- com/example/bonsense/bonsense/index/SlotBlock -/
def k9 : Class := { plain "com/example/bonsense/bonsense/index/SlotBlock" (some 0) with
  accessFlags := 48
  interfaces := #[]
  cf := some (fileOf pool9 7 #[] #[{ accessFlags := 0, nameIndex := 5, descriptorIndex := 6, attributes := #[] }, { accessFlags := 0, nameIndex := 72, descriptorIndex := 73, attributes := #[] }, { accessFlags := 0, nameIndex := 74, descriptorIndex := 75, attributes := #[] }, { accessFlags := 0, nameIndex := 36, descriptorIndex := 33, attributes := #[] }, { accessFlags := 0, nameIndex := 76, descriptorIndex := 77, attributes := #[] }, { accessFlags := 0, nameIndex := 78, descriptorIndex := 79, attributes := #[] }, { accessFlags := 0, nameIndex := 80, descriptorIndex := 79, attributes := #[] }] 48 2 #[] #[{ accessFlags := 24, nameIndex := 63, descriptorIndex := 37, attributes := #[] }, { accessFlags := 18, nameIndex := 13, descriptorIndex := 14, attributes := #[] }, { accessFlags := 18, nameIndex := 17, descriptorIndex := 18, attributes := #[] }, { accessFlags := 18, nameIndex := 21, descriptorIndex := 18, attributes := #[] }, { accessFlags := 2, nameIndex := 36, descriptorIndex := 37, attributes := #[] }])
  fields := #[{ name := "SIZE", type := .int, accessFlags := 24, slot := 0, constantValue := 0 }, { name := "ids", type := (.array (.object "java/lang/String")), accessFlags := 18, slot := 0, constantValue := 0 }, { name := "lengths", type := (.array .int), accessFlags := 18, slot := 1, constantValue := 0 }, { name := "largestCounts", type := (.array .int), accessFlags := 18, slot := 2, constantValue := 0 }, { name := "size", type := .int, accessFlags := 2, slot := 3, constantValue := 0 }]
  methods := #[k9m0, k9m1, k9m2, k9m3, k9m4, k9m5, k9m6]
  instanceTypes := #[(.array (.object "java/lang/String")), (.array .int), (.array .int), .int]
  staticTypes := #[.int]
  resolved := Array.replicate 83 none
  statics := none }

def pool10 : Array CpInfo := pool [(1, .class_ 2), (0, u "java/lang/Math"), (1, .class_ 6), (1, u "java/lang/Object"), (0, u "<init>"), (0, u "()V"), (89, .class_ 100), (1, u "java/lang/Math$RandomNumberGeneratorHolder"), (71, u "negativeZeroFloatBits"), (0, u "J"), (2, u "negativeZeroDoubleBits"), (21, u "max"), (46, u "$assertionsDisabled"), (0, u "Z"), (88, u "(II)I"), (2, u "twoToTheDoubleScaleDown"), (0, u "D"), (4, u "twoToTheDoubleScaleUp"), (9, u "E"), (3, u "PI"), (2, u "TAU"), (2, u "DEGREES_TO_RADIANS"), (0, u "RADIANS_TO_DEGREES")] 94

def k10m0 : Method := { name := "<init>", desc := "()V", sig := { parameters := [], returnType := none }, accessFlags := 2, code := none }
def k10c1 : Code := { maxStack := 2, maxLocals := 2, code := jdk_29_method_65_code, exceptionTable := #[], attributes := #[] }
def k10m1 : Method := { name := "max", desc := "(II)I", sig := { parameters := [.int, .int], returnType := some .int }, accessFlags := 9, code := some k10c1 }
/-- java/lang/Math -/
def k10 : Class := { plain "java/lang/Math" (some 0) with
  accessFlags := 49
  interfaces := #[]
  cf := some (fileOf pool10 1 #[.nestMembers #[98]] #[{ accessFlags := 2, nameIndex := 7, descriptorIndex := 8, attributes := #[] }, { accessFlags := 9, nameIndex := 198, descriptorIndex := 335, attributes := #[] }] 49 4 #[] #[{ accessFlags := 25, nameIndex := 354, descriptorIndex := 339, attributes := #[] }, { accessFlags := 25, nameIndex := 358, descriptorIndex := 339, attributes := #[] }, { accessFlags := 25, nameIndex := 361, descriptorIndex := 339, attributes := #[] }, { accessFlags := 26, nameIndex := 364, descriptorIndex := 339, attributes := #[] }, { accessFlags := 26, nameIndex := 365, descriptorIndex := 339, attributes := #[] }, { accessFlags := 26, nameIndex := 172, descriptorIndex := 173, attributes := #[] }, { accessFlags := 26, nameIndex := 176, descriptorIndex := 173, attributes := #[] }, { accessFlags := 8, nameIndex := 344, descriptorIndex := 339, attributes := #[] }, { accessFlags := 8, nameIndex := 338, descriptorIndex := 339, attributes := #[] }, { accessFlags := 4120, nameIndex := 245, descriptorIndex := 246, attributes := #[] }])
  fields := #[{ name := "E", type := .double, accessFlags := 25, slot := 0, constantValue := 0 }, { name := "PI", type := .double, accessFlags := 25, slot := 1, constantValue := 0 }, { name := "TAU", type := .double, accessFlags := 25, slot := 2, constantValue := 0 }, { name := "DEGREES_TO_RADIANS", type := .double, accessFlags := 26, slot := 3, constantValue := 0 }, { name := "RADIANS_TO_DEGREES", type := .double, accessFlags := 26, slot := 4, constantValue := 0 }, { name := "negativeZeroFloatBits", type := .long, accessFlags := 26, slot := 5, constantValue := 0 }, { name := "negativeZeroDoubleBits", type := .long, accessFlags := 26, slot := 6, constantValue := 0 }, { name := "twoToTheDoubleScaleUp", type := .double, accessFlags := 8, slot := 7, constantValue := 0 }, { name := "twoToTheDoubleScaleDown", type := .double, accessFlags := 8, slot := 8, constantValue := 0 }, { name := "$assertionsDisabled", type := .boolean, accessFlags := 4120, slot := 9, constantValue := 0 }]
  methods := #[k10m0, k10m1]
  instanceTypes := #[]
  staticTypes := #[.double, .double, .double, .double, .double, .long, .long, .double, .double, .boolean]
  resolved := Array.replicate 460 none
  statics := none }

def pool11 : Array CpInfo := pool [(4, .class_ 6), (1, u "java/lang/Object"), (0, u "<init>"), (0, u "()V"), (5, .class_ 16), (1, u "java/lang/StringLatin1"), (104, u "$assertionsDisabled"), (0, u "Z"), (98, .class_ 223), (1, u "java/lang/StringLatin1$LinesSpliterator"), (166, .class_ 391), (0, u "java/lang/StringLatin1$CharsSpliterator")] 3

def k11m0 : Method := { name := "<init>", desc := "()V", sig := { parameters := [], returnType := none }, accessFlags := 0, code := none }
/-- java/lang/StringLatin1 -/
def k11 : Class := { plain "java/lang/StringLatin1" (some 0) with
  accessFlags := 48
  interfaces := #[]
  cf := some (fileOf pool11 14 #[.nestMembers #[390, 221]] #[{ accessFlags := 0, nameIndex := 7, descriptorIndex := 8, attributes := #[] }] 48 4 #[] #[{ accessFlags := 4120, nameIndex := 121, descriptorIndex := 122, attributes := #[] }])
  fields := #[{ name := "$assertionsDisabled", type := .boolean, accessFlags := 4120, slot := 0, constantValue := 0 }]
  methods := #[k11m0]
  instanceTypes := #[]
  staticTypes := #[.boolean]
  resolved := Array.replicate 395 none
  statics := none }

def pool12 : Array CpInfo := pool [(2, .class_ 4), (1, u "java/lang/Object"), (0, u "<init>"), (0, u "()V"), (17, .class_ 26), (1, u "jdk/internal/util/Preconditions"), (28, .class_ 56), (0, u "jdk/internal/util/Preconditions$4"), (57, .class_ 115), (0, u "jdk/internal/util/Preconditions$1"), (7, u "SIOOBE_FORMATTER"), (0, u "Ljava/util/function/BiFunction;"), (0, .class_ 126), (0, u "jdk/internal/util/Preconditions$2"), (3, u "AIOOBE_FORMATTER"), (0, .class_ 132), (0, u "jdk/internal/util/Preconditions$3"), (3, u "IOOBE_FORMATTER")] 57

def k12m0 : Method := { name := "<init>", desc := "()V", sig := { parameters := [], returnType := none }, accessFlags := 1, code := none }
/-- jdk/internal/util/Preconditions -/
def k12 : Class := { plain "jdk/internal/util/Preconditions" (some 0) with
  accessFlags := 33
  interfaces := #[]
  cf := some (fileOf pool12 24 #[.nestMembers #[55, 131, 125, 114]] #[{ accessFlags := 1, nameIndex := 5, descriptorIndex := 6, attributes := #[] }] 33 2 #[] #[{ accessFlags := 25, nameIndex := 123, descriptorIndex := 124, attributes := #[] }, { accessFlags := 25, nameIndex := 130, descriptorIndex := 124, attributes := #[] }, { accessFlags := 25, nameIndex := 136, descriptorIndex := 124, attributes := #[] }])
  fields := #[{ name := "SIOOBE_FORMATTER", type := (.object "java/util/function/BiFunction"), accessFlags := 25, slot := 0, constantValue := 0 }, { name := "AIOOBE_FORMATTER", type := (.object "java/util/function/BiFunction"), accessFlags := 25, slot := 1, constantValue := 0 }, { name := "IOOBE_FORMATTER", type := (.object "java/util/function/BiFunction"), accessFlags := 25, slot := 2, constantValue := 0 }]
  methods := #[k12m0]
  instanceTypes := #[]
  staticTypes := #[(.object "java/util/function/BiFunction"), (.object "java/util/function/BiFunction"), (.object "java/util/function/BiFunction")]
  resolved := Array.replicate 194 none
  statics := some 1 }

def pool13 : Array CpInfo := pool [(9, u "<init>"), (6, .class_ 18), (1, u "java/lang/Object"), (0, u "()V"), (1, .class_ 23), (1, u "jdk/internal/util/ArraysSupport"), (0, u "LOG2_ARRAY_LONG_INDEX_SCALE"), (0, u "I"), (2, u "U"), (0, u "Ljdk/internal/misc/Unsafe;"), (8, u "BIG_ENDIAN"), (0, u "Z"), (8, u "LOG2_BYTE_BIT_SIZE"), (4, u "LOG2_ARRAY_INT_INDEX_SCALE"), (54, u "JLA"), (0, u "Ljdk/internal/access/JavaLangAccess;"), (11, u "LOG2_ARRAY_BOOLEAN_INDEX_SCALE"), (9, u "LOG2_ARRAY_BYTE_INDEX_SCALE"), (5, u "LOG2_ARRAY_CHAR_INDEX_SCALE"), (5, u "LOG2_ARRAY_SHORT_INDEX_SCALE"), (18, u "LOG2_ARRAY_FLOAT_INDEX_SCALE"), (24, u "LOG2_ARRAY_DOUBLE_INDEX_SCALE"), (89, u "T_BOOLEAN"), (2, u "T_CHAR"), (1, u "T_FLOAT"), (1, u "T_DOUBLE"), (1, u "T_BYTE"), (1, u "T_SHORT"), (1, u "T_INT"), (1, u "T_LONG"), (1, u "SOFT_MAX_ARRAY_LENGTH")] 83

def k13m0 : Method := { name := "<init>", desc := "()V", sig := { parameters := [], returnType := none }, accessFlags := 2, code := none }
/-- jdk/internal/util/ArraysSupport -/
def k13 : Class := { plain "jdk/internal/util/ArraysSupport" (some 0) with
  accessFlags := 33
  interfaces := #[]
  cf := some (fileOf pool13 21 #[] #[{ accessFlags := 2, nameIndex := 9, descriptorIndex := 19, attributes := #[] }] 33 16 #[] #[{ accessFlags := 24, nameIndex := 28, descriptorIndex := 29, attributes := #[] }, { accessFlags := 26, nameIndex := 38, descriptorIndex := 39, attributes := #[] }, { accessFlags := 25, nameIndex := 121, descriptorIndex := 25, attributes := #[] }, { accessFlags := 25, nameIndex := 131, descriptorIndex := 25, attributes := #[] }, { accessFlags := 25, nameIndex := 137, descriptorIndex := 25, attributes := #[] }, { accessFlags := 25, nameIndex := 143, descriptorIndex := 25, attributes := #[] }, { accessFlags := 25, nameIndex := 53, descriptorIndex := 25, attributes := #[] }, { accessFlags := 25, nameIndex := 24, descriptorIndex := 25, attributes := #[] }, { accessFlags := 25, nameIndex := 162, descriptorIndex := 25, attributes := #[] }, { accessFlags := 25, nameIndex := 187, descriptorIndex := 25, attributes := #[] }, { accessFlags := 26, nameIndex := 48, descriptorIndex := 25, attributes := #[] }, { accessFlags := 25, nameIndex := 277, descriptorIndex := 25, attributes := #[] }, { accessFlags := 25, nameIndex := 280, descriptorIndex := 25, attributes := #[] }, { accessFlags := 25, nameIndex := 282, descriptorIndex := 25, attributes := #[] }, { accessFlags := 25, nameIndex := 284, descriptorIndex := 25, attributes := #[] }, { accessFlags := 25, nameIndex := 286, descriptorIndex := 25, attributes := #[] }, { accessFlags := 25, nameIndex := 288, descriptorIndex := 25, attributes := #[] }, { accessFlags := 25, nameIndex := 290, descriptorIndex := 25, attributes := #[] }, { accessFlags := 25, nameIndex := 292, descriptorIndex := 25, attributes := #[] }, { accessFlags := 26, nameIndex := 108, descriptorIndex := 109, attributes := #[] }, { accessFlags := 25, nameIndex := 294, descriptorIndex := 25, attributes := #[] }])
  fields := #[{ name := "U", type := (.object "jdk/internal/misc/Unsafe"), accessFlags := 24, slot := 0, constantValue := 0 }, { name := "BIG_ENDIAN", type := .boolean, accessFlags := 26, slot := 1, constantValue := 0 }, { name := "LOG2_ARRAY_BOOLEAN_INDEX_SCALE", type := .int, accessFlags := 25, slot := 2, constantValue := 0 }, { name := "LOG2_ARRAY_BYTE_INDEX_SCALE", type := .int, accessFlags := 25, slot := 3, constantValue := 0 }, { name := "LOG2_ARRAY_CHAR_INDEX_SCALE", type := .int, accessFlags := 25, slot := 4, constantValue := 0 }, { name := "LOG2_ARRAY_SHORT_INDEX_SCALE", type := .int, accessFlags := 25, slot := 5, constantValue := 0 }, { name := "LOG2_ARRAY_INT_INDEX_SCALE", type := .int, accessFlags := 25, slot := 6, constantValue := 0 }, { name := "LOG2_ARRAY_LONG_INDEX_SCALE", type := .int, accessFlags := 25, slot := 7, constantValue := 0 }, { name := "LOG2_ARRAY_FLOAT_INDEX_SCALE", type := .int, accessFlags := 25, slot := 8, constantValue := 0 }, { name := "LOG2_ARRAY_DOUBLE_INDEX_SCALE", type := .int, accessFlags := 25, slot := 9, constantValue := 0 }, { name := "LOG2_BYTE_BIT_SIZE", type := .int, accessFlags := 26, slot := 10, constantValue := 0 }, { name := "T_BOOLEAN", type := .int, accessFlags := 25, slot := 11, constantValue := 0 }, { name := "T_CHAR", type := .int, accessFlags := 25, slot := 12, constantValue := 0 }, { name := "T_FLOAT", type := .int, accessFlags := 25, slot := 13, constantValue := 0 }, { name := "T_DOUBLE", type := .int, accessFlags := 25, slot := 14, constantValue := 0 }, { name := "T_BYTE", type := .int, accessFlags := 25, slot := 15, constantValue := 0 }, { name := "T_SHORT", type := .int, accessFlags := 25, slot := 16, constantValue := 0 }, { name := "T_INT", type := .int, accessFlags := 25, slot := 17, constantValue := 0 }, { name := "T_LONG", type := .int, accessFlags := 25, slot := 18, constantValue := 0 }, { name := "JLA", type := (.object "jdk/internal/access/JavaLangAccess"), accessFlags := 26, slot := 19, constantValue := 0 }, { name := "SOFT_MAX_ARRAY_LENGTH", type := .int, accessFlags := 25, slot := 20, constantValue := 0 }]
  methods := #[k13m0]
  instanceTypes := #[]
  staticTypes := #[(.object "jdk/internal/misc/Unsafe"), .boolean, .int, .int, .int, .int, .int, .int, .int, .int, .int, .int, .int, .int, .int, .int, .int, .int, .int, (.object "jdk/internal/access/JavaLangAccess"), .int]
  resolved := Array.replicate 378 none
  statics := none }

def pool14 : Array CpInfo := pool [(1, u "java/lang/Cloneable"), (0, .class_ 1), (0, u "java/lang/Object"), (0, .class_ 3)] 3

/-- java/lang/Cloneable -/
def k14 : Class := { plain "java/lang/Cloneable" (some 0) with
  accessFlags := 1537
  interfaces := #[]
  cf := some (fileOf pool14 2 #[] #[] 1537 4 #[] #[])
  fields := #[]
  methods := #[]
  instanceTypes := #[]
  staticTypes := #[]
  resolved := Array.replicate 8 none
  statics := none }

/-- the primitive byte -/
def k15 : Class := { plain "byte" none with kind := .primitive 'B', accessFlags := 0x411 }
/-- [B -/
def k16 : Class := { plain "[B" (some 0) with kind := .array 15 .byte, interfaces := #[14, 2], accessFlags := 1041 }

/-- the primitive char -/
def k17 : Class := { plain "char" none with kind := .primitive 'C', accessFlags := 0x411 }
/-- [C -/
def k18 : Class := { plain "[C" (some 0) with kind := .array 17 .char, interfaces := #[14, 2], accessFlags := 1041 }

/-- the primitive int -/
def k19 : Class := { plain "int" none with kind := .primitive 'I', accessFlags := 0x411 }
/-- [I -/
def k20 : Class := { plain "[I" (some 0) with kind := .array 19 .int, interfaces := #[14, 2], accessFlags := 1041 }

/-- [Ljava/lang/String; -/
def k21 : Class := { plain "[Ljava/lang/String;" (some 0) with kind := .array 7 (.object "java/lang/String"), interfaces := #[14, 2], accessFlags := 1041 }

def heap : Heap := #[{ cls := 7, slots := #[.long 0, .int 1, .null, .int 0, .null, .int 0, .int 0], vm := .statics 7 },
  { cls := 12, slots := #[.null, .null, .null], vm := .statics 12 }]
def classes : Array Class := #[k0, k1, k2, k3, k4, k5, k6, k7, k8, k9, k10, k11, k12, k13, k14, k15, k16, k17, k18, k19, k20, k21]
def interned : List (Array UInt16 × Addr) := []
def slotsUsed : Nat := 10
def theMethod : MethodId := ⟨1, 1⟩
def args0 : Array Value := #[.int 5, .int 5, .int 5, .int 5]
def aboutOver (below : List Frame) : State where
  vm := { classes := classes, interned := interned.toArray }
  heap := heap
  slotsUsed := slotsUsed
  threads := #[{ frames := .invoking theMethod args0 :: below }]
def below0 : List Frame := [.native { method := ⟨0, 0⟩, args := #[] }]
def about1 : State := aboutOver below0
def p0 : Program := .bare "" "" ""
def e0 : Env := launch0.env 0 0 0
theorem w_frames : about1.frames = Frame.invoking theMethod args0 :: below0 := rfl
set_option maxRecDepth 65536 in
theorem w_args : argsFit about1.vm theMethod args0 = true := by decide +kernel
set_option maxRecDepth 65536 in
theorem w_heap : heapFits about1 = true := by decide +kernel
set_option maxRecDepth 65536 in
theorem w_runnable : about1.curStatus? = some .runnable := by decide +kernel
set_option maxRecDepth 65536 in
theorem w_alone : about1.alone = true := by decide +kernel
set_option maxRecDepth 65536 in
theorem w_named : about1.methodNamed? x = some theMethod := by decide +kernel
set_option maxRecDepth 65536 in
theorem w_hears : about1.hears theMethod below0 = true := by decide +kernel
set_option maxRecDepth 65536 in
theorem w_ripe : about1.ripe theMethod args0 below0 = true := by decide +kernel
theorem w_running : about1.status = .running := rfl
set_option maxRecDepth 65536 in
theorem w_room : about1.hasRoom e0.platform room_1 = true :=
  launch0.hasRoom_least _ room_1 (by decide +kernel) (by decide +kernel) (by decide +kernel) (by decide +kernel) (by decide +kernel) (by decide +kernel)
theorem allAtoms_all (ts : List Jvm.Cond) (a : Array Jvm.Value) (st : Jvm.State) : (allAtoms ts).before a st = ts.all (fun c => c.before a st) := by
  induction ts with
  | nil => rfl
  | cons c t ih =>
    show (Jvm.Cond.and c (allAtoms t)).before a st = _
    rw [Jvm.Cond.before_and, ih, List.all_cons]
def words1 : List Jvm.Cond := Jvm.Cond.code x code maxLocals ret :: tables_1
/-- a 'code' word, met by the world's own term for the bytes: nothing is compared byte by byte -/
theorem code_word {y : MethodName} {bytes : ByteArray} {mx : Nat} {rt : Option FieldType} {a : Array Value} {s : State} {m : MethodId} {meth : Method} {c : Code} (h1 : s.methodNamed? y = some m) (h2 : s.vm.method? m = some meth) (h3 : meth.code = some c) (h4 : c.code = bytes)
    (h5 : (c.maxLocals == mx && c.exceptionTable.isEmpty && decide (c.maxStack ≤ mostOperands) && decide (meth.sig.returnType = rt) && !meth.locks && decide (parseMethodDescriptor y.desc = some meth.sig)) = true) : (Jvm.Cond.code y bytes mx rt).before a s = true := by
  simp only [Bool.and_eq_true, beq_iff_eq, Bool.not_eq_true', decide_eq_true_eq] at h5
  obtain ⟨⟨⟨⟨⟨g1, g2⟩, g3⟩, g4⟩, g5⟩, g6⟩ := h5
  simp [Cond.before, Cond.holds, Cond.value, h1, h2, h3, h4, g1, g2, g3, g4, g5, g6]
def isCode : Jvm.Cond → Bool
  | .code _ _ _ _ => true
  | _ => false
theorem all_split {L : List Jvm.Cond} {P : Jvm.Cond → Bool} (h1 : L.all (fun c => isCode c || P c) = true) (h2 : ∀ c ∈ L.filter isCode, P c = true) : L.all P = true := by
  refine List.all_eq_true.mpr fun c hc => ?_
  have h := List.all_eq_true.mp h1 c hc
  rcases Bool.eq_false_or_eq_true (isCode c) with hi | hi
  · exact h2 c (List.mem_filter.mpr ⟨hc, hi⟩)
  · simpa [hi] using h
set_option maxRecDepth 65536 in
theorem w_c0 : (Jvm.Cond.code x code maxLocals ret).before args0 about1 = true := code_word (m := ⟨1, 1⟩) (meth := k1m1) (c := k1c1) (by decide +kernel) rfl rfl rfl (by decide +kernel)
set_option maxRecDepth 65536 in
theorem w_c1 : (Jvm.Cond.code ({ cls := "java/lang/String", name := "<init>", desc := "([C)V" } : Jvm.MethodName) jdk_42_method_3_code (2 : Nat) (Option.none : Option Jvm.ClassFile.FieldType)).before args0 about1 = true := code_word (m := ⟨7, 1⟩) (meth := k7m1) (c := k7c1) (by decide +kernel) rfl rfl rfl (by decide +kernel)
set_option maxRecDepth 65536 in
theorem w_c2 : (Jvm.Cond.code ({ cls := "java/lang/String", name := "<init>", desc := "([CIILjava/lang/Void;)V" } : Jvm.MethodName) jdk_42_method_149_code (6 : Nat) (Option.none : Option Jvm.ClassFile.FieldType)).before args0 about1 = true := code_word (m := ⟨7, 2⟩) (meth := k7m2) (c := k7c2) (by decide +kernel) rfl rfl rfl (by decide +kernel)
set_option maxRecDepth 65536 in
theorem w_c3 : (Jvm.Cond.code ({ cls := "java/lang/Object", name := "<init>", desc := "()V" } : Jvm.MethodName) object_method_1_code (1 : Nat) (Option.none : Option Jvm.ClassFile.FieldType)).before args0 about1 = true := code_word (m := ⟨0, 0⟩) (meth := k0m0) (c := k0c0) (by decide +kernel) rfl rfl rfl (by decide +kernel)
set_option maxRecDepth 65536 in
theorem w_c4 : (Jvm.Cond.code ({ cls := "java/lang/StringUTF16", name := "compress", desc := "([CII)[B" } : Jvm.MethodName) jdk_52_method_16_code (6 : Nat) (Option.some (Jvm.ClassFile.FieldType.array Jvm.ClassFile.FieldType.byte))).before args0 about1 = true := code_word (m := ⟨8, 2⟩) (meth := k8m2) (c := k8c2) (by decide +kernel) rfl rfl rfl (by decide +kernel)
set_option maxRecDepth 65536 in
theorem w_c5 : (Jvm.Cond.code ({ cls := "java/lang/StringUTF16", name := "compress", desc := "([CI[BII)I" } : Jvm.MethodName) jdk_52_method_21_code (7 : Nat) (Option.some Jvm.ClassFile.FieldType.int)).before args0 about1 = true := code_word (m := ⟨8, 3⟩) (meth := k8m3) (c := k8c3) (by decide +kernel) rfl rfl rfl (by decide +kernel)
set_option maxRecDepth 65536 in
theorem w_c6 : (Jvm.Cond.code ({ cls := "java/lang/StringUTF16", name := "coderFromArrayLen", desc := "([BI)B" } : Jvm.MethodName) jdk_52_method_15_code (2 : Nat) (Option.some Jvm.ClassFile.FieldType.byte)).before args0 about1 = true := code_word (m := ⟨8, 1⟩) (meth := k8m1) (c := k8c1) (by decide +kernel) rfl rfl rfl (by decide +kernel)
set_option maxRecDepth 65536 in
theorem w_c7 : (Jvm.Cond.code ({ cls := "com/example/bonsense/bonsense/index/SlotBlock", name := "<init>", desc := "()V" } : Jvm.MethodName) prog_21_method_1_code (1 : Nat) (Option.none : Option Jvm.ClassFile.FieldType)).before args0 about1 = true := code_word (m := ⟨9, 0⟩) (meth := k9m0) (c := k9c0) (by decide +kernel) rfl rfl rfl (by decide +kernel)
set_option maxRecDepth 65536 in
theorem w_c8 : (Jvm.Cond.code ({ cls := "com/example/bonsense/bonsense/index/SlotBlock", name := "fill", desc := "(ILjava/lang/String;II)V" } : Jvm.MethodName) prog_21_method_4_code (5 : Nat) (Option.none : Option Jvm.ClassFile.FieldType)).before args0 about1 = true := code_word (m := ⟨9, 1⟩) (meth := k9m1) (c := k9c1) (by decide +kernel) rfl rfl rfl (by decide +kernel)
set_option maxRecDepth 65536 in
theorem w_c9 : (Jvm.Cond.code ({ cls := "java/lang/Math", name := "max", desc := "(II)I" } : Jvm.MethodName) jdk_29_method_65_code (2 : Nat) (Option.some Jvm.ClassFile.FieldType.int)).before args0 about1 = true := code_word (m := ⟨10, 1⟩) (meth := k10m1) (c := k10c1) (by decide +kernel) rfl rfl rfl (by decide +kernel)
set_option maxRecDepth 65536 in
theorem w_c10 : (Jvm.Cond.code ({ cls := "com/example/bonsense/bonsense/index/SlotBlock", name := "empty", desc := "(I)V" } : Jvm.MethodName) prog_21_method_5_code (2 : Nat) (Option.none : Option Jvm.ClassFile.FieldType)).before args0 about1 = true := code_word (m := ⟨9, 2⟩) (meth := k9m2) (c := k9c2) (by decide +kernel) rfl rfl rfl (by decide +kernel)
set_option maxRecDepth 65536 in
theorem w_c11 : (Jvm.Cond.code ({ cls := "com/example/bonsense/bonsense/index/SlotBlock", name := "id", desc := "(I)Ljava/lang/String;" } : Jvm.MethodName) prog_21_method_7_code (2 : Nat) (Option.some (Jvm.ClassFile.FieldType.object "java/lang/String"))).before args0 about1 = true := code_word (m := ⟨9, 4⟩) (meth := k9m4) (c := k9c4) (by decide +kernel) rfl rfl rfl (by decide +kernel)
set_option maxRecDepth 65536 in
theorem w_c12 : (Jvm.Cond.code ({ cls := "com/example/bonsense/bonsense/index/SlotBlock", name := "length", desc := "(I)I" } : Jvm.MethodName) prog_21_method_8_code (2 : Nat) (Option.some Jvm.ClassFile.FieldType.int)).before args0 about1 = true := code_word (m := ⟨9, 5⟩) (meth := k9m5) (c := k9c5) (by decide +kernel) rfl rfl rfl (by decide +kernel)
set_option maxRecDepth 65536 in
theorem w_c13 : (Jvm.Cond.code ({ cls := "com/example/bonsense/bonsense/index/SlotBlock", name := "largestCount", desc := "(I)I" } : Jvm.MethodName) prog_21_method_9_code (2 : Nat) (Option.some Jvm.ClassFile.FieldType.int)).before args0 about1 = true := code_word (m := ⟨9, 6⟩) (meth := k9m6) (c := k9c6) (by decide +kernel) rfl rfl rfl (by decide +kernel)
set_option maxRecDepth 65536 in
theorem w_c14 : (Jvm.Cond.code ({ cls := "com/example/bonsense/bonsense/index/SlotBlock", name := "size", desc := "()I" } : Jvm.MethodName) prog_21_method_6_code (1 : Nat) (Option.some Jvm.ClassFile.FieldType.int)).before args0 about1 = true := code_word (m := ⟨9, 3⟩) (meth := k9m3) (c := k9c3) (by decide +kernel) rfl rfl rfl (by decide +kernel)
def codes1 : List Jvm.Cond := [Jvm.Cond.code x code maxLocals ret, Jvm.Cond.code ({ cls := "java/lang/String", name := "<init>", desc := "([C)V" } : Jvm.MethodName) jdk_42_method_3_code (2 : Nat) (Option.none : Option Jvm.ClassFile.FieldType), Jvm.Cond.code ({ cls := "java/lang/String", name := "<init>", desc := "([CIILjava/lang/Void;)V" } : Jvm.MethodName) jdk_42_method_149_code (6 : Nat) (Option.none : Option Jvm.ClassFile.FieldType), Jvm.Cond.code ({ cls := "java/lang/Object", name := "<init>", desc := "()V" } : Jvm.MethodName) object_method_1_code (1 : Nat) (Option.none : Option Jvm.ClassFile.FieldType), Jvm.Cond.code ({ cls := "java/lang/StringUTF16", name := "compress", desc := "([CII)[B" } : Jvm.MethodName) jdk_52_method_16_code (6 : Nat) (Option.some (Jvm.ClassFile.FieldType.array Jvm.ClassFile.FieldType.byte)), Jvm.Cond.code ({ cls := "java/lang/StringUTF16", name := "compress", desc := "([CI[BII)I" } : Jvm.MethodName) jdk_52_method_21_code (7 : Nat) (Option.some Jvm.ClassFile.FieldType.int), Jvm.Cond.code ({ cls := "java/lang/StringUTF16", name := "coderFromArrayLen", desc := "([BI)B" } : Jvm.MethodName) jdk_52_method_15_code (2 : Nat) (Option.some Jvm.ClassFile.FieldType.byte), Jvm.Cond.code ({ cls := "com/example/bonsense/bonsense/index/SlotBlock", name := "<init>", desc := "()V" } : Jvm.MethodName) prog_21_method_1_code (1 : Nat) (Option.none : Option Jvm.ClassFile.FieldType), Jvm.Cond.code ({ cls := "com/example/bonsense/bonsense/index/SlotBlock", name := "fill", desc := "(ILjava/lang/String;II)V" } : Jvm.MethodName) prog_21_method_4_code (5 : Nat) (Option.none : Option Jvm.ClassFile.FieldType), Jvm.Cond.code ({ cls := "java/lang/Math", name := "max", desc := "(II)I" } : Jvm.MethodName) jdk_29_method_65_code (2 : Nat) (Option.some Jvm.ClassFile.FieldType.int), Jvm.Cond.code ({ cls := "com/example/bonsense/bonsense/index/SlotBlock", name := "empty", desc := "(I)V" } : Jvm.MethodName) prog_21_method_5_code (2 : Nat) (Option.none : Option Jvm.ClassFile.FieldType), Jvm.Cond.code ({ cls := "com/example/bonsense/bonsense/index/SlotBlock", name := "id", desc := "(I)Ljava/lang/String;" } : Jvm.MethodName) prog_21_method_7_code (2 : Nat) (Option.some (Jvm.ClassFile.FieldType.object "java/lang/String")), Jvm.Cond.code ({ cls := "com/example/bonsense/bonsense/index/SlotBlock", name := "length", desc := "(I)I" } : Jvm.MethodName) prog_21_method_8_code (2 : Nat) (Option.some Jvm.ClassFile.FieldType.int), Jvm.Cond.code ({ cls := "com/example/bonsense/bonsense/index/SlotBlock", name := "largestCount", desc := "(I)I" } : Jvm.MethodName) prog_21_method_9_code (2 : Nat) (Option.some Jvm.ClassFile.FieldType.int), Jvm.Cond.code ({ cls := "com/example/bonsense/bonsense/index/SlotBlock", name := "size", desc := "()I" } : Jvm.MethodName) prog_21_method_6_code (1 : Nat) (Option.some Jvm.ClassFile.FieldType.int)]
set_option maxRecDepth 65536 in
theorem codes_eq : words1.filter isCode = codes1 := rfl
theorem w_codes : ∀ c ∈ words1.filter isCode, c.before args0 about1 = true := by
  rw [codes_eq]
  intro c hc
  simp only [codes1, List.mem_cons, List.not_mem_nil, or_false] at hc
  rcases hc with rfl | rfl | rfl | rfl | rfl | rfl | rfl | rfl | rfl | rfl | rfl | rfl | rfl | rfl | rfl
  · exact w_c0
  · exact w_c1
  · exact w_c2
  · exact w_c3
  · exact w_c4
  · exact w_c5
  · exact w_c6
  · exact w_c7
  · exact w_c8
  · exact w_c9
  · exact w_c10
  · exact w_c11
  · exact w_c12
  · exact w_c13
  · exact w_c14
set_option maxRecDepth 65536 in
theorem w_t1 : (words1.take 24).all (fun c => isCode c || c.before args0 about1) = true := by decide +kernel
set_option maxRecDepth 65536 in
theorem w_t2 : ((words1.drop 24).take 24).all (fun c => isCode c || c.before args0 about1) = true := by decide +kernel
set_option maxRecDepth 65536 in
theorem w_t3 : (((words1.drop 24).drop 24).take 24).all (fun c => isCode c || c.before args0 about1) = true := by decide +kernel
set_option maxRecDepth 65536 in
theorem w_t4 : (((words1.drop 24).drop 24).drop 24).all (fun c => isCode c || c.before args0 about1) = true := by decide +kernel
theorem w_tables : (allAtoms (Jvm.Cond.code x code maxLocals ret :: tables_1)).before args0 about1 = true := by
  rw [allAtoms_all]
  show words1.all (fun c => c.before args0 about1) = true
  refine all_split ?_ w_codes
  rw [← List.take_append_drop 24 words1, List.all_append, w_t1, ← List.take_append_drop 24 (words1.drop 24), List.all_append, w_t2, ← List.take_append_drop 24 ((words1.drop 24).drop 24), List.all_append, w_t3, w_t4]
  rfl
set_option maxRecDepth 65536 in
theorem w_rest : rest_1_c.before args0 about1 = true := by decide +kernel
set_option maxRecDepth 65536 in
theorem w_case : (Jvm.Cond.and given_1 narrow_1).before args0 about1 = true := by decide +kernel
theorem w_applies : (headSpec (Jvm.Cond.code x code maxLocals ret :: tables_1) room_1).applies x e0.platform about1 = true :=
  (Spec.applies_iff w_frames).mpr ⟨w_running, w_runnable, w_alone, w_named, w_hears, w_ripe, w_room, w_tables⟩
theorem atStart : AtStart classFile x code maxLocals ret World_1 tables_1 room_1 Calls_1 rest_1 Pre_1 launch0 p0 e0 about1 theMethod args0 below0 :=
  ⟨lists_1, trivial, launch0.admits_env _ _ _, launch0.least_env, fairChoices_fair.cas, fairChoices_fair.clock, w_frames, w_args, w_heap, w_applies, trivial, w_rest, w_case⟩
end start1
theorem witness_1 : WitnessClaimed_1 := ⟨start1.p0, start1.e0, start1.about1, start1.theMethod, start1.args0, start1.below0, start1.atStart⟩
end Jvm.Pilot.@@N@@
