import JvmDerived
import JvmDerived.Pilot.@@N@@Statement
import JvmDerived.Pilot.@@N@@Code
set_option linter.unusedVariables false
set_option linter.unusedSimpArgs false
namespace Jvm.OwnWp
open Sem ClassFile Op Lib Jvm.Free Jvm.Stand Jvm.LawKit Jvm.RoadKit
set_option maxHeartbeats 1000000
/-! the walk of a body as a weakest precondition: own text over the library's laws -/
def EnvOk (p : Program) (s : State) (m : MethodId) (meth : Method) (c : Code) (Z : State) (own nam : String) (bytes : ByteArray) (maxL : Nat) (ret : Option FieldType) (n0 : Nat) (h0 : Heap) (ws : List Addr) : Prop :=
  p.tables.exec = Jvm.exec ∧ c.code = bytes ∧ c.maxLocals = maxL ∧ Z.Warmed39 s.vm ∧ s.vm.findClass own = some m.cls ∧ meth.name = nam ∧ meth.sig.returnType = ret ∧ meth.locks = false ∧ s.heap = h0 ∧ Old Z n0 h0 ∧ ∀ a ∈ ws, n0 ≤ a
/-- what may be written: the named objects and what is new -/
def Pmt (h0 : Heap) (ws : List Addr) (L : List Loc) : Prop := ∀ y ∈ L, y.base ∈ ws ∨ h0.size ≤ y.base
theorem Pmt.nil (h0 : Heap) (ws : List Addr) : Pmt h0 ws [] := fun _ q => nomatch q
theorem Pmt.app {h0 : Heap} {ws : List Addr} {L L' : List Loc} (N : Pmt h0 ws L) (N' : Pmt h0 ws L') : Pmt h0 ws (L ++ L') := fun y q => (List.mem_append.mp q).elim (N y) (N' y)
theorem Pmt.snoc {h0 : Heap} {ws : List Addr} {L : List Loc} {a : Addr} {sl : Nat} (N : Pmt h0 ws L) (q : a ∈ ws ∨ h0.size ≤ a) : Pmt h0 ws (L ++ [⟨a, sl⟩]) := N.app fun y hy => by cases List.mem_singleton.mp hy; exact q
theorem keep_of {s t : State} {h : Heap} {ws : List Addr} {L : List Loc} {k n : Nat} (q : s.sameButNew t L k n) (N : Pmt s.heap ws L) (e : t.heap = h) : Keep s.heap h ws := by
  subst e
  obtain ⟨-, q1, -, -, -, q2⟩ := q
  refine ⟨q1, fun x c hx hn => ?_, fun x c hx => ?_⟩
  · obtain ⟨c', r1, r2, r3, r4⟩ := q2 x c hx
    have e : c'.slots = c.slots := by
      apply Array.ext_getElem?
      intro i
      refine r4 i fun hm => ?_
      rcases N _ hm with u | u
      · exact hn u
      · exact absurd (Array.getElem?_eq_some_iff.mp hx).1 (Nat.not_lt.mpr u)
    rw [r1, r2, e]
  · obtain ⟨c', r1, r2, r3, r4⟩ := q2 x c hx
    exact ⟨c', r1, by rw [r2], by rw [r2], r3⟩
/-- the tables over which the walk stands: the start's own, or (wide) tables that have grown since by interned constants, of which I is known -/
def Base (wd : Bool) (I : Vm → Prop) (Z s : State) (vm0 : Vm) (h : Heap) : Prop :=
  match wd with
  | false => vm0 = s.vm
  | true => s.Since vm0 h.size ∧ Z.Warmed39 vm0 ∧ I vm0
def EndF (wd : Bool) (s : State) (o : Outcome) (t : State) (L : List Loc) (k n : Nat) : Prop :=
  match wd with
  | false => FrameEnd s o t L k n
  | true => ReturnedEndW s o t L k n
/-- what is known of the tables at the end -/
def EndI (wd : Bool) (J : Vm → Prop) (t : State) : Prop := wd = true → J t.vm
theorem EndF.same {wd : Bool} {s : State} {o : Outcome} {t : State} {L : List Loc} {k n : Nat} (h : EndF wd s o t L k n) : s.sameButNew { t with vm := s.vm } L k n := by
  cases wd
  · exact h.2.2
  · exact h.2.2.2
def Wp (wd : Bool) (p : Program) (l : Launch) (e : Env) (R : Room) (s : State) (m : MethodId) (args : Array Value) (below : List Frame) (meth : Method) (c : Code) (Z : State) (own nam : String) (bytes : ByteArray) (maxL : Nat) (ret : Option FieldType) (n0 : Nat) (h0 : Heap) (ws : List Addr) (Q : Option Value → Heap → Prop) (I : Vm → Prop) (h : Heap) (k n pc : Nat) (Ls : List Slot) (st : List Value) : Prop :=
  EnvOk p s m meth c Z own nam bytes maxL ret n0 h0 ws → ∀ (T : State) (L : List Loc) (vm0 : Vm), Base wd I Z s vm0 h → Stand p l e R (s.setVm vm0) m args below meth c T L k n → Pmt h0 ws L → T.heap = h →
    ∃ s₂ o, Steps p.tables e below (T.setTop (mkF m pc Ls.toArray st)) s₂ ∧ s₂.status = .running ∧ Ended s₂ below o ∧ ∃ v L', o = .returned v ∧ (Q v s₂.heap ∧ Pmt h0 ws L') ∧ EndF wd s o s₂ L' R.cells R.slots
/-- a method's contract, at one heap and with these arguments -/
def Con (l : Launch) (Z : State) (n0 : Nat) (y : MethodName) (bytes : ByteArray) (maxL : Nat) (ret : Option FieldType) (rm : Room) (as : List Value) (h0 : Heap) (ws : List Addr) (Q : Option Value → Heap → Prop) : Prop :=
  Old Z n0 h0 → (∀ a ∈ ws, n0 ≤ a) → ∀ wds, MetFree l y (head1 (Cond.code y bytes maxL ret :: wds) rm) (fun a U => a = as.toArray ∧ Z.Warmed39 U.vm ∧ U.heap = h0) (fun _ _ _ _ _ => True) (fun _ U o U' => ∃ v L, o = .returned v ∧ (Q v U'.heap ∧ Pmt h0 ws L ∧ Keep h0 U'.heap ws) ∧ FrameEnd U o U' L rm.cells rm.slots)
theorem Con.of {l : Launch} {Z : State} {n0 : Nat} {y : MethodName} {bytes : ByteArray} {maxL : Nat} {ret : Option FieldType} {rm : Room} {as : List Value} {h0 : Heap} {ws : List Addr} {Q : Option Value → Heap → Prop} {Ls : List Slot}
    (hpl : plainFor y = true) (hent : ∀ m, entryFrame m as.toArray maxL = mkF m 0 Ls.toArray [])
    (g : ∀ p e s m below meth c, Wp false p l e rm s m as.toArray below meth c Z y.cls y.name bytes maxL ret n0 h0 ws Q (fun _ => True) h0 0 0 0 Ls []) : Con l Z n0 y bytes maxL ret rm as h0 ws Q := by
  intro hO hws wds
  refine MetFree.of_bodySF hpl hisR ?_
  intro p e s m args below meth c s₁ Bd hml0 hP hK
  obtain ⟨rfl, hZ, hh⟩ := hP
  have X0 : Stand p l e rm s m as.toArray below meth c s₁ [] 0 0 := Stand.of_body Bd
  have e0 : s₁.heap = h0 := by rw [← hh, Bd.state]; rfl
  rw [hent]
  obtain ⟨s2, o, r1, r2, r3, v, L, r4, ⟨r5, r6⟩, r7⟩ := g p e s m below meth c ⟨Bd.exec, Bd.bytes, hml0, hZ, findClass_of_methodNamed Bd.named, (name_of_methodNamed Bd.named Bd.method).1, Bd.returns, Bd.notSynchronized, hh, hO, hws⟩ s₁ [] s.vm rfl X0 (Pmt.nil _ _) e0
  exact ⟨s2, o, r1, r2, r3, v, L, r4, ⟨r5, r6, by rw [← hh]; exact keep_of r7.2.2 (by rw [hh]; exact r6) rfl⟩, r7⟩
theorem Con.post {l : Launch} {Z : State} {n0 : Nat} {y : MethodName} {bytes : ByteArray} {maxL : Nat} {ret : Option FieldType} {rm : Room} {as : List Value} {h0 : Heap} {ws : List Addr} {Q Q' : Option Value → Heap → Prop}
    (c : Con l Z n0 y bytes maxL ret rm as h0 ws Q) (f : ∀ v h, Q v h → Q' v h) : Con l Z n0 y bytes maxL ret rm as h0 ws Q' := fun hO hws wds p e ha hc hk s m args below hf happ hP hK => by
  obtain ⟨a1, a2, a3, a4, a5, v, L, a6, ⟨a7, a8⟩, a9⟩ := c hO hws wds p e ha hc hk s m args below hf happ hP hK
  exact ⟨a1, a2, a3, a4, a5, v, L, a6, ⟨f _ _ a7, a8⟩, a9⟩
/-- the contract of a method that may intern constants -/
def ConW (l : Launch) (Z : State) (n0 : Nat) (y : MethodName) (bytes : ByteArray) (maxL : Nat) (ret : Option FieldType) (rm : Room) (as : List Value) (h0 : Heap) (ws : List Addr) (I : Vm → Prop) (Q : Option Value → Heap → Prop) : Prop :=
  Old Z n0 h0 → (∀ a ∈ ws, n0 ≤ a) → ∀ wds, MetFree l y (head1 (Cond.code y bytes maxL ret :: wds) rm) (fun a U => a = as.toArray ∧ Z.Warmed39 U.vm ∧ U.heap = h0 ∧ I U.vm) (fun _ _ _ _ _ => True) (fun _ U o U' => ∃ v L, o = .returned v ∧ (Q v U'.heap ∧ Pmt h0 ws L ∧ Keep h0 U'.heap ws) ∧ ReturnedEndW U o U' L rm.cells rm.slots)
theorem ConW.of {l : Launch} {Z : State} {n0 : Nat} {y : MethodName} {bytes : ByteArray} {maxL : Nat} {ret : Option FieldType} {rm : Room} {as : List Value} {h0 : Heap} {ws : List Addr} {I : Vm → Prop} {Q : Option Value → Heap → Prop} {Ls : List Slot}
    (hpl : plainFor y = true) (hent : ∀ m, entryFrame m as.toArray maxL = mkF m 0 Ls.toArray [])
    (g : ∀ p e s m below meth c, Wp true p l e rm s m as.toArray below meth c Z y.cls y.name bytes maxL ret n0 h0 ws Q I h0 0 0 0 Ls []) : ConW l Z n0 y bytes maxL ret rm as h0 ws I Q := by
  intro hO hws wds
  refine MetFree.of_bodySF hpl hisR ?_
  intro p e s m args below meth c s₁ Bd hml0 hP hK
  obtain ⟨rfl, hZ, hh, hI⟩ := hP
  have X0 : Stand p l e rm s m as.toArray below meth c s₁ [] 0 0 := Stand.of_body Bd
  have e0 : s₁.heap = h0 := by rw [← hh, Bd.state]; rfl
  rw [hent]
  obtain ⟨s2, o, r1, r2, r3, v, L, r4, ⟨r5, r6⟩, r7⟩ := g p e s m below meth c ⟨Bd.exec, Bd.bytes, hml0, hZ, findClass_of_methodNamed Bd.named, (name_of_methodNamed Bd.named Bd.method).1, Bd.returns, Bd.notSynchronized, hh, hO, hws⟩ s₁ [] s.vm ⟨(State.WarmedH.refl s).since _, hZ, hI⟩ X0 (Pmt.nil _ _) e0
  exact ⟨s2, o, r1, r2, r3, v, L, r4, ⟨r5, r6, by rw [← hh]; exact keep_of r7.2.2.2 (by rw [hh]; exact r6) rfl⟩, r7⟩
/-- what a call pushes -/
def psh : Option Value → List Value → List Value
  | none, r => r
  | some v, r => v :: r
theorem psh_eq (v : Option Value) (r : List Value) : v.toList ++ r = psh v r := by cases v <;> rfl
def oneB : Slot → Bool
  | .unset => true
  | .second => false
  | .val v => v.category == 1
def oneAt (Ls : List Slot) (j : Nat) : Bool := (Ls[j]?.map oneB).getD false
theorem oneAt_spec {Ls : List Slot} {j : Nat} (h : oneAt Ls j = true) : ∃ o, Ls.toArray[j]? = some o ∧ (o = .unset ∨ ∃ w, o = .val w ∧ w.category = 1) := by
  unfold oneAt at h
  cases q : Ls[j]? with
  | none => simp [q] at h
  | some o =>
    refine ⟨o, by simpa using q, ?_⟩
    cases o <;> simp [q, oneB] at h ⊢
    exact h
/-- two words, for a long -/
def twoAt (Ls : List Slot) (j : Nat) : Bool := (match Ls[j]? with | some .second => false | some _ => true | none => false) && (match Ls[j + 1]? with | some .second => true | some .unset => true | some (.val w) => w.category == 1 | none => false)
theorem two_store {Ls : List Slot} {j : Nat} {x : Int64} (h : twoAt Ls j = true) : storeLocals Ls.toArray j (.long x) = some ((Ls.set j (.val (.long x))).set (j + 1) .second).toArray := by
  unfold twoAt at h
  cases q : Ls[j]? with
  | none => simp [q] at h
  | some o =>
    cases r : Ls[j + 1]? with
    | none => simp [r] at h
    | some o' =>
      obtain ⟨b1, -⟩ := List.getElem?_eq_some_iff.mp q
      obtain ⟨b2, -⟩ := List.getElem?_eq_some_iff.mp r
      cases o with
      | second => simp [q] at h
      | unset => cases o' <;> simp_all [storeLocals, storeSelf, setAt, Value.category]
      | val w =>
        cases o' <;> by_cases hw : w.category = 2 <;> simp_all [storeLocals, storeSelf, setAt, Value.category]
        all_goals rw [List.set_comm _ _ (show j + 1 ≠ j by omega), List.set_set]
theorem one_store {Ls : List Slot} {j : Nat} {v : Value} (h : oneAt Ls j = true) (hv : v.category = 1) : storeLocals Ls.toArray j v = some (Ls.set j (.val v)).toArray := by
  obtain ⟨o, q1, q2⟩ := oneAt_spec h
  rw [XS.store1 q1 q2 hv]; simp
section Walk
variable {wd : Bool} {I : Vm → Prop} {vm0 : Vm} {p : Program} {l : Launch} {e : Env} {R : Room} {s : State} {m : MethodId} {args : Array Value} {below : List Frame} {meth : Method} {c : Code} {Z : State} {own nam : String} {bytes : ByteArray} {maxL : Nat} {ret : Option FieldType} {n0 : Nat} {h0 : Heap} {ws : List Addr} {Q : Option Value → Heap → Prop} {h : Heap} {k n pc : Nat} {Ls : List Slot} {st rest : List Value} {a0 : Array Value}
theorem bZ (E : EnvOk p s m meth c Z own nam bytes maxL ret n0 h0 ws) (B : Base wd I Z s vm0 h) : Z.Warmed39 (s.setVm vm0).vm := by
  cases wd
  · cases B; exact E.2.2.2.1
  · exact B.2.1
theorem bO (E : EnvOk p s m meth c Z own nam bytes maxL ret n0 h0 ws) (B : Base wd I Z s vm0 h) : (s.setVm vm0).vm.findClass own = some m.cls := by
  cases wd
  · cases B; exact E.2.2.2.2.1
  · show vm0.findClass own = _
    rw [B.1.1.alike.findClass]; exact E.2.2.2.2.1
theorem bG {h' : Heap} (B : Base wd I Z s vm0 h) (q : h.size ≤ h'.size) : Base wd I Z s vm0 h' := by
  cases wd
  · exact B
  · exact ⟨⟨B.1.1, B.1.2.mono q⟩, B.2⟩
theorem szOf (E : EnvOk p s m meth c Z own nam bytes maxL ret n0 h0 ws) {T : State} {L : List Loc} (X : Stand p l e R (s.setVm vm0) m args below meth c T L k n) (eT : T.heap = h) : h0.size ≤ h.size := by
  have q : s.heap.size ≤ T.heap.size := X.same.2.1
  rw [E.2.2.2.2.2.2.2.2.1] at q
  rw [← eT]; exact q
theorem keepOf (E : EnvOk p s m meth c Z own nam bytes maxL ret n0 h0 ws) {T : State} {L : List Loc} (X : Stand p l e R (s.setVm vm0) m args below meth c T L k n) (N : Pmt h0 ws L) (eT : T.heap = h) : Keep h0 h ws := by
  have q := E.2.2.2.2.2.2.2.2.1
  rw [← q]; exact keep_of (s := s.setVm vm0) X.same (by show Pmt s.heap ws L; rw [q]; exact N) eT
theorem endOf (E : EnvOk p s m meth c Z own nam bytes maxL ret n0 h0 ws) (B : Base wd I Z s vm0 h) {U : State} {L : List Loc} {o : Outcome} (hr : ∃ v, o = .returned v) (hW : (s.setVm vm0).WarmedH U.vm) (hs : (s.setVm vm0).sameButNew ({ U with vm := (s.setVm vm0).vm } : State) L k n) (hU : U.heap = h) (hk : k ≤ R.cells) (hn : n ≤ R.slots) : EndF wd s o U L R.cells R.slots := by
  cases wd
  · cases B; exact ⟨hr, hW, hs.mono hk hn⟩
  · obtain ⟨r1, r2, r3⟩ := B.1.ended hW (by rw [hU]; exact Nat.le_refl _) hs
    exact ⟨hr, r1, r2, r3.mono hk hn⟩
theorem n0Of (E : EnvOk p s m meth c Z own nam bytes maxL ret n0 h0 ws) {x : Addr} (q : x ∈ ws ∨ h0.size ≤ x) : n0 ≤ x := by
  obtain ⟨o1, o2⟩ := E.2.2.2.2.2.2.2.2.2.1
  rcases q with q | q
  · exact E.2.2.2.2.2.2.2.2.2.2 x q
  · have := o2.1; omega
theorem oldOf (E : EnvOk p s m meth c Z own nam bytes maxL ret n0 h0 ws) {T : State} {L : List Loc} (X : Stand p l e R (s.setVm vm0) m args below meth c T L k n) (N : Pmt h0 ws L) (eT : T.heap = h) : Old Z n0 h :=
  E.2.2.2.2.2.2.2.2.2.1.keep (keepOf E X N eT) E.2.2.2.2.2.2.2.2.2.2
theorem pmtOf (E : EnvOk p s m meth c Z own nam bytes maxL ret n0 h0 ws) {T : State} {L L' : List Loc} {ws' : List Addr} (X : Stand p l e R (s.setVm vm0) m args below meth c T L k n) (eT : T.heap = h) (hws : ∀ x ∈ ws', x ∈ ws ∨ h0.size ≤ x) (N' : Pmt h ws' L') : Pmt h0 ws L' := fun y hy => by
  rcases N' y hy with q | q
  · exact hws _ q
  · exact Or.inr (Nat.le_trans (szOf E X eT) q)
/-- what is kept since the body's start -/
theorem kept (g : Keep h0 h ws → Old Z n0 h → Wp wd p l e R s m args below meth c Z own nam bytes maxL ret n0 h0 ws Q I h k n pc Ls st) : Wp wd p l e R s m args below meth c Z own nam bytes maxL ret n0 h0 ws Q I h k n pc Ls st := fun E T L vm0 B X N eT => g (keepOf E X N eT) (oldOf E X N eT) E T L vm0 B X N eT
theorem step {pc' : Nat} {Ls' : List Slot} {st' : List Value} (g : Wp wd p l e R s m args below meth c Z own nam bytes maxL ret n0 h0 ws Q I h k n pc' Ls' st')
    (f : EnvOk p s m meth c Z own nam bytes maxL ret n0 h0 ws → ∀ (T : State) (L : List Loc) (t : State) (vm0 : Vm), Base wd I Z s vm0 h → Stand p l e R (s.setVm vm0) m args below meth c T L k n → T.heap = h → Steps p.tables e below (T.setTop (mkF m pc' Ls'.toArray st')) t → Steps p.tables e below (T.setTop (mkF m pc Ls.toArray st)) t) : Wp wd p l e R s m args below meth c Z own nam bytes maxL ret n0 h0 ws Q I h k n pc Ls st := fun E T L vm0 B X N eT => by
  obtain ⟨s2, o, hs, r⟩ := g E T L vm0 B X N eT
  exact ⟨s2, o, f E T L s2 vm0 B X eT hs, r⟩
/-- a law that hands back a new state -/
theorem lawS {pc' : Nat} {Ls' : List Slot} {st' : List Value}
    (f : EnvOk p s m meth c Z own nam bytes maxL ret n0 h0 ws → ∀ (T : State) (L : List Loc) (vm0 : Vm), Base wd I Z s vm0 h → Stand p l e R (s.setVm vm0) m args below meth c T L k n → Pmt h0 ws L → T.heap = h → ∃ (T' : State) (L' : List Loc) (h' : Heap) (k' n' : Nat), Stand p l e R (s.setVm vm0) m args below meth c T' L' k' n' ∧ Pmt h0 ws L' ∧ T'.heap = h' ∧ h.size ≤ h'.size ∧ (∀ t, Steps p.tables e below (T'.setTop (mkF m pc' Ls'.toArray st')) t → Steps p.tables e below (T.setTop (mkF m pc Ls.toArray st)) t) ∧ Wp wd p l e R s m args below meth c Z own nam bytes maxL ret n0 h0 ws Q I h' k' n' pc' Ls' st') : Wp wd p l e R s m args below meth c Z own nam bytes maxL ret n0 h0 ws Q I h k n pc Ls st := fun E T L vm0 B X N eT => by
  obtain ⟨T', L', h', k', n', X', N', e', gr, st', g⟩ := f E T L vm0 B X N eT
  obtain ⟨s2, o, hs, r⟩ := g E T' L' vm0 (bG B gr) X' N' e'
  exact ⟨s2, o, st' _ hs, r⟩
theorem more {k' n' : Nat} (hk : k ≤ k') (hn : n ≤ n') (g : Wp wd p l e R s m args below meth c Z own nam bytes maxL ret n0 h0 ws Q I h k' n' pc Ls st) : Wp wd p l e R s m args below meth c Z own nam bytes maxL ret n0 h0 ws Q I h k n pc Ls st := fun E T L vm0 B X N eT =>
  g E T L vm0 B (X.mono hk hn) N eT
theorem conv {Q' : Option Value → Heap → Prop} (g : Wp wd p l e R s m args below meth c Z own nam bytes maxL ret n0 h0 ws Q' I h k n pc Ls st) (f : ∀ v h, Q' v h → Q v h) : Wp wd p l e R s m args below meth c Z own nam bytes maxL ret n0 h0 ws Q I h k n pc Ls st := fun E T L vm0 B X N eT => by
  obtain ⟨s2, o, h1, h2, h3, v, L', h4, ⟨h5, h6⟩, h7⟩ := g E T L vm0 B X N eT
  exact ⟨s2, o, h1, h2, h3, v, L', h4, ⟨f _ _ h5, h6⟩, h7⟩
theorem wk {J : Vm → Prop} (hJ : ∀ vm, I vm → J vm) (g : Wp wd p l e R s m args below meth c Z own nam bytes maxL ret n0 h0 ws Q J h k n pc Ls st) : Wp wd p l e R s m args below meth c Z own nam bytes maxL ret n0 h0 ws Q I h k n pc Ls st := fun E T L vm0 B X N eT =>
  g E T L vm0 (by cases wd; exact B; exact ⟨B.1, B.2.1, hJ _ B.2.2⟩) X N eT

theorem iadd {q1 : Nat} {x y : Int32} (hd : decode bytes pc = .ok (.iadd, 1)) (hq1 : pc + 1 = q1) (g : Wp wd p l e R s m args below meth c Z own nam bytes maxL ret n0 h0 ws Q I h k n q1 Ls (.int (x + y) :: rest)) : Wp wd p l e R s m args below meth c Z own nam bytes maxL ret n0 h0 ws Q I h k n pc Ls (.int y :: .int x :: rest) := by
  subst hq1
  exact  step g fun E T L t vm0 B X _ hr => XS.iadd X.here E.1 rfl (hb E.2.1 hd) rfl hr

theorem isub {q1 : Nat} {x y : Int32} (hd : decode bytes pc = .ok (.isub, 1)) (hq1 : pc + 1 = q1) (g : Wp wd p l e R s m args below meth c Z own nam bytes maxL ret n0 h0 ws Q I h k n q1 Ls (.int (x - y) :: rest)) : Wp wd p l e R s m args below meth c Z own nam bytes maxL ret n0 h0 ws Q I h k n pc Ls (.int y :: .int x :: rest) := by
  subst hq1
  exact  step g fun E T L t vm0 B X _ hr => XS.isub X.here E.1 rfl (hb E.2.1 hd) rfl hr

theorem imul {q1 : Nat} {x y : Int32} (hd : decode bytes pc = .ok (.imul, 1)) (hq1 : pc + 1 = q1) (g : Wp wd p l e R s m args below meth c Z own nam bytes maxL ret n0 h0 ws Q I h k n q1 Ls (.int (x * y) :: rest)) : Wp wd p l e R s m args below meth c Z own nam bytes maxL ret n0 h0 ws Q I h k n pc Ls (.int y :: .int x :: rest) := by
  subst hq1
  exact  step g fun E T L t vm0 B X _ hr => XS.imul X.here E.1 rfl (hb E.2.1 hd) rfl hr

theorem iand {q1 : Nat} {x y : Int32} (hd : decode bytes pc = .ok (.iand, 1)) (hq1 : pc + 1 = q1) (g : Wp wd p l e R s m args below meth c Z own nam bytes maxL ret n0 h0 ws Q I h k n q1 Ls (.int (x &&& y) :: rest)) : Wp wd p l e R s m args below meth c Z own nam bytes maxL ret n0 h0 ws Q I h k n pc Ls (.int y :: .int x :: rest) := by
  subst hq1
  exact  step g fun E T L t vm0 B X _ hr => XS.iand X.here E.1 rfl (hb E.2.1 hd) rfl hr

theorem ior {q1 : Nat} {x y : Int32} (hd : decode bytes pc = .ok (.ior, 1)) (hq1 : pc + 1 = q1) (g : Wp wd p l e R s m args below meth c Z own nam bytes maxL ret n0 h0 ws Q I h k n q1 Ls (.int (x ||| y) :: rest)) : Wp wd p l e R s m args below meth c Z own nam bytes maxL ret n0 h0 ws Q I h k n pc Ls (.int y :: .int x :: rest) := by
  subst hq1
  exact  step g fun E T L t vm0 B X _ hr => XS.ior X.here E.1 rfl (hb E.2.1 hd) rfl hr

theorem ixor {q1 : Nat} {x y : Int32} (hd : decode bytes pc = .ok (.ixor, 1)) (hq1 : pc + 1 = q1) (g : Wp wd p l e R s m args below meth c Z own nam bytes maxL ret n0 h0 ws Q I h k n q1 Ls (.int (x ^^^ y) :: rest)) : Wp wd p l e R s m args below meth c Z own nam bytes maxL ret n0 h0 ws Q I h k n pc Ls (.int y :: .int x :: rest) := by
  subst hq1
  exact  step g fun E T L t vm0 B X _ hr => XS.ixor X.here E.1 rfl (hb E.2.1 hd) rfl hr

theorem ladd {q1 : Nat} {x y : Int64} (hd : decode bytes pc = .ok (.ladd, 1)) (hq1 : pc + 1 = q1) (g : Wp wd p l e R s m args below meth c Z own nam bytes maxL ret n0 h0 ws Q I h k n q1 Ls (.long (x + y) :: rest)) : Wp wd p l e R s m args below meth c Z own nam bytes maxL ret n0 h0 ws Q I h k n pc Ls (.long y :: .long x :: rest) := by
  subst hq1
  exact  step g fun E T L t vm0 B X _ hr => XS.ladd X.here E.1 rfl (hb E.2.1 hd) rfl hr

theorem lsub {q1 : Nat} {x y : Int64} (hd : decode bytes pc = .ok (.lsub, 1)) (hq1 : pc + 1 = q1) (g : Wp wd p l e R s m args below meth c Z own nam bytes maxL ret n0 h0 ws Q I h k n q1 Ls (.long (x - y) :: rest)) : Wp wd p l e R s m args below meth c Z own nam bytes maxL ret n0 h0 ws Q I h k n pc Ls (.long y :: .long x :: rest) := by
  subst hq1
  exact  step g fun E T L t vm0 B X _ hr => XS.lsub X.here E.1 rfl (hb E.2.1 hd) rfl hr

theorem lmul {q1 : Nat} {x y : Int64} (hd : decode bytes pc = .ok (.lmul, 1)) (hq1 : pc + 1 = q1) (g : Wp wd p l e R s m args below meth c Z own nam bytes maxL ret n0 h0 ws Q I h k n q1 Ls (.long (x * y) :: rest)) : Wp wd p l e R s m args below meth c Z own nam bytes maxL ret n0 h0 ws Q I h k n pc Ls (.long y :: .long x :: rest) := by
  subst hq1
  exact  step g fun E T L t vm0 B X _ hr => XS.lmul X.here E.1 rfl (hb E.2.1 hd) rfl hr

theorem land {q1 : Nat} {x y : Int64} (hd : decode bytes pc = .ok (.land, 1)) (hq1 : pc + 1 = q1) (g : Wp wd p l e R s m args below meth c Z own nam bytes maxL ret n0 h0 ws Q I h k n q1 Ls (.long (x &&& y) :: rest)) : Wp wd p l e R s m args below meth c Z own nam bytes maxL ret n0 h0 ws Q I h k n pc Ls (.long y :: .long x :: rest) := by
  subst hq1
  exact  step g fun E T L t vm0 B X _ hr => XS.land X.here E.1 rfl (hb E.2.1 hd) rfl hr

theorem lor {q1 : Nat} {x y : Int64} (hd : decode bytes pc = .ok (.lor, 1)) (hq1 : pc + 1 = q1) (g : Wp wd p l e R s m args below meth c Z own nam bytes maxL ret n0 h0 ws Q I h k n q1 Ls (.long (x ||| y) :: rest)) : Wp wd p l e R s m args below meth c Z own nam bytes maxL ret n0 h0 ws Q I h k n pc Ls (.long y :: .long x :: rest) := by
  subst hq1
  exact  step g fun E T L t vm0 B X _ hr => XS.lor X.here E.1 rfl (hb E.2.1 hd) rfl hr

theorem lxor {q1 : Nat} {x y : Int64} (hd : decode bytes pc = .ok (.lxor, 1)) (hq1 : pc + 1 = q1) (g : Wp wd p l e R s m args below meth c Z own nam bytes maxL ret n0 h0 ws Q I h k n q1 Ls (.long (x ^^^ y) :: rest)) : Wp wd p l e R s m args below meth c Z own nam bytes maxL ret n0 h0 ws Q I h k n pc Ls (.long y :: .long x :: rest) := by
  subst hq1
  exact  step g fun E T L t vm0 B X _ hr => XS.lxor X.here E.1 rfl (hb E.2.1 hd) rfl hr

theorem ishl {q1 : Nat} {x y : Int32} (hd : decode bytes pc = .ok (.ishl, 1)) (hq1 : pc + 1 = q1) (g : Wp wd p l e R s m args below meth c Z own nam bytes maxL ret n0 h0 ws Q I h k n q1 Ls (.int (x <<< (y &&& 31)) :: rest)) : Wp wd p l e R s m args below meth c Z own nam bytes maxL ret n0 h0 ws Q I h k n pc Ls (.int y :: .int x :: rest) := by
  subst hq1
  exact  step g fun E T L t vm0 B X _ hr => XS.ishl X.here E.1 rfl (hb E.2.1 hd) rfl hr

theorem ishr {q1 : Nat} {x y : Int32} (hd : decode bytes pc = .ok (.ishr, 1)) (hq1 : pc + 1 = q1) (g : Wp wd p l e R s m args below meth c Z own nam bytes maxL ret n0 h0 ws Q I h k n q1 Ls (.int (x >>> (y &&& 31)) :: rest)) : Wp wd p l e R s m args below meth c Z own nam bytes maxL ret n0 h0 ws Q I h k n pc Ls (.int y :: .int x :: rest) := by
  subst hq1
  exact  step g fun E T L t vm0 B X _ hr => XS.ishr X.here E.1 rfl (hb E.2.1 hd) rfl hr

theorem iushr {q1 : Nat} {x y : Int32} (hd : decode bytes pc = .ok (.iushr, 1)) (hq1 : pc + 1 = q1) (g : Wp wd p l e R s m args below meth c Z own nam bytes maxL ret n0 h0 ws Q I h k n q1 Ls (.int ((x.toUInt32 >>> (y &&& 31).toUInt32).toInt32) :: rest)) : Wp wd p l e R s m args below meth c Z own nam bytes maxL ret n0 h0 ws Q I h k n pc Ls (.int y :: .int x :: rest) := by
  subst hq1
  exact  step g fun E T L t vm0 B X _ hr => XS.iushr X.here E.1 rfl (hb E.2.1 hd) rfl hr

theorem lshl {q1 : Nat} {x : Int64} {y : Int32} (hd : decode bytes pc = .ok (.lshl, 1)) (hq1 : pc + 1 = q1) (g : Wp wd p l e R s m args below meth c Z own nam bytes maxL ret n0 h0 ws Q I h k n q1 Ls (.long (x <<< (y &&& 0x3f).toInt64) :: rest)) : Wp wd p l e R s m args below meth c Z own nam bytes maxL ret n0 h0 ws Q I h k n pc Ls (.int y :: .long x :: rest) := by
  subst hq1
  exact  step g fun E T L t vm0 B X _ hr => XS.lshl X.here E.1 rfl (hb E.2.1 hd) rfl hr

theorem lshr {q1 : Nat} {x : Int64} {y : Int32} (hd : decode bytes pc = .ok (.lshr, 1)) (hq1 : pc + 1 = q1) (g : Wp wd p l e R s m args below meth c Z own nam bytes maxL ret n0 h0 ws Q I h k n q1 Ls (.long (x >>> (y &&& 0x3f).toInt64) :: rest)) : Wp wd p l e R s m args below meth c Z own nam bytes maxL ret n0 h0 ws Q I h k n pc Ls (.int y :: .long x :: rest) := by
  subst hq1
  exact  step g fun E T L t vm0 B X _ hr => XS.lshr X.here E.1 rfl (hb E.2.1 hd) rfl hr

theorem lushr {q1 : Nat} {x : Int64} {y : Int32} (hd : decode bytes pc = .ok (.lushr, 1)) (hq1 : pc + 1 = q1) (g : Wp wd p l e R s m args below meth c Z own nam bytes maxL ret n0 h0 ws Q I h k n q1 Ls (.long ((x.toUInt64 >>> (y &&& 0x3f).toInt64.toUInt64).toInt64) :: rest)) : Wp wd p l e R s m args below meth c Z own nam bytes maxL ret n0 h0 ws Q I h k n pc Ls (.int y :: .long x :: rest) := by
  subst hq1
  exact  step g fun E T L t vm0 B X _ hr => XS.lushr X.here E.1 rfl (hb E.2.1 hd) rfl hr

theorem lcmp {q1 : Nat} {x y : Int64} (hd : decode bytes pc = .ok (.lcmp, 1)) (hq1 : pc + 1 = q1) (g : Wp wd p l e R s m args below meth c Z own nam bytes maxL ret n0 h0 ws Q I h k n q1 Ls (.int (lcmpW x y) :: rest)) : Wp wd p l e R s m args below meth c Z own nam bytes maxL ret n0 h0 ws Q I h k n pc Ls (.long y :: .long x :: rest) := by
  subst hq1
  exact  step g fun E T L t vm0 B X _ hr => XS.lcmp X.here E.1 rfl (hb E.2.1 hd) rfl hr

theorem idiv {q1 : Nat} {x y : Int32} (hd : decode bytes pc = .ok (.idiv, 1)) (hq1 : pc + 1 = q1) (hy : y ≠ 0) (g : Wp wd p l e R s m args below meth c Z own nam bytes maxL ret n0 h0 ws Q I h k n q1 Ls (.int (x / y) :: rest)) : Wp wd p l e R s m args below meth c Z own nam bytes maxL ret n0 h0 ws Q I h k n pc Ls (.int y :: .int x :: rest) := by
  subst hq1
  exact  step g fun E T L t vm0 B X _ hr => XS.idiv X.here E.1 rfl (hb E.2.1 hd) rfl hy hr

theorem ldiv {q1 : Nat} {x y : Int64} (hd : decode bytes pc = .ok (.ldiv, 1)) (hq1 : pc + 1 = q1) (hy : y ≠ 0) (g : Wp wd p l e R s m args below meth c Z own nam bytes maxL ret n0 h0 ws Q I h k n q1 Ls (.long (x / y) :: rest)) : Wp wd p l e R s m args below meth c Z own nam bytes maxL ret n0 h0 ws Q I h k n pc Ls (.long y :: .long x :: rest) := by
  subst hq1
  exact  step g fun E T L t vm0 B X _ hr => XS.ldiv X.here E.1 rfl (hb E.2.1 hd) rfl hy hr

theorem irem {q1 : Nat} {x y : Int32} (hd : decode bytes pc = .ok (.irem, 1)) (hq1 : pc + 1 = q1) (hy : y ≠ 0) (g : Wp wd p l e R s m args below meth c Z own nam bytes maxL ret n0 h0 ws Q I h k n q1 Ls (.int (x % y) :: rest)) : Wp wd p l e R s m args below meth c Z own nam bytes maxL ret n0 h0 ws Q I h k n pc Ls (.int y :: .int x :: rest) := by
  subst hq1
  exact  step g fun E T L t vm0 B X _ hr => iremM X E.1 rfl (hb E.2.1 hd) rfl hy hr

theorem ineg {q1 : Nat} {x : Int32} (hd : decode bytes pc = .ok (.ineg, 1)) (hq1 : pc + 1 = q1) (g : Wp wd p l e R s m args below meth c Z own nam bytes maxL ret n0 h0 ws Q I h k n q1 Ls (.int (-x) :: rest)) : Wp wd p l e R s m args below meth c Z own nam bytes maxL ret n0 h0 ws Q I h k n pc Ls (.int x :: rest) := by
  subst hq1
  exact  step g fun E T L t vm0 B X _ hr => XS.ineg X.here E.1 rfl (hb E.2.1 hd) rfl hr

theorem lneg {q1 : Nat} {x : Int64} (hd : decode bytes pc = .ok (.lneg, 1)) (hq1 : pc + 1 = q1) (g : Wp wd p l e R s m args below meth c Z own nam bytes maxL ret n0 h0 ws Q I h k n q1 Ls (.long (-x) :: rest)) : Wp wd p l e R s m args below meth c Z own nam bytes maxL ret n0 h0 ws Q I h k n pc Ls (.long x :: rest) := by
  subst hq1
  exact  step g fun E T L t vm0 B X _ hr => XS.lneg X.here E.1 rfl (hb E.2.1 hd) rfl hr

theorem i2l {q1 : Nat} {x : Int32} (hd : decode bytes pc = .ok (.i2l, 1)) (hq1 : pc + 1 = q1) (g : Wp wd p l e R s m args below meth c Z own nam bytes maxL ret n0 h0 ws Q I h k n q1 Ls (.long (x.toInt64) :: rest)) : Wp wd p l e R s m args below meth c Z own nam bytes maxL ret n0 h0 ws Q I h k n pc Ls (.int x :: rest) := by
  subst hq1
  exact  step g fun E T L t vm0 B X _ hr => XS.i2l X.here E.1 rfl (hb E.2.1 hd) rfl hr

theorem l2i {q1 : Nat} {x : Int64} (hd : decode bytes pc = .ok (.l2i, 1)) (hq1 : pc + 1 = q1) (g : Wp wd p l e R s m args below meth c Z own nam bytes maxL ret n0 h0 ws Q I h k n q1 Ls (.int (x.toInt32) :: rest)) : Wp wd p l e R s m args below meth c Z own nam bytes maxL ret n0 h0 ws Q I h k n pc Ls (.long x :: rest) := by
  subst hq1
  exact  step g fun E T L t vm0 B X _ hr => XS.l2i X.here E.1 rfl (hb E.2.1 hd) rfl hr

theorem i2b {q1 : Nat} {x : Int32} (hd : decode bytes pc = .ok (.i2b, 1)) (hq1 : pc + 1 = q1) (g : Wp wd p l e R s m args below meth c Z own nam bytes maxL ret n0 h0 ws Q I h k n q1 Ls (.int (x.toInt8.toInt32) :: rest)) : Wp wd p l e R s m args below meth c Z own nam bytes maxL ret n0 h0 ws Q I h k n pc Ls (.int x :: rest) := by
  subst hq1
  exact  step g fun E T L t vm0 B X _ hr => XS.i2b X.here E.1 rfl (hb E.2.1 hd) rfl hr

theorem i2s {q1 : Nat} {x : Int32} (hd : decode bytes pc = .ok (.i2s, 1)) (hq1 : pc + 1 = q1) (g : Wp wd p l e R s m args below meth c Z own nam bytes maxL ret n0 h0 ws Q I h k n q1 Ls (.int (x.toInt16.toInt32) :: rest)) : Wp wd p l e R s m args below meth c Z own nam bytes maxL ret n0 h0 ws Q I h k n pc Ls (.int x :: rest) := by
  subst hq1
  exact  step g fun E T L t vm0 B X _ hr => XS.i2s X.here E.1 rfl (hb E.2.1 hd) rfl hr

theorem i2c {q1 : Nat} {x : Int32} (hd : decode bytes pc = .ok (.i2c, 1)) (hq1 : pc + 1 = q1) (g : Wp wd p l e R s m args below meth c Z own nam bytes maxL ret n0 h0 ws Q I h k n q1 Ls (.int (x.toUInt32.toUInt16.toUInt32.toInt32) :: rest)) : Wp wd p l e R s m args below meth c Z own nam bytes maxL ret n0 h0 ws Q I h k n pc Ls (.int x :: rest) := by
  subst hq1
  exact  step g fun E T L t vm0 B X _ hr => XS.i2c X.here E.1 rfl (hb E.2.1 hd) rfl hr

theorem iconst {q1 : Nat} {i : Int} {v : Int32} (hd : decode bytes pc = .ok (.iconst i, 1)) (hq1 : pc + 1 = q1) (hv : Int32.ofInt i = v) (g : Wp wd p l e R s m args below meth c Z own nam bytes maxL ret n0 h0 ws Q I h k n q1 Ls (.int v :: st)) : Wp wd p l e R s m args below meth c Z own nam bytes maxL ret n0 h0 ws Q I h k n pc Ls st := by
  subst hq1
  exact  step g fun E T L t vm0 B X _ hr => XT.iconstV X.here E.1 rfl v (hb E.2.1 hd) hv hr

theorem bipush {q1 : Nat} {i : Int} {v : Int32} (hd : decode bytes pc = .ok (.bipush i, 2)) (hq1 : pc + 2 = q1) (hv : (Int8.ofInt i).toInt32 = v) (g : Wp wd p l e R s m args below meth c Z own nam bytes maxL ret n0 h0 ws Q I h k n q1 Ls (.int v :: st)) : Wp wd p l e R s m args below meth c Z own nam bytes maxL ret n0 h0 ws Q I h k n pc Ls st := by
  subst hq1
  exact  step g fun E T L t vm0 B X _ hr => XT.bipushV X.here E.1 rfl v (hb E.2.1 hd) hv hr

theorem sipush {q1 : Nat} {i : Int} {v : Int32} (hd : decode bytes pc = .ok (.sipush i, 3)) (hq1 : pc + 3 = q1) (hv : (Int16.ofInt i).toInt32 = v) (g : Wp wd p l e R s m args below meth c Z own nam bytes maxL ret n0 h0 ws Q I h k n q1 Ls (.int v :: st)) : Wp wd p l e R s m args below meth c Z own nam bytes maxL ret n0 h0 ws Q I h k n pc Ls st := by
  subst hq1
  exact  step g fun E T L t vm0 B X _ hr => XT.sipushV X.here E.1 rfl v (hb E.2.1 hd) hv hr

theorem lconst {q1 : Nat} {i : Fin 2} {v : Int64} (hd : decode bytes pc = .ok (.lconst i, 1)) (hq1 : pc + 1 = q1) (hv : Int64.ofNat i = v) (g : Wp wd p l e R s m args below meth c Z own nam bytes maxL ret n0 h0 ws Q I h k n q1 Ls (.long v :: st)) : Wp wd p l e R s m args below meth c Z own nam bytes maxL ret n0 h0 ws Q I h k n pc Ls st := by
  subst hq1
  exact  step g fun E T L t vm0 B X _ hr => XT.lconstV X.here E.1 rfl v (hb E.2.1 hd) hv hr

theorem aconst_null {q1 : Nat} (hd : decode bytes pc = .ok (.aconst_null, 1)) (hq1 : pc + 1 = q1) (g : Wp wd p l e R s m args below meth c Z own nam bytes maxL ret n0 h0 ws Q I h k n q1 Ls (.null :: st)) : Wp wd p l e R s m args below meth c Z own nam bytes maxL ret n0 h0 ws Q I h k n pc Ls st := by
  subst hq1
  exact  step g fun E T L t vm0 B X _ hr => XS.aconstNull X.here E.1 rfl (hb E.2.1 hd) hr

theorem ldcI {q1 : Nat} {i : Nat} {v : Int32} (hd : decode bytes pc = .ok (.ldc i, 2)) (hq1 : pc + 2 = q1) (w : (Cond.constant own i v).before a0 Z = true) (g : Wp wd p l e R s m args below meth c Z own nam bytes maxL ret n0 h0 ws Q I h k n q1 Ls (.int v :: st)) : Wp wd p l e R s m args below meth c Z own nam bytes maxL ret n0 h0 ws Q I h k n pc Ls st := by
  subst hq1
  exact  step g fun E T L t vm0 B X _ hr => X.ldcInt E.1 (bO E B) (mvT (bZ E B) w) (g := mkF m pc Ls.toArray st) rfl (hb E.2.1 hd) _ hr

theorem ldcwI {q1 : Nat} {i : Nat} {v : Int32} (hd : decode bytes pc = .ok (.ldc_w i, 3)) (hq1 : pc + 3 = q1) (w : (Cond.constant own i v).before a0 Z = true) (g : Wp wd p l e R s m args below meth c Z own nam bytes maxL ret n0 h0 ws Q I h k n q1 Ls (.int v :: st)) : Wp wd p l e R s m args below meth c Z own nam bytes maxL ret n0 h0 ws Q I h k n pc Ls st := by
  subst hq1
  exact  step g fun E T L t vm0 B X _ hr => X.ldcwInt E.1 (bO E B) (mvT (bZ E B) w) (g := mkF m pc Ls.toArray st) rfl (hb E.2.1 hd) _ hr

theorem ldc2J {q1 : Nat} {i : Nat} {v : Int64} (hd : decode bytes pc = .ok (.ldc2_w i, 3)) (hq1 : pc + 3 = q1) (w : (Cond.constantLong own i v).before a0 Z = true) (g : Wp wd p l e R s m args below meth c Z own nam bytes maxL ret n0 h0 ws Q I h k n q1 Ls (.long v :: st)) : Wp wd p l e R s m args below meth c Z own nam bytes maxL ret n0 h0 ws Q I h k n pc Ls st := by
  subst hq1
  exact  step g fun E T L t vm0 B X _ hr => X.ldc2Long E.1 (bO E B) (mvT (bZ E B) w) (g := mkF m pc Ls.toArray st) rfl (hb E.2.1 hd) _ hr

theorem iload {q1 : Nat} {j : Nat} {v : Int32} (hd : decode bytes pc = .ok (.iload j, 2)) (hq1 : pc + 2 = q1) (hl : Ls[j]? = some (.val (.int v))) (g : Wp wd p l e R s m args below meth c Z own nam bytes maxL ret n0 h0 ws Q I h k n q1 Ls ((.int v) :: st)) : Wp wd p l e R s m args below meth c Z own nam bytes maxL ret n0 h0 ws Q I h k n pc Ls st := by
  subst hq1
  exact  step g fun E T L t vm0 B X _ hr => XS.iload X.here E.1 rfl (hb E.2.1 hd) (by simpa using hl) hr

theorem iload_n {q1 : Nat} {j : Fin 4} {v : Int32} (hd : decode bytes pc = .ok (.iload_n j, 1)) (hq1 : pc + 1 = q1) (hl : Ls[j.val]? = some (.val (.int v))) (g : Wp wd p l e R s m args below meth c Z own nam bytes maxL ret n0 h0 ws Q I h k n q1 Ls ((.int v) :: st)) : Wp wd p l e R s m args below meth c Z own nam bytes maxL ret n0 h0 ws Q I h k n pc Ls st := by
  subst hq1
  exact  step g fun E T L t vm0 B X _ hr => XS.iloadN X.here E.1 rfl (hb E.2.1 hd) (by simpa using hl) hr

theorem lload {q1 : Nat} {j : Nat} {v : Int64} (hd : decode bytes pc = .ok (.lload j, 2)) (hq1 : pc + 2 = q1) (hl : Ls[j]? = some (.val (.long v))) (g : Wp wd p l e R s m args below meth c Z own nam bytes maxL ret n0 h0 ws Q I h k n q1 Ls ((.long v) :: st)) : Wp wd p l e R s m args below meth c Z own nam bytes maxL ret n0 h0 ws Q I h k n pc Ls st := by
  subst hq1
  exact  step g fun E T L t vm0 B X _ hr => XS.lload X.here E.1 rfl (hb E.2.1 hd) (by simpa using hl) hr

theorem lload_n {q1 : Nat} {j : Fin 4} {v : Int64} (hd : decode bytes pc = .ok (.lload_n j, 1)) (hq1 : pc + 1 = q1) (hl : Ls[j.val]? = some (.val (.long v))) (g : Wp wd p l e R s m args below meth c Z own nam bytes maxL ret n0 h0 ws Q I h k n q1 Ls ((.long v) :: st)) : Wp wd p l e R s m args below meth c Z own nam bytes maxL ret n0 h0 ws Q I h k n pc Ls st := by
  subst hq1
  exact  step g fun E T L t vm0 B X _ hr => XS.lloadN X.here E.1 rfl (hb E.2.1 hd) (by simpa using hl) hr

theorem aload {q1 : Nat} {j : Nat} {v : Value} (hd : decode bytes pc = .ok (.aload j, 2)) (hq1 : pc + 2 = q1) (hl : Ls[j]? = some (.val (v))) (hv : v.isRef = true) (g : Wp wd p l e R s m args below meth c Z own nam bytes maxL ret n0 h0 ws Q I h k n q1 Ls ((v) :: st)) : Wp wd p l e R s m args below meth c Z own nam bytes maxL ret n0 h0 ws Q I h k n pc Ls st := by
  subst hq1
  exact  step g fun E T L t vm0 B X _ hr => XS.aload X.here E.1 rfl (hb E.2.1 hd) (by simpa using hl) hv hr

theorem aload_n {q1 : Nat} {j : Fin 4} {v : Value} (hd : decode bytes pc = .ok (.aload_n j, 1)) (hq1 : pc + 1 = q1) (hl : Ls[j.val]? = some (.val (v))) (hv : v.isRef = true) (g : Wp wd p l e R s m args below meth c Z own nam bytes maxL ret n0 h0 ws Q I h k n q1 Ls ((v) :: st)) : Wp wd p l e R s m args below meth c Z own nam bytes maxL ret n0 h0 ws Q I h k n pc Ls st := by
  subst hq1
  exact  step g fun E T L t vm0 B X _ hr => XS.aloadN X.here E.1 rfl (hb E.2.1 hd) (by simpa using hl) hv hr

theorem istore {q1 : Nat} {j : Nat} {x : Int32} (hd : decode bytes pc = .ok (.istore j, 2)) (hq1 : pc + 2 = q1) (ho : oneAt Ls j = true) (g : Wp wd p l e R s m args below meth c Z own nam bytes maxL ret n0 h0 ws Q I h k n q1 (Ls.set j (.val (.int x))) rest) : Wp wd p l e R s m args below meth c Z own nam bytes maxL ret n0 h0 ws Q I h k n pc Ls (.int x :: rest) := by
  subst hq1
  exact  step g fun E T L t vm0 B X _ hr => XS.istore X.here E.1 rfl (hb E.2.1 hd) rfl (one_store ho rfl) hr

theorem istore_n {q1 : Nat} {j : Fin 4} {jj : Nat} {x : Int32} (hd : decode bytes pc = .ok (.istore_n j, 1)) (hq1 : pc + 1 = q1) (hj : j.val = jj) (ho : oneAt Ls jj = true) (g : Wp wd p l e R s m args below meth c Z own nam bytes maxL ret n0 h0 ws Q I h k n q1 (Ls.set jj (.val (.int x))) rest) : Wp wd p l e R s m args below meth c Z own nam bytes maxL ret n0 h0 ws Q I h k n pc Ls (.int x :: rest) := by
  subst hq1
  exact  step g fun E T L t vm0 B X _ hr => XS.istoreN X.here E.1 rfl (hb E.2.1 hd) rfl (by subst hj; exact one_store ho rfl) hr

theorem astore {q1 : Nat} {j : Nat} {x : Value} (hd : decode bytes pc = .ok (.astore j, 2)) (hq1 : pc + 2 = q1) (ho : oneAt Ls j = true) (hv : x.isRef = true) (g : Wp wd p l e R s m args below meth c Z own nam bytes maxL ret n0 h0 ws Q I h k n q1 (Ls.set j (.val x)) rest) : Wp wd p l e R s m args below meth c Z own nam bytes maxL ret n0 h0 ws Q I h k n pc Ls (x :: rest) := by
  subst hq1
  exact  step g fun E T L t vm0 B X _ hr => XS.astore X.here E.1 rfl (hb E.2.1 hd) rfl hv (one_store ho (XT.cat1 hv)) hr

theorem astore_n {q1 : Nat} {j : Fin 4} {jj : Nat} {x : Value} (hd : decode bytes pc = .ok (.astore_n j, 1)) (hq1 : pc + 1 = q1) (hj : j.val = jj) (ho : oneAt Ls jj = true) (hv : x.isRef = true) (g : Wp wd p l e R s m args below meth c Z own nam bytes maxL ret n0 h0 ws Q I h k n q1 (Ls.set jj (.val x)) rest) : Wp wd p l e R s m args below meth c Z own nam bytes maxL ret n0 h0 ws Q I h k n pc Ls (x :: rest) := by
  subst hq1
  exact  step g fun E T L t vm0 B X _ hr => XS.astoreN X.here E.1 rfl (hb E.2.1 hd) rfl hv (by subst hj; exact one_store ho (XT.cat1 hv)) hr

theorem lstore {q1 : Nat} {j jk : Nat} {x : Int64} (hd : decode bytes pc = .ok (.lstore j, 2)) (hq1 : pc + 2 = q1) (hjk : j + 1 = jk) (ho : twoAt Ls j = true) (g : Wp wd p l e R s m args below meth c Z own nam bytes maxL ret n0 h0 ws Q I h k n q1 ((Ls.set j (.val (.long x))).set jk .second) rest) : Wp wd p l e R s m args below meth c Z own nam bytes maxL ret n0 h0 ws Q I h k n pc Ls (.long x :: rest) := by
  subst hq1
  exact  step g fun E T L t vm0 B X _ hr => XS.lstore X.here E.1 rfl (hb E.2.1 hd) rfl (by subst hjk; exact two_store ho) hr

theorem lstore_n {q1 : Nat} {j : Fin 4} {jj jk : Nat} {x : Int64} (hd : decode bytes pc = .ok (.lstore_n j, 1)) (hq1 : pc + 1 = q1) (hj : j.val = jj) (hjk : jj + 1 = jk) (ho : twoAt Ls jj = true) (g : Wp wd p l e R s m args below meth c Z own nam bytes maxL ret n0 h0 ws Q I h k n q1 ((Ls.set jj (.val (.long x))).set jk .second) rest) : Wp wd p l e R s m args below meth c Z own nam bytes maxL ret n0 h0 ws Q I h k n pc Ls (.long x :: rest) := by
  subst hq1
  exact  step g fun E T L t vm0 B X _ hr => XS.lstoreN X.here E.1 rfl (hb E.2.1 hd) rfl (by subst hj; subst hjk; exact two_store ho) hr

theorem iinc {q1 : Nat} {j : Nat} {i : Int} {x v : Int32} (hd : decode bytes pc = .ok (.iinc j i, 3)) (hq1 : pc + 3 = q1) (hv : Int32.ofInt i = v) (hl : Ls[j]? = some (.val (.int x))) (g : Wp wd p l e R s m args below meth c Z own nam bytes maxL ret n0 h0 ws Q I h k n q1 (Ls.set j (.val (.int (x + v)))) st) : Wp wd p l e R s m args below meth c Z own nam bytes maxL ret n0 h0 ws Q I h k n pc Ls st := by
  subst hq1
  exact  step g fun E T L t vm0 B X _ hr => XT.iincV X.here E.1 rfl v (hb E.2.1 hd) hv (by simpa using hl) (one_store (by simp [oneAt, hl, oneB, Value.category]) rfl) hr

theorem dup {q1 : Nat} {x : Value} (hd : decode bytes pc = .ok (.dup, 1)) (hq1 : pc + 1 = q1) (hc : x.category = 1) (g : Wp wd p l e R s m args below meth c Z own nam bytes maxL ret n0 h0 ws Q I h k n q1 Ls (x :: x :: rest)) : Wp wd p l e R s m args below meth c Z own nam bytes maxL ret n0 h0 ws Q I h k n pc Ls (x :: rest) := by
  subst hq1
  exact  step g fun E T L t vm0 B X _ hr => XS.dup X.here E.1 rfl (hb E.2.1 hd) rfl hc hr

theorem pop {q1 : Nat} {x : Value} (hd : decode bytes pc = .ok (.pop, 1)) (hq1 : pc + 1 = q1) (hc : x.category = 1) (g : Wp wd p l e R s m args below meth c Z own nam bytes maxL ret n0 h0 ws Q I h k n q1 Ls rest) : Wp wd p l e R s m args below meth c Z own nam bytes maxL ret n0 h0 ws Q I h k n pc Ls (x :: rest) := by
  subst hq1
  exact  step g fun E T L t vm0 B X _ hr => XS.pop X.here E.1 rfl (hb E.2.1 hd) rfl hc hr

theorem dup_x1 {q1 : Nat} {x y : Value} (hd : decode bytes pc = .ok (.dup_x1, 1)) (hq1 : pc + 1 = q1) (hc : x.category = 1) (hc' : y.category = 1) (g : Wp wd p l e R s m args below meth c Z own nam bytes maxL ret n0 h0 ws Q I h k n q1 Ls (x :: y :: x :: rest)) : Wp wd p l e R s m args below meth c Z own nam bytes maxL ret n0 h0 ws Q I h k n pc Ls (x :: y :: rest) := by
  subst hq1
  exact  step g fun E T L t vm0 B X _ hr => XS.dupX1 X.here E.1 rfl (hb E.2.1 hd) rfl hc hc' hr

theorem dup2 {q1 : Nat} {x y : Value} (hd : decode bytes pc = .ok (.dup2, 1)) (hq1 : pc + 1 = q1) (hc : x.category = 1) (hc' : y.category = 1) (g : Wp wd p l e R s m args below meth c Z own nam bytes maxL ret n0 h0 ws Q I h k n q1 Ls (x :: y :: x :: y :: rest)) : Wp wd p l e R s m args below meth c Z own nam bytes maxL ret n0 h0 ws Q I h k n pc Ls (x :: y :: rest) := by
  subst hq1
  exact  step g fun E T L t vm0 B X _ hr => XT.dup2 X.here E.1 rfl (hb E.2.1 hd) rfl hc hc' hr

theorem dup2L {q1 : Nat} {x : Int64} (hd : decode bytes pc = .ok (.dup2, 1)) (hq1 : pc + 1 = q1) (g : Wp wd p l e R s m args below meth c Z own nam bytes maxL ret n0 h0 ws Q I h k n q1 Ls (.long x :: .long x :: rest)) : Wp wd p l e R s m args below meth c Z own nam bytes maxL ret n0 h0 ws Q I h k n pc Ls (.long x :: rest) := by
  subst hq1
  exact  step g fun E T L t vm0 B X _ hr => XT.dup2L X.here E.1 rfl (hb E.2.1 hd) rfl hr

theorem goto {o : Int} {q : Nat} (hd : decode bytes pc = .ok (.goto o, 3)) (hq : (0 ≤ (pc : Int) + o) ∧ ((pc : Int) + o).toNat = q) (g : Wp wd p l e R s m args below meth c Z own nam bytes maxL ret n0 h0 ws Q I h k n q Ls st) : Wp wd p l e R s m args below meth c Z own nam bytes maxL ret n0 h0 ws Q I h k n pc Ls st :=
  step g fun E T L t vm0 B X _ hr => XS.goto X.here E.1 rfl rfl (hb E.2.1 hd) hq.1 hq.2 hr

theorem if_eq {q1 : Nat} {o : Int} {q : Nat} {x : Int32} (hd : decode bytes pc = .ok (.ifCond .eq o, 3)) (hq1 : pc + 3 = q1) (hq : (0 ≤ (pc : Int) + o) ∧ ((pc : Int) + o).toNat = q) (gt : x = 0 → Wp wd p l e R s m args below meth c Z own nam bytes maxL ret n0 h0 ws Q I h k n q Ls rest) (gf : ¬ x = 0 → Wp wd p l e R s m args below meth c Z own nam bytes maxL ret n0 h0 ws Q I h k n q1 Ls rest) : Wp wd p l e R s m args below meth c Z own nam bytes maxL ret n0 h0 ws Q I h k n pc Ls (.int x :: rest) := by
  subst hq1
  by_cases hc : x = 0
  · exact step (gt hc) fun E T L t vm0 B X _ hr => XS.ifYes X.here E.1 rfl rfl (hb E.2.1 hd) rfl ((if0 _ _).trans (teq hc).1) hq.1 hq.2 hr
  · exact step (gf hc) fun E T L t vm0 B X _ hr => XS.ifNo X.here E.1 rfl (hb E.2.1 hd) rfl ((if0 _ _).trans (feq hc).1) hr

theorem icmp_eq {q1 : Nat} {o : Int} {q : Nat} {x y : Int32} (hd : decode bytes pc = .ok (.if_icmp .eq o, 3)) (hq1 : pc + 3 = q1) (hq : (0 ≤ (pc : Int) + o) ∧ ((pc : Int) + o).toNat = q) (gt : x = y → Wp wd p l e R s m args below meth c Z own nam bytes maxL ret n0 h0 ws Q I h k n q Ls rest) (gf : ¬ x = y → Wp wd p l e R s m args below meth c Z own nam bytes maxL ret n0 h0 ws Q I h k n q1 Ls rest) : Wp wd p l e R s m args below meth c Z own nam bytes maxL ret n0 h0 ws Q I h k n pc Ls (.int y :: .int x :: rest) := by
  subst hq1
  by_cases hc : x = y
  · exact step (gt hc) fun E T L t vm0 B X _ hr => XS.icmpYes X.here E.1 rfl rfl (hb E.2.1 hd) rfl (teq hc).1 hq.1 hq.2 hr
  · exact step (gf hc) fun E T L t vm0 B X _ hr => XS.icmpNo X.here E.1 rfl (hb E.2.1 hd) rfl (feq hc).1 hr

theorem if_ne {q1 : Nat} {o : Int} {q : Nat} {x : Int32} (hd : decode bytes pc = .ok (.ifCond .ne o, 3)) (hq1 : pc + 3 = q1) (hq : (0 ≤ (pc : Int) + o) ∧ ((pc : Int) + o).toNat = q) (gt : ¬ x = 0 → Wp wd p l e R s m args below meth c Z own nam bytes maxL ret n0 h0 ws Q I h k n q Ls rest) (gf : x = 0 → Wp wd p l e R s m args below meth c Z own nam bytes maxL ret n0 h0 ws Q I h k n q1 Ls rest) : Wp wd p l e R s m args below meth c Z own nam bytes maxL ret n0 h0 ws Q I h k n pc Ls (.int x :: rest) := by
  subst hq1
  by_cases hc : x = 0
  · exact step (gf hc) fun E T L t vm0 B X _ hr => XS.ifNo X.here E.1 rfl (hb E.2.1 hd) rfl ((if0 _ _).trans (teq hc).2) hr
  · exact step (gt hc) fun E T L t vm0 B X _ hr => XS.ifYes X.here E.1 rfl rfl (hb E.2.1 hd) rfl ((if0 _ _).trans (feq hc).2) hq.1 hq.2 hr

theorem icmp_ne {q1 : Nat} {o : Int} {q : Nat} {x y : Int32} (hd : decode bytes pc = .ok (.if_icmp .ne o, 3)) (hq1 : pc + 3 = q1) (hq : (0 ≤ (pc : Int) + o) ∧ ((pc : Int) + o).toNat = q) (gt : ¬ x = y → Wp wd p l e R s m args below meth c Z own nam bytes maxL ret n0 h0 ws Q I h k n q Ls rest) (gf : x = y → Wp wd p l e R s m args below meth c Z own nam bytes maxL ret n0 h0 ws Q I h k n q1 Ls rest) : Wp wd p l e R s m args below meth c Z own nam bytes maxL ret n0 h0 ws Q I h k n pc Ls (.int y :: .int x :: rest) := by
  subst hq1
  by_cases hc : x = y
  · exact step (gf hc) fun E T L t vm0 B X _ hr => XS.icmpNo X.here E.1 rfl (hb E.2.1 hd) rfl (teq hc).2 hr
  · exact step (gt hc) fun E T L t vm0 B X _ hr => XS.icmpYes X.here E.1 rfl rfl (hb E.2.1 hd) rfl (feq hc).2 hq.1 hq.2 hr

theorem if_lt {q1 : Nat} {o : Int} {q : Nat} {x : Int32} (hd : decode bytes pc = .ok (.ifCond .lt o, 3)) (hq1 : pc + 3 = q1) (hq : (0 ≤ (pc : Int) + o) ∧ ((pc : Int) + o).toNat = q) (gt : x < 0 → Wp wd p l e R s m args below meth c Z own nam bytes maxL ret n0 h0 ws Q I h k n q Ls rest) (gf : ¬ x < 0 → Wp wd p l e R s m args below meth c Z own nam bytes maxL ret n0 h0 ws Q I h k n q1 Ls rest) : Wp wd p l e R s m args below meth c Z own nam bytes maxL ret n0 h0 ws Q I h k n pc Ls (.int x :: rest) := by
  subst hq1
  by_cases hc : x < 0
  · exact step (gt hc) fun E T L t vm0 B X _ hr => XS.ifYes X.here E.1 rfl rfl (hb E.2.1 hd) rfl ((if0 _ _).trans (tlt hc).1) hq.1 hq.2 hr
  · exact step (gf hc) fun E T L t vm0 B X _ hr => XS.ifNo X.here E.1 rfl (hb E.2.1 hd) rfl ((if0 _ _).trans (flt hc).1) hr

theorem icmp_lt {q1 : Nat} {o : Int} {q : Nat} {x y : Int32} (hd : decode bytes pc = .ok (.if_icmp .lt o, 3)) (hq1 : pc + 3 = q1) (hq : (0 ≤ (pc : Int) + o) ∧ ((pc : Int) + o).toNat = q) (gt : x < y → Wp wd p l e R s m args below meth c Z own nam bytes maxL ret n0 h0 ws Q I h k n q Ls rest) (gf : ¬ x < y → Wp wd p l e R s m args below meth c Z own nam bytes maxL ret n0 h0 ws Q I h k n q1 Ls rest) : Wp wd p l e R s m args below meth c Z own nam bytes maxL ret n0 h0 ws Q I h k n pc Ls (.int y :: .int x :: rest) := by
  subst hq1
  by_cases hc : x < y
  · exact step (gt hc) fun E T L t vm0 B X _ hr => XS.icmpYes X.here E.1 rfl rfl (hb E.2.1 hd) rfl (tlt hc).1 hq.1 hq.2 hr
  · exact step (gf hc) fun E T L t vm0 B X _ hr => XS.icmpNo X.here E.1 rfl (hb E.2.1 hd) rfl (flt hc).1 hr

theorem if_ge {q1 : Nat} {o : Int} {q : Nat} {x : Int32} (hd : decode bytes pc = .ok (.ifCond .ge o, 3)) (hq1 : pc + 3 = q1) (hq : (0 ≤ (pc : Int) + o) ∧ ((pc : Int) + o).toNat = q) (gt : ¬ x < 0 → Wp wd p l e R s m args below meth c Z own nam bytes maxL ret n0 h0 ws Q I h k n q Ls rest) (gf : x < 0 → Wp wd p l e R s m args below meth c Z own nam bytes maxL ret n0 h0 ws Q I h k n q1 Ls rest) : Wp wd p l e R s m args below meth c Z own nam bytes maxL ret n0 h0 ws Q I h k n pc Ls (.int x :: rest) := by
  subst hq1
  by_cases hc : x < 0
  · exact step (gf hc) fun E T L t vm0 B X _ hr => XS.ifNo X.here E.1 rfl (hb E.2.1 hd) rfl ((if0 _ _).trans (tlt hc).2.1) hr
  · exact step (gt hc) fun E T L t vm0 B X _ hr => XS.ifYes X.here E.1 rfl rfl (hb E.2.1 hd) rfl ((if0 _ _).trans (flt hc).2.1) hq.1 hq.2 hr

theorem icmp_ge {q1 : Nat} {o : Int} {q : Nat} {x y : Int32} (hd : decode bytes pc = .ok (.if_icmp .ge o, 3)) (hq1 : pc + 3 = q1) (hq : (0 ≤ (pc : Int) + o) ∧ ((pc : Int) + o).toNat = q) (gt : ¬ x < y → Wp wd p l e R s m args below meth c Z own nam bytes maxL ret n0 h0 ws Q I h k n q Ls rest) (gf : x < y → Wp wd p l e R s m args below meth c Z own nam bytes maxL ret n0 h0 ws Q I h k n q1 Ls rest) : Wp wd p l e R s m args below meth c Z own nam bytes maxL ret n0 h0 ws Q I h k n pc Ls (.int y :: .int x :: rest) := by
  subst hq1
  by_cases hc : x < y
  · exact step (gf hc) fun E T L t vm0 B X _ hr => XS.icmpNo X.here E.1 rfl (hb E.2.1 hd) rfl (tlt hc).2.1 hr
  · exact step (gt hc) fun E T L t vm0 B X _ hr => XS.icmpYes X.here E.1 rfl rfl (hb E.2.1 hd) rfl (flt hc).2.1 hq.1 hq.2 hr

theorem if_gt {q1 : Nat} {o : Int} {q : Nat} {x : Int32} (hd : decode bytes pc = .ok (.ifCond .gt o, 3)) (hq1 : pc + 3 = q1) (hq : (0 ≤ (pc : Int) + o) ∧ ((pc : Int) + o).toNat = q) (gt : 0 < x → Wp wd p l e R s m args below meth c Z own nam bytes maxL ret n0 h0 ws Q I h k n q Ls rest) (gf : ¬ 0 < x → Wp wd p l e R s m args below meth c Z own nam bytes maxL ret n0 h0 ws Q I h k n q1 Ls rest) : Wp wd p l e R s m args below meth c Z own nam bytes maxL ret n0 h0 ws Q I h k n pc Ls (.int x :: rest) := by
  subst hq1
  by_cases hc : 0 < x
  · exact step (gt hc) fun E T L t vm0 B X _ hr => XS.ifYes X.here E.1 rfl rfl (hb E.2.1 hd) rfl ((if0 _ _).trans (tlt hc).2.2.1) hq.1 hq.2 hr
  · exact step (gf hc) fun E T L t vm0 B X _ hr => XS.ifNo X.here E.1 rfl (hb E.2.1 hd) rfl ((if0 _ _).trans (flt hc).2.2.1) hr

theorem icmp_gt {q1 : Nat} {o : Int} {q : Nat} {x y : Int32} (hd : decode bytes pc = .ok (.if_icmp .gt o, 3)) (hq1 : pc + 3 = q1) (hq : (0 ≤ (pc : Int) + o) ∧ ((pc : Int) + o).toNat = q) (gt : y < x → Wp wd p l e R s m args below meth c Z own nam bytes maxL ret n0 h0 ws Q I h k n q Ls rest) (gf : ¬ y < x → Wp wd p l e R s m args below meth c Z own nam bytes maxL ret n0 h0 ws Q I h k n q1 Ls rest) : Wp wd p l e R s m args below meth c Z own nam bytes maxL ret n0 h0 ws Q I h k n pc Ls (.int y :: .int x :: rest) := by
  subst hq1
  by_cases hc : y < x
  · exact step (gt hc) fun E T L t vm0 B X _ hr => XS.icmpYes X.here E.1 rfl rfl (hb E.2.1 hd) rfl (tlt hc).2.2.1 hq.1 hq.2 hr
  · exact step (gf hc) fun E T L t vm0 B X _ hr => XS.icmpNo X.here E.1 rfl (hb E.2.1 hd) rfl (flt hc).2.2.1 hr

theorem if_le {q1 : Nat} {o : Int} {q : Nat} {x : Int32} (hd : decode bytes pc = .ok (.ifCond .le o, 3)) (hq1 : pc + 3 = q1) (hq : (0 ≤ (pc : Int) + o) ∧ ((pc : Int) + o).toNat = q) (gt : ¬ 0 < x → Wp wd p l e R s m args below meth c Z own nam bytes maxL ret n0 h0 ws Q I h k n q Ls rest) (gf : 0 < x → Wp wd p l e R s m args below meth c Z own nam bytes maxL ret n0 h0 ws Q I h k n q1 Ls rest) : Wp wd p l e R s m args below meth c Z own nam bytes maxL ret n0 h0 ws Q I h k n pc Ls (.int x :: rest) := by
  subst hq1
  by_cases hc : 0 < x
  · exact step (gf hc) fun E T L t vm0 B X _ hr => XS.ifNo X.here E.1 rfl (hb E.2.1 hd) rfl ((if0 _ _).trans (tlt hc).2.2.2) hr
  · exact step (gt hc) fun E T L t vm0 B X _ hr => XS.ifYes X.here E.1 rfl rfl (hb E.2.1 hd) rfl ((if0 _ _).trans (flt hc).2.2.2) hq.1 hq.2 hr

theorem icmp_le {q1 : Nat} {o : Int} {q : Nat} {x y : Int32} (hd : decode bytes pc = .ok (.if_icmp .le o, 3)) (hq1 : pc + 3 = q1) (hq : (0 ≤ (pc : Int) + o) ∧ ((pc : Int) + o).toNat = q) (gt : ¬ y < x → Wp wd p l e R s m args below meth c Z own nam bytes maxL ret n0 h0 ws Q I h k n q Ls rest) (gf : y < x → Wp wd p l e R s m args below meth c Z own nam bytes maxL ret n0 h0 ws Q I h k n q1 Ls rest) : Wp wd p l e R s m args below meth c Z own nam bytes maxL ret n0 h0 ws Q I h k n pc Ls (.int y :: .int x :: rest) := by
  subst hq1
  by_cases hc : y < x
  · exact step (gf hc) fun E T L t vm0 B X _ hr => XS.icmpNo X.here E.1 rfl (hb E.2.1 hd) rfl (tlt hc).2.2.2 hr
  · exact step (gt hc) fun E T L t vm0 B X _ hr => XS.icmpYes X.here E.1 rfl rfl (hb E.2.1 hd) rfl (flt hc).2.2.2 hq.1 hq.2 hr

theorem ifnull {q1 : Nat} {o : Int} {q : Nat} {v : Value} (hd : decode bytes pc = .ok (.ifnull o, 3)) (hq1 : pc + 3 = q1) (hq : (0 ≤ (pc : Int) + o) ∧ ((pc : Int) + o).toNat = q) (hv : v.isRef = true) (gt : v = .null → Wp wd p l e R s m args below meth c Z own nam bytes maxL ret n0 h0 ws Q I h k n q Ls rest) (gf : ¬ v = .null → Wp wd p l e R s m args below meth c Z own nam bytes maxL ret n0 h0 ws Q I h k n q1 Ls rest) : Wp wd p l e R s m args below meth c Z own nam bytes maxL ret n0 h0 ws Q I h k n pc Ls (v :: rest) := by
  subst hq1
  by_cases hn : v = .null
  · exact step (gt hn) fun E T L t vm0 B X _ hr => XT.nullYes X.here E.1 rfl rfl (hb E.2.1 hd) rfl hn hq.1 hq.2 hr
  · exact step (gf hn) fun E T L t vm0 B X _ hr => XT.nullNo X.here E.1 rfl (hb E.2.1 hd) rfl hv hn hr

theorem ifnonnull {q1 : Nat} {o : Int} {q : Nat} {v : Value} (hd : decode bytes pc = .ok (.ifnonnull o, 3)) (hq1 : pc + 3 = q1) (hq : (0 ≤ (pc : Int) + o) ∧ ((pc : Int) + o).toNat = q) (hv : v.isRef = true) (gt : ¬ v = .null → Wp wd p l e R s m args below meth c Z own nam bytes maxL ret n0 h0 ws Q I h k n q Ls rest) (gf : v = .null → Wp wd p l e R s m args below meth c Z own nam bytes maxL ret n0 h0 ws Q I h k n q1 Ls rest) : Wp wd p l e R s m args below meth c Z own nam bytes maxL ret n0 h0 ws Q I h k n pc Ls (v :: rest) := by
  subst hq1
  by_cases hn : v = .null
  · exact step (gf hn) fun E T L t vm0 B X _ hr => XT.nonnullNo X.here E.1 rfl (hb E.2.1 hd) rfl hn hr
  · exact step (gt hn) fun E T L t vm0 B X _ hr => XT.nonnullYes X.here E.1 rfl rfl (hb E.2.1 hd) rfl hv hn hq.1 hq.2 hr

theorem acmp_eq {q1 : Nat} {o : Int} {q : Nat} {x y : Value} (hd : decode bytes pc = .ok (.if_acmp .eq o, 3)) (hq1 : pc + 3 = q1) (hq : (0 ≤ (pc : Int) + o) ∧ ((pc : Int) + o).toNat = q) (hx : x.isRef = true) (hy : y.isRef = true) (gt : x = y → Wp wd p l e R s m args below meth c Z own nam bytes maxL ret n0 h0 ws Q I h k n q Ls rest) (gf : ¬ x = y → Wp wd p l e R s m args below meth c Z own nam bytes maxL ret n0 h0 ws Q I h k n q1 Ls rest) : Wp wd p l e R s m args below meth c Z own nam bytes maxL ret n0 h0 ws Q I h k n pc Ls (y :: x :: rest) := by
  subst hq1
  by_cases hn : x = y
  · exact step (gt hn) fun E T L t vm0 B X _ hr => XT.acmpYes X.here E.1 rfl rfl (hb E.2.1 hd) rfl hx hy (XT.aa_eq_t hn) hq.1 hq.2 hr
  · exact step (gf hn) fun E T L t vm0 B X _ hr => XT.acmpNo X.here E.1 rfl (hb E.2.1 hd) rfl hx hy (XT.aa_eq_f hn) hr

theorem acmp_ne {q1 : Nat} {o : Int} {q : Nat} {x y : Value} (hd : decode bytes pc = .ok (.if_acmp .ne o, 3)) (hq1 : pc + 3 = q1) (hq : (0 ≤ (pc : Int) + o) ∧ ((pc : Int) + o).toNat = q) (hx : x.isRef = true) (hy : y.isRef = true) (gt : ¬ x = y → Wp wd p l e R s m args below meth c Z own nam bytes maxL ret n0 h0 ws Q I h k n q Ls rest) (gf : x = y → Wp wd p l e R s m args below meth c Z own nam bytes maxL ret n0 h0 ws Q I h k n q1 Ls rest) : Wp wd p l e R s m args below meth c Z own nam bytes maxL ret n0 h0 ws Q I h k n pc Ls (y :: x :: rest) := by
  subst hq1
  by_cases hn : x = y
  · exact step (gf hn) fun E T L t vm0 B X _ hr => XT.acmpNo X.here E.1 rfl (hb E.2.1 hd) rfl hx hy (XT.aa_ne_f hn) hr
  · exact step (gt hn) fun E T L t vm0 B X _ hr => XT.acmpYes X.here E.1 rfl rfl (hb E.2.1 hd) rfl hx hy (XT.aa_ne_t hn) hq.1 hq.2 hr

theorem getfield {q1 : Nat} {i : Nat} {R0 O f d : String} {a : Addr} {v : Value} (hd : decode bytes pc = .ok (.getfield i, 3)) (hq1 : pc + 3 = q1) (w : (Cond.fieldLink own i R0 f d).before a0 Z = true) (via : Via Z R0 O f d) (F : Fld Z h a O f d v) (g : Wp wd p l e R s m args below meth c Z own nam bytes maxL ret n0 h0 ws Q I h k n q1 Ls (v :: rest)) : Wp wd p l e R s m args below meth c Z own nam bytes maxL ret n0 h0 ws Q I h k n pc Ls (.ref a :: rest) := by
  subst hq1
  exact  lawS fun E T L vm0 B X N eT => by
    obtain ⟨T', X', e', st'⟩ := getF X E.1 (bZ E B) (bO E B) (host := "") (Or.inl w) via eT F (g := mkF m pc Ls.toArray (.ref a :: rest)) rfl rfl (hb E.2.1 hd)
    exact ⟨T', L, h, k, n, X', N, e', Nat.le_refl _, st', g⟩

theorem putfield {q1 : Nat} {i kk : Nat} {R0 O f d C : String} {ty : FieldType} {a : Addr} {v old : Value} (hd : decode bytes pc = .ok (.putfield i, 3)) (hq1 : pc + 3 = q1) (w : (Cond.fieldLink own i R0 f d).before a0 Z = true) (via : Via Z R0 O f d) (F : Fld Z h a O f d old) (X0 : Exa Z h a C) (Lw : (Cond.lays C O f d).before a0 Z = true ∨ ((Cond.laysFinal C O f d).before a0 Z = true ∧ own = O ∧ nam = "<init>")) (wi : (Cond.instantiable C kk).before a0 Z = true) (hty : parseFieldDescriptor d = some ty) (hn : narrow ty v = v) (hf : fits ty v = true) (ha : a ∈ ws ∨ h0.size ≤ a)
    (g : ∀ h', Wr h h' a (Jvm.RoadKit.slotOf Z O f d) v → Wp wd p l e R s m args below meth c Z own nam bytes maxL ret n0 h0 ws Q I h' k n q1 Ls rest) : Wp wd p l e R s m args below meth c Z own nam bytes maxL ret n0 h0 ws Q I h k n pc Ls (v :: .ref a :: rest) := by
  subst hq1
  exact  lawS fun E T L vm0 B X N eT => by
    obtain ⟨T', h', X', e', W', st'⟩ := putF X E.1 (bZ E B) (bO E B) (host := "") (Or.inl w) via eT F X0 (Lw.imp id fun q => ⟨q.1, q.2.1, E.2.2.2.2.2.1.trans q.2.2⟩) wi hty hn hf (g := mkF m pc Ls.toArray (v :: .ref a :: rest)) rfl rfl (hb E.2.1 hd)
    exact ⟨T', _, h', k, n, X', Pmt.snoc N ha, e', Nat.le_of_eq W'.size.symm, st', g h' W'⟩

theorem putfieldN {q1 : Nat} {i kk : Nat} {R0 O f d C : String} {ty : FieldType} {a : Addr} {v v' old : Value} (hd : decode bytes pc = .ok (.putfield i, 3)) (hq1 : pc + 3 = q1) (w : (Cond.fieldLink own i R0 f d).before a0 Z = true) (via : Via Z R0 O f d) (F : Fld Z h a O f d old) (X0 : Exa Z h a C) (Lw : (Cond.lays C O f d).before a0 Z = true ∨ ((Cond.laysFinal C O f d).before a0 Z = true ∧ own = O ∧ nam = "<init>")) (wi : (Cond.instantiable C kk).before a0 Z = true) (hty : parseFieldDescriptor d = some ty) (hn : narrow ty v = v') (hf : fits ty v' = true) (ha : a ∈ ws ∨ h0.size ≤ a)
    (g : ∀ h', Wr h h' a (Jvm.RoadKit.slotOf Z O f d) v' → Wp wd p l e R s m args below meth c Z own nam bytes maxL ret n0 h0 ws Q I h' k n q1 Ls rest) : Wp wd p l e R s m args below meth c Z own nam bytes maxL ret n0 h0 ws Q I h k n pc Ls (v :: .ref a :: rest) := by
  subst hq1
  exact  lawS fun E T L vm0 B X N eT => by
    obtain ⟨T', h', X', e', W', st'⟩ := putFN X E.1 (bZ E B) (bO E B) w via eT F X0 (Lw.imp id fun q => ⟨q.1, q.2.1, E.2.2.2.2.2.1.trans q.2.2⟩) wi hty hn hf (g := mkF m pc Ls.toArray (v :: .ref a :: rest)) rfl rfl (hb E.2.1 hd)
    exact ⟨T', _, h', k, n, X', Pmt.snoc N ha, e', Nat.le_of_eq W'.size.symm, st', g h' W'⟩

theorem getstatic {q1 : Nat} {i : Nat} {R0 O f d : String} {v : Value} (hd : decode bytes pc = .ok (.getstatic i, 3)) (hq1 : pc + 3 = q1) (w : (Cond.fieldLink own i R0 f d).before a0 Z = true) (via : Via Z R0 O f d) (F : Sta Z h O f d v) (g : Wp wd p l e R s m args below meth c Z own nam bytes maxL ret n0 h0 ws Q I h k n q1 Ls (v :: st)) : Wp wd p l e R s m args below meth c Z own nam bytes maxL ret n0 h0 ws Q I h k n pc Ls st := by
  subst hq1
  exact  lawS fun E T L vm0 B X N eT => by
    obtain ⟨T', X', e', st'⟩ := getS (host := "") X E.1 (bZ E B) (bO E B) w via eT F (g := mkF m pc Ls.toArray st) rfl (hb E.2.1 hd)
    exact ⟨T', L, h, k, n, X', N, e', Nat.le_refl _, st', g⟩

theorem checkcast {q1 : Nat} {i : Nat} {K : String} {a : Addr} (hd : decode bytes pc = .ok (.checkcast i, 3)) (hq1 : pc + 3 = q1) (w : (Cond.classLink own i K).before a0 Z = true) (II : Ins Z h a K true) (g : Wp wd p l e R s m args below meth c Z own nam bytes maxL ret n0 h0 ws Q I h k n q1 Ls (.ref a :: rest)) : Wp wd p l e R s m args below meth c Z own nam bytes maxL ret n0 h0 ws Q I h k n pc Ls (.ref a :: rest) := by
  subst hq1
  exact  lawS fun E T L vm0 B X N eT => by
    obtain ⟨T', X', e', st'⟩ := castY X E.1 (bZ E B) (bO E B) w eT II (g := mkF m pc Ls.toArray (.ref a :: rest)) rfl rfl (hb E.2.1 hd)
    exact ⟨T', L, h, k, n, X', N, e', Nat.le_refl _, st', g⟩

theorem instanceofY {q1 : Nat} {i : Nat} {K : String} {a : Addr} (hd : decode bytes pc = .ok (.instanceof i, 3)) (hq1 : pc + 3 = q1) (w : (Cond.classLink own i K).before a0 Z = true) (II : Ins Z h a K true) (g : Wp wd p l e R s m args below meth c Z own nam bytes maxL ret n0 h0 ws Q I h k n q1 Ls (.int 1 :: rest)) : Wp wd p l e R s m args below meth c Z own nam bytes maxL ret n0 h0 ws Q I h k n pc Ls (.ref a :: rest) := by
  subst hq1
  exact  lawS fun E T L vm0 B X N eT => by
    obtain ⟨T', X', e', st'⟩ := instY X E.1 (bZ E B) (bO E B) w eT II (g := mkF m pc Ls.toArray (.ref a :: rest)) rfl rfl (hb E.2.1 hd)
    exact ⟨T', L, h, k, n, X', N, e', Nat.le_refl _, st', g⟩

theorem new {q1 : Nat} {i sz : Nat} {C : String} (hd : decode bytes pc = .ok (.new i, 3)) (hq1 : pc + 3 = q1) (w : (Cond.classLink own i C).before a0 Z = true) (wi : (Cond.instantiable C sz).before a0 Z = true) (wz : (Cond.initialized C).before a0 Z = true) (hk : k + 1 ≤ R.cells) (hn : n + sz ≤ R.slots)
    (g : h0.size ≤ h.size → ∀ h', Ext h h' → Exa Z h' h.size C → (∀ {O nm d : String} {ty : FieldType}, Laid Z a0 C O nm d → parseFieldDescriptor d = some ty → Fld Z h' h.size O nm d (defaultValue ty)) → Unt h' h.size → Wp wd p l e R s m args below meth c Z own nam bytes maxL ret n0 h0 ws Q I h' (k + 1) (n + sz) q1 Ls (.ref h.size :: st)) : Wp wd p l e R s m args below meth c Z own nam bytes maxL ret n0 h0 ws Q I h k n pc Ls st := by
  subst hq1
  exact  lawS fun E T L vm0 B X N eT => by
    obtain ⟨T', h', X', e', E', A', D', U', st'⟩ := newO X E.1 (bZ E B) (bO E B) w wi wz eT (g := mkF m pc Ls.toArray st) rfl (hb E.2.1 hd) hk hn
    exact ⟨T', L, h', _, _, X', N, e', E'.1, st', g (szOf E X eT) h' E' A' D' U'⟩

/-- an array: its kind, length and values -/
def Ary (Z : State) (h : Heap) (a : Addr) (ty : FieldType) (len : Nat) (f : Nat → Value) : Prop := ∃ cl : Cell, Arr Z h a cl ty ∧ cl.slots.size = len ∧ len < 2 ^ 31 ∧ ∀ i, i < len → cl.slots[i]? = some (f i)
theorem Ary.lt {h : Heap} {a : Addr} {ty : FieldType} {len : Nat} {f : Nat → Value} (A : Ary Z h a ty len f) : a < h.size := by obtain ⟨c, q, -⟩ := A; exact q.lt
theorem Ary.ext {h h' : Heap} {a : Addr} {ty : FieldType} {len : Nat} {f : Nat → Value} (A : Ary Z h a ty len f) (E : Ext h h') : Ary Z h' a ty len f := by obtain ⟨c, q, r⟩ := A; exact ⟨c, q.ext E, r⟩
theorem Ary.other {h h' : Heap} {a b : Addr} {ty : FieldType} {len sl : Nat} {f : Nat → Value} {v : Value} (A : Ary Z h a ty len f) (W : Wr h h' b sl v) (q : a ≠ b) : Ary Z h' a ty len f := by obtain ⟨c, q', r⟩ := A; exact ⟨c, q'.other W q, r⟩
theorem Ary.keep {h h' : Heap} {a : Addr} {ty : FieldType} {len : Nat} {f : Nat → Value} {ws : List Addr} (A : Ary Z h a ty len f) (K : Keep h h' ws) (q : a ∉ ws) : Ary Z h' a ty len f := by obtain ⟨c, q', r⟩ := A; exact ⟨c, ⟨K.2.1 a c q'.1 q, q'.2⟩, r⟩
theorem Ary.same {h h' : Heap} {a : Addr} {ty : FieldType} {len j : Nat} {f : Nat → Value} {v : Value} (A : Ary Z h a ty len f) (W : Wr h h' a j v) : Ary Z h' a ty len (fun i => if i = j then v else f i) := by
  obtain ⟨c, q, r1, r2, r3⟩ := A
  refine ⟨_, q.same W, by rw [sz_set]; exact r1, r2, fun i hi => ?_⟩
  by_cases e : i = j
  · subst e; simp [Cell.setSlot, r1, hi]
  · simp only [e, if_false]; rw [← r3 i hi]; exact Array.getElem?_setIfInBounds_ne (Ne.symm e)
theorem Ary.cong {h : Heap} {a : Addr} {ty : FieldType} {len : Nat} {f f' : Nat → Value} (A : Ary Z h a ty len f) (q : ∀ i, i < len → f i = f' i) : Ary Z h a ty len f' := by obtain ⟨c, q', r1, r2, r3⟩ := A; exact ⟨c, q', r1, r2, fun i hi => by rw [← q i hi]; exact r3 i hi⟩
theorem Ary.bound {h : Heap} {a : Addr} {ty : FieldType} {len : Nat} {f : Nat → Value} (A : Ary Z h a ty len f) : len < 2 ^ 31 := by obtain ⟨c, q, r1, r2, r3⟩ := A; exact r2
theorem idx_ok {j : Int32} {i len : Nat} (hj : j.toInt = (i : Int)) (hi : i < len) {cl : Cell} (r : cl.slots.size = len) : ¬ (j < 0 ∨ cl.slots.size ≤ j.toNatClampNeg) ∧ j.toNatClampNeg = i := by
  have e : j.toNatClampNeg = i := by simp [Int32.toNatClampNeg, hj]
  refine ⟨fun q => ?_, e⟩
  rcases q with q | q
  · rw [Int32.lt_iff_toInt_lt, hj] at q; simp at q; omega
  · omega
theorem len_int {len : Nat} {z : Int32} (hz : z.toInt = (len : Int)) (hl : len < 2 ^ 31) : len.toInt32 = z := Int32.toInt_inj.mp (by rw [len_toInt hl, hz])
theorem arraylength {q1 : Nat} {a : Addr} {ty : FieldType} {len : Nat} {f : Nat → Value} {z : Int32} (hd : decode bytes pc = .ok (.arraylength, 1)) (hq1 : pc + 1 = q1) (A : Ary Z h a ty len f) (hz : z.toInt = (len : Int)) (g : Wp wd p l e R s m args below meth c Z own nam bytes maxL ret n0 h0 ws Q I h k n q1 Ls (.int z :: rest)) : Wp wd p l e R s m args below meth c Z own nam bytes maxL ret n0 h0 ws Q I h k n pc Ls (.ref a :: rest) := by
  subst hq1
  exact  step g fun E T L t vm0 B X eT hr => by
    obtain ⟨cl, q, r1, r2, r3⟩ := A
    refine X.arraylength E.1 (by rw [eT]; exact q.1) (State.isArrayOf_alike (bZ E B).alike q.2.1) (g := mkF m pc Ls.toArray (.ref a :: rest)) rfl rfl (hb E.2.1 hd) _ ?_
    rw [r1, len_int hz r2]; exact hr
/-- a fresh array -/
theorem newarray {q1 : Nat} {aty : ArrayType} {N : Int32} {len cap : Nat} (hd : decode bytes pc = .ok (.newarray aty, 2)) (hq1 : pc + 2 = q1) (w : (Cond.arrayClass (newarray.typeOf aty)).before a0 Z = true) (hN : N.toInt = (len : Int)) (hcap : len ≤ cap) (hb0 : cap * 8 ≤ 536870912) (hk : k + 1 ≤ R.cells) (hn : n + cap ≤ R.slots)
    (g : h0.size ≤ h.size → ∀ h', Ext h h' → Ary Z h' h.size (newarray.typeOf aty) len (fun _ => defaultValue (newarray.typeOf aty)) → Wp wd p l e R s m args below meth c Z own nam bytes maxL ret n0 h0 ws Q I h' (k + 1) (n + cap) q1 Ls (.ref h.size :: rest)) : Wp wd p l e R s m args below meth c Z own nam bytes maxL ret n0 h0 ws Q I h k n pc Ls (.int N :: rest) := by
  subst hq1
  exact  lawS fun E T L vm0 B X NN eT => by
    have hneg : ¬ N < 0 := by rw [Int32.lt_iff_toInt_lt, hN]; simp
    have hcl : N.toNatClampNeg = len := by simp [Int32.toNatClampNeg, hN]
    obtain ⟨T', h', cA, X', e', E', A', st'⟩ := newP X E.1 (bZ E B) w eT (g := mkF m pc Ls.toArray (.int N :: rest)) rfl (hb E.2.1 hd) rfl hneg (cap := cap) (by omega) hb0 hk hn
    refine ⟨T', L, h', _, _, X', NN, e', E'.1, st', g (szOf E X eT) h' E' ⟨_, A', by rw [sz_new, hcl], by omega, fun i hi => ?_⟩⟩
    simp [newA, hcl, hi]
/-- a fresh array of references, with what may lie in it -/
def AryR (Z : State) (h : Heap) (a : Addr) (C : String) (len : Nat) (f : Nat → Value) : Prop := ∃ cl : Cell, Arr Z h a cl (.object C) ∧ Ovr Z cl.cls C ∧ cl.slots.size = len ∧ len < 2 ^ 31 ∧ ∀ i, i < len → cl.slots[i]? = some (f i)
theorem AryR.ary {h : Heap} {a : Addr} {C : String} {len : Nat} {f : Nat → Value} (A : AryR Z h a C len f) : Ary Z h a (.object C) len f := by obtain ⟨c, q, -, r⟩ := A; exact ⟨c, q, r⟩
theorem AryR.lt {h : Heap} {a : Addr} {C : String} {len : Nat} {f : Nat → Value} (A : AryR Z h a C len f) : a < h.size := A.ary.lt
theorem AryR.ext {h h' : Heap} {a : Addr} {C : String} {len : Nat} {f : Nat → Value} (A : AryR Z h a C len f) (E : Ext h h') : AryR Z h' a C len f := by obtain ⟨c, q, r⟩ := A; exact ⟨c, q.ext E, r⟩
theorem AryR.other {h h' : Heap} {a b : Addr} {C : String} {len sl : Nat} {f : Nat → Value} {v : Value} (A : AryR Z h a C len f) (W : Wr h h' b sl v) (q : a ≠ b) : AryR Z h' a C len f := by obtain ⟨c, q', r⟩ := A; exact ⟨c, q'.other W q, r⟩
theorem AryR.keep {h h' : Heap} {a : Addr} {C : String} {len : Nat} {f : Nat → Value} {ws : List Addr} (A : AryR Z h a C len f) (K : Keep h h' ws) (q : a ∉ ws) : AryR Z h' a C len f := by obtain ⟨c, q', r⟩ := A; exact ⟨c, ⟨K.2.1 a c q'.1 q, q'.2⟩, r⟩
theorem AryR.same {h h' : Heap} {a : Addr} {C : String} {len j : Nat} {f : Nat → Value} {v : Value} (A : AryR Z h a C len f) (W : Wr h h' a j v) : AryR Z h' a C len (fun i => if i = j then v else f i) := by
  obtain ⟨c, q, o, r1, r2, r3⟩ := A
  refine ⟨_, q.same W, o, by rw [sz_set]; exact r1, r2, fun i hi => ?_⟩
  by_cases e : i = j
  · subst e; simp [Cell.setSlot, r1, hi]
  · simp only [e, if_false]; rw [← r3 i hi]; exact Array.getElem?_setIfInBounds_ne (Ne.symm e)
theorem AryR.cong {h : Heap} {a : Addr} {C : String} {len : Nat} {f f' : Nat → Value} (A : AryR Z h a C len f) (q : ∀ i, i < len → f i = f' i) : AryR Z h a C len f' := by obtain ⟨c, q', o, r1, r2, r3⟩ := A; exact ⟨c, q', o, r1, r2, fun i hi => by rw [← q i hi]; exact r3 i hi⟩
theorem anewarray {q1 : Nat} {i : Nat} {C : String} {N : Int32} {len cap : Nat} (hd : decode bytes pc = .ok (.anewarray i, 3)) (hq1 : pc + 3 = q1) (w1 : (Cond.classLink own i C).before a0 Z = true) (w2 : (Cond.arrayOver (.object C)).before a0 Z = true) (hN : N.toInt = (len : Int)) (hcap : len ≤ cap) (hb0 : cap * 8 ≤ 536870912) (hk : k + 1 ≤ R.cells) (hn : n + cap ≤ R.slots)
    (g : h0.size ≤ h.size → ∀ h', Ext h h' → AryR Z h' h.size C len (fun _ => .null) → Wp wd p l e R s m args below meth c Z own nam bytes maxL ret n0 h0 ws Q I h' (k + 1) (n + cap) q1 Ls (.ref h.size :: rest)) : Wp wd p l e R s m args below meth c Z own nam bytes maxL ret n0 h0 ws Q I h k n pc Ls (.int N :: rest) := by
  subst hq1
  exact  lawS fun E T L vm0 B X NN eT => by
    have hneg : ¬ N < 0 := by rw [Int32.lt_iff_toInt_lt, hN]; simp
    have hcl : N.toNatClampNeg = len := by simp [Int32.toNatClampNeg, hN]
    obtain ⟨T', h', cA, X', e', E', A', O', st'⟩ := newR X E.1 (bZ E B) (bO E B) w1 w2 eT (g := mkF m pc Ls.toArray (.int N :: rest)) rfl (hb E.2.1 hd) rfl hneg (cap := cap) (by omega) hb0 hk hn
    refine ⟨T', L, h', _, _, X', NN, e', E'.1, st', g (szOf E X eT) h' E' ⟨_, A', O', by rw [sz_new, hcl], by omega, fun i hi => ?_⟩⟩
    simp [newA, hcl, hi, defaultValue]

theorem iaload {q1 : Nat} {a : Addr} {len i : Nat} {f : Nat → Value} {j : Int32} {v : Value} (hd : decode bytes pc = .ok (.iaload, 1)) (hq1 : pc + 1 = q1) (A : Ary Z h a .int len f) (hj : j.toInt = (i : Int)) (hi : i < len) (hv : f i = v) (g : Wp wd p l e R s m args below meth c Z own nam bytes maxL ret n0 h0 ws Q I h k n q1 Ls (v :: rest)) : Wp wd p l e R s m args below meth c Z own nam bytes maxL ret n0 h0 ws Q I h k n pc Ls (.int j :: .ref a :: rest) := by
  subst hq1
  exact  step g fun E T L t vm0 B X eT hr => by
    obtain ⟨cl, q, r1, r2, r3⟩ := A
    obtain ⟨b1, b2⟩ := idx_ok hj hi r1
    exact X.iaload E.1 (v := v) (by rw [eT]; exact q.1) (State.isArrayOf_alike (bZ E B).alike q.2.1) q.2.2 b1 (by rw [b2, r3 i hi, hv]) (g := mkF m pc Ls.toArray (.int j :: .ref a :: rest)) rfl rfl (hb E.2.1 hd) _ hr

theorem laload {q1 : Nat} {a : Addr} {len i : Nat} {f : Nat → Value} {j : Int32} {v : Value} (hd : decode bytes pc = .ok (.laload, 1)) (hq1 : pc + 1 = q1) (A : Ary Z h a .long len f) (hj : j.toInt = (i : Int)) (hi : i < len) (hv : f i = v) (g : Wp wd p l e R s m args below meth c Z own nam bytes maxL ret n0 h0 ws Q I h k n q1 Ls (v :: rest)) : Wp wd p l e R s m args below meth c Z own nam bytes maxL ret n0 h0 ws Q I h k n pc Ls (.int j :: .ref a :: rest) := by
  subst hq1
  exact  step g fun E T L t vm0 B X eT hr => by
    obtain ⟨cl, q, r1, r2, r3⟩ := A
    obtain ⟨b1, b2⟩ := idx_ok hj hi r1
    exact X.laload E.1 (v := v) (by rw [eT]; exact q.1) (State.isArrayOf_alike (bZ E B).alike q.2.1) q.2.2 b1 (by rw [b2, r3 i hi, hv]) (g := mkF m pc Ls.toArray (.int j :: .ref a :: rest)) rfl rfl (hb E.2.1 hd) _ hr

theorem caload {q1 : Nat} {a : Addr} {len i : Nat} {f : Nat → Value} {j : Int32} {v : Value} (hd : decode bytes pc = .ok (.caload, 1)) (hq1 : pc + 1 = q1) (A : Ary Z h a .char len f) (hj : j.toInt = (i : Int)) (hi : i < len) (hv : f i = v) (g : Wp wd p l e R s m args below meth c Z own nam bytes maxL ret n0 h0 ws Q I h k n q1 Ls (v :: rest)) : Wp wd p l e R s m args below meth c Z own nam bytes maxL ret n0 h0 ws Q I h k n pc Ls (.int j :: .ref a :: rest) := by
  subst hq1
  exact  step g fun E T L t vm0 B X eT hr => by
    obtain ⟨cl, q, r1, r2, r3⟩ := A
    obtain ⟨b1, b2⟩ := idx_ok hj hi r1
    exact X.caload E.1 (v := v) (by rw [eT]; exact q.1) (State.isArrayOf_alike (bZ E B).alike q.2.1) q.2.2 b1 (by rw [b2, r3 i hi, hv]) (g := mkF m pc Ls.toArray (.int j :: .ref a :: rest)) rfl rfl (hb E.2.1 hd) _ hr

theorem baload {q1 : Nat} {a : Addr} {len i : Nat} {f : Nat → Value} {j : Int32} {v : Value} (hd : decode bytes pc = .ok (.baload, 1)) (hq1 : pc + 1 = q1) (A : Ary Z h a .byte len f) (hj : j.toInt = (i : Int)) (hi : i < len) (hv : f i = v) (g : Wp wd p l e R s m args below meth c Z own nam bytes maxL ret n0 h0 ws Q I h k n q1 Ls (v :: rest)) : Wp wd p l e R s m args below meth c Z own nam bytes maxL ret n0 h0 ws Q I h k n pc Ls (.int j :: .ref a :: rest) := by
  subst hq1
  exact  step g fun E T L t vm0 B X eT hr => by
    obtain ⟨cl, q, r1, r2, r3⟩ := A
    obtain ⟨b1, b2⟩ := idx_ok hj hi r1
    exact X.baloadBytes E.1 (v := v) (by rw [eT]; exact q.1) (State.isArrayOf_alike (bZ E B).alike q.2.1) q.2.2 b1 (by rw [b2, r3 i hi, hv]) (g := mkF m pc Ls.toArray (.int j :: .ref a :: rest)) rfl rfl (hb E.2.1 hd) _ hr

theorem aaload {q1 : Nat} {a : Addr} {len i : Nat} {ty : FieldType} {f : Nat → Value} {j : Int32} {v : Value} (hd : decode bytes pc = .ok (.aaload, 1)) (hq1 : pc + 1 = q1) (A : Ary Z h a ty len f) (hty : ty.isReference = true) (hj : j.toInt = (i : Int)) (hi : i < len) (hv : f i = v) (g : Wp wd p l e R s m args below meth c Z own nam bytes maxL ret n0 h0 ws Q I h k n q1 Ls (v :: rest)) : Wp wd p l e R s m args below meth c Z own nam bytes maxL ret n0 h0 ws Q I h k n pc Ls (.int j :: .ref a :: rest) := by
  subst hq1
  exact  step g fun E T L t vm0 B X eT hr => by
    obtain ⟨cl, q, r1, r2, r3⟩ := A
    obtain ⟨b1, b2⟩ := idx_ok hj hi r1
    exact X.aaload E.1 (v := v) (by rw [eT]; exact q.1) (State.isArrayOf_alike (bZ E B).alike q.2.1) hty q.2.2 b1 (by rw [b2, r3 i hi, hv]) (g := mkF m pc Ls.toArray (.int j :: .ref a :: rest)) rfl rfl (hb E.2.1 hd) _ hr

theorem iastore {q1 : Nat} {a : Addr} {len i : Nat} {f : Nat → Value} {j : Int32} {x : Int32} (hd : decode bytes pc = .ok (.iastore, 1)) (hq1 : pc + 1 = q1) (A : Ary Z h a .int len f) (hj : j.toInt = (i : Int)) (hi : i < len) (ha : a ∈ ws ∨ h0.size ≤ a) (g : ∀ h', Wr h h' a i (.int x) → Wp wd p l e R s m args below meth c Z own nam bytes maxL ret n0 h0 ws Q I h' k n q1 Ls rest) : Wp wd p l e R s m args below meth c Z own nam bytes maxL ret n0 h0 ws Q I h k n pc Ls (.int x :: .int j :: .ref a :: rest) := by
  subst hq1
  exact  lawS fun E T L vm0 B X N eT => by
    obtain ⟨cl, q, r1, r2, r3⟩ := A
    obtain ⟨b1, b2⟩ := idx_ok hj hi r1
    obtain ⟨T', h', X', e', W', st'⟩ := stI X E.1 (bZ E B) eT q b1 (g := mkF m pc Ls.toArray (.int x :: .int j :: .ref a :: rest)) rfl rfl (hb E.2.1 hd)
    exact ⟨T', _, h', k, n, X', Pmt.snoc N ha, e', Nat.le_of_eq W'.size.symm, st', g h' (b2 ▸ W')⟩

theorem castore {q1 : Nat} {a : Addr} {len i : Nat} {f : Nat → Value} {j : Int32} {x : Int32} (hd : decode bytes pc = .ok (.castore, 1)) (hq1 : pc + 1 = q1) (A : Ary Z h a .char len f) (hj : j.toInt = (i : Int)) (hi : i < len) (ha : a ∈ ws ∨ h0.size ≤ a) (g : ∀ h', Wr h h' a i (.int (nar .char x)) → Wp wd p l e R s m args below meth c Z own nam bytes maxL ret n0 h0 ws Q I h' k n q1 Ls rest) : Wp wd p l e R s m args below meth c Z own nam bytes maxL ret n0 h0 ws Q I h k n pc Ls (.int x :: .int j :: .ref a :: rest) := by
  subst hq1
  exact  lawS fun E T L vm0 B X N eT => by
    obtain ⟨cl, q, r1, r2, r3⟩ := A
    obtain ⟨b1, b2⟩ := idx_ok hj hi r1
    obtain ⟨T', h', X', e', W', st'⟩ := stC X E.1 (bZ E B) eT q b1 (g := mkF m pc Ls.toArray (.int x :: .int j :: .ref a :: rest)) rfl rfl (hb E.2.1 hd)
    exact ⟨T', _, h', k, n, X', Pmt.snoc N ha, e', Nat.le_of_eq W'.size.symm, st', g h' (b2 ▸ W')⟩

theorem bastore {q1 : Nat} {a : Addr} {len i : Nat} {f : Nat → Value} {j : Int32} {x : Int32} (hd : decode bytes pc = .ok (.bastore, 1)) (hq1 : pc + 1 = q1) (A : Ary Z h a .byte len f) (hj : j.toInt = (i : Int)) (hi : i < len) (ha : a ∈ ws ∨ h0.size ≤ a) (g : ∀ h', Wr h h' a i (.int (nar .byte x)) → Wp wd p l e R s m args below meth c Z own nam bytes maxL ret n0 h0 ws Q I h' k n q1 Ls rest) : Wp wd p l e R s m args below meth c Z own nam bytes maxL ret n0 h0 ws Q I h k n pc Ls (.int x :: .int j :: .ref a :: rest) := by
  subst hq1
  exact  lawS fun E T L vm0 B X N eT => by
    obtain ⟨cl, q, r1, r2, r3⟩ := A
    obtain ⟨b1, b2⟩ := idx_ok hj hi r1
    obtain ⟨T', h', X', e', W', st'⟩ := stB X E.1 (bZ E B) eT q b1 (g := mkF m pc Ls.toArray (.int x :: .int j :: .ref a :: rest)) rfl rfl (hb E.2.1 hd)
    exact ⟨T', _, h', k, n, X', Pmt.snoc N ha, e', Nat.le_of_eq W'.size.symm, st', g h' (b2 ▸ W')⟩

theorem lastore {q1 : Nat} {a : Addr} {len i : Nat} {f : Nat → Value} {j : Int32} {x : Int64} (hd : decode bytes pc = .ok (.lastore, 1)) (hq1 : pc + 1 = q1) (A : Ary Z h a .long len f) (hj : j.toInt = (i : Int)) (hi : i < len) (ha : a ∈ ws ∨ h0.size ≤ a) (g : ∀ h', Wr h h' a i (.long x) → Wp wd p l e R s m args below meth c Z own nam bytes maxL ret n0 h0 ws Q I h' k n q1 Ls rest) : Wp wd p l e R s m args below meth c Z own nam bytes maxL ret n0 h0 ws Q I h k n pc Ls (.long x :: .int j :: .ref a :: rest) := by
  subst hq1
  exact  lawS fun E T L vm0 B X N eT => by
    obtain ⟨cl, q, r1, r2, r3⟩ := A
    obtain ⟨b1, b2⟩ := idx_ok hj hi r1
    obtain ⟨T', h', X', e', W', st'⟩ := stJ X E.1 (bZ E B) eT q b1 (g := mkF m pc Ls.toArray (.long x :: .int j :: .ref a :: rest)) rfl rfl (hb E.2.1 hd)
    exact ⟨T', _, h', k, n, X', Pmt.snoc N ha, e', Nat.le_of_eq W'.size.symm, st', g h' (b2 ▸ W')⟩

theorem aastore {q1 : Nat} {a : Addr} {C : String} {len i : Nat} {f : Nat → Value} {j : Int32} {v : Value} (hd : decode bytes pc = .ok (.aastore, 1)) (hq1 : pc + 1 = q1) (A : AryR Z h a C len f) (hj : j.toInt = (i : Int)) (hi : i < len) (ha : a ∈ ws ∨ h0.size ≤ a) (hS : v = .null ∨ ∃ y, v = .ref y ∧ Ins Z h y C true) (g : ∀ h', Wr h h' a i v → Wp wd p l e R s m args below meth c Z own nam bytes maxL ret n0 h0 ws Q I h' k n q1 Ls rest) : Wp wd p l e R s m args below meth c Z own nam bytes maxL ret n0 h0 ws Q I h k n pc Ls (v :: .int j :: .ref a :: rest) := by
  subst hq1
  exact  lawS fun E T L vm0 B X N eT => by
    obtain ⟨cl, q, o, r1, r2, r3⟩ := A
    obtain ⟨b1, b2⟩ := idx_ok hj hi r1
    have S : Sto Z h a v := by
      rcases hS with rfl | ⟨y, rfl, I⟩
      · exact Or.inl rfl
      · exact Sto.of q o I
    obtain ⟨T', h', X', e', W', st'⟩ := stR X E.1 (bZ E B) eT q b1 rfl S (g := mkF m pc Ls.toArray (v :: .int j :: .ref a :: rest)) rfl rfl (hb E.2.1 hd)
    exact ⟨T', _, h', k, n, X', Pmt.snoc N ha, e', Nat.le_of_eq W'.size.symm, st', g h' (b2 ▸ W')⟩

theorem initObj {q1 : Nat} {i : Nat} {a : Addr} (hd : decode bytes pc = .ok (.invokespecial i, 3)) (hq1 : pc + 3 = q1) (w1 : (Cond.methodLink own i Lib.objectInit).before a0 Z = true) (w2 : (Cond.instanceMethod Lib.objectInit).before a0 Z = true) (w3 : (Cond.code Lib.objectInit ⟨#[0xb1]⟩ 1 none).before a0 Z = true) (hL : Ls.length = maxL) (hr : (Nat.ble 1 R.frames && Nat.ble ((rest.map fun v => v.category).sum + 12) R.locals) = true) (g : Wp wd p l e R s m args below meth c Z own nam bytes maxL ret n0 h0 ws Q I h k n q1 Ls rest) : Wp wd p l e R s m args below meth c Z own nam bytes maxL ret n0 h0 ws Q I h k n pc Ls (.ref a :: rest) := by
  subst hq1
  exact  lawS fun E T L vm0 B X N eT => by
    have hr' := Bool.and_eq_true_iff.mp hr
    obtain ⟨T', X', e', st'⟩ := initO X E.1 (bZ E B) (bO E B) w1 w2 w3 eT (g := mkF m pc Ls.toArray (.ref a :: rest)) rfl (by rw [E.2.2.1, ← hL]; simp) rfl (hb E.2.1 hd) (Nat.le_of_ble_eq_true hr'.1) (W := (rest.map fun v => v.category).sum) (by show 2 * 0 + _ ≤ _; omega) (Nat.le_of_ble_eq_true hr'.2)
    exact ⟨T', L, h, k, n, X', N, e', Nat.le_refl _, st', g⟩

/-- the room that a call asks -/
def roomOk (R rm : Room) (maxL' : Nat) (rest : List Value) (k n : Nat) : Bool := Nat.ble (rm.frames + 1) R.frames && Nat.ble ((rest.map fun v => v.category).sum + (maxL' + 11) + rm.locals) R.locals && Nat.ble (k + rm.cells) R.cells && Nat.ble (n + rm.slots) R.slots
theorem roomOk_spec {R rm : Room} {maxL' k n : Nat} {rest : List Value} (h : roomOk R rm maxL' rest k n = true) : rm.frames + 1 ≤ R.frames ∧ (rest.map fun v => v.category).sum + (maxL' + 11) + rm.locals ≤ R.locals ∧ k + rm.cells ≤ R.cells ∧ n + rm.slots ≤ R.slots := by
  simp only [roomOk, Bool.and_eq_true] at h
  exact ⟨Nat.le_of_ble_eq_true h.1.1.1, Nat.le_of_ble_eq_true h.1.1.2, Nat.le_of_ble_eq_true h.1.2, Nat.le_of_ble_eq_true h.2⟩
theorem rev_eq (as r : List Value) : List.reverseAux as r = as.reverse ++ r := by simp [List.reverseAux_eq]
section Calls
variable {y : MethodName} {bytes' : ByteArray} {maxL' : Nat} {ret' : Option FieldType} {rm : Room} {as : List Value} {ws' : List Addr} {Q' : Option Value → Heap → Prop} {ps : List FieldType} {r' : Option FieldType} {i : Nat} {a : Addr}
theorem invokestatic {q1 : Nat} (hd : decode bytes pc = .ok (.invokestatic i, 3)) (hq1 : pc + 3 = q1) (w1 : (Cond.methodLink own i y).before a0 Z = true) (w2 : (Cond.static y).before a0 Z = true) (w3 : (Cond.initialized y.cls).before a0 Z = true) (w4 : (Cond.code y bytes' maxL' ret').before a0 Z = true) (hy : y.cls ≠ "java/lang/invoke/MethodHandle" ∧ y.cls ≠ "java/lang/invoke/VarHandle") (pd : parseMethodDescriptor y.desc = some ⟨ps, r'⟩)
    (C : Con l Z n0 y bytes' maxL' ret' rm as h ws' Q') (hst : st = List.reverseAux as rest) (hlen : as.length = ps.length) (hL : Ls.length = maxL) (hr : roomOk R rm maxL' rest k n = true) (hws : ∀ x ∈ ws', x ∈ ws ∨ h0.size ≤ x) (g : ∀ v h', Q' v h' → Keep h h' ws' → Wp wd p l e R s m args below meth c Z own nam bytes maxL ret n0 h0 ws Q I h' (k + rm.cells) (n + rm.slots) q1 Ls (psh v rest)) : Wp wd p l e R s m args below meth c Z own nam bytes maxL ret n0 h0 ws Q I h k n pc Ls st := by
  subst hq1
  exact  fun E T L vm0 B X N eT => by
    obtain ⟨r1, r2, r3, r4⟩ := roomOk_spec hr
    subst hst
    obtain ⟨v, vm, ⟨T1, L1, k1, n1⟩, -, X1, ⟨Lc, hQ, l1, y1, z1⟩, st1⟩ := Jvm.LawKit.callS X E.1 (bO E B) (mvT (bZ E B) w1) (mvT (bZ E B) w2) (mvT (bZ E B) w3) (mvT (bZ E B) w4) hy (backOf (Q := fun v h1 L => Q' v h1 ∧ Pmt h ws' L ∧ Keep h h1 ws') (C (oldOf E X N eT) (fun x hx => n0Of E (hws x hx)) []) (bZ E B) w4 w3 r1 r2) (g := mkF m pc Ls.toArray (List.reverseAux as rest)) rfl (by rw [E.2.2.1, ← hL]; simp) (argsL := as) (rest := rest) (lenOf pd hlen) (rev_eq as rest) (by show 2 * 0 + _ ≤ _; omega) (hb E.2.1 hd) (fun _ _ => ⟨rfl, eT, r3, r4⟩)
    dsimp only [Pt.U, Pt.locs, Pt.cells, Pt.slots] at X1 l1 y1 z1 st1 hQ
    subst l1 y1 z1
    obtain ⟨s2, o, hs, r⟩ := g v _ hQ.1 hQ.2.2 E T1 _ vm0 (bG B hQ.2.2.1) X1 (N.app (pmtOf E X eT hws hQ.2.1)) rfl
    exact ⟨s2, o, st1 _ (by rw [psh_eq]; exact hs), r⟩
theorem invokespecial {q1 : Nat} (hd : decode bytes pc = .ok (.invokespecial i, 3)) (hq1 : pc + 3 = q1) (hy1 : y.name = "<init>") (w1 : (Cond.methodLink own i y).before a0 Z = true) (w2 : (Cond.instanceMethod y).before a0 Z = true) (w3 : (Cond.initialized y.cls).before a0 Z = true) (w4 : (Cond.code y bytes' maxL' none).before a0 Z = true) (hy : y.cls ≠ "java/lang/invoke/MethodHandle" ∧ y.cls ≠ "java/lang/invoke/VarHandle") (pd : parseMethodDescriptor y.desc = some ⟨ps, r'⟩)
    (C : Con l Z n0 y bytes' maxL' none rm (.ref a :: as) h ws' Q') (hst : st = List.reverseAux as (.ref a :: rest)) (hlen : as.length = ps.length) (hL : Ls.length = maxL) (hr : roomOk R rm maxL' rest k n = true) (hws : ∀ x ∈ ws', x ∈ ws ∨ h0.size ≤ x) (g : ∀ v h', Q' v h' → Keep h h' ws' → Wp wd p l e R s m args below meth c Z own nam bytes maxL ret n0 h0 ws Q I h' (k + rm.cells) (n + rm.slots) q1 Ls (psh v rest)) : Wp wd p l e R s m args below meth c Z own nam bytes maxL ret n0 h0 ws Q I h k n pc Ls st := by
  subst hq1
  exact  fun E T L vm0 B X N eT => by
    obtain ⟨r1, r2, r3, r4⟩ := roomOk_spec hr
    subst hst
    obtain ⟨v, vm, ⟨T1, L1, k1, n1⟩, -, X1, ⟨Lc, hQ, l1, y1, z1⟩, st1⟩ := X.specialBack E.1 hy1 (bO E B) (mvT (bZ E B) w1) (mvT (bZ E B) w2) (mvT (bZ E B) w4) hy (backOf (Q := fun v h1 L => Q' v h1 ∧ Pmt h ws' L ∧ Keep h h1 ws') (C (oldOf E X N eT) (fun x hx => n0Of E (hws x hx)) []) (bZ E B) w4 w3 r1 r2) (g := mkF m pc Ls.toArray (List.reverseAux as (.ref a :: rest))) rfl (by rw [E.2.2.1, ← hL]; simp) (Steps.refl _) (a := a) (argsL := as) (rest := rest) (lenOf pd hlen) (rev_eq as _) (by show 2 * 0 + _ ≤ _; omega) (hb E.2.1 hd) (fun _ _ => ⟨rfl, eT, r3, r4⟩)
    dsimp only [Pt.U, Pt.locs, Pt.cells, Pt.slots] at X1 l1 y1 z1 st1 hQ
    subst l1 y1 z1
    obtain ⟨s2, o, hs, r⟩ := g v _ hQ.1 hQ.2.2 E T1 _ vm0 (bG B hQ.2.2.1) X1 (N.app (pmtOf E X eT hws hQ.2.1)) rfl
    exact ⟨s2, o, st1.trans (by rw [psh_eq]; exact hs), r⟩
theorem invokevirtual {q1 : Nat} {z : MethodName} {D : String} (hd : decode bytes pc = .ok (.invokevirtual i, 3)) (hq1 : pc + 3 = q1) (w1 : (Cond.methodLink own i y).before a0 Z = true) (w2 : (Cond.declares y).before a0 Z = true) (nf : ∀ vm0, Z.Warmed39 vm0 → NotFace (s.setVm vm0) y) (w3 : (Cond.selects D y z).before a0 Z = true) (w4 : (Cond.instanceMethod z).before a0 Z = true) (w5 : (Cond.initialized z.cls).before a0 Z = true) (w6 : (Cond.code z bytes' maxL' ret').before a0 Z = true) (hy : y.cls ≠ "java/lang/invoke/MethodHandle" ∧ y.cls ≠ "java/lang/invoke/VarHandle") (pd : parseMethodDescriptor y.desc = some ⟨ps, r'⟩)
    (X0 : Exa Z h a D) (C : Con l Z n0 z bytes' maxL' ret' rm (.ref a :: as) h ws' Q') (hst : st = List.reverseAux as (.ref a :: rest)) (hlen : as.length = ps.length) (hL : Ls.length = maxL) (hr : roomOk R rm maxL' rest k n = true) (hws : ∀ x ∈ ws', x ∈ ws ∨ h0.size ≤ x) (g : ∀ v h', Q' v h' → Keep h h' ws' → Wp wd p l e R s m args below meth c Z own nam bytes maxL ret n0 h0 ws Q I h' (k + rm.cells) (n + rm.slots) q1 Ls (psh v rest)) : Wp wd p l e R s m args below meth c Z own nam bytes maxL ret n0 h0 ws Q I h k n pc Ls st := by
  subst hq1
  exact  fun E T L vm0 B X N eT => by
    obtain ⟨r1, r2, r3, r4⟩ := roomOk_spec hr
    subst hst
    obtain ⟨cq, kq, qa, qb, qc⟩ := isOf (bZ E B) eT X0
    obtain ⟨v, vm, ⟨T1, L1, k1, n1⟩, -, X1, ⟨Lc, hQ, l1, y1, z1⟩, st1⟩ := X.virtualBack E.1 (bO E B) (mvT (bZ E B) w1) (mvT (bZ E B) w2) (nf vm0 (bZ E B)) (mvT (bZ E B) w3) (mvT (bZ E B) w4) hy (backOf (Q := fun v h1 L => Q' v h1 ∧ Pmt h ws' L ∧ Keep h h1 ws') (C (oldOf E X N eT) (fun x hx => n0Of E (hws x hx)) []) (bZ E B) w6 w5 r1 r2) qa qc (g := mkF m pc Ls.toArray (List.reverseAux as (.ref a :: rest))) rfl (by rw [E.2.2.1, ← hL]; simp) (Steps.refl _) (argsL := as) (rest := rest) (lenOf pd hlen) (rev_eq as _) (by show 2 * 0 + _ ≤ _; omega) (hb E.2.1 hd) (fun _ _ => ⟨rfl, eT, r3, r4⟩)
    dsimp only [Pt.U, Pt.locs, Pt.cells, Pt.slots] at X1 l1 y1 z1 st1 hQ
    subst l1 y1 z1
    obtain ⟨s2, o, hs, r⟩ := g v _ hQ.1 hQ.2.2 E T1 _ vm0 (bG B hQ.2.2.1) X1 (N.app (pmtOf E X eT hws hQ.2.1)) rfl
    exact ⟨s2, o, st1.trans (by rw [psh_eq]; exact hs), r⟩
/-- the method that the entry names is the one that is run -/
theorem invokevirt {q1 : Nat} (hd : decode bytes pc = .ok (.invokevirtual i, 3)) (hq1 : pc + 3 = q1) (w1 : (Cond.methodLink own i y).before a0 Z = true) (w2 : (Cond.declares y).before a0 Z = true) {D : String} (w3 : (Cond.selects D y y).before a0 Z = true) (w4 : (Cond.instanceMethod y).before a0 Z = true) (w5 : (Cond.initialized y.cls).before a0 Z = true) (w6 : (Cond.code y bytes' maxL' ret').before a0 Z = true) (hy : y.cls ≠ "java/lang/invoke/MethodHandle" ∧ y.cls ≠ "java/lang/invoke/VarHandle") (pd : parseMethodDescriptor y.desc = some ⟨ps, r'⟩)
    (X0 : Exa Z h a D) (C : Con l Z n0 y bytes' maxL' ret' rm (.ref a :: as) h ws' Q') (hst : st = List.reverseAux as (.ref a :: rest)) (hlen : as.length = ps.length) (hL : Ls.length = maxL) (hr : roomOk R rm maxL' rest k n = true) (hws : ∀ x ∈ ws', x ∈ ws ∨ h0.size ≤ x) (g : ∀ v h', Q' v h' → Keep h h' ws' → Wp wd p l e R s m args below meth c Z own nam bytes maxL ret n0 h0 ws Q I h' (k + rm.cells) (n + rm.slots) q1 Ls (psh v rest)) : Wp wd p l e R s m args below meth c Z own nam bytes maxL ret n0 h0 ws Q I h k n pc Ls st := by
  subst hq1
  exact  invokevirtual hd rfl w1 w2 (fun vm0 hz => notFace_of_selects (args := #[]) (mvT (s := s.setVm vm0) hz w3)) w3 w4 w5 w6 hy pd X0 C hst hlen hL hr hws g
/-- the entry names a method that a class above declares -/
theorem invokeup {q1 : Nat} {z : MethodName} {D owner : String} (hd : decode bytes pc = .ok (.invokevirtual i, 3)) (hq1 : pc + 3 = q1) (w1 : (Cond.methodLink own i y).before a0 Z = true) (w2 : (Cond.sameMethod y.cls owner y.name y.desc).before a0 Z = true) (w3 : (Cond.declares ⟨owner, y.name, y.desc⟩).before a0 Z = true) (ho : owner ≠ "java/lang/invoke/MethodHandle" ∧ owner ≠ "java/lang/invoke/VarHandle") (w4 : (Cond.selects D y z).before a0 Z = true) (w5 : (Cond.instanceMethod z).before a0 Z = true) (w6 : (Cond.initialized z.cls).before a0 Z = true) (w7 : (Cond.code z bytes' maxL' ret').before a0 Z = true) (pd : parseMethodDescriptor y.desc = some ⟨ps, r'⟩)
    (X0 : Exa Z h a D) (C : Con l Z n0 z bytes' maxL' ret' rm (.ref a :: as) h ws' Q') (hst : st = List.reverseAux as (.ref a :: rest)) (hlen : as.length = ps.length) (hL : Ls.length = maxL) (hr : roomOk R rm maxL' rest k n = true) (hws : ∀ x ∈ ws', x ∈ ws ∨ h0.size ≤ x) (g : ∀ v h', Q' v h' → Keep h h' ws' → Wp wd p l e R s m args below meth c Z own nam bytes maxL ret n0 h0 ws Q I h' (k + rm.cells) (n + rm.slots) q1 Ls (psh v rest)) : Wp wd p l e R s m args below meth c Z own nam bytes maxL ret n0 h0 ws Q I h k n pc Ls st := by
  subst hq1
  exact  fun E T L vm0 B X N eT => by
    obtain ⟨r1, r2, r3, r4⟩ := roomOk_spec hr
    subst hst
    obtain ⟨cq, kq, qa, qb, qc⟩ := isOf (bZ E B) eT X0
    obtain ⟨v, vm, ⟨T1, L1, k1, n1⟩, -, X1, ⟨Lc, hQ, l1, y1, z1⟩, st1⟩ := X.virtualBackUp E.1 (bO E B) (mvT (bZ E B) w1) (mvT (bZ E B) w2) (mvT (bZ E B) w3) ho (mvT (bZ E B) w4) (mvT (bZ E B) w5) (backOf (Q := fun v h1 L => Q' v h1 ∧ Pmt h ws' L ∧ Keep h h1 ws') (C (oldOf E X N eT) (fun x hx => n0Of E (hws x hx)) []) (bZ E B) w7 w6 r1 r2) qa qc (g := mkF m pc Ls.toArray (List.reverseAux as (.ref a :: rest))) rfl (by rw [E.2.2.1, ← hL]; simp) (Steps.refl _) (argsL := as) (rest := rest) (lenOf pd hlen) (rev_eq as _) (by show 2 * 0 + _ ≤ _; omega) (hb E.2.1 hd) (fun _ _ => ⟨rfl, eT, r3, r4⟩)
    dsimp only [Pt.U, Pt.locs, Pt.cells, Pt.slots] at X1 l1 y1 z1 st1 hQ
    subst l1 y1 z1
    obtain ⟨s2, o, hs, r⟩ := g v _ hQ.1 hQ.2.2 E T1 _ vm0 (bG B hQ.2.2.1) X1 (N.app (pmtOf E X eT hws hQ.2.1)) rfl
    exact ⟨s2, o, st1.trans (by rw [psh_eq]; exact hs), r⟩
theorem invokeface {q1 : Nat} {z : MethodName} {D : String} {cnt : Nat} (hd : decode bytes pc = .ok (.invokeinterface i cnt, 5)) (hq1 : pc + 5 = q1) (w1 : (Cond.methodLink own i y).before a0 Z = true) (w2 : (Cond.declares y).before a0 Z = true) (w3 : (Cond.interfaceMethod y.cls y.cls y.name y.desc).before a0 Z = true) (w4 : (Cond.selects D y z).before a0 Z = true) (w5 : (Cond.instanceMethod z).before a0 Z = true) (w5b : (Cond.publicMethod z).before a0 Z = true) (w5c : (Cond.unhidden D y.name y.desc).before a0 Z = true) (w5d : (Cond.castable D y.cls).before a0 Z = true) (w6 : (Cond.initialized z.cls).before a0 Z = true) (w7 : (Cond.code z bytes' maxL' ret').before a0 Z = true) (hy : y.cls ≠ "java/lang/invoke/MethodHandle" ∧ y.cls ≠ "java/lang/invoke/VarHandle") (hfc : ((Cond.interfaceMethod y.cls y.cls y.name y.desc).onTables && (Cond.interfaceMethod y.cls y.cls y.name y.desc).keepsFace) = true) (pd : parseMethodDescriptor y.desc = some ⟨ps, r'⟩)
    (X0 : Exa Z h a D) (C : Con l Z n0 z bytes' maxL' ret' rm (.ref a :: as) h ws' Q') (hst : st = List.reverseAux as (.ref a :: rest)) (hlen : as.length = ps.length) (hL : Ls.length = maxL) (hr : roomOk R rm maxL' rest k n = true) (hws : ∀ x ∈ ws', x ∈ ws ∨ h0.size ≤ x) (g : ∀ v h', Q' v h' → Keep h h' ws' → Wp wd p l e R s m args below meth c Z own nam bytes maxL ret n0 h0 ws Q I h' (k + rm.cells) (n + rm.slots) q1 Ls (psh v rest)) : Wp wd p l e R s m args below meth c Z own nam bytes maxL ret n0 h0 ws Q I h k n pc Ls st := by
  subst hq1
  exact  fun E T L vm0 B X N eT => by
    obtain ⟨r1, r2, r3, r4⟩ := roomOk_spec hr
    subst hst
    obtain ⟨cq, kq, qa, qb, qc⟩ := isOf (bZ E B) eT X0
    obtain ⟨v, vm, ⟨T1, L1, k1, n1⟩, -, X1, ⟨Lc, hQ, l1, y1, z1⟩, st1⟩ := X.interfaceBack E.1 (bO E B) (mvT (bZ E B) w1) (mvT (bZ E B) w2) (mvT (bZ E B) w3 hfc) (mvT (bZ E B) w4) (mvT (bZ E B) w5) (mvT (bZ E B) w5b) (mvT (bZ E B) w5c) (mvT (bZ E B) w5d) hy (backOf (Q := fun v h1 L => Q' v h1 ∧ Pmt h ws' L ∧ Keep h h1 ws') (C (oldOf E X N eT) (fun x hx => n0Of E (hws x hx)) []) (bZ E B) w7 w6 r1 r2) qa qb qc (g := mkF m pc Ls.toArray (List.reverseAux as (.ref a :: rest))) rfl (by rw [E.2.2.1, ← hL]; simp) (Steps.refl _) (argsL := as) (rest := rest) (lenOf pd hlen) (rev_eq as _) (by show 2 * 0 + _ ≤ _; omega) (hb E.2.1 hd) (fun _ _ => ⟨rfl, eT, r3, r4⟩)
    dsimp only [Pt.U, Pt.locs, Pt.cells, Pt.slots] at X1 l1 y1 z1 st1 hQ
    subst l1 y1 z1
    obtain ⟨s2, o, hs, r⟩ := g v _ hQ.1 hQ.2.2 E T1 _ vm0 (bG B hQ.2.2.1) X1 (N.app (pmtOf E X eT hws hQ.2.1)) rfl
    exact ⟨s2, o, st1.trans (by rw [psh_eq]; exact hs), r⟩
/-- a private method of the class at hand -/
theorem invokepriv {q1 : Nat} {D : String} {kk : Nat} (hd : decode bytes pc = .ok (.invokevirtual i, 3)) (hq1 : pc + 3 = q1) (w1 : (Cond.methodLink own i y).before a0 Z = true) (w2 : (Cond.instanceMethod y).before a0 Z = true) (w3 : (Cond.instantiable y.cls kk).before a0 Z = true) (w4 : (Cond.privateMethod y).before a0 Z = true) (w5 : (Cond.initialized y.cls).before a0 Z = true) (w6 : (Cond.code y bytes' maxL' ret').before a0 Z = true) (hy : y.cls ≠ "java/lang/invoke/MethodHandle" ∧ y.cls ≠ "java/lang/invoke/VarHandle") (pd : parseMethodDescriptor y.desc = some ⟨ps, r'⟩)
    (X0 : Exa Z h a D) (C : Con l Z n0 y bytes' maxL' ret' rm (.ref a :: as) h ws' Q') (hst : st = List.reverseAux as (.ref a :: rest)) (hlen : as.length = ps.length) (hL : Ls.length = maxL) (hr : roomOk R rm maxL' rest k n = true) (hws : ∀ x ∈ ws', x ∈ ws ∨ h0.size ≤ x) (g : ∀ v h', Q' v h' → Keep h h' ws' → Wp wd p l e R s m args below meth c Z own nam bytes maxL ret n0 h0 ws Q I h' (k + rm.cells) (n + rm.slots) q1 Ls (psh v rest)) : Wp wd p l e R s m args below meth c Z own nam bytes maxL ret n0 h0 ws Q I h k n pc Ls st := by
  subst hq1
  exact  fun E T L vm0 B X N eT => by
    obtain ⟨r1, r2, r3, r4⟩ := roomOk_spec hr
    subst hst
    obtain ⟨cq, q1, q2⟩ := X0.cell
    obtain ⟨ci, ki, i1, i2, -, i3, -⟩ := Cond.instantiable_spec (mvT (s := s.setVm vm0) (args := args) (bZ E B) w3)
    have hpv : (s.setVm vm0).PrivateAt y := Cond.privateMethod_at (mvP (bZ E B) w4 (args := #[]))
    have hsel : (Cond.selects y.cls y y).before args (s.setVm vm0) = true := selects_self_of_private i1 i2 (by simp only [Bool.or_eq_false_iff] at i3; exact i3.1) hpv (mvT (bZ E B) w2) hy
    obtain ⟨v, vm, ⟨T1, L1, k1, n1⟩, -, X1, ⟨Lc, hQ, l1, y1, z1⟩, st1⟩ := X.privateBack E.1 (bO E B) (mvT (bZ E B) w1) (mvT (bZ E B) w2) hsel hpv (mvT (bZ E B) w6) hy (backOf (Q := fun v h1 L => Q' v h1 ∧ Pmt h ws' L ∧ Keep h h1 ws') (C (oldOf E X N eT) (fun x hx => n0Of E (hws x hx)) []) (bZ E B) w6 w5 r1 r2) (g := mkF m pc Ls.toArray (List.reverseAux as (.ref a :: rest))) rfl (by rw [E.2.2.1, ← hL]; simp) (Steps.refl _) (a := a) (by rw [eT]; exact q1) q2 (argsL := as) (rest := rest) (lenOf pd hlen) (rev_eq as _) (by show 2 * 0 + _ ≤ _; omega) (hb E.2.1 hd) (fun _ _ => ⟨rfl, eT, r3, r4⟩)
    dsimp only [Pt.U, Pt.locs, Pt.cells, Pt.slots] at X1 l1 y1 z1 st1 hQ
    subst l1 y1 z1
    obtain ⟨s2, o, hs, r⟩ := g v _ hQ.1 hQ.2.2 E T1 _ vm0 (bG B hQ.2.2.1) X1 (N.app (pmtOf E X eT hws hQ.2.1)) rfl
    exact ⟨s2, o, st1.trans (by rw [psh_eq]; exact hs), r⟩
end Calls
/-! ### wide: constants are interned -/
section Wide
theorem sameNil {s T : State} {L : List Loc} {k n : Nat} (q : s.sameButNew T L k n) (e : T.heap = s.heap) : s.sameButNew T [] k n :=
  ⟨q.1, q.2.1, q.2.2.1, q.2.2.2.1, q.2.2.2.2.1, fun a c ha => ⟨c, by rw [e]; exact ha, rfl, rfl, fun _ _ => rfl⟩⟩
/-- ldc of a String constant whose text this run has not interned yet, ahead of the body's first write -/
theorem ldcLit {q1 : Nat} {i nn : Nat} {text : String} {Ts : List String} {vs : List Value} {z : Int32} (hd : decode bytes pc = .ok (.ldc i, 2)) (hq1 : pc + 2 = q1) (w : (Cond.stringLink own i text).before a0 Z = true) (wS : ∀ a ∈ Bundle.stringAtoms, a.before a0 Z = true) (hI : ∀ vm, I vm → IB Z vm Ts) (hnot : text ∉ Ts) (hh : Jvm.Lit.constHeld Z own i) (hcw : Jvm.Lit.compactW.before a0 Z = true)
    (ht : (∀ c ∈ text.toList, c.toNat < 256) ∧ text.toList.map (fun c => Value.int (Jvm.Lit.byteI c.toNat.toUInt16)) = vs) (hz : ¬ z < 0) (hl : z.toNatClampNeg = vs.length) (hn : 4 * text.toList.length ≤ nn) (hbig : nn ≤ 536870912) (hc : k + 2 ≤ R.cells) (hl' : n + (nn + 4) ≤ R.slots)
    (g : ∀ (a : Addr) (h' : Heap) (b : Addr) (kk : ClassId), Ext h0 h' → Exa Z h' a "java/lang/String" → Fld Z h' a "java/lang/String" "coder" "B" (.int 0) → Fld Z h' a "java/lang/String" "value" "[B" (.ref b) → Arv Z h' b kk .byte z vs (.int 0) → a < h'.size → b < h'.size → Wp true p l e R s m args below meth c Z own nam bytes maxL ret n0 h0 ws Q (fun vm => IB Z vm (text :: Ts) ∧ Lit (Z.setVm vm) own i a) h' (k + 2) (n + (nn + 4)) q1 Ls (.ref a :: st)) : Wp true p l e R s m args below meth c Z own nam bytes maxL ret n0 h0 ws Q I h0 k n pc Ls st := by
  subst hq1
  exact  fun E T L vm0 B X N eT => by
    have eh : s.heap = h0 := E.2.2.2.2.2.2.2.2.1
    have X' : Stand p l e R (s.setVm vm0) m args below meth c T [] k n := ⟨X.admits, X.cas, X.clock, X.frames, X.room, X.hears, X.method, X.code, X.here, X.tail, X.warmed, X.limits, X.bytes, sameNil X.same (by show T.heap = s.heap; rw [eT, eh])⟩
    obtain ⟨a, T', h', k1, b, kk, r1, r2, r3, r4, r5, r6, r7, r8, r9, r10, r11, r12, r13, r14, r15, r16⟩ := ldcSVL (s := s) X' E.1 B.2.1 (bO (wd := true) E B) w wS eT B.1 (Nat.le_refl _) (fun _ q => nomatch q) (fun b cl hb => by rw [eh]; exact E.2.2.2.2.2.2.2.2.2.1.2.2 b cl hb) (hI _ B.2.2) hnot hh hcw ht hz hl (g := mkF m pc Ls.toArray st) rfl (hb E.2.1 hd) hn hbig hc hl'
    obtain ⟨s2, o, hs, r⟩ := g a h' b kk r3 r8 r9 r10 r11 r12 r13 E T' [] T'.vm ⟨⟨r4.1, r4.2.mono r5⟩, r6, r14, r15⟩ r1 (Pmt.nil _ _) r2
    exact ⟨s2, o, r16 _ hs, r⟩
theorem ldcAgain {q1 : Nat} {i : Nat} {text : String} {a : Addr} (hd : decode bytes pc = .ok (.ldc i, 2)) (hq1 : pc + 2 = q1) (w : (Cond.stringLink own i text).before a0 Z = true) (hI : ∀ vm, I vm → Lit (Z.setVm vm) own i a) (g : Wp true p l e R s m args below meth c Z own nam bytes maxL ret n0 h0 ws Q I h k n q1 Ls (.ref a :: st)) : Wp true p l e R s m args below meth c Z own nam bytes maxL ret n0 h0 ws Q I h k n pc Ls st := by
  subst hq1
  exact  step g fun E T L t vm0 B X _ hr => Jvm.RoadKit.ldcAgain (s := s) X E.1 B.2.1 (bO (wd := true) E B) w (a := a) (hI _ B.2.2) (g := mkF m pc Ls.toArray st) rfl (hb E.2.1 hd) _ hr
/-- ldc of a String constant, of whose text nothing is said -/
theorem ldcAny {q1 : Nat} {i nn : Nat} {text : String} (hd : decode bytes pc = .ok (.ldc i, 2)) (hq1 : pc + 2 = q1) (w : (Cond.stringLink own i text).before a0 Z = true) (wS : ∀ a ∈ Bundle.stringAtoms, a.before a0 Z = true) (hn : 4 * text.toList.length ≤ nn) (hbig : nn ≤ 536870912) (hc : k + 2 ≤ R.cells) (hl' : n + (nn + 4) ≤ R.slots)
    (g : ∀ (a : Addr) (h' : Heap), Ext h h' → Wp true p l e R s m args below meth c Z own nam bytes maxL ret n0 h0 ws Q (fun _ => True) h' (k + 2) (n + (nn + 4)) q1 Ls (.ref a :: st)) : Wp true p l e R s m args below meth c Z own nam bytes maxL ret n0 h0 ws Q I h k n pc Ls st := by
  subst hq1
  exact  fun E T L vm0 B X N eT => by
    obtain ⟨a, T', h', k1, r1, r2, r3, r4, r5, r6, r7, r8⟩ := ldcS (s := s) X E.1 B.2.1 (bO (wd := true) E B) w wS eT B.1 (Nat.le_refl _) (g := mkF m pc Ls.toArray st) rfl (hb E.2.1 hd) hn hbig hc hl'
    obtain ⟨s2, o, hs, r⟩ := g a h' r3 E T' L T'.vm ⟨⟨r4.1, r4.2.mono r5⟩, r6, trivial⟩ r1 N r2
    exact ⟨s2, o, r8 _ hs, r⟩
variable {y : MethodName} {bytes' : ByteArray} {maxL' : Nat} {ret' : Option FieldType} {rm : Room} {as : List Value} {ws' : List Addr} {I' : Vm → Prop} {Q' : Option Value → Heap → Prop} {ps : List FieldType} {r' : Option FieldType} {i : Nat} {a : Addr}
theorem backJ {as' : Array Value} {len W' : Nat} {QL : Option Value → Heap → List Loc → Prop}
    (hM : MetFree l y (head1 [Cond.code y bytes' maxL' ret'] rm) (fun a U => a = as' ∧ Z.Warmed39 U.vm ∧ U.heap = h ∧ I' U.vm) (fun _ _ _ _ _ => True) (fun _ U o U' => ∃ v L, o = .returned v ∧ QL v U'.heap L ∧ ReturnedEndW U o U' L rm.cells rm.slots))
    (hZ : Z.Warmed39 s.vm) (wc : (Cond.code y bytes' maxL' ret').before a0 Z = true) (wz : (Cond.initialized y.cls).before a0 Z = true) (hf : rm.frames + 1 ≤ R.frames) (hl : W' + (maxL' + 11) + rm.locals ≤ R.locals) :
    BackS l R p e below s args y len W' (fun A a => a = as' ∧ A.U.heap = h ∧ I' A.U.vm ∧ A.cells + rm.cells ≤ R.cells ∧ A.slots + rm.slots ≤ R.slots)
      (fun A _ v B => ∃ L, QL v B.U.heap L ∧ B.locs = A.locs ++ L ∧ B.cells = A.cells + rm.cells ∧ B.slots = A.slots + rm.slots) :=
  BackS.of_freeW (bytes := bytes') (maxL := maxL') (ret := ret') (E := fun _ _ o t L k n => k = rm.cells ∧ n = rm.slots ∧ ∃ v, o = .returned v ∧ QL v t.heap L) hM hf hl
    (fun m meth c A a Y hp => have hU : Z.Warmed39 A.U.vm := wtrans hZ Y.warmed
      ⟨by show (Cond.and _ .tt).before a A.U = true; rw [Cond.before_and, mv hU wc]; rfl, mv hU wc, mv hU wz, hp.2.2.2.1, hp.2.2.2.2⟩)
    (fun m meth c A a g mk Y hp => ⟨hp.1, wtrans hZ Y.warmed, hp.2.1, hp.2.2.1⟩) (fun _ _ _ _ _ _ _ _ _ => trivial)
    (fun _ _ _ _ ⟨v, L, h1, h2, h3⟩ => ⟨L, _, _, h3, rfl, rfl, v, h1, h2⟩)
    (fun m meth c A a g mk v t L k n Y hp _ _ ⟨e1, e2, v', e3, e4⟩ => by cases e3; subst e1 e2; exact ⟨L, e4, rfl, rfl, rfl⟩)
/-- what is known of the tables stands under tables that are warmer in the narrow sense -/
def Stab (I I' : Vm → Prop) : Prop := ∀ (s : State) (vm vm' : Vm), (s.setVm vm).WarmedH vm' → I vm → I' vm'
theorem stabIB {Z : State} {Ts : List String} : Stab (fun vm => IB Z vm Ts) (fun vm => IB Z vm Ts) := fun s vm vm' hW ⟨more, e, q⟩ => ⟨more, by rw [hW.interned_eq]; exact e, q⟩
theorem stabT {I : Vm → Prop} : Stab I (fun _ => True) := fun _ _ _ _ _ => trivial
theorem rebase {Z s : State} {vm0 vm1 : Vm} {h : Heap} {U : State} (B : Base true I Z s vm0 h) (hS : (s.setVm vm0).Since U.vm U.heap.size) (hg : h.size ≤ U.heap.size) (hv : U.vm = vm1) : Base true (fun _ => True) Z s vm1 U.heap := by
  subst hv
  exact ⟨B.1.trans hS hg, State.Warmed39.trans (t := s.setVm vm0) B.2.1 hS.1, trivial⟩
theorem invokestaticW {q1 : Nat} (hd : decode bytes pc = .ok (.invokestatic i, 3)) (hq1 : pc + 3 = q1) (w1 : (Cond.methodLink own i y).before a0 Z = true) (w2 : (Cond.static y).before a0 Z = true) (w3 : (Cond.initialized y.cls).before a0 Z = true) (w4 : (Cond.code y bytes' maxL' ret').before a0 Z = true) (hy : y.cls ≠ "java/lang/invoke/MethodHandle" ∧ y.cls ≠ "java/lang/invoke/VarHandle") (pd : parseMethodDescriptor y.desc = some ⟨ps, r'⟩)
    (C : ConW l Z n0 y bytes' maxL' ret' rm as h ws' I' Q') (hst : st = List.reverseAux as rest) (hlen : as.length = ps.length) (hL : Ls.length = maxL) (hr : roomOk R rm maxL' rest k n = true) (hws : ∀ x ∈ ws', x ∈ ws ∨ h0.size ≤ x) (hSt : Stab I I') (g : ∀ v h', Q' v h' → Keep h h' ws' → Wp true p l e R s m args below meth c Z own nam bytes maxL ret n0 h0 ws Q (fun _ => True) h' (k + rm.cells) (n + rm.slots) q1 Ls (psh v rest)) : Wp true p l e R s m args below meth c Z own nam bytes maxL ret n0 h0 ws Q I h k n pc Ls st := by
  subst hq1
  exact  fun E T L vm0 B X N eT => by
    obtain ⟨r1, r2, r3, r4⟩ := roomOk_spec hr
    subst hst
    obtain ⟨v, vm, ⟨T1, L1, k1, n1⟩, -, X1, hS, hgr, ⟨Lc, hQ, l1, y1, z1⟩, st1⟩ := callSS X E.1 (bO E B) (mvT (bZ E B) w1) (mvT (bZ E B) w2) (mvT (bZ E B) w3) (mvT (bZ E B) w4) hy (backJ (QL := fun v h1 L => Q' v h1 ∧ Pmt h ws' L ∧ Keep h h1 ws') (C (oldOf E X N eT) (fun x hx => n0Of E (hws x hx)) []) (bZ E B) w4 w3 r1 r2) (g := mkF m pc Ls.toArray (List.reverseAux as rest)) rfl (by rw [E.2.2.1, ← hL]; simp) (argsL := as) (rest := rest) (lenOf pd hlen) (rev_eq as rest) (by show 2 * 0 + _ ≤ _; omega) (hb E.2.1 hd) (fun vm1 hw1 => ⟨rfl, eT, hSt s vm0 vm1 hw1 B.2.2, r3, r4⟩)
    dsimp only [Pt.U, Pt.locs, Pt.cells, Pt.slots] at X1 l1 y1 z1 st1 hQ hS hgr
    subst l1 y1 z1
    obtain ⟨s2, o, hs, r⟩ := g v _ hQ.1 hQ.2.2 E T1 _ T1.vm (rebase B hS (by rw [← eT]; exact hgr) rfl) X1 (N.app (pmtOf E X eT hws hQ.2.1)) rfl
    exact ⟨s2, o, st1.trans (by rw [psh_eq]; exact hs), r⟩
theorem invokespecialW {q1 : Nat} (hd : decode bytes pc = .ok (.invokespecial i, 3)) (hq1 : pc + 3 = q1) (hy1 : y.name = "<init>") (w1 : (Cond.methodLink own i y).before a0 Z = true) (w2 : (Cond.instanceMethod y).before a0 Z = true) (w3 : (Cond.initialized y.cls).before a0 Z = true) (w4 : (Cond.code y bytes' maxL' none).before a0 Z = true) (hy : y.cls ≠ "java/lang/invoke/MethodHandle" ∧ y.cls ≠ "java/lang/invoke/VarHandle") (pd : parseMethodDescriptor y.desc = some ⟨ps, r'⟩)
    (C : ConW l Z n0 y bytes' maxL' none rm (.ref a :: as) h ws' I' Q') (hst : st = List.reverseAux as (.ref a :: rest)) (hlen : as.length = ps.length) (hL : Ls.length = maxL) (hr : roomOk R rm maxL' rest k n = true) (hws : ∀ x ∈ ws', x ∈ ws ∨ h0.size ≤ x) (hSt : Stab I I') (g : ∀ v h', Q' v h' → Keep h h' ws' → Wp true p l e R s m args below meth c Z own nam bytes maxL ret n0 h0 ws Q (fun _ => True) h' (k + rm.cells) (n + rm.slots) q1 Ls (psh v rest)) : Wp true p l e R s m args below meth c Z own nam bytes maxL ret n0 h0 ws Q I h k n pc Ls st := by
  subst hq1
  exact  fun E T L vm0 B X N eT => by
    obtain ⟨r1, r2, r3, r4⟩ := roomOk_spec hr
    subst hst
    obtain ⟨v, vm, ⟨T1, L1, k1, n1⟩, -, X1, hS, hgr, ⟨Lc, hQ, l1, y1, z1⟩, st1⟩ := X.specialBackS E.1 hy1 (bO E B) (mvT (bZ E B) w1) (mvT (bZ E B) w2) (mvT (bZ E B) w4) hy (backJ (QL := fun v h1 L => Q' v h1 ∧ Pmt h ws' L ∧ Keep h h1 ws') (C (oldOf E X N eT) (fun x hx => n0Of E (hws x hx)) []) (bZ E B) w4 w3 r1 r2) (g := mkF m pc Ls.toArray (List.reverseAux as (.ref a :: rest))) rfl (by rw [E.2.2.1, ← hL]; simp) (Steps.refl _) (a := a) (argsL := as) (rest := rest) (lenOf pd hlen) (rev_eq as _) (by show 2 * 0 + _ ≤ _; omega) (hb E.2.1 hd) (fun vm1 hw1 => ⟨rfl, eT, hSt s vm0 vm1 hw1 B.2.2, r3, r4⟩)
    dsimp only [Pt.U, Pt.locs, Pt.cells, Pt.slots] at X1 l1 y1 z1 st1 hQ hS hgr
    subst l1 y1 z1
    obtain ⟨s2, o, hs, r⟩ := g v _ hQ.1 hQ.2.2 E T1 _ T1.vm (rebase B hS (by rw [← eT]; exact hgr) rfl) X1 (N.app (pmtOf E X eT hws hQ.2.1)) rfl
    exact ⟨s2, o, st1.trans (by rw [psh_eq]; exact hs), r⟩
end Wide
/-! the end -/
theorem ret_v (hd : decode bytes pc = .ok (.return_, 1)) (hret : ret = none) (hr : (Nat.ble k R.cells && Nat.ble n R.slots) = true) (hQ : Q none h) : Wp wd p l e R s m args below meth c Z own nam bytes maxL ret n0 h0 ws Q I h k n pc Ls [] := fun E T L vm0 B X N eT => by
  have hr' := Bool.and_eq_true_iff.mp hr
  obtain ⟨fs, hrr, hrun, hended, hW, hsame⟩ := X.leave (v := none) (fun _ => rfl) E.2.2.2.2.2.2.2.1
  refine ⟨_, _, ?_, hrun, hended, _, _, rfl, ⟨?_, N⟩, endOf E B ⟨_, rfl⟩ hW hsame eT (Nat.le_of_ble_eq_true hr'.1) (Nat.le_of_ble_eq_true hr'.2)⟩
  · exact X.returnOut E.1 (E.2.2.2.2.2.2.1.trans hret) (hb E.2.1 hd) hrr
  · show Q none T.heap
    rw [eT]; exact hQ
theorem ret_w {w : Value} {t : FieldType} {ii : Instr} (hd : decode bytes pc = .ok (ii, 1)) (hret : ret = some t) (hn : narrow t w = w)
    (hi : (ii = .ireturn ∧ (t = .int ∨ t = .boolean ∨ t = .byte ∨ t = .char ∨ t = .short) ∧ ∃ z, w = .int z) ∨ (ii = .lreturn ∧ t = .long ∧ ∃ z, w = .long z) ∨ (ii = .dreturn ∧ t = .double ∧ ∃ z, w = .double z) ∨ (ii = .freturn ∧ t = .float ∧ ∃ z, w = .float z) ∨ (ii = .areturn ∧ t.isReference = true ∧ w.isRef = true))
    (hr : (Nat.ble k R.cells && Nat.ble n R.slots) = true) (hQ : Q (some w) h) : Wp wd p l e R s m args below meth c Z own nam bytes maxL ret n0 h0 ws Q I h k n pc Ls (w :: rest) := fun E T L vm0 B X N eT => by
  have hr' := Bool.and_eq_true_iff.mp hr
  obtain ⟨fs, hrr, hrun, hended, hW, hsame⟩ := X.leave (v := some w) (fun h => by rw [E.2.2.2.2.2.2.1, hret] at h; cases h) E.2.2.2.2.2.2.2.1
  refine ⟨_, _, ?_, hrun, hended, _, _, rfl, ⟨?_, N⟩, endOf E B ⟨_, rfl⟩ hW hsame eT (Nat.le_of_ble_eq_true hr'.1) (Nat.le_of_ble_eq_true hr'.2)⟩
  · exact retOut X E.1 (E.2.2.2.2.2.2.1.trans hret) hn hi (hb E.2.1 hd) hrr
  · show Q _ T.heap
    rw [eT]; exact hQ
theorem ret_i {x : Int32} (hd : decode bytes pc = .ok (.ireturn, 1)) (hret : ret = some .int) (hr : (Nat.ble k R.cells && Nat.ble n R.slots) = true) (hQ : Q (some (.int x)) h) : Wp wd p l e R s m args below meth c Z own nam bytes maxL ret n0 h0 ws Q I h k n pc Ls (.int x :: rest) :=
  ret_w hd hret rfl (Or.inl ⟨rfl, Or.inl rfl, x, rfl⟩) hr hQ
theorem ret_l {x : Int64} (hd : decode bytes pc = .ok (.lreturn, 1)) (hret : ret = some .long) (hr : (Nat.ble k R.cells && Nat.ble n R.slots) = true) (hQ : Q (some (.long x)) h) : Wp wd p l e R s m args below meth c Z own nam bytes maxL ret n0 h0 ws Q I h k n pc Ls (.long x :: rest) :=
  ret_w hd hret rfl (Or.inr (Or.inl ⟨rfl, rfl, x, rfl⟩)) hr hQ
theorem ret_a {w : Value} {t : FieldType} (hd : decode bytes pc = .ok (.areturn, 1)) (hret : ret = some t) (ht : t.isReference = true) (hw : w.isRef = true) (hr : (Nat.ble k R.cells && Nat.ble n R.slots) = true) (hQ : Q (some w) h) : Wp wd p l e R s m args below meth c Z own nam bytes maxL ret n0 h0 ws Q I h k n pc Ls (w :: rest) :=
  ret_w hd hret (by cases t <;> first | (cases ht; done) | (cases w <;> first | rfl | (cases hw; done))) (Or.inr (Or.inr (Or.inr (Or.inr ⟨rfl, ht, hw⟩)))) hr hQ
theorem ret_n {x : Int32} {t : FieldType} (hd : decode bytes pc = .ok (.ireturn, 1)) (hret : ret = some t) (ht : t = .boolean ∨ t = .byte ∨ t = .char ∨ t = .short) (hr : (Nat.ble k R.cells && Nat.ble n R.slots) = true) (hQ : Q (some (.int (nar t x))) h) : Wp wd p l e R s m args below meth c Z own nam bytes maxL ret n0 h0 ws Q I h k n pc Ls (.int x :: rest) := fun E T L vm0 B X N eT => by
  have hr' := Bool.and_eq_true_iff.mp hr
  obtain ⟨fs, hrr, hrun, hended, hW, hsame⟩ := X.leave (v := some (.int (nar t x))) (fun h => by rw [E.2.2.2.2.2.2.1, hret] at h; cases h) E.2.2.2.2.2.2.2.1
  refine ⟨_, _, ?_, hrun, hended, _, _, rfl, ⟨?_, N⟩, endOf E B ⟨_, rfl⟩ hW hsame eT (Nat.le_of_ble_eq_true hr'.1) (Nat.le_of_ble_eq_true hr'.2)⟩
  · exact retN X E.1 (E.2.2.2.2.2.2.1.trans hret) ht (hb E.2.1 hd) hrr
  · show Q _ T.heap
    rw [eT]; exact hQ
end Walk
end Jvm.OwnWp
namespace Jvm.Pilot.@@N@@
open Jvm Jvm.ClassFile Sem Op Lib Jvm.Free Jvm.Stand Jvm.LawKit Jvm.RoadKit Jvm.OwnWp Bundle Jvm.Pilot.@@N@@.Jvm.D
theorem ww {Z : State} {a0 : Array Value} (hw : ∀ d ∈ tables_1, d.before a0 Z = true) (i : Nat) {d : Jvm.Cond} (h : tables_1[i]? = some d) : d.before a0 Z = true := hw d (List.mem_of_getElem? h)
theorem pd0 : parseMethodDescriptor "(I)V" = some ⟨[.int], none⟩ := by decide +kernel
theorem pd1 : parseMethodDescriptor "()V" = some ⟨[], none⟩ := by decide +kernel
theorem pd2 : parseMethodDescriptor "(I)I" = some ⟨[.int], some .int⟩ := by decide +kernel
theorem pd3 : parseMethodDescriptor "([II)V" = some ⟨[(.array .int), .int], none⟩ := by decide +kernel
theorem pd4 : parseMethodDescriptor "(J)I" = some ⟨[.long], some .int⟩ := by decide +kernel
theorem pd5 : parseMethodDescriptor "(II)I" = some ⟨[.int, .int], some .int⟩ := by decide +kernel
theorem pd6 : parseMethodDescriptor "(III)I" = some ⟨[.int, .int, .int], some .int⟩ := by decide +kernel
theorem pd7 : parseMethodDescriptor "(IIII)Z" = some ⟨[.int, .int, .int, .int], some .boolean⟩ := by decide +kernel
theorem pd8 : parseMethodDescriptor "([II)Z" = some ⟨[(.array .int), .int], some .boolean⟩ := by decide +kernel
theorem pd9 : parseMethodDescriptor "(I)Z" = some ⟨[.int], some .boolean⟩ := by decide +kernel
theorem pd10 : parseMethodDescriptor "([I)I" = some ⟨[(.array .int)], some .int⟩ := by decide +kernel
theorem own_succ {j : Int32} {i : Nat} (h : j.toInt = (i : Int)) (hb : i < 2147483647) : (j + 1).toInt = ((i + 1 : Nat) : Int) := by
  have e : (1 : Int32).toInt = 1 := rfl
  rw [XT.add32 (by rw [h, e]; constructor <;> omega), h, e]; omega
theorem own_lt {x y : Int32} : x < y ↔ x.toInt < y.toInt := Int32.lt_iff_toInt_lt
theorem own_eq {x y : Int32} (h : x.toInt = y.toInt) : x = y := Int32.toInt_inj.mp h
theorem own_b8 (x : Int32) : nar .byte (x.toInt8.toInt32) = x.toInt8.toInt32 := by simp [nar]
theorem own_and255 (x : Int32) : ∃ n : Nat, (x &&& 255).toInt = (n : Int) ∧ n < 256 := by
  have h := c_mask x 255 8 (by decide) (by decide)
  refine ⟨(x &&& 255).toInt.toNat, ?_, ?_⟩ <;> omega
theorem own_c8 (x : Int32) : nar .char ((x &&& 255).toUInt32.toUInt16.toUInt32.toInt32) = x &&& 255 := by
  rw [i2c_mask]; exact i2c_mask x
theorem own_le255 (x : Int32) : ¬ (255 : Int32) < x &&& 255 := by
  obtain ⟨n, h1, h2⟩ := own_and255 x
  rw [own_lt, h1]; have : (255 : Int32).toInt = 255 := rfl; omega
theorem own_in1 {a : Addr} : ∀ {L : List Addr}, a ∈ a :: L := List.mem_cons_self
theorem own_sta {s : State} {args : Array Value} {C n d : String} {ty : FieldType} {k : Int32} (hfit : Fit s) (w1 : (Cond.laysStatic C n d).before args s = true) (w2 : (Cond.initializedFor C n d).before args s = true) (w3 : (Cond.eq (.static C n d) (.int k)).before args s = true) (ht : parseFieldDescriptor d = some ty) (hty : ty = .int ∨ ty = .boolean ∨ ty = .byte ∨ ty = .char ∨ ty = .short) : Sta s s.heap C n d (.int k) := by
  obtain ⟨v, ev, hv⟩ := static_fit hfit w1 ht
  obtain ⟨x, rfl⟩ := fit_I hv hty
  have e : x = k := gotT (Cond.eq_ints ev (Term.int_eval k)) (Cond.before_iff.mp w3)
  subst e
  exact Sta.start ev (Or.inl w2)
def AOff (Z : State) : Prop := Sta Z Z.heap "java/util/BitSet" "$assertionsDisabled" "Z" (.int 1)
theorem d5_0 : decode jdk_92_method_1_code 0 = .ok (.iload_n 0, 1) := by decide +kernel
theorem d5_1 : decode jdk_92_method_1_code 1 = .ok (.bipush 6, 2) := by decide +kernel
theorem d5_3 : decode jdk_92_method_1_code 3 = .ok (.ishr, 1) := by decide +kernel
theorem d5_4 : decode jdk_92_method_1_code 4 = .ok (.ireturn, 1) := by decide +kernel
theorem d10_0 : decode jdk_92_method_2_code 0 = .ok (.getstatic 3, 3) := by decide +kernel
theorem d10_3 : decode jdk_92_method_2_code 3 = .ok (.ifCond .ne 34, 3) := by decide +kernel
theorem d10_6 : decode jdk_92_method_2_code 6 = .ok (.aload_n 0, 1) := by decide +kernel
theorem d10_7 : decode jdk_92_method_2_code 7 = .ok (.getfield 7, 3) := by decide +kernel
theorem d10_10 : decode jdk_92_method_2_code 10 = .ok (.ifCond .eq 27, 3) := by decide +kernel
theorem d10_13 : decode jdk_92_method_2_code 13 = .ok (.aload_n 0, 1) := by decide +kernel
theorem d10_14 : decode jdk_92_method_2_code 14 = .ok (.getfield 11, 3) := by decide +kernel
theorem d10_17 : decode jdk_92_method_2_code 17 = .ok (.aload_n 0, 1) := by decide +kernel
theorem d10_18 : decode jdk_92_method_2_code 18 = .ok (.getfield 7, 3) := by decide +kernel
theorem d10_21 : decode jdk_92_method_2_code 21 = .ok (.iconst 1, 1) := by decide +kernel
theorem d10_22 : decode jdk_92_method_2_code 22 = .ok (.isub, 1) := by decide +kernel
theorem d10_23 : decode jdk_92_method_2_code 23 = .ok (.laload, 1) := by decide +kernel
theorem d10_24 : decode jdk_92_method_2_code 24 = .ok (.lconst 0, 1) := by decide +kernel
theorem d10_25 : decode jdk_92_method_2_code 25 = .ok (.lcmp, 1) := by decide +kernel
theorem d10_26 : decode jdk_92_method_2_code 26 = .ok (.ifCond .ne 11, 3) := by decide +kernel
theorem d10_29 : decode jdk_92_method_2_code 29 = .ok (.new 15, 3) := by decide +kernel
theorem d10_32 : decode jdk_92_method_2_code 32 = .ok (.dup, 1) := by decide +kernel
theorem d10_33 : decode jdk_92_method_2_code 33 = .ok (.invokespecial 17, 3) := by decide +kernel
theorem d10_36 : decode jdk_92_method_2_code 36 = .ok (.athrow, 1) := by decide +kernel
theorem d10_37 : decode jdk_92_method_2_code 37 = .ok (.getstatic 3, 3) := by decide +kernel
theorem d10_40 : decode jdk_92_method_2_code 40 = .ok (.ifCond .ne 30, 3) := by decide +kernel
theorem d10_43 : decode jdk_92_method_2_code 43 = .ok (.aload_n 0, 1) := by decide +kernel
theorem d10_44 : decode jdk_92_method_2_code 44 = .ok (.getfield 7, 3) := by decide +kernel
theorem d10_47 : decode jdk_92_method_2_code 47 = .ok (.ifCond .lt 15, 3) := by decide +kernel
theorem d10_50 : decode jdk_92_method_2_code 50 = .ok (.aload_n 0, 1) := by decide +kernel
theorem d10_51 : decode jdk_92_method_2_code 51 = .ok (.getfield 7, 3) := by decide +kernel
theorem d10_54 : decode jdk_92_method_2_code 54 = .ok (.aload_n 0, 1) := by decide +kernel
theorem d10_55 : decode jdk_92_method_2_code 55 = .ok (.getfield 11, 3) := by decide +kernel
theorem d10_58 : decode jdk_92_method_2_code 58 = .ok (.arraylength, 1) := by decide +kernel
theorem d10_59 : decode jdk_92_method_2_code 59 = .ok (.if_icmp .le 11, 3) := by decide +kernel
theorem d10_62 : decode jdk_92_method_2_code 62 = .ok (.new 15, 3) := by decide +kernel
theorem d10_65 : decode jdk_92_method_2_code 65 = .ok (.dup, 1) := by decide +kernel
theorem d10_66 : decode jdk_92_method_2_code 66 = .ok (.invokespecial 17, 3) := by decide +kernel
theorem d10_69 : decode jdk_92_method_2_code 69 = .ok (.athrow, 1) := by decide +kernel
theorem d10_70 : decode jdk_92_method_2_code 70 = .ok (.getstatic 3, 3) := by decide +kernel
theorem d10_73 : decode jdk_92_method_2_code 73 = .ok (.ifCond .ne 37, 3) := by decide +kernel
theorem d10_76 : decode jdk_92_method_2_code 76 = .ok (.aload_n 0, 1) := by decide +kernel
theorem d10_77 : decode jdk_92_method_2_code 77 = .ok (.getfield 7, 3) := by decide +kernel
theorem d10_80 : decode jdk_92_method_2_code 80 = .ok (.aload_n 0, 1) := by decide +kernel
theorem d10_81 : decode jdk_92_method_2_code 81 = .ok (.getfield 11, 3) := by decide +kernel
theorem d10_84 : decode jdk_92_method_2_code 84 = .ok (.arraylength, 1) := by decide +kernel
theorem d10_85 : decode jdk_92_method_2_code 85 = .ok (.if_icmp .eq 25, 3) := by decide +kernel
theorem d10_88 : decode jdk_92_method_2_code 88 = .ok (.aload_n 0, 1) := by decide +kernel
theorem d10_89 : decode jdk_92_method_2_code 89 = .ok (.getfield 11, 3) := by decide +kernel
theorem d10_92 : decode jdk_92_method_2_code 92 = .ok (.aload_n 0, 1) := by decide +kernel
theorem d10_93 : decode jdk_92_method_2_code 93 = .ok (.getfield 7, 3) := by decide +kernel
theorem d10_96 : decode jdk_92_method_2_code 96 = .ok (.laload, 1) := by decide +kernel
theorem d10_97 : decode jdk_92_method_2_code 97 = .ok (.lconst 0, 1) := by decide +kernel
theorem d10_98 : decode jdk_92_method_2_code 98 = .ok (.lcmp, 1) := by decide +kernel
theorem d10_99 : decode jdk_92_method_2_code 99 = .ok (.ifCond .eq 11, 3) := by decide +kernel
theorem d10_102 : decode jdk_92_method_2_code 102 = .ok (.new 15, 3) := by decide +kernel
theorem d10_105 : decode jdk_92_method_2_code 105 = .ok (.dup, 1) := by decide +kernel
theorem d10_106 : decode jdk_92_method_2_code 106 = .ok (.invokespecial 17, 3) := by decide +kernel
theorem d10_109 : decode jdk_92_method_2_code 109 = .ok (.athrow, 1) := by decide +kernel
theorem d10_110 : decode jdk_92_method_2_code 110 = .ok (.return_, 1) := by decide +kernel
set_option maxRecDepth 65536 in
set_option maxHeartbeats 40000000 in
theorem c_bwi {l : Launch} {Z : State} {a0 : Array Value} (hw : ∀ d ∈ tables_1, d.before a0 Z = true) {n0 : Nat} {h0 : Heap} {i : Int32} : Con l Z n0 (⟨"java/util/BitSet", "wordIndex", "(I)I"⟩ : MethodName) jdk_92_method_1_code 1 (some .int) ({ frames := 0, cells := 0, slots := 0, locals := 0 } : Room) [.int i] h0 [] (fun v h' => v = some (.int (i >>> ((6 : Int32) &&& 31))) ∧ h' = h0) := by
  refine Con.of (Ls := [.val (.int i)]) (by decide +kernel) (fun m => by first | (simp [entryFrame, mkF, argsToLocals, Value.category]; done) | (rcases ref_cases hrw with rfl | ⟨b, rfl⟩ <;> rfl) | rfl) (fun p e s m below meth c => ?_)
  show Wp false p l e ({ frames := 0, cells := 0, slots := 0, locals := 0 } : Room) s m ([.int i] : List Value).toArray below meth c Z "java/util/BitSet" "wordIndex" jdk_92_method_1_code 1 (some .int) n0 h0 [] (fun v h' => v = some (.int (i >>> ((6 : Int32) &&& 31))) ∧ h' = h0) (fun _ => True) h0 0 0 0 [.val (.int i)] []
  refine iload_n (q1 := 1) d5_0 rfl rfl ?_
  refine bipush (q1 := 3) (v := 6) d5_1 rfl rfl ?_
  refine ishr (q1 := 4) d5_3 rfl ?_
  refine ret_i d5_4 rfl rfl ⟨rfl, rfl⟩
set_option maxRecDepth 65536 in
set_option maxHeartbeats 40000000 in
theorem c_bci {l : Launch} {Z : State} {a0 : Array Value} (hw : ∀ d ∈ tables_1, d.before a0 Z = true) {n0 : Nat} {h0 : Heap} {b : Addr} (S : AOff Z) : Con l Z n0 (⟨"java/util/BitSet", "checkInvariants", "()V"⟩ : MethodName) jdk_92_method_2_code 1 none ({ frames := 0, cells := 0, slots := 0, locals := 0 } : Room) [.ref b] h0 [] (fun v h' => v = none ∧ h' = h0) := by
  refine Con.of (Ls := [.val (.ref b)]) (by decide +kernel) (fun m => by first | (simp [entryFrame, mkF, argsToLocals, Value.category]; done) | (rcases ref_cases hrw with rfl | ⟨b, rfl⟩ <;> rfl) | rfl) (fun p e s m below meth c => ?_)
  show Wp false p l e ({ frames := 0, cells := 0, slots := 0, locals := 0 } : Room) s m ([.ref b] : List Value).toArray below meth c Z "java/util/BitSet" "checkInvariants" jdk_92_method_2_code 1 none n0 h0 [] (fun v h' => v = none ∧ h' = h0) (fun _ => True) h0 0 0 0 [.val (.ref b)] []
  refine kept fun K O => ?_
  refine getstatic (q1 := 3) d10_0 rfl (ww hw 64 rfl) Via.refl (S.ext O.2) ?_
  refine if_ne (q1 := 6) (q := 37) d10_3 rfl ⟨by decide, rfl⟩ (fun _ => ?_) (fun hq => absurd hq (by decide))
  refine getstatic (q1 := 40) d10_37 rfl (ww hw 64 rfl) Via.refl (S.ext O.2) ?_
  refine if_ne (q1 := 43) (q := 70) d10_40 rfl ⟨by decide, rfl⟩ (fun _ => ?_) (fun hq => absurd hq (by decide))
  refine getstatic (q1 := 73) d10_70 rfl (ww hw 64 rfl) Via.refl (S.ext O.2) ?_
  refine if_ne (q1 := 76) (q := 110) d10_73 rfl ⟨by decide, rfl⟩ (fun _ => ?_) (fun hq => absurd hq (by decide))
  refine ret_v d10_110 rfl rfl ⟨rfl, rfl⟩
theorem d4_0 : decode jdk_92_method_6_code 0 = .ok (.aload_n 0, 1) := by decide +kernel
theorem d4_1 : decode jdk_92_method_6_code 1 = .ok (.iload_n 1, 1) := by decide +kernel
theorem d4_2 : decode jdk_92_method_6_code 2 = .ok (.iconst 1, 1) := by decide +kernel
theorem d4_3 : decode jdk_92_method_6_code 3 = .ok (.isub, 1) := by decide +kernel
theorem d4_4 : decode jdk_92_method_6_code 4 = .ok (.invokestatic 52, 3) := by decide +kernel
theorem d4_7 : decode jdk_92_method_6_code 7 = .ok (.iconst 1, 1) := by decide +kernel
theorem d4_8 : decode jdk_92_method_6_code 8 = .ok (.iadd, 1) := by decide +kernel
theorem d4_9 : decode jdk_92_method_6_code 9 = .ok (.newarray .long, 2) := by decide +kernel
theorem d4_11 : decode jdk_92_method_6_code 11 = .ok (.putfield 11, 3) := by decide +kernel
theorem d4_14 : decode jdk_92_method_6_code 14 = .ok (.return_, 1) := by decide +kernel
theorem d3_0 : decode jdk_92_method_4_code 0 = .ok (.aload_n 0, 1) := by decide +kernel
theorem d3_1 : decode jdk_92_method_4_code 1 = .ok (.invokespecial 21, 3) := by decide +kernel
theorem d3_4 : decode jdk_92_method_4_code 4 = .ok (.aload_n 0, 1) := by decide +kernel
theorem d3_5 : decode jdk_92_method_4_code 5 = .ok (.iconst 0, 1) := by decide +kernel
theorem d3_6 : decode jdk_92_method_4_code 6 = .ok (.putfield 7, 3) := by decide +kernel
theorem d3_9 : decode jdk_92_method_4_code 9 = .ok (.aload_n 0, 1) := by decide +kernel
theorem d3_10 : decode jdk_92_method_4_code 10 = .ok (.iconst 0, 1) := by decide +kernel
theorem d3_11 : decode jdk_92_method_4_code 11 = .ok (.putfield 24, 3) := by decide +kernel
theorem d3_14 : decode jdk_92_method_4_code 14 = .ok (.aload_n 0, 1) := by decide +kernel
theorem d3_15 : decode jdk_92_method_4_code 15 = .ok (.bipush 64, 2) := by decide +kernel
theorem d3_17 : decode jdk_92_method_4_code 17 = .ok (.invokevirtual 27, 3) := by decide +kernel
theorem d3_20 : decode jdk_92_method_4_code 20 = .ok (.aload_n 0, 1) := by decide +kernel
theorem d3_21 : decode jdk_92_method_4_code 21 = .ok (.iconst 0, 1) := by decide +kernel
theorem d3_22 : decode jdk_92_method_4_code 22 = .ok (.putfield 24, 3) := by decide +kernel
theorem d3_25 : decode jdk_92_method_4_code 25 = .ok (.return_, 1) := by decide +kernel
theorem d7_0 : decode jdk_92_method_19_code 0 = .ok (.iload_n 1, 1) := by decide +kernel
theorem d7_1 : decode jdk_92_method_19_code 1 = .ok (.ifCond .ge 30, 3) := by decide +kernel
theorem d7_4 : decode jdk_92_method_19_code 4 = .ok (.new 142, 3) := by decide +kernel
theorem d7_7 : decode jdk_92_method_19_code 7 = .ok (.dup, 1) := by decide +kernel
theorem d7_8 : decode jdk_92_method_19_code 8 = .ok (.new 33, 3) := by decide +kernel
theorem d7_11 : decode jdk_92_method_19_code 11 = .ok (.dup, 1) := by decide +kernel
theorem d7_12 : decode jdk_92_method_19_code 12 = .ok (.invokespecial 35, 3) := by decide +kernel
theorem d7_15 : decode jdk_92_method_19_code 15 = .ok (.ldc 153, 2) := by decide +kernel
theorem d7_17 : decode jdk_92_method_19_code 17 = .ok (.invokevirtual 38, 3) := by decide +kernel
theorem d7_20 : decode jdk_92_method_19_code 20 = .ok (.iload_n 1, 1) := by decide +kernel
theorem d7_21 : decode jdk_92_method_19_code 21 = .ok (.invokevirtual 42, 3) := by decide +kernel
theorem d7_24 : decode jdk_92_method_19_code 24 = .ok (.invokevirtual 45, 3) := by decide +kernel
theorem d7_27 : decode jdk_92_method_19_code 27 = .ok (.invokespecial 146, 3) := by decide +kernel
theorem d7_30 : decode jdk_92_method_19_code 30 = .ok (.athrow, 1) := by decide +kernel
theorem d7_31 : decode jdk_92_method_19_code 31 = .ok (.iload_n 1, 1) := by decide +kernel
theorem d7_32 : decode jdk_92_method_19_code 32 = .ok (.invokestatic 52, 3) := by decide +kernel
theorem d7_35 : decode jdk_92_method_19_code 35 = .ok (.istore_n 2, 1) := by decide +kernel
theorem d7_36 : decode jdk_92_method_19_code 36 = .ok (.aload_n 0, 1) := by decide +kernel
theorem d7_37 : decode jdk_92_method_19_code 37 = .ok (.iload_n 2, 1) := by decide +kernel
theorem d7_38 : decode jdk_92_method_19_code 38 = .ok (.invokevirtual 155, 3) := by decide +kernel
theorem d7_41 : decode jdk_92_method_19_code 41 = .ok (.aload_n 0, 1) := by decide +kernel
theorem d7_42 : decode jdk_92_method_19_code 42 = .ok (.getfield 11, 3) := by decide +kernel
theorem d7_45 : decode jdk_92_method_19_code 45 = .ok (.iload_n 2, 1) := by decide +kernel
theorem d7_46 : decode jdk_92_method_19_code 46 = .ok (.dup2, 1) := by decide +kernel
theorem d7_47 : decode jdk_92_method_19_code 47 = .ok (.laload, 1) := by decide +kernel
theorem d7_48 : decode jdk_92_method_19_code 48 = .ok (.lconst 1, 1) := by decide +kernel
theorem d7_49 : decode jdk_92_method_19_code 49 = .ok (.iload_n 1, 1) := by decide +kernel
theorem d7_50 : decode jdk_92_method_19_code 50 = .ok (.lshl, 1) := by decide +kernel
theorem d7_51 : decode jdk_92_method_19_code 51 = .ok (.lor, 1) := by decide +kernel
theorem d7_52 : decode jdk_92_method_19_code 52 = .ok (.lastore, 1) := by decide +kernel
theorem d7_53 : decode jdk_92_method_19_code 53 = .ok (.aload_n 0, 1) := by decide +kernel
theorem d7_54 : decode jdk_92_method_19_code 54 = .ok (.invokevirtual 56, 3) := by decide +kernel
theorem d7_57 : decode jdk_92_method_19_code 57 = .ok (.return_, 1) := by decide +kernel
theorem d8_0 : decode jdk_92_method_15_code 0 = .ok (.iload_n 1, 1) := by decide +kernel
theorem d8_1 : decode jdk_92_method_15_code 1 = .ok (.iconst 1, 1) := by decide +kernel
theorem d8_2 : decode jdk_92_method_15_code 2 = .ok (.iadd, 1) := by decide +kernel
theorem d8_3 : decode jdk_92_method_15_code 3 = .ok (.istore_n 2, 1) := by decide +kernel
theorem d8_4 : decode jdk_92_method_15_code 4 = .ok (.aload_n 0, 1) := by decide +kernel
theorem d8_5 : decode jdk_92_method_15_code 5 = .ok (.getfield 7, 3) := by decide +kernel
theorem d8_8 : decode jdk_92_method_15_code 8 = .ok (.iload_n 2, 1) := by decide +kernel
theorem d8_9 : decode jdk_92_method_15_code 9 = .ok (.if_icmp .ge 13, 3) := by decide +kernel
theorem d8_12 : decode jdk_92_method_15_code 12 = .ok (.aload_n 0, 1) := by decide +kernel
theorem d8_13 : decode jdk_92_method_15_code 13 = .ok (.iload_n 2, 1) := by decide +kernel
theorem d8_14 : decode jdk_92_method_15_code 14 = .ok (.invokevirtual 139, 3) := by decide +kernel
theorem d8_17 : decode jdk_92_method_15_code 17 = .ok (.aload_n 0, 1) := by decide +kernel
theorem d8_18 : decode jdk_92_method_15_code 18 = .ok (.iload_n 2, 1) := by decide +kernel
theorem d8_19 : decode jdk_92_method_15_code 19 = .ok (.putfield 7, 3) := by decide +kernel
theorem d8_22 : decode jdk_92_method_15_code 22 = .ok (.return_, 1) := by decide +kernel
theorem d9_0 : decode jdk_92_method_14_code 0 = .ok (.aload_n 0, 1) := by decide +kernel
theorem d9_1 : decode jdk_92_method_14_code 1 = .ok (.getfield 11, 3) := by decide +kernel
theorem d9_4 : decode jdk_92_method_14_code 4 = .ok (.arraylength, 1) := by decide +kernel
theorem d9_5 : decode jdk_92_method_14_code 5 = .ok (.iload_n 1, 1) := by decide +kernel
theorem d9_6 : decode jdk_92_method_14_code 6 = .ok (.if_icmp .ge 32, 3) := by decide +kernel
theorem d9_9 : decode jdk_92_method_14_code 9 = .ok (.iconst 2, 1) := by decide +kernel
theorem d9_10 : decode jdk_92_method_14_code 10 = .ok (.aload_n 0, 1) := by decide +kernel
theorem d9_11 : decode jdk_92_method_14_code 11 = .ok (.getfield 11, 3) := by decide +kernel
theorem d9_14 : decode jdk_92_method_14_code 14 = .ok (.arraylength, 1) := by decide +kernel
theorem d9_15 : decode jdk_92_method_14_code 15 = .ok (.imul, 1) := by decide +kernel
theorem d9_16 : decode jdk_92_method_14_code 16 = .ok (.iload_n 1, 1) := by decide +kernel
theorem d9_17 : decode jdk_92_method_14_code 17 = .ok (.invokestatic 133, 3) := by decide +kernel
theorem d9_20 : decode jdk_92_method_14_code 20 = .ok (.istore_n 2, 1) := by decide +kernel
theorem d9_21 : decode jdk_92_method_14_code 21 = .ok (.aload_n 0, 1) := by decide +kernel
theorem d9_22 : decode jdk_92_method_14_code 22 = .ok (.aload_n 0, 1) := by decide +kernel
theorem d9_23 : decode jdk_92_method_14_code 23 = .ok (.getfield 11, 3) := by decide +kernel
theorem d9_26 : decode jdk_92_method_14_code 26 = .ok (.iload_n 2, 1) := by decide +kernel
theorem d9_27 : decode jdk_92_method_14_code 27 = .ok (.invokestatic 59, 3) := by decide +kernel
theorem d9_30 : decode jdk_92_method_14_code 30 = .ok (.putfield 11, 3) := by decide +kernel
theorem d9_33 : decode jdk_92_method_14_code 33 = .ok (.aload_n 0, 1) := by decide +kernel
theorem d9_34 : decode jdk_92_method_14_code 34 = .ok (.iconst 0, 1) := by decide +kernel
theorem d9_35 : decode jdk_92_method_14_code 35 = .ok (.putfield 24, 3) := by decide +kernel
theorem d9_38 : decode jdk_92_method_14_code 38 = .ok (.return_, 1) := by decide +kernel
theorem d11_0 : decode jdk_92_method_29_code 0 = .ok (.iload_n 1, 1) := by decide +kernel
theorem d11_1 : decode jdk_92_method_29_code 1 = .ok (.ifCond .ge 30, 3) := by decide +kernel
theorem d11_4 : decode jdk_92_method_29_code 4 = .ok (.new 142, 3) := by decide +kernel
theorem d11_7 : decode jdk_92_method_29_code 7 = .ok (.dup, 1) := by decide +kernel
theorem d11_8 : decode jdk_92_method_29_code 8 = .ok (.new 33, 3) := by decide +kernel
theorem d11_11 : decode jdk_92_method_29_code 11 = .ok (.dup, 1) := by decide +kernel
theorem d11_12 : decode jdk_92_method_29_code 12 = .ok (.invokespecial 35, 3) := by decide +kernel
theorem d11_15 : decode jdk_92_method_29_code 15 = .ok (.ldc 144, 2) := by decide +kernel
theorem d11_17 : decode jdk_92_method_29_code 17 = .ok (.invokevirtual 38, 3) := by decide +kernel
theorem d11_20 : decode jdk_92_method_29_code 20 = .ok (.iload_n 1, 1) := by decide +kernel
theorem d11_21 : decode jdk_92_method_29_code 21 = .ok (.invokevirtual 42, 3) := by decide +kernel
theorem d11_24 : decode jdk_92_method_29_code 24 = .ok (.invokevirtual 45, 3) := by decide +kernel
theorem d11_27 : decode jdk_92_method_29_code 27 = .ok (.invokespecial 146, 3) := by decide +kernel
theorem d11_30 : decode jdk_92_method_29_code 30 = .ok (.athrow, 1) := by decide +kernel
theorem d11_31 : decode jdk_92_method_29_code 31 = .ok (.aload_n 0, 1) := by decide +kernel
theorem d11_32 : decode jdk_92_method_29_code 32 = .ok (.invokevirtual 56, 3) := by decide +kernel
theorem d11_35 : decode jdk_92_method_29_code 35 = .ok (.iload_n 1, 1) := by decide +kernel
theorem d11_36 : decode jdk_92_method_29_code 36 = .ok (.invokestatic 52, 3) := by decide +kernel
theorem d11_39 : decode jdk_92_method_29_code 39 = .ok (.istore_n 2, 1) := by decide +kernel
theorem d11_40 : decode jdk_92_method_29_code 40 = .ok (.iload_n 2, 1) := by decide +kernel
theorem d11_41 : decode jdk_92_method_29_code 41 = .ok (.aload_n 0, 1) := by decide +kernel
theorem d11_42 : decode jdk_92_method_29_code 42 = .ok (.getfield 7, 3) := by decide +kernel
theorem d11_45 : decode jdk_92_method_29_code 45 = .ok (.if_icmp .lt 5, 3) := by decide +kernel
theorem d11_48 : decode jdk_92_method_29_code 48 = .ok (.iload_n 1, 1) := by decide +kernel
theorem d11_49 : decode jdk_92_method_29_code 49 = .ok (.ireturn, 1) := by decide +kernel
theorem d11_50 : decode jdk_92_method_29_code 50 = .ok (.aload_n 0, 1) := by decide +kernel
theorem d11_51 : decode jdk_92_method_29_code 51 = .ok (.getfield 11, 3) := by decide +kernel
theorem d11_54 : decode jdk_92_method_29_code 54 = .ok (.iload_n 2, 1) := by decide +kernel
theorem d11_55 : decode jdk_92_method_29_code 55 = .ok (.laload, 1) := by decide +kernel
theorem d11_56 : decode jdk_92_method_29_code 56 = .ok (.ldc2_w 165, 3) := by decide +kernel
theorem d11_59 : decode jdk_92_method_29_code 59 = .ok (.lxor, 1) := by decide +kernel
theorem d11_60 : decode jdk_92_method_29_code 60 = .ok (.ldc2_w 165, 3) := by decide +kernel
theorem d11_63 : decode jdk_92_method_29_code 63 = .ok (.iload_n 1, 1) := by decide +kernel
theorem d11_64 : decode jdk_92_method_29_code 64 = .ok (.lshl, 1) := by decide +kernel
theorem d11_65 : decode jdk_92_method_29_code 65 = .ok (.land, 1) := by decide +kernel
theorem d11_66 : decode jdk_92_method_29_code 66 = .ok (.lstore_n 3, 1) := by decide +kernel
theorem d11_67 : decode jdk_92_method_29_code 67 = .ok (.lload_n 3, 1) := by decide +kernel
theorem d11_68 : decode jdk_92_method_29_code 68 = .ok (.lconst 0, 1) := by decide +kernel
theorem d11_69 : decode jdk_92_method_29_code 69 = .ok (.lcmp, 1) := by decide +kernel
theorem d11_70 : decode jdk_92_method_29_code 70 = .ok (.ifCond .eq 13, 3) := by decide +kernel
theorem d11_73 : decode jdk_92_method_29_code 73 = .ok (.iload_n 2, 1) := by decide +kernel
theorem d11_74 : decode jdk_92_method_29_code 74 = .ok (.bipush 64, 2) := by decide +kernel
theorem d11_76 : decode jdk_92_method_29_code 76 = .ok (.imul, 1) := by decide +kernel
theorem d11_77 : decode jdk_92_method_29_code 77 = .ok (.lload_n 3, 1) := by decide +kernel
theorem d11_78 : decode jdk_92_method_29_code 78 = .ok (.invokestatic 182, 3) := by decide +kernel
theorem d11_81 : decode jdk_92_method_29_code 81 = .ok (.iadd, 1) := by decide +kernel
theorem d11_82 : decode jdk_92_method_29_code 82 = .ok (.ireturn, 1) := by decide +kernel
theorem d11_83 : decode jdk_92_method_29_code 83 = .ok (.iinc 2 1, 3) := by decide +kernel
theorem d11_86 : decode jdk_92_method_29_code 86 = .ok (.iload_n 2, 1) := by decide +kernel
theorem d11_87 : decode jdk_92_method_29_code 87 = .ok (.aload_n 0, 1) := by decide +kernel
theorem d11_88 : decode jdk_92_method_29_code 88 = .ok (.getfield 7, 3) := by decide +kernel
theorem d11_91 : decode jdk_92_method_29_code 91 = .ok (.if_icmp .ne 11, 3) := by decide +kernel
theorem d11_94 : decode jdk_92_method_29_code 94 = .ok (.aload_n 0, 1) := by decide +kernel
theorem d11_95 : decode jdk_92_method_29_code 95 = .ok (.getfield 7, 3) := by decide +kernel
theorem d11_98 : decode jdk_92_method_29_code 98 = .ok (.bipush 64, 2) := by decide +kernel
theorem d11_100 : decode jdk_92_method_29_code 100 = .ok (.imul, 1) := by decide +kernel
theorem d11_101 : decode jdk_92_method_29_code 101 = .ok (.ireturn, 1) := by decide +kernel
theorem d11_102 : decode jdk_92_method_29_code 102 = .ok (.aload_n 0, 1) := by decide +kernel
theorem d11_103 : decode jdk_92_method_29_code 103 = .ok (.getfield 11, 3) := by decide +kernel
theorem d11_106 : decode jdk_92_method_29_code 106 = .ok (.iload_n 2, 1) := by decide +kernel
theorem d11_107 : decode jdk_92_method_29_code 107 = .ok (.laload, 1) := by decide +kernel
theorem d11_108 : decode jdk_92_method_29_code 108 = .ok (.ldc2_w 165, 3) := by decide +kernel
theorem d11_111 : decode jdk_92_method_29_code 111 = .ok (.lxor, 1) := by decide +kernel
theorem d11_112 : decode jdk_92_method_29_code 112 = .ok (.lstore_n 3, 1) := by decide +kernel
theorem d11_113 : decode jdk_92_method_29_code 113 = .ok (.goto (-46), 3) := by decide +kernel
theorem d12_0 : decode jdk_35_method_49_code 0 = .ok (.lload_n 0, 1) := by decide +kernel
theorem d12_1 : decode jdk_35_method_49_code 1 = .ok (.l2i, 1) := by decide +kernel
theorem d12_2 : decode jdk_35_method_49_code 2 = .ok (.istore_n 2, 1) := by decide +kernel
theorem d12_3 : decode jdk_35_method_49_code 3 = .ok (.iload_n 2, 1) := by decide +kernel
theorem d12_4 : decode jdk_35_method_49_code 4 = .ok (.ifCond .ne 17, 3) := by decide +kernel
theorem d12_7 : decode jdk_35_method_49_code 7 = .ok (.bipush 32, 2) := by decide +kernel
theorem d12_9 : decode jdk_35_method_49_code 9 = .ok (.lload_n 0, 1) := by decide +kernel
theorem d12_10 : decode jdk_35_method_49_code 10 = .ok (.bipush 32, 2) := by decide +kernel
theorem d12_12 : decode jdk_35_method_49_code 12 = .ok (.lushr, 1) := by decide +kernel
theorem d12_13 : decode jdk_35_method_49_code 13 = .ok (.l2i, 1) := by decide +kernel
theorem d12_14 : decode jdk_35_method_49_code 14 = .ok (.invokestatic 311, 3) := by decide +kernel
theorem d12_17 : decode jdk_35_method_49_code 17 = .ok (.iadd, 1) := by decide +kernel
theorem d12_18 : decode jdk_35_method_49_code 18 = .ok (.goto 7, 3) := by decide +kernel
theorem d12_21 : decode jdk_35_method_49_code 21 = .ok (.iload_n 2, 1) := by decide +kernel
theorem d12_22 : decode jdk_35_method_49_code 22 = .ok (.invokestatic 311, 3) := by decide +kernel
theorem d12_25 : decode jdk_35_method_49_code 25 = .ok (.ireturn, 1) := by decide +kernel
theorem d13_0 : decode jdk_33_method_48_code 0 = .ok (.iload_n 0, 1) := by decide +kernel
theorem d13_1 : decode jdk_33_method_48_code 1 = .ok (.iconst (-1), 1) := by decide +kernel
theorem d13_2 : decode jdk_33_method_48_code 2 = .ok (.ixor, 1) := by decide +kernel
theorem d13_3 : decode jdk_33_method_48_code 3 = .ok (.iload_n 0, 1) := by decide +kernel
theorem d13_4 : decode jdk_33_method_48_code 4 = .ok (.iconst 1, 1) := by decide +kernel
theorem d13_5 : decode jdk_33_method_48_code 5 = .ok (.isub, 1) := by decide +kernel
theorem d13_6 : decode jdk_33_method_48_code 6 = .ok (.iand, 1) := by decide +kernel
theorem d13_7 : decode jdk_33_method_48_code 7 = .ok (.istore_n 0, 1) := by decide +kernel
theorem d13_8 : decode jdk_33_method_48_code 8 = .ok (.iload_n 0, 1) := by decide +kernel
theorem d13_9 : decode jdk_33_method_48_code 9 = .ok (.ifCond .gt 8, 3) := by decide +kernel
theorem d13_12 : decode jdk_33_method_48_code 12 = .ok (.iload_n 0, 1) := by decide +kernel
theorem d13_13 : decode jdk_33_method_48_code 13 = .ok (.bipush 32, 2) := by decide +kernel
theorem d13_15 : decode jdk_33_method_48_code 15 = .ok (.iand, 1) := by decide +kernel
theorem d13_16 : decode jdk_33_method_48_code 16 = .ok (.ireturn, 1) := by decide +kernel
theorem d13_17 : decode jdk_33_method_48_code 17 = .ok (.iconst 1, 1) := by decide +kernel
theorem d13_18 : decode jdk_33_method_48_code 18 = .ok (.istore_n 1, 1) := by decide +kernel
theorem d13_19 : decode jdk_33_method_48_code 19 = .ok (.iload_n 0, 1) := by decide +kernel
theorem d13_20 : decode jdk_33_method_48_code 20 = .ok (.ldc_w 264, 3) := by decide +kernel
theorem d13_23 : decode jdk_33_method_48_code 23 = .ok (.if_icmp .le 11, 3) := by decide +kernel
theorem d13_26 : decode jdk_33_method_48_code 26 = .ok (.iinc 1 16, 3) := by decide +kernel
theorem d13_29 : decode jdk_33_method_48_code 29 = .ok (.iload_n 0, 1) := by decide +kernel
theorem d13_30 : decode jdk_33_method_48_code 30 = .ok (.bipush 16, 2) := by decide +kernel
theorem d13_32 : decode jdk_33_method_48_code 32 = .ok (.iushr, 1) := by decide +kernel
theorem d13_33 : decode jdk_33_method_48_code 33 = .ok (.istore_n 0, 1) := by decide +kernel
theorem d13_34 : decode jdk_33_method_48_code 34 = .ok (.iload_n 0, 1) := by decide +kernel
theorem d13_35 : decode jdk_33_method_48_code 35 = .ok (.sipush 256, 3) := by decide +kernel
theorem d13_38 : decode jdk_33_method_48_code 38 = .ok (.if_icmp .le 11, 3) := by decide +kernel
theorem d13_41 : decode jdk_33_method_48_code 41 = .ok (.iinc 1 8, 3) := by decide +kernel
theorem d13_44 : decode jdk_33_method_48_code 44 = .ok (.iload_n 0, 1) := by decide +kernel
theorem d13_45 : decode jdk_33_method_48_code 45 = .ok (.bipush 8, 2) := by decide +kernel
theorem d13_47 : decode jdk_33_method_48_code 47 = .ok (.iushr, 1) := by decide +kernel
theorem d13_48 : decode jdk_33_method_48_code 48 = .ok (.istore_n 0, 1) := by decide +kernel
theorem d13_49 : decode jdk_33_method_48_code 49 = .ok (.iload_n 0, 1) := by decide +kernel
theorem d13_50 : decode jdk_33_method_48_code 50 = .ok (.bipush 16, 2) := by decide +kernel
theorem d13_52 : decode jdk_33_method_48_code 52 = .ok (.if_icmp .le 10, 3) := by decide +kernel
theorem d13_55 : decode jdk_33_method_48_code 55 = .ok (.iinc 1 4, 3) := by decide +kernel
theorem d13_58 : decode jdk_33_method_48_code 58 = .ok (.iload_n 0, 1) := by decide +kernel
theorem d13_59 : decode jdk_33_method_48_code 59 = .ok (.iconst 4, 1) := by decide +kernel
theorem d13_60 : decode jdk_33_method_48_code 60 = .ok (.iushr, 1) := by decide +kernel
theorem d13_61 : decode jdk_33_method_48_code 61 = .ok (.istore_n 0, 1) := by decide +kernel
theorem d13_62 : decode jdk_33_method_48_code 62 = .ok (.iload_n 0, 1) := by decide +kernel
theorem d13_63 : decode jdk_33_method_48_code 63 = .ok (.iconst 4, 1) := by decide +kernel
theorem d13_64 : decode jdk_33_method_48_code 64 = .ok (.if_icmp .le 10, 3) := by decide +kernel
theorem d13_67 : decode jdk_33_method_48_code 67 = .ok (.iinc 1 2, 3) := by decide +kernel
theorem d13_70 : decode jdk_33_method_48_code 70 = .ok (.iload_n 0, 1) := by decide +kernel
theorem d13_71 : decode jdk_33_method_48_code 71 = .ok (.iconst 2, 1) := by decide +kernel
theorem d13_72 : decode jdk_33_method_48_code 72 = .ok (.iushr, 1) := by decide +kernel
theorem d13_73 : decode jdk_33_method_48_code 73 = .ok (.istore_n 0, 1) := by decide +kernel
theorem d13_74 : decode jdk_33_method_48_code 74 = .ok (.iload_n 1, 1) := by decide +kernel
theorem d13_75 : decode jdk_33_method_48_code 75 = .ok (.iload_n 0, 1) := by decide +kernel
theorem d13_76 : decode jdk_33_method_48_code 76 = .ok (.iconst 1, 1) := by decide +kernel
theorem d13_77 : decode jdk_33_method_48_code 77 = .ok (.iushr, 1) := by decide +kernel
theorem d13_78 : decode jdk_33_method_48_code 78 = .ok (.iadd, 1) := by decide +kernel
theorem d13_79 : decode jdk_33_method_48_code 79 = .ok (.ireturn, 1) := by decide +kernel
theorem d15_0 : decode jdk_92_method_23_code 0 = .ok (.iload_n 1, 1) := by decide +kernel
theorem d15_1 : decode jdk_92_method_23_code 1 = .ok (.ifCond .ge 30, 3) := by decide +kernel
theorem d15_4 : decode jdk_92_method_23_code 4 = .ok (.new 142, 3) := by decide +kernel
theorem d15_7 : decode jdk_92_method_23_code 7 = .ok (.dup, 1) := by decide +kernel
theorem d15_8 : decode jdk_92_method_23_code 8 = .ok (.new 33, 3) := by decide +kernel
theorem d15_11 : decode jdk_92_method_23_code 11 = .ok (.dup, 1) := by decide +kernel
theorem d15_12 : decode jdk_92_method_23_code 12 = .ok (.invokespecial 35, 3) := by decide +kernel
theorem d15_15 : decode jdk_92_method_23_code 15 = .ok (.ldc 153, 2) := by decide +kernel
theorem d15_17 : decode jdk_92_method_23_code 17 = .ok (.invokevirtual 38, 3) := by decide +kernel
theorem d15_20 : decode jdk_92_method_23_code 20 = .ok (.iload_n 1, 1) := by decide +kernel
theorem d15_21 : decode jdk_92_method_23_code 21 = .ok (.invokevirtual 42, 3) := by decide +kernel
theorem d15_24 : decode jdk_92_method_23_code 24 = .ok (.invokevirtual 45, 3) := by decide +kernel
theorem d15_27 : decode jdk_92_method_23_code 27 = .ok (.invokespecial 146, 3) := by decide +kernel
theorem d15_30 : decode jdk_92_method_23_code 30 = .ok (.athrow, 1) := by decide +kernel
theorem d15_31 : decode jdk_92_method_23_code 31 = .ok (.iload_n 1, 1) := by decide +kernel
theorem d15_32 : decode jdk_92_method_23_code 32 = .ok (.invokestatic 52, 3) := by decide +kernel
theorem d15_35 : decode jdk_92_method_23_code 35 = .ok (.istore_n 2, 1) := by decide +kernel
theorem d15_36 : decode jdk_92_method_23_code 36 = .ok (.iload_n 2, 1) := by decide +kernel
theorem d15_37 : decode jdk_92_method_23_code 37 = .ok (.aload_n 0, 1) := by decide +kernel
theorem d15_38 : decode jdk_92_method_23_code 38 = .ok (.getfield 7, 3) := by decide +kernel
theorem d15_41 : decode jdk_92_method_23_code 41 = .ok (.if_icmp .lt 4, 3) := by decide +kernel
theorem d15_44 : decode jdk_92_method_23_code 44 = .ok (.return_, 1) := by decide +kernel
theorem d15_45 : decode jdk_92_method_23_code 45 = .ok (.aload_n 0, 1) := by decide +kernel
theorem d15_46 : decode jdk_92_method_23_code 46 = .ok (.getfield 11, 3) := by decide +kernel
theorem d15_49 : decode jdk_92_method_23_code 49 = .ok (.iload_n 2, 1) := by decide +kernel
theorem d15_50 : decode jdk_92_method_23_code 50 = .ok (.dup2, 1) := by decide +kernel
theorem d15_51 : decode jdk_92_method_23_code 51 = .ok (.laload, 1) := by decide +kernel
theorem d15_52 : decode jdk_92_method_23_code 52 = .ok (.lconst 1, 1) := by decide +kernel
theorem d15_53 : decode jdk_92_method_23_code 53 = .ok (.iload_n 1, 1) := by decide +kernel
theorem d15_54 : decode jdk_92_method_23_code 54 = .ok (.lshl, 1) := by decide +kernel
theorem d15_55 : decode jdk_92_method_23_code 55 = .ok (.ldc2_w 165, 3) := by decide +kernel
theorem d15_58 : decode jdk_92_method_23_code 58 = .ok (.lxor, 1) := by decide +kernel
theorem d15_59 : decode jdk_92_method_23_code 59 = .ok (.land, 1) := by decide +kernel
theorem d15_60 : decode jdk_92_method_23_code 60 = .ok (.lastore, 1) := by decide +kernel
theorem d15_61 : decode jdk_92_method_23_code 61 = .ok (.aload_n 0, 1) := by decide +kernel
theorem d15_62 : decode jdk_92_method_23_code 62 = .ok (.invokevirtual 158, 3) := by decide +kernel
theorem d15_65 : decode jdk_92_method_23_code 65 = .ok (.aload_n 0, 1) := by decide +kernel
theorem d15_66 : decode jdk_92_method_23_code 66 = .ok (.invokevirtual 56, 3) := by decide +kernel
theorem d15_69 : decode jdk_92_method_23_code 69 = .ok (.return_, 1) := by decide +kernel
theorem d16_0 : decode jdk_92_method_3_code 0 = .ok (.aload_n 0, 1) := by decide +kernel
theorem d16_1 : decode jdk_92_method_3_code 1 = .ok (.getfield 7, 3) := by decide +kernel
theorem d16_4 : decode jdk_92_method_3_code 4 = .ok (.iconst 1, 1) := by decide +kernel
theorem d16_5 : decode jdk_92_method_3_code 5 = .ok (.isub, 1) := by decide +kernel
theorem d16_6 : decode jdk_92_method_3_code 6 = .ok (.istore_n 1, 1) := by decide +kernel
theorem d16_7 : decode jdk_92_method_3_code 7 = .ok (.iload_n 1, 1) := by decide +kernel
theorem d16_8 : decode jdk_92_method_3_code 8 = .ok (.ifCond .lt 23, 3) := by decide +kernel
theorem d16_11 : decode jdk_92_method_3_code 11 = .ok (.aload_n 0, 1) := by decide +kernel
theorem d16_12 : decode jdk_92_method_3_code 12 = .ok (.getfield 11, 3) := by decide +kernel
theorem d16_15 : decode jdk_92_method_3_code 15 = .ok (.iload_n 1, 1) := by decide +kernel
theorem d16_16 : decode jdk_92_method_3_code 16 = .ok (.laload, 1) := by decide +kernel
theorem d16_17 : decode jdk_92_method_3_code 17 = .ok (.lconst 0, 1) := by decide +kernel
theorem d16_18 : decode jdk_92_method_3_code 18 = .ok (.lcmp, 1) := by decide +kernel
theorem d16_19 : decode jdk_92_method_3_code 19 = .ok (.ifCond .eq 6, 3) := by decide +kernel
theorem d16_22 : decode jdk_92_method_3_code 22 = .ok (.goto 9, 3) := by decide +kernel
theorem d16_25 : decode jdk_92_method_3_code 25 = .ok (.iinc 1 (-1), 3) := by decide +kernel
theorem d16_28 : decode jdk_92_method_3_code 28 = .ok (.goto (-21), 3) := by decide +kernel
theorem d16_31 : decode jdk_92_method_3_code 31 = .ok (.aload_n 0, 1) := by decide +kernel
theorem d16_32 : decode jdk_92_method_3_code 32 = .ok (.iload_n 1, 1) := by decide +kernel
theorem d16_33 : decode jdk_92_method_3_code 33 = .ok (.iconst 1, 1) := by decide +kernel
theorem d16_34 : decode jdk_92_method_3_code 34 = .ok (.iadd, 1) := by decide +kernel
theorem d16_35 : decode jdk_92_method_3_code 35 = .ok (.putfield 7, 3) := by decide +kernel
theorem d16_38 : decode jdk_92_method_3_code 38 = .ok (.return_, 1) := by decide +kernel
theorem d17_0 : decode jdk_29_method_69_code 0 = .ok (.iload_n 0, 1) := by decide +kernel
theorem d17_1 : decode jdk_29_method_69_code 1 = .ok (.iload_n 1, 1) := by decide +kernel
theorem d17_2 : decode jdk_29_method_69_code 2 = .ok (.if_icmp .gt 7, 3) := by decide +kernel
theorem d17_5 : decode jdk_29_method_69_code 5 = .ok (.iload_n 0, 1) := by decide +kernel
theorem d17_6 : decode jdk_29_method_69_code 6 = .ok (.goto 4, 3) := by decide +kernel
theorem d17_9 : decode jdk_29_method_69_code 9 = .ok (.iload_n 1, 1) := by decide +kernel
theorem d17_10 : decode jdk_29_method_69_code 10 = .ok (.ireturn, 1) := by decide +kernel
theorem d23_0 : decode jdk_29_method_65_code 0 = .ok (.iload_n 0, 1) := by decide +kernel
theorem d23_1 : decode jdk_29_method_65_code 1 = .ok (.iload_n 1, 1) := by decide +kernel
theorem d23_2 : decode jdk_29_method_65_code 2 = .ok (.if_icmp .lt 7, 3) := by decide +kernel
theorem d23_5 : decode jdk_29_method_65_code 5 = .ok (.iload_n 0, 1) := by decide +kernel
theorem d23_6 : decode jdk_29_method_65_code 6 = .ok (.goto 4, 3) := by decide +kernel
theorem d23_9 : decode jdk_29_method_65_code 9 = .ok (.iload_n 1, 1) := by decide +kernel
theorem d23_10 : decode jdk_29_method_65_code 10 = .ok (.ireturn, 1) := by decide +kernel
theorem d21_0 : decode jdk_92_method_26_code 0 = .ok (.iload_n 1, 1) := by decide +kernel
theorem d21_1 : decode jdk_92_method_26_code 1 = .ok (.ifCond .ge 30, 3) := by decide +kernel
theorem d21_4 : decode jdk_92_method_26_code 4 = .ok (.new 142, 3) := by decide +kernel
theorem d21_7 : decode jdk_92_method_26_code 7 = .ok (.dup, 1) := by decide +kernel
theorem d21_8 : decode jdk_92_method_26_code 8 = .ok (.new 33, 3) := by decide +kernel
theorem d21_11 : decode jdk_92_method_26_code 11 = .ok (.dup, 1) := by decide +kernel
theorem d21_12 : decode jdk_92_method_26_code 12 = .ok (.invokespecial 35, 3) := by decide +kernel
theorem d21_15 : decode jdk_92_method_26_code 15 = .ok (.ldc 153, 2) := by decide +kernel
theorem d21_17 : decode jdk_92_method_26_code 17 = .ok (.invokevirtual 38, 3) := by decide +kernel
theorem d21_20 : decode jdk_92_method_26_code 20 = .ok (.iload_n 1, 1) := by decide +kernel
theorem d21_21 : decode jdk_92_method_26_code 21 = .ok (.invokevirtual 42, 3) := by decide +kernel
theorem d21_24 : decode jdk_92_method_26_code 24 = .ok (.invokevirtual 45, 3) := by decide +kernel
theorem d21_27 : decode jdk_92_method_26_code 27 = .ok (.invokespecial 146, 3) := by decide +kernel
theorem d21_30 : decode jdk_92_method_26_code 30 = .ok (.athrow, 1) := by decide +kernel
theorem d21_31 : decode jdk_92_method_26_code 31 = .ok (.aload_n 0, 1) := by decide +kernel
theorem d21_32 : decode jdk_92_method_26_code 32 = .ok (.invokevirtual 56, 3) := by decide +kernel
theorem d21_35 : decode jdk_92_method_26_code 35 = .ok (.iload_n 1, 1) := by decide +kernel
theorem d21_36 : decode jdk_92_method_26_code 36 = .ok (.invokestatic 52, 3) := by decide +kernel
theorem d21_39 : decode jdk_92_method_26_code 39 = .ok (.istore_n 2, 1) := by decide +kernel
theorem d21_40 : decode jdk_92_method_26_code 40 = .ok (.iload_n 2, 1) := by decide +kernel
theorem d21_41 : decode jdk_92_method_26_code 41 = .ok (.aload_n 0, 1) := by decide +kernel
theorem d21_42 : decode jdk_92_method_26_code 42 = .ok (.getfield 7, 3) := by decide +kernel
theorem d21_45 : decode jdk_92_method_26_code 45 = .ok (.if_icmp .ge 22, 3) := by decide +kernel
theorem d21_48 : decode jdk_92_method_26_code 48 = .ok (.aload_n 0, 1) := by decide +kernel
theorem d21_49 : decode jdk_92_method_26_code 49 = .ok (.getfield 11, 3) := by decide +kernel
theorem d21_52 : decode jdk_92_method_26_code 52 = .ok (.iload_n 2, 1) := by decide +kernel
theorem d21_53 : decode jdk_92_method_26_code 53 = .ok (.laload, 1) := by decide +kernel
theorem d21_54 : decode jdk_92_method_26_code 54 = .ok (.lconst 1, 1) := by decide +kernel
theorem d21_55 : decode jdk_92_method_26_code 55 = .ok (.iload_n 1, 1) := by decide +kernel
theorem d21_56 : decode jdk_92_method_26_code 56 = .ok (.lshl, 1) := by decide +kernel
theorem d21_57 : decode jdk_92_method_26_code 57 = .ok (.land, 1) := by decide +kernel
theorem d21_58 : decode jdk_92_method_26_code 58 = .ok (.lconst 0, 1) := by decide +kernel
theorem d21_59 : decode jdk_92_method_26_code 59 = .ok (.lcmp, 1) := by decide +kernel
theorem d21_60 : decode jdk_92_method_26_code 60 = .ok (.ifCond .eq 7, 3) := by decide +kernel
theorem d21_63 : decode jdk_92_method_26_code 63 = .ok (.iconst 1, 1) := by decide +kernel
theorem d21_64 : decode jdk_92_method_26_code 64 = .ok (.goto 4, 3) := by decide +kernel
theorem d21_67 : decode jdk_92_method_26_code 67 = .ok (.iconst 0, 1) := by decide +kernel
theorem d21_68 : decode jdk_92_method_26_code 68 = .ok (.ireturn, 1) := by decide +kernel
def Sm (i : Int32) : Prop := i >>> ((6 : Int32) &&& 31) = 0 ∧ ¬ i < 0
instance (i : Int32) : Decidable (Sm i) := inferInstanceAs (Decidable (_ ∧ _))
def bitX (i : Int32) : Int64 := (1 : Int64) <<< (i &&& 0x3f).toInt64
def setX (x : Int64) (i : Int32) : Int64 := x ||| bitX i
def clrX (x : Int64) (i : Int32) : Int64 := x &&& (bitX i ^^^ (-1))
def ncW (x : Int64) (i : Int32) : Int64 := (x ^^^ (-1)) &&& ((-1 : Int64) <<< (i &&& 0x3f).toInt64)
def ush (x y : Int32) : Int32 := (x.toUInt32 >>> (y &&& 31).toUInt32).toInt32
def nz5 (a n : Int32) : Int32 := n + ush a 1
def nz4 (a n : Int32) : Int32 := if (4 : Int32) < a then nz5 (ush a 2) (n + 2) else nz5 a n
def nz3 (a n : Int32) : Int32 := if (16 : Int32) < a then nz4 (ush a 4) (n + 4) else nz4 a n
def nz2 (a n : Int32) : Int32 := if (256 : Int32) < a then nz3 (ush a 8) (n + 8) else nz3 a n
def nz1 (a n : Int32) : Int32 := if (65536 : Int32) < a then nz2 (ush a 16) (n + 16) else nz2 a n
def ntzI (i : Int32) : Int32 := if (0 : Int32) < ((i ^^^ (-1)) &&& (i - 1)) then nz1 ((i ^^^ (-1)) &&& (i - 1)) 1 else ((i ^^^ (-1)) &&& (i - 1)) &&& 32
def ntzL (x : Int64) : Int32 := if x.toInt32 = 0 then 32 + ntzI ((x.toUInt64 >>> ((32 : Int32) &&& 0x3f).toInt64.toUInt64).toInt64).toInt32 else ntzI x.toInt32
def ncb (x : Int64) (i : Int32) : Int32 := (0 : Int32) * 64 + ntzL (ncW x i)
def BS (Z : State) (h : Heap) (b t : Addr) (n : Int32) (x : Int64) : Prop := Exa Z h b "java/util/BitSet" ∧ Fld Z h b "java/util/BitSet" "words" "[J" (.ref t) ∧ Fld Z h b "java/util/BitSet" "wordsInUse" "I" (.int n) ∧ Ary Z h t .long 1 (fun _ => .long x) ∧ b ≠ t
theorem BS.ext {Z : State} {h h' : Heap} {b t : Addr} {n : Int32} {x : Int64} (B : BS Z h b t n x) (E : Ext h h') : BS Z h' b t n x := ⟨B.1.ext E, B.2.1.ext E, B.2.2.1.ext E, B.2.2.2.1.ext E, B.2.2.2.2⟩
theorem BS.other {Z : State} {h h' : Heap} {b t a : Addr} {n : Int32} {x : Int64} {sl : Nat} {v : Value} (B : BS Z h b t n x) (W : Wr h h' a sl v) (q1 : b ≠ a) (q2 : t ≠ a) : BS Z h' b t n x := ⟨B.1.wr W, B.2.1.other W (Or.inl q1), B.2.2.1.other W (Or.inl q1), B.2.2.2.1.other W q2, B.2.2.2.2⟩
theorem BS.keep {Z : State} {h h' : Heap} {b t : Addr} {n : Int32} {x : Int64} {ws : List Addr} (B : BS Z h b t n x) (K : Keep h h' ws) (q1 : b ∉ ws) (q2 : t ∉ ws) : BS Z h' b t n x := ⟨B.1.keep K, B.2.1.keep K q1, B.2.2.1.keep K q1, B.2.2.2.1.keep K q2, B.2.2.2.2⟩
set_option maxRecDepth 65536 in
set_option maxHeartbeats 40000000 in
theorem c_int {l : Launch} {Z : State} {a0 : Array Value} (hw : ∀ d ∈ tables_1, d.before a0 Z = true) {n0 : Nat} {h0 : Heap} {i : Int32} : Con l Z n0 (⟨"java/lang/Integer", "numberOfTrailingZeros", "(I)I"⟩ : MethodName) jdk_33_method_48_code 2 (some .int) ({ frames := 0, cells := 0, slots := 0, locals := 0 } : Room) [.int i] h0 [] (fun v h' => v = some (.int (ntzI i)) ∧ h' = h0) := by
  refine Con.of (Ls := [.val (.int i), .unset]) (by decide +kernel) (fun m => by first | (simp [entryFrame, mkF, argsToLocals, Value.category]; done) | (rcases ref_cases hrw with rfl | ⟨b, rfl⟩ <;> rfl) | rfl) (fun p e s m below meth c => ?_)
  show Wp false p l e ({ frames := 0, cells := 0, slots := 0, locals := 0 } : Room) s m ([.int i] : List Value).toArray below meth c Z "java/lang/Integer" "numberOfTrailingZeros" jdk_33_method_48_code 2 (some .int) n0 h0 [] (fun v h' => v = some (.int (ntzI i)) ∧ h' = h0) (fun _ => True) h0 0 0 0 [.val (.int i), .unset] []
  have j5 : ∀ a n : Int32, nz5 a n = ntzI i → Wp false p l e ({ frames := 0, cells := 0, slots := 0, locals := 0 } : Room) s m ([.int i] : List Value).toArray below meth c Z "java/lang/Integer" "numberOfTrailingZeros" jdk_33_method_48_code 2 (some .int) n0 h0 [] (fun v h' => v = some (.int (ntzI i)) ∧ h' = h0) (fun _ => True) h0 0 0 74 [.val (.int a), .val (.int n)] [] := by
    intro a n hq
    refine iload_n (q1 := 75) d13_74 rfl rfl ?_
    refine iload_n (q1 := 76) d13_75 rfl rfl ?_
    refine iconst (q1 := 77) (v := 1) d13_76 rfl rfl ?_
    refine iushr (q1 := 78) d13_77 rfl ?_
    refine iadd (q1 := 79) d13_78 rfl ?_
    refine ret_i d13_79 rfl rfl ⟨by rw [← hq]; rfl, rfl⟩
  have j4 : ∀ a n : Int32, nz4 a n = ntzI i → Wp false p l e ({ frames := 0, cells := 0, slots := 0, locals := 0 } : Room) s m ([.int i] : List Value).toArray below meth c Z "java/lang/Integer" "numberOfTrailingZeros" jdk_33_method_48_code 2 (some .int) n0 h0 [] (fun v h' => v = some (.int (ntzI i)) ∧ h' = h0) (fun _ => True) h0 0 0 62 [.val (.int a), .val (.int n)] [] := by
    intro a n hq
    unfold nz4 at hq
    refine iload_n (q1 := 63) d13_62 rfl rfl ?_
    refine iconst (q1 := 64) (v := 4) d13_63 rfl rfl ?_
    refine icmp_le (q1 := 67) (q := 74) d13_64 rfl ⟨by decide, rfl⟩ (fun hc => ?_) (fun hc => ?_)
    · rw [if_neg hc] at hq; exact j5 _ _ hq
    · rw [if_pos hc] at hq
      refine iinc (q1 := 70) (v := 2) d13_67 rfl rfl rfl ?_
      simp only [List.set_cons_zero, List.set_cons_succ]
      refine iload_n (q1 := 71) d13_70 rfl rfl ?_
      refine iconst (q1 := 72) (v := 2) d13_71 rfl rfl ?_
      refine iushr (q1 := 73) d13_72 rfl ?_
      refine istore_n (q1 := 74) (jj := 0) d13_73 rfl rfl rfl ?_
      simp only [List.set_cons_zero, List.set_cons_succ]
      exact j5 _ _ hq
  have j3 : ∀ a n : Int32, nz3 a n = ntzI i → Wp false p l e ({ frames := 0, cells := 0, slots := 0, locals := 0 } : Room) s m ([.int i] : List Value).toArray below meth c Z "java/lang/Integer" "numberOfTrailingZeros" jdk_33_method_48_code 2 (some .int) n0 h0 [] (fun v h' => v = some (.int (ntzI i)) ∧ h' = h0) (fun _ => True) h0 0 0 49 [.val (.int a), .val (.int n)] [] := by
    intro a n hq
    unfold nz3 at hq
    refine iload_n (q1 := 50) d13_49 rfl rfl ?_
    refine bipush (q1 := 52) (v := 16) d13_50 rfl rfl ?_
    refine icmp_le (q1 := 55) (q := 62) d13_52 rfl ⟨by decide, rfl⟩ (fun hc => ?_) (fun hc => ?_)
    · rw [if_neg hc] at hq; exact j4 _ _ hq
    · rw [if_pos hc] at hq
      refine iinc (q1 := 58) (v := 4) d13_55 rfl rfl rfl ?_
      simp only [List.set_cons_zero, List.set_cons_succ]
      refine iload_n (q1 := 59) d13_58 rfl rfl ?_
      refine iconst (q1 := 60) (v := 4) d13_59 rfl rfl ?_
      refine iushr (q1 := 61) d13_60 rfl ?_
      refine istore_n (q1 := 62) (jj := 0) d13_61 rfl rfl rfl ?_
      simp only [List.set_cons_zero, List.set_cons_succ]
      exact j4 _ _ hq
  have j2 : ∀ a n : Int32, nz2 a n = ntzI i → Wp false p l e ({ frames := 0, cells := 0, slots := 0, locals := 0 } : Room) s m ([.int i] : List Value).toArray below meth c Z "java/lang/Integer" "numberOfTrailingZeros" jdk_33_method_48_code 2 (some .int) n0 h0 [] (fun v h' => v = some (.int (ntzI i)) ∧ h' = h0) (fun _ => True) h0 0 0 34 [.val (.int a), .val (.int n)] [] := by
    intro a n hq
    unfold nz2 at hq
    refine iload_n (q1 := 35) d13_34 rfl rfl ?_
    refine sipush (q1 := 38) (v := 256) d13_35 rfl rfl ?_
    refine icmp_le (q1 := 41) (q := 49) d13_38 rfl ⟨by decide, rfl⟩ (fun hc => ?_) (fun hc => ?_)
    · rw [if_neg hc] at hq; exact j3 _ _ hq
    · rw [if_pos hc] at hq
      refine iinc (q1 := 44) (v := 8) d13_41 rfl rfl rfl ?_
      simp only [List.set_cons_zero, List.set_cons_succ]
      refine iload_n (q1 := 45) d13_44 rfl rfl ?_
      refine bipush (q1 := 47) (v := 8) d13_45 rfl rfl ?_
      refine iushr (q1 := 48) d13_47 rfl ?_
      refine istore_n (q1 := 49) (jj := 0) d13_48 rfl rfl rfl ?_
      simp only [List.set_cons_zero, List.set_cons_succ]
      exact j3 _ _ hq
  refine iload_n (q1 := 1) d13_0 rfl rfl ?_
  refine iconst (q1 := 2) (v := -1) d13_1 rfl rfl ?_
  refine ixor (q1 := 3) d13_2 rfl ?_
  refine iload_n (q1 := 4) d13_3 rfl rfl ?_
  refine iconst (q1 := 5) (v := 1) d13_4 rfl rfl ?_
  refine isub (q1 := 6) d13_5 rfl ?_
  refine iand (q1 := 7) d13_6 rfl ?_
  refine istore_n (q1 := 8) (jj := 0) d13_7 rfl rfl rfl ?_
  simp only [List.set_cons_zero, List.set_cons_succ]
  refine iload_n (q1 := 9) d13_8 rfl rfl ?_
  refine if_gt (q1 := 12) (q := 17) d13_9 rfl ⟨by decide, rfl⟩ (fun hc => ?_) (fun hc => ?_)
  · have hq : nz1 ((i ^^^ (-1)) &&& (i - 1)) 1 = ntzI i := by unfold ntzI; rw [if_pos hc]
    unfold nz1 at hq
    refine iconst (q1 := 18) (v := 1) d13_17 rfl rfl ?_
    refine istore_n (q1 := 19) (jj := 1) d13_18 rfl rfl rfl ?_
    simp only [List.set_cons_zero, List.set_cons_succ]
    refine iload_n (q1 := 20) d13_19 rfl rfl ?_
    refine ldcwI (q1 := 23) d13_20 rfl (ww hw 79 rfl) ?_
    refine icmp_le (q1 := 26) (q := 34) d13_23 rfl ⟨by decide, rfl⟩ (fun hd => ?_) (fun hd => ?_)
    · rw [if_neg hd] at hq; exact j2 _ _ hq
    · rw [if_pos hd] at hq
      refine iinc (q1 := 29) (v := 16) d13_26 rfl rfl rfl ?_
      simp only [List.set_cons_zero, List.set_cons_succ]
      refine iload_n (q1 := 30) d13_29 rfl rfl ?_
      refine bipush (q1 := 32) (v := 16) d13_30 rfl rfl ?_
      refine iushr (q1 := 33) d13_32 rfl ?_
      refine istore_n (q1 := 34) (jj := 0) d13_33 rfl rfl rfl ?_
      simp only [List.set_cons_zero, List.set_cons_succ]
      exact j2 _ _ hq
  · refine iload_n (q1 := 13) d13_12 rfl rfl ?_
    refine bipush (q1 := 15) (v := 32) d13_13 rfl rfl ?_
    refine iand (q1 := 16) d13_15 rfl ?_
    refine ret_i d13_16 rfl rfl ⟨by unfold ntzI; rw [if_neg hc], rfl⟩
set_option maxRecDepth 65536 in
set_option maxHeartbeats 40000000 in
theorem c_lnt {l : Launch} {Z : State} {a0 : Array Value} (hw : ∀ d ∈ tables_1, d.before a0 Z = true) {n0 : Nat} {h0 : Heap} {x : Int64} : Con l Z n0 (⟨"java/lang/Long", "numberOfTrailingZeros", "(J)I"⟩ : MethodName) jdk_35_method_49_code 3 (some .int) ({ frames := 1, cells := 0, slots := 0, locals := 14 } : Room) [.long x] h0 [] (fun v h' => v = some (.int (ntzL x)) ∧ h' = h0) := by
  refine Con.of (Ls := [.val (.long x), .second, .unset]) (by decide +kernel) (fun m => by first | (simp [entryFrame, mkF, argsToLocals, Value.category]; done) | (rcases ref_cases hrw with rfl | ⟨b, rfl⟩ <;> rfl) | rfl) (fun p e s m below meth c => ?_)
  show Wp false p l e ({ frames := 1, cells := 0, slots := 0, locals := 14 } : Room) s m ([.long x] : List Value).toArray below meth c Z "java/lang/Long" "numberOfTrailingZeros" jdk_35_method_49_code 3 (some .int) n0 h0 [] (fun v h' => v = some (.int (ntzL x)) ∧ h' = h0) (fun _ => True) h0 0 0 0 [.val (.long x), .second, .unset] []
  refine lload_n (q1 := 1) d12_0 rfl rfl ?_
  refine l2i (q1 := 2) d12_1 rfl ?_
  refine istore_n (q1 := 3) (jj := 2) d12_2 rfl rfl rfl ?_
  simp only [List.set_cons_zero, List.set_cons_succ]
  refine iload_n (q1 := 4) d12_3 rfl rfl ?_
  refine if_ne (q1 := 7) (q := 21) d12_4 rfl ⟨by decide, rfl⟩ (fun hc => ?_) (fun hc => ?_)
  · refine iload_n (q1 := 22) d12_21 rfl rfl ?_
    refine invokestatic (q1 := 25) d12_22 rfl (ww hw 75 rfl) (ww hw 76 rfl) (ww hw 77 rfl) (ww hw 78 rfl) (by decide) pd2 (c_int hw) rfl rfl rfl rfl all0 (fun v h1 q _ => ?_)
    obtain ⟨rfl, rfl⟩ := q
    refine ret_i d12_25 rfl rfl ⟨by unfold ntzL; rw [if_neg hc], rfl⟩
  · refine bipush (q1 := 9) (v := 32) d12_7 rfl rfl ?_
    refine lload_n (q1 := 10) d12_9 rfl rfl ?_
    refine bipush (q1 := 12) (v := 32) d12_10 rfl rfl ?_
    refine lushr (q1 := 13) d12_12 rfl ?_
    refine l2i (q1 := 14) d12_13 rfl ?_
    refine invokestatic (q1 := 17) d12_14 rfl (ww hw 75 rfl) (ww hw 76 rfl) (ww hw 77 rfl) (ww hw 78 rfl) (by decide) pd2 (c_int hw) rfl rfl rfl rfl all0 (fun v h1 q _ => ?_)
    obtain ⟨rfl, rfl⟩ := q
    refine iadd (q1 := 18) d12_17 rfl ?_
    refine goto (q := 25) d12_18 ⟨by decide, rfl⟩ ?_
    refine ret_i d12_25 rfl rfl ⟨by unfold ntzL; rw [if_pos hc], rfl⟩
set_option maxRecDepth 65536 in
set_option maxHeartbeats 40000000 in
theorem c_iw {l : Launch} {Z : State} {a0 : Array Value} (hw : ∀ d ∈ tables_1, d.before a0 Z = true) {n0 : Nat} {h0 : Heap} {b : Addr} {u1 u2 u3 : Value} (X : Exa Z h0 b "java/util/BitSet") (F1 : Fld Z h0 b "java/util/BitSet" "words" "[J" u1) (F2 : Fld Z h0 b "java/util/BitSet" "wordsInUse" "I" u2) (F3 : Fld Z h0 b "java/util/BitSet" "sizeIsSticky" "Z" u3) : Con l Z n0 (⟨"java/util/BitSet", "initWords", "(I)V"⟩ : MethodName) jdk_92_method_6_code 2 none ({ frames := 1, cells := 1, slots := 1, locals := 13 } : Room) [.ref b, .int 64] h0 [b] (fun v h' => v = none ∧ Exa Z h' b "java/util/BitSet" ∧ Fld Z h' b "java/util/BitSet" "words" "[J" (.ref h0.size) ∧ Fld Z h' b "java/util/BitSet" "wordsInUse" "I" u2 ∧ Fld Z h' b "java/util/BitSet" "sizeIsSticky" "Z" u3 ∧ Ary Z h' h0.size .long 1 (fun _ => .long 0)) := by
  refine Con.of (Ls := [.val (.ref b), .val (.int 64)]) (by decide +kernel) (fun m => by first | (simp [entryFrame, mkF, argsToLocals, Value.category]; done) | (rcases ref_cases hrw with rfl | ⟨b, rfl⟩ <;> rfl) | rfl) (fun p e s m below meth c => ?_)
  show Wp false p l e ({ frames := 1, cells := 1, slots := 1, locals := 13 } : Room) s m ([.ref b, .int 64] : List Value).toArray below meth c Z "java/util/BitSet" "initWords" jdk_92_method_6_code 2 none n0 h0 [b] (fun v h' => v = none ∧ Exa Z h' b "java/util/BitSet" ∧ Fld Z h' b "java/util/BitSet" "words" "[J" (.ref h0.size) ∧ Fld Z h' b "java/util/BitSet" "wordsInUse" "I" u2 ∧ Fld Z h' b "java/util/BitSet" "sizeIsSticky" "Z" u3 ∧ Ary Z h' h0.size .long 1 (fun _ => .long 0)) (fun _ => True) h0 0 0 0 [.val (.ref b), .val (.int 64)] []
  refine aload_n (q1 := 1) d4_0 rfl rfl rfl ?_
  refine iload_n (q1 := 2) d4_1 rfl rfl ?_
  refine iconst (q1 := 3) (v := 1) d4_2 rfl rfl ?_
  refine isub (q1 := 4) d4_3 rfl ?_
  refine invokestatic (q1 := 7) d4_4 rfl (ww hw 32 rfl) (ww hw 33 rfl) (ww hw 18 rfl) (ww hw 34 rfl) (by decide) pd2 (c_bwi hw) rfl rfl rfl rfl all0 (fun v h1 q _ => ?_)
  obtain ⟨rfl, rfl⟩ := q
  refine iconst (q1 := 8) (v := 1) d4_7 rfl rfl ?_
  refine iadd (q1 := 9) d4_8 rfl ?_
  refine newarray (q1 := 11) (len := 1) (cap := 1) d4_9 rfl (ww hw 35 rfl) rfl (by decide) (by decide) (by decide) (by decide) (fun S9 h9 E9 A9 => ?_)
  refine putfield (q1 := 14) d4_11 rfl (ww hw 36 rfl) Via.refl (F1.ext E9) (X.ext E9) (Or.inl (ww hw 37 rfl)) (ww hw 17 rfl) (ty := (.array .long)) (by decide) rfl rfl (Or.inl own_in1) (fun h11 W11 => ?_)
  refine ret_v d4_14 rfl rfl ⟨rfl, (X.ext E9).wr W11, (F1.ext E9).same W11, (F2.ext E9).other W11 (Or.inr (slot_ne (Or.inl (ww hw 24 rfl)) (Or.inl (ww hw 37 rfl)) (by decide) (t := .int) (t' := (.array .long)) (by decide) (by decide))), (F3.ext E9).other W11 (Or.inr (slot_ne (Or.inl (ww hw 26 rfl)) (Or.inl (ww hw 37 rfl)) (by decide) (t := .boolean) (t' := (.array .long)) (by decide) (by decide))), A9.other W11 (Nat.ne_of_gt X.lt)⟩
set_option maxRecDepth 65536 in
set_option maxHeartbeats 40000000 in
theorem c_bi {l : Launch} {Z : State} {a0 : Array Value} (hw : ∀ d ∈ tables_1, d.before a0 Z = true) {n0 : Nat} {h0 : Heap} {b : Addr} {u1 u2 u3 : Value} (X : Exa Z h0 b "java/util/BitSet") (F1 : Fld Z h0 b "java/util/BitSet" "words" "[J" u1) (F2 : Fld Z h0 b "java/util/BitSet" "wordsInUse" "I" u2) (F3 : Fld Z h0 b "java/util/BitSet" "sizeIsSticky" "Z" u3) : Con l Z n0 (⟨"java/util/BitSet", "<init>", "()V"⟩ : MethodName) jdk_92_method_4_code 1 none ({ frames := 2, cells := 1, slots := 1, locals := 26 } : Room) [.ref b] h0 [b] (fun v h' => v = none ∧ BS Z h' b h0.size 0 0) := by
  refine Con.of (Ls := [.val (.ref b)]) (by decide +kernel) (fun m => by first | (simp [entryFrame, mkF, argsToLocals, Value.category]; done) | (rcases ref_cases hrw with rfl | ⟨b, rfl⟩ <;> rfl) | rfl) (fun p e s m below meth c => ?_)
  show Wp false p l e ({ frames := 2, cells := 1, slots := 1, locals := 26 } : Room) s m ([.ref b] : List Value).toArray below meth c Z "java/util/BitSet" "<init>" jdk_92_method_4_code 1 none n0 h0 [b] (fun v h' => v = none ∧ BS Z h' b h0.size 0 0) (fun _ => True) h0 0 0 0 [.val (.ref b)] []
  refine aload_n (q1 := 1) d3_0 rfl rfl rfl ?_
  refine initObj (q1 := 4) d3_1 rfl (ww hw 22 rfl) (ww hw 9 rfl) (ww hw 10 rfl) rfl rfl ?_
  refine aload_n (q1 := 5) d3_4 rfl rfl rfl ?_
  refine iconst (q1 := 6) (v := 0) d3_5 rfl rfl ?_
  refine putfield (q1 := 9) d3_6 rfl (ww hw 23 rfl) Via.refl (F2) (X) (Or.inl (ww hw 24 rfl)) (ww hw 17 rfl) (ty := .int) (by decide) rfl rfl (Or.inl own_in1) (fun h6 W6 => ?_)
  have f1 := F1.other W6 (Or.inr (slot_ne (Or.inl (ww hw 37 rfl)) (Or.inl (ww hw 24 rfl)) (by decide) (t := (.array .long)) (t' := .int) (by decide) (by decide)))
  have f3 := F3.other W6 (Or.inr (slot_ne (Or.inl (ww hw 26 rfl)) (Or.inl (ww hw 24 rfl)) (by decide) (t := .boolean) (t' := .int) (by decide) (by decide)))
  refine aload_n (q1 := 10) d3_9 rfl rfl rfl ?_
  refine iconst (q1 := 11) (v := 0) d3_10 rfl rfl ?_
  refine putfieldN (q1 := 14) d3_11 rfl (ww hw 25 rfl) Via.refl (f3) (X.wr W6) (Or.inl (ww hw 26 rfl)) (ww hw 17 rfl) (ty := .boolean) (by decide) rfl (fits_nar_bool _) (Or.inl own_in1) (fun h11 W11 => ?_)
  refine aload_n (q1 := 15) d3_14 rfl rfl rfl ?_
  refine bipush (q1 := 17) (v := 64) d3_15 rfl rfl ?_
  refine invokepriv (q1 := 20) d3_17 rfl (ww hw 27 rfl) (ww hw 28 rfl) (ww hw 17 rfl) (ww hw 29 rfl) (ww hw 18 rfl) (ww hw 31 rfl) (by decide) pd0 ((X.wr W6).wr W11) (c_iw hw ((X.wr W6).wr W11) (f1.other W11 (Or.inr (slot_ne (Or.inl (ww hw 37 rfl)) (Or.inl (ww hw 26 rfl)) (by decide) (t := (.array .long)) (t' := .boolean) (by decide) (by decide)))) ((F2.same W6).other W11 (Or.inr (slot_ne (Or.inl (ww hw 24 rfl)) (Or.inl (ww hw 26 rfl)) (by decide) (t := .int) (t' := .boolean) (by decide) (by decide)))) (f3.same W11)) rfl rfl rfl rfl (allS (Or.inl own_in1) all0) (fun v h1 q K => ?_)
  obtain ⟨rfl, X1, G1, G2, G3, A1⟩ := q
  refine aload_n (q1 := 21) d3_20 rfl rfl rfl ?_
  refine iconst (q1 := 22) (v := 0) d3_21 rfl rfl ?_
  refine putfieldN (q1 := 25) d3_22 rfl (ww hw 25 rfl) Via.refl (G3) (X1) (Or.inl (ww hw 26 rfl)) (ww hw 17 rfl) (ty := .boolean) (by decide) rfl (fits_nar_bool _) (Or.inl own_in1) (fun h22 W22 => ?_)
  have e1 : h11.size = h0.size := by rw [W11.size, W6.size]
  rw [e1] at G1 A1
  have ne : h0.size ≠ b := Nat.ne_of_gt X.lt
  refine ret_v d3_25 rfl rfl ⟨rfl, X1.wr W22, G1.other W22 (Or.inr (slot_ne (Or.inl (ww hw 37 rfl)) (Or.inl (ww hw 26 rfl)) (by decide) (t := (.array .long)) (t' := .boolean) (by decide) (by decide))), G2.other W22 (Or.inr (slot_ne (Or.inl (ww hw 24 rfl)) (Or.inl (ww hw 26 rfl)) (by decide) (t := .int) (t' := .boolean) (by decide) (by decide))), A1.other W22 ne, Ne.symm ne⟩
set_option maxRecDepth 65536 in
set_option maxHeartbeats 40000000 in
theorem c_ens {l : Launch} {Z : State} {a0 : Array Value} (hw : ∀ d ∈ tables_1, d.before a0 Z = true) {n0 : Nat} {h0 : Heap} {b t : Addr} {n : Int32} {x : Int64} (B : BS Z h0 b t n x) : Con l Z n0 (⟨"java/util/BitSet", "ensureCapacity", "(I)V"⟩ : MethodName) jdk_92_method_14_code 3 none ({ frames := 0, cells := 0, slots := 0, locals := 0 } : Room) [.ref b, .int 1] h0 [] (fun v h' => v = none ∧ h' = h0) := by
  refine Con.of (Ls := [.val (.ref b), .val (.int 1), .unset]) (by decide +kernel) (fun m => by first | (simp [entryFrame, mkF, argsToLocals, Value.category]; done) | (rcases ref_cases hrw with rfl | ⟨b, rfl⟩ <;> rfl) | rfl) (fun p e s m below meth c => ?_)
  show Wp false p l e ({ frames := 0, cells := 0, slots := 0, locals := 0 } : Room) s m ([.ref b, .int 1] : List Value).toArray below meth c Z "java/util/BitSet" "ensureCapacity" jdk_92_method_14_code 3 none n0 h0 [] (fun v h' => v = none ∧ h' = h0) (fun _ => True) h0 0 0 0 [.val (.ref b), .val (.int 1), .unset] []
  refine aload_n (q1 := 1) d9_0 rfl rfl rfl ?_
  refine getfield (q1 := 4) d9_1 rfl (ww hw 36 rfl) Via.refl (B.2.1) ?_
  refine arraylength (q1 := 5) (z := 1) d9_4 rfl (B.2.2.2.1) rfl ?_
  refine iload_n (q1 := 6) d9_5 rfl rfl ?_
  refine icmp_ge (q1 := 9) (q := 38) d9_6 rfl ⟨by decide, rfl⟩ (fun _ => ?_) (fun hq => absurd hq (by decide))
  refine ret_v d9_38 rfl rfl ⟨rfl, rfl⟩
set_option maxRecDepth 65536 in
set_option maxHeartbeats 40000000 in
theorem c_exp {l : Launch} {Z : State} {a0 : Array Value} (hw : ∀ d ∈ tables_1, d.before a0 Z = true) {n0 : Nat} {h0 : Heap} {b t : Addr} {n : Int32} {x : Int64} (B : BS Z h0 b t n x) (hn : n = 0 ∨ n = 1) : Con l Z n0 (⟨"java/util/BitSet", "expandTo", "(I)V"⟩ : MethodName) jdk_92_method_15_code 3 none ({ frames := 1, cells := 0, slots := 0, locals := 14 } : Room) [.ref b, .int 0] h0 [b] (fun v h' => v = none ∧ BS Z h' b t 1 x) := by
  refine Con.of (Ls := [.val (.ref b), .val (.int 0), .unset]) (by decide +kernel) (fun m => by first | (simp [entryFrame, mkF, argsToLocals, Value.category]; done) | (rcases ref_cases hrw with rfl | ⟨b, rfl⟩ <;> rfl) | rfl) (fun p e s m below meth c => ?_)
  show Wp false p l e ({ frames := 1, cells := 0, slots := 0, locals := 14 } : Room) s m ([.ref b, .int 0] : List Value).toArray below meth c Z "java/util/BitSet" "expandTo" jdk_92_method_15_code 3 none n0 h0 [b] (fun v h' => v = none ∧ BS Z h' b t 1 x) (fun _ => True) h0 0 0 0 [.val (.ref b), .val (.int 0), .unset] []
  refine iload_n (q1 := 1) d8_0 rfl rfl ?_
  refine iconst (q1 := 2) (v := 1) d8_1 rfl rfl ?_
  refine iadd (q1 := 3) d8_2 rfl ?_
  refine istore_n (q1 := 4) (jj := 2) d8_3 rfl rfl rfl ?_
  simp only [List.set_cons_zero, List.set_cons_succ]
  refine aload_n (q1 := 5) d8_4 rfl rfl rfl ?_
  refine getfield (q1 := 8) d8_5 rfl (ww hw 23 rfl) Via.refl (B.2.2.1) ?_
  refine iload_n (q1 := 9) d8_8 rfl rfl ?_
  rcases hn with rfl | rfl
  · refine icmp_ge (q1 := 12) (q := 22) d8_9 rfl ⟨by decide, rfl⟩ (fun hq => absurd (by decide) hq) (fun _ => ?_)
    refine aload_n (q1 := 13) d8_12 rfl rfl rfl ?_
    refine iload_n (q1 := 14) d8_13 rfl rfl ?_
    refine invokepriv (q1 := 17) d8_14 rfl (ww hw 54 rfl) (ww hw 55 rfl) (ww hw 17 rfl) (ww hw 56 rfl) (ww hw 18 rfl) (ww hw 58 rfl) (by decide) pd0 (B.1) (c_ens hw B) rfl rfl rfl rfl all0 (fun v h1 q _ => ?_)
    obtain ⟨rfl, rfl⟩ := q
    refine aload_n (q1 := 18) d8_17 rfl rfl rfl ?_
    refine iload_n (q1 := 19) d8_18 rfl rfl ?_
    refine putfield (q1 := 22) d8_19 rfl (ww hw 23 rfl) Via.refl (B.2.2.1) (B.1) (Or.inl (ww hw 24 rfl)) (ww hw 17 rfl) (ty := .int) (by decide) rfl rfl (Or.inl own_in1) (fun h19 W19 => ?_)
    refine ret_v d8_22 rfl rfl ⟨rfl, B.1.wr W19, B.2.1.other W19 (Or.inr (slot_ne (Or.inl (ww hw 37 rfl)) (Or.inl (ww hw 24 rfl)) (by decide) (t := (.array .long)) (t' := .int) (by decide) (by decide))), B.2.2.1.same W19, B.2.2.2.1.other W19 (Ne.symm B.2.2.2.2), B.2.2.2.2⟩
  · refine icmp_ge (q1 := 12) (q := 22) d8_9 rfl ⟨by decide, rfl⟩ (fun _ => ?_) (fun hq => absurd hq (by decide))
    refine ret_v d8_22 rfl rfl ⟨rfl, B⟩
set_option maxRecDepth 65536 in
set_option maxHeartbeats 40000000 in
theorem c_bse {l : Launch} {Z : State} {a0 : Array Value} (hw : ∀ d ∈ tables_1, d.before a0 Z = true) {n0 : Nat} {h0 : Heap} {b t : Addr} {n i : Int32} {x : Int64} (S : AOff Z) (B : BS Z h0 b t n x) (hn : n = 0 ∨ n = 1) (hs : Sm i) : Con l Z n0 (⟨"java/util/BitSet", "set", "(I)V"⟩ : MethodName) jdk_92_method_19_code 3 none ({ frames := 2, cells := 0, slots := 0, locals := 28 } : Room) [.ref b, .int i] h0 [b, t] (fun v h' => v = none ∧ BS Z h' b t 1 (setX x i)) := by
  refine Con.of (Ls := [.val (.ref b), .val (.int i), .unset]) (by decide +kernel) (fun m => by first | (simp [entryFrame, mkF, argsToLocals, Value.category]; done) | (rcases ref_cases hrw with rfl | ⟨b, rfl⟩ <;> rfl) | rfl) (fun p e s m below meth c => ?_)
  show Wp false p l e ({ frames := 2, cells := 0, slots := 0, locals := 28 } : Room) s m ([.ref b, .int i] : List Value).toArray below meth c Z "java/util/BitSet" "set" jdk_92_method_19_code 3 none n0 h0 [b, t] (fun v h' => v = none ∧ BS Z h' b t 1 (setX x i)) (fun _ => True) h0 0 0 0 [.val (.ref b), .val (.int i), .unset] []
  refine iload_n (q1 := 1) d7_0 rfl rfl ?_
  refine if_ge (q1 := 4) (q := 31) d7_1 rfl ⟨by decide, rfl⟩ (fun _ => ?_) (fun hq => absurd hq hs.2)
  refine iload_n (q1 := 32) d7_31 rfl rfl ?_
  refine invokestatic (q1 := 35) d7_32 rfl (ww hw 32 rfl) (ww hw 33 rfl) (ww hw 18 rfl) (ww hw 34 rfl) (by decide) pd2 (c_bwi hw) rfl rfl rfl rfl all0 (fun v h1 q _ => ?_)
  rw [hs.1] at q
  obtain ⟨rfl, rfl⟩ := q
  refine istore_n (q1 := 36) (jj := 2) d7_35 rfl rfl rfl ?_
  simp only [List.set_cons_zero, List.set_cons_succ]
  refine aload_n (q1 := 37) d7_36 rfl rfl rfl ?_
  refine iload_n (q1 := 38) d7_37 rfl rfl ?_
  refine invokepriv (q1 := 41) d7_38 rfl (ww hw 49 rfl) (ww hw 50 rfl) (ww hw 17 rfl) (ww hw 51 rfl) (ww hw 18 rfl) (ww hw 53 rfl) (by decide) pd0 (B.1) (c_exp hw B hn) rfl rfl rfl rfl (allS (Or.inl own_in1) all0) (fun v h1 q K => ?_)
  obtain ⟨rfl, B1⟩ := q
  refine aload_n (q1 := 42) d7_41 rfl rfl rfl ?_
  refine getfield (q1 := 45) d7_42 rfl (ww hw 36 rfl) Via.refl (B1.2.1) ?_
  refine iload_n (q1 := 46) d7_45 rfl rfl ?_
  refine dup2 (q1 := 47) d7_46 rfl rfl rfl ?_
  refine laload (q1 := 48) (i := 0) d7_47 rfl (B1.2.2.2.1) rfl (by decide) rfl ?_
  refine lconst (q1 := 49) (v := 1) d7_48 rfl rfl ?_
  refine iload_n (q1 := 50) d7_49 rfl rfl ?_
  refine lshl (q1 := 51) d7_50 rfl ?_
  refine lor (q1 := 52) d7_51 rfl ?_
  refine lastore (q1 := 53) (i := 0) d7_52 rfl (B1.2.2.2.1) rfl (by decide) (Or.inl (List.mem_cons_of_mem _ own_in1)) (fun h52 W52 => ?_)
  have B2 : BS Z h52 b t 1 (setX x i) := ⟨B1.1.wr W52, B1.2.1.other W52 (Or.inl B.2.2.2.2), B1.2.2.1.other W52 (Or.inl B.2.2.2.2), (B1.2.2.2.1.same W52).cong (fun j hj => by
    have e : j = 0 := (by omega)
    subst e; rfl), B.2.2.2.2⟩
  refine aload_n (q1 := 54) d7_53 rfl rfl rfl ?_
  refine invokepriv (q1 := 57) d7_54 rfl (ww hw 59 rfl) (ww hw 60 rfl) (ww hw 17 rfl) (ww hw 61 rfl) (ww hw 18 rfl) (ww hw 63 rfl) (by decide) pd1 (B2.1) (c_bci hw S) rfl rfl rfl rfl all0 (fun v h1 q K => ?_)
  obtain ⟨rfl, rfl⟩ := q
  refine ret_v d7_57 rfl rfl ⟨rfl, B2⟩
set_option maxRecDepth 65536 in
set_option maxHeartbeats 40000000 in
theorem c_ncb {l : Launch} {Z : State} {a0 : Array Value} (hw : ∀ d ∈ tables_1, d.before a0 Z = true) {n0 : Nat} {h0 : Heap} {b t : Addr} {i : Int32} {x : Int64} (S : AOff Z) (B : BS Z h0 b t 1 x) (hs : Sm i) (hz : ¬ lcmpW (ncW x i) 0 = 0) : Con l Z n0 (⟨"java/util/BitSet", "nextClearBit", "(I)I"⟩ : MethodName) jdk_92_method_29_code 5 (some .int) ({ frames := 2, cells := 0, slots := 0, locals := 29 } : Room) [.ref b, .int i] h0 [] (fun v h' => v = some (.int (ncb x i)) ∧ h' = h0) := by
  refine Con.of (Ls := [.val (.ref b), .val (.int i), .unset, .unset, .unset]) (by decide +kernel) (fun m => by first | (simp [entryFrame, mkF, argsToLocals, Value.category]; done) | (rcases ref_cases hrw with rfl | ⟨b, rfl⟩ <;> rfl) | rfl) (fun p e s m below meth c => ?_)
  show Wp false p l e ({ frames := 2, cells := 0, slots := 0, locals := 29 } : Room) s m ([.ref b, .int i] : List Value).toArray below meth c Z "java/util/BitSet" "nextClearBit" jdk_92_method_29_code 5 (some .int) n0 h0 [] (fun v h' => v = some (.int (ncb x i)) ∧ h' = h0) (fun _ => True) h0 0 0 0 [.val (.ref b), .val (.int i), .unset, .unset, .unset] []
  refine iload_n (q1 := 1) d11_0 rfl rfl ?_
  refine if_ge (q1 := 4) (q := 31) d11_1 rfl ⟨by decide, rfl⟩ (fun _ => ?_) (fun hq => absurd hq hs.2)
  refine aload_n (q1 := 32) d11_31 rfl rfl rfl ?_
  refine invokepriv (q1 := 35) d11_32 rfl (ww hw 59 rfl) (ww hw 60 rfl) (ww hw 17 rfl) (ww hw 61 rfl) (ww hw 18 rfl) (ww hw 63 rfl) (by decide) pd1 (B.1) (c_bci hw S) rfl rfl rfl rfl all0 (fun v h1 q _ => ?_)
  obtain ⟨rfl, rfl⟩ := q
  refine iload_n (q1 := 36) d11_35 rfl rfl ?_
  refine invokestatic (q1 := 39) d11_36 rfl (ww hw 32 rfl) (ww hw 33 rfl) (ww hw 18 rfl) (ww hw 34 rfl) (by decide) pd2 (c_bwi hw) rfl rfl rfl rfl all0 (fun v h1 q _ => ?_)
  rw [hs.1] at q
  obtain ⟨rfl, rfl⟩ := q
  refine istore_n (q1 := 40) (jj := 2) d11_39 rfl rfl rfl ?_
  simp only [List.set_cons_zero, List.set_cons_succ]
  refine iload_n (q1 := 41) d11_40 rfl rfl ?_
  refine aload_n (q1 := 42) d11_41 rfl rfl rfl ?_
  refine getfield (q1 := 45) d11_42 rfl (ww hw 23 rfl) Via.refl (B.2.2.1) ?_
  refine icmp_lt (q1 := 48) (q := 50) d11_45 rfl ⟨by decide, rfl⟩ (fun _ => ?_) (fun hq => absurd (by decide) hq)
  refine aload_n (q1 := 51) d11_50 rfl rfl rfl ?_
  refine getfield (q1 := 54) d11_51 rfl (ww hw 36 rfl) Via.refl (B.2.1) ?_
  refine iload_n (q1 := 55) d11_54 rfl rfl ?_
  refine laload (q1 := 56) (i := 0) d11_55 rfl (B.2.2.2.1) rfl (by decide) rfl ?_
  refine ldc2J (q1 := 59) d11_56 rfl (ww hw 70 rfl) ?_
  refine lxor (q1 := 60) d11_59 rfl ?_
  refine ldc2J (q1 := 63) d11_60 rfl (ww hw 70 rfl) ?_
  refine iload_n (q1 := 64) d11_63 rfl rfl ?_
  refine lshl (q1 := 65) d11_64 rfl ?_
  refine land (q1 := 66) d11_65 rfl ?_
  refine lstore_n (q1 := 67) (jj := 3) (jk := 4) d11_66 rfl rfl rfl rfl ?_
  simp only [List.set_cons_zero, List.set_cons_succ]
  refine lload_n (q1 := 68) d11_67 rfl rfl ?_
  refine lconst (q1 := 69) (v := 0) d11_68 rfl rfl ?_
  refine lcmp (q1 := 70) d11_69 rfl ?_
  refine if_eq (q1 := 73) (q := 83) d11_70 rfl ⟨by decide, rfl⟩ (fun hq => absurd hq hz) (fun _ => ?_)
  refine iload_n (q1 := 74) d11_73 rfl rfl ?_
  refine bipush (q1 := 76) (v := 64) d11_74 rfl rfl ?_
  refine imul (q1 := 77) d11_76 rfl ?_
  refine lload_n (q1 := 78) d11_77 rfl rfl ?_
  refine invokestatic (q1 := 81) d11_78 rfl (ww hw 71 rfl) (ww hw 72 rfl) (ww hw 73 rfl) (ww hw 74 rfl) (by decide) pd4 (c_lnt hw) rfl rfl rfl rfl all0 (fun v h1 q _ => ?_)
  obtain ⟨rfl, rfl⟩ := q
  refine iadd (q1 := 82) d11_81 rfl ?_
  refine ret_i d11_82 rfl rfl ⟨rfl, rfl⟩
set_option maxRecDepth 65536 in
set_option maxHeartbeats 40000000 in
theorem c_rec {l : Launch} {Z : State} {a0 : Array Value} (hw : ∀ d ∈ tables_1, d.before a0 Z = true) {n0 : Nat} {h0 : Heap} {b t : Addr} {x : Int64} (B : BS Z h0 b t 1 x) (hz : ¬ lcmpW x 0 = 0) : Con l Z n0 (⟨"java/util/BitSet", "recalculateWordsInUse", "()V"⟩ : MethodName) jdk_92_method_3_code 2 none ({ frames := 0, cells := 0, slots := 0, locals := 0 } : Room) [.ref b] h0 [b] (fun v h' => v = none ∧ BS Z h' b t 1 x) := by
  refine Con.of (Ls := [.val (.ref b), .unset]) (by decide +kernel) (fun m => by first | (simp [entryFrame, mkF, argsToLocals, Value.category]; done) | (rcases ref_cases hrw with rfl | ⟨b, rfl⟩ <;> rfl) | rfl) (fun p e s m below meth c => ?_)
  show Wp false p l e ({ frames := 0, cells := 0, slots := 0, locals := 0 } : Room) s m ([.ref b] : List Value).toArray below meth c Z "java/util/BitSet" "recalculateWordsInUse" jdk_92_method_3_code 2 none n0 h0 [b] (fun v h' => v = none ∧ BS Z h' b t 1 x) (fun _ => True) h0 0 0 0 [.val (.ref b), .unset] []
  refine aload_n (q1 := 1) d16_0 rfl rfl rfl ?_
  refine getfield (q1 := 4) d16_1 rfl (ww hw 23 rfl) Via.refl (B.2.2.1) ?_
  refine iconst (q1 := 5) (v := 1) d16_4 rfl rfl ?_
  refine isub (q1 := 6) d16_5 rfl ?_
  refine istore_n (q1 := 7) (jj := 1) d16_6 rfl rfl rfl ?_
  simp only [List.set_cons_zero, List.set_cons_succ]
  refine iload_n (q1 := 8) d16_7 rfl rfl ?_
  refine if_lt (q1 := 11) (q := 31) d16_8 rfl ⟨by decide, rfl⟩ (fun hq => absurd hq (by decide)) (fun _ => ?_)
  refine aload_n (q1 := 12) d16_11 rfl rfl rfl ?_
  refine getfield (q1 := 15) d16_12 rfl (ww hw 36 rfl) Via.refl (B.2.1) ?_
  refine iload_n (q1 := 16) d16_15 rfl rfl ?_
  refine laload (q1 := 17) (i := 0) d16_16 rfl (B.2.2.2.1) rfl (by decide) rfl ?_
  refine lconst (q1 := 18) (v := 0) d16_17 rfl rfl ?_
  refine lcmp (q1 := 19) d16_18 rfl ?_
  refine if_eq (q1 := 22) (q := 25) d16_19 rfl ⟨by decide, rfl⟩ (fun hq => absurd hq hz) (fun _ => ?_)
  refine goto (q := 31) d16_22 ⟨by decide, rfl⟩ ?_
  refine aload_n (q1 := 32) d16_31 rfl rfl rfl ?_
  refine iload_n (q1 := 33) d16_32 rfl rfl ?_
  refine iconst (q1 := 34) (v := 1) d16_33 rfl rfl ?_
  refine iadd (q1 := 35) d16_34 rfl ?_
  refine putfield (q1 := 38) d16_35 rfl (ww hw 23 rfl) Via.refl (B.2.2.1) (B.1) (Or.inl (ww hw 24 rfl)) (ww hw 17 rfl) (ty := .int) (by decide) rfl rfl (Or.inl own_in1) (fun h35 W35 => ?_)
  refine ret_v d16_38 rfl rfl ⟨rfl, B.1.wr W35, B.2.1.other W35 (Or.inr (slot_ne (Or.inl (ww hw 37 rfl)) (Or.inl (ww hw 24 rfl)) (by decide) (t := (.array .long)) (t' := .int) (by decide) (by decide))), B.2.2.1.same W35, B.2.2.2.1.other W35 (Ne.symm B.2.2.2.2), B.2.2.2.2⟩
set_option maxRecDepth 65536 in
set_option maxHeartbeats 40000000 in
theorem c_bcl {l : Launch} {Z : State} {a0 : Array Value} (hw : ∀ d ∈ tables_1, d.before a0 Z = true) {n0 : Nat} {h0 : Heap} {b t : Addr} {i : Int32} {x : Int64} (S : AOff Z) (B : BS Z h0 b t 1 x) (hs : Sm i) (hz : ¬ lcmpW (clrX x i) 0 = 0) : Con l Z n0 (⟨"java/util/BitSet", "clear", "(I)V"⟩ : MethodName) jdk_92_method_23_code 3 none ({ frames := 1, cells := 0, slots := 0, locals := 13 } : Room) [.ref b, .int i] h0 [b, t] (fun v h' => v = none ∧ BS Z h' b t 1 (clrX x i)) := by
  refine Con.of (Ls := [.val (.ref b), .val (.int i), .unset]) (by decide +kernel) (fun m => by first | (simp [entryFrame, mkF, argsToLocals, Value.category]; done) | (rcases ref_cases hrw with rfl | ⟨b, rfl⟩ <;> rfl) | rfl) (fun p e s m below meth c => ?_)
  show Wp false p l e ({ frames := 1, cells := 0, slots := 0, locals := 13 } : Room) s m ([.ref b, .int i] : List Value).toArray below meth c Z "java/util/BitSet" "clear" jdk_92_method_23_code 3 none n0 h0 [b, t] (fun v h' => v = none ∧ BS Z h' b t 1 (clrX x i)) (fun _ => True) h0 0 0 0 [.val (.ref b), .val (.int i), .unset] []
  refine iload_n (q1 := 1) d15_0 rfl rfl ?_
  refine if_ge (q1 := 4) (q := 31) d15_1 rfl ⟨by decide, rfl⟩ (fun _ => ?_) (fun hq => absurd hq hs.2)
  refine iload_n (q1 := 32) d15_31 rfl rfl ?_
  refine invokestatic (q1 := 35) d15_32 rfl (ww hw 32 rfl) (ww hw 33 rfl) (ww hw 18 rfl) (ww hw 34 rfl) (by decide) pd2 (c_bwi hw) rfl rfl rfl rfl all0 (fun v h1 q _ => ?_)
  rw [hs.1] at q
  obtain ⟨rfl, rfl⟩ := q
  refine istore_n (q1 := 36) (jj := 2) d15_35 rfl rfl rfl ?_
  simp only [List.set_cons_zero, List.set_cons_succ]
  refine iload_n (q1 := 37) d15_36 rfl rfl ?_
  refine aload_n (q1 := 38) d15_37 rfl rfl rfl ?_
  refine getfield (q1 := 41) d15_38 rfl (ww hw 23 rfl) Via.refl (B.2.2.1) ?_
  refine icmp_lt (q1 := 44) (q := 45) d15_41 rfl ⟨by decide, rfl⟩ (fun _ => ?_) (fun hq => absurd (by decide) hq)
  refine aload_n (q1 := 46) d15_45 rfl rfl rfl ?_
  refine getfield (q1 := 49) d15_46 rfl (ww hw 36 rfl) Via.refl (B.2.1) ?_
  refine iload_n (q1 := 50) d15_49 rfl rfl ?_
  refine dup2 (q1 := 51) d15_50 rfl rfl rfl ?_
  refine laload (q1 := 52) (i := 0) d15_51 rfl (B.2.2.2.1) rfl (by decide) rfl ?_
  refine lconst (q1 := 53) (v := 1) d15_52 rfl rfl ?_
  refine iload_n (q1 := 54) d15_53 rfl rfl ?_
  refine lshl (q1 := 55) d15_54 rfl ?_
  refine ldc2J (q1 := 58) d15_55 rfl (ww hw 70 rfl) ?_
  refine lxor (q1 := 59) d15_58 rfl ?_
  refine land (q1 := 60) d15_59 rfl ?_
  refine lastore (q1 := 61) (i := 0) d15_60 rfl (B.2.2.2.1) rfl (by decide) (Or.inl (List.mem_cons_of_mem _ own_in1)) (fun h60 W60 => ?_)
  have B2 : BS Z h60 b t 1 (clrX x i) := ⟨B.1.wr W60, B.2.1.other W60 (Or.inl B.2.2.2.2), B.2.2.1.other W60 (Or.inl B.2.2.2.2), (B.2.2.2.1.same W60).cong (fun j hj => by
    have e : j = 0 := (by omega)
    subst e; rfl), B.2.2.2.2⟩
  refine aload_n (q1 := 62) d15_61 rfl rfl rfl ?_
  refine invokepriv (q1 := 65) d15_62 rfl (ww hw 90 rfl) (ww hw 91 rfl) (ww hw 17 rfl) (ww hw 92 rfl) (ww hw 18 rfl) (ww hw 94 rfl) (by decide) pd1 (B2.1) (c_rec hw B2 hz) rfl rfl rfl rfl (allS (Or.inl own_in1) all0) (fun v h1 q K => ?_)
  obtain ⟨rfl, B3⟩ := q
  refine aload_n (q1 := 66) d15_65 rfl rfl rfl ?_
  refine invokepriv (q1 := 69) d15_66 rfl (ww hw 59 rfl) (ww hw 60 rfl) (ww hw 17 rfl) (ww hw 61 rfl) (ww hw 18 rfl) (ww hw 63 rfl) (by decide) pd1 (B3.1) (c_bci hw S) rfl rfl rfl rfl all0 (fun v h1 q K => ?_)
  obtain ⟨rfl, rfl⟩ := q
  refine ret_v d15_69 rfl rfl ⟨rfl, B3⟩
def getX (x : Int64) (i : Int32) : Int32 := if lcmpW (x &&& bitX i) 0 = 0 then 0 else 1
set_option maxRecDepth 65536 in
set_option maxHeartbeats 40000000 in
theorem c_bge {l : Launch} {Z : State} {a0 : Array Value} (hw : ∀ d ∈ tables_1, d.before a0 Z = true) {n0 : Nat} {h0 : Heap} {b t : Addr} {i : Int32} {x : Int64} (S : AOff Z) (B : BS Z h0 b t 1 x) (hs : Sm i) : Con l Z n0 (⟨"java/util/BitSet", "get", "(I)Z"⟩ : MethodName) jdk_92_method_26_code 3 (some .boolean) ({ frames := 1, cells := 0, slots := 0, locals := 12 } : Room) [.ref b, .int i] h0 [] (fun v h' => v = some (.int (getX x i)) ∧ h' = h0) := by
  refine Con.of (Ls := [.val (.ref b), .val (.int i), .unset]) (by decide +kernel) (fun m => by first | (simp [entryFrame, mkF, argsToLocals, Value.category]; done) | (rcases ref_cases hrw with rfl | ⟨b, rfl⟩ <;> rfl) | rfl) (fun p e s m below meth c => ?_)
  show Wp false p l e ({ frames := 1, cells := 0, slots := 0, locals := 12 } : Room) s m ([.ref b, .int i] : List Value).toArray below meth c Z "java/util/BitSet" "get" jdk_92_method_26_code 3 (some .boolean) n0 h0 [] (fun v h' => v = some (.int (getX x i)) ∧ h' = h0) (fun _ => True) h0 0 0 0 [.val (.ref b), .val (.int i), .unset] []
  refine iload_n (q1 := 1) d21_0 rfl rfl ?_
  refine if_ge (q1 := 4) (q := 31) d21_1 rfl ⟨by decide, rfl⟩ (fun _ => ?_) (fun hq => absurd hq hs.2)
  refine aload_n (q1 := 32) d21_31 rfl rfl rfl ?_
  refine invokepriv (q1 := 35) d21_32 rfl (ww hw 59 rfl) (ww hw 60 rfl) (ww hw 17 rfl) (ww hw 61 rfl) (ww hw 18 rfl) (ww hw 63 rfl) (by decide) pd1 (B.1) (c_bci hw S) rfl rfl rfl rfl all0 (fun v h1 q _ => ?_)
  obtain ⟨rfl, rfl⟩ := q
  refine iload_n (q1 := 36) d21_35 rfl rfl ?_
  refine invokestatic (q1 := 39) d21_36 rfl (ww hw 32 rfl) (ww hw 33 rfl) (ww hw 18 rfl) (ww hw 34 rfl) (by decide) pd2 (c_bwi hw) rfl rfl rfl rfl all0 (fun v h1 q _ => ?_)
  rw [hs.1] at q
  obtain ⟨rfl, rfl⟩ := q
  refine istore_n (q1 := 40) (jj := 2) d21_39 rfl rfl rfl ?_
  simp only [List.set_cons_zero, List.set_cons_succ]
  refine iload_n (q1 := 41) d21_40 rfl rfl ?_
  refine aload_n (q1 := 42) d21_41 rfl rfl rfl ?_
  refine getfield (q1 := 45) d21_42 rfl (ww hw 23 rfl) Via.refl (B.2.2.1) ?_
  refine icmp_ge (q1 := 48) (q := 67) d21_45 rfl ⟨by decide, rfl⟩ (fun hq => absurd (by decide) hq) (fun _ => ?_)
  refine aload_n (q1 := 49) d21_48 rfl rfl rfl ?_
  refine getfield (q1 := 52) d21_49 rfl (ww hw 36 rfl) Via.refl (B.2.1) ?_
  refine iload_n (q1 := 53) d21_52 rfl rfl ?_
  refine laload (q1 := 54) (i := 0) d21_53 rfl (B.2.2.2.1) rfl (by decide) rfl ?_
  refine lconst (q1 := 55) (v := 1) d21_54 rfl rfl ?_
  refine iload_n (q1 := 56) d21_55 rfl rfl ?_
  refine lshl (q1 := 57) d21_56 rfl ?_
  refine land (q1 := 58) d21_57 rfl ?_
  refine lconst (q1 := 59) (v := 0) d21_58 rfl rfl ?_
  refine lcmp (q1 := 60) d21_59 rfl ?_
  refine if_eq (q1 := 63) (q := 67) d21_60 rfl ⟨by decide, rfl⟩ (fun hq => ?_) (fun hq => ?_)
  · refine iconst (q1 := 68) (v := 0) d21_67 rfl rfl ?_
    refine ret_n (t := .boolean) d21_68 rfl (by simp) rfl ⟨by unfold getX bitX; rw [if_pos hq]; rfl, rfl⟩
  · refine iconst (q1 := 64) (v := 1) d21_63 rfl rfl ?_
    refine goto (q := 68) d21_64 ⟨by decide, rfl⟩ ?_
    refine ret_n (t := .boolean) d21_68 rfl (by simp) rfl ⟨by unfold getX bitX; rw [if_neg hq]; rfl, rfl⟩
def minI (a b : Int32) : Int32 := if b < a then b else a
def maxI (a b : Int32) : Int32 := if a < b then b else a
set_option maxRecDepth 65536 in
set_option maxHeartbeats 40000000 in
theorem c_min {l : Launch} {Z : State} {a0 : Array Value} (hw : ∀ d ∈ tables_1, d.before a0 Z = true) {n0 : Nat} {h0 : Heap} {i j : Int32} : Con l Z n0 (⟨"java/lang/Math", "min", "(II)I"⟩ : MethodName) jdk_29_method_69_code 2 (some .int) ({ frames := 0, cells := 0, slots := 0, locals := 0 } : Room) [.int i, .int j] h0 [] (fun v h' => v = some (.int (minI i j)) ∧ h' = h0) := by
  refine Con.of (Ls := [.val (.int i), .val (.int j)]) (Jvm.Free.JP.mathPlain rfl (by decide +kernel)) (fun m => by first | (simp [entryFrame, mkF, argsToLocals, Value.category]; done) | (rcases ref_cases hrw with rfl | ⟨b, rfl⟩ <;> rfl) | rfl) (fun p e s m below meth c => ?_)
  show Wp false p l e ({ frames := 0, cells := 0, slots := 0, locals := 0 } : Room) s m ([.int i, .int j] : List Value).toArray below meth c Z "java/lang/Math" "min" jdk_29_method_69_code 2 (some .int) n0 h0 [] (fun v h' => v = some (.int (minI i j)) ∧ h' = h0) (fun _ => True) h0 0 0 0 [.val (.int i), .val (.int j)] []
  refine iload_n (q1 := 1) d17_0 rfl rfl ?_
  refine iload_n (q1 := 2) d17_1 rfl rfl ?_
  refine icmp_gt (q1 := 5) (q := 9) d17_2 rfl ⟨by decide, rfl⟩ (fun hq => ?_) (fun hq => ?_)
  · refine iload_n (q1 := 10) d17_9 rfl rfl ?_
    refine ret_i d17_10 rfl rfl ⟨by unfold minI; rw [if_pos hq], rfl⟩
  · refine iload_n (q1 := 6) d17_5 rfl rfl ?_
    refine goto (q := 10) d17_6 ⟨by decide, rfl⟩ ?_
    refine ret_i d17_10 rfl rfl ⟨by unfold minI; rw [if_neg hq], rfl⟩
set_option maxRecDepth 65536 in
set_option maxHeartbeats 40000000 in
theorem c_max {l : Launch} {Z : State} {a0 : Array Value} (hw : ∀ d ∈ tables_1, d.before a0 Z = true) {n0 : Nat} {h0 : Heap} {i j : Int32} : Con l Z n0 (⟨"java/lang/Math", "max", "(II)I"⟩ : MethodName) jdk_29_method_65_code 2 (some .int) ({ frames := 0, cells := 0, slots := 0, locals := 0 } : Room) [.int i, .int j] h0 [] (fun v h' => v = some (.int (maxI i j)) ∧ h' = h0) := by
  refine Con.of (Ls := [.val (.int i), .val (.int j)]) (Jvm.Free.JP.mathPlain rfl (by decide +kernel)) (fun m => by first | (simp [entryFrame, mkF, argsToLocals, Value.category]; done) | (rcases ref_cases hrw with rfl | ⟨b, rfl⟩ <;> rfl) | rfl) (fun p e s m below meth c => ?_)
  show Wp false p l e ({ frames := 0, cells := 0, slots := 0, locals := 0 } : Room) s m ([.int i, .int j] : List Value).toArray below meth c Z "java/lang/Math" "max" jdk_29_method_65_code 2 (some .int) n0 h0 [] (fun v h' => v = some (.int (maxI i j)) ∧ h' = h0) (fun _ => True) h0 0 0 0 [.val (.int i), .val (.int j)] []
  refine iload_n (q1 := 1) d23_0 rfl rfl ?_
  refine iload_n (q1 := 2) d23_1 rfl rfl ?_
  refine icmp_lt (q1 := 5) (q := 9) d23_2 rfl ⟨by decide, rfl⟩ (fun hq => ?_) (fun hq => ?_)
  · refine iload_n (q1 := 10) d23_9 rfl rfl ?_
    refine ret_i d23_10 rfl rfl ⟨by unfold maxI; rw [if_pos hq], rfl⟩
  · refine iload_n (q1 := 6) d23_5 rfl rfl ?_
    refine goto (q := 10) d23_6 ⟨by decide, rfl⟩ ?_
    refine ret_i d23_10 rfl rfl ⟨by unfold maxI; rw [if_neg hq], rfl⟩
theorem d1_0 : decode prog_16_method_1_code 0 = .ok (.aload_n 0, 1) := by decide +kernel
theorem d1_1 : decode prog_16_method_1_code 1 = .ok (.invokespecial 1, 3) := by decide +kernel
theorem d1_4 : decode prog_16_method_1_code 4 = .ok (.aload_n 0, 1) := by decide +kernel
theorem d1_5 : decode prog_16_method_1_code 5 = .ok (.iload_n 1, 1) := by decide +kernel
theorem d1_6 : decode prog_16_method_1_code 6 = .ok (.anewarray 7, 3) := by decide +kernel
theorem d1_9 : decode prog_16_method_1_code 9 = .ok (.putfield 9, 3) := by decide +kernel
theorem d1_12 : decode prog_16_method_1_code 12 = .ok (.aload_n 0, 1) := by decide +kernel
theorem d1_13 : decode prog_16_method_1_code 13 = .ok (.iload_n 1, 1) := by decide +kernel
theorem d1_14 : decode prog_16_method_1_code 14 = .ok (.newarray .int, 2) := by decide +kernel
theorem d1_16 : decode prog_16_method_1_code 16 = .ok (.putfield 15, 3) := by decide +kernel
theorem d1_19 : decode prog_16_method_1_code 19 = .ok (.iconst 0, 1) := by decide +kernel
theorem d1_20 : decode prog_16_method_1_code 20 = .ok (.istore_n 2, 1) := by decide +kernel
theorem d1_21 : decode prog_16_method_1_code 21 = .ok (.iload_n 2, 1) := by decide +kernel
theorem d1_22 : decode prog_16_method_1_code 22 = .ok (.iload_n 1, 1) := by decide +kernel
theorem d1_23 : decode prog_16_method_1_code 23 = .ok (.if_icmp .ge 29, 3) := by decide +kernel
theorem d1_26 : decode prog_16_method_1_code 26 = .ok (.aload_n 0, 1) := by decide +kernel
theorem d1_27 : decode prog_16_method_1_code 27 = .ok (.getfield 9, 3) := by decide +kernel
theorem d1_30 : decode prog_16_method_1_code 30 = .ok (.iload_n 2, 1) := by decide +kernel
theorem d1_31 : decode prog_16_method_1_code 31 = .ok (.new 7, 3) := by decide +kernel
theorem d1_34 : decode prog_16_method_1_code 34 = .ok (.dup, 1) := by decide +kernel
theorem d1_35 : decode prog_16_method_1_code 35 = .ok (.invokespecial 19, 3) := by decide +kernel
theorem d1_38 : decode prog_16_method_1_code 38 = .ok (.aastore, 1) := by decide +kernel
theorem d1_39 : decode prog_16_method_1_code 39 = .ok (.aload_n 0, 1) := by decide +kernel
theorem d1_40 : decode prog_16_method_1_code 40 = .ok (.getfield 15, 3) := by decide +kernel
theorem d1_43 : decode prog_16_method_1_code 43 = .ok (.iload_n 2, 1) := by decide +kernel
theorem d1_44 : decode prog_16_method_1_code 44 = .ok (.iconst 1, 1) := by decide +kernel
theorem d1_45 : decode prog_16_method_1_code 45 = .ok (.iastore, 1) := by decide +kernel
theorem d1_46 : decode prog_16_method_1_code 46 = .ok (.iinc 2 1, 3) := by decide +kernel
theorem d1_49 : decode prog_16_method_1_code 49 = .ok (.goto (-28), 3) := by decide +kernel
theorem d1_52 : decode prog_16_method_1_code 52 = .ok (.return_, 1) := by decide +kernel
theorem d6_0 : decode prog_16_method_4_code 0 = .ok (.aload_n 1, 1) := by decide +kernel
theorem d6_1 : decode prog_16_method_4_code 1 = .ok (.astore_n 3, 1) := by decide +kernel
theorem d6_2 : decode prog_16_method_4_code 2 = .ok (.aload_n 3, 1) := by decide +kernel
theorem d6_3 : decode prog_16_method_4_code 3 = .ok (.arraylength, 1) := by decide +kernel
theorem d6_4 : decode prog_16_method_4_code 4 = .ok (.istore 4, 2) := by decide +kernel
theorem d6_6 : decode prog_16_method_4_code 6 = .ok (.iconst 0, 1) := by decide +kernel
theorem d6_7 : decode prog_16_method_4_code 7 = .ok (.istore 5, 2) := by decide +kernel
theorem d6_9 : decode prog_16_method_4_code 9 = .ok (.iload 5, 2) := by decide +kernel
theorem d6_11 : decode prog_16_method_4_code 11 = .ok (.iload 4, 2) := by decide +kernel
theorem d6_13 : decode prog_16_method_4_code 13 = .ok (.if_icmp .ge 57, 3) := by decide +kernel
theorem d6_16 : decode prog_16_method_4_code 16 = .ok (.aload_n 3, 1) := by decide +kernel
theorem d6_17 : decode prog_16_method_4_code 17 = .ok (.iload 5, 2) := by decide +kernel
theorem d6_19 : decode prog_16_method_4_code 19 = .ok (.iaload, 1) := by decide +kernel
theorem d6_20 : decode prog_16_method_4_code 20 = .ok (.istore 6, 2) := by decide +kernel
theorem d6_22 : decode prog_16_method_4_code 22 = .ok (.aload_n 0, 1) := by decide +kernel
theorem d6_23 : decode prog_16_method_4_code 23 = .ok (.getfield 9, 3) := by decide +kernel
theorem d6_26 : decode prog_16_method_4_code 26 = .ok (.iload 6, 2) := by decide +kernel
theorem d6_28 : decode prog_16_method_4_code 28 = .ok (.aaload, 1) := by decide +kernel
theorem d6_29 : decode prog_16_method_4_code 29 = .ok (.iload_n 2, 1) := by decide +kernel
theorem d6_30 : decode prog_16_method_4_code 30 = .ok (.invokevirtual 34, 3) := by decide +kernel
theorem d6_33 : decode prog_16_method_4_code 33 = .ok (.aload_n 0, 1) := by decide +kernel
theorem d6_34 : decode prog_16_method_4_code 34 = .ok (.getfield 15, 3) := by decide +kernel
theorem d6_37 : decode prog_16_method_4_code 37 = .ok (.iload 6, 2) := by decide +kernel
theorem d6_39 : decode prog_16_method_4_code 39 = .ok (.iaload, 1) := by decide +kernel
theorem d6_40 : decode prog_16_method_4_code 40 = .ok (.iload_n 2, 1) := by decide +kernel
theorem d6_41 : decode prog_16_method_4_code 41 = .ok (.if_icmp .ne 23, 3) := by decide +kernel
theorem d6_44 : decode prog_16_method_4_code 44 = .ok (.aload_n 0, 1) := by decide +kernel
theorem d6_45 : decode prog_16_method_4_code 45 = .ok (.getfield 15, 3) := by decide +kernel
theorem d6_48 : decode prog_16_method_4_code 48 = .ok (.iload 6, 2) := by decide +kernel
theorem d6_50 : decode prog_16_method_4_code 50 = .ok (.aload_n 0, 1) := by decide +kernel
theorem d6_51 : decode prog_16_method_4_code 51 = .ok (.getfield 9, 3) := by decide +kernel
theorem d6_54 : decode prog_16_method_4_code 54 = .ok (.iload 6, 2) := by decide +kernel
theorem d6_56 : decode prog_16_method_4_code 56 = .ok (.aaload, 1) := by decide +kernel
theorem d6_57 : decode prog_16_method_4_code 57 = .ok (.iload_n 2, 1) := by decide +kernel
theorem d6_58 : decode prog_16_method_4_code 58 = .ok (.iconst 1, 1) := by decide +kernel
theorem d6_59 : decode prog_16_method_4_code 59 = .ok (.iadd, 1) := by decide +kernel
theorem d6_60 : decode prog_16_method_4_code 60 = .ok (.invokevirtual 26, 3) := by decide +kernel
theorem d6_63 : decode prog_16_method_4_code 63 = .ok (.iastore, 1) := by decide +kernel
theorem d6_64 : decode prog_16_method_4_code 64 = .ok (.iinc 5 1, 3) := by decide +kernel
theorem d6_67 : decode prog_16_method_4_code 67 = .ok (.goto (-58), 3) := by decide +kernel
theorem d6_70 : decode prog_16_method_4_code 70 = .ok (.return_, 1) := by decide +kernel
theorem d14_0 : decode prog_16_method_5_code 0 = .ok (.aload_n 1, 1) := by decide +kernel
theorem d14_1 : decode prog_16_method_5_code 1 = .ok (.astore_n 3, 1) := by decide +kernel
theorem d14_2 : decode prog_16_method_5_code 2 = .ok (.aload_n 3, 1) := by decide +kernel
theorem d14_3 : decode prog_16_method_5_code 3 = .ok (.arraylength, 1) := by decide +kernel
theorem d14_4 : decode prog_16_method_5_code 4 = .ok (.istore 4, 2) := by decide +kernel
theorem d14_6 : decode prog_16_method_5_code 6 = .ok (.iconst 0, 1) := by decide +kernel
theorem d14_7 : decode prog_16_method_5_code 7 = .ok (.istore 5, 2) := by decide +kernel
theorem d14_9 : decode prog_16_method_5_code 9 = .ok (.iload 5, 2) := by decide +kernel
theorem d14_11 : decode prog_16_method_5_code 11 = .ok (.iload 4, 2) := by decide +kernel
theorem d14_13 : decode prog_16_method_5_code 13 = .ok (.if_icmp .ge 44, 3) := by decide +kernel
theorem d14_16 : decode prog_16_method_5_code 16 = .ok (.aload_n 3, 1) := by decide +kernel
theorem d14_17 : decode prog_16_method_5_code 17 = .ok (.iload 5, 2) := by decide +kernel
theorem d14_19 : decode prog_16_method_5_code 19 = .ok (.iaload, 1) := by decide +kernel
theorem d14_20 : decode prog_16_method_5_code 20 = .ok (.istore 6, 2) := by decide +kernel
theorem d14_22 : decode prog_16_method_5_code 22 = .ok (.aload_n 0, 1) := by decide +kernel
theorem d14_23 : decode prog_16_method_5_code 23 = .ok (.getfield 9, 3) := by decide +kernel
theorem d14_26 : decode prog_16_method_5_code 26 = .ok (.iload 6, 2) := by decide +kernel
theorem d14_28 : decode prog_16_method_5_code 28 = .ok (.aaload, 1) := by decide +kernel
theorem d14_29 : decode prog_16_method_5_code 29 = .ok (.iload_n 2, 1) := by decide +kernel
theorem d14_30 : decode prog_16_method_5_code 30 = .ok (.invokevirtual 38, 3) := by decide +kernel
theorem d14_33 : decode prog_16_method_5_code 33 = .ok (.aload_n 0, 1) := by decide +kernel
theorem d14_34 : decode prog_16_method_5_code 34 = .ok (.getfield 15, 3) := by decide +kernel
theorem d14_37 : decode prog_16_method_5_code 37 = .ok (.iload 6, 2) := by decide +kernel
theorem d14_39 : decode prog_16_method_5_code 39 = .ok (.aload_n 0, 1) := by decide +kernel
theorem d14_40 : decode prog_16_method_5_code 40 = .ok (.getfield 15, 3) := by decide +kernel
theorem d14_43 : decode prog_16_method_5_code 43 = .ok (.iload 6, 2) := by decide +kernel
theorem d14_45 : decode prog_16_method_5_code 45 = .ok (.iaload, 1) := by decide +kernel
theorem d14_46 : decode prog_16_method_5_code 46 = .ok (.iload_n 2, 1) := by decide +kernel
theorem d14_47 : decode prog_16_method_5_code 47 = .ok (.invokestatic 41, 3) := by decide +kernel
theorem d14_50 : decode prog_16_method_5_code 50 = .ok (.iastore, 1) := by decide +kernel
theorem d14_51 : decode prog_16_method_5_code 51 = .ok (.iinc 5 1, 3) := by decide +kernel
theorem d14_54 : decode prog_16_method_5_code 54 = .ok (.goto (-45), 3) := by decide +kernel
theorem d14_57 : decode prog_16_method_5_code 57 = .ok (.return_, 1) := by decide +kernel
theorem d20_0 : decode prog_16_method_3_code 0 = .ok (.aload_n 1, 1) := by decide +kernel
theorem d20_1 : decode prog_16_method_3_code 1 = .ok (.astore_n 3, 1) := by decide +kernel
theorem d20_2 : decode prog_16_method_3_code 2 = .ok (.aload_n 3, 1) := by decide +kernel
theorem d20_3 : decode prog_16_method_3_code 3 = .ok (.arraylength, 1) := by decide +kernel
theorem d20_4 : decode prog_16_method_3_code 4 = .ok (.istore 4, 2) := by decide +kernel
theorem d20_6 : decode prog_16_method_3_code 6 = .ok (.iconst 0, 1) := by decide +kernel
theorem d20_7 : decode prog_16_method_3_code 7 = .ok (.istore 5, 2) := by decide +kernel
theorem d20_9 : decode prog_16_method_3_code 9 = .ok (.iload 5, 2) := by decide +kernel
theorem d20_11 : decode prog_16_method_3_code 11 = .ok (.iload 4, 2) := by decide +kernel
theorem d20_13 : decode prog_16_method_3_code 13 = .ok (.if_icmp .ge 31, 3) := by decide +kernel
theorem d20_16 : decode prog_16_method_3_code 16 = .ok (.aload_n 3, 1) := by decide +kernel
theorem d20_17 : decode prog_16_method_3_code 17 = .ok (.iload 5, 2) := by decide +kernel
theorem d20_19 : decode prog_16_method_3_code 19 = .ok (.iaload, 1) := by decide +kernel
theorem d20_20 : decode prog_16_method_3_code 20 = .ok (.istore 6, 2) := by decide +kernel
theorem d20_22 : decode prog_16_method_3_code 22 = .ok (.aload_n 0, 1) := by decide +kernel
theorem d20_23 : decode prog_16_method_3_code 23 = .ok (.getfield 9, 3) := by decide +kernel
theorem d20_26 : decode prog_16_method_3_code 26 = .ok (.iload 6, 2) := by decide +kernel
theorem d20_28 : decode prog_16_method_3_code 28 = .ok (.aaload, 1) := by decide +kernel
theorem d20_29 : decode prog_16_method_3_code 29 = .ok (.iload_n 2, 1) := by decide +kernel
theorem d20_30 : decode prog_16_method_3_code 30 = .ok (.invokevirtual 30, 3) := by decide +kernel
theorem d20_33 : decode prog_16_method_3_code 33 = .ok (.ifCond .eq 5, 3) := by decide +kernel
theorem d20_36 : decode prog_16_method_3_code 36 = .ok (.iconst 0, 1) := by decide +kernel
theorem d20_37 : decode prog_16_method_3_code 37 = .ok (.ireturn, 1) := by decide +kernel
theorem d20_38 : decode prog_16_method_3_code 38 = .ok (.iinc 5 1, 3) := by decide +kernel
theorem d20_41 : decode prog_16_method_3_code 41 = .ok (.goto (-32), 3) := by decide +kernel
theorem d20_44 : decode prog_16_method_3_code 44 = .ok (.iconst 1, 1) := by decide +kernel
theorem d20_45 : decode prog_16_method_3_code 45 = .ok (.ireturn, 1) := by decide +kernel
theorem d22_0 : decode prog_16_method_2_code 0 = .ok (.iconst 1, 1) := by decide +kernel
theorem d22_1 : decode prog_16_method_2_code 1 = .ok (.istore_n 2, 1) := by decide +kernel
theorem d22_2 : decode prog_16_method_2_code 2 = .ok (.aload_n 1, 1) := by decide +kernel
theorem d22_3 : decode prog_16_method_2_code 3 = .ok (.astore_n 3, 1) := by decide +kernel
theorem d22_4 : decode prog_16_method_2_code 4 = .ok (.aload_n 3, 1) := by decide +kernel
theorem d22_5 : decode prog_16_method_2_code 5 = .ok (.arraylength, 1) := by decide +kernel
theorem d22_6 : decode prog_16_method_2_code 6 = .ok (.istore 4, 2) := by decide +kernel
theorem d22_8 : decode prog_16_method_2_code 8 = .ok (.iconst 0, 1) := by decide +kernel
theorem d22_9 : decode prog_16_method_2_code 9 = .ok (.istore 5, 2) := by decide +kernel
theorem d22_11 : decode prog_16_method_2_code 11 = .ok (.iload 5, 2) := by decide +kernel
theorem d22_13 : decode prog_16_method_2_code 13 = .ok (.iload 4, 2) := by decide +kernel
theorem d22_15 : decode prog_16_method_2_code 15 = .ok (.if_icmp .ge 27, 3) := by decide +kernel
theorem d22_18 : decode prog_16_method_2_code 18 = .ok (.aload_n 3, 1) := by decide +kernel
theorem d22_19 : decode prog_16_method_2_code 19 = .ok (.iload 5, 2) := by decide +kernel
theorem d22_21 : decode prog_16_method_2_code 21 = .ok (.iaload, 1) := by decide +kernel
theorem d22_22 : decode prog_16_method_2_code 22 = .ok (.istore 6, 2) := by decide +kernel
theorem d22_24 : decode prog_16_method_2_code 24 = .ok (.iload_n 2, 1) := by decide +kernel
theorem d22_25 : decode prog_16_method_2_code 25 = .ok (.aload_n 0, 1) := by decide +kernel
theorem d22_26 : decode prog_16_method_2_code 26 = .ok (.getfield 15, 3) := by decide +kernel
theorem d22_29 : decode prog_16_method_2_code 29 = .ok (.iload 6, 2) := by decide +kernel
theorem d22_31 : decode prog_16_method_2_code 31 = .ok (.iaload, 1) := by decide +kernel
theorem d22_32 : decode prog_16_method_2_code 32 = .ok (.invokestatic 20, 3) := by decide +kernel
theorem d22_35 : decode prog_16_method_2_code 35 = .ok (.istore_n 2, 1) := by decide +kernel
theorem d22_36 : decode prog_16_method_2_code 36 = .ok (.iinc 5 1, 3) := by decide +kernel
theorem d22_39 : decode prog_16_method_2_code 39 = .ok (.goto (-28), 3) := by decide +kernel
theorem d22_42 : decode prog_16_method_2_code 42 = .ok (.iconst 0, 1) := by decide +kernel
theorem d22_43 : decode prog_16_method_2_code 43 = .ok (.istore_n 3, 1) := by decide +kernel
theorem d22_44 : decode prog_16_method_2_code 44 = .ok (.iconst 0, 1) := by decide +kernel
theorem d22_45 : decode prog_16_method_2_code 45 = .ok (.istore 4, 2) := by decide +kernel
theorem d22_47 : decode prog_16_method_2_code 47 = .ok (.iload_n 3, 1) := by decide +kernel
theorem d22_48 : decode prog_16_method_2_code 48 = .ok (.aload_n 1, 1) := by decide +kernel
theorem d22_49 : decode prog_16_method_2_code 49 = .ok (.arraylength, 1) := by decide +kernel
theorem d22_50 : decode prog_16_method_2_code 50 = .ok (.if_icmp .ge 44, 3) := by decide +kernel
theorem d22_53 : decode prog_16_method_2_code 53 = .ok (.aload_n 0, 1) := by decide +kernel
theorem d22_54 : decode prog_16_method_2_code 54 = .ok (.getfield 9, 3) := by decide +kernel
theorem d22_57 : decode prog_16_method_2_code 57 = .ok (.aload_n 1, 1) := by decide +kernel
theorem d22_58 : decode prog_16_method_2_code 58 = .ok (.iload 4, 2) := by decide +kernel
theorem d22_60 : decode prog_16_method_2_code 60 = .ok (.iaload, 1) := by decide +kernel
theorem d22_61 : decode prog_16_method_2_code 61 = .ok (.aaload, 1) := by decide +kernel
theorem d22_62 : decode prog_16_method_2_code 62 = .ok (.iload_n 2, 1) := by decide +kernel
theorem d22_63 : decode prog_16_method_2_code 63 = .ok (.invokevirtual 26, 3) := by decide +kernel
theorem d22_66 : decode prog_16_method_2_code 66 = .ok (.istore 5, 2) := by decide +kernel
theorem d22_68 : decode prog_16_method_2_code 68 = .ok (.iload 5, 2) := by decide +kernel
theorem d22_70 : decode prog_16_method_2_code 70 = .ok (.iload_n 2, 1) := by decide +kernel
theorem d22_71 : decode prog_16_method_2_code 71 = .ok (.if_icmp .eq 8, 3) := by decide +kernel
theorem d22_74 : decode prog_16_method_2_code 74 = .ok (.iload 5, 2) := by decide +kernel
theorem d22_76 : decode prog_16_method_2_code 76 = .ok (.istore_n 2, 1) := by decide +kernel
theorem d22_77 : decode prog_16_method_2_code 77 = .ok (.iconst 0, 1) := by decide +kernel
theorem d22_78 : decode prog_16_method_2_code 78 = .ok (.istore_n 3, 1) := by decide +kernel
theorem d22_79 : decode prog_16_method_2_code 79 = .ok (.iinc 3 1, 3) := by decide +kernel
theorem d22_82 : decode prog_16_method_2_code 82 = .ok (.iload 4, 2) := by decide +kernel
theorem d22_84 : decode prog_16_method_2_code 84 = .ok (.iconst 1, 1) := by decide +kernel
theorem d22_85 : decode prog_16_method_2_code 85 = .ok (.iadd, 1) := by decide +kernel
theorem d22_86 : decode prog_16_method_2_code 86 = .ok (.aload_n 1, 1) := by decide +kernel
theorem d22_87 : decode prog_16_method_2_code 87 = .ok (.arraylength, 1) := by decide +kernel
theorem d22_88 : decode prog_16_method_2_code 88 = .ok (.irem, 1) := by decide +kernel
theorem d22_89 : decode prog_16_method_2_code 89 = .ok (.istore 4, 2) := by decide +kernel
theorem d22_91 : decode prog_16_method_2_code 91 = .ok (.goto (-44), 3) := by decide +kernel
theorem d22_94 : decode prog_16_method_2_code 94 = .ok (.iload_n 2, 1) := by decide +kernel
theorem d22_95 : decode prog_16_method_2_code 95 = .ok (.ireturn, 1) := by decide +kernel
theorem d18_0 : decode method_3_code 0 = .ok (.iconst 1, 1) := by decide +kernel
theorem d18_1 : decode method_3_code 1 = .ok (.iload_n 0, 1) := by decide +kernel
theorem d18_2 : decode method_3_code 2 = .ok (.iload_n 1, 1) := by decide +kernel
theorem d18_3 : decode method_3_code 3 = .ok (.iload_n 2, 1) := by decide +kernel
theorem d18_4 : decode method_3_code 4 = .ok (.invokestatic 7, 3) := by decide +kernel
theorem d18_7 : decode method_3_code 7 = .ok (.ifCond .ne 5, 3) := by decide +kernel
theorem d18_10 : decode method_3_code 10 = .ok (.iconst 1, 1) := by decide +kernel
theorem d18_11 : decode method_3_code 11 = .ok (.ireturn, 1) := by decide +kernel
theorem d18_12 : decode method_3_code 12 = .ok (.iconst 2, 1) := by decide +kernel
theorem d18_13 : decode method_3_code 13 = .ok (.iload_n 0, 1) := by decide +kernel
theorem d18_14 : decode method_3_code 14 = .ok (.iload_n 1, 1) := by decide +kernel
theorem d18_15 : decode method_3_code 15 = .ok (.iload_n 2, 1) := by decide +kernel
theorem d18_16 : decode method_3_code 16 = .ok (.invokestatic 7, 3) := by decide +kernel
theorem d18_19 : decode method_3_code 19 = .ok (.ifCond .ne 5, 3) := by decide +kernel
theorem d18_22 : decode method_3_code 22 = .ok (.iconst 2, 1) := by decide +kernel
theorem d18_23 : decode method_3_code 23 = .ok (.ireturn, 1) := by decide +kernel
theorem d18_24 : decode method_3_code 24 = .ok (.iconst 3, 1) := by decide +kernel
theorem d18_25 : decode method_3_code 25 = .ok (.iload_n 0, 1) := by decide +kernel
theorem d18_26 : decode method_3_code 26 = .ok (.iload_n 1, 1) := by decide +kernel
theorem d18_27 : decode method_3_code 27 = .ok (.iload_n 2, 1) := by decide +kernel
theorem d18_28 : decode method_3_code 28 = .ok (.invokestatic 7, 3) := by decide +kernel
theorem d18_31 : decode method_3_code 31 = .ok (.ifCond .ne 5, 3) := by decide +kernel
theorem d18_34 : decode method_3_code 34 = .ok (.iconst 3, 1) := by decide +kernel
theorem d18_35 : decode method_3_code 35 = .ok (.ireturn, 1) := by decide +kernel
theorem d18_36 : decode method_3_code 36 = .ok (.iconst 4, 1) := by decide +kernel
theorem d18_37 : decode method_3_code 37 = .ok (.ireturn, 1) := by decide +kernel
theorem d19_0 : decode method_2_code 0 = .ok (.iload_n 0, 1) := by decide +kernel
theorem d19_1 : decode method_2_code 1 = .ok (.iload_n 1, 1) := by decide +kernel
theorem d19_2 : decode method_2_code 2 = .ok (.if_icmp .eq 13, 3) := by decide +kernel
theorem d19_5 : decode method_2_code 5 = .ok (.iload_n 0, 1) := by decide +kernel
theorem d19_6 : decode method_2_code 6 = .ok (.iload_n 2, 1) := by decide +kernel
theorem d19_7 : decode method_2_code 7 = .ok (.if_icmp .eq 8, 3) := by decide +kernel
theorem d19_10 : decode method_2_code 10 = .ok (.iload_n 0, 1) := by decide +kernel
theorem d19_11 : decode method_2_code 11 = .ok (.iload_n 3, 1) := by decide +kernel
theorem d19_12 : decode method_2_code 12 = .ok (.if_icmp .ne 7, 3) := by decide +kernel
theorem d19_15 : decode method_2_code 15 = .ok (.iconst 1, 1) := by decide +kernel
theorem d19_16 : decode method_2_code 16 = .ok (.goto 4, 3) := by decide +kernel
theorem d19_19 : decode method_2_code 19 = .ok (.iconst 0, 1) := by decide +kernel
theorem d19_20 : decode method_2_code 20 = .ok (.ireturn, 1) := by decide +kernel
def upd {α : Type} (g : Nat → α) (j : Nat) (v : α) : Nat → α := fun i => if i = j then v else g i
theorem upd_same {α : Type} {g : Nat → α} {j : Nat} {v : α} : upd g j v j = v := if_pos rfl
theorem upd_ne {α : Type} {g : Nat → α} {i j : Nat} {v : α} (h : i ≠ j) : upd g j v i = g i := if_neg h
def Dst (o u f : Addr) (bs ts : Nat → Addr) : Prop := (o ≠ u ∧ o ≠ f ∧ u ≠ f) ∧ (∀ i, i < 2 → o ≠ bs i ∧ o ≠ ts i ∧ u ≠ bs i ∧ u ≠ ts i ∧ f ≠ bs i ∧ f ≠ ts i) ∧ (∀ i j, i < 2 → j < 2 → i ≠ j → bs i ≠ bs j ∧ bs i ≠ ts j ∧ ts i ≠ bs j ∧ ts i ≠ ts j)
theorem Dst.a {o u f : Addr} {bs ts : Nat → Addr} (D : Dst o u f bs ts) : o ≠ u ∧ o ≠ f ∧ u ≠ f := D.1
theorem Dst.b {o u f : Addr} {bs ts : Nat → Addr} (D : Dst o u f bs ts) : ∀ i, i < 2 → o ≠ bs i ∧ o ≠ ts i ∧ u ≠ bs i ∧ u ≠ ts i ∧ f ≠ bs i ∧ f ≠ ts i := D.2.1
theorem Dst.c {o u f : Addr} {bs ts : Nat → Addr} (D : Dst o u f bs ts) : ∀ i j, i < 2 → j < 2 → i ≠ j → bs i ≠ bs j ∧ bs i ≠ ts j ∧ ts i ≠ bs j ∧ ts i ≠ ts j := D.2.2
def LWs (Z : State) (h : Heap) (o u f : Addr) (bs ts : Nat → Addr) (ns : Nat → Int32) (xs : Nat → Int64) (fs : Nat → Int32) : Prop := Exa Z h o "com/example/lightweave/lightweave/planning/LinkWavelengths" ∧ Fld Z h o "com/example/lightweave/lightweave/planning/LinkWavelengths" "used" "[Ljava/util/BitSet;" (.ref u) ∧ Fld Z h o "com/example/lightweave/lightweave/planning/LinkWavelengths" "lowestFree" "[I" (.ref f) ∧ AryR Z h u "java/util/BitSet" 2 (fun i => .ref (bs i)) ∧ Ary Z h f .int 2 (fun i => .int (fs i)) ∧ (∀ i, i < 2 → BS Z h (bs i) (ts i) (ns i) (xs i)) ∧ Dst o u f bs ts
section LWsFacts
variable {Z : State} {h : Heap} {o u f : Addr} {bs ts : Nat → Addr} {ns : Nat → Int32} {xs : Nat → Int64} {fs : Nat → Int32}
theorem LWs.X (W : LWs Z h o u f bs ts ns xs fs) : Exa Z h o "com/example/lightweave/lightweave/planning/LinkWavelengths" := W.1
theorem LWs.U (W : LWs Z h o u f bs ts ns xs fs) : Fld Z h o "com/example/lightweave/lightweave/planning/LinkWavelengths" "used" "[Ljava/util/BitSet;" (.ref u) := W.2.1
theorem LWs.F (W : LWs Z h o u f bs ts ns xs fs) : Fld Z h o "com/example/lightweave/lightweave/planning/LinkWavelengths" "lowestFree" "[I" (.ref f) := W.2.2.1
theorem LWs.A (W : LWs Z h o u f bs ts ns xs fs) : AryR Z h u "java/util/BitSet" 2 (fun i => .ref (bs i)) := W.2.2.2.1
theorem LWs.L (W : LWs Z h o u f bs ts ns xs fs) : Ary Z h f .int 2 (fun i => .int (fs i)) := W.2.2.2.2.1
theorem LWs.B (W : LWs Z h o u f bs ts ns xs fs) : ∀ i, i < 2 → BS Z h (bs i) (ts i) (ns i) (xs i) := W.2.2.2.2.2.1
theorem LWs.D (W : LWs Z h o u f bs ts ns xs fs) : Dst o u f bs ts := W.2.2.2.2.2.2
end LWsFacts
theorem nin2 {a x y : Addr} (h1 : a ≠ x) (h2 : a ≠ y) : a ∉ [x, y] := by simp [h1, h2]
theorem LWs.bit {Z : State} {h h' : Heap} {o u f : Addr} {bs ts : Nat → Addr} {ns : Nat → Int32} {xs : Nat → Int64} {fs : Nat → Int32} {j : Nat} {n : Int32} {x : Int64} (W : LWs Z h o u f bs ts ns xs fs) (hj : j < 2) (K : Keep h h' [bs j, ts j]) (N : BS Z h' (bs j) (ts j) n x) : LWs Z h' o u f bs ts (upd ns j n) (upd xs j x) fs := by
  obtain ⟨d1, d2, d3, d4, d5, d6⟩ := W.D.b j hj
  refine ⟨W.X.keep K, W.U.keep K (nin2 d1 d2), W.F.keep K (nin2 d1 d2), W.A.keep K (nin2 d3 d4), W.L.keep K (nin2 d5 d6), fun i hi => ?_, W.D⟩
  by_cases e : i = j
  · subst e; rw [upd_same, upd_same]; exact N
  · rw [upd_ne e, upd_ne e]
    obtain ⟨c1, c2, c3, c4⟩ := W.D.c i j hi hj e
    exact (W.B i hi).keep K (nin2 c1 c2) (nin2 c3 c4)
theorem LWs.low {Z : State} {h h' : Heap} {o u f : Addr} {bs ts : Nat → Addr} {ns : Nat → Int32} {xs : Nat → Int64} {fs : Nat → Int32} {j : Nat} {x : Int32} (W : LWs Z h o u f bs ts ns xs fs) (V : Wr h h' f j (.int x)) : LWs Z h' o u f bs ts ns xs (upd fs j x) := by
  obtain ⟨a1, a2, a3⟩ := W.D.a
  refine ⟨W.X.wr V, W.U.other V (Or.inl a2), W.F.other V (Or.inl a2), W.A.other V a3, (W.L.same V).cong fun i hi => ?_, fun i hi => ?_, W.D⟩
  · by_cases e : i = j
    · subst e; rw [upd_same, if_pos rfl]
    · rw [upd_ne e, if_neg e]
  · obtain ⟨d1, d2, d3, d4, d5, d6⟩ := W.D.b i hi
    exact (W.B i hi).other V (Ne.symm d5) (Ne.symm d6)
theorem LWs.cong {Z : State} {h : Heap} {o u f : Addr} {bs ts : Nat → Addr} {ns ns' : Nat → Int32} {xs xs' : Nat → Int64} {fs fs' : Nat → Int32} (W : LWs Z h o u f bs ts ns xs fs) (q : ∀ i, i < 2 → ns i = ns' i ∧ xs i = xs' i ∧ fs i = fs' i) : LWs Z h o u f bs ts ns' xs' fs' :=
  ⟨W.X, W.U, W.F, W.A, W.L.cong fun i hi => by rw [(q i hi).2.2], fun i hi => by rw [← (q i hi).1, ← (q i hi).2.1]; exact W.B i hi, W.D⟩
def W7 (f : Addr) (bs ts : Nat → Addr) : List Addr := [f, bs 0, ts 0, bs 1, ts 1]
theorem W7.b {f : Addr} {bs ts : Nat → Addr} {j : Nat} (hj : j < 2) : bs j ∈ [f, bs 0, ts 0, bs 1, ts 1] := by
  have e : j = 0 ∨ j = 1 := (by omega)
  rcases e with rfl | rfl <;> simp
theorem W7.t {f : Addr} {bs ts : Nat → Addr} {j : Nat} (hj : j < 2) : ts j ∈ [f, bs 0, ts 0, bs 1, ts 1] := by
  have e : j = 0 ∨ j = 1 := (by omega)
  rcases e with rfl | rfl <;> simp
def lowT (f : Int32) (x : Int64) (w : Int32) : Int32 := if f = w then ncb (setX x w) (w + 1) else f
set_option maxRecDepth 65536 in
set_option maxHeartbeats 40000000 in
theorem c_take {l : Launch} {Z : State} {a0 : Array Value} (hw : ∀ d ∈ tables_1, d.before a0 Z = true) {n0 : Nat} {h0 : Heap} {o u f lk : Addr} {bs ts : Nat → Addr} {ns : Nat → Int32} {xs : Nat → Int64} {fs : Nat → Int32} {w : Int32} (S : AOff Z) (B : LWs Z h0 o u f bs ts ns xs fs) (hn : ∀ j, j < 2 → ns j = 0 ∨ ns j = 1) (A : Ary Z h0 lk .int 2 (fun i => .int (if i = 0 then 0 else 1))) (hne : lk ∉ [f, bs 0, ts 0, bs 1, ts 1]) (hs : Sm w) (hs1 : Sm (w + 1)) (hz : ∀ j, j < 2 → ¬ lcmpW (ncW (setX (xs j) w) (w + 1)) 0 = 0) : Con l Z n0 (⟨"com/example/lightweave/lightweave/planning/LinkWavelengths", "take", "([II)V"⟩ : MethodName) prog_16_method_4_code 7 none ({ frames := 3, cells := 0, slots := 0, locals := 47 } : Room) [.ref o, .ref lk, .int w] h0 [f, bs 0, ts 0, bs 1, ts 1] (fun v h' => v = none ∧ LWs Z h' o u f bs ts (fun _ => 1) (fun i => setX (xs i) w) (fun i => lowT (fs i) (xs i) w)) := by
  refine Con.of (Ls := [.val (.ref o), .val (.ref lk), .val (.int w), .unset, .unset, .unset, .unset]) (by decide +kernel) (fun m => by first | (simp [entryFrame, mkF, argsToLocals, Value.category]; done) | (rcases ref_cases hrw with rfl | ⟨b, rfl⟩ <;> rfl) | rfl) (fun p e s m below meth c => ?_)
  show Wp false p l e ({ frames := 3, cells := 0, slots := 0, locals := 47 } : Room) s m ([.ref o, .ref lk, .int w] : List Value).toArray below meth c Z "com/example/lightweave/lightweave/planning/LinkWavelengths" "take" prog_16_method_4_code 7 none n0 h0 [f, bs 0, ts 0, bs 1, ts 1] (fun v h' => v = none ∧ LWs Z h' o u f bs ts (fun _ => 1) (fun i => setX (xs i) w) (fun i => lowT (fs i) (xs i) w)) (fun _ => True) h0 0 0 0 [.val (.ref o), .val (.ref lk), .val (.int w), .unset, .unset, .unset, .unset] []
  have one : ∀ (j : Nat) (jI : Int32) (sl : Slot) (ms : Nat → Int32) (ys : Nat → Int64) (gs : Nat → Int32) (h : Heap), j < 2 → jI.toInt = (j : Int) → (Value.int jI = Value.int (if j = 0 then 0 else 1)) → oneB sl = true → LWs Z h o u f bs ts ms ys gs → (ms j = 0 ∨ ms j = 1) → ¬ lcmpW (ncW (setX (ys j) w) (w + 1)) 0 = 0 → (∀ h', LWs Z h' o u f bs ts (upd ms j 1) (upd ys j (setX (ys j) w)) (upd gs j (lowT (gs j) (ys j) w)) → Wp false p l e ({ frames := 3, cells := 0, slots := 0, locals := 47 } : Room) s m ([.ref o, .ref lk, .int w] : List Value).toArray below meth c Z "com/example/lightweave/lightweave/planning/LinkWavelengths" "take" prog_16_method_4_code 7 none n0 h0 [f, bs 0, ts 0, bs 1, ts 1] (fun v h' => v = none ∧ LWs Z h' o u f bs ts (fun _ => 1) (fun i => setX (xs i) w) (fun i => lowT (fs i) (xs i) w)) (fun _ => True) h' 0 0 9 [.val (.ref o), .val (.ref lk), .val (.int w), .val (.ref lk), .val (.int 2), .val (.int (jI + 1)), .val (.int jI)] []) → Wp false p l e ({ frames := 3, cells := 0, slots := 0, locals := 47 } : Room) s m ([.ref o, .ref lk, .int w] : List Value).toArray below meth c Z "com/example/lightweave/lightweave/planning/LinkWavelengths" "take" prog_16_method_4_code 7 none n0 h0 [f, bs 0, ts 0, bs 1, ts 1] (fun v h' => v = none ∧ LWs Z h' o u f bs ts (fun _ => 1) (fun i => setX (xs i) w) (fun i => lowT (fs i) (xs i) w)) (fun _ => True) h 0 0 9 [.val (.ref o), .val (.ref lk), .val (.int w), .val (.ref lk), .val (.int 2), .val (.int jI), sl] [] := by
    intro j jI sl ms ys gs h hj hjI hjv hsl C hm hzz g
    have lt : jI < 2 := by
      have e2 : (2 : Int32).toInt = 2 := rfl
      rw [own_lt, hjI, e2]; omega
    refine iload (q1 := 11) d6_9 rfl rfl ?_
    refine iload (q1 := 13) d6_11 rfl rfl ?_
    refine icmp_ge (q1 := 16) (q := 70) d6_13 rfl ⟨by decide, rfl⟩ (fun hq => absurd lt hq) (fun _ => ?_)
    refine kept fun K O => ?_
    refine aload_n (q1 := 17) d6_16 rfl rfl rfl ?_
    refine iload (q1 := 19) d6_17 rfl rfl ?_
    refine iaload (q1 := 20) d6_19 rfl (A.keep K hne) hjI hj hjv.symm ?_
    refine istore (q1 := 22) d6_20 rfl hsl ?_
    simp only [List.set_cons_zero, List.set_cons_succ]
    refine aload_n (q1 := 23) d6_22 rfl rfl rfl ?_
    refine getfield (q1 := 26) d6_23 rfl (ww hw 13 rfl) Via.refl (C.U) ?_
    refine iload (q1 := 28) d6_26 rfl rfl ?_
    refine aaload (q1 := 29) d6_28 rfl (C.A.ary) rfl hjI hj rfl ?_
    refine iload_n (q1 := 30) d6_29 rfl rfl ?_
    refine invokevirt (q1 := 33) d6_30 rfl (ww hw 44 rfl) (ww hw 45 rfl) (ww hw 47 rfl) (ww hw 46 rfl) (ww hw 18 rfl) (ww hw 48 rfl) (by decide) pd0 ((C.B j hj).1) (c_bse hw S (C.B j hj) hm hs) rfl rfl rfl rfl (allS (Or.inl (W7.b hj)) (allS (Or.inl (W7.t hj)) all0)) (fun v h1 q K1 => ?_)
    obtain ⟨rfl, B1⟩ := q
    have C1 := C.bit hj K1 B1
    refine aload_n (q1 := 34) d6_33 rfl rfl rfl ?_
    refine getfield (q1 := 37) d6_34 rfl (ww hw 15 rfl) Via.refl (C1.F) ?_
    refine iload (q1 := 39) d6_37 rfl rfl ?_
    refine iaload (q1 := 40) d6_39 rfl (C1.L) hjI hj rfl ?_
    refine iload_n (q1 := 41) d6_40 rfl rfl ?_
    refine icmp_ne (q1 := 44) (q := 64) d6_41 rfl ⟨by decide, rfl⟩ (fun hq => ?_) (fun hq => ?_)
    · refine iinc (q1 := 67) (v := 1) d6_64 rfl rfl rfl ?_
      simp only [List.set_cons_zero, List.set_cons_succ]
      refine goto (q := 9) d6_67 ⟨by decide, rfl⟩ ?_
      refine g _ (C1.cong fun i hi => ⟨rfl, rfl, ?_⟩)
      by_cases e : i = j
      · subst e; rw [upd_same]; unfold lowT; rw [if_neg hq]
      · rw [upd_ne e]
    · refine aload_n (q1 := 45) d6_44 rfl rfl rfl ?_
      refine getfield (q1 := 48) d6_45 rfl (ww hw 15 rfl) Via.refl (C1.F) ?_
      refine iload (q1 := 50) d6_48 rfl rfl ?_
      refine aload_n (q1 := 51) d6_50 rfl rfl rfl ?_
      refine getfield (q1 := 54) d6_51 rfl (ww hw 13 rfl) Via.refl (C1.U) ?_
      refine iload (q1 := 56) d6_54 rfl rfl ?_
      refine aaload (q1 := 57) d6_56 rfl (C1.A.ary) rfl hjI hj rfl ?_
      refine iload_n (q1 := 58) d6_57 rfl rfl ?_
      refine iconst (q1 := 59) (v := 1) d6_58 rfl rfl ?_
      refine iadd (q1 := 60) d6_59 rfl ?_
      refine invokevirt (q1 := 63) d6_60 rfl (ww hw 65 rfl) (ww hw 66 rfl) (ww hw 68 rfl) (ww hw 67 rfl) (ww hw 18 rfl) (ww hw 69 rfl) (by decide) pd2 (B1.1) (c_ncb hw S B1 hs1 hzz) rfl rfl rfl rfl all0 (fun v h2 q _ => ?_)
      obtain ⟨rfl, rfl⟩ := q
      refine iastore (q1 := 64) d6_63 rfl (C1.L) hjI hj (Or.inl own_in1) (fun h63 W63 => ?_)
      refine iinc (q1 := 67) (v := 1) d6_64 rfl rfl rfl ?_
      simp only [List.set_cons_zero, List.set_cons_succ]
      refine goto (q := 9) d6_67 ⟨by decide, rfl⟩ ?_
      refine g _ ((C1.low W63).cong fun i hi => ⟨rfl, rfl, ?_⟩)
      by_cases e : i = j
      · subst e; rw [upd_same, upd_same]; unfold lowT; rw [if_pos hq]
      · rw [upd_ne e, upd_ne e]
  refine aload_n (q1 := 1) d6_0 rfl rfl rfl ?_
  refine astore_n (q1 := 2) (jj := 3) d6_1 rfl rfl rfl rfl ?_
  simp only [List.set_cons_zero, List.set_cons_succ]
  refine aload_n (q1 := 3) d6_2 rfl rfl rfl ?_
  refine arraylength (q1 := 4) (z := 2) d6_3 rfl (A) rfl ?_
  refine istore (q1 := 6) d6_4 rfl rfl ?_
  simp only [List.set_cons_zero, List.set_cons_succ]
  refine iconst (q1 := 7) (v := 0) d6_6 rfl rfl ?_
  refine istore (q1 := 9) d6_7 rfl rfl ?_
  simp only [List.set_cons_zero, List.set_cons_succ]
  refine one 0 0 _ _ _ _ _ (by decide) rfl rfl rfl B (hn 0 (by decide)) (hz 0 (by decide)) fun h1 C1 => ?_
  refine one 1 _ _ _ _ _ _ (by decide) rfl rfl rfl C1 (by rw [upd_ne (by decide)]; exact hn 1 (by decide)) (by rw [upd_ne (by decide)]; exact hz 1 (by decide)) fun h2 C2 => ?_
  refine iload (q1 := 11) d6_9 rfl rfl ?_
  refine iload (q1 := 13) d6_11 rfl rfl ?_
  refine icmp_ge (q1 := 16) (q := 70) d6_13 rfl ⟨by decide, rfl⟩ (fun _ => ?_) (fun hq => absurd hq (by decide))
  refine ret_v d6_70 rfl rfl ⟨rfl, C2.cong fun i hi => ?_⟩
  have e : i = 0 ∨ i = 1 := (by omega)
  rcases e with rfl | rfl
  · simp [upd]
  · simp [upd]
set_option maxRecDepth 65536 in
set_option maxHeartbeats 40000000 in
theorem c_free {l : Launch} {Z : State} {a0 : Array Value} (hw : ∀ d ∈ tables_1, d.before a0 Z = true) {n0 : Nat} {h0 : Heap} {o u f lk : Addr} {bs ts : Nat → Addr} {xs : Nat → Int64} {fs : Nat → Int32} {w lI : Int32} {len : Nat} (S : AOff Z) (B : LWs Z h0 o u f bs ts (fun _ => 1) xs fs) (hl : (len = 1 ∧ lI = 1) ∨ (len = 2 ∧ lI = 2)) (A : Ary Z h0 lk .int len (fun i => .int (if i = 0 then 0 else 1))) (hne : lk ∉ [f, bs 0, ts 0, bs 1, ts 1]) (hs : Sm w) (hz : ∀ j, j < 2 → ¬ lcmpW (clrX (xs j) w) 0 = 0) : Con l Z n0 (⟨"com/example/lightweave/lightweave/planning/LinkWavelengths", "free", "([II)V"⟩ : MethodName) prog_16_method_5_code 7 none ({ frames := 2, cells := 0, slots := 0, locals := 27 } : Room) [.ref o, .ref lk, .int w] h0 [f, bs 0, ts 0, bs 1, ts 1] (fun v h' => v = none ∧ LWs Z h' o u f bs ts (fun _ => 1) (fun i => if i < len then clrX (xs i) w else xs i) (fun i => if i < len then minI (fs i) w else fs i)) := by
  refine Con.of (Ls := [.val (.ref o), .val (.ref lk), .val (.int w), .unset, .unset, .unset, .unset]) (by decide +kernel) (fun m => by first | (simp [entryFrame, mkF, argsToLocals, Value.category]; done) | (rcases ref_cases hrw with rfl | ⟨b, rfl⟩ <;> rfl) | rfl) (fun p e s m below meth c => ?_)
  show Wp false p l e ({ frames := 2, cells := 0, slots := 0, locals := 27 } : Room) s m ([.ref o, .ref lk, .int w] : List Value).toArray below meth c Z "com/example/lightweave/lightweave/planning/LinkWavelengths" "free" prog_16_method_5_code 7 none n0 h0 [f, bs 0, ts 0, bs 1, ts 1] (fun v h' => v = none ∧ LWs Z h' o u f bs ts (fun _ => 1) (fun i => if i < len then clrX (xs i) w else xs i) (fun i => if i < len then minI (fs i) w else fs i)) (fun _ => True) h0 0 0 0 [.val (.ref o), .val (.ref lk), .val (.int w), .unset, .unset, .unset, .unset] []
  have one : ∀ (j : Nat) (jI : Int32) (sl : Slot) (ys : Nat → Int64) (gs : Nat → Int32) (h : Heap), j < 2 → j < len → jI < lI → jI.toInt = (j : Int) → (Value.int jI = Value.int (if j = 0 then 0 else 1)) → oneB sl = true → LWs Z h o u f bs ts (fun _ => 1) ys gs → ¬ lcmpW (clrX (ys j) w) 0 = 0 → (∀ h', LWs Z h' o u f bs ts (fun _ => 1) (upd ys j (clrX (ys j) w)) (upd gs j (minI (gs j) w)) → Wp false p l e ({ frames := 2, cells := 0, slots := 0, locals := 27 } : Room) s m ([.ref o, .ref lk, .int w] : List Value).toArray below meth c Z "com/example/lightweave/lightweave/planning/LinkWavelengths" "free" prog_16_method_5_code 7 none n0 h0 [f, bs 0, ts 0, bs 1, ts 1] (fun v h' => v = none ∧ LWs Z h' o u f bs ts (fun _ => 1) (fun i => if i < len then clrX (xs i) w else xs i) (fun i => if i < len then minI (fs i) w else fs i)) (fun _ => True) h' 0 0 9 [.val (.ref o), .val (.ref lk), .val (.int w), .val (.ref lk), .val (.int lI), .val (.int (jI + 1)), .val (.int jI)] []) → Wp false p l e ({ frames := 2, cells := 0, slots := 0, locals := 27 } : Room) s m ([.ref o, .ref lk, .int w] : List Value).toArray below meth c Z "com/example/lightweave/lightweave/planning/LinkWavelengths" "free" prog_16_method_5_code 7 none n0 h0 [f, bs 0, ts 0, bs 1, ts 1] (fun v h' => v = none ∧ LWs Z h' o u f bs ts (fun _ => 1) (fun i => if i < len then clrX (xs i) w else xs i) (fun i => if i < len then minI (fs i) w else fs i)) (fun _ => True) h 0 0 9 [.val (.ref o), .val (.ref lk), .val (.int w), .val (.ref lk), .val (.int lI), .val (.int jI), sl] [] := by
    intro j jI sl ys gs h hj hjl lt hjI hjv hsl C hzz g
    refine iload (q1 := 11) d14_9 rfl rfl ?_
    refine iload (q1 := 13) d14_11 rfl rfl ?_
    refine icmp_ge (q1 := 16) (q := 57) d14_13 rfl ⟨by decide, rfl⟩ (fun hq => absurd lt hq) (fun _ => ?_)
    refine kept fun K O => ?_
    refine aload_n (q1 := 17) d14_16 rfl rfl rfl ?_
    refine iload (q1 := 19) d14_17 rfl rfl ?_
    refine iaload (q1 := 20) d14_19 rfl (A.keep K hne) hjI hjl hjv.symm ?_
    refine istore (q1 := 22) d14_20 rfl hsl ?_
    simp only [List.set_cons_zero, List.set_cons_succ]
    refine aload_n (q1 := 23) d14_22 rfl rfl rfl ?_
    refine getfield (q1 := 26) d14_23 rfl (ww hw 13 rfl) Via.refl (C.U) ?_
    refine iload (q1 := 28) d14_26 rfl rfl ?_
    refine aaload (q1 := 29) d14_28 rfl (C.A.ary) rfl hjI hj rfl ?_
    refine iload_n (q1 := 30) d14_29 rfl rfl ?_
    refine invokevirt (q1 := 33) d14_30 rfl (ww hw 85 rfl) (ww hw 86 rfl) (ww hw 88 rfl) (ww hw 87 rfl) (ww hw 18 rfl) (ww hw 89 rfl) (by decide) pd0 ((C.B j hj).1) (c_bcl hw S (C.B j hj) hs hzz) rfl rfl rfl rfl (allS (Or.inl (W7.b hj)) (allS (Or.inl (W7.t hj)) all0)) (fun v h1 q K1 => ?_)
    obtain ⟨rfl, B1⟩ := q
    have C1 := C.bit hj K1 B1
    refine aload_n (q1 := 34) d14_33 rfl rfl rfl ?_
    refine getfield (q1 := 37) d14_34 rfl (ww hw 15 rfl) Via.refl (C1.F) ?_
    refine iload (q1 := 39) d14_37 rfl rfl ?_
    refine aload_n (q1 := 40) d14_39 rfl rfl rfl ?_
    refine getfield (q1 := 43) d14_40 rfl (ww hw 15 rfl) Via.refl (C1.F) ?_
    refine iload (q1 := 45) d14_43 rfl rfl ?_
    refine iaload (q1 := 46) d14_45 rfl (C1.L) hjI hj rfl ?_
    refine iload_n (q1 := 47) d14_46 rfl rfl ?_
    refine invokestatic (q1 := 50) d14_47 rfl (ww hw 95 rfl) (ww hw 96 rfl) (ww hw 97 rfl) (ww hw 98 rfl) (by decide) pd5 (c_min hw) rfl rfl rfl rfl all0 (fun v h2 q _ => ?_)
    obtain ⟨rfl, rfl⟩ := q
    refine iastore (q1 := 51) d14_50 rfl (C1.L) hjI hj (Or.inl own_in1) (fun h50 W50 => ?_)
    refine iinc (q1 := 54) (v := 1) d14_51 rfl rfl rfl ?_
    simp only [List.set_cons_zero, List.set_cons_succ]
    refine goto (q := 9) d14_54 ⟨by decide, rfl⟩ ?_
    refine g _ ((C1.low W50).cong fun i hi => ⟨?_, rfl, rfl⟩)
    by_cases e : i = j
    · subst e; rw [upd_same]
    · rw [upd_ne e]
  rcases hl with ⟨rfl, rfl⟩ | ⟨rfl, rfl⟩
  · refine aload_n (q1 := 1) d14_0 rfl rfl rfl ?_
    refine astore_n (q1 := 2) (jj := 3) d14_1 rfl rfl rfl rfl ?_
    simp only [List.set_cons_zero, List.set_cons_succ]
    refine aload_n (q1 := 3) d14_2 rfl rfl rfl ?_
    refine arraylength (q1 := 4) (z := 1) d14_3 rfl (A) rfl ?_
    refine istore (q1 := 6) d14_4 rfl rfl ?_
    simp only [List.set_cons_zero, List.set_cons_succ]
    refine iconst (q1 := 7) (v := 0) d14_6 rfl rfl ?_
    refine istore (q1 := 9) d14_7 rfl rfl ?_
    simp only [List.set_cons_zero, List.set_cons_succ]
    refine one 0 0 _ _ _ _ (by decide) (by decide) (by decide) rfl rfl rfl B (hz 0 (by decide)) fun h1 C1 => ?_
    refine iload (q1 := 11) d14_9 rfl rfl ?_
    refine iload (q1 := 13) d14_11 rfl rfl ?_
    refine icmp_ge (q1 := 16) (q := 57) d14_13 rfl ⟨by decide, rfl⟩ (fun _ => ?_) (fun hq => absurd hq (by decide))
    refine ret_v d14_57 rfl rfl ⟨rfl, C1.cong fun i hi => ?_⟩
    have e : i = 0 ∨ i = 1 := (by omega)
    rcases e with rfl | rfl
    · simp [upd]
    · simp [upd]
  · refine aload_n (q1 := 1) d14_0 rfl rfl rfl ?_
    refine astore_n (q1 := 2) (jj := 3) d14_1 rfl rfl rfl rfl ?_
    simp only [List.set_cons_zero, List.set_cons_succ]
    refine aload_n (q1 := 3) d14_2 rfl rfl rfl ?_
    refine arraylength (q1 := 4) (z := 2) d14_3 rfl (A) rfl ?_
    refine istore (q1 := 6) d14_4 rfl rfl ?_
    simp only [List.set_cons_zero, List.set_cons_succ]
    refine iconst (q1 := 7) (v := 0) d14_6 rfl rfl ?_
    refine istore (q1 := 9) d14_7 rfl rfl ?_
    simp only [List.set_cons_zero, List.set_cons_succ]
    refine one 0 0 _ _ _ _ (by decide) (by decide) (by decide) rfl rfl rfl B (hz 0 (by decide)) fun h1 C1 => ?_
    refine one 1 _ _ _ _ _ (by decide) (by decide) (by decide) rfl rfl rfl C1 (by rw [upd_ne (by decide)]; exact hz 1 (by decide)) fun h2 C2 => ?_
    refine iload (q1 := 11) d14_9 rfl rfl ?_
    refine iload (q1 := 13) d14_11 rfl rfl ?_
    refine icmp_ge (q1 := 16) (q := 57) d14_13 rfl ⟨by decide, rfl⟩ (fun _ => ?_) (fun hq => absurd hq (by decide))
    refine ret_v d14_57 rfl rfl ⟨rfl, C2.cong fun i hi => ?_⟩
    have e : i = 0 ∨ i = 1 := (by omega)
    rcases e with rfl | rfl
    · simp [upd]
    · simp [upd]
def freeI (x : Int64) (w : Int32) : Int32 := if getX x w = 0 then 1 else 0
set_option maxRecDepth 65536 in
set_option maxHeartbeats 40000000 in
theorem c_isf {l : Launch} {Z : State} {a0 : Array Value} (hw : ∀ d ∈ tables_1, d.before a0 Z = true) {n0 : Nat} {h0 : Heap} {o u f lk : Addr} {bs ts : Nat → Addr} {xs : Nat → Int64} {fs : Nat → Int32} {w jI : Int32} {j : Nat} (S : AOff Z) (B : LWs Z h0 o u f bs ts (fun _ => 1) xs fs) (A : Ary Z h0 lk .int 1 (fun _ => .int jI)) (hj : j < 2) (hjI : jI.toInt = (j : Int)) (hs : Sm w) : Con l Z n0 (⟨"com/example/lightweave/lightweave/planning/LinkWavelengths", "isFreeOnAll", "([II)Z"⟩ : MethodName) prog_16_method_3_code 7 (some .boolean) ({ frames := 2, cells := 0, slots := 0, locals := 26 } : Room) [.ref o, .ref lk, .int w] h0 [] (fun v h' => v = some (.int (freeI (xs j) w)) ∧ h' = h0) := by
  refine Con.of (Ls := [.val (.ref o), .val (.ref lk), .val (.int w), .unset, .unset, .unset, .unset]) (by decide +kernel) (fun m => by first | (simp [entryFrame, mkF, argsToLocals, Value.category]; done) | (rcases ref_cases hrw with rfl | ⟨b, rfl⟩ <;> rfl) | rfl) (fun p e s m below meth c => ?_)
  show Wp false p l e ({ frames := 2, cells := 0, slots := 0, locals := 26 } : Room) s m ([.ref o, .ref lk, .int w] : List Value).toArray below meth c Z "com/example/lightweave/lightweave/planning/LinkWavelengths" "isFreeOnAll" prog_16_method_3_code 7 (some .boolean) n0 h0 [] (fun v h' => v = some (.int (freeI (xs j) w)) ∧ h' = h0) (fun _ => True) h0 0 0 0 [.val (.ref o), .val (.ref lk), .val (.int w), .unset, .unset, .unset, .unset] []
  refine aload_n (q1 := 1) d20_0 rfl rfl rfl ?_
  refine astore_n (q1 := 2) (jj := 3) d20_1 rfl rfl rfl rfl ?_
  simp only [List.set_cons_zero, List.set_cons_succ]
  refine aload_n (q1 := 3) d20_2 rfl rfl rfl ?_
  refine arraylength (q1 := 4) (z := 1) d20_3 rfl (A) rfl ?_
  refine istore (q1 := 6) d20_4 rfl rfl ?_
  simp only [List.set_cons_zero, List.set_cons_succ]
  refine iconst (q1 := 7) (v := 0) d20_6 rfl rfl ?_
  refine istore (q1 := 9) d20_7 rfl rfl ?_
  simp only [List.set_cons_zero, List.set_cons_succ]
  refine iload (q1 := 11) d20_9 rfl rfl ?_
  refine iload (q1 := 13) d20_11 rfl rfl ?_
  refine icmp_ge (q1 := 16) (q := 44) d20_13 rfl ⟨by decide, rfl⟩ (fun hq => absurd (by decide) hq) (fun _ => ?_)
  refine aload_n (q1 := 17) d20_16 rfl rfl rfl ?_
  refine iload (q1 := 19) d20_17 rfl rfl ?_
  refine iaload (q1 := 20) (i := 0) d20_19 rfl (A) rfl (by decide) rfl ?_
  refine istore (q1 := 22) d20_20 rfl rfl ?_
  simp only [List.set_cons_zero, List.set_cons_succ]
  refine aload_n (q1 := 23) d20_22 rfl rfl rfl ?_
  refine getfield (q1 := 26) d20_23 rfl (ww hw 13 rfl) Via.refl (B.U) ?_
  refine iload (q1 := 28) d20_26 rfl rfl ?_
  refine aaload (q1 := 29) d20_28 rfl (B.A.ary) rfl hjI hj rfl ?_
  refine iload_n (q1 := 30) d20_29 rfl rfl ?_
  refine invokevirt (q1 := 33) d20_30 rfl (ww hw 111 rfl) (ww hw 112 rfl) (ww hw 114 rfl) (ww hw 113 rfl) (ww hw 18 rfl) (ww hw 115 rfl) (by decide) pd9 ((B.B j hj).1) (c_bge hw S (B.B j hj) hs) rfl rfl rfl rfl all0 (fun v h1 q _ => ?_)
  obtain ⟨rfl, rfl⟩ := q
  refine if_eq (q1 := 36) (q := 38) d20_33 rfl ⟨by decide, rfl⟩ (fun hq => ?_) (fun hq => ?_)
  · refine iinc (q1 := 41) (v := 1) d20_38 rfl rfl rfl ?_
    simp only [List.set_cons_zero, List.set_cons_succ]
    refine goto (q := 9) d20_41 ⟨by decide, rfl⟩ ?_
    refine iload (q1 := 11) d20_9 rfl rfl ?_
    refine iload (q1 := 13) d20_11 rfl rfl ?_
    refine icmp_ge (q1 := 16) (q := 44) d20_13 rfl ⟨by decide, rfl⟩ (fun _ => ?_) (fun hq => absurd hq (by decide))
    refine iconst (q1 := 45) (v := 1) d20_44 rfl rfl ?_
    refine ret_n (t := .boolean) d20_45 rfl (by simp) rfl ⟨by unfold freeI; rw [if_pos hq]; rfl, rfl⟩
  · refine iconst (q1 := 37) (v := 0) d20_36 rfl rfl ?_
    refine ret_n (t := .boolean) d20_37 rfl (by simp) rfl ⟨by unfold freeI; rw [if_neg hq]; rfl, rfl⟩
set_option maxRecDepth 65536 in
set_option maxHeartbeats 40000000 in
theorem c_low {l : Launch} {Z : State} {a0 : Array Value} (hw : ∀ d ∈ tables_1, d.before a0 Z = true) {n0 : Nat} {h0 : Heap} {o u f lk : Addr} {bs ts : Nat → Addr} {xs : Nat → Int64} {fs : Nat → Int32} {jI : Int32} {j : Nat} (S : AOff Z) (B : LWs Z h0 o u f bs ts (fun _ => 1) xs fs) (A : Ary Z h0 lk .int 1 (fun _ => .int jI)) (hj : j < 2) (hjI : jI.toInt = (j : Int)) (hs : Sm (maxI 1 (fs j))) (hz : ¬ lcmpW (ncW (xs j) (maxI 1 (fs j))) 0 = 0) : Con l Z n0 (⟨"com/example/lightweave/lightweave/planning/LinkWavelengths", "lowestFreeOnAll", "([I)I"⟩ : MethodName) prog_16_method_2_code 7 (some .int) ({ frames := 3, cells := 0, slots := 0, locals := 45 } : Room) [.ref o, .ref lk] h0 [] (fun v h' => v = some (.int (ncb (xs j) (maxI 1 (fs j)))) ∧ h' = h0) := by
  refine Con.of (Ls := [.val (.ref o), .val (.ref lk), .unset, .unset, .unset, .unset, .unset]) (by decide +kernel) (fun m => by first | (simp [entryFrame, mkF, argsToLocals, Value.category]; done) | (rcases ref_cases hrw with rfl | ⟨b, rfl⟩ <;> rfl) | rfl) (fun p e s m below meth c => ?_)
  show Wp false p l e ({ frames := 3, cells := 0, slots := 0, locals := 45 } : Room) s m ([.ref o, .ref lk] : List Value).toArray below meth c Z "com/example/lightweave/lightweave/planning/LinkWavelengths" "lowestFreeOnAll" prog_16_method_2_code 7 (some .int) n0 h0 [] (fun v h' => v = some (.int (ncb (xs j) (maxI 1 (fs j)))) ∧ h' = h0) (fun _ => True) h0 0 0 0 [.val (.ref o), .val (.ref lk), .unset, .unset, .unset, .unset, .unset] []
  refine iconst (q1 := 1) (v := 1) d22_0 rfl rfl ?_
  refine istore_n (q1 := 2) (jj := 2) d22_1 rfl rfl rfl ?_
  simp only [List.set_cons_zero, List.set_cons_succ]
  refine aload_n (q1 := 3) d22_2 rfl rfl rfl ?_
  refine astore_n (q1 := 4) (jj := 3) d22_3 rfl rfl rfl rfl ?_
  simp only [List.set_cons_zero, List.set_cons_succ]
  refine aload_n (q1 := 5) d22_4 rfl rfl rfl ?_
  refine arraylength (q1 := 6) (z := 1) d22_5 rfl (A) rfl ?_
  refine istore (q1 := 8) d22_6 rfl rfl ?_
  simp only [List.set_cons_zero, List.set_cons_succ]
  refine iconst (q1 := 9) (v := 0) d22_8 rfl rfl ?_
  refine istore (q1 := 11) d22_9 rfl rfl ?_
  simp only [List.set_cons_zero, List.set_cons_succ]
  refine iload (q1 := 13) d22_11 rfl rfl ?_
  refine iload (q1 := 15) d22_13 rfl rfl ?_
  refine icmp_ge (q1 := 18) (q := 42) d22_15 rfl ⟨by decide, rfl⟩ (fun hq => absurd (by decide) hq) (fun _ => ?_)
  refine aload_n (q1 := 19) d22_18 rfl rfl rfl ?_
  refine iload (q1 := 21) d22_19 rfl rfl ?_
  refine iaload (q1 := 22) (i := 0) d22_21 rfl (A) rfl (by decide) rfl ?_
  refine istore (q1 := 24) d22_22 rfl rfl ?_
  simp only [List.set_cons_zero, List.set_cons_succ]
  refine iload_n (q1 := 25) d22_24 rfl rfl ?_
  refine aload_n (q1 := 26) d22_25 rfl rfl rfl ?_
  refine getfield (q1 := 29) d22_26 rfl (ww hw 15 rfl) Via.refl (B.F) ?_
  refine iload (q1 := 31) d22_29 rfl rfl ?_
  refine iaload (q1 := 32) d22_31 rfl (B.L) hjI hj rfl ?_
  refine invokestatic (q1 := 35) d22_32 rfl (ww hw 121 rfl) (ww hw 122 rfl) (ww hw 97 rfl) (ww hw 123 rfl) (by decide) pd5 (c_max hw) rfl rfl rfl rfl all0 (fun v h1 q _ => ?_)
  obtain ⟨rfl, rfl⟩ := q
  refine istore_n (q1 := 36) (jj := 2) d22_35 rfl rfl rfl ?_
  simp only [List.set_cons_zero, List.set_cons_succ]
  refine iinc (q1 := 39) (v := 1) d22_36 rfl rfl rfl ?_
  simp only [List.set_cons_zero, List.set_cons_succ]
  refine goto (q := 11) d22_39 ⟨by decide, rfl⟩ ?_
  refine iload (q1 := 13) d22_11 rfl rfl ?_
  refine iload (q1 := 15) d22_13 rfl rfl ?_
  refine icmp_ge (q1 := 18) (q := 42) d22_15 rfl ⟨by decide, rfl⟩ (fun _ => ?_) (fun hq => absurd hq (by decide))
  refine iconst (q1 := 43) (v := 0) d22_42 rfl rfl ?_
  refine istore_n (q1 := 44) (jj := 3) d22_43 rfl rfl rfl ?_
  simp only [List.set_cons_zero, List.set_cons_succ]
  refine iconst (q1 := 45) (v := 0) d22_44 rfl rfl ?_
  refine istore (q1 := 47) d22_45 rfl rfl ?_
  simp only [List.set_cons_zero, List.set_cons_succ]
  refine iload_n (q1 := 48) d22_47 rfl rfl ?_
  refine aload_n (q1 := 49) d22_48 rfl rfl rfl ?_
  refine arraylength (q1 := 50) (z := 1) d22_49 rfl (A) rfl ?_
  refine icmp_ge (q1 := 53) (q := 94) d22_50 rfl ⟨by decide, rfl⟩ (fun hq => absurd (by decide) hq) (fun _ => ?_)
  refine aload_n (q1 := 54) d22_53 rfl rfl rfl ?_
  refine getfield (q1 := 57) d22_54 rfl (ww hw 13 rfl) Via.refl (B.U) ?_
  refine aload_n (q1 := 58) d22_57 rfl rfl rfl ?_
  refine iload (q1 := 60) d22_58 rfl rfl ?_
  refine iaload (q1 := 61) (i := 0) d22_60 rfl (A) rfl (by decide) rfl ?_
  refine aaload (q1 := 62) d22_61 rfl (B.A.ary) rfl hjI hj rfl ?_
  refine iload_n (q1 := 63) d22_62 rfl rfl ?_
  refine invokevirt (q1 := 66) d22_63 rfl (ww hw 65 rfl) (ww hw 66 rfl) (ww hw 68 rfl) (ww hw 67 rfl) (ww hw 18 rfl) (ww hw 69 rfl) (by decide) pd2 ((B.B j hj).1) (c_ncb hw S (B.B j hj) hs hz) rfl rfl rfl rfl all0 (fun v h1 q _ => ?_)
  obtain ⟨rfl, rfl⟩ := q
  refine istore (q1 := 68) d22_66 rfl rfl ?_
  simp only [List.set_cons_zero, List.set_cons_succ]
  refine iload (q1 := 70) d22_68 rfl rfl ?_
  refine iload_n (q1 := 71) d22_70 rfl rfl ?_
  refine icmp_eq (q1 := 74) (q := 79) d22_71 rfl ⟨by decide, rfl⟩ (fun hq => ?_) (fun hq => ?_)
  · refine iinc (q1 := 82) (v := 1) d22_79 rfl rfl rfl ?_
    simp only [List.set_cons_zero, List.set_cons_succ]
    refine iload (q1 := 84) d22_82 rfl rfl ?_
    refine iconst (q1 := 85) (v := 1) d22_84 rfl rfl ?_
    refine iadd (q1 := 86) d22_85 rfl ?_
    refine aload_n (q1 := 87) d22_86 rfl rfl rfl ?_
    refine arraylength (q1 := 88) (z := 1) d22_87 rfl (A) rfl ?_
    refine irem (q1 := 89) d22_88 rfl (by decide) ?_
    refine istore (q1 := 91) d22_89 rfl rfl ?_
    simp only [List.set_cons_zero, List.set_cons_succ]
    refine goto (q := 47) d22_91 ⟨by decide, rfl⟩ ?_
    refine iload_n (q1 := 48) d22_47 rfl rfl ?_
    refine aload_n (q1 := 49) d22_48 rfl rfl rfl ?_
    refine arraylength (q1 := 50) (z := 1) d22_49 rfl (A) rfl ?_
    refine icmp_ge (q1 := 53) (q := 94) d22_50 rfl ⟨by decide, rfl⟩ (fun _ => ?_) (fun hq => absurd hq (by decide))
    refine iload_n (q1 := 95) d22_94 rfl rfl ?_
    refine ret_i d22_95 rfl rfl ⟨by rw [hq], rfl⟩
  · refine iload (q1 := 76) d22_74 rfl rfl ?_
    refine istore_n (q1 := 77) (jj := 2) d22_76 rfl rfl rfl ?_
    simp only [List.set_cons_zero, List.set_cons_succ]
    refine iconst (q1 := 78) (v := 0) d22_77 rfl rfl ?_
    refine istore_n (q1 := 79) (jj := 3) d22_78 rfl rfl rfl ?_
    simp only [List.set_cons_zero, List.set_cons_succ]
    refine iinc (q1 := 82) (v := 1) d22_79 rfl rfl rfl ?_
    simp only [List.set_cons_zero, List.set_cons_succ]
    refine iload (q1 := 84) d22_82 rfl rfl ?_
    refine iconst (q1 := 85) (v := 1) d22_84 rfl rfl ?_
    refine iadd (q1 := 86) d22_85 rfl ?_
    refine aload_n (q1 := 87) d22_86 rfl rfl rfl ?_
    refine arraylength (q1 := 88) (z := 1) d22_87 rfl (A) rfl ?_
    refine irem (q1 := 89) d22_88 rfl (by decide) ?_
    refine istore (q1 := 91) d22_89 rfl rfl ?_
    simp only [List.set_cons_zero, List.set_cons_succ]
    refine goto (q := 47) d22_91 ⟨by decide, rfl⟩ ?_
    refine iload_n (q1 := 48) d22_47 rfl rfl ?_
    refine aload_n (q1 := 49) d22_48 rfl rfl rfl ?_
    refine arraylength (q1 := 50) (z := 1) d22_49 rfl (A) rfl ?_
    refine icmp_ge (q1 := 53) (q := 94) d22_50 rfl ⟨by decide, rfl⟩ (fun _ => ?_) (fun hq => absurd hq (by decide))
    refine iload_n (q1 := 95) d22_94 rfl rfl ?_
    refine ret_i d22_95 rfl rfl ⟨rfl, rfl⟩
def hasI (v x y z : Int32) : Int32 := if v = x then 1 else if v = y then 1 else if v = z then 1 else 0
set_option maxRecDepth 65536 in
set_option maxHeartbeats 40000000 in
theorem c_has {l : Launch} {Z : State} {a0 : Array Value} (hw : ∀ d ∈ tables_1, d.before a0 Z = true) {n0 : Nat} {h0 : Heap} {v x y z : Int32} : Con l Z n0 (⟨"com/example/lightweave/lightweave/planning/LinkWavelengthsFreePinLaw", "has", "(IIII)Z"⟩ : MethodName) method_2_code 4 (some .boolean) ({ frames := 0, cells := 0, slots := 0, locals := 0 } : Room) [.int v, .int x, .int y, .int z] h0 [] (fun r h' => r = some (.int (hasI v x y z)) ∧ h' = h0) := by
  refine Con.of (Ls := [.val (.int v), .val (.int x), .val (.int y), .val (.int z)]) (by decide +kernel) (fun m => by first | (simp [entryFrame, mkF, argsToLocals, Value.category]; done) | (rcases ref_cases hrw with rfl | ⟨b, rfl⟩ <;> rfl) | rfl) (fun p e s m below meth c => ?_)
  show Wp false p l e ({ frames := 0, cells := 0, slots := 0, locals := 0 } : Room) s m ([.int v, .int x, .int y, .int z] : List Value).toArray below meth c Z "com/example/lightweave/lightweave/planning/LinkWavelengthsFreePinLaw" "has" method_2_code 4 (some .boolean) n0 h0 [] (fun r h' => r = some (.int (hasI v x y z)) ∧ h' = h0) (fun _ => True) h0 0 0 0 [.val (.int v), .val (.int x), .val (.int y), .val (.int z)] []
  have one : hasI v x y z = 1 → Wp false p l e ({ frames := 0, cells := 0, slots := 0, locals := 0 } : Room) s m ([.int v, .int x, .int y, .int z] : List Value).toArray below meth c Z "com/example/lightweave/lightweave/planning/LinkWavelengthsFreePinLaw" "has" method_2_code 4 (some .boolean) n0 h0 [] (fun r h' => r = some (.int (hasI v x y z)) ∧ h' = h0) (fun _ => True) h0 0 0 15 [.val (.int v), .val (.int x), .val (.int y), .val (.int z)] [] := by
    intro e
    refine iconst (q1 := 16) (v := 1) d19_15 rfl rfl ?_
    refine goto (q := 20) d19_16 ⟨by decide, rfl⟩ ?_
    refine ret_n (t := .boolean) d19_20 rfl (by simp) rfl ⟨by rw [e]; rfl, rfl⟩
  refine iload_n (q1 := 1) d19_0 rfl rfl ?_
  refine iload_n (q1 := 2) d19_1 rfl rfl ?_
  refine icmp_eq (q1 := 5) (q := 15) d19_2 rfl ⟨by decide, rfl⟩ (fun hq => ?_) (fun h1 => ?_)
  · exact one (by unfold hasI; rw [if_pos hq])
  refine iload_n (q1 := 6) d19_5 rfl rfl ?_
  refine iload_n (q1 := 7) d19_6 rfl rfl ?_
  refine icmp_eq (q1 := 10) (q := 15) d19_7 rfl ⟨by decide, rfl⟩ (fun hq => ?_) (fun h2 => ?_)
  · exact one (by unfold hasI; rw [if_neg h1, if_pos hq])
  refine iload_n (q1 := 11) d19_10 rfl rfl ?_
  refine iload_n (q1 := 12) d19_11 rfl rfl ?_
  refine icmp_ne (q1 := 15) (q := 19) d19_12 rfl ⟨by decide, rfl⟩ (fun h3 => ?_) (fun hq => ?_)
  · refine iconst (q1 := 20) (v := 0) d19_19 rfl rfl ?_
    refine ret_n (t := .boolean) d19_20 rfl (by simp) rfl ⟨by unfold hasI; rw [if_neg h1, if_neg h2, if_neg h3]; rfl, rfl⟩
  · exact one (by unfold hasI; rw [if_neg h1, if_neg h2, if_pos hq])
def lmI (x y z : Int32) : Int32 := if hasI 1 x y z = 0 then 1 else if hasI 2 x y z = 0 then 2 else if hasI 3 x y z = 0 then 3 else 4
set_option maxRecDepth 65536 in
set_option maxHeartbeats 40000000 in
theorem c_lm {l : Launch} {Z : State} {a0 : Array Value} (hw : ∀ d ∈ tables_1, d.before a0 Z = true) {n0 : Nat} {h0 : Heap} {x y z : Int32} : Con l Z n0 (⟨"com/example/lightweave/lightweave/planning/LinkWavelengthsFreePinLaw", "lowestMissing", "(III)I"⟩ : MethodName) method_3_code 3 (some .int) ({ frames := 1, cells := 0, slots := 0, locals := 15 } : Room) [.int x, .int y, .int z] h0 [] (fun r h' => r = some (.int (lmI x y z)) ∧ h' = h0) := by
  refine Con.of (Ls := [.val (.int x), .val (.int y), .val (.int z)]) (by decide +kernel) (fun m => by first | (simp [entryFrame, mkF, argsToLocals, Value.category]; done) | (rcases ref_cases hrw with rfl | ⟨b, rfl⟩ <;> rfl) | rfl) (fun p e s m below meth c => ?_)
  show Wp false p l e ({ frames := 1, cells := 0, slots := 0, locals := 15 } : Room) s m ([.int x, .int y, .int z] : List Value).toArray below meth c Z "com/example/lightweave/lightweave/planning/LinkWavelengthsFreePinLaw" "lowestMissing" method_3_code 3 (some .int) n0 h0 [] (fun r h' => r = some (.int (lmI x y z)) ∧ h' = h0) (fun _ => True) h0 0 0 0 [.val (.int x), .val (.int y), .val (.int z)] []
  refine iconst (q1 := 1) (v := 1) d18_0 rfl rfl ?_
  refine iload_n (q1 := 2) d18_1 rfl rfl ?_
  refine iload_n (q1 := 3) d18_2 rfl rfl ?_
  refine iload_n (q1 := 4) d18_3 rfl rfl ?_
  refine invokestatic (q1 := 7) d18_4 rfl (ww hw 103 rfl) (ww hw 104 rfl) (ww hw 101 rfl) (ww hw 105 rfl) (by decide) pd7 (c_has hw) rfl rfl rfl rfl all0 (fun v h1 q _ => ?_)
  obtain ⟨rfl, rfl⟩ := q
  refine if_ne (q1 := 10) (q := 12) d18_7 rfl ⟨by decide, rfl⟩ (fun q1 => ?_) (fun hq => ?_)
  · refine iconst (q1 := 13) (v := 2) d18_12 rfl rfl ?_
    refine iload_n (q1 := 14) d18_13 rfl rfl ?_
    refine iload_n (q1 := 15) d18_14 rfl rfl ?_
    refine iload_n (q1 := 16) d18_15 rfl rfl ?_
    refine invokestatic (q1 := 19) d18_16 rfl (ww hw 103 rfl) (ww hw 104 rfl) (ww hw 101 rfl) (ww hw 105 rfl) (by decide) pd7 (c_has hw) rfl rfl rfl rfl all0 (fun v h1 q _ => ?_)
    obtain ⟨rfl, rfl⟩ := q
    refine if_ne (q1 := 22) (q := 24) d18_19 rfl ⟨by decide, rfl⟩ (fun q2 => ?_) (fun hq => ?_)
    · refine iconst (q1 := 25) (v := 3) d18_24 rfl rfl ?_
      refine iload_n (q1 := 26) d18_25 rfl rfl ?_
      refine iload_n (q1 := 27) d18_26 rfl rfl ?_
      refine iload_n (q1 := 28) d18_27 rfl rfl ?_
      refine invokestatic (q1 := 31) d18_28 rfl (ww hw 103 rfl) (ww hw 104 rfl) (ww hw 101 rfl) (ww hw 105 rfl) (by decide) pd7 (c_has hw) rfl rfl rfl rfl all0 (fun v h1 q _ => ?_)
      obtain ⟨rfl, rfl⟩ := q
      refine if_ne (q1 := 34) (q := 36) d18_31 rfl ⟨by decide, rfl⟩ (fun q3 => ?_) (fun hq => ?_)
      · refine iconst (q1 := 37) (v := 4) d18_36 rfl rfl ?_
        refine ret_i d18_37 rfl rfl ⟨by unfold lmI; rw [if_neg q1, if_neg q2, if_neg q3], rfl⟩
      · refine iconst (q1 := 35) (v := 3) d18_34 rfl rfl ?_
        refine ret_i d18_35 rfl rfl ⟨by unfold lmI; rw [if_neg q1, if_neg q2, if_pos hq], rfl⟩
    · refine iconst (q1 := 23) (v := 2) d18_22 rfl rfl ?_
      refine ret_i d18_23 rfl rfl ⟨by unfold lmI; rw [if_neg q1, if_pos hq], rfl⟩
  · refine iconst (q1 := 11) (v := 1) d18_10 rfl rfl ?_
    refine ret_i d18_11 rfl rfl ⟨by unfold lmI; rw [if_pos hq], rfl⟩
theorem Dst.of {o u f b0 t0 b1 t1 : Nat} (h1 : o < u) (h2 : u < f) (h3 : f < b0) (h4 : b0 < t0) (h5 : t0 < b1) (h6 : b1 < t1) : Dst o u f (fun i => if i = 0 then b0 else b1) (fun i => if i = 0 then t0 else t1) := by
  refine ⟨⟨Nat.ne_of_lt h1, Nat.ne_of_lt (by omega), Nat.ne_of_lt h2⟩, fun i hi => ?_, fun i j hi hj hij => ?_⟩
  · have e : i = 0 ∨ i = 1 := (by omega)
    rcases e with rfl | rfl
    · simp only [if_true]
      exact ⟨Nat.ne_of_lt (by omega), Nat.ne_of_lt (by omega), Nat.ne_of_lt (by omega), Nat.ne_of_lt (by omega), Nat.ne_of_lt (by omega), Nat.ne_of_lt (by omega)⟩
    · simp only [if_neg (show ¬ (1 : Nat) = 0 by decide)]
      exact ⟨Nat.ne_of_lt (by omega), Nat.ne_of_lt (by omega), Nat.ne_of_lt (by omega), Nat.ne_of_lt (by omega), Nat.ne_of_lt (by omega), Nat.ne_of_lt (by omega)⟩
  · have e : (i = 0 ∧ j = 1) ∨ (i = 1 ∧ j = 0) := (by omega)
    rcases e with ⟨rfl, rfl⟩ | ⟨rfl, rfl⟩
    · simp only [if_true, if_neg (show ¬ (1 : Nat) = 0 by decide)]
      exact ⟨Nat.ne_of_lt (by omega), Nat.ne_of_lt (by omega), Nat.ne_of_lt (by omega), Nat.ne_of_lt (by omega)⟩
    · simp only [if_true, if_neg (show ¬ (1 : Nat) = 0 by decide)]
      exact ⟨Nat.ne_of_gt (by omega), Nat.ne_of_gt (by omega), Nat.ne_of_gt (by omega), Nat.ne_of_gt (by omega)⟩
theorem own_sz {h h' : Heap} (E : Ext h h') : h.size ≤ h'.size := E.1
set_option maxRecDepth 65536 in
set_option maxHeartbeats 40000000 in
theorem c_li {l : Launch} {Z : State} {a0 : Array Value} (hw : ∀ d ∈ tables_1, d.before a0 Z = true) {n0 : Nat} {h0 : Heap} {o : Addr} {u1 u2 : Value} (X : Exa Z h0 o "com/example/lightweave/lightweave/planning/LinkWavelengths") (F1 : Fld Z h0 o "com/example/lightweave/lightweave/planning/LinkWavelengths" "used" "[Ljava/util/BitSet;" u1) (F2 : Fld Z h0 o "com/example/lightweave/lightweave/planning/LinkWavelengths" "lowestFree" "[I" u2) : Con l Z n0 (⟨"com/example/lightweave/lightweave/planning/LinkWavelengths", "<init>", "(I)V"⟩ : MethodName) prog_16_method_1_code 3 none ({ frames := 3, cells := 6, slots := 12, locals := 41 } : Room) [.ref o, .int 2] h0 [o] (fun v h' => v = none ∧ ∃ u f b0 t0 b1 t1 : Nat, h0.size ≤ u ∧ u < f ∧ f < b0 ∧ b0 < t0 ∧ t0 < b1 ∧ b1 < t1 ∧ LWs Z h' o u f (fun i => if i = 0 then b0 else b1) (fun i => if i = 0 then t0 else t1) (fun _ => 0) (fun _ => 0) (fun _ => 1)) := by
  refine Con.of (Ls := [.val (.ref o), .val (.int 2), .unset]) (by decide +kernel) (fun m => by first | (simp [entryFrame, mkF, argsToLocals, Value.category]; done) | (rcases ref_cases hrw with rfl | ⟨b, rfl⟩ <;> rfl) | rfl) (fun p e s m below meth c => ?_)
  show Wp false p l e ({ frames := 3, cells := 6, slots := 12, locals := 41 } : Room) s m ([.ref o, .int 2] : List Value).toArray below meth c Z "com/example/lightweave/lightweave/planning/LinkWavelengths" "<init>" prog_16_method_1_code 3 none n0 h0 [o] (fun v h' => v = none ∧ ∃ u f b0 t0 b1 t1 : Nat, h0.size ≤ u ∧ u < f ∧ f < b0 ∧ b0 < t0 ∧ t0 < b1 ∧ b1 < t1 ∧ LWs Z h' o u f (fun i => if i = 0 then b0 else b1) (fun i => if i = 0 then t0 else t1) (fun _ => 0) (fun _ => 0) (fun _ => 1)) (fun _ => True) h0 0 0 0 [.val (.ref o), .val (.int 2), .unset] []
  refine aload_n (q1 := 1) d1_0 rfl rfl rfl ?_
  refine initObj (q1 := 4) d1_1 rfl (ww hw 8 rfl) (ww hw 9 rfl) (ww hw 10 rfl) rfl rfl ?_
  refine aload_n (q1 := 5) d1_4 rfl rfl rfl ?_
  refine iload_n (q1 := 6) d1_5 rfl rfl ?_
  refine anewarray (q1 := 9) (len := 2) (cap := 2) d1_6 rfl (ww hw 11 rfl) (ww hw 12 rfl) rfl (by decide) (by decide) (by decide) (by decide) (fun S6 h6 E6 A6 => ?_)
  refine putfield (q1 := 12) d1_9 rfl (ww hw 13 rfl) Via.refl (F1.ext E6) (X.ext E6) (Or.inr ⟨(ww hw 14 rfl), rfl, rfl⟩) (ww hw 3 rfl) (ty := (.array (.object "java/util/BitSet"))) (by decide) rfl rfl (Or.inl own_in1) (fun h9 W9 => ?_)
  have x9 := (X.ext E6).wr W9
  have U9 := (F1.ext E6).same W9
  have G9 := (F2.ext E6).other W9 (Or.inr (slot_ne (Or.inr (ww hw 16 rfl)) (Or.inr (ww hw 14 rfl)) (by decide) (t := (.array .int)) (t' := (.array (.object "java/util/BitSet"))) (by decide) (by decide)))
  have A9 := A6.other W9 (Nat.ne_of_gt X.lt)
  refine aload_n (q1 := 13) d1_12 rfl rfl rfl ?_
  refine iload_n (q1 := 14) d1_13 rfl rfl ?_
  refine newarray (q1 := 16) (len := 2) (cap := 2) d1_14 rfl (ww hw 1 rfl) rfl (by decide) (by decide) (by decide) (by decide) (fun S14 h14 E14 A14 => ?_)
  refine putfield (q1 := 19) d1_16 rfl (ww hw 15 rfl) Via.refl (G9.ext E14) (x9.ext E14) (Or.inr ⟨(ww hw 16 rfl), rfl, rfl⟩) (ww hw 3 rfl) (ty := (.array .int)) (by decide) rfl rfl (Or.inl own_in1) (fun h16 W16 => ?_)
  have x16 := (x9.ext E14).wr W16
  have U16 := (U9.ext E14).other W16 (Or.inr (slot_ne (Or.inr (ww hw 14 rfl)) (Or.inr (ww hw 16 rfl)) (by decide) (t := (.array (.object "java/util/BitSet"))) (t' := (.array .int)) (by decide) (by decide)))
  have F16 := (G9.ext E14).same W16
  have lo : @LT.lt Nat _ o h0.size := X.lt
  have l6 : (h0.size : Nat) < h6.size := A6.lt
  have s9 : h9.size = h6.size := W9.size
  have l14 : (h9.size : Nat) < h14.size := A14.lt
  have s16 : h16.size = h14.size := W16.size
  have A16 := (A9.ext E14).other W16 (Nat.ne_of_gt X.lt)
  have L16 := A14.other W16 (Nat.ne_of_gt (by rw [s9]; omega))
  refine iconst (q1 := 20) (v := 0) d1_19 rfl rfl ?_
  refine istore_n (q1 := 21) (jj := 2) d1_20 rfl rfl rfl ?_
  simp only [List.set_cons_zero, List.set_cons_succ]
  refine iload_n (q1 := 22) d1_21 rfl rfl ?_
  refine iload_n (q1 := 23) d1_22 rfl rfl ?_
  refine icmp_ge (q1 := 26) (q := 52) d1_23 rfl ⟨by decide, rfl⟩ (fun hq => absurd (by decide) hq) (fun _ => ?_)
  refine aload_n (q1 := 27) d1_26 rfl rfl rfl ?_
  refine getfield (q1 := 30) d1_27 rfl (ww hw 13 rfl) Via.refl (U16) ?_
  refine iload_n (q1 := 31) d1_30 rfl rfl ?_
  refine new (q1 := 34) d1_31 rfl (ww hw 11 rfl) (ww hw 17 rfl) (ww hw 18 rfl) (by decide) (by decide) (fun S31 h31 E31 X31 D31 U31 => ?_)
  refine Jvm.OwnWp.dup (q1 := 35) d1_34 rfl rfl ?_
  refine invokespecial (q1 := 38) d1_35 rfl rfl (ww hw 19 rfl) (ww hw 20 rfl) (ww hw 18 rfl) (ww hw 21 rfl) (by decide) pd1 (c_bi hw X31 (D31 (Or.inl (ww hw 37 rfl)) (ty := .array .long) (by decide)) (D31 (Or.inl (ww hw 24 rfl)) (ty := .int) (by decide)) (D31 (Or.inl (ww hw 26 rfl)) (ty := .boolean) (by decide))) rfl rfl rfl rfl (allS (Or.inr S31) all0) (fun v h35 q K35 => ?_)
  obtain ⟨rfl, B0⟩ := q
  have l31 : (h16.size : Nat) < h31.size := X31.lt
  have k35 : (h31.size : Nat) < h35.size := B0.2.2.2.1.lt
  have n1 : ∀ {y : Nat}, y < h16.size → (y : Addr) ∉ [h16.size] := fun hy => by
    intro hm; exact absurd (List.mem_singleton.mp hm) (Nat.ne_of_lt hy)
  have U35 := (U16.ext E31).keep K35 (n1 (by omega))
  have F35 := (F16.ext E31).keep K35 (n1 (by omega))
  have x35 := (x16.ext E31).keep K35
  have A35 := (A16.ext E31).keep K35 (n1 (by omega))
  have L35 := (L16.ext E31).keep K35 (n1 (by omega))
  refine aastore (q1 := 39) (i := 0) d1_38 rfl (A35) rfl (by decide) (Or.inr (Nat.le_refl _)) (Or.inr ⟨_, rfl, Ins.self B0.1⟩) (fun h38 W38 => ?_)
  have s38 : h38.size = h35.size := W38.size
  have A38 := A35.same W38
  have x38 := x35.wr W38
  have U38 := U35.other W38 (Or.inl (Nat.ne_of_lt lo))
  have F38 := F35.other W38 (Or.inl (Nat.ne_of_lt lo))
  have L38 := L35.other W38 (Nat.ne_of_gt (by rw [s9]; omega))
  have B38 := B0.other W38 (Nat.ne_of_gt (by omega)) (Nat.ne_of_gt (by omega))
  refine aload_n (q1 := 40) d1_39 rfl rfl rfl ?_
  refine getfield (q1 := 43) d1_40 rfl (ww hw 15 rfl) Via.refl (F38) ?_
  refine iload_n (q1 := 44) d1_43 rfl rfl ?_
  refine iconst (q1 := 45) (v := 1) d1_44 rfl rfl ?_
  refine iastore (q1 := 46) (i := 0) d1_45 rfl (L38) rfl (by decide) (Or.inr (by rw [s9]; exact Nat.le_of_lt l6)) (fun h45 W45 => ?_)
  have s45 : h45.size = h38.size := W45.size
  have A45 := A38.other W45 (Nat.ne_of_lt (by rw [s9]; omega))
  have x45 := x38.wr W45
  have U45 := U38.other W45 (Or.inl (Nat.ne_of_lt (by rw [s9]; omega)))
  have F45 := F38.other W45 (Or.inl (Nat.ne_of_lt (by rw [s9]; omega)))
  have L45 := L38.same W45
  have B45 := B38.other W45 (Nat.ne_of_gt (by omega)) (Nat.ne_of_gt (by omega))
  refine iinc (q1 := 49) (v := 1) d1_46 rfl rfl rfl ?_
  simp only [List.set_cons_zero, List.set_cons_succ]
  refine goto (q := 21) d1_49 ⟨by decide, rfl⟩ ?_
  refine iload_n (q1 := 22) d1_21 rfl rfl ?_
  refine iload_n (q1 := 23) d1_22 rfl rfl ?_
  refine icmp_ge (q1 := 26) (q := 52) d1_23 rfl ⟨by decide, rfl⟩ (fun hq => absurd (by decide) hq) (fun _ => ?_)
  refine aload_n (q1 := 27) d1_26 rfl rfl rfl ?_
  refine getfield (q1 := 30) d1_27 rfl (ww hw 13 rfl) Via.refl (U45) ?_
  refine iload_n (q1 := 31) d1_30 rfl rfl ?_
  refine new (q1 := 34) d1_31 rfl (ww hw 11 rfl) (ww hw 17 rfl) (ww hw 18 rfl) (by decide) (by decide) (fun S31b h31b E31b X31b D31b U31b => ?_)
  refine Jvm.OwnWp.dup (q1 := 35) d1_34 rfl rfl ?_
  refine invokespecial (q1 := 38) d1_35 rfl rfl (ww hw 19 rfl) (ww hw 20 rfl) (ww hw 18 rfl) (ww hw 21 rfl) (by decide) pd1 (c_bi hw X31b (D31b (Or.inl (ww hw 37 rfl)) (ty := .array .long) (by decide)) (D31b (Or.inl (ww hw 24 rfl)) (ty := .int) (by decide)) (D31b (Or.inl (ww hw 26 rfl)) (ty := .boolean) (by decide))) rfl rfl rfl rfl (allS (Or.inr S31b) all0) (fun v h35b q K35b => ?_)
  obtain ⟨rfl, B1⟩ := q
  have l31b : (h45.size : Nat) < h31b.size := X31b.lt
  have n2 : ∀ {y : Nat}, y < h45.size → (y : Addr) ∉ [h45.size] := fun hy => by
    intro hm; exact absurd (List.mem_singleton.mp hm) (Nat.ne_of_lt hy)
  have U35b := (U45.ext E31b).keep K35b (n2 (by omega))
  have F35b := (F45.ext E31b).keep K35b (n2 (by omega))
  have x35b := (x45.ext E31b).keep K35b
  have A35b := (A45.ext E31b).keep K35b (n2 (by omega))
  have L35b := (L45.ext E31b).keep K35b (n2 (by omega))
  have B35b := (B45.ext E31b).keep K35b (n2 (by omega)) (n2 (by omega))
  refine aastore (q1 := 39) (i := 1) d1_38 rfl (A35b) rfl (by decide) (Or.inr (Nat.le_refl _)) (Or.inr ⟨_, rfl, Ins.self B1.1⟩) (fun h38b W38b => ?_)
  have A38b := A35b.same W38b
  have x38b := x35b.wr W38b
  have U38b := U35b.other W38b (Or.inl (Nat.ne_of_lt lo))
  have F38b := F35b.other W38b (Or.inl (Nat.ne_of_lt lo))
  have L38b := L35b.other W38b (Nat.ne_of_gt (by rw [s9]; omega))
  have B38b := B35b.other W38b (Nat.ne_of_gt (by omega)) (Nat.ne_of_gt (by omega))
  have C38b := B1.other W38b (Nat.ne_of_gt (by omega)) (Nat.ne_of_gt (by omega))
  refine aload_n (q1 := 40) d1_39 rfl rfl rfl ?_
  refine getfield (q1 := 43) d1_40 rfl (ww hw 15 rfl) Via.refl (F38b) ?_
  refine iload_n (q1 := 44) d1_43 rfl rfl ?_
  refine iconst (q1 := 45) (v := 1) d1_44 rfl rfl ?_
  refine iastore (q1 := 46) (i := 1) d1_45 rfl (L38b) rfl (by decide) (Or.inr (by rw [s9]; exact Nat.le_of_lt l6)) (fun h45b W45b => ?_)
  have A45b := A38b.other W45b (Nat.ne_of_lt (by rw [s9]; omega))
  have x45b := x38b.wr W45b
  have U45b := U38b.other W45b (Or.inl (Nat.ne_of_lt (by rw [s9]; omega)))
  have F45b := F38b.other W45b (Or.inl (Nat.ne_of_lt (by rw [s9]; omega)))
  have L45b := L38b.same W45b
  have B45b := B38b.other W45b (Nat.ne_of_gt (by omega)) (Nat.ne_of_gt (by omega))
  have C45b := C38b.other W45b (Nat.ne_of_gt (by omega)) (Nat.ne_of_gt (by omega))
  refine iinc (q1 := 49) (v := 1) d1_46 rfl rfl rfl ?_
  simp only [List.set_cons_zero, List.set_cons_succ]
  refine goto (q := 21) d1_49 ⟨by decide, rfl⟩ ?_
  refine iload_n (q1 := 22) d1_21 rfl rfl ?_
  refine iload_n (q1 := 23) d1_22 rfl rfl ?_
  refine icmp_ge (q1 := 26) (q := 52) d1_23 rfl ⟨by decide, rfl⟩ (fun _ => ?_) (fun hq => absurd hq (by decide))
  refine ret_v d1_52 rfl rfl ⟨rfl, h0.size, h9.size, h16.size, h31.size, h45.size, h31b.size, Nat.le_refl _, by omega, by omega, by omega, by omega, by omega, x45b, U45b, F45b, A45b.cong fun i hi => ?_, L45b.cong fun i hi => ?_, fun i hi => ?_, Dst.of lo (by omega) (by omega) (by omega) (by omega) (by omega)⟩
  · have e : i = 0 ∨ i = 1 := (by omega)
    rcases e with rfl | rfl
    · rfl
    · rfl
  · have e : i = 0 ∨ i = 1 := (by omega)
    rcases e with rfl | rfl
    · rfl
    · rfl
  · have e : i = 0 ∨ i = 1 := (by omega)
    rcases e with rfl | rfl
    · exact B45b
    · exact C45b
theorem own_and3 (x : Int32) : x &&& 3 = 0 ∨ x &&& 3 = 1 ∨ x &&& 3 = 2 ∨ x &&& 3 = 3 := by
  have h := c_mask x 3 2 (by decide) (by decide)
  have e : (x &&& 3).toInt = 0 ∨ (x &&& 3).toInt = 1 ∨ (x &&& 3).toInt = 2 ∨ (x &&& 3).toInt = 3 := by omega
  rcases e with e | e | e | e
  · exact Or.inl (own_eq e)
  · exact Or.inr (Or.inl (own_eq e))
  · exact Or.inr (Or.inr (Or.inl (own_eq e)))
  · exact Or.inr (Or.inr (Or.inr (own_eq e)))
theorem own_and1 (x : Int32) : x &&& 1 = 0 ∨ x &&& 1 = 1 := by
  have h := c_mask x 1 1 (by decide) (by decide)
  have e : (x &&& 1).toInt = 0 ∨ (x &&& 1).toInt = 1 := by omega
  rcases e with e | e
  · exact Or.inl (own_eq e)
  · exact Or.inr (own_eq e)
theorem own_k3 (x : Int32) : (x &&& 2147483647) % 3 = 0 ∨ (x &&& 2147483647) % 3 = 1 ∨ (x &&& 2147483647) % 3 = 2 := by
  have h := c_mask x 2147483647 31 (by decide) (by decide)
  have r := (c_irem (x &&& 2147483647) 3 3 rfl).1 (by omega)
  have e : ((x &&& 2147483647) % 3).toInt = 0 ∨ ((x &&& 2147483647) % 3).toInt = 1 ∨ ((x &&& 2147483647) % 3).toInt = 2 := by omega
  rcases e with e | e | e
  · exact Or.inl (own_eq e)
  · exact Or.inr (Or.inl (own_eq e))
  · exact Or.inr (Or.inr (own_eq e))
theorem nin5 {a x1 x2 x3 x4 x5 : Addr} (h1 : a ≠ x1) (h2 : a ≠ x2) (h3 : a ≠ x3) (h4 : a ≠ x4) (h5 : a ≠ x5) : a ∉ [x1, x2, x3, x4, x5] := by simp [h1, h2, h3, h4, h5]
def X3 (w1 w2 w3 : Int32) : Int64 := setX (setX (setX 0 w1) w2) w3
def F3 (w1 w2 w3 : Int32) : Int32 := lowT (lowT (lowT 1 0 w1) (setX 0 w1) w2) (setX (setX 0 w1) w2) w3
def FA (w1 w2 w3 : Int32) : Prop := (Sm w1 ∧ Sm (w1 + 1) ∧ ¬ lcmpW (ncW (setX 0 w1) (w1 + 1)) 0 = 0) ∧ (Sm w2 ∧ Sm (w2 + 1) ∧ ¬ lcmpW (ncW (setX (setX 0 w1) w2) (w2 + 1)) 0 = 0) ∧ (Sm w3 ∧ Sm (w3 + 1) ∧ ¬ lcmpW (ncW (X3 w1 w2 w3) (w3 + 1)) 0 = 0) ∧ (Sm (maxI 1 (F3 w1 w2 w3)) ∧ ¬ lcmpW (ncW (X3 w1 w2 w3) (maxI 1 (F3 w1 w2 w3))) 0 = 0 ∧ ncb (X3 w1 w2 w3) (maxI 1 (F3 w1 w2 w3)) = lmI w1 w2 w3)
def FB (w1 w2 w3 wv ov x0 y0 z0 : Int32) : Prop := Sm wv ∧ Sm ov ∧ (¬ lcmpW (clrX (X3 w1 w2 w3) wv) 0 = 0) ∧ freeI (clrX (X3 w1 w2 w3) wv) wv = 1 ∧ freeI (X3 w1 w2 w3) wv = 0 ∧ freeI (clrX (X3 w1 w2 w3) wv) ov = 0 ∧ Sm (maxI 1 (minI (F3 w1 w2 w3) wv)) ∧ (¬ lcmpW (ncW (clrX (X3 w1 w2 w3) wv) (maxI 1 (minI (F3 w1 w2 w3) wv))) 0 = 0) ∧ ncb (clrX (X3 w1 w2 w3) wv) (maxI 1 (minI (F3 w1 w2 w3) wv)) = lmI x0 y0 z0
instance (w1 w2 w3 : Int32) : Decidable (FA w1 w2 w3) := by unfold FA; infer_instance
instance (w1 w2 w3 wv ov x0 y0 z0 : Int32) : Decidable (FB w1 w2 w3 wv ov x0 y0 z0) := by unfold FB; infer_instance
theorem own_FA (x y : Int32) : FA ((x &&& 3) + 1) ((x &&& 3) + 1 + 1) ((x &&& 3) + 1 + 1 + 1 + (y &&& 1)) := by
  rcases own_and3 x with e | e | e | e <;> rcases own_and1 y with e' | e' <;> rw [e, e'] <;> decide +kernel
theorem own_FB0 (x y : Int32) : FB ((x &&& 3) + 1) ((x &&& 3) + 1 + 1) ((x &&& 3) + 1 + 1 + 1 + (y &&& 1)) ((x &&& 3) + 1) ((x &&& 3) + 1 + 1) 0 ((x &&& 3) + 1 + 1) ((x &&& 3) + 1 + 1 + 1 + (y &&& 1)) := by
  rcases own_and3 x with e | e | e | e <;> rcases own_and1 y with e' | e' <;> rw [e, e'] <;> decide +kernel
theorem own_FB1 (x y : Int32) : FB ((x &&& 3) + 1) ((x &&& 3) + 1 + 1) ((x &&& 3) + 1 + 1 + 1 + (y &&& 1)) ((x &&& 3) + 1 + 1) ((x &&& 3) + 1 + 1 + 1 + (y &&& 1)) ((x &&& 3) + 1) 0 ((x &&& 3) + 1 + 1 + 1 + (y &&& 1)) := by
  rcases own_and3 x with e | e | e | e <;> rcases own_and1 y with e' | e' <;> rw [e, e'] <;> decide +kernel
theorem own_FB2 (x y : Int32) : FB ((x &&& 3) + 1) ((x &&& 3) + 1 + 1) ((x &&& 3) + 1 + 1 + 1 + (y &&& 1)) ((x &&& 3) + 1 + 1 + 1 + (y &&& 1)) ((x &&& 3) + 1) ((x &&& 3) + 1) ((x &&& 3) + 1 + 1) 0 := by
  rcases own_and3 x with e | e | e | e <;> rcases own_and1 y with e' | e' <;> rw [e, e'] <;> decide +kernel
set_option maxRecDepth 65536 in
set_option maxHeartbeats 40000000 in
theorem law {l : Launch} {Z : State} {a0 : Array Value} (hw : ∀ d ∈ tables_1, d.before a0 Z = true) {n0 : Nat} {h0 : Heap} {p1 p2 p3 p4 : Int32} (S : AOff Z) : Con l Z n0 x code maxLocals ret room_1 [.int p1, .int p2, .int p3, .int p4] h0 [] (fun v h' => v = some (.int 1)) := by
  refine Con.of (Ls := [.val (.int p1), .val (.int p2), .val (.int p3), .val (.int p4), .unset, .unset, .unset, .unset, .unset, .unset, .unset, .unset, .unset, .unset, .unset, .unset, .unset, .unset, .unset, .unset, .unset, .unset, .unset, .unset, .unset]) (by decide +kernel) (fun m => by first | (simp [entryFrame, mkF, argsToLocals, Value.category, maxLocals]; done) | (rcases ref_cases hrw with rfl | ⟨b, rfl⟩ <;> rfl) | rfl) (fun p e s m below meth c => ?_)
  show Wp false p l e room_1 s m ([.int p1, .int p2, .int p3, .int p4] : List Value).toArray below meth c Z "com/example/lightweave/lightweave/planning/LinkWavelengthsFreePinLaw" "law" code maxLocals (some .boolean) n0 h0 [] (fun v h' => v = some (.int 1)) (fun _ => True) h0 0 0 0 [.val (.int p1), .val (.int p2), .val (.int p3), .val (.int p4), .unset, .unset, .unset, .unset, .unset, .unset, .unset, .unset, .unset, .unset, .unset, .unset, .unset, .unset, .unset, .unset, .unset, .unset, .unset, .unset, .unset] []
  have rest : ∀ (bo w1 w2 w3 kI wv ov x0 y0 z0 : Int32), (bo = 0 ∨ bo = 1) → FA w1 w2 w3 → FB w1 w2 w3 wv ov x0 y0 z0 → ((kI = 0 ∧ x0 = 0 ∧ y0 = w2 ∧ z0 = w3) ∨ (kI = 1 ∧ x0 = w1 ∧ y0 = 0 ∧ z0 = w3) ∨ (kI = 2 ∧ x0 = w1 ∧ y0 = w2 ∧ z0 = 0)) → Wp false p l e room_1 s m ([.int p1, .int p2, .int p3, .int p4] : List Value).toArray below meth c Z "com/example/lightweave/lightweave/planning/LinkWavelengthsFreePinLaw" "law" code maxLocals (some .boolean) n0 h0 [] (fun v h' => v = some (.int 1)) (fun _ => True) h0 0 0 94 [.val (.int p1), .val (.int p2), .val (.int p3), .val (.int p4), .val (.int bo), .val (.int w1), .val (.int w2), .val (.int w3), .val (.int kI), .val (.int wv), .val (.int ov), .unset, .unset, .unset, .unset, .unset, .unset, .unset, .unset, .unset, .unset, .unset, .unset, .unset, .unset] [] := by
    intro bo w1 w2 w3 kI wv ov x0 y0 z0 hbo fa fb hk
    obtain ⟨⟨a1, a2, a3⟩, ⟨bb1, bb2, bb3⟩, ⟨c1, c2, c3⟩, ⟨d1, d2, d3⟩⟩ := fa
    obtain ⟨g1, g2, g3, g4, g5, g6, g7, g8, g9⟩ := fb
    have tail : ∀ (h : Heap) (l0 l1 l2 lw u f : Addr) (bs ts : Nat → Addr) (xs : Nat → Int64) (fs : Nat → Int32), LWs Z h lw u f bs ts (fun _ => 1) xs fs → Ary Z h l0 .int 1 (fun _ => .int 0) → Ary Z h l1 .int 1 (fun _ => .int 1) → xs 0 = clrX (X3 w1 w2 w3) wv → fs 0 = minI (F3 w1 w2 w3) wv → ((bo = 1 ∧ xs 1 = xs 0 ∧ fs 1 = fs 0) ∨ (bo = 0 ∧ xs 1 = X3 w1 w2 w3 ∧ fs 1 = F3 w1 w2 w3)) → Wp false p l e room_1 s m ([.int p1, .int p2, .int p3, .int p4] : List Value).toArray below meth c Z "com/example/lightweave/lightweave/planning/LinkWavelengthsFreePinLaw" "law" code maxLocals (some .boolean) n0 h0 [] (fun v h' => v = some (.int 1)) (fun _ => True) h 12 30 181 [.val (.int p1), .val (.int p2), .val (.int p3), .val (.int p4), .val (.int bo), .val (.int w1), .val (.int w2), .val (.int w3), .val (.int kI), .val (.int wv), .val (.int ov), .val (.ref l0), .val (.ref l1), .val (.ref l2), .val (.ref lw), .unset, .unset, .unset, .unset, .unset, .unset, .unset, .unset, .unset, .unset] [] := by
      intro h l0 l1 l2 lw u f bs ts xs fs B A0 A1 hx hf hb
      have fin : Wp false p l e room_1 s m ([.int p1, .int p2, .int p3, .int p4] : List Value).toArray below meth c Z "com/example/lightweave/lightweave/planning/LinkWavelengthsFreePinLaw" "law" code maxLocals (some .boolean) n0 h0 [] (fun v h' => v = some (.int 1)) (fun _ => True) h 12 30 222 [.val (.int p1), .val (.int p2), .val (.int p3), .val (.int p4), .val (.int bo), .val (.int w1), .val (.int w2), .val (.int w3), .val (.int kI), .val (.int wv), .val (.int ov), .val (.ref l0), .val (.ref l1), .val (.ref l2), .val (.ref lw), .val (.int x0), .val (.int y0), .val (.int z0), .unset, .unset, .unset, .unset, .unset, .unset, .unset] [] := by
        have last : ∀ ev : Int32, ncb (xs 1) (maxI 1 (fs 1)) = ev → Sm (maxI 1 (fs 1)) → (¬ lcmpW (ncW (xs 1) (maxI 1 (fs 1))) 0 = 0) → Wp false p l e room_1 s m ([.int p1, .int p2, .int p3, .int p4] : List Value).toArray below meth c Z "com/example/lightweave/lightweave/planning/LinkWavelengthsFreePinLaw" "law" code maxLocals (some .boolean) n0 h0 [] (fun v h' => v = some (.int 1)) (fun _ => True) h 12 30 252 [.val (.int p1), .val (.int p2), .val (.int p3), .val (.int p4), .val (.int bo), .val (.int w1), .val (.int w2), .val (.int w3), .val (.int kI), .val (.int wv), .val (.int ov), .val (.ref l0), .val (.ref l1), .val (.ref l2), .val (.ref lw), .val (.int x0), .val (.int y0), .val (.int z0), .val (.int (lmI x0 y0 z0)), .unset, .unset, .unset, .unset, .unset, .unset] [.int ev] := by
          intro ev e1 e2 e3
          refine istore (q1 := 254) at_252 rfl rfl ?_
          simp only [List.set_cons_zero, List.set_cons_succ]
          refine aload (q1 := 256) at_254 rfl rfl rfl ?_
          refine aload (q1 := 258) at_256 rfl rfl rfl ?_
          refine iload (q1 := 260) at_258 rfl rfl ?_
          refine invokevirt (q1 := 263) at_260 rfl (ww hw 106 rfl) (ww hw 107 rfl) (ww hw 109 rfl) (ww hw 108 rfl) (ww hw 4 rfl) (ww hw 110 rfl) (by decide) pd8 (B.X) (c_isf hw S B A0 (j := 0) (by decide) rfl g1) rfl rfl rfl rfl all0 (fun v hh q _ => ?_)
          obtain ⟨rfl, rfl⟩ := q
          refine istore (q1 := 265) at_263 rfl rfl ?_
          simp only [List.set_cons_zero, List.set_cons_succ]
          refine aload (q1 := 267) at_265 rfl rfl rfl ?_
          refine aload (q1 := 269) at_267 rfl rfl rfl ?_
          refine iload (q1 := 271) at_269 rfl rfl ?_
          refine invokevirt (q1 := 274) at_271 rfl (ww hw 106 rfl) (ww hw 107 rfl) (ww hw 109 rfl) (ww hw 108 rfl) (ww hw 4 rfl) (ww hw 110 rfl) (by decide) pd8 (B.X) (c_isf hw S B A1 (j := 1) (by decide) rfl g1) rfl rfl rfl rfl all0 (fun v hh q _ => ?_)
          obtain ⟨rfl, rfl⟩ := q
          refine istore (q1 := 276) at_274 rfl rfl ?_
          simp only [List.set_cons_zero, List.set_cons_succ]
          refine aload (q1 := 278) at_276 rfl rfl rfl ?_
          refine aload (q1 := 280) at_278 rfl rfl rfl ?_
          refine iload (q1 := 282) at_280 rfl rfl ?_
          refine invokevirt (q1 := 285) at_282 rfl (ww hw 106 rfl) (ww hw 107 rfl) (ww hw 109 rfl) (ww hw 108 rfl) (ww hw 4 rfl) (ww hw 110 rfl) (by decide) pd8 (B.X) (c_isf hw S B A0 (j := 0) (by decide) rfl g2) rfl rfl rfl rfl all0 (fun v hh q _ => ?_)
          obtain ⟨rfl, rfl⟩ := q
          refine istore (q1 := 287) at_285 rfl rfl ?_
          simp only [List.set_cons_zero, List.set_cons_succ]
          refine aload (q1 := 289) at_287 rfl rfl rfl ?_
          refine aload (q1 := 291) at_289 rfl rfl rfl ?_
          refine invokevirt (q1 := 294) at_291 rfl (ww hw 116 rfl) (ww hw 117 rfl) (ww hw 119 rfl) (ww hw 118 rfl) (ww hw 4 rfl) (ww hw 120 rfl) (by decide) pd10 (B.X) (c_low hw S B A0 (j := 0) (by decide) rfl (by rw [hf]; exact g7) (by rw [hx, hf]; exact g8)) rfl rfl rfl rfl all0 (fun v hh q _ => ?_)
          obtain ⟨rfl, rfl⟩ := q
          refine istore (q1 := 296) at_294 rfl rfl ?_
          simp only [List.set_cons_zero, List.set_cons_succ]
          refine aload (q1 := 298) at_296 rfl rfl rfl ?_
          refine aload (q1 := 300) at_298 rfl rfl rfl ?_
          refine invokevirt (q1 := 303) at_300 rfl (ww hw 116 rfl) (ww hw 117 rfl) (ww hw 119 rfl) (ww hw 118 rfl) (ww hw 4 rfl) (ww hw 120 rfl) (by decide) pd10 (B.X) (c_low hw S B A1 (j := 1) (by decide) rfl e2 e3) rfl rfl rfl rfl all0 (fun v hh q _ => ?_)
          obtain ⟨rfl, rfl⟩ := q
          refine istore (q1 := 305) at_303 rfl rfl ?_
          simp only [List.set_cons_zero, List.set_cons_succ]
          refine iload (q1 := 307) at_305 rfl rfl ?_
          refine if_eq (q1 := 310) (q := 340) at_307 rfl ⟨by decide, rfl⟩ (fun hq => absurd (by rw [hx, g4] at hq; exact hq) (by decide)) (fun _ => ?_)
          refine iload (q1 := 312) at_310 rfl rfl ?_
          refine iload (q1 := 314) at_312 rfl rfl ?_
          refine icmp_ne (q1 := 317) (q := 340) at_314 rfl ⟨by decide, rfl⟩ (fun hq => absurd (by rcases hb with ⟨rfl, hb1, hb2⟩|⟨rfl, hb1, hb2⟩; rw [hb1, hx, g4]; rw [hb1, g5]) hq) (fun _ => ?_)
          refine iload (q1 := 319) at_317 rfl rfl ?_
          refine if_ne (q1 := 322) (q := 340) at_319 rfl ⟨by decide, rfl⟩ (fun hq => absurd (by rw [hx, g6]) hq) (fun _ => ?_)
          refine iload (q1 := 324) at_322 rfl rfl ?_
          refine iload (q1 := 326) at_324 rfl rfl ?_
          refine icmp_ne (q1 := 329) (q := 340) at_326 rfl ⟨by decide, rfl⟩ (fun hq => absurd (by rw [hx, hf]; exact g9) hq) (fun _ => ?_)
          refine iload (q1 := 331) at_329 rfl rfl ?_
          refine iload (q1 := 333) at_331 rfl rfl ?_
          refine icmp_ne (q1 := 336) (q := 340) at_333 rfl ⟨by decide, rfl⟩ (fun hq => absurd e1 hq) (fun _ => ?_)
          refine iconst (q1 := 337) (v := 1) at_336 rfl rfl ?_
          refine goto (q := 341) at_337 ⟨by decide, rfl⟩ ?_
          refine ret_n (t := .boolean) at_341 rfl (by simp) rfl rfl
        refine iload (q1 := 224) at_222 rfl rfl ?_
        refine iload (q1 := 226) at_224 rfl rfl ?_
        refine iload (q1 := 228) at_226 rfl rfl ?_
        refine invokestatic (q1 := 231) at_228 rfl (ww hw 99 rfl) (ww hw 100 rfl) (ww hw 101 rfl) (ww hw 102 rfl) (by decide) pd6 (c_lm hw) rfl rfl rfl rfl all0 (fun v hh q _ => ?_)
        obtain ⟨rfl, rfl⟩ := q
        refine istore (q1 := 233) at_231 rfl rfl ?_
        simp only [List.set_cons_zero, List.set_cons_succ]
        refine iload (q1 := 235) at_233 rfl rfl ?_
        rcases hb with ⟨rfl, hb1, hb2⟩ | ⟨rfl, hb1, hb2⟩
        · refine if_eq (q1 := 238) (q := 243) at_235 rfl ⟨by decide, rfl⟩ (fun hq => absurd hq (by decide)) (fun _ => ?_)
          refine iload (q1 := 240) at_238 rfl rfl ?_
          refine goto (q := 252) at_240 ⟨by decide, rfl⟩ ?_
          refine last _ (by rw [hb1, hb2, hx, hf]; exact g9) (by rw [hb2, hf]; exact g7) (by rw [hb1, hb2, hx, hf]; exact g8)
        · refine if_eq (q1 := 238) (q := 243) at_235 rfl ⟨by decide, rfl⟩ (fun _ => ?_) (fun hq => absurd rfl hq)
          refine iload (q1 := 245) at_243 rfl rfl ?_
          refine iload (q1 := 247) at_245 rfl rfl ?_
          refine iload (q1 := 249) at_247 rfl rfl ?_
          refine invokestatic (q1 := 252) at_249 rfl (ww hw 99 rfl) (ww hw 100 rfl) (ww hw 101 rfl) (ww hw 102 rfl) (by decide) pd6 (c_lm hw) rfl rfl rfl rfl all0 (fun v hh q _ => ?_)
          obtain ⟨rfl, rfl⟩ := q
          refine last _ (by rw [hb1, hb2]; exact d3) (by rw [hb2]; exact d1) (by rw [hb1, hb2]; exact d2)
      refine iload (q1 := 183) at_181 rfl rfl ?_
      rcases hk with ⟨rfl, rfl, rfl, rfl⟩ | ⟨rfl, rfl, rfl, rfl⟩ | ⟨rfl, rfl, rfl, rfl⟩
      · refine if_ne (q1 := 186) (q := 190) at_183 rfl ⟨by decide, rfl⟩ (fun hq => absurd rfl hq) (fun _ => ?_)
        refine iconst (q1 := 187) (v := 0) at_186 rfl rfl ?_
        refine goto (q := 192) at_187 ⟨by decide, rfl⟩ ?_
        refine istore (q1 := 194) at_192 rfl rfl ?_
        simp only [List.set_cons_zero, List.set_cons_succ]
        refine iload (q1 := 196) at_194 rfl rfl ?_
        refine iconst (q1 := 197) (v := 1) at_196 rfl rfl ?_
        refine icmp_ne (q1 := 200) (q := 204) at_197 rfl ⟨by decide, rfl⟩ (fun _ => ?_) (fun hq => absurd hq (by decide))
        refine iload (q1 := 206) at_204 rfl rfl ?_
        refine istore (q1 := 208) at_206 rfl rfl ?_
        simp only [List.set_cons_zero, List.set_cons_succ]
        refine iload (q1 := 210) at_208 rfl rfl ?_
        refine iconst (q1 := 211) (v := 2) at_210 rfl rfl ?_
        refine icmp_ne (q1 := 214) (q := 218) at_211 rfl ⟨by decide, rfl⟩ (fun _ => ?_) (fun hq => absurd hq (by decide))
        refine iload (q1 := 220) at_218 rfl rfl ?_
        refine istore (q1 := 222) at_220 rfl rfl ?_
        simp only [List.set_cons_zero, List.set_cons_succ]
        exact fin
      · refine if_ne (q1 := 186) (q := 190) at_183 rfl ⟨by decide, rfl⟩ (fun _ => ?_) (fun hq => absurd hq (by decide))
        refine iload (q1 := 192) at_190 rfl rfl ?_
        refine istore (q1 := 194) at_192 rfl rfl ?_
        simp only [List.set_cons_zero, List.set_cons_succ]
        refine iload (q1 := 196) at_194 rfl rfl ?_
        refine iconst (q1 := 197) (v := 1) at_196 rfl rfl ?_
        refine icmp_ne (q1 := 200) (q := 204) at_197 rfl ⟨by decide, rfl⟩ (fun hq => absurd rfl hq) (fun _ => ?_)
        refine iconst (q1 := 201) (v := 0) at_200 rfl rfl ?_
        refine goto (q := 206) at_201 ⟨by decide, rfl⟩ ?_
        refine istore (q1 := 208) at_206 rfl rfl ?_
        simp only [List.set_cons_zero, List.set_cons_succ]
        refine iload (q1 := 210) at_208 rfl rfl ?_
        refine iconst (q1 := 211) (v := 2) at_210 rfl rfl ?_
        refine icmp_ne (q1 := 214) (q := 218) at_211 rfl ⟨by decide, rfl⟩ (fun _ => ?_) (fun hq => absurd hq (by decide))
        refine iload (q1 := 220) at_218 rfl rfl ?_
        refine istore (q1 := 222) at_220 rfl rfl ?_
        simp only [List.set_cons_zero, List.set_cons_succ]
        exact fin
      · refine if_ne (q1 := 186) (q := 190) at_183 rfl ⟨by decide, rfl⟩ (fun _ => ?_) (fun hq => absurd hq (by decide))
        refine iload (q1 := 192) at_190 rfl rfl ?_
        refine istore (q1 := 194) at_192 rfl rfl ?_
        simp only [List.set_cons_zero, List.set_cons_succ]
        refine iload (q1 := 196) at_194 rfl rfl ?_
        refine iconst (q1 := 197) (v := 1) at_196 rfl rfl ?_
        refine icmp_ne (q1 := 200) (q := 204) at_197 rfl ⟨by decide, rfl⟩ (fun _ => ?_) (fun hq => absurd hq (by decide))
        refine iload (q1 := 206) at_204 rfl rfl ?_
        refine istore (q1 := 208) at_206 rfl rfl ?_
        simp only [List.set_cons_zero, List.set_cons_succ]
        refine iload (q1 := 210) at_208 rfl rfl ?_
        refine iconst (q1 := 211) (v := 2) at_210 rfl rfl ?_
        refine icmp_ne (q1 := 214) (q := 218) at_211 rfl ⟨by decide, rfl⟩ (fun hq => absurd rfl hq) (fun _ => ?_)
        refine iconst (q1 := 215) (v := 0) at_214 rfl rfl ?_
        refine goto (q := 220) at_215 ⟨by decide, rfl⟩ ?_
        refine istore (q1 := 222) at_220 rfl rfl ?_
        simp only [List.set_cons_zero, List.set_cons_succ]
        exact fin
    refine iconst (q1 := 95) (v := 1) at_94 rfl rfl ?_
    refine newarray (q1 := 97) (len := 1) (cap := 1) at_95 rfl (ww hw 1 rfl) rfl (by decide) (by decide) (by decide) (by decide) (fun S95 h95 E95 A95 => ?_)
    refine Jvm.OwnWp.dup (q1 := 98) at_97 rfl rfl ?_
    refine iconst (q1 := 99) (v := 0) at_98 rfl rfl ?_
    refine iconst (q1 := 100) (v := 0) at_99 rfl rfl ?_
    refine iastore (q1 := 101) (i := 0) at_100 rfl (A95) rfl (by decide) (Or.inr S95) (fun h100 W100 => ?_)
    refine astore (q1 := 103) at_101 rfl rfl rfl ?_
    simp only [List.set_cons_zero, List.set_cons_succ]
    refine iconst (q1 := 104) (v := 1) at_103 rfl rfl ?_
    refine newarray (q1 := 106) (len := 1) (cap := 1) at_104 rfl (ww hw 1 rfl) rfl (by decide) (by decide) (by decide) (by decide) (fun S104 h104 E104 A104 => ?_)
    refine Jvm.OwnWp.dup (q1 := 107) at_106 rfl rfl ?_
    refine iconst (q1 := 108) (v := 0) at_107 rfl rfl ?_
    refine iconst (q1 := 109) (v := 1) at_108 rfl rfl ?_
    refine iastore (q1 := 110) (i := 0) at_109 rfl (A104) rfl (by decide) (Or.inr S104) (fun h109 W109 => ?_)
    refine astore (q1 := 112) at_110 rfl rfl rfl ?_
    simp only [List.set_cons_zero, List.set_cons_succ]
    refine iconst (q1 := 113) (v := 2) at_112 rfl rfl ?_
    refine newarray (q1 := 115) (len := 2) (cap := 2) at_113 rfl (ww hw 1 rfl) rfl (by decide) (by decide) (by decide) (by decide) (fun S113 h113 E113 A113 => ?_)
    refine Jvm.OwnWp.dup (q1 := 116) at_115 rfl rfl ?_
    refine iconst (q1 := 117) (v := 0) at_116 rfl rfl ?_
    refine iconst (q1 := 118) (v := 0) at_117 rfl rfl ?_
    refine iastore (q1 := 119) (i := 0) at_118 rfl (A113) rfl (by decide) (Or.inr S113) (fun h118 W118 => ?_)
    refine Jvm.OwnWp.dup (q1 := 120) at_119 rfl rfl ?_
    refine iconst (q1 := 121) (v := 1) at_120 rfl rfl ?_
    refine iconst (q1 := 122) (v := 1) at_121 rfl rfl ?_
    refine iastore (q1 := 123) (i := 1) at_122 rfl (A113.same W118) rfl (by decide) (Or.inr S113) (fun h122 W122 => ?_)
    refine astore (q1 := 125) at_123 rfl rfl rfl ?_
    simp only [List.set_cons_zero, List.set_cons_succ]
    refine new (q1 := 128) at_125 rfl (ww hw 2 rfl) (ww hw 3 rfl) (ww hw 4 rfl) (by decide) (by decide) (fun S125 h125 E125 X125 D125 U125 => ?_)
    have l95 : (h0.size : Nat) < h95.size := A95.lt
    have s100 : h100.size = h95.size := W100.size
    have l104 : (h100.size : Nat) < h104.size := A104.lt
    have s109 : h109.size = h104.size := W109.size
    have l113 : (h109.size : Nat) < h113.size := A113.lt
    have s118 : h118.size = h113.size := W118.size
    have s122 : h122.size = h118.size := W122.size
    have l125 : (h122.size : Nat) < h125.size := X125.lt
    have A0 : Ary Z h125 h0.size .int 1 (fun _ => .int 0) := ((((((((A95.same W100).ext E104).other W109 (Nat.ne_of_lt (by omega))).ext E113).other W118 (Nat.ne_of_lt (by omega))).other W122 (Nat.ne_of_lt (by omega))).ext E125)).cong fun t ht => by
      have e : t = 0 := (by omega)
      subst e; rfl
    have A1 : Ary Z h125 h100.size .int 1 (fun _ => .int 1) := (((((A104.same W109).ext E113).other W118 (Nat.ne_of_lt (by omega))).other W122 (Nat.ne_of_lt (by omega))).ext E125).cong fun t ht => by
      have e : t = 0 := (by omega)
      subst e; rfl
    have A2 : Ary Z h125 h109.size .int 2 (fun i => .int (if i = 0 then 0 else 1)) := (((A113.same W118).same W122).ext E125).cong fun t ht => by
      have e : t = 0 ∨ t = 1 := (by omega)
      rcases e with rfl | rfl
      · rfl
      · rfl
    refine Jvm.OwnWp.dup (q1 := 129) at_128 rfl rfl ?_
    refine iconst (q1 := 130) (v := 2) at_129 rfl rfl ?_
    refine invokespecial (q1 := 133) at_130 rfl rfl (ww hw 5 rfl) (ww hw 6 rfl) (ww hw 4 rfl) (ww hw 7 rfl) (by decide) pd0 (c_li hw X125 (D125 (Or.inr (ww hw 14 rfl)) (ty := .array (.object "java/util/BitSet")) (by decide)) (D125 (Or.inr (ww hw 16 rfl)) (ty := .array .int) (by decide))) rfl rfl rfl rfl (allS (Or.inr S125) all0) (fun v h130 q K130 => ?_)
    obtain ⟨rfl, u, f, b0, t0, b1, t1, o1, o2, o3, o4, o5, o6, C0⟩ := q
    have n1 : ∀ {y : Nat}, y < h122.size → (y : Addr) ∉ [h122.size] := fun hy => by
      intro hm; exact absurd (List.mem_singleton.mp hm) (Nat.ne_of_lt hy)
    have n5 : ∀ {y : Nat}, y < u → (y : Addr) ∉ [f, (fun i : Nat => if i = 0 then b0 else b1) 0, (fun i : Nat => if i = 0 then t0 else t1) 0, (fun i : Nat => if i = 0 then b0 else b1) 1, (fun i : Nat => if i = 0 then t0 else t1) 1] := fun {y} hy =>
      nin5 (Nat.ne_of_lt (show y < f by omega)) (Nat.ne_of_lt (show y < b0 by omega)) (Nat.ne_of_lt (show y < t0 by omega)) (Nat.ne_of_lt (show y < b1 by omega)) (Nat.ne_of_lt (show y < t1 by omega))
    have nw : ∀ x ∈ [f, (fun i : Nat => if i = 0 then b0 else b1) 0, (fun i : Nat => if i = 0 then t0 else t1) 0, (fun i : Nat => if i = 0 then b0 else b1) 1, (fun i : Nat => if i = 0 then t0 else t1) 1], x ∈ ([] : List Addr) ∨ h0.size ≤ x :=
      allS (Or.inr (show h0.size ≤ f by omega)) (allS (Or.inr (show h0.size ≤ b0 by omega)) (allS (Or.inr (show h0.size ≤ t0 by omega)) (allS (Or.inr (show h0.size ≤ b1 by omega)) (allS (Or.inr (show h0.size ≤ t1 by omega)) all0))))
    have A0a := A0.keep K130 (n1 (by omega))
    have A1a := A1.keep K130 (n1 (by omega))
    have A2a := A2.keep K130 (n1 (by omega))
    refine astore (q1 := 135) at_133 rfl rfl rfl ?_
    simp only [List.set_cons_zero, List.set_cons_succ]
    refine aload (q1 := 137) at_135 rfl rfl rfl ?_
    refine aload (q1 := 139) at_137 rfl rfl rfl ?_
    refine iload (q1 := 141) at_139 rfl rfl ?_
    refine invokevirt (q1 := 144) at_141 rfl (ww hw 39 rfl) (ww hw 40 rfl) (ww hw 42 rfl) (ww hw 41 rfl) (ww hw 4 rfl) (ww hw 43 rfl) (by decide) pd3 (C0.X) (c_take hw S C0 (fun _ _ => Or.inl rfl) A2a (n5 (by omega)) a1 a2 (fun _ _ => a3)) rfl rfl rfl rfl nw (fun v h141 q K141 => ?_)
    obtain ⟨rfl, C1⟩ := q
    refine aload (q1 := 146) at_144 rfl rfl rfl ?_
    refine aload (q1 := 148) at_146 rfl rfl rfl ?_
    refine iload (q1 := 150) at_148 rfl rfl ?_
    refine invokevirt (q1 := 153) at_150 rfl (ww hw 39 rfl) (ww hw 40 rfl) (ww hw 42 rfl) (ww hw 41 rfl) (ww hw 4 rfl) (ww hw 43 rfl) (by decide) pd3 (C1.X) (c_take hw S C1 (fun _ _ => Or.inr rfl) (A2a.keep K141 (n5 (by omega))) (n5 (by omega)) bb1 bb2 (fun _ _ => bb3)) rfl rfl rfl rfl nw (fun v h150 q K150 => ?_)
    obtain ⟨rfl, C2⟩ := q
    refine aload (q1 := 155) at_153 rfl rfl rfl ?_
    refine aload (q1 := 157) at_155 rfl rfl rfl ?_
    refine iload (q1 := 159) at_157 rfl rfl ?_
    refine invokevirt (q1 := 162) at_159 rfl (ww hw 39 rfl) (ww hw 40 rfl) (ww hw 42 rfl) (ww hw 41 rfl) (ww hw 4 rfl) (ww hw 43 rfl) (by decide) pd3 (C2.X) (c_take hw S C2 (fun _ _ => Or.inr rfl) ((A2a.keep K141 (n5 (by omega))).keep K150 (n5 (by omega))) (n5 (by omega)) c1 c2 (fun _ _ => c3)) rfl rfl rfl rfl nw (fun v h159 q K159 => ?_)
    obtain ⟨rfl, C3⟩ := q
    have A0b := ((A0a.keep K141 (n5 (by omega))).keep K150 (n5 (by omega))).keep K159 (n5 (by omega))
    have A1b := ((A1a.keep K141 (n5 (by omega))).keep K150 (n5 (by omega))).keep K159 (n5 (by omega))
    have A2b := ((A2a.keep K141 (n5 (by omega))).keep K150 (n5 (by omega))).keep K159 (n5 (by omega))
    refine aload (q1 := 164) at_162 rfl rfl rfl ?_
    refine iload (q1 := 166) at_164 rfl rfl ?_
    rcases hbo with rfl | rfl
    · refine if_eq (q1 := 169) (q := 174) at_166 rfl ⟨by decide, rfl⟩ (fun _ => ?_) (fun hq => absurd rfl hq)
      refine aload (q1 := 176) at_174 rfl rfl rfl ?_
      refine iload (q1 := 178) at_176 rfl rfl ?_
      refine invokevirt (q1 := 181) at_178 rfl (ww hw 80 rfl) (ww hw 81 rfl) (ww hw 83 rfl) (ww hw 82 rfl) (ww hw 4 rfl) (ww hw 84 rfl) (by decide) pd3 (C3.X) (c_free hw S C3 (Or.inl ⟨rfl, rfl⟩) (A0b.cong fun t ht => by rw [show t = 0 by omega]; rfl) (n5 (by omega)) g1 (fun _ _ => g3)) rfl rfl rfl rfl nw (fun v h178 q K178 => ?_)
      obtain ⟨rfl, C4⟩ := q
      refine more (k' := 12) (n' := 30) (by decide) (by decide) ?_
      exact tail _ _ _ _ _ _ _ _ _ _ _ C4 (A0b.keep K178 (n5 (by omega))) (A1b.keep K178 (n5 (by omega))) rfl rfl (Or.inr ⟨rfl, rfl, rfl⟩)
    · refine if_eq (q1 := 169) (q := 174) at_166 rfl ⟨by decide, rfl⟩ (fun hq => absurd hq (by decide)) (fun _ => ?_)
      refine aload (q1 := 171) at_169 rfl rfl rfl ?_
      refine goto (q := 176) at_171 ⟨by decide, rfl⟩ ?_
      refine iload (q1 := 178) at_176 rfl rfl ?_
      refine invokevirt (q1 := 181) at_178 rfl (ww hw 80 rfl) (ww hw 81 rfl) (ww hw 83 rfl) (ww hw 82 rfl) (ww hw 4 rfl) (ww hw 84 rfl) (by decide) pd3 (C3.X) (c_free hw S C3 (Or.inr ⟨rfl, rfl⟩) A2b (n5 (by omega)) g1 (fun _ _ => g3)) rfl rfl rfl rfl nw (fun v h178 q K178 => ?_)
      obtain ⟨rfl, C4⟩ := q
      refine more (k' := 12) (n' := 30) (by decide) (by decide) ?_
      exact tail _ _ _ _ _ _ _ _ _ _ _ C4 (A0b.keep K178 (n5 (by omega))) (A1b.keep K178 (n5 (by omega))) rfl rfl (Or.inl ⟨rfl, rfl, rfl⟩)
  have main : ∀ bo : Int32, (bo = 0 ∨ bo = 1) → Wp false p l e room_1 s m ([.int p1, .int p2, .int p3, .int p4] : List Value).toArray below meth c Z "com/example/lightweave/lightweave/planning/LinkWavelengthsFreePinLaw" "law" code maxLocals (some .boolean) n0 h0 [] (fun v h' => v = some (.int 1)) (fun _ => True) h0 0 0 11 [.val (.int p1), .val (.int p2), .val (.int p3), .val (.int p4), .unset, .unset, .unset, .unset, .unset, .unset, .unset, .unset, .unset, .unset, .unset, .unset, .unset, .unset, .unset, .unset, .unset, .unset, .unset, .unset, .unset] [.int bo] := by
    intro bo hbo
    refine istore (q1 := 13) at_11 rfl rfl ?_
    simp only [List.set_cons_zero, List.set_cons_succ]
    refine iload_n (q1 := 14) at_13 rfl rfl ?_
    refine iconst (q1 := 15) (v := 3) at_14 rfl rfl ?_
    refine iand (q1 := 16) at_15 rfl ?_
    refine iconst (q1 := 17) (v := 1) at_16 rfl rfl ?_
    refine iadd (q1 := 18) at_17 rfl ?_
    refine istore (q1 := 20) at_18 rfl rfl ?_
    simp only [List.set_cons_zero, List.set_cons_succ]
    refine iload (q1 := 22) at_20 rfl rfl ?_
    refine iconst (q1 := 23) (v := 1) at_22 rfl rfl ?_
    refine iadd (q1 := 24) at_23 rfl ?_
    refine istore (q1 := 26) at_24 rfl rfl ?_
    simp only [List.set_cons_zero, List.set_cons_succ]
    refine iload (q1 := 28) at_26 rfl rfl ?_
    refine iconst (q1 := 29) (v := 1) at_28 rfl rfl ?_
    refine iadd (q1 := 30) at_29 rfl ?_
    refine iload_n (q1 := 31) at_30 rfl rfl ?_
    refine iconst (q1 := 32) (v := 1) at_31 rfl rfl ?_
    refine iand (q1 := 33) at_32 rfl ?_
    refine iadd (q1 := 34) at_33 rfl ?_
    refine istore (q1 := 36) at_34 rfl rfl ?_
    simp only [List.set_cons_zero, List.set_cons_succ]
    refine iload_n (q1 := 37) at_36 rfl rfl ?_
    refine ldcI (q1 := 39) at_37 rfl (ww hw 0 rfl) ?_
    refine iand (q1 := 40) at_39 rfl ?_
    refine iconst (q1 := 41) (v := 3) at_40 rfl rfl ?_
    refine irem (q1 := 42) at_41 rfl (by decide) ?_
    refine istore (q1 := 44) at_42 rfl rfl ?_
    simp only [List.set_cons_zero, List.set_cons_succ]
    refine iload (q1 := 46) at_44 rfl rfl ?_
    have fa := own_FA p1 p2
    have fb0 := own_FB0 p1 p2
    have fb1 := own_FB1 p1 p2
    have fb2 := own_FB2 p1 p2
    have hk := own_k3 p3
    generalize (p1 &&& 3) + 1 + 1 + 1 + (p2 &&& 1) = w3 at *
    generalize (p1 &&& 3) + 1 = w1 at *
    generalize (p3 &&& 2147483647) % 3 = kI at *
    rcases hk with rfl | rfl | rfl
    · refine if_ne (q1 := 49) (q := 54) at_46 rfl ⟨by decide, rfl⟩ (fun hq => absurd rfl hq) (fun _ => ?_)
      refine iload (q1 := 51) at_49 rfl rfl ?_
      refine goto (q := 67) at_51 ⟨by decide, rfl⟩ ?_
      refine istore (q1 := 69) at_67 rfl rfl ?_
      simp only [List.set_cons_zero, List.set_cons_succ]
      refine iload (q1 := 71) at_69 rfl rfl ?_
      refine if_ne (q1 := 74) (q := 79) at_71 rfl ⟨by decide, rfl⟩ (fun hq => absurd rfl hq) (fun _ => ?_)
      refine iload (q1 := 76) at_74 rfl rfl ?_
      refine goto (q := 92) at_76 ⟨by decide, rfl⟩ ?_
      refine istore (q1 := 94) at_92 rfl rfl ?_
      simp only [List.set_cons_zero, List.set_cons_succ]
      exact rest _ _ _ _ _ _ _ _ _ _ hbo fa fb0 (Or.inl ⟨rfl, rfl, rfl, rfl⟩)
    · refine if_ne (q1 := 49) (q := 54) at_46 rfl ⟨by decide, rfl⟩ (fun _ => ?_) (fun hq => absurd hq (by decide))
      refine iload (q1 := 56) at_54 rfl rfl ?_
      refine iconst (q1 := 57) (v := 1) at_56 rfl rfl ?_
      refine icmp_ne (q1 := 60) (q := 65) at_57 rfl ⟨by decide, rfl⟩ (fun hq => absurd rfl hq) (fun _ => ?_)
      refine iload (q1 := 62) at_60 rfl rfl ?_
      refine goto (q := 67) at_62 ⟨by decide, rfl⟩ ?_
      refine istore (q1 := 69) at_67 rfl rfl ?_
      simp only [List.set_cons_zero, List.set_cons_succ]
      refine iload (q1 := 71) at_69 rfl rfl ?_
      refine if_ne (q1 := 74) (q := 79) at_71 rfl ⟨by decide, rfl⟩ (fun _ => ?_) (fun hq => absurd hq (by decide))
      refine iload (q1 := 81) at_79 rfl rfl ?_
      refine iconst (q1 := 82) (v := 1) at_81 rfl rfl ?_
      refine icmp_ne (q1 := 85) (q := 90) at_82 rfl ⟨by decide, rfl⟩ (fun hq => absurd rfl hq) (fun _ => ?_)
      refine iload (q1 := 87) at_85 rfl rfl ?_
      refine goto (q := 92) at_87 ⟨by decide, rfl⟩ ?_
      refine istore (q1 := 94) at_92 rfl rfl ?_
      simp only [List.set_cons_zero, List.set_cons_succ]
      exact rest _ _ _ _ _ _ _ _ _ _ hbo fa fb1 (Or.inr (Or.inl ⟨rfl, rfl, rfl, rfl⟩))
    · refine if_ne (q1 := 49) (q := 54) at_46 rfl ⟨by decide, rfl⟩ (fun _ => ?_) (fun hq => absurd hq (by decide))
      refine iload (q1 := 56) at_54 rfl rfl ?_
      refine iconst (q1 := 57) (v := 1) at_56 rfl rfl ?_
      refine icmp_ne (q1 := 60) (q := 65) at_57 rfl ⟨by decide, rfl⟩ (fun _ => ?_) (fun hq => absurd hq (by decide))
      refine iload (q1 := 67) at_65 rfl rfl ?_
      refine istore (q1 := 69) at_67 rfl rfl ?_
      simp only [List.set_cons_zero, List.set_cons_succ]
      refine iload (q1 := 71) at_69 rfl rfl ?_
      refine if_ne (q1 := 74) (q := 79) at_71 rfl ⟨by decide, rfl⟩ (fun _ => ?_) (fun hq => absurd hq (by decide))
      refine iload (q1 := 81) at_79 rfl rfl ?_
      refine iconst (q1 := 82) (v := 1) at_81 rfl rfl ?_
      refine icmp_ne (q1 := 85) (q := 90) at_82 rfl ⟨by decide, rfl⟩ (fun _ => ?_) (fun hq => absurd hq (by decide))
      refine iload (q1 := 92) at_90 rfl rfl ?_
      refine istore (q1 := 94) at_92 rfl rfl ?_
      simp only [List.set_cons_zero, List.set_cons_succ]
      exact rest _ _ _ _ _ _ _ _ _ _ hbo fa fb2 (Or.inr (Or.inr ⟨rfl, rfl, rfl, rfl⟩))
  refine iload_n (q1 := 1) at_0 rfl rfl ?_
  refine iconst (q1 := 2) (v := 1) at_1 rfl rfl ?_
  refine iand (q1 := 3) at_2 rfl ?_
  refine if_eq (q1 := 6) (q := 10) at_3 rfl ⟨by decide, rfl⟩ (fun _ => ?_) (fun _ => ?_)
  · refine iconst (q1 := 11) (v := 0) at_10 rfl rfl ?_
    exact main 0 (Or.inl rfl)
  · refine iconst (q1 := 7) (v := 1) at_6 rfl rfl ?_
    refine goto (q := 11) at_7 ⟨by decide, rfl⟩ ?_
    exact main 1 (Or.inr rfl)
set_option maxRecDepth 65536 in
set_option maxHeartbeats 40000000 in
theorem comes_1 {Post : Tables → Env → Array Value → State → Outcome → State → Prop} (hpost : ∀ tb e args s v u, (limb_1_1.after args s (.returned v) u = true ∧ limb_1_2.after args s (.returned v) u = true ∧ True) → FrameEnd s (.returned v) u (Jvm.fieldLocs frame_1_writes args s ++ Jvm.arrayLocs frame_1_arrays args s ++ Jvm.staticLocs frame_1_statics s) 32 128 → Post tb e args s (.returned v) u) :
    ArmFor flags0 classFile x code maxLocals ret World_1 tables_1 room_1 Calls_1 rest_1 Pre_1 Post := by
  intro l hfl _ _ p e ha hc hk s m args below hf hA hF happ hP
  obtain ⟨hcalls, hrest, hpre⟩ := hP
  obtain ⟨-, -, -, hnamed, -, -, -, hat⟩ := (Spec.applies_iff hf).mp happ
  obtain ⟨hg, hn⟩ := and_e (Cond.before_iff.mp (show (Jvm.Cond.and given_1 narrow_1).before args s = true from hpre))
  obtain ⟨g1, g2⟩ := and_e hg
  obtain ⟨g3, g4⟩ := and_e g2
  obtain ⟨g5, g6⟩ := and_e g4
  obtain ⟨g7, g8⟩ := and_e g6
  obtain ⟨w0, w1, w2, w3, rfl⟩ : ∃ w0 w1 w2 w3 : Value, args = #[w0, w1, w2, w3] := by
    have hs : args.size = 4 := by simpa [Cond.value, given_1] using g1
    obtain ⟨L⟩ := args
    match L, hs with
    | [w0, w1, w2, w3], _ => exact ⟨w0, w1, w2, w3, rfl⟩
  have hw := fun d (hd : d ∈ tables_1) => atoms_spec (ws := Jvm.Cond.code x code maxLocals ret :: tables_1) hat d (List.mem_cons_of_mem _ hd)
  have hfit : Fit s := fun {y c} hc i hi => by
    obtain ⟨ha, rfl⟩ := Array.getElem?_eq_some_iff.mp hc
    have q := List.all_eq_true.mp ((Array.all_eq_true_iff_forall_mem.mp hF) _ (Array.getElem_mem ha)) i (List.mem_range.mpr hi)
    simpa [Array.getElem?_eq_getElem hi] using q
  obtain ⟨hsets, hown0⟩ := atoms_of _ (rest_1_c_eq ▸ (show rest_1_c.before _ s = true from hrest))
  obtain ⟨i0, ei0⟩ := is_v g3
  obtain rfl : w0 = (.int i0) := Option.some.inj ei0
  obtain ⟨i1, ei1⟩ := is_v g5
  obtain rfl : w1 = (.int i1) := Option.some.inj ei1
  obtain ⟨i2, ei2⟩ := is_v g7
  obtain rfl : w2 = (.int i2) := Option.some.inj ei2
  obtain ⟨i3, ei3⟩ := is_v g8
  obtain rfl : w3 = (.int i3) := Option.some.inj ei3
  have S : AOff s := own_sta hfit (hsets _ (List.mem_of_getElem? (i := 0) rfl)) (hsets _ (List.mem_of_getElem? (i := 1) rfl)) (hsets _ (List.mem_of_getElem? (i := 2) rfl)) (ty := .boolean) (by decide) (by simp)
  obtain ⟨n, o, h1, h2, h3, _, L, rfl, ⟨rfl, N, -⟩, hq⟩ := law (l := l) hw (p1 := i0) (p2 := i1) (p3 := i2) (p4 := i3) S (Old.start s) all0 tables_1 p e ha hc hk s m _ below hf ((Spec.applies_iff_loose hf).mp happ).1 ⟨rfl, State.Warmed39.refl s, rfl⟩ trivial
  refine ⟨n, _, h1, h2, h3, hpost _ _ _ _ _ _ ⟨Cond.after_iff.mpr rfl, Cond.after_iff.mpr (eq_i res_at (Term.int_eval (1)) rfl), trivial⟩ ⟨hq.1, hq.2.1, (hq.2.2.sift fun y hy => Or.inr ((N y hy).elim (fun q => nomatch q) id)).mono (by decide) (by decide)⟩⟩
theorem main_1_1 : Claimed_1_1 := comes_1 fun _ _ _ _ _ _ h hF => ⟨h.1, hF⟩
theorem main_1_2 : Claimed_1_2 := comes_1 fun _ _ _ _ _ _ h hF => ⟨h.2.1, hF⟩
end Jvm.Pilot.@@N@@
namespace Jvm.Pilot.@@N@@
open Jvm Jvm.ClassFile Sem Op Lib Jvm.Free Jvm.Stand Jvm.Pilot.@@N@@.Jvm.D
/-! MADE BY PROGRAM (witnessworld.py) out of the Statement's table words and the real class files: 20 classes; the members and pool entries that the words name. The judged class is class 1, her method 3. -/
namespace start1
open Jvm.ClassFile
def u (s : String) : CpInfo := .utf8 (stringToUtf16 s)
/-- a pool by its gaps: so many unusable entries, then the entry; so many at the end -/
def gap : Nat → List CpInfo → List CpInfo
  | 0, r => r
  | n + 1, r => .unusable :: gap n r
def poolList (es : List (Nat × CpInfo)) (last : Nat) : List CpInfo := es.foldr (fun e r => gap e.1 (e.2 :: r)) (gap last [])
def pool (es : List (Nat × CpInfo)) (last : Nat) : Array CpInfo := ⟨poolList es last⟩
def fileOf (pool : Array CpInfo) (this : Nat) (attrs : Array Attribute := #[]) (ms : Array MethodInfo := #[]) (fl : Nat := 33) (sup : Nat := 0) (ifs : Array Nat := #[]) (fds : Array FieldInfo := #[]) : ClassFile where
  minorVersion := 0
  majorVersion := 65
  constantPool := pool
  accessFlags := fl
  thisClass := this
  superClass := sup
  interfaces := ifs
  fields := fds
  methods := ms
  attributes := attrs
def plain (name : String) (sup : Option ClassId) : Class where
  name := name
  kind := .ordinary
  loader := none
  accessFlags := 33
  super := sup
  interfaces := #[]
  cf := none
  fields := #[]
  methods := #[]
  instanceTypes := #[]
  staticTypes := #[]
  resolved := #[]
  callSites := []
  init := .initialized
  statics := none
  mirror := none

def pool0 : Array CpInfo := pool [(5, u "<init>"), (0, u "()V"), (1, .class_ 10), (1, u "java/lang/Object")] 113

def k0c0 : Code := { maxStack := 0, maxLocals := 1, code := object_method_1_code, exceptionTable := #[], attributes := #[] }
def k0m0 : Method := { name := "<init>", desc := "()V", sig := { parameters := [], returnType := none }, accessFlags := 1, code := some k0c0 }
/-- java/lang/Object -/
def k0 : Class := { plain "java/lang/Object" none with
  accessFlags := 33
  interfaces := #[]
  cf := some (fileOf pool0 8 #[] #[{ accessFlags := 1, nameIndex := 5, descriptorIndex := 6, attributes := #[] }] 33 0 #[] #[])
  fields := #[]
  methods := #[k0m0]
  instanceTypes := #[]
  staticTypes := #[]
  resolved := Array.replicate 124 none
  statics := none }

def pool1 : Array CpInfo := pool [(2, .class_ 4), (1, u "java/lang/Object"), (0, u "<init>"), (0, u "()V"), (0, .methodref 8 9), (0, .class_ 10), (0, .nameAndType 11 12), (0, u "com/example/lightweave/lightweave/planning/LinkWavelengthsFreePinLaw"), (0, u "has"), (0, u "(IIII)Z"), (0, .integer 2147483647), (0, .class_ 15), (0, u "com/example/lightweave/lightweave/planning/LinkWavelengths"), (0, .methodref 14 17), (0, .nameAndType 5 18), (0, u "(I)V"), (0, .methodref 14 20), (0, .nameAndType 21 22), (0, u "take"), (0, u "([II)V"), (0, .methodref 14 24), (0, .nameAndType 25 22), (0, u "free"), (0, .methodref 8 27), (0, .nameAndType 28 29), (0, u "lowestMissing"), (0, u "(III)I"), (0, .methodref 14 31), (0, .nameAndType 32 33), (0, u "isFreeOnAll"), (0, u "([II)Z"), (0, .methodref 14 35), (0, .nameAndType 36 37), (0, u "lowestFreeOnAll"), (0, u "([I)I"), (3, u "law")] 4

def k1m0 : Method := { name := "<init>", desc := "()V", sig := { parameters := [], returnType := none }, accessFlags := 1, code := none }
def k1c1 : Code := { maxStack := 2, maxLocals := 4, code := method_2_code, exceptionTable := #[], attributes := #[] }
def k1m1 : Method := { name := "has", desc := "(IIII)Z", sig := { parameters := [.int, .int, .int, .int], returnType := some .boolean }, accessFlags := 10, code := some k1c1 }
def k1c2 : Code := { maxStack := 4, maxLocals := 3, code := method_3_code, exceptionTable := #[], attributes := #[] }
def k1m2 : Method := { name := "lowestMissing", desc := "(III)I", sig := { parameters := [.int, .int, .int], returnType := some .int }, accessFlags := 10, code := some k1c2 }
def k1c3 : Code := { maxStack := 4, maxLocals := 25, code := code, exceptionTable := #[], attributes := #[] }
def k1m3 : Method := { name := "law", desc := "(IIII)Z", sig := { parameters := [.int, .int, .int, .int], returnType := some .boolean }, accessFlags := 9, code := some k1c3 }
/-- com/example/lightweave/lightweave/planning/LinkWavelengthsFreePinLaw -/
def k1 : Class := { plain "com/example/lightweave/lightweave/planning/LinkWavelengthsFreePinLaw" (some 0) with
  accessFlags := 49
  interfaces := #[]
  cf := some (fileOf pool1 8 #[] #[{ accessFlags := 1, nameIndex := 5, descriptorIndex := 6, attributes := #[] }, { accessFlags := 10, nameIndex := 11, descriptorIndex := 12, attributes := #[] }, { accessFlags := 10, nameIndex := 28, descriptorIndex := 29, attributes := #[] }, { accessFlags := 9, nameIndex := 41, descriptorIndex := 12, attributes := #[] }] 49 2 #[] #[])
  fields := #[]
  methods := #[k1m0, k1m1, k1m2, k1m3]
  instanceTypes := #[]
  staticTypes := #[]
  resolved := Array.replicate 46 none
  statics := none }

def pool2 : Array CpInfo := pool [(1, .methodref 2 3), (0, .class_ 4), (0, .nameAndType 5 6), (0, u "java/lang/Object"), (0, u "<init>"), (0, u "()V"), (0, .class_ 8), (0, u "java/util/BitSet"), (0, .fieldref 10 11), (0, .class_ 12), (0, .nameAndType 13 14), (0, u "com/example/lightweave/lightweave/planning/LinkWavelengths"), (0, u "used"), (0, u "[Ljava/util/BitSet;"), (0, .fieldref 10 16), (0, .nameAndType 17 18), (0, u "lowestFree"), (0, u "[I"), (0, .methodref 7 3), (0, .methodref 21 22), (0, .class_ 23), (0, .nameAndType 24 25), (0, u "java/lang/Math"), (0, u "max"), (0, u "(II)I"), (0, .methodref 7 27), (0, .nameAndType 28 29), (0, u "nextClearBit"), (0, u "(I)I"), (0, .methodref 7 31), (0, .nameAndType 32 33), (0, u "get"), (0, u "(I)Z"), (0, .methodref 7 35), (0, .nameAndType 36 37), (0, u "set"), (0, u "(I)V"), (0, .methodref 7 39), (0, .nameAndType 40 37), (0, u "clear"), (0, .methodref 21 42), (0, .nameAndType 43 25), (0, u "min"), (3, u "lowestFreeOnAll"), (0, u "([I)I"), (1, u "isFreeOnAll"), (0, u "([II)Z"), (0, u "take"), (0, u "([II)V"), (0, u "free")] 2

def k2c0 : Code := { maxStack := 4, maxLocals := 3, code := prog_16_method_1_code, exceptionTable := #[], attributes := #[] }
def k2m0 : Method := { name := "<init>", desc := "(I)V", sig := { parameters := [.int], returnType := none }, accessFlags := 0, code := some k2c0 }
def k2c1 : Code := { maxStack := 3, maxLocals := 7, code := prog_16_method_2_code, exceptionTable := #[], attributes := #[] }
def k2m1 : Method := { name := "lowestFreeOnAll", desc := "([I)I", sig := { parameters := [(.array .int)], returnType := some .int }, accessFlags := 0, code := some k2c1 }
def k2c2 : Code := { maxStack := 2, maxLocals := 7, code := prog_16_method_3_code, exceptionTable := #[], attributes := #[] }
def k2m2 : Method := { name := "isFreeOnAll", desc := "([II)Z", sig := { parameters := [(.array .int), .int], returnType := some .boolean }, accessFlags := 0, code := some k2c2 }
def k2c3 : Code := { maxStack := 5, maxLocals := 7, code := prog_16_method_4_code, exceptionTable := #[], attributes := #[] }
def k2m3 : Method := { name := "take", desc := "([II)V", sig := { parameters := [(.array .int), .int], returnType := none }, accessFlags := 0, code := some k2c3 }
def k2c4 : Code := { maxStack := 4, maxLocals := 7, code := prog_16_method_5_code, exceptionTable := #[], attributes := #[] }
def k2m4 : Method := { name := "free", desc := "([II)V", sig := { parameters := [(.array .int), .int], returnType := none }, accessFlags := 0, code := some k2c4 }
/-- com/example/lightweave/lightweave/planning/LinkWavelengths -/
def k2 : Class := { plain "com/example/lightweave/lightweave/planning/LinkWavelengths" (some 0) with
  accessFlags := 48
  interfaces := #[]
  cf := some (fileOf pool2 10 #[] #[{ accessFlags := 0, nameIndex := 5, descriptorIndex := 37, attributes := #[] }, { accessFlags := 0, nameIndex := 47, descriptorIndex := 48, attributes := #[] }, { accessFlags := 0, nameIndex := 50, descriptorIndex := 51, attributes := #[] }, { accessFlags := 0, nameIndex := 52, descriptorIndex := 53, attributes := #[] }, { accessFlags := 0, nameIndex := 54, descriptorIndex := 53, attributes := #[] }] 48 2 #[] #[{ accessFlags := 18, nameIndex := 13, descriptorIndex := 14, attributes := #[] }, { accessFlags := 18, nameIndex := 17, descriptorIndex := 18, attributes := #[] }])
  fields := #[{ name := "used", type := (.array (.object "java/util/BitSet")), accessFlags := 18, slot := 0, constantValue := 0 }, { name := "lowestFree", type := (.array .int), accessFlags := 18, slot := 1, constantValue := 0 }]
  methods := #[k2m0, k2m1, k2m2, k2m3, k2m4]
  instanceTypes := #[(.array (.object "java/util/BitSet")), (.array .int)]
  staticTypes := #[]
  resolved := Array.replicate 57 none
  statics := none }

def pool3 : Array CpInfo := pool [(1, .class_ 2), (0, u "java/lang/Cloneable"), (0, .class_ 4), (0, u "java/lang/Object")] 2

/-- java/lang/Cloneable -/
def k3 : Class := { plain "java/lang/Cloneable" (some 0) with
  accessFlags := 1537
  interfaces := #[]
  cf := some (fileOf pool3 1 #[] #[] 1537 3 #[] #[])
  fields := #[]
  methods := #[]
  instanceTypes := #[]
  staticTypes := #[]
  resolved := Array.replicate 7 none
  statics := none }

def pool4 : Array CpInfo := pool [(1, .class_ 2), (0, u "java/io/Serializable"), (0, .class_ 4), (0, u "java/lang/Object")] 2

/-- java/io/Serializable -/
def k4 : Class := { plain "java/io/Serializable" (some 0) with
  accessFlags := 1537
  interfaces := #[]
  cf := some (fileOf pool4 1 #[] #[] 1537 3 #[] #[])
  fields := #[]
  methods := #[]
  instanceTypes := #[]
  staticTypes := #[]
  resolved := Array.replicate 7 none
  statics := none }

def pool5 : Array CpInfo := pool [(1, .class_ 2), (0, u "java/util/BitSet"), (0, .fieldref 1 4), (0, .nameAndType 5 6), (0, u "$assertionsDisabled"), (0, u "Z"), (0, .fieldref 1 8), (0, .nameAndType 9 10), (0, u "wordsInUse"), (0, u "I"), (0, .fieldref 1 12), (0, .nameAndType 13 14), (0, u "words"), (0, u "[J"), (3, .nameAndType 19 20), (0, u "<init>"), (0, u "()V"), (0, .methodref 22 18), (0, .class_ 23), (0, u "java/lang/Object"), (0, .fieldref 1 25), (0, .nameAndType 26 6), (0, u "sizeIsSticky"), (0, .methodref 1 28), (0, .nameAndType 29 30), (0, u "initWords"), (0, u "(I)V"), (21, .methodref 1 53), (0, .nameAndType 54 55), (0, u "wordIndex"), (0, u "(I)I"), (0, .methodref 1 57), (0, .nameAndType 58 20), (0, u "checkInvariants"), (21, u "get"), (58, .methodref 1 140), (0, .nameAndType 141 30), (0, u "ensureCapacity"), (13, .methodref 1 156), (0, .nameAndType 157 30), (0, u "expandTo"), (0, .methodref 1 159), (0, .nameAndType 160 20), (0, u "recalculateWordsInUse"), (4, .long 18446744073709551615), (3, u "set"), (2, u "clear"), (9, .methodref 183 184), (0, .class_ 185), (0, .nameAndType 186 187), (0, u "java/lang/Long"), (0, u "numberOfTrailingZeros"), (0, u "(J)I"), (78, u "nextClearBit"), (2, .class_ 270), (0, u "java/util/BitSet$1BitSetSpliterator"), (22, u "serialPersistentFields"), (0, u "[Ljava/io/ObjectStreamField;"), (0, .class_ 296), (0, u "java/lang/Cloneable"), (0, .class_ 298), (0, u "java/io/Serializable"), (0, u "ADDRESS_BITS_PER_WORD"), (2, u "BITS_PER_WORD"), (1, u "BIT_INDEX_MASK"), (1, u "WORD_MASK"), (0, u "J"), (0, u "serialVersionUID"), (42, u "(I)Z")] 65

def k5c0 : Code := { maxStack := 2, maxLocals := 1, code := jdk_92_method_1_code, exceptionTable := #[], attributes := #[] }
def k5m0 : Method := { name := "wordIndex", desc := "(I)I", sig := { parameters := [.int], returnType := some .int }, accessFlags := 10, code := some k5c0 }
def k5c1 : Code := { maxStack := 4, maxLocals := 1, code := jdk_92_method_2_code, exceptionTable := #[], attributes := #[] }
def k5m1 : Method := { name := "checkInvariants", desc := "()V", sig := { parameters := [], returnType := none }, accessFlags := 2, code := some k5c1 }
def k5c2 : Code := { maxStack := 4, maxLocals := 2, code := jdk_92_method_3_code, exceptionTable := #[], attributes := #[] }
def k5m2 : Method := { name := "recalculateWordsInUse", desc := "()V", sig := { parameters := [], returnType := none }, accessFlags := 2, code := some k5c2 }
def k5c3 : Code := { maxStack := 2, maxLocals := 1, code := jdk_92_method_4_code, exceptionTable := #[], attributes := #[] }
def k5m3 : Method := { name := "<init>", desc := "()V", sig := { parameters := [], returnType := none }, accessFlags := 1, code := some k5c3 }
def k5c4 : Code := { maxStack := 3, maxLocals := 2, code := jdk_92_method_6_code, exceptionTable := #[], attributes := #[] }
def k5m4 : Method := { name := "initWords", desc := "(I)V", sig := { parameters := [.int], returnType := none }, accessFlags := 2, code := some k5c4 }
def k5c5 : Code := { maxStack := 3, maxLocals := 3, code := jdk_92_method_14_code, exceptionTable := #[], attributes := #[] }
def k5m5 : Method := { name := "ensureCapacity", desc := "(I)V", sig := { parameters := [.int], returnType := none }, accessFlags := 2, code := some k5c5 }
def k5c6 : Code := { maxStack := 2, maxLocals := 3, code := jdk_92_method_15_code, exceptionTable := #[], attributes := #[] }
def k5m6 : Method := { name := "expandTo", desc := "(I)V", sig := { parameters := [.int], returnType := none }, accessFlags := 2, code := some k5c6 }
def k5c7 : Code := { maxStack := 7, maxLocals := 3, code := jdk_92_method_19_code, exceptionTable := #[], attributes := #[] }
def k5m7 : Method := { name := "set", desc := "(I)V", sig := { parameters := [.int], returnType := none }, accessFlags := 1, code := some k5c7 }
def k5c8 : Code := { maxStack := 8, maxLocals := 3, code := jdk_92_method_23_code, exceptionTable := #[], attributes := #[] }
def k5m8 : Method := { name := "clear", desc := "(I)V", sig := { parameters := [.int], returnType := none }, accessFlags := 1, code := some k5c8 }
def k5c9 : Code := { maxStack := 5, maxLocals := 3, code := jdk_92_method_26_code, exceptionTable := #[], attributes := #[] }
def k5m9 : Method := { name := "get", desc := "(I)Z", sig := { parameters := [.int], returnType := some .boolean }, accessFlags := 1, code := some k5c9 }
def k5c10 : Code := { maxStack := 5, maxLocals := 5, code := jdk_92_method_29_code, exceptionTable := #[], attributes := #[] }
def k5m10 : Method := { name := "nextClearBit", desc := "(I)I", sig := { parameters := [.int], returnType := some .int }, accessFlags := 1, code := some k5c10 }
/-- java/util/BitSet -/
def k5 : Class := { plain "java/util/BitSet" (some 0) with
  accessFlags := 33
  interfaces := #[3, 4]
  cf := some (fileOf pool5 1 #[.nestMembers #[269]] #[{ accessFlags := 10, nameIndex := 54, descriptorIndex := 55, attributes := #[] }, { accessFlags := 2, nameIndex := 58, descriptorIndex := 20, attributes := #[] }, { accessFlags := 2, nameIndex := 160, descriptorIndex := 20, attributes := #[] }, { accessFlags := 1, nameIndex := 19, descriptorIndex := 20, attributes := #[] }, { accessFlags := 2, nameIndex := 29, descriptorIndex := 30, attributes := #[] }, { accessFlags := 2, nameIndex := 141, descriptorIndex := 30, attributes := #[] }, { accessFlags := 2, nameIndex := 157, descriptorIndex := 30, attributes := #[] }, { accessFlags := 1, nameIndex := 169, descriptorIndex := 30, attributes := #[] }, { accessFlags := 1, nameIndex := 172, descriptorIndex := 30, attributes := #[] }, { accessFlags := 1, nameIndex := 80, descriptorIndex := 351, attributes := #[] }, { accessFlags := 1, nameIndex := 266, descriptorIndex := 55, attributes := #[] }] 33 22 #[295, 297] #[{ accessFlags := 26, nameIndex := 299, descriptorIndex := 10, attributes := #[] }, { accessFlags := 26, nameIndex := 302, descriptorIndex := 10, attributes := #[] }, { accessFlags := 26, nameIndex := 304, descriptorIndex := 10, attributes := #[] }, { accessFlags := 26, nameIndex := 306, descriptorIndex := 307, attributes := #[] }, { accessFlags := 26, nameIndex := 293, descriptorIndex := 294, attributes := #[] }, { accessFlags := 2, nameIndex := 13, descriptorIndex := 14, attributes := #[] }, { accessFlags := 130, nameIndex := 9, descriptorIndex := 10, attributes := #[] }, { accessFlags := 130, nameIndex := 26, descriptorIndex := 6, attributes := #[] }, { accessFlags := 26, nameIndex := 308, descriptorIndex := 307, attributes := #[] }, { accessFlags := 4120, nameIndex := 5, descriptorIndex := 6, attributes := #[] }])
  fields := #[{ name := "ADDRESS_BITS_PER_WORD", type := .int, accessFlags := 26, slot := 0, constantValue := 0 }, { name := "BITS_PER_WORD", type := .int, accessFlags := 26, slot := 1, constantValue := 0 }, { name := "BIT_INDEX_MASK", type := .int, accessFlags := 26, slot := 2, constantValue := 0 }, { name := "WORD_MASK", type := .long, accessFlags := 26, slot := 3, constantValue := 0 }, { name := "serialPersistentFields", type := (.array (.object "java/io/ObjectStreamField")), accessFlags := 26, slot := 4, constantValue := 0 }, { name := "words", type := (.array .long), accessFlags := 2, slot := 0, constantValue := 0 }, { name := "wordsInUse", type := .int, accessFlags := 130, slot := 1, constantValue := 0 }, { name := "sizeIsSticky", type := .boolean, accessFlags := 130, slot := 2, constantValue := 0 }, { name := "serialVersionUID", type := .long, accessFlags := 26, slot := 5, constantValue := 0 }, { name := "$assertionsDisabled", type := .boolean, accessFlags := 4120, slot := 6, constantValue := 0 }]
  methods := #[k5m0, k5m1, k5m2, k5m3, k5m4, k5m5, k5m6, k5m7, k5m8, k5m9, k5m10]
  instanceTypes := #[(.array .long), .int, .boolean]
  staticTypes := #[.int, .int, .int, .long, (.array (.object "java/io/ObjectStreamField")), .long, .boolean]
  resolved := Array.replicate 417 none
  statics := some 0 }

def pool6 : Array CpInfo := pool [(2, .class_ 4), (1, u "java/lang/Object"), (0, u "<init>"), (0, u "()V"), (1, .class_ 10), (1, u "java/lang/Number"), (2, .class_ 14), (0, u "java/io/Serializable"), (0, u "serialVersionUID"), (0, u "J")] 20

def k6m0 : Method := { name := "<init>", desc := "()V", sig := { parameters := [], returnType := none }, accessFlags := 1, code := none }
/-- java/lang/Number -/
def k6 : Class := { plain "java/lang/Number" (some 0) with
  accessFlags := 1057
  interfaces := #[4]
  cf := some (fileOf pool6 8 #[] #[{ accessFlags := 1, nameIndex := 5, descriptorIndex := 6, attributes := #[] }] 1057 2 #[13] #[{ accessFlags := 26, nameIndex := 15, descriptorIndex := 16, attributes := #[] }])
  fields := #[{ name := "serialVersionUID", type := .long, accessFlags := 26, slot := 0, constantValue := 0 }]
  methods := #[k6m0]
  instanceTypes := #[]
  staticTypes := #[.long]
  resolved := Array.replicate 37 none
  statics := none }

def pool7 : Array CpInfo := pool [(1, .class_ 2), (0, u "java/lang/Comparable"), (0, .class_ 4), (0, u "java/lang/Object")] 7

/-- java/lang/Comparable -/
def k7 : Class := { plain "java/lang/Comparable" (some 0) with
  accessFlags := 1537
  interfaces := #[]
  cf := some (fileOf pool7 1 #[] #[] 1537 3 #[] #[])
  fields := #[]
  methods := #[]
  instanceTypes := #[]
  staticTypes := #[]
  resolved := Array.replicate 12 none
  statics := none }

def pool8 : Array CpInfo := pool [(1, .class_ 2), (0, u "java/lang/constant/Constable"), (0, .class_ 4), (0, u "java/lang/Object")] 6

/-- java/lang/constant/Constable -/
def k8 : Class := { plain "java/lang/constant/Constable" (some 0) with
  accessFlags := 1537
  interfaces := #[]
  cf := some (fileOf pool8 1 #[] #[] 1537 3 #[] #[])
  fields := #[]
  methods := #[]
  instanceTypes := #[]
  staticTypes := #[]
  resolved := Array.replicate 11 none
  statics := none }

def pool9 : Array CpInfo := pool [(1, .class_ 2), (0, u "java/lang/constant/ConstantDesc"), (0, .class_ 4), (0, u "java/lang/Object")] 32

/-- java/lang/constant/ConstantDesc -/
def k9 : Class := { plain "java/lang/constant/ConstantDesc" (some 0) with
  accessFlags := 1537
  interfaces := #[]
  cf := some (fileOf pool9 1 #[] #[] 1537 3 #[] #[])
  fields := #[]
  methods := #[]
  instanceTypes := #[]
  staticTypes := #[]
  resolved := Array.replicate 37 none
  statics := none }

def pool10 : Array CpInfo := pool [(1, .class_ 2), (0, u "java/lang/Long"), (15, .class_ 20), (1, u "java/lang/Integer"), (80, u "(J)I"), (133, .class_ 237), (1, u "java/lang/Long$LongCache"), (33, .class_ 272), (0, u "java/lang/Number"), (2, u "value"), (0, u "J"), (33, u "(I)I"), (0, .methodref 18 312), (0, .nameAndType 313 310), (0, u "numberOfTrailingZeros"), (47, u "TYPE"), (0, u "Ljava/lang/Class;"), (0, .class_ 364), (0, u "java/lang/Comparable"), (0, .class_ 366), (0, u "java/lang/constant/Constable"), (0, .class_ 368), (0, u "java/lang/constant/ConstantDesc"), (0, u "MIN_VALUE"), (1, u "MAX_VALUE"), (4, u "SIZE"), (0, u "I"), (1, u "BYTES"), (1, u "serialVersionUID")] 142

def k10c0 : Code := { maxStack := 4, maxLocals := 3, code := jdk_35_method_49_code, exceptionTable := #[], attributes := #[] }
def k10m0 : Method := { name := "numberOfTrailingZeros", desc := "(J)I", sig := { parameters := [.long], returnType := some .int }, accessFlags := 9, code := some k10c0 }
/-- java/lang/Long -/
def k10 : Class := { plain "java/lang/Long" (some 6) with
  accessFlags := 49
  interfaces := #[7, 8, 9]
  cf := some (fileOf pool10 1 #[.nestMembers #[235]] #[{ accessFlags := 9, nameIndex := 313, descriptorIndex := 101, attributes := #[] }] 49 271 #[363, 365, 367] #[{ accessFlags := 25, nameIndex := 369, descriptorIndex := 276, attributes := #[] }, { accessFlags := 25, nameIndex := 371, descriptorIndex := 276, attributes := #[] }, { accessFlags := 25, nameIndex := 361, descriptorIndex := 362, attributes := #[] }, { accessFlags := 18, nameIndex := 275, descriptorIndex := 276, attributes := #[] }, { accessFlags := 25, nameIndex := 376, descriptorIndex := 377, attributes := #[] }, { accessFlags := 25, nameIndex := 379, descriptorIndex := 377, attributes := #[] }, { accessFlags := 26, nameIndex := 381, descriptorIndex := 276, attributes := #[] }])
  fields := #[{ name := "MIN_VALUE", type := .long, accessFlags := 25, slot := 0, constantValue := 0 }, { name := "MAX_VALUE", type := .long, accessFlags := 25, slot := 1, constantValue := 0 }, { name := "TYPE", type := (.object "java/lang/Class"), accessFlags := 25, slot := 2, constantValue := 0 }, { name := "value", type := .long, accessFlags := 18, slot := 0, constantValue := 0 }, { name := "SIZE", type := .int, accessFlags := 25, slot := 3, constantValue := 0 }, { name := "BYTES", type := .int, accessFlags := 25, slot := 4, constantValue := 0 }, { name := "serialVersionUID", type := .long, accessFlags := 26, slot := 5, constantValue := 0 }]
  methods := #[k10m0]
  instanceTypes := #[.long]
  staticTypes := #[.long, .long, (.object "java/lang/Class"), .int, .int, .long]
  resolved := Array.replicate 524 none
  statics := none }

def pool11 : Array CpInfo := pool [(1, .class_ 2), (0, u "java/lang/Integer"), (16, u "digits"), (0, u "[C"), (33, u "(I)I"), (30, u "DigitOnes"), (0, u "[B"), (2, u "DigitTens"), (99, .class_ 190), (0, u "java/lang/Integer$IntegerCache"), (3, u "I"), (8, .class_ 204), (0, u "java/lang/Number"), (2, u "value"), (56, .integer 65536), (37, u "TYPE"), (0, u "Ljava/lang/Class;"), (0, .class_ 305), (0, u "java/lang/Comparable"), (0, .class_ 307), (0, u "java/lang/constant/Constable"), (0, .class_ 309), (0, u "java/lang/constant/ConstantDesc"), (0, u "MIN_VALUE"), (1, u "MAX_VALUE"), (3, u "SIZE"), (1, u "BYTES"), (1, u "serialVersionUID"), (0, u "J"), (84, u "numberOfTrailingZeros")] 46

def k11c0 : Code := { maxStack := 3, maxLocals := 2, code := jdk_33_method_48_code, exceptionTable := #[], attributes := #[] }
def k11m0 : Method := { name := "numberOfTrailingZeros", desc := "(I)I", sig := { parameters := [.int], returnType := some .int }, accessFlags := 9, code := some k11c0 }
/-- java/lang/Integer -/
def k11 : Class := { plain "java/lang/Integer" (some 6) with
  accessFlags := 49
  interfaces := #[7, 8, 9]
  cf := some (fileOf pool11 1 #[.nestMembers #[189]] #[{ accessFlags := 9, nameIndex := 406, descriptorIndex := 54, attributes := #[] }] 49 203 #[304, 306, 308] #[{ accessFlags := 25, nameIndex := 310, descriptorIndex := 194, attributes := #[] }, { accessFlags := 25, nameIndex := 312, descriptorIndex := 194, attributes := #[] }, { accessFlags := 25, nameIndex := 302, descriptorIndex := 303, attributes := #[] }, { accessFlags := 24, nameIndex := 19, descriptorIndex := 20, attributes := #[] }, { accessFlags := 24, nameIndex := 89, descriptorIndex := 86, attributes := #[] }, { accessFlags := 24, nameIndex := 85, descriptorIndex := 86, attributes := #[] }, { accessFlags := 18, nameIndex := 207, descriptorIndex := 194, attributes := #[] }, { accessFlags := 25, nameIndex := 316, descriptorIndex := 194, attributes := #[] }, { accessFlags := 25, nameIndex := 318, descriptorIndex := 194, attributes := #[] }, { accessFlags := 26, nameIndex := 320, descriptorIndex := 321, attributes := #[] }])
  fields := #[{ name := "MIN_VALUE", type := .int, accessFlags := 25, slot := 0, constantValue := 0 }, { name := "MAX_VALUE", type := .int, accessFlags := 25, slot := 1, constantValue := 0 }, { name := "TYPE", type := (.object "java/lang/Class"), accessFlags := 25, slot := 2, constantValue := 0 }, { name := "digits", type := (.array .char), accessFlags := 24, slot := 3, constantValue := 0 }, { name := "DigitTens", type := (.array .byte), accessFlags := 24, slot := 4, constantValue := 0 }, { name := "DigitOnes", type := (.array .byte), accessFlags := 24, slot := 5, constantValue := 0 }, { name := "value", type := .int, accessFlags := 18, slot := 0, constantValue := 0 }, { name := "SIZE", type := .int, accessFlags := 25, slot := 6, constantValue := 0 }, { name := "BYTES", type := .int, accessFlags := 25, slot := 7, constantValue := 0 }, { name := "serialVersionUID", type := .long, accessFlags := 26, slot := 8, constantValue := 0 }]
  methods := #[k11m0]
  instanceTypes := #[.int]
  staticTypes := #[.int, .int, (.object "java/lang/Class"), (.array .char), (.array .byte), (.array .byte), .int, .int, .long]
  resolved := Array.replicate 453 none
  statics := none }

def pool12 : Array CpInfo := pool [(1, .class_ 2), (0, u "java/lang/Math"), (1, .class_ 6), (1, u "java/lang/Object"), (0, u "<init>"), (0, u "()V"), (89, .class_ 100), (1, u "java/lang/Math$RandomNumberGeneratorHolder"), (71, u "negativeZeroFloatBits"), (0, u "J"), (2, u "negativeZeroDoubleBits"), (21, u "max"), (2, u "min"), (43, u "$assertionsDisabled"), (0, u "Z"), (88, u "(II)I"), (2, u "twoToTheDoubleScaleDown"), (0, u "D"), (4, u "twoToTheDoubleScaleUp"), (9, u "E"), (3, u "PI"), (2, u "TAU"), (2, u "DEGREES_TO_RADIANS"), (0, u "RADIANS_TO_DEGREES")] 94

def k12m0 : Method := { name := "<init>", desc := "()V", sig := { parameters := [], returnType := none }, accessFlags := 2, code := none }
def k12c1 : Code := { maxStack := 2, maxLocals := 2, code := jdk_29_method_65_code, exceptionTable := #[], attributes := #[] }
def k12m1 : Method := { name := "max", desc := "(II)I", sig := { parameters := [.int, .int], returnType := some .int }, accessFlags := 9, code := some k12c1 }
def k12c2 : Code := { maxStack := 2, maxLocals := 2, code := jdk_29_method_69_code, exceptionTable := #[], attributes := #[] }
def k12m2 : Method := { name := "min", desc := "(II)I", sig := { parameters := [.int, .int], returnType := some .int }, accessFlags := 9, code := some k12c2 }
/-- java/lang/Math -/
def k12 : Class := { plain "java/lang/Math" (some 0) with
  accessFlags := 49
  interfaces := #[]
  cf := some (fileOf pool12 1 #[.nestMembers #[98]] #[{ accessFlags := 2, nameIndex := 7, descriptorIndex := 8, attributes := #[] }, { accessFlags := 9, nameIndex := 198, descriptorIndex := 335, attributes := #[] }, { accessFlags := 9, nameIndex := 201, descriptorIndex := 335, attributes := #[] }] 49 4 #[] #[{ accessFlags := 25, nameIndex := 354, descriptorIndex := 339, attributes := #[] }, { accessFlags := 25, nameIndex := 358, descriptorIndex := 339, attributes := #[] }, { accessFlags := 25, nameIndex := 361, descriptorIndex := 339, attributes := #[] }, { accessFlags := 26, nameIndex := 364, descriptorIndex := 339, attributes := #[] }, { accessFlags := 26, nameIndex := 365, descriptorIndex := 339, attributes := #[] }, { accessFlags := 26, nameIndex := 172, descriptorIndex := 173, attributes := #[] }, { accessFlags := 26, nameIndex := 176, descriptorIndex := 173, attributes := #[] }, { accessFlags := 8, nameIndex := 344, descriptorIndex := 339, attributes := #[] }, { accessFlags := 8, nameIndex := 338, descriptorIndex := 339, attributes := #[] }, { accessFlags := 4120, nameIndex := 245, descriptorIndex := 246, attributes := #[] }])
  fields := #[{ name := "E", type := .double, accessFlags := 25, slot := 0, constantValue := 0 }, { name := "PI", type := .double, accessFlags := 25, slot := 1, constantValue := 0 }, { name := "TAU", type := .double, accessFlags := 25, slot := 2, constantValue := 0 }, { name := "DEGREES_TO_RADIANS", type := .double, accessFlags := 26, slot := 3, constantValue := 0 }, { name := "RADIANS_TO_DEGREES", type := .double, accessFlags := 26, slot := 4, constantValue := 0 }, { name := "negativeZeroFloatBits", type := .long, accessFlags := 26, slot := 5, constantValue := 0 }, { name := "negativeZeroDoubleBits", type := .long, accessFlags := 26, slot := 6, constantValue := 0 }, { name := "twoToTheDoubleScaleUp", type := .double, accessFlags := 8, slot := 7, constantValue := 0 }, { name := "twoToTheDoubleScaleDown", type := .double, accessFlags := 8, slot := 8, constantValue := 0 }, { name := "$assertionsDisabled", type := .boolean, accessFlags := 4120, slot := 9, constantValue := 0 }]
  methods := #[k12m0, k12m1, k12m2]
  instanceTypes := #[]
  staticTypes := #[.double, .double, .double, .double, .double, .long, .long, .double, .double, .boolean]
  resolved := Array.replicate 460 none
  statics := none }

/-- the primitive byte -/
def k13 : Class := { plain "byte" none with kind := .primitive 'B', accessFlags := 0x411 }
/-- [B -/
def k14 : Class := { plain "[B" (some 0) with kind := .array 13 .byte, interfaces := #[3, 4], accessFlags := 1041 }

/-- the primitive int -/
def k15 : Class := { plain "int" none with kind := .primitive 'I', accessFlags := 0x411 }
/-- [I -/
def k16 : Class := { plain "[I" (some 0) with kind := .array 15 .int, interfaces := #[3, 4], accessFlags := 1041 }

/-- the primitive long -/
def k17 : Class := { plain "long" none with kind := .primitive 'J', accessFlags := 0x411 }
/-- [J -/
def k18 : Class := { plain "[J" (some 0) with kind := .array 17 .long, interfaces := #[3, 4], accessFlags := 1041 }

/-- [Ljava/util/BitSet; -/
def k19 : Class := { plain "[Ljava/util/BitSet;" (some 0) with kind := .array 5 (.object "java/util/BitSet"), interfaces := #[3, 4], accessFlags := 1041 }

def heap : Heap := #[{ cls := 5, slots := #[.int 0, .int 0, .int 0, .long 0, .null, .long 0, .int 1], vm := .statics 5 }]
def classes : Array Class := #[k0, k1, k2, k3, k4, k5, k6, k7, k8, k9, k10, k11, k12, k13, k14, k15, k16, k17, k18, k19]
def interned : List (Array UInt16 × Addr) := []
def slotsUsed : Nat := 7
def theMethod : MethodId := ⟨1, 3⟩
def args0 : Array Value := #[.int 5, .int 5, .int 5, .int 5]
def aboutOver (below : List Frame) : State where
  vm := { classes := classes, interned := interned.toArray }
  heap := heap
  slotsUsed := slotsUsed
  threads := #[{ frames := .invoking theMethod args0 :: below }]
def below0 : List Frame := [.native { method := ⟨0, 0⟩, args := #[] }]
def about1 : State := aboutOver below0
def p0 : Program := .bare "" "" ""
def e0 : Env := launch0.env 0 0 0
theorem w_frames : about1.frames = Frame.invoking theMethod args0 :: below0 := rfl
set_option maxRecDepth 65536 in
theorem w_args : argsFit about1.vm theMethod args0 = true := by decide +kernel
set_option maxRecDepth 65536 in
theorem w_heap : heapFits about1 = true := by decide +kernel
set_option maxRecDepth 65536 in
theorem w_runnable : about1.curStatus? = some .runnable := by decide +kernel
set_option maxRecDepth 65536 in
theorem w_alone : about1.alone = true := by decide +kernel
set_option maxRecDepth 65536 in
theorem w_named : about1.methodNamed? x = some theMethod := by decide +kernel
set_option maxRecDepth 65536 in
theorem w_hears : about1.hears theMethod below0 = true := by decide +kernel
set_option maxRecDepth 65536 in
theorem w_ripe : about1.ripe theMethod args0 below0 = true := by decide +kernel
theorem w_running : about1.status = .running := rfl
set_option maxRecDepth 65536 in
theorem w_room : about1.hasRoom e0.platform room_1 = true :=
  launch0.hasRoom_least _ room_1 (by decide +kernel) (by decide +kernel) (by decide +kernel) (by decide +kernel) (by decide +kernel) (by decide +kernel)
theorem allAtoms_all (ts : List Jvm.Cond) (a : Array Jvm.Value) (st : Jvm.State) : (allAtoms ts).before a st = ts.all (fun c => c.before a st) := by
  induction ts with
  | nil => rfl
  | cons c t ih =>
    show (Jvm.Cond.and c (allAtoms t)).before a st = _
    rw [Jvm.Cond.before_and, ih, List.all_cons]
def words1 : List Jvm.Cond := Jvm.Cond.code x code maxLocals ret :: tables_1
/-- a 'code' word, met by the world's own term for the bytes: nothing is compared byte by byte -/
theorem code_word {y : MethodName} {bytes : ByteArray} {mx : Nat} {rt : Option FieldType} {a : Array Value} {s : State} {m : MethodId} {meth : Method} {c : Code} (h1 : s.methodNamed? y = some m) (h2 : s.vm.method? m = some meth) (h3 : meth.code = some c) (h4 : c.code = bytes)
    (h5 : (c.maxLocals == mx && c.exceptionTable.isEmpty && decide (c.maxStack ≤ mostOperands) && decide (meth.sig.returnType = rt) && !meth.locks && decide (parseMethodDescriptor y.desc = some meth.sig)) = true) : (Jvm.Cond.code y bytes mx rt).before a s = true := by
  simp only [Bool.and_eq_true, beq_iff_eq, Bool.not_eq_true', decide_eq_true_eq] at h5
  obtain ⟨⟨⟨⟨⟨g1, g2⟩, g3⟩, g4⟩, g5⟩, g6⟩ := h5
  simp [Cond.before, Cond.holds, Cond.value, h1, h2, h3, h4, g1, g2, g3, g4, g5, g6]
def isCode : Jvm.Cond → Bool
  | .code _ _ _ _ => true
  | _ => false
theorem all_split {L : List Jvm.Cond} {P : Jvm.Cond → Bool} (h1 : L.all (fun c => isCode c || P c) = true) (h2 : ∀ c ∈ L.filter isCode, P c = true) : L.all P = true := by
  refine List.all_eq_true.mpr fun c hc => ?_
  have h := List.all_eq_true.mp h1 c hc
  rcases Bool.eq_false_or_eq_true (isCode c) with hi | hi
  · exact h2 c (List.mem_filter.mpr ⟨hc, hi⟩)
  · simpa [hi] using h
set_option maxRecDepth 65536 in
theorem w_c0 : (Jvm.Cond.code x code maxLocals ret).before args0 about1 = true := code_word (m := ⟨1, 3⟩) (meth := k1m3) (c := k1c3) (by decide +kernel) rfl rfl rfl (by decide +kernel)
set_option maxRecDepth 65536 in
theorem w_c1 : (Jvm.Cond.code ({ cls := "com/example/lightweave/lightweave/planning/LinkWavelengths", name := "<init>", desc := "(I)V" } : Jvm.MethodName) prog_16_method_1_code (3 : Nat) (Option.none : Option Jvm.ClassFile.FieldType)).before args0 about1 = true := code_word (m := ⟨2, 0⟩) (meth := k2m0) (c := k2c0) (by decide +kernel) rfl rfl rfl (by decide +kernel)
set_option maxRecDepth 65536 in
theorem w_c2 : (Jvm.Cond.code ({ cls := "java/lang/Object", name := "<init>", desc := "()V" } : Jvm.MethodName) object_method_1_code (1 : Nat) (Option.none : Option Jvm.ClassFile.FieldType)).before args0 about1 = true := code_word (m := ⟨0, 0⟩) (meth := k0m0) (c := k0c0) (by decide +kernel) rfl rfl rfl (by decide +kernel)
set_option maxRecDepth 65536 in
theorem w_c3 : (Jvm.Cond.code ({ cls := "java/util/BitSet", name := "<init>", desc := "()V" } : Jvm.MethodName) jdk_92_method_4_code (1 : Nat) (Option.none : Option Jvm.ClassFile.FieldType)).before args0 about1 = true := code_word (m := ⟨5, 3⟩) (meth := k5m3) (c := k5c3) (by decide +kernel) rfl rfl rfl (by decide +kernel)
set_option maxRecDepth 65536 in
theorem w_c4 : (Jvm.Cond.code ({ cls := "java/util/BitSet", name := "initWords", desc := "(I)V" } : Jvm.MethodName) jdk_92_method_6_code (2 : Nat) (Option.none : Option Jvm.ClassFile.FieldType)).before args0 about1 = true := code_word (m := ⟨5, 4⟩) (meth := k5m4) (c := k5c4) (by decide +kernel) rfl rfl rfl (by decide +kernel)
set_option maxRecDepth 65536 in
theorem w_c5 : (Jvm.Cond.code ({ cls := "java/util/BitSet", name := "wordIndex", desc := "(I)I" } : Jvm.MethodName) jdk_92_method_1_code (1 : Nat) (Option.some Jvm.ClassFile.FieldType.int)).before args0 about1 = true := code_word (m := ⟨5, 0⟩) (meth := k5m0) (c := k5c0) (by decide +kernel) rfl rfl rfl (by decide +kernel)
set_option maxRecDepth 65536 in
theorem w_c6 : (Jvm.Cond.code ({ cls := "com/example/lightweave/lightweave/planning/LinkWavelengths", name := "take", desc := "([II)V" } : Jvm.MethodName) prog_16_method_4_code (7 : Nat) (Option.none : Option Jvm.ClassFile.FieldType)).before args0 about1 = true := code_word (m := ⟨2, 3⟩) (meth := k2m3) (c := k2c3) (by decide +kernel) rfl rfl rfl (by decide +kernel)
set_option maxRecDepth 65536 in
theorem w_c7 : (Jvm.Cond.code ({ cls := "java/util/BitSet", name := "set", desc := "(I)V" } : Jvm.MethodName) jdk_92_method_19_code (3 : Nat) (Option.none : Option Jvm.ClassFile.FieldType)).before args0 about1 = true := code_word (m := ⟨5, 7⟩) (meth := k5m7) (c := k5c7) (by decide +kernel) rfl rfl rfl (by decide +kernel)
set_option maxRecDepth 65536 in
theorem w_c8 : (Jvm.Cond.code ({ cls := "java/util/BitSet", name := "expandTo", desc := "(I)V" } : Jvm.MethodName) jdk_92_method_15_code (3 : Nat) (Option.none : Option Jvm.ClassFile.FieldType)).before args0 about1 = true := code_word (m := ⟨5, 6⟩) (meth := k5m6) (c := k5c6) (by decide +kernel) rfl rfl rfl (by decide +kernel)
set_option maxRecDepth 65536 in
theorem w_c9 : (Jvm.Cond.code ({ cls := "java/util/BitSet", name := "ensureCapacity", desc := "(I)V" } : Jvm.MethodName) jdk_92_method_14_code (3 : Nat) (Option.none : Option Jvm.ClassFile.FieldType)).before args0 about1 = true := code_word (m := ⟨5, 5⟩) (meth := k5m5) (c := k5c5) (by decide +kernel) rfl rfl rfl (by decide +kernel)
set_option maxRecDepth 65536 in
theorem w_c10 : (Jvm.Cond.code ({ cls := "java/util/BitSet", name := "checkInvariants", desc := "()V" } : Jvm.MethodName) jdk_92_method_2_code (1 : Nat) (Option.none : Option Jvm.ClassFile.FieldType)).before args0 about1 = true := code_word (m := ⟨5, 1⟩) (meth := k5m1) (c := k5c1) (by decide +kernel) rfl rfl rfl (by decide +kernel)
set_option maxRecDepth 65536 in
theorem w_c11 : (Jvm.Cond.code ({ cls := "java/util/BitSet", name := "nextClearBit", desc := "(I)I" } : Jvm.MethodName) jdk_92_method_29_code (5 : Nat) (Option.some Jvm.ClassFile.FieldType.int)).before args0 about1 = true := code_word (m := ⟨5, 10⟩) (meth := k5m10) (c := k5c10) (by decide +kernel) rfl rfl rfl (by decide +kernel)
set_option maxRecDepth 65536 in
theorem w_c12 : (Jvm.Cond.code ({ cls := "java/lang/Long", name := "numberOfTrailingZeros", desc := "(J)I" } : Jvm.MethodName) jdk_35_method_49_code (3 : Nat) (Option.some Jvm.ClassFile.FieldType.int)).before args0 about1 = true := code_word (m := ⟨10, 0⟩) (meth := k10m0) (c := k10c0) (by decide +kernel) rfl rfl rfl (by decide +kernel)
set_option maxRecDepth 65536 in
theorem w_c13 : (Jvm.Cond.code ({ cls := "java/lang/Integer", name := "numberOfTrailingZeros", desc := "(I)I" } : Jvm.MethodName) jdk_33_method_48_code (2 : Nat) (Option.some Jvm.ClassFile.FieldType.int)).before args0 about1 = true := code_word (m := ⟨11, 0⟩) (meth := k11m0) (c := k11c0) (by decide +kernel) rfl rfl rfl (by decide +kernel)
set_option maxRecDepth 65536 in
theorem w_c14 : (Jvm.Cond.code ({ cls := "com/example/lightweave/lightweave/planning/LinkWavelengths", name := "free", desc := "([II)V" } : Jvm.MethodName) prog_16_method_5_code (7 : Nat) (Option.none : Option Jvm.ClassFile.FieldType)).before args0 about1 = true := code_word (m := ⟨2, 4⟩) (meth := k2m4) (c := k2c4) (by decide +kernel) rfl rfl rfl (by decide +kernel)
set_option maxRecDepth 65536 in
theorem w_c15 : (Jvm.Cond.code ({ cls := "java/util/BitSet", name := "clear", desc := "(I)V" } : Jvm.MethodName) jdk_92_method_23_code (3 : Nat) (Option.none : Option Jvm.ClassFile.FieldType)).before args0 about1 = true := code_word (m := ⟨5, 8⟩) (meth := k5m8) (c := k5c8) (by decide +kernel) rfl rfl rfl (by decide +kernel)
set_option maxRecDepth 65536 in
theorem w_c16 : (Jvm.Cond.code ({ cls := "java/util/BitSet", name := "recalculateWordsInUse", desc := "()V" } : Jvm.MethodName) jdk_92_method_3_code (2 : Nat) (Option.none : Option Jvm.ClassFile.FieldType)).before args0 about1 = true := code_word (m := ⟨5, 2⟩) (meth := k5m2) (c := k5c2) (by decide +kernel) rfl rfl rfl (by decide +kernel)
set_option maxRecDepth 65536 in
theorem w_c17 : (Jvm.Cond.code ({ cls := "java/lang/Math", name := "min", desc := "(II)I" } : Jvm.MethodName) jdk_29_method_69_code (2 : Nat) (Option.some Jvm.ClassFile.FieldType.int)).before args0 about1 = true := code_word (m := ⟨12, 2⟩) (meth := k12m2) (c := k12c2) (by decide +kernel) rfl rfl rfl (by decide +kernel)
set_option maxRecDepth 65536 in
theorem w_c18 : (Jvm.Cond.code ({ cls := "com/example/lightweave/lightweave/planning/LinkWavelengthsFreePinLaw", name := "lowestMissing", desc := "(III)I" } : Jvm.MethodName) method_3_code (3 : Nat) (Option.some Jvm.ClassFile.FieldType.int)).before args0 about1 = true := code_word (m := ⟨1, 2⟩) (meth := k1m2) (c := k1c2) (by decide +kernel) rfl rfl rfl (by decide +kernel)
set_option maxRecDepth 65536 in
theorem w_c19 : (Jvm.Cond.code ({ cls := "com/example/lightweave/lightweave/planning/LinkWavelengthsFreePinLaw", name := "has", desc := "(IIII)Z" } : Jvm.MethodName) method_2_code (4 : Nat) (Option.some Jvm.ClassFile.FieldType.boolean)).before args0 about1 = true := code_word (m := ⟨1, 1⟩) (meth := k1m1) (c := k1c1) (by decide +kernel) rfl rfl rfl (by decide +kernel)
set_option maxRecDepth 65536 in
theorem w_c20 : (Jvm.Cond.code ({ cls := "com/example/lightweave/lightweave/planning/LinkWavelengths", name := "isFreeOnAll", desc := "([II)Z" } : Jvm.MethodName) prog_16_method_3_code (7 : Nat) (Option.some Jvm.ClassFile.FieldType.boolean)).before args0 about1 = true := code_word (m := ⟨2, 2⟩) (meth := k2m2) (c := k2c2) (by decide +kernel) rfl rfl rfl (by decide +kernel)
set_option maxRecDepth 65536 in
theorem w_c21 : (Jvm.Cond.code ({ cls := "java/util/BitSet", name := "get", desc := "(I)Z" } : Jvm.MethodName) jdk_92_method_26_code (3 : Nat) (Option.some Jvm.ClassFile.FieldType.boolean)).before args0 about1 = true := code_word (m := ⟨5, 9⟩) (meth := k5m9) (c := k5c9) (by decide +kernel) rfl rfl rfl (by decide +kernel)
set_option maxRecDepth 65536 in
theorem w_c22 : (Jvm.Cond.code ({ cls := "com/example/lightweave/lightweave/planning/LinkWavelengths", name := "lowestFreeOnAll", desc := "([I)I" } : Jvm.MethodName) prog_16_method_2_code (7 : Nat) (Option.some Jvm.ClassFile.FieldType.int)).before args0 about1 = true := code_word (m := ⟨2, 1⟩) (meth := k2m1) (c := k2c1) (by decide +kernel) rfl rfl rfl (by decide +kernel)
set_option maxRecDepth 65536 in
theorem w_c23 : (Jvm.Cond.code ({ cls := "java/lang/Math", name := "max", desc := "(II)I" } : Jvm.MethodName) jdk_29_method_65_code (2 : Nat) (Option.some Jvm.ClassFile.FieldType.int)).before args0 about1 = true := code_word (m := ⟨12, 1⟩) (meth := k12m1) (c := k12c1) (by decide +kernel) rfl rfl rfl (by decide +kernel)
def codes1 : List Jvm.Cond := [Jvm.Cond.code x code maxLocals ret, Jvm.Cond.code ({ cls := "com/example/lightweave/lightweave/planning/LinkWavelengths", name := "<init>", desc := "(I)V" } : Jvm.MethodName) prog_16_method_1_code (3 : Nat) (Option.none : Option Jvm.ClassFile.FieldType), Jvm.Cond.code ({ cls := "java/lang/Object", name := "<init>", desc := "()V" } : Jvm.MethodName) object_method_1_code (1 : Nat) (Option.none : Option Jvm.ClassFile.FieldType), Jvm.Cond.code ({ cls := "java/util/BitSet", name := "<init>", desc := "()V" } : Jvm.MethodName) jdk_92_method_4_code (1 : Nat) (Option.none : Option Jvm.ClassFile.FieldType), Jvm.Cond.code ({ cls := "java/util/BitSet", name := "initWords", desc := "(I)V" } : Jvm.MethodName) jdk_92_method_6_code (2 : Nat) (Option.none : Option Jvm.ClassFile.FieldType), Jvm.Cond.code ({ cls := "java/util/BitSet", name := "wordIndex", desc := "(I)I" } : Jvm.MethodName) jdk_92_method_1_code (1 : Nat) (Option.some Jvm.ClassFile.FieldType.int), Jvm.Cond.code ({ cls := "com/example/lightweave/lightweave/planning/LinkWavelengths", name := "take", desc := "([II)V" } : Jvm.MethodName) prog_16_method_4_code (7 : Nat) (Option.none : Option Jvm.ClassFile.FieldType), Jvm.Cond.code ({ cls := "java/util/BitSet", name := "set", desc := "(I)V" } : Jvm.MethodName) jdk_92_method_19_code (3 : Nat) (Option.none : Option Jvm.ClassFile.FieldType), Jvm.Cond.code ({ cls := "java/util/BitSet", name := "expandTo", desc := "(I)V" } : Jvm.MethodName) jdk_92_method_15_code (3 : Nat) (Option.none : Option Jvm.ClassFile.FieldType), Jvm.Cond.code ({ cls := "java/util/BitSet", name := "ensureCapacity", desc := "(I)V" } : Jvm.MethodName) jdk_92_method_14_code (3 : Nat) (Option.none : Option Jvm.ClassFile.FieldType), Jvm.Cond.code ({ cls := "java/util/BitSet", name := "checkInvariants", desc := "()V" } : Jvm.MethodName) jdk_92_method_2_code (1 : Nat) (Option.none : Option Jvm.ClassFile.FieldType), Jvm.Cond.code ({ cls := "java/util/BitSet", name := "nextClearBit", desc := "(I)I" } : Jvm.MethodName) jdk_92_method_29_code (5 : Nat) (Option.some Jvm.ClassFile.FieldType.int), Jvm.Cond.code ({ cls := "java/lang/Long", name := "numberOfTrailingZeros", desc := "(J)I" } : Jvm.MethodName) jdk_35_method_49_code (3 : Nat) (Option.some Jvm.ClassFile.FieldType.int), Jvm.Cond.code ({ cls := "java/lang/Integer", name := "numberOfTrailingZeros", desc := "(I)I" } : Jvm.MethodName) jdk_33_method_48_code (2 : Nat) (Option.some Jvm.ClassFile.FieldType.int), Jvm.Cond.code ({ cls := "com/example/lightweave/lightweave/planning/LinkWavelengths", name := "free", desc := "([II)V" } : Jvm.MethodName) prog_16_method_5_code (7 : Nat) (Option.none : Option Jvm.ClassFile.FieldType), Jvm.Cond.code ({ cls := "java/util/BitSet", name := "clear", desc := "(I)V" } : Jvm.MethodName) jdk_92_method_23_code (3 : Nat) (Option.none : Option Jvm.ClassFile.FieldType), Jvm.Cond.code ({ cls := "java/util/BitSet", name := "recalculateWordsInUse", desc := "()V" } : Jvm.MethodName) jdk_92_method_3_code (2 : Nat) (Option.none : Option Jvm.ClassFile.FieldType), Jvm.Cond.code ({ cls := "java/lang/Math", name := "min", desc := "(II)I" } : Jvm.MethodName) jdk_29_method_69_code (2 : Nat) (Option.some Jvm.ClassFile.FieldType.int), Jvm.Cond.code ({ cls := "com/example/lightweave/lightweave/planning/LinkWavelengthsFreePinLaw", name := "lowestMissing", desc := "(III)I" } : Jvm.MethodName) method_3_code (3 : Nat) (Option.some Jvm.ClassFile.FieldType.int), Jvm.Cond.code ({ cls := "com/example/lightweave/lightweave/planning/LinkWavelengthsFreePinLaw", name := "has", desc := "(IIII)Z" } : Jvm.MethodName) method_2_code (4 : Nat) (Option.some Jvm.ClassFile.FieldType.boolean), Jvm.Cond.code ({ cls := "com/example/lightweave/lightweave/planning/LinkWavelengths", name := "isFreeOnAll", desc := "([II)Z" } : Jvm.MethodName) prog_16_method_3_code (7 : Nat) (Option.some Jvm.ClassFile.FieldType.boolean), Jvm.Cond.code ({ cls := "java/util/BitSet", name := "get", desc := "(I)Z" } : Jvm.MethodName) jdk_92_method_26_code (3 : Nat) (Option.some Jvm.ClassFile.FieldType.boolean), Jvm.Cond.code ({ cls := "com/example/lightweave/lightweave/planning/LinkWavelengths", name := "lowestFreeOnAll", desc := "([I)I" } : Jvm.MethodName) prog_16_method_2_code (7 : Nat) (Option.some Jvm.ClassFile.FieldType.int), Jvm.Cond.code ({ cls := "java/lang/Math", name := "max", desc := "(II)I" } : Jvm.MethodName) jdk_29_method_65_code (2 : Nat) (Option.some Jvm.ClassFile.FieldType.int)]
set_option maxRecDepth 65536 in
theorem codes_eq : words1.filter isCode = codes1 := rfl
theorem w_codes : ∀ c ∈ words1.filter isCode, c.before args0 about1 = true := by
  rw [codes_eq]
  intro c hc
  simp only [codes1, List.mem_cons, List.not_mem_nil, or_false] at hc
  rcases hc with rfl | rfl | rfl | rfl | rfl | rfl | rfl | rfl | rfl | rfl | rfl | rfl | rfl | rfl | rfl | rfl | rfl | rfl | rfl | rfl | rfl | rfl | rfl | rfl
  · exact w_c0
  · exact w_c1
  · exact w_c2
  · exact w_c3
  · exact w_c4
  · exact w_c5
  · exact w_c6
  · exact w_c7
  · exact w_c8
  · exact w_c9
  · exact w_c10
  · exact w_c11
  · exact w_c12
  · exact w_c13
  · exact w_c14
  · exact w_c15
  · exact w_c16
  · exact w_c17
  · exact w_c18
  · exact w_c19
  · exact w_c20
  · exact w_c21
  · exact w_c22
  · exact w_c23
set_option maxRecDepth 65536 in
theorem w_t1 : (words1.take 24).all (fun c => isCode c || c.before args0 about1) = true := by decide +kernel
set_option maxRecDepth 65536 in
theorem w_t2 : ((words1.drop 24).take 24).all (fun c => isCode c || c.before args0 about1) = true := by decide +kernel
set_option maxRecDepth 65536 in
theorem w_t3 : (((words1.drop 24).drop 24).take 24).all (fun c => isCode c || c.before args0 about1) = true := by decide +kernel
set_option maxRecDepth 65536 in
theorem w_t4 : ((((words1.drop 24).drop 24).drop 24).take 24).all (fun c => isCode c || c.before args0 about1) = true := by decide +kernel
set_option maxRecDepth 65536 in
theorem w_t5 : (((((words1.drop 24).drop 24).drop 24).drop 24).take 24).all (fun c => isCode c || c.before args0 about1) = true := by decide +kernel
set_option maxRecDepth 65536 in
theorem w_t6 : (((((words1.drop 24).drop 24).drop 24).drop 24).drop 24).all (fun c => isCode c || c.before args0 about1) = true := by decide +kernel
theorem w_tables : (allAtoms (Jvm.Cond.code x code maxLocals ret :: tables_1)).before args0 about1 = true := by
  rw [allAtoms_all]
  show words1.all (fun c => c.before args0 about1) = true
  refine all_split ?_ w_codes
  rw [← List.take_append_drop 24 words1, List.all_append, w_t1, ← List.take_append_drop 24 (words1.drop 24), List.all_append, w_t2, ← List.take_append_drop 24 ((words1.drop 24).drop 24), List.all_append, w_t3, ← List.take_append_drop 24 (((words1.drop 24).drop 24).drop 24), List.all_append, w_t4, ← List.take_append_drop 24 ((((words1.drop 24).drop 24).drop 24).drop 24), List.all_append, w_t5, w_t6]
  rfl
set_option maxRecDepth 65536 in
theorem w_rest : rest_1_c.before args0 about1 = true := by decide +kernel
set_option maxRecDepth 65536 in
theorem w_case : (Jvm.Cond.and given_1 narrow_1).before args0 about1 = true := by decide +kernel
theorem w_applies : (headSpec (Jvm.Cond.code x code maxLocals ret :: tables_1) room_1).applies x e0.platform about1 = true :=
  (Spec.applies_iff w_frames).mpr ⟨w_running, w_runnable, w_alone, w_named, w_hears, w_ripe, w_room, w_tables⟩
theorem atStart : AtStart classFile x code maxLocals ret World_1 tables_1 room_1 Calls_1 rest_1 Pre_1 launch0 p0 e0 about1 theMethod args0 below0 :=
  ⟨lists_1, trivial, launch0.admits_env _ _ _, launch0.least_env, fairChoices_fair.cas, fairChoices_fair.clock, w_frames, w_args, w_heap, w_applies, trivial, w_rest, w_case⟩
end start1
theorem witness_1 : WitnessClaimed_1 := ⟨start1.p0, start1.e0, start1.about1, start1.theMethod, start1.args0, start1.below0, start1.atStart⟩
end Jvm.Pilot.@@N@@
