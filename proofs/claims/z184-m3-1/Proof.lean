import JvmDerived
import JvmDerived.Pilot.@@N@@Statement
import JvmDerived.Pilot.@@N@@Code
set_option linter.unusedVariables false
set_option linter.unusedSimpArgs false
namespace Jvm.OwnWp
open Sem ClassFile Op Lib Jvm.Free Jvm.Stand Jvm.LawKit Jvm.RoadKit
set_option maxHeartbeats 1000000
/-! the walk of a body as a weakest precondition: own text over the library's laws -/
def EnvOk (p : Program) (s : State) (m : MethodId) (meth : Method) (c : Code) (Z : State) (own nam : String) (bytes : ByteArray) (maxL : Nat) (ret : Option FieldType) (n0 : Nat) (h0 : Heap) (ws : List Addr) : Prop :=
  p.tables.exec = Jvm.exec ∧ c.code = bytes ∧ c.maxLocals = maxL ∧ Z.Warmed39 s.vm ∧ s.vm.findClass own = some m.cls ∧ meth.name = nam ∧ meth.sig.returnType = ret ∧ meth.locks = false ∧ s.heap = h0 ∧ Old Z n0 h0 ∧ ∀ a ∈ ws, n0 ≤ a
/-- what may be written: the named objects and what is new -/
def Pmt (h0 : Heap) (ws : List Addr) (L : List Loc) : Prop := ∀ y ∈ L, y.base ∈ ws ∨ h0.size ≤ y.base
theorem Pmt.nil (h0 : Heap) (ws : List Addr) : Pmt h0 ws [] := fun _ q => nomatch q
theorem Pmt.app {h0 : Heap} {ws : List Addr} {L L' : List Loc} (N : Pmt h0 ws L) (N' : Pmt h0 ws L') : Pmt h0 ws (L ++ L') := fun y q => (List.mem_append.mp q).elim (N y) (N' y)
theorem Pmt.snoc {h0 : Heap} {ws : List Addr} {L : List Loc} {a : Addr} {sl : Nat} (N : Pmt h0 ws L) (q : a ∈ ws ∨ h0.size ≤ a) : Pmt h0 ws (L ++ [⟨a, sl⟩]) := N.app fun y hy => by cases List.mem_singleton.mp hy; exact q
theorem keep_of {s t : State} {h : Heap} {ws : List Addr} {L : List Loc} {k n : Nat} (q : s.sameButNew t L k n) (N : Pmt s.heap ws L) (e : t.heap = h) : Keep s.heap h ws := by
  subst e
  obtain ⟨-, q1, -, -, -, q2⟩ := q
  refine ⟨q1, fun x c hx hn => ?_, fun x c hx => ?_⟩
  · obtain ⟨c', r1, r2, r3, r4⟩ := q2 x c hx
    have e : c'.slots = c.slots := by
      apply Array.ext_getElem?
      intro i
      refine r4 i fun hm => ?_
      rcases N _ hm with u | u
      · exact hn u
      · exact absurd (Array.getElem?_eq_some_iff.mp hx).1 (Nat.not_lt.mpr u)
    rw [r1, r2, e]
  · obtain ⟨c', r1, r2, r3, r4⟩ := q2 x c hx
    exact ⟨c', r1, by rw [r2], by rw [r2], r3⟩
/-- the tables over which the walk stands: the start's own, or (wide) tables that have grown since by interned constants, of which I is known -/
def Base (wd : Bool) (I : Vm → Prop) (Z s : State) (vm0 : Vm) (h : Heap) : Prop :=
  match wd with
  | false => vm0 = s.vm
  | true => s.Since vm0 h.size ∧ Z.Warmed39 vm0 ∧ I vm0
def EndF (wd : Bool) (s : State) (o : Outcome) (t : State) (L : List Loc) (k n : Nat) : Prop :=
  match wd with
  | false => FrameEnd s o t L k n
  | true => ReturnedEndW s o t L k n
/-- what is known of the tables at the end -/
def EndI (wd : Bool) (J : Vm → Prop) (t : State) : Prop := wd = true → J t.vm
theorem EndF.same {wd : Bool} {s : State} {o : Outcome} {t : State} {L : List Loc} {k n : Nat} (h : EndF wd s o t L k n) : s.sameButNew { t with vm := s.vm } L k n := by
  cases wd
  · exact h.2.2
  · exact h.2.2.2
def Wp (wd : Bool) (p : Program) (l : Launch) (e : Env) (R : Room) (s : State) (m : MethodId) (args : Array Value) (below : List Frame) (meth : Method) (c : Code) (Z : State) (own nam : String) (bytes : ByteArray) (maxL : Nat) (ret : Option FieldType) (n0 : Nat) (h0 : Heap) (ws : List Addr) (Q : Option Value → Heap → Prop) (I : Vm → Prop) (h : Heap) (k n pc : Nat) (Ls : List Slot) (st : List Value) : Prop :=
  EnvOk p s m meth c Z own nam bytes maxL ret n0 h0 ws → ∀ (T : State) (L : List Loc) (vm0 : Vm), Base wd I Z s vm0 h → Stand p l e R (s.setVm vm0) m args below meth c T L k n → Pmt h0 ws L → T.heap = h →
    ∃ s₂ o, Steps p.tables e below (T.setTop (mkF m pc Ls.toArray st)) s₂ ∧ s₂.status = .running ∧ Ended s₂ below o ∧ ∃ v L', o = .returned v ∧ (Q v s₂.heap ∧ Pmt h0 ws L') ∧ EndF wd s o s₂ L' R.cells R.slots
/-- a method's contract, at one heap and with these arguments -/
def Con (l : Launch) (Z : State) (n0 : Nat) (y : MethodName) (bytes : ByteArray) (maxL : Nat) (ret : Option FieldType) (rm : Room) (as : List Value) (h0 : Heap) (ws : List Addr) (Q : Option Value → Heap → Prop) : Prop :=
  Old Z n0 h0 → (∀ a ∈ ws, n0 ≤ a) → ∀ wds, MetFree l y (head1 (Cond.code y bytes maxL ret :: wds) rm) (fun a U => a = as.toArray ∧ Z.Warmed39 U.vm ∧ U.heap = h0) (fun _ _ _ _ _ => True) (fun _ U o U' => ∃ v L, o = .returned v ∧ (Q v U'.heap ∧ Pmt h0 ws L ∧ Keep h0 U'.heap ws) ∧ FrameEnd U o U' L rm.cells rm.slots)
theorem Con.of {l : Launch} {Z : State} {n0 : Nat} {y : MethodName} {bytes : ByteArray} {maxL : Nat} {ret : Option FieldType} {rm : Room} {as : List Value} {h0 : Heap} {ws : List Addr} {Q : Option Value → Heap → Prop} {Ls : List Slot}
    (hpl : plainFor y = true) (hent : ∀ m, entryFrame m as.toArray maxL = mkF m 0 Ls.toArray [])
    (g : ∀ p e s m below meth c, Wp false p l e rm s m as.toArray below meth c Z y.cls y.name bytes maxL ret n0 h0 ws Q (fun _ => True) h0 0 0 0 Ls []) : Con l Z n0 y bytes maxL ret rm as h0 ws Q := by
  intro hO hws wds
  refine MetFree.of_bodySF hpl hisR ?_
  intro p e s m args below meth c s₁ Bd hml0 hP hK
  obtain ⟨rfl, hZ, hh⟩ := hP
  have X0 : Stand p l e rm s m as.toArray below meth c s₁ [] 0 0 := Stand.of_body Bd
  have e0 : s₁.heap = h0 := by rw [← hh, Bd.state]; rfl
  rw [hent]
  obtain ⟨s2, o, r1, r2, r3, v, L, r4, ⟨r5, r6⟩, r7⟩ := g p e s m below meth c ⟨Bd.exec, Bd.bytes, hml0, hZ, findClass_of_methodNamed Bd.named, (name_of_methodNamed Bd.named Bd.method).1, Bd.returns, Bd.notSynchronized, hh, hO, hws⟩ s₁ [] s.vm rfl X0 (Pmt.nil _ _) e0
  exact ⟨s2, o, r1, r2, r3, v, L, r4, ⟨r5, r6, by rw [← hh]; exact keep_of r7.2.2 (by rw [hh]; exact r6) rfl⟩, r7⟩
theorem Con.post {l : Launch} {Z : State} {n0 : Nat} {y : MethodName} {bytes : ByteArray} {maxL : Nat} {ret : Option FieldType} {rm : Room} {as : List Value} {h0 : Heap} {ws : List Addr} {Q Q' : Option Value → Heap → Prop}
    (c : Con l Z n0 y bytes maxL ret rm as h0 ws Q) (f : ∀ v h, Q v h → Q' v h) : Con l Z n0 y bytes maxL ret rm as h0 ws Q' := fun hO hws wds p e ha hc hk s m args below hf happ hP hK => by
  obtain ⟨a1, a2, a3, a4, a5, v, L, a6, ⟨a7, a8⟩, a9⟩ := c hO hws wds p e ha hc hk s m args below hf happ hP hK
  exact ⟨a1, a2, a3, a4, a5, v, L, a6, ⟨f _ _ a7, a8⟩, a9⟩
/-- the contract of a method that may intern constants -/
def ConW (l : Launch) (Z : State) (n0 : Nat) (y : MethodName) (bytes : ByteArray) (maxL : Nat) (ret : Option FieldType) (rm : Room) (as : List Value) (h0 : Heap) (ws : List Addr) (I : Vm → Prop) (Q : Option Value → Heap → Prop) : Prop :=
  Old Z n0 h0 → (∀ a ∈ ws, n0 ≤ a) → ∀ wds, MetFree l y (head1 (Cond.code y bytes maxL ret :: wds) rm) (fun a U => a = as.toArray ∧ Z.Warmed39 U.vm ∧ U.heap = h0 ∧ I U.vm) (fun _ _ _ _ _ => True) (fun _ U o U' => ∃ v L, o = .returned v ∧ (Q v U'.heap ∧ Pmt h0 ws L ∧ Keep h0 U'.heap ws) ∧ ReturnedEndW U o U' L rm.cells rm.slots)
theorem ConW.of {l : Launch} {Z : State} {n0 : Nat} {y : MethodName} {bytes : ByteArray} {maxL : Nat} {ret : Option FieldType} {rm : Room} {as : List Value} {h0 : Heap} {ws : List Addr} {I : Vm → Prop} {Q : Option Value → Heap → Prop} {Ls : List Slot}
    (hpl : plainFor y = true) (hent : ∀ m, entryFrame m as.toArray maxL = mkF m 0 Ls.toArray [])
    (g : ∀ p e s m below meth c, Wp true p l e rm s m as.toArray below meth c Z y.cls y.name bytes maxL ret n0 h0 ws Q I h0 0 0 0 Ls []) : ConW l Z n0 y bytes maxL ret rm as h0 ws I Q := by
  intro hO hws wds
  refine MetFree.of_bodySF hpl hisR ?_
  intro p e s m args below meth c s₁ Bd hml0 hP hK
  obtain ⟨rfl, hZ, hh, hI⟩ := hP
  have X0 : Stand p l e rm s m as.toArray below meth c s₁ [] 0 0 := Stand.of_body Bd
  have e0 : s₁.heap = h0 := by rw [← hh, Bd.state]; rfl
  rw [hent]
  obtain ⟨s2, o, r1, r2, r3, v, L, r4, ⟨r5, r6⟩, r7⟩ := g p e s m below meth c ⟨Bd.exec, Bd.bytes, hml0, hZ, findClass_of_methodNamed Bd.named, (name_of_methodNamed Bd.named Bd.method).1, Bd.returns, Bd.notSynchronized, hh, hO, hws⟩ s₁ [] s.vm ⟨(State.WarmedH.refl s).since _, hZ, hI⟩ X0 (Pmt.nil _ _) e0
  exact ⟨s2, o, r1, r2, r3, v, L, r4, ⟨r5, r6, by rw [← hh]; exact keep_of r7.2.2.2 (by rw [hh]; exact r6) rfl⟩, r7⟩
/-- what a call pushes -/
def psh : Option Value → List Value → List Value
  | none, r => r
  | some v, r => v :: r
theorem psh_eq (v : Option Value) (r : List Value) : v.toList ++ r = psh v r := by cases v <;> rfl
def oneB : Slot → Bool
  | .unset => true
  | .second => false
  | .val v => v.category == 1
def oneAt (Ls : List Slot) (j : Nat) : Bool := (Ls[j]?.map oneB).getD false
theorem oneAt_spec {Ls : List Slot} {j : Nat} (h : oneAt Ls j = true) : ∃ o, Ls.toArray[j]? = some o ∧ (o = .unset ∨ ∃ w, o = .val w ∧ w.category = 1) := by
  unfold oneAt at h
  cases q : Ls[j]? with
  | none => simp [q] at h
  | some o =>
    refine ⟨o, by simpa using q, ?_⟩
    cases o <;> simp [q, oneB] at h ⊢
    exact h
/-- two words, for a long -/
def twoAt (Ls : List Slot) (j : Nat) : Bool := (match Ls[j]? with | some .second => false | some _ => true | none => false) && (match Ls[j + 1]? with | some .second => true | some .unset => true | some (.val w) => w.category == 1 | none => false)
theorem two_store {Ls : List Slot} {j : Nat} {x : Int64} (h : twoAt Ls j = true) : storeLocals Ls.toArray j (.long x) = some ((Ls.set j (.val (.long x))).set (j + 1) .second).toArray := by
  unfold twoAt at h
  cases q : Ls[j]? with
  | none => simp [q] at h
  | some o =>
    cases r : Ls[j + 1]? with
    | none => simp [r] at h
    | some o' =>
      obtain ⟨b1, -⟩ := List.getElem?_eq_some_iff.mp q
      obtain ⟨b2, -⟩ := List.getElem?_eq_some_iff.mp r
      cases o with
      | second => simp [q] at h
      | unset => cases o' <;> simp_all [storeLocals, storeSelf, setAt, Value.category]
      | val w =>
        cases o' <;> by_cases hw : w.category = 2 <;> simp_all [storeLocals, storeSelf, setAt, Value.category]
        all_goals rw [List.set_comm _ _ (show j + 1 ≠ j by omega), List.set_set]
theorem one_store {Ls : List Slot} {j : Nat} {v : Value} (h : oneAt Ls j = true) (hv : v.category = 1) : storeLocals Ls.toArray j v = some (Ls.set j (.val v)).toArray := by
  obtain ⟨o, q1, q2⟩ := oneAt_spec h
  rw [XS.store1 q1 q2 hv]; simp
section Walk
variable {wd : Bool} {I : Vm → Prop} {vm0 : Vm} {p : Program} {l : Launch} {e : Env} {R : Room} {s : State} {m : MethodId} {args : Array Value} {below : List Frame} {meth : Method} {c : Code} {Z : State} {own nam : String} {bytes : ByteArray} {maxL : Nat} {ret : Option FieldType} {n0 : Nat} {h0 : Heap} {ws : List Addr} {Q : Option Value → Heap → Prop} {h : Heap} {k n pc : Nat} {Ls : List Slot} {st rest : List Value} {a0 : Array Value}
theorem bZ (E : EnvOk p s m meth c Z own nam bytes maxL ret n0 h0 ws) (B : Base wd I Z s vm0 h) : Z.Warmed39 (s.setVm vm0).vm := by
  cases wd
  · cases B; exact E.2.2.2.1
  · exact B.2.1
theorem bO (E : EnvOk p s m meth c Z own nam bytes maxL ret n0 h0 ws) (B : Base wd I Z s vm0 h) : (s.setVm vm0).vm.findClass own = some m.cls := by
  cases wd
  · cases B; exact E.2.2.2.2.1
  · show vm0.findClass own = _
    rw [B.1.1.alike.findClass]; exact E.2.2.2.2.1
theorem bG {h' : Heap} (B : Base wd I Z s vm0 h) (q : h.size ≤ h'.size) : Base wd I Z s vm0 h' := by
  cases wd
  · exact B
  · exact ⟨⟨B.1.1, B.1.2.mono q⟩, B.2⟩
theorem szOf (E : EnvOk p s m meth c Z own nam bytes maxL ret n0 h0 ws) {T : State} {L : List Loc} (X : Stand p l e R (s.setVm vm0) m args below meth c T L k n) (eT : T.heap = h) : h0.size ≤ h.size := by
  have q : s.heap.size ≤ T.heap.size := X.same.2.1
  rw [E.2.2.2.2.2.2.2.2.1] at q
  rw [← eT]; exact q
theorem keepOf (E : EnvOk p s m meth c Z own nam bytes maxL ret n0 h0 ws) {T : State} {L : List Loc} (X : Stand p l e R (s.setVm vm0) m args below meth c T L k n) (N : Pmt h0 ws L) (eT : T.heap = h) : Keep h0 h ws := by
  have q := E.2.2.2.2.2.2.2.2.1
  rw [← q]; exact keep_of (s := s.setVm vm0) X.same (by show Pmt s.heap ws L; rw [q]; exact N) eT
theorem endOf (E : EnvOk p s m meth c Z own nam bytes maxL ret n0 h0 ws) (B : Base wd I Z s vm0 h) {U : State} {L : List Loc} {o : Outcome} (hr : ∃ v, o = .returned v) (hW : (s.setVm vm0).WarmedH U.vm) (hs : (s.setVm vm0).sameButNew ({ U with vm := (s.setVm vm0).vm } : State) L k n) (hU : U.heap = h) (hk : k ≤ R.cells) (hn : n ≤ R.slots) : EndF wd s o U L R.cells R.slots := by
  cases wd
  · cases B; exact ⟨hr, hW, hs.mono hk hn⟩
  · obtain ⟨r1, r2, r3⟩ := B.1.ended hW (by rw [hU]; exact Nat.le_refl _) hs
    exact ⟨hr, r1, r2, r3.mono hk hn⟩
theorem n0Of (E : EnvOk p s m meth c Z own nam bytes maxL ret n0 h0 ws) {x : Addr} (q : x ∈ ws ∨ h0.size ≤ x) : n0 ≤ x := by
  obtain ⟨o1, o2⟩ := E.2.2.2.2.2.2.2.2.2.1
  rcases q with q | q
  · exact E.2.2.2.2.2.2.2.2.2.2 x q
  · have := o2.1; omega
theorem oldOf (E : EnvOk p s m meth c Z own nam bytes maxL ret n0 h0 ws) {T : State} {L : List Loc} (X : Stand p l e R (s.setVm vm0) m args below meth c T L k n) (N : Pmt h0 ws L) (eT : T.heap = h) : Old Z n0 h :=
  E.2.2.2.2.2.2.2.2.2.1.keep (keepOf E X N eT) E.2.2.2.2.2.2.2.2.2.2
theorem pmtOf (E : EnvOk p s m meth c Z own nam bytes maxL ret n0 h0 ws) {T : State} {L L' : List Loc} {ws' : List Addr} (X : Stand p l e R (s.setVm vm0) m args below meth c T L k n) (eT : T.heap = h) (hws : ∀ x ∈ ws', x ∈ ws ∨ h0.size ≤ x) (N' : Pmt h ws' L') : Pmt h0 ws L' := fun y hy => by
  rcases N' y hy with q | q
  · exact hws _ q
  · exact Or.inr (Nat.le_trans (szOf E X eT) q)
/-- what is kept since the body's start -/
theorem kept (g : Keep h0 h ws → Old Z n0 h → Wp wd p l e R s m args below meth c Z own nam bytes maxL ret n0 h0 ws Q I h k n pc Ls st) : Wp wd p l e R s m args below meth c Z own nam bytes maxL ret n0 h0 ws Q I h k n pc Ls st := fun E T L vm0 B X N eT => g (keepOf E X N eT) (oldOf E X N eT) E T L vm0 B X N eT
theorem step {pc' : Nat} {Ls' : List Slot} {st' : List Value} (g : Wp wd p l e R s m args below meth c Z own nam bytes maxL ret n0 h0 ws Q I h k n pc' Ls' st')
    (f : EnvOk p s m meth c Z own nam bytes maxL ret n0 h0 ws → ∀ (T : State) (L : List Loc) (t : State) (vm0 : Vm), Base wd I Z s vm0 h → Stand p l e R (s.setVm vm0) m args below meth c T L k n → T.heap = h → Steps p.tables e below (T.setTop (mkF m pc' Ls'.toArray st')) t → Steps p.tables e below (T.setTop (mkF m pc Ls.toArray st)) t) : Wp wd p l e R s m args below meth c Z own nam bytes maxL ret n0 h0 ws Q I h k n pc Ls st := fun E T L vm0 B X N eT => by
  obtain ⟨s2, o, hs, r⟩ := g E T L vm0 B X N eT
  exact ⟨s2, o, f E T L s2 vm0 B X eT hs, r⟩
/-- a law that hands back a new state -/
theorem lawS {pc' : Nat} {Ls' : List Slot} {st' : List Value}
    (f : EnvOk p s m meth c Z own nam bytes maxL ret n0 h0 ws → ∀ (T : State) (L : List Loc) (vm0 : Vm), Base wd I Z s vm0 h → Stand p l e R (s.setVm vm0) m args below meth c T L k n → Pmt h0 ws L → T.heap = h → ∃ (T' : State) (L' : List Loc) (h' : Heap) (k' n' : Nat), Stand p l e R (s.setVm vm0) m args below meth c T' L' k' n' ∧ Pmt h0 ws L' ∧ T'.heap = h' ∧ h.size ≤ h'.size ∧ (∀ t, Steps p.tables e below (T'.setTop (mkF m pc' Ls'.toArray st')) t → Steps p.tables e below (T.setTop (mkF m pc Ls.toArray st)) t) ∧ Wp wd p l e R s m args below meth c Z own nam bytes maxL ret n0 h0 ws Q I h' k' n' pc' Ls' st') : Wp wd p l e R s m args below meth c Z own nam bytes maxL ret n0 h0 ws Q I h k n pc Ls st := fun E T L vm0 B X N eT => by
  obtain ⟨T', L', h', k', n', X', N', e', gr, st', g⟩ := f E T L vm0 B X N eT
  obtain ⟨s2, o, hs, r⟩ := g E T' L' vm0 (bG B gr) X' N' e'
  exact ⟨s2, o, st' _ hs, r⟩
theorem more {k' n' : Nat} (hk : k ≤ k') (hn : n ≤ n') (g : Wp wd p l e R s m args below meth c Z own nam bytes maxL ret n0 h0 ws Q I h k' n' pc Ls st) : Wp wd p l e R s m args below meth c Z own nam bytes maxL ret n0 h0 ws Q I h k n pc Ls st := fun E T L vm0 B X N eT =>
  g E T L vm0 B (X.mono hk hn) N eT
theorem conv {Q' : Option Value → Heap → Prop} (g : Wp wd p l e R s m args below meth c Z own nam bytes maxL ret n0 h0 ws Q' I h k n pc Ls st) (f : ∀ v h, Q' v h → Q v h) : Wp wd p l e R s m args below meth c Z own nam bytes maxL ret n0 h0 ws Q I h k n pc Ls st := fun E T L vm0 B X N eT => by
  obtain ⟨s2, o, h1, h2, h3, v, L', h4, ⟨h5, h6⟩, h7⟩ := g E T L vm0 B X N eT
  exact ⟨s2, o, h1, h2, h3, v, L', h4, ⟨f _ _ h5, h6⟩, h7⟩
theorem wk {J : Vm → Prop} (hJ : ∀ vm, I vm → J vm) (g : Wp wd p l e R s m args below meth c Z own nam bytes maxL ret n0 h0 ws Q J h k n pc Ls st) : Wp wd p l e R s m args below meth c Z own nam bytes maxL ret n0 h0 ws Q I h k n pc Ls st := fun E T L vm0 B X N eT =>
  g E T L vm0 (by cases wd; exact B; exact ⟨B.1, B.2.1, hJ _ B.2.2⟩) X N eT

theorem iadd {q1 : Nat} {x y : Int32} (hd : decode bytes pc = .ok (.iadd, 1)) (hq1 : pc + 1 = q1) (g : Wp wd p l e R s m args below meth c Z own nam bytes maxL ret n0 h0 ws Q I h k n q1 Ls (.int (x + y) :: rest)) : Wp wd p l e R s m args below meth c Z own nam bytes maxL ret n0 h0 ws Q I h k n pc Ls (.int y :: .int x :: rest) := by
  subst hq1
  exact  step g fun E T L t vm0 B X _ hr => XS.iadd X.here E.1 rfl (hb E.2.1 hd) rfl hr

theorem isub {q1 : Nat} {x y : Int32} (hd : decode bytes pc = .ok (.isub, 1)) (hq1 : pc + 1 = q1) (g : Wp wd p l e R s m args below meth c Z own nam bytes maxL ret n0 h0 ws Q I h k n q1 Ls (.int (x - y) :: rest)) : Wp wd p l e R s m args below meth c Z own nam bytes maxL ret n0 h0 ws Q I h k n pc Ls (.int y :: .int x :: rest) := by
  subst hq1
  exact  step g fun E T L t vm0 B X _ hr => XS.isub X.here E.1 rfl (hb E.2.1 hd) rfl hr

theorem imul {q1 : Nat} {x y : Int32} (hd : decode bytes pc = .ok (.imul, 1)) (hq1 : pc + 1 = q1) (g : Wp wd p l e R s m args below meth c Z own nam bytes maxL ret n0 h0 ws Q I h k n q1 Ls (.int (x * y) :: rest)) : Wp wd p l e R s m args below meth c Z own nam bytes maxL ret n0 h0 ws Q I h k n pc Ls (.int y :: .int x :: rest) := by
  subst hq1
  exact  step g fun E T L t vm0 B X _ hr => XS.imul X.here E.1 rfl (hb E.2.1 hd) rfl hr

theorem iand {q1 : Nat} {x y : Int32} (hd : decode bytes pc = .ok (.iand, 1)) (hq1 : pc + 1 = q1) (g : Wp wd p l e R s m args below meth c Z own nam bytes maxL ret n0 h0 ws Q I h k n q1 Ls (.int (x &&& y) :: rest)) : Wp wd p l e R s m args below meth c Z own nam bytes maxL ret n0 h0 ws Q I h k n pc Ls (.int y :: .int x :: rest) := by
  subst hq1
  exact  step g fun E T L t vm0 B X _ hr => XS.iand X.here E.1 rfl (hb E.2.1 hd) rfl hr

theorem ior {q1 : Nat} {x y : Int32} (hd : decode bytes pc = .ok (.ior, 1)) (hq1 : pc + 1 = q1) (g : Wp wd p l e R s m args below meth c Z own nam bytes maxL ret n0 h0 ws Q I h k n q1 Ls (.int (x ||| y) :: rest)) : Wp wd p l e R s m args below meth c Z own nam bytes maxL ret n0 h0 ws Q I h k n pc Ls (.int y :: .int x :: rest) := by
  subst hq1
  exact  step g fun E T L t vm0 B X _ hr => XS.ior X.here E.1 rfl (hb E.2.1 hd) rfl hr

theorem ixor {q1 : Nat} {x y : Int32} (hd : decode bytes pc = .ok (.ixor, 1)) (hq1 : pc + 1 = q1) (g : Wp wd p l e R s m args below meth c Z own nam bytes maxL ret n0 h0 ws Q I h k n q1 Ls (.int (x ^^^ y) :: rest)) : Wp wd p l e R s m args below meth c Z own nam bytes maxL ret n0 h0 ws Q I h k n pc Ls (.int y :: .int x :: rest) := by
  subst hq1
  exact  step g fun E T L t vm0 B X _ hr => XS.ixor X.here E.1 rfl (hb E.2.1 hd) rfl hr

theorem ladd {q1 : Nat} {x y : Int64} (hd : decode bytes pc = .ok (.ladd, 1)) (hq1 : pc + 1 = q1) (g : Wp wd p l e R s m args below meth c Z own nam bytes maxL ret n0 h0 ws Q I h k n q1 Ls (.long (x + y) :: rest)) : Wp wd p l e R s m args below meth c Z own nam bytes maxL ret n0 h0 ws Q I h k n pc Ls (.long y :: .long x :: rest) := by
  subst hq1
  exact  step g fun E T L t vm0 B X _ hr => XS.ladd X.here E.1 rfl (hb E.2.1 hd) rfl hr

theorem lsub {q1 : Nat} {x y : Int64} (hd : decode bytes pc = .ok (.lsub, 1)) (hq1 : pc + 1 = q1) (g : Wp wd p l e R s m args below meth c Z own nam bytes maxL ret n0 h0 ws Q I h k n q1 Ls (.long (x - y) :: rest)) : Wp wd p l e R s m args below meth c Z own nam bytes maxL ret n0 h0 ws Q I h k n pc Ls (.long y :: .long x :: rest) := by
  subst hq1
  exact  step g fun E T L t vm0 B X _ hr => XS.lsub X.here E.1 rfl (hb E.2.1 hd) rfl hr

theorem lmul {q1 : Nat} {x y : Int64} (hd : decode bytes pc = .ok (.lmul, 1)) (hq1 : pc + 1 = q1) (g : Wp wd p l e R s m args below meth c Z own nam bytes maxL ret n0 h0 ws Q I h k n q1 Ls (.long (x * y) :: rest)) : Wp wd p l e R s m args below meth c Z own nam bytes maxL ret n0 h0 ws Q I h k n pc Ls (.long y :: .long x :: rest) := by
  subst hq1
  exact  step g fun E T L t vm0 B X _ hr => XS.lmul X.here E.1 rfl (hb E.2.1 hd) rfl hr

theorem land {q1 : Nat} {x y : Int64} (hd : decode bytes pc = .ok (.land, 1)) (hq1 : pc + 1 = q1) (g : Wp wd p l e R s m args below meth c Z own nam bytes maxL ret n0 h0 ws Q I h k n q1 Ls (.long (x &&& y) :: rest)) : Wp wd p l e R s m args below meth c Z own nam bytes maxL ret n0 h0 ws Q I h k n pc Ls (.long y :: .long x :: rest) := by
  subst hq1
  exact  step g fun E T L t vm0 B X _ hr => XS.land X.here E.1 rfl (hb E.2.1 hd) rfl hr

theorem lor {q1 : Nat} {x y : Int64} (hd : decode bytes pc = .ok (.lor, 1)) (hq1 : pc + 1 = q1) (g : Wp wd p l e R s m args below meth c Z own nam bytes maxL ret n0 h0 ws Q I h k n q1 Ls (.long (x ||| y) :: rest)) : Wp wd p l e R s m args below meth c Z own nam bytes maxL ret n0 h0 ws Q I h k n pc Ls (.long y :: .long x :: rest) := by
  subst hq1
  exact  step g fun E T L t vm0 B X _ hr => XS.lor X.here E.1 rfl (hb E.2.1 hd) rfl hr

theorem lxor {q1 : Nat} {x y : Int64} (hd : decode bytes pc = .ok (.lxor, 1)) (hq1 : pc + 1 = q1) (g : Wp wd p l e R s m args below meth c Z own nam bytes maxL ret n0 h0 ws Q I h k n q1 Ls (.long (x ^^^ y) :: rest)) : Wp wd p l e R s m args below meth c Z own nam bytes maxL ret n0 h0 ws Q I h k n pc Ls (.long y :: .long x :: rest) := by
  subst hq1
  exact  step g fun E T L t vm0 B X _ hr => XS.lxor X.here E.1 rfl (hb E.2.1 hd) rfl hr

theorem ishl {q1 : Nat} {x y : Int32} (hd : decode bytes pc = .ok (.ishl, 1)) (hq1 : pc + 1 = q1) (g : Wp wd p l e R s m args below meth c Z own nam bytes maxL ret n0 h0 ws Q I h k n q1 Ls (.int (x <<< (y &&& 31)) :: rest)) : Wp wd p l e R s m args below meth c Z own nam bytes maxL ret n0 h0 ws Q I h k n pc Ls (.int y :: .int x :: rest) := by
  subst hq1
  exact  step g fun E T L t vm0 B X _ hr => XS.ishl X.here E.1 rfl (hb E.2.1 hd) rfl hr

theorem ishr {q1 : Nat} {x y : Int32} (hd : decode bytes pc = .ok (.ishr, 1)) (hq1 : pc + 1 = q1) (g : Wp wd p l e R s m args below meth c Z own nam bytes maxL ret n0 h0 ws Q I h k n q1 Ls (.int (x >>> (y &&& 31)) :: rest)) : Wp wd p l e R s m args below meth c Z own nam bytes maxL ret n0 h0 ws Q I h k n pc Ls (.int y :: .int x :: rest) := by
  subst hq1
  exact  step g fun E T L t vm0 B X _ hr => XS.ishr X.here E.1 rfl (hb E.2.1 hd) rfl hr

theorem iushr {q1 : Nat} {x y : Int32} (hd : decode bytes pc = .ok (.iushr, 1)) (hq1 : pc + 1 = q1) (g : Wp wd p l e R s m args below meth c Z own nam bytes maxL ret n0 h0 ws Q I h k n q1 Ls (.int ((x.toUInt32 >>> (y &&& 31).toUInt32).toInt32) :: rest)) : Wp wd p l e R s m args below meth c Z own nam bytes maxL ret n0 h0 ws Q I h k n pc Ls (.int y :: .int x :: rest) := by
  subst hq1
  exact  step g fun E T L t vm0 B X _ hr => XS.iushr X.here E.1 rfl (hb E.2.1 hd) rfl hr

theorem lshl {q1 : Nat} {x : Int64} {y : Int32} (hd : decode bytes pc = .ok (.lshl, 1)) (hq1 : pc + 1 = q1) (g : Wp wd p l e R s m args below meth c Z own nam bytes maxL ret n0 h0 ws Q I h k n q1 Ls (.long (x <<< (y &&& 0x3f).toInt64) :: rest)) : Wp wd p l e R s m args below meth c Z own nam bytes maxL ret n0 h0 ws Q I h k n pc Ls (.int y :: .long x :: rest) := by
  subst hq1
  exact  step g fun E T L t vm0 B X _ hr => XS.lshl X.here E.1 rfl (hb E.2.1 hd) rfl hr

theorem lshr {q1 : Nat} {x : Int64} {y : Int32} (hd : decode bytes pc = .ok (.lshr, 1)) (hq1 : pc + 1 = q1) (g : Wp wd p l e R s m args below meth c Z own nam bytes maxL ret n0 h0 ws Q I h k n q1 Ls (.long (x >>> (y &&& 0x3f).toInt64) :: rest)) : Wp wd p l e R s m args below meth c Z own nam bytes maxL ret n0 h0 ws Q I h k n pc Ls (.int y :: .long x :: rest) := by
  subst hq1
  exact  step g fun E T L t vm0 B X _ hr => XS.lshr X.here E.1 rfl (hb E.2.1 hd) rfl hr

theorem lushr {q1 : Nat} {x : Int64} {y : Int32} (hd : decode bytes pc = .ok (.lushr, 1)) (hq1 : pc + 1 = q1) (g : Wp wd p l e R s m args below meth c Z own nam bytes maxL ret n0 h0 ws Q I h k n q1 Ls (.long ((x.toUInt64 >>> (y &&& 0x3f).toInt64.toUInt64).toInt64) :: rest)) : Wp wd p l e R s m args below meth c Z own nam bytes maxL ret n0 h0 ws Q I h k n pc Ls (.int y :: .long x :: rest) := by
  subst hq1
  exact  step g fun E T L t vm0 B X _ hr => XS.lushr X.here E.1 rfl (hb E.2.1 hd) rfl hr

theorem lcmp {q1 : Nat} {x y : Int64} (hd : decode bytes pc = .ok (.lcmp, 1)) (hq1 : pc + 1 = q1) (g : Wp wd p l e R s m args below meth c Z own nam bytes maxL ret n0 h0 ws Q I h k n q1 Ls (.int (lcmpW x y) :: rest)) : Wp wd p l e R s m args below meth c Z own nam bytes maxL ret n0 h0 ws Q I h k n pc Ls (.long y :: .long x :: rest) := by
  subst hq1
  exact  step g fun E T L t vm0 B X _ hr => XS.lcmp X.here E.1 rfl (hb E.2.1 hd) rfl hr

theorem idiv {q1 : Nat} {x y : Int32} (hd : decode bytes pc = .ok (.idiv, 1)) (hq1 : pc + 1 = q1) (hy : y ≠ 0) (g : Wp wd p l e R s m args below meth c Z own nam bytes maxL ret n0 h0 ws Q I h k n q1 Ls (.int (x / y) :: rest)) : Wp wd p l e R s m args below meth c Z own nam bytes maxL ret n0 h0 ws Q I h k n pc Ls (.int y :: .int x :: rest) := by
  subst hq1
  exact  step g fun E T L t vm0 B X _ hr => XS.idiv X.here E.1 rfl (hb E.2.1 hd) rfl hy hr

theorem ldiv {q1 : Nat} {x y : Int64} (hd : decode bytes pc = .ok (.ldiv, 1)) (hq1 : pc + 1 = q1) (hy : y ≠ 0) (g : Wp wd p l e R s m args below meth c Z own nam bytes maxL ret n0 h0 ws Q I h k n q1 Ls (.long (x / y) :: rest)) : Wp wd p l e R s m args below meth c Z own nam bytes maxL ret n0 h0 ws Q I h k n pc Ls (.long y :: .long x :: rest) := by
  subst hq1
  exact  step g fun E T L t vm0 B X _ hr => XS.ldiv X.here E.1 rfl (hb E.2.1 hd) rfl hy hr

theorem irem {q1 : Nat} {x y : Int32} (hd : decode bytes pc = .ok (.irem, 1)) (hq1 : pc + 1 = q1) (hy : y ≠ 0) (g : Wp wd p l e R s m args below meth c Z own nam bytes maxL ret n0 h0 ws Q I h k n q1 Ls (.int (x % y) :: rest)) : Wp wd p l e R s m args below meth c Z own nam bytes maxL ret n0 h0 ws Q I h k n pc Ls (.int y :: .int x :: rest) := by
  subst hq1
  exact  step g fun E T L t vm0 B X _ hr => iremM X E.1 rfl (hb E.2.1 hd) rfl hy hr

theorem ineg {q1 : Nat} {x : Int32} (hd : decode bytes pc = .ok (.ineg, 1)) (hq1 : pc + 1 = q1) (g : Wp wd p l e R s m args below meth c Z own nam bytes maxL ret n0 h0 ws Q I h k n q1 Ls (.int (-x) :: rest)) : Wp wd p l e R s m args below meth c Z own nam bytes maxL ret n0 h0 ws Q I h k n pc Ls (.int x :: rest) := by
  subst hq1
  exact  step g fun E T L t vm0 B X _ hr => XS.ineg X.here E.1 rfl (hb E.2.1 hd) rfl hr

theorem lneg {q1 : Nat} {x : Int64} (hd : decode bytes pc = .ok (.lneg, 1)) (hq1 : pc + 1 = q1) (g : Wp wd p l e R s m args below meth c Z own nam bytes maxL ret n0 h0 ws Q I h k n q1 Ls (.long (-x) :: rest)) : Wp wd p l e R s m args below meth c Z own nam bytes maxL ret n0 h0 ws Q I h k n pc Ls (.long x :: rest) := by
  subst hq1
  exact  step g fun E T L t vm0 B X _ hr => XS.lneg X.here E.1 rfl (hb E.2.1 hd) rfl hr

theorem i2l {q1 : Nat} {x : Int32} (hd : decode bytes pc = .ok (.i2l, 1)) (hq1 : pc + 1 = q1) (g : Wp wd p l e R s m args below meth c Z own nam bytes maxL ret n0 h0 ws Q I h k n q1 Ls (.long (x.toInt64) :: rest)) : Wp wd p l e R s m args below meth c Z own nam bytes maxL ret n0 h0 ws Q I h k n pc Ls (.int x :: rest) := by
  subst hq1
  exact  step g fun E T L t vm0 B X _ hr => XS.i2l X.here E.1 rfl (hb E.2.1 hd) rfl hr

theorem l2i {q1 : Nat} {x : Int64} (hd : decode bytes pc = .ok (.l2i, 1)) (hq1 : pc + 1 = q1) (g : Wp wd p l e R s m args below meth c Z own nam bytes maxL ret n0 h0 ws Q I h k n q1 Ls (.int (x.toInt32) :: rest)) : Wp wd p l e R s m args below meth c Z own nam bytes maxL ret n0 h0 ws Q I h k n pc Ls (.long x :: rest) := by
  subst hq1
  exact  step g fun E T L t vm0 B X _ hr => XS.l2i X.here E.1 rfl (hb E.2.1 hd) rfl hr

theorem i2b {q1 : Nat} {x : Int32} (hd : decode bytes pc = .ok (.i2b, 1)) (hq1 : pc + 1 = q1) (g : Wp wd p l e R s m args below meth c Z own nam bytes maxL ret n0 h0 ws Q I h k n q1 Ls (.int (x.toInt8.toInt32) :: rest)) : Wp wd p l e R s m args below meth c Z own nam bytes maxL ret n0 h0 ws Q I h k n pc Ls (.int x :: rest) := by
  subst hq1
  exact  step g fun E T L t vm0 B X _ hr => XS.i2b X.here E.1 rfl (hb E.2.1 hd) rfl hr

theorem i2s {q1 : Nat} {x : Int32} (hd : decode bytes pc = .ok (.i2s, 1)) (hq1 : pc + 1 = q1) (g : Wp wd p l e R s m args below meth c Z own nam bytes maxL ret n0 h0 ws Q I h k n q1 Ls (.int (x.toInt16.toInt32) :: rest)) : Wp wd p l e R s m args below meth c Z own nam bytes maxL ret n0 h0 ws Q I h k n pc Ls (.int x :: rest) := by
  subst hq1
  exact  step g fun E T L t vm0 B X _ hr => XS.i2s X.here E.1 rfl (hb E.2.1 hd) rfl hr

theorem i2c {q1 : Nat} {x : Int32} (hd : decode bytes pc = .ok (.i2c, 1)) (hq1 : pc + 1 = q1) (g : Wp wd p l e R s m args below meth c Z own nam bytes maxL ret n0 h0 ws Q I h k n q1 Ls (.int (x.toUInt32.toUInt16.toUInt32.toInt32) :: rest)) : Wp wd p l e R s m args below meth c Z own nam bytes maxL ret n0 h0 ws Q I h k n pc Ls (.int x :: rest) := by
  subst hq1
  exact  step g fun E T L t vm0 B X _ hr => XS.i2c X.here E.1 rfl (hb E.2.1 hd) rfl hr

theorem iconst {q1 : Nat} {i : Int} {v : Int32} (hd : decode bytes pc = .ok (.iconst i, 1)) (hq1 : pc + 1 = q1) (hv : Int32.ofInt i = v) (g : Wp wd p l e R s m args below meth c Z own nam bytes maxL ret n0 h0 ws Q I h k n q1 Ls (.int v :: st)) : Wp wd p l e R s m args below meth c Z own nam bytes maxL ret n0 h0 ws Q I h k n pc Ls st := by
  subst hq1
  exact  step g fun E T L t vm0 B X _ hr => XT.iconstV X.here E.1 rfl v (hb E.2.1 hd) hv hr

theorem bipush {q1 : Nat} {i : Int} {v : Int32} (hd : decode bytes pc = .ok (.bipush i, 2)) (hq1 : pc + 2 = q1) (hv : (Int8.ofInt i).toInt32 = v) (g : Wp wd p l e R s m args below meth c Z own nam bytes maxL ret n0 h0 ws Q I h k n q1 Ls (.int v :: st)) : Wp wd p l e R s m args below meth c Z own nam bytes maxL ret n0 h0 ws Q I h k n pc Ls st := by
  subst hq1
  exact  step g fun E T L t vm0 B X _ hr => XT.bipushV X.here E.1 rfl v (hb E.2.1 hd) hv hr

theorem sipush {q1 : Nat} {i : Int} {v : Int32} (hd : decode bytes pc = .ok (.sipush i, 3)) (hq1 : pc + 3 = q1) (hv : (Int16.ofInt i).toInt32 = v) (g : Wp wd p l e R s m args below meth c Z own nam bytes maxL ret n0 h0 ws Q I h k n q1 Ls (.int v :: st)) : Wp wd p l e R s m args below meth c Z own nam bytes maxL ret n0 h0 ws Q I h k n pc Ls st := by
  subst hq1
  exact  step g fun E T L t vm0 B X _ hr => XT.sipushV X.here E.1 rfl v (hb E.2.1 hd) hv hr

theorem lconst {q1 : Nat} {i : Fin 2} {v : Int64} (hd : decode bytes pc = .ok (.lconst i, 1)) (hq1 : pc + 1 = q1) (hv : Int64.ofNat i = v) (g : Wp wd p l e R s m args below meth c Z own nam bytes maxL ret n0 h0 ws Q I h k n q1 Ls (.long v :: st)) : Wp wd p l e R s m args below meth c Z own nam bytes maxL ret n0 h0 ws Q I h k n pc Ls st := by
  subst hq1
  exact  step g fun E T L t vm0 B X _ hr => XT.lconstV X.here E.1 rfl v (hb E.2.1 hd) hv hr

theorem aconst_null {q1 : Nat} (hd : decode bytes pc = .ok (.aconst_null, 1)) (hq1 : pc + 1 = q1) (g : Wp wd p l e R s m args below meth c Z own nam bytes maxL ret n0 h0 ws Q I h k n q1 Ls (.null :: st)) : Wp wd p l e R s m args below meth c Z own nam bytes maxL ret n0 h0 ws Q I h k n pc Ls st := by
  subst hq1
  exact  step g fun E T L t vm0 B X _ hr => XS.aconstNull X.here E.1 rfl (hb E.2.1 hd) hr

theorem ldcI {q1 : Nat} {i : Nat} {v : Int32} (hd : decode bytes pc = .ok (.ldc i, 2)) (hq1 : pc + 2 = q1) (w : (Cond.constant own i v).before a0 Z = true) (g : Wp wd p l e R s m args below meth c Z own nam bytes maxL ret n0 h0 ws Q I h k n q1 Ls (.int v :: st)) : Wp wd p l e R s m args below meth c Z own nam bytes maxL ret n0 h0 ws Q I h k n pc Ls st := by
  subst hq1
  exact  step g fun E T L t vm0 B X _ hr => X.ldcInt E.1 (bO E B) (mvT (bZ E B) w) (g := mkF m pc Ls.toArray st) rfl (hb E.2.1 hd) _ hr

theorem ldcwI {q1 : Nat} {i : Nat} {v : Int32} (hd : decode bytes pc = .ok (.ldc_w i, 3)) (hq1 : pc + 3 = q1) (w : (Cond.constant own i v).before a0 Z = true) (g : Wp wd p l e R s m args below meth c Z own nam bytes maxL ret n0 h0 ws Q I h k n q1 Ls (.int v :: st)) : Wp wd p l e R s m args below meth c Z own nam bytes maxL ret n0 h0 ws Q I h k n pc Ls st := by
  subst hq1
  exact  step g fun E T L t vm0 B X _ hr => X.ldcwInt E.1 (bO E B) (mvT (bZ E B) w) (g := mkF m pc Ls.toArray st) rfl (hb E.2.1 hd) _ hr

theorem ldc2J {q1 : Nat} {i : Nat} {v : Int64} (hd : decode bytes pc = .ok (.ldc2_w i, 3)) (hq1 : pc + 3 = q1) (w : (Cond.constantLong own i v).before a0 Z = true) (g : Wp wd p l e R s m args below meth c Z own nam bytes maxL ret n0 h0 ws Q I h k n q1 Ls (.long v :: st)) : Wp wd p l e R s m args below meth c Z own nam bytes maxL ret n0 h0 ws Q I h k n pc Ls st := by
  subst hq1
  exact  step g fun E T L t vm0 B X _ hr => X.ldc2Long E.1 (bO E B) (mvT (bZ E B) w) (g := mkF m pc Ls.toArray st) rfl (hb E.2.1 hd) _ hr

theorem iload {q1 : Nat} {j : Nat} {v : Int32} (hd : decode bytes pc = .ok (.iload j, 2)) (hq1 : pc + 2 = q1) (hl : Ls[j]? = some (.val (.int v))) (g : Wp wd p l e R s m args below meth c Z own nam bytes maxL ret n0 h0 ws Q I h k n q1 Ls ((.int v) :: st)) : Wp wd p l e R s m args below meth c Z own nam bytes maxL ret n0 h0 ws Q I h k n pc Ls st := by
  subst hq1
  exact  step g fun E T L t vm0 B X _ hr => XS.iload X.here E.1 rfl (hb E.2.1 hd) (by simpa using hl) hr

theorem iload_n {q1 : Nat} {j : Fin 4} {v : Int32} (hd : decode bytes pc = .ok (.iload_n j, 1)) (hq1 : pc + 1 = q1) (hl : Ls[j.val]? = some (.val (.int v))) (g : Wp wd p l e R s m args below meth c Z own nam bytes maxL ret n0 h0 ws Q I h k n q1 Ls ((.int v) :: st)) : Wp wd p l e R s m args below meth c Z own nam bytes maxL ret n0 h0 ws Q I h k n pc Ls st := by
  subst hq1
  exact  step g fun E T L t vm0 B X _ hr => XS.iloadN X.here E.1 rfl (hb E.2.1 hd) (by simpa using hl) hr

theorem lload {q1 : Nat} {j : Nat} {v : Int64} (hd : decode bytes pc = .ok (.lload j, 2)) (hq1 : pc + 2 = q1) (hl : Ls[j]? = some (.val (.long v))) (g : Wp wd p l e R s m args below meth c Z own nam bytes maxL ret n0 h0 ws Q I h k n q1 Ls ((.long v) :: st)) : Wp wd p l e R s m args below meth c Z own nam bytes maxL ret n0 h0 ws Q I h k n pc Ls st := by
  subst hq1
  exact  step g fun E T L t vm0 B X _ hr => XS.lload X.here E.1 rfl (hb E.2.1 hd) (by simpa using hl) hr

theorem lload_n {q1 : Nat} {j : Fin 4} {v : Int64} (hd : decode bytes pc = .ok (.lload_n j, 1)) (hq1 : pc + 1 = q1) (hl : Ls[j.val]? = some (.val (.long v))) (g : Wp wd p l e R s m args below meth c Z own nam bytes maxL ret n0 h0 ws Q I h k n q1 Ls ((.long v) :: st)) : Wp wd p l e R s m args below meth c Z own nam bytes maxL ret n0 h0 ws Q I h k n pc Ls st := by
  subst hq1
  exact  step g fun E T L t vm0 B X _ hr => XS.lloadN X.here E.1 rfl (hb E.2.1 hd) (by simpa using hl) hr

theorem aload {q1 : Nat} {j : Nat} {v : Value} (hd : decode bytes pc = .ok (.aload j, 2)) (hq1 : pc + 2 = q1) (hl : Ls[j]? = some (.val (v))) (hv : v.isRef = true) (g : Wp wd p l e R s m args below meth c Z own nam bytes maxL ret n0 h0 ws Q I h k n q1 Ls ((v) :: st)) : Wp wd p l e R s m args below meth c Z own nam bytes maxL ret n0 h0 ws Q I h k n pc Ls st := by
  subst hq1
  exact  step g fun E T L t vm0 B X _ hr => XS.aload X.here E.1 rfl (hb E.2.1 hd) (by simpa using hl) hv hr

theorem aload_n {q1 : Nat} {j : Fin 4} {v : Value} (hd : decode bytes pc = .ok (.aload_n j, 1)) (hq1 : pc + 1 = q1) (hl : Ls[j.val]? = some (.val (v))) (hv : v.isRef = true) (g : Wp wd p l e R s m args below meth c Z own nam bytes maxL ret n0 h0 ws Q I h k n q1 Ls ((v) :: st)) : Wp wd p l e R s m args below meth c Z own nam bytes maxL ret n0 h0 ws Q I h k n pc Ls st := by
  subst hq1
  exact  step g fun E T L t vm0 B X _ hr => XS.aloadN X.here E.1 rfl (hb E.2.1 hd) (by simpa using hl) hv hr

theorem istore {q1 : Nat} {j : Nat} {x : Int32} (hd : decode bytes pc = .ok (.istore j, 2)) (hq1 : pc + 2 = q1) (ho : oneAt Ls j = true) (g : Wp wd p l e R s m args below meth c Z own nam bytes maxL ret n0 h0 ws Q I h k n q1 (Ls.set j (.val (.int x))) rest) : Wp wd p l e R s m args below meth c Z own nam bytes maxL ret n0 h0 ws Q I h k n pc Ls (.int x :: rest) := by
  subst hq1
  exact  step g fun E T L t vm0 B X _ hr => XS.istore X.here E.1 rfl (hb E.2.1 hd) rfl (one_store ho rfl) hr

theorem istore_n {q1 : Nat} {j : Fin 4} {jj : Nat} {x : Int32} (hd : decode bytes pc = .ok (.istore_n j, 1)) (hq1 : pc + 1 = q1) (hj : j.val = jj) (ho : oneAt Ls jj = true) (g : Wp wd p l e R s m args below meth c Z own nam bytes maxL ret n0 h0 ws Q I h k n q1 (Ls.set jj (.val (.int x))) rest) : Wp wd p l e R s m args below meth c Z own nam bytes maxL ret n0 h0 ws Q I h k n pc Ls (.int x :: rest) := by
  subst hq1
  exact  step g fun E T L t vm0 B X _ hr => XS.istoreN X.here E.1 rfl (hb E.2.1 hd) rfl (by subst hj; exact one_store ho rfl) hr

theorem astore {q1 : Nat} {j : Nat} {x : Value} (hd : decode bytes pc = .ok (.astore j, 2)) (hq1 : pc + 2 = q1) (ho : oneAt Ls j = true) (hv : x.isRef = true) (g : Wp wd p l e R s m args below meth c Z own nam bytes maxL ret n0 h0 ws Q I h k n q1 (Ls.set j (.val x)) rest) : Wp wd p l e R s m args below meth c Z own nam bytes maxL ret n0 h0 ws Q I h k n pc Ls (x :: rest) := by
  subst hq1
  exact  step g fun E T L t vm0 B X _ hr => XS.astore X.here E.1 rfl (hb E.2.1 hd) rfl hv (one_store ho (XT.cat1 hv)) hr

theorem astore_n {q1 : Nat} {j : Fin 4} {jj : Nat} {x : Value} (hd : decode bytes pc = .ok (.astore_n j, 1)) (hq1 : pc + 1 = q1) (hj : j.val = jj) (ho : oneAt Ls jj = true) (hv : x.isRef = true) (g : Wp wd p l e R s m args below meth c Z own nam bytes maxL ret n0 h0 ws Q I h k n q1 (Ls.set jj (.val x)) rest) : Wp wd p l e R s m args below meth c Z own nam bytes maxL ret n0 h0 ws Q I h k n pc Ls (x :: rest) := by
  subst hq1
  exact  step g fun E T L t vm0 B X _ hr => XS.astoreN X.here E.1 rfl (hb E.2.1 hd) rfl hv (by subst hj; exact one_store ho (XT.cat1 hv)) hr

theorem lstore {q1 : Nat} {j jk : Nat} {x : Int64} (hd : decode bytes pc = .ok (.lstore j, 2)) (hq1 : pc + 2 = q1) (hjk : j + 1 = jk) (ho : twoAt Ls j = true) (g : Wp wd p l e R s m args below meth c Z own nam bytes maxL ret n0 h0 ws Q I h k n q1 ((Ls.set j (.val (.long x))).set jk .second) rest) : Wp wd p l e R s m args below meth c Z own nam bytes maxL ret n0 h0 ws Q I h k n pc Ls (.long x :: rest) := by
  subst hq1
  exact  step g fun E T L t vm0 B X _ hr => XS.lstore X.here E.1 rfl (hb E.2.1 hd) rfl (by subst hjk; exact two_store ho) hr

theorem lstore_n {q1 : Nat} {j : Fin 4} {jj jk : Nat} {x : Int64} (hd : decode bytes pc = .ok (.lstore_n j, 1)) (hq1 : pc + 1 = q1) (hj : j.val = jj) (hjk : jj + 1 = jk) (ho : twoAt Ls jj = true) (g : Wp wd p l e R s m args below meth c Z own nam bytes maxL ret n0 h0 ws Q I h k n q1 ((Ls.set jj (.val (.long x))).set jk .second) rest) : Wp wd p l e R s m args below meth c Z own nam bytes maxL ret n0 h0 ws Q I h k n pc Ls (.long x :: rest) := by
  subst hq1
  exact  step g fun E T L t vm0 B X _ hr => XS.lstoreN X.here E.1 rfl (hb E.2.1 hd) rfl (by subst hj; subst hjk; exact two_store ho) hr

theorem iinc {q1 : Nat} {j : Nat} {i : Int} {x v : Int32} (hd : decode bytes pc = .ok (.iinc j i, 3)) (hq1 : pc + 3 = q1) (hv : Int32.ofInt i = v) (hl : Ls[j]? = some (.val (.int x))) (g : Wp wd p l e R s m args below meth c Z own nam bytes maxL ret n0 h0 ws Q I h k n q1 (Ls.set j (.val (.int (x + v)))) st) : Wp wd p l e R s m args below meth c Z own nam bytes maxL ret n0 h0 ws Q I h k n pc Ls st := by
  subst hq1
  exact  step g fun E T L t vm0 B X _ hr => XT.iincV X.here E.1 rfl v (hb E.2.1 hd) hv (by simpa using hl) (one_store (by simp [oneAt, hl, oneB, Value.category]) rfl) hr

theorem dup {q1 : Nat} {x : Value} (hd : decode bytes pc = .ok (.dup, 1)) (hq1 : pc + 1 = q1) (hc : x.category = 1) (g : Wp wd p l e R s m args below meth c Z own nam bytes maxL ret n0 h0 ws Q I h k n q1 Ls (x :: x :: rest)) : Wp wd p l e R s m args below meth c Z own nam bytes maxL ret n0 h0 ws Q I h k n pc Ls (x :: rest) := by
  subst hq1
  exact  step g fun E T L t vm0 B X _ hr => XS.dup X.here E.1 rfl (hb E.2.1 hd) rfl hc hr

theorem pop {q1 : Nat} {x : Value} (hd : decode bytes pc = .ok (.pop, 1)) (hq1 : pc + 1 = q1) (hc : x.category = 1) (g : Wp wd p l e R s m args below meth c Z own nam bytes maxL ret n0 h0 ws Q I h k n q1 Ls rest) : Wp wd p l e R s m args below meth c Z own nam bytes maxL ret n0 h0 ws Q I h k n pc Ls (x :: rest) := by
  subst hq1
  exact  step g fun E T L t vm0 B X _ hr => XS.pop X.here E.1 rfl (hb E.2.1 hd) rfl hc hr

theorem dup_x1 {q1 : Nat} {x y : Value} (hd : decode bytes pc = .ok (.dup_x1, 1)) (hq1 : pc + 1 = q1) (hc : x.category = 1) (hc' : y.category = 1) (g : Wp wd p l e R s m args below meth c Z own nam bytes maxL ret n0 h0 ws Q I h k n q1 Ls (x :: y :: x :: rest)) : Wp wd p l e R s m args below meth c Z own nam bytes maxL ret n0 h0 ws Q I h k n pc Ls (x :: y :: rest) := by
  subst hq1
  exact  step g fun E T L t vm0 B X _ hr => XS.dupX1 X.here E.1 rfl (hb E.2.1 hd) rfl hc hc' hr

theorem dup2 {q1 : Nat} {x y : Value} (hd : decode bytes pc = .ok (.dup2, 1)) (hq1 : pc + 1 = q1) (hc : x.category = 1) (hc' : y.category = 1) (g : Wp wd p l e R s m args below meth c Z own nam bytes maxL ret n0 h0 ws Q I h k n q1 Ls (x :: y :: x :: y :: rest)) : Wp wd p l e R s m args below meth c Z own nam bytes maxL ret n0 h0 ws Q I h k n pc Ls (x :: y :: rest) := by
  subst hq1
  exact  step g fun E T L t vm0 B X _ hr => XT.dup2 X.here E.1 rfl (hb E.2.1 hd) rfl hc hc' hr

theorem dup2L {q1 : Nat} {x : Int64} (hd : decode bytes pc = .ok (.dup2, 1)) (hq1 : pc + 1 = q1) (g : Wp wd p l e R s m args below meth c Z own nam bytes maxL ret n0 h0 ws Q I h k n q1 Ls (.long x :: .long x :: rest)) : Wp wd p l e R s m args below meth c Z own nam bytes maxL ret n0 h0 ws Q I h k n pc Ls (.long x :: rest) := by
  subst hq1
  exact  step g fun E T L t vm0 B X _ hr => XT.dup2L X.here E.1 rfl (hb E.2.1 hd) rfl hr

theorem goto {o : Int} {q : Nat} (hd : decode bytes pc = .ok (.goto o, 3)) (hq : (0 ≤ (pc : Int) + o) ∧ ((pc : Int) + o).toNat = q) (g : Wp wd p l e R s m args below meth c Z own nam bytes maxL ret n0 h0 ws Q I h k n q Ls st) : Wp wd p l e R s m args below meth c Z own nam bytes maxL ret n0 h0 ws Q I h k n pc Ls st :=
  step g fun E T L t vm0 B X _ hr => XS.goto X.here E.1 rfl rfl (hb E.2.1 hd) hq.1 hq.2 hr

theorem if_eq {q1 : Nat} {o : Int} {q : Nat} {x : Int32} (hd : decode bytes pc = .ok (.ifCond .eq o, 3)) (hq1 : pc + 3 = q1) (hq : (0 ≤ (pc : Int) + o) ∧ ((pc : Int) + o).toNat = q) (gt : x = 0 → Wp wd p l e R s m args below meth c Z own nam bytes maxL ret n0 h0 ws Q I h k n q Ls rest) (gf : ¬ x = 0 → Wp wd p l e R s m args below meth c Z own nam bytes maxL ret n0 h0 ws Q I h k n q1 Ls rest) : Wp wd p l e R s m args below meth c Z own nam bytes maxL ret n0 h0 ws Q I h k n pc Ls (.int x :: rest) := by
  subst hq1
  by_cases hc : x = 0
  · exact step (gt hc) fun E T L t vm0 B X _ hr => XS.ifYes X.here E.1 rfl rfl (hb E.2.1 hd) rfl ((if0 _ _).trans (teq hc).1) hq.1 hq.2 hr
  · exact step (gf hc) fun E T L t vm0 B X _ hr => XS.ifNo X.here E.1 rfl (hb E.2.1 hd) rfl ((if0 _ _).trans (feq hc).1) hr

theorem icmp_eq {q1 : Nat} {o : Int} {q : Nat} {x y : Int32} (hd : decode bytes pc = .ok (.if_icmp .eq o, 3)) (hq1 : pc + 3 = q1) (hq : (0 ≤ (pc : Int) + o) ∧ ((pc : Int) + o).toNat = q) (gt : x = y → Wp wd p l e R s m args below meth c Z own nam bytes maxL ret n0 h0 ws Q I h k n q Ls rest) (gf : ¬ x = y → Wp wd p l e R s m args below meth c Z own nam bytes maxL ret n0 h0 ws Q I h k n q1 Ls rest) : Wp wd p l e R s m args below meth c Z own nam bytes maxL ret n0 h0 ws Q I h k n pc Ls (.int y :: .int x :: rest) := by
  subst hq1
  by_cases hc : x = y
  · exact step (gt hc) fun E T L t vm0 B X _ hr => XS.icmpYes X.here E.1 rfl rfl (hb E.2.1 hd) rfl (teq hc).1 hq.1 hq.2 hr
  · exact step (gf hc) fun E T L t vm0 B X _ hr => XS.icmpNo X.here E.1 rfl (hb E.2.1 hd) rfl (feq hc).1 hr

theorem if_ne {q1 : Nat} {o : Int} {q : Nat} {x : Int32} (hd : decode bytes pc = .ok (.ifCond .ne o, 3)) (hq1 : pc + 3 = q1) (hq : (0 ≤ (pc : Int) + o) ∧ ((pc : Int) + o).toNat = q) (gt : ¬ x = 0 → Wp wd p l e R s m args below meth c Z own nam bytes maxL ret n0 h0 ws Q I h k n q Ls rest) (gf : x = 0 → Wp wd p l e R s m args below meth c Z own nam bytes maxL ret n0 h0 ws Q I h k n q1 Ls rest) : Wp wd p l e R s m args below meth c Z own nam bytes maxL ret n0 h0 ws Q I h k n pc Ls (.int x :: rest) := by
  subst hq1
  by_cases hc : x = 0
  · exact step (gf hc) fun E T L t vm0 B X _ hr => XS.ifNo X.here E.1 rfl (hb E.2.1 hd) rfl ((if0 _ _).trans (teq hc).2) hr
  · exact step (gt hc) fun E T L t vm0 B X _ hr => XS.ifYes X.here E.1 rfl rfl (hb E.2.1 hd) rfl ((if0 _ _).trans (feq hc).2) hq.1 hq.2 hr

theorem icmp_ne {q1 : Nat} {o : Int} {q : Nat} {x y : Int32} (hd : decode bytes pc = .ok (.if_icmp .ne o, 3)) (hq1 : pc + 3 = q1) (hq : (0 ≤ (pc : Int) + o) ∧ ((pc : Int) + o).toNat = q) (gt : ¬ x = y → Wp wd p l e R s m args below meth c Z own nam bytes maxL ret n0 h0 ws Q I h k n q Ls rest) (gf : x = y → Wp wd p l e R s m args below meth c Z own nam bytes maxL ret n0 h0 ws Q I h k n q1 Ls rest) : Wp wd p l e R s m args below meth c Z own nam bytes maxL ret n0 h0 ws Q I h k n pc Ls (.int y :: .int x :: rest) := by
  subst hq1
  by_cases hc : x = y
  · exact step (gf hc) fun E T L t vm0 B X _ hr => XS.icmpNo X.here E.1 rfl (hb E.2.1 hd) rfl (teq hc).2 hr
  · exact step (gt hc) fun E T L t vm0 B X _ hr => XS.icmpYes X.here E.1 rfl rfl (hb E.2.1 hd) rfl (feq hc).2 hq.1 hq.2 hr

theorem if_lt {q1 : Nat} {o : Int} {q : Nat} {x : Int32} (hd : decode bytes pc = .ok (.ifCond .lt o, 3)) (hq1 : pc + 3 = q1) (hq : (0 ≤ (pc : Int) + o) ∧ ((pc : Int) + o).toNat = q) (gt : x < 0 → Wp wd p l e R s m args below meth c Z own nam bytes maxL ret n0 h0 ws Q I h k n q Ls rest) (gf : ¬ x < 0 → Wp wd p l e R s m args below meth c Z own nam bytes maxL ret n0 h0 ws Q I h k n q1 Ls rest) : Wp wd p l e R s m args below meth c Z own nam bytes maxL ret n0 h0 ws Q I h k n pc Ls (.int x :: rest) := by
  subst hq1
  by_cases hc : x < 0
  · exact step (gt hc) fun E T L t vm0 B X _ hr => XS.ifYes X.here E.1 rfl rfl (hb E.2.1 hd) rfl ((if0 _ _).trans (tlt hc).1) hq.1 hq.2 hr
  · exact step (gf hc) fun E T L t vm0 B X _ hr => XS.ifNo X.here E.1 rfl (hb E.2.1 hd) rfl ((if0 _ _).trans (flt hc).1) hr

theorem icmp_lt {q1 : Nat} {o : Int} {q : Nat} {x y : Int32} (hd : decode bytes pc = .ok (.if_icmp .lt o, 3)) (hq1 : pc + 3 = q1) (hq : (0 ≤ (pc : Int) + o) ∧ ((pc : Int) + o).toNat = q) (gt : x < y → Wp wd p l e R s m args below meth c Z own nam bytes maxL ret n0 h0 ws Q I h k n q Ls rest) (gf : ¬ x < y → Wp wd p l e R s m args below meth c Z own nam bytes maxL ret n0 h0 ws Q I h k n q1 Ls rest) : Wp wd p l e R s m args below meth c Z own nam bytes maxL ret n0 h0 ws Q I h k n pc Ls (.int y :: .int x :: rest) := by
  subst hq1
  by_cases hc : x < y
  · exact step (gt hc) fun E T L t vm0 B X _ hr => XS.icmpYes X.here E.1 rfl rfl (hb E.2.1 hd) rfl (tlt hc).1 hq.1 hq.2 hr
  · exact step (gf hc) fun E T L t vm0 B X _ hr => XS.icmpNo X.here E.1 rfl (hb E.2.1 hd) rfl (flt hc).1 hr

theorem if_ge {q1 : Nat} {o : Int} {q : Nat} {x : Int32} (hd : decode bytes pc = .ok (.ifCond .ge o, 3)) (hq1 : pc + 3 = q1) (hq : (0 ≤ (pc : Int) + o) ∧ ((pc : Int) + o).toNat = q) (gt : ¬ x < 0 → Wp wd p l e R s m args below meth c Z own nam bytes maxL ret n0 h0 ws Q I h k n q Ls rest) (gf : x < 0 → Wp wd p l e R s m args below meth c Z own nam bytes maxL ret n0 h0 ws Q I h k n q1 Ls rest) : Wp wd p l e R s m args below meth c Z own nam bytes maxL ret n0 h0 ws Q I h k n pc Ls (.int x :: rest) := by
  subst hq1
  by_cases hc : x < 0
  · exact step (gf hc) fun E T L t vm0 B X _ hr => XS.ifNo X.here E.1 rfl (hb E.2.1 hd) rfl ((if0 _ _).trans (tlt hc).2.1) hr
  · exact step (gt hc) fun E T L t vm0 B X _ hr => XS.ifYes X.here E.1 rfl rfl (hb E.2.1 hd) rfl ((if0 _ _).trans (flt hc).2.1) hq.1 hq.2 hr

theorem icmp_ge {q1 : Nat} {o : Int} {q : Nat} {x y : Int32} (hd : decode bytes pc = .ok (.if_icmp .ge o, 3)) (hq1 : pc + 3 = q1) (hq : (0 ≤ (pc : Int) + o) ∧ ((pc : Int) + o).toNat = q) (gt : ¬ x < y → Wp wd p l e R s m args below meth c Z own nam bytes maxL ret n0 h0 ws Q I h k n q Ls rest) (gf : x < y → Wp wd p l e R s m args below meth c Z own nam bytes maxL ret n0 h0 ws Q I h k n q1 Ls rest) : Wp wd p l e R s m args below meth c Z own nam bytes maxL ret n0 h0 ws Q I h k n pc Ls (.int y :: .int x :: rest) := by
  subst hq1
  by_cases hc : x < y
  · exact step (gf hc) fun E T L t vm0 B X _ hr => XS.icmpNo X.here E.1 rfl (hb E.2.1 hd) rfl (tlt hc).2.1 hr
  · exact step (gt hc) fun E T L t vm0 B X _ hr => XS.icmpYes X.here E.1 rfl rfl (hb E.2.1 hd) rfl (flt hc).2.1 hq.1 hq.2 hr

theorem if_gt {q1 : Nat} {o : Int} {q : Nat} {x : Int32} (hd : decode bytes pc = .ok (.ifCond .gt o, 3)) (hq1 : pc + 3 = q1) (hq : (0 ≤ (pc : Int) + o) ∧ ((pc : Int) + o).toNat = q) (gt : 0 < x → Wp wd p l e R s m args below meth c Z own nam bytes maxL ret n0 h0 ws Q I h k n q Ls rest) (gf : ¬ 0 < x → Wp wd p l e R s m args below meth c Z own nam bytes maxL ret n0 h0 ws Q I h k n q1 Ls rest) : Wp wd p l e R s m args below meth c Z own nam bytes maxL ret n0 h0 ws Q I h k n pc Ls (.int x :: rest) := by
  subst hq1
  by_cases hc : 0 < x
  · exact step (gt hc) fun E T L t vm0 B X _ hr => XS.ifYes X.here E.1 rfl rfl (hb E.2.1 hd) rfl ((if0 _ _).trans (tlt hc).2.2.1) hq.1 hq.2 hr
  · exact step (gf hc) fun E T L t vm0 B X _ hr => XS.ifNo X.here E.1 rfl (hb E.2.1 hd) rfl ((if0 _ _).trans (flt hc).2.2.1) hr

theorem icmp_gt {q1 : Nat} {o : Int} {q : Nat} {x y : Int32} (hd : decode bytes pc = .ok (.if_icmp .gt o, 3)) (hq1 : pc + 3 = q1) (hq : (0 ≤ (pc : Int) + o) ∧ ((pc : Int) + o).toNat = q) (gt : y < x → Wp wd p l e R s m args below meth c Z own nam bytes maxL ret n0 h0 ws Q I h k n q Ls rest) (gf : ¬ y < x → Wp wd p l e R s m args below meth c Z own nam bytes maxL ret n0 h0 ws Q I h k n q1 Ls rest) : Wp wd p l e R s m args below meth c Z own nam bytes maxL ret n0 h0 ws Q I h k n pc Ls (.int y :: .int x :: rest) := by
  subst hq1
  by_cases hc : y < x
  · exact step (gt hc) fun E T L t vm0 B X _ hr => XS.icmpYes X.here E.1 rfl rfl (hb E.2.1 hd) rfl (tlt hc).2.2.1 hq.1 hq.2 hr
  · exact step (gf hc) fun E T L t vm0 B X _ hr => XS.icmpNo X.here E.1 rfl (hb E.2.1 hd) rfl (flt hc).2.2.1 hr

theorem if_le {q1 : Nat} {o : Int} {q : Nat} {x : Int32} (hd : decode bytes pc = .ok (.ifCond .le o, 3)) (hq1 : pc + 3 = q1) (hq : (0 ≤ (pc : Int) + o) ∧ ((pc : Int) + o).toNat = q) (gt : ¬ 0 < x → Wp wd p l e R s m args below meth c Z own nam bytes maxL ret n0 h0 ws Q I h k n q Ls rest) (gf : 0 < x → Wp wd p l e R s m args below meth c Z own nam bytes maxL ret n0 h0 ws Q I h k n q1 Ls rest) : Wp wd p l e R s m args below meth c Z own nam bytes maxL ret n0 h0 ws Q I h k n pc Ls (.int x :: rest) := by
  subst hq1
  by_cases hc : 0 < x
  · exact step (gf hc) fun E T L t vm0 B X _ hr => XS.ifNo X.here E.1 rfl (hb E.2.1 hd) rfl ((if0 _ _).trans (tlt hc).2.2.2) hr
  · exact step (gt hc) fun E T L t vm0 B X _ hr => XS.ifYes X.here E.1 rfl rfl (hb E.2.1 hd) rfl ((if0 _ _).trans (flt hc).2.2.2) hq.1 hq.2 hr

theorem icmp_le {q1 : Nat} {o : Int} {q : Nat} {x y : Int32} (hd : decode bytes pc = .ok (.if_icmp .le o, 3)) (hq1 : pc + 3 = q1) (hq : (0 ≤ (pc : Int) + o) ∧ ((pc : Int) + o).toNat = q) (gt : ¬ y < x → Wp wd p l e R s m args below meth c Z own nam bytes maxL ret n0 h0 ws Q I h k n q Ls rest) (gf : y < x → Wp wd p l e R s m args below meth c Z own nam bytes maxL ret n0 h0 ws Q I h k n q1 Ls rest) : Wp wd p l e R s m args below meth c Z own nam bytes maxL ret n0 h0 ws Q I h k n pc Ls (.int y :: .int x :: rest) := by
  subst hq1
  by_cases hc : y < x
  · exact step (gf hc) fun E T L t vm0 B X _ hr => XS.icmpNo X.here E.1 rfl (hb E.2.1 hd) rfl (tlt hc).2.2.2 hr
  · exact step (gt hc) fun E T L t vm0 B X _ hr => XS.icmpYes X.here E.1 rfl rfl (hb E.2.1 hd) rfl (flt hc).2.2.2 hq.1 hq.2 hr

theorem ifnull {q1 : Nat} {o : Int} {q : Nat} {v : Value} (hd : decode bytes pc = .ok (.ifnull o, 3)) (hq1 : pc + 3 = q1) (hq : (0 ≤ (pc : Int) + o) ∧ ((pc : Int) + o).toNat = q) (hv : v.isRef = true) (gt : v = .null → Wp wd p l e R s m args below meth c Z own nam bytes maxL ret n0 h0 ws Q I h k n q Ls rest) (gf : ¬ v = .null → Wp wd p l e R s m args below meth c Z own nam bytes maxL ret n0 h0 ws Q I h k n q1 Ls rest) : Wp wd p l e R s m args below meth c Z own nam bytes maxL ret n0 h0 ws Q I h k n pc Ls (v :: rest) := by
  subst hq1
  by_cases hn : v = .null
  · exact step (gt hn) fun E T L t vm0 B X _ hr => XT.nullYes X.here E.1 rfl rfl (hb E.2.1 hd) rfl hn hq.1 hq.2 hr
  · exact step (gf hn) fun E T L t vm0 B X _ hr => XT.nullNo X.here E.1 rfl (hb E.2.1 hd) rfl hv hn hr

theorem ifnonnull {q1 : Nat} {o : Int} {q : Nat} {v : Value} (hd : decode bytes pc = .ok (.ifnonnull o, 3)) (hq1 : pc + 3 = q1) (hq : (0 ≤ (pc : Int) + o) ∧ ((pc : Int) + o).toNat = q) (hv : v.isRef = true) (gt : ¬ v = .null → Wp wd p l e R s m args below meth c Z own nam bytes maxL ret n0 h0 ws Q I h k n q Ls rest) (gf : v = .null → Wp wd p l e R s m args below meth c Z own nam bytes maxL ret n0 h0 ws Q I h k n q1 Ls rest) : Wp wd p l e R s m args below meth c Z own nam bytes maxL ret n0 h0 ws Q I h k n pc Ls (v :: rest) := by
  subst hq1
  by_cases hn : v = .null
  · exact step (gf hn) fun E T L t vm0 B X _ hr => XT.nonnullNo X.here E.1 rfl (hb E.2.1 hd) rfl hn hr
  · exact step (gt hn) fun E T L t vm0 B X _ hr => XT.nonnullYes X.here E.1 rfl rfl (hb E.2.1 hd) rfl hv hn hq.1 hq.2 hr

theorem acmp_eq {q1 : Nat} {o : Int} {q : Nat} {x y : Value} (hd : decode bytes pc = .ok (.if_acmp .eq o, 3)) (hq1 : pc + 3 = q1) (hq : (0 ≤ (pc : Int) + o) ∧ ((pc : Int) + o).toNat = q) (hx : x.isRef = true) (hy : y.isRef = true) (gt : x = y → Wp wd p l e R s m args below meth c Z own nam bytes maxL ret n0 h0 ws Q I h k n q Ls rest) (gf : ¬ x = y → Wp wd p l e R s m args below meth c Z own nam bytes maxL ret n0 h0 ws Q I h k n q1 Ls rest) : Wp wd p l e R s m args below meth c Z own nam bytes maxL ret n0 h0 ws Q I h k n pc Ls (y :: x :: rest) := by
  subst hq1
  by_cases hn : x = y
  · exact step (gt hn) fun E T L t vm0 B X _ hr => XT.acmpYes X.here E.1 rfl rfl (hb E.2.1 hd) rfl hx hy (XT.aa_eq_t hn) hq.1 hq.2 hr
  · exact step (gf hn) fun E T L t vm0 B X _ hr => XT.acmpNo X.here E.1 rfl (hb E.2.1 hd) rfl hx hy (XT.aa_eq_f hn) hr

theorem acmp_ne {q1 : Nat} {o : Int} {q : Nat} {x y : Value} (hd : decode bytes pc = .ok (.if_acmp .ne o, 3)) (hq1 : pc + 3 = q1) (hq : (0 ≤ (pc : Int) + o) ∧ ((pc : Int) + o).toNat = q) (hx : x.isRef = true) (hy : y.isRef = true) (gt : ¬ x = y → Wp wd p l e R s m args below meth c Z own nam bytes maxL ret n0 h0 ws Q I h k n q Ls rest) (gf : x = y → Wp wd p l e R s m args below meth c Z own nam bytes maxL ret n0 h0 ws Q I h k n q1 Ls rest) : Wp wd p l e R s m args below meth c Z own nam bytes maxL ret n0 h0 ws Q I h k n pc Ls (y :: x :: rest) := by
  subst hq1
  by_cases hn : x = y
  · exact step (gf hn) fun E T L t vm0 B X _ hr => XT.acmpNo X.here E.1 rfl (hb E.2.1 hd) rfl hx hy (XT.aa_ne_f hn) hr
  · exact step (gt hn) fun E T L t vm0 B X _ hr => XT.acmpYes X.here E.1 rfl rfl (hb E.2.1 hd) rfl hx hy (XT.aa_ne_t hn) hq.1 hq.2 hr

theorem getfield {q1 : Nat} {i : Nat} {R0 O f d : String} {a : Addr} {v : Value} (hd : decode bytes pc = .ok (.getfield i, 3)) (hq1 : pc + 3 = q1) (w : (Cond.fieldLink own i R0 f d).before a0 Z = true) (via : Via Z R0 O f d) (F : Fld Z h a O f d v) (g : Wp wd p l e R s m args below meth c Z own nam bytes maxL ret n0 h0 ws Q I h k n q1 Ls (v :: rest)) : Wp wd p l e R s m args below meth c Z own nam bytes maxL ret n0 h0 ws Q I h k n pc Ls (.ref a :: rest) := by
  subst hq1
  exact  lawS fun E T L vm0 B X N eT => by
    obtain ⟨T', X', e', st'⟩ := getF X E.1 (bZ E B) (bO E B) (host := "") (Or.inl w) via eT F (g := mkF m pc Ls.toArray (.ref a :: rest)) rfl rfl (hb E.2.1 hd)
    exact ⟨T', L, h, k, n, X', N, e', Nat.le_refl _, st', g⟩

theorem putfield {q1 : Nat} {i kk : Nat} {R0 O f d C : String} {ty : FieldType} {a : Addr} {v old : Value} (hd : decode bytes pc = .ok (.putfield i, 3)) (hq1 : pc + 3 = q1) (w : (Cond.fieldLink own i R0 f d).before a0 Z = true) (via : Via Z R0 O f d) (F : Fld Z h a O f d old) (X0 : Exa Z h a C) (Lw : (Cond.lays C O f d).before a0 Z = true ∨ ((Cond.laysFinal C O f d).before a0 Z = true ∧ own = O ∧ nam = "<init>")) (wi : (Cond.instantiable C kk).before a0 Z = true) (hty : parseFieldDescriptor d = some ty) (hn : narrow ty v = v) (hf : fits ty v = true) (ha : a ∈ ws ∨ h0.size ≤ a)
    (g : ∀ h', Wr h h' a (Jvm.RoadKit.slotOf Z O f d) v → Wp wd p l e R s m args below meth c Z own nam bytes maxL ret n0 h0 ws Q I h' k n q1 Ls rest) : Wp wd p l e R s m args below meth c Z own nam bytes maxL ret n0 h0 ws Q I h k n pc Ls (v :: .ref a :: rest) := by
  subst hq1
  exact  lawS fun E T L vm0 B X N eT => by
    obtain ⟨T', h', X', e', W', st'⟩ := putF X E.1 (bZ E B) (bO E B) (host := "") (Or.inl w) via eT F X0 (Lw.imp id fun q => ⟨q.1, q.2.1, E.2.2.2.2.2.1.trans q.2.2⟩) wi hty hn hf (g := mkF m pc Ls.toArray (v :: .ref a :: rest)) rfl rfl (hb E.2.1 hd)
    exact ⟨T', _, h', k, n, X', Pmt.snoc N ha, e', Nat.le_of_eq W'.size.symm, st', g h' W'⟩

theorem putfieldN {q1 : Nat} {i kk : Nat} {R0 O f d C : String} {ty : FieldType} {a : Addr} {v v' old : Value} (hd : decode bytes pc = .ok (.putfield i, 3)) (hq1 : pc + 3 = q1) (w : (Cond.fieldLink own i R0 f d).before a0 Z = true) (via : Via Z R0 O f d) (F : Fld Z h a O f d old) (X0 : Exa Z h a C) (Lw : (Cond.lays C O f d).before a0 Z = true ∨ ((Cond.laysFinal C O f d).before a0 Z = true ∧ own = O ∧ nam = "<init>")) (wi : (Cond.instantiable C kk).before a0 Z = true) (hty : parseFieldDescriptor d = some ty) (hn : narrow ty v = v') (hf : fits ty v' = true) (ha : a ∈ ws ∨ h0.size ≤ a)
    (g : ∀ h', Wr h h' a (Jvm.RoadKit.slotOf Z O f d) v' → Wp wd p l e R s m args below meth c Z own nam bytes maxL ret n0 h0 ws Q I h' k n q1 Ls rest) : Wp wd p l e R s m args below meth c Z own nam bytes maxL ret n0 h0 ws Q I h k n pc Ls (v :: .ref a :: rest) := by
  subst hq1
  exact  lawS fun E T L vm0 B X N eT => by
    obtain ⟨T', h', X', e', W', st'⟩ := putFN X E.1 (bZ E B) (bO E B) w via eT F X0 (Lw.imp id fun q => ⟨q.1, q.2.1, E.2.2.2.2.2.1.trans q.2.2⟩) wi hty hn hf (g := mkF m pc Ls.toArray (v :: .ref a :: rest)) rfl rfl (hb E.2.1 hd)
    exact ⟨T', _, h', k, n, X', Pmt.snoc N ha, e', Nat.le_of_eq W'.size.symm, st', g h' W'⟩

theorem getstatic {q1 : Nat} {i : Nat} {R0 O f d : String} {v : Value} (hd : decode bytes pc = .ok (.getstatic i, 3)) (hq1 : pc + 3 = q1) (w : (Cond.fieldLink own i R0 f d).before a0 Z = true) (via : Via Z R0 O f d) (F : Sta Z h O f d v) (g : Wp wd p l e R s m args below meth c Z own nam bytes maxL ret n0 h0 ws Q I h k n q1 Ls (v :: st)) : Wp wd p l e R s m args below meth c Z own nam bytes maxL ret n0 h0 ws Q I h k n pc Ls st := by
  subst hq1
  exact  lawS fun E T L vm0 B X N eT => by
    obtain ⟨T', X', e', st'⟩ := getS (host := "") X E.1 (bZ E B) (bO E B) w via eT F (g := mkF m pc Ls.toArray st) rfl (hb E.2.1 hd)
    exact ⟨T', L, h, k, n, X', N, e', Nat.le_refl _, st', g⟩

theorem checkcast {q1 : Nat} {i : Nat} {K : String} {a : Addr} (hd : decode bytes pc = .ok (.checkcast i, 3)) (hq1 : pc + 3 = q1) (w : (Cond.classLink own i K).before a0 Z = true) (II : Ins Z h a K true) (g : Wp wd p l e R s m args below meth c Z own nam bytes maxL ret n0 h0 ws Q I h k n q1 Ls (.ref a :: rest)) : Wp wd p l e R s m args below meth c Z own nam bytes maxL ret n0 h0 ws Q I h k n pc Ls (.ref a :: rest) := by
  subst hq1
  exact  lawS fun E T L vm0 B X N eT => by
    obtain ⟨T', X', e', st'⟩ := castY X E.1 (bZ E B) (bO E B) w eT II (g := mkF m pc Ls.toArray (.ref a :: rest)) rfl rfl (hb E.2.1 hd)
    exact ⟨T', L, h, k, n, X', N, e', Nat.le_refl _, st', g⟩

theorem instanceofY {q1 : Nat} {i : Nat} {K : String} {a : Addr} (hd : decode bytes pc = .ok (.instanceof i, 3)) (hq1 : pc + 3 = q1) (w : (Cond.classLink own i K).before a0 Z = true) (II : Ins Z h a K true) (g : Wp wd p l e R s m args below meth c Z own nam bytes maxL ret n0 h0 ws Q I h k n q1 Ls (.int 1 :: rest)) : Wp wd p l e R s m args below meth c Z own nam bytes maxL ret n0 h0 ws Q I h k n pc Ls (.ref a :: rest) := by
  subst hq1
  exact  lawS fun E T L vm0 B X N eT => by
    obtain ⟨T', X', e', st'⟩ := instY X E.1 (bZ E B) (bO E B) w eT II (g := mkF m pc Ls.toArray (.ref a :: rest)) rfl rfl (hb E.2.1 hd)
    exact ⟨T', L, h, k, n, X', N, e', Nat.le_refl _, st', g⟩

theorem new {q1 : Nat} {i sz : Nat} {C : String} (hd : decode bytes pc = .ok (.new i, 3)) (hq1 : pc + 3 = q1) (w : (Cond.classLink own i C).before a0 Z = true) (wi : (Cond.instantiable C sz).before a0 Z = true) (wz : (Cond.initialized C).before a0 Z = true) (hk : k + 1 ≤ R.cells) (hn : n + sz ≤ R.slots)
    (g : h0.size ≤ h.size → ∀ h', Ext h h' → Exa Z h' h.size C → (∀ {O nm d : String} {ty : FieldType}, Laid Z a0 C O nm d → parseFieldDescriptor d = some ty → Fld Z h' h.size O nm d (defaultValue ty)) → Unt h' h.size → Wp wd p l e R s m args below meth c Z own nam bytes maxL ret n0 h0 ws Q I h' (k + 1) (n + sz) q1 Ls (.ref h.size :: st)) : Wp wd p l e R s m args below meth c Z own nam bytes maxL ret n0 h0 ws Q I h k n pc Ls st := by
  subst hq1
  exact  lawS fun E T L vm0 B X N eT => by
    obtain ⟨T', h', X', e', E', A', D', U', st'⟩ := newO X E.1 (bZ E B) (bO E B) w wi wz eT (g := mkF m pc Ls.toArray st) rfl (hb E.2.1 hd) hk hn
    exact ⟨T', L, h', _, _, X', N, e', E'.1, st', g (szOf E X eT) h' E' A' D' U'⟩

/-- an array: its kind, length and values -/
def Ary (Z : State) (h : Heap) (a : Addr) (ty : FieldType) (len : Nat) (f : Nat → Value) : Prop := ∃ cl : Cell, Arr Z h a cl ty ∧ cl.slots.size = len ∧ len < 2 ^ 31 ∧ ∀ i, i < len → cl.slots[i]? = some (f i)
theorem Ary.lt {h : Heap} {a : Addr} {ty : FieldType} {len : Nat} {f : Nat → Value} (A : Ary Z h a ty len f) : a < h.size := by obtain ⟨c, q, -⟩ := A; exact q.lt
theorem Ary.ext {h h' : Heap} {a : Addr} {ty : FieldType} {len : Nat} {f : Nat → Value} (A : Ary Z h a ty len f) (E : Ext h h') : Ary Z h' a ty len f := by obtain ⟨c, q, r⟩ := A; exact ⟨c, q.ext E, r⟩
theorem Ary.other {h h' : Heap} {a b : Addr} {ty : FieldType} {len sl : Nat} {f : Nat → Value} {v : Value} (A : Ary Z h a ty len f) (W : Wr h h' b sl v) (q : a ≠ b) : Ary Z h' a ty len f := by obtain ⟨c, q', r⟩ := A; exact ⟨c, q'.other W q, r⟩
theorem Ary.keep {h h' : Heap} {a : Addr} {ty : FieldType} {len : Nat} {f : Nat → Value} {ws : List Addr} (A : Ary Z h a ty len f) (K : Keep h h' ws) (q : a ∉ ws) : Ary Z h' a ty len f := by obtain ⟨c, q', r⟩ := A; exact ⟨c, ⟨K.2.1 a c q'.1 q, q'.2⟩, r⟩
theorem Ary.same {h h' : Heap} {a : Addr} {ty : FieldType} {len j : Nat} {f : Nat → Value} {v : Value} (A : Ary Z h a ty len f) (W : Wr h h' a j v) : Ary Z h' a ty len (fun i => if i = j then v else f i) := by
  obtain ⟨c, q, r1, r2, r3⟩ := A
  refine ⟨_, q.same W, by rw [sz_set]; exact r1, r2, fun i hi => ?_⟩
  by_cases e : i = j
  · subst e; simp [Cell.setSlot, r1, hi]
  · simp only [e, if_false]; rw [← r3 i hi]; exact Array.getElem?_setIfInBounds_ne (Ne.symm e)
theorem Ary.cong {h : Heap} {a : Addr} {ty : FieldType} {len : Nat} {f f' : Nat → Value} (A : Ary Z h a ty len f) (q : ∀ i, i < len → f i = f' i) : Ary Z h a ty len f' := by obtain ⟨c, q', r1, r2, r3⟩ := A; exact ⟨c, q', r1, r2, fun i hi => by rw [← q i hi]; exact r3 i hi⟩
theorem Ary.bound {h : Heap} {a : Addr} {ty : FieldType} {len : Nat} {f : Nat → Value} (A : Ary Z h a ty len f) : len < 2 ^ 31 := by obtain ⟨c, q, r1, r2, r3⟩ := A; exact r2
theorem idx_ok {j : Int32} {i len : Nat} (hj : j.toInt = (i : Int)) (hi : i < len) {cl : Cell} (r : cl.slots.size = len) : ¬ (j < 0 ∨ cl.slots.size ≤ j.toNatClampNeg) ∧ j.toNatClampNeg = i := by
  have e : j.toNatClampNeg = i := by simp [Int32.toNatClampNeg, hj]
  refine ⟨fun q => ?_, e⟩
  rcases q with q | q
  · rw [Int32.lt_iff_toInt_lt, hj] at q; simp at q; omega
  · omega
theorem len_int {len : Nat} {z : Int32} (hz : z.toInt = (len : Int)) (hl : len < 2 ^ 31) : len.toInt32 = z := Int32.toInt_inj.mp (by rw [len_toInt hl, hz])
theorem arraylength {q1 : Nat} {a : Addr} {ty : FieldType} {len : Nat} {f : Nat → Value} {z : Int32} (hd : decode bytes pc = .ok (.arraylength, 1)) (hq1 : pc + 1 = q1) (A : Ary Z h a ty len f) (hz : z.toInt = (len : Int)) (g : Wp wd p l e R s m args below meth c Z own nam bytes maxL ret n0 h0 ws Q I h k n q1 Ls (.int z :: rest)) : Wp wd p l e R s m args below meth c Z own nam bytes maxL ret n0 h0 ws Q I h k n pc Ls (.ref a :: rest) := by
  subst hq1
  exact  step g fun E T L t vm0 B X eT hr => by
    obtain ⟨cl, q, r1, r2, r3⟩ := A
    refine X.arraylength E.1 (by rw [eT]; exact q.1) (State.isArrayOf_alike (bZ E B).alike q.2.1) (g := mkF m pc Ls.toArray (.ref a :: rest)) rfl rfl (hb E.2.1 hd) _ ?_
    rw [r1, len_int hz r2]; exact hr
/-- a fresh array -/
theorem newarray {q1 : Nat} {aty : ArrayType} {N : Int32} {len cap : Nat} (hd : decode bytes pc = .ok (.newarray aty, 2)) (hq1 : pc + 2 = q1) (w : (Cond.arrayClass (newarray.typeOf aty)).before a0 Z = true) (hN : N.toInt = (len : Int)) (hcap : len ≤ cap) (hb0 : cap * 8 ≤ 536870912) (hk : k + 1 ≤ R.cells) (hn : n + cap ≤ R.slots)
    (g : h0.size ≤ h.size → ∀ h', Ext h h' → Ary Z h' h.size (newarray.typeOf aty) len (fun _ => defaultValue (newarray.typeOf aty)) → Wp wd p l e R s m args below meth c Z own nam bytes maxL ret n0 h0 ws Q I h' (k + 1) (n + cap) q1 Ls (.ref h.size :: rest)) : Wp wd p l e R s m args below meth c Z own nam bytes maxL ret n0 h0 ws Q I h k n pc Ls (.int N :: rest) := by
  subst hq1
  exact  lawS fun E T L vm0 B X NN eT => by
    have hneg : ¬ N < 0 := by rw [Int32.lt_iff_toInt_lt, hN]; simp
    have hcl : N.toNatClampNeg = len := by simp [Int32.toNatClampNeg, hN]
    obtain ⟨T', h', cA, X', e', E', A', st'⟩ := newP X E.1 (bZ E B) w eT (g := mkF m pc Ls.toArray (.int N :: rest)) rfl (hb E.2.1 hd) rfl hneg (cap := cap) (by omega) hb0 hk hn
    refine ⟨T', L, h', _, _, X', NN, e', E'.1, st', g (szOf E X eT) h' E' ⟨_, A', by rw [sz_new, hcl], by omega, fun i hi => ?_⟩⟩
    simp [newA, hcl, hi]
/-- a fresh array of references, with what may lie in it -/
def AryR (Z : State) (h : Heap) (a : Addr) (C : String) (len : Nat) (f : Nat → Value) : Prop := ∃ cl : Cell, Arr Z h a cl (.object C) ∧ Ovr Z cl.cls C ∧ cl.slots.size = len ∧ len < 2 ^ 31 ∧ ∀ i, i < len → cl.slots[i]? = some (f i)
theorem AryR.ary {h : Heap} {a : Addr} {C : String} {len : Nat} {f : Nat → Value} (A : AryR Z h a C len f) : Ary Z h a (.object C) len f := by obtain ⟨c, q, -, r⟩ := A; exact ⟨c, q, r⟩
theorem AryR.lt {h : Heap} {a : Addr} {C : String} {len : Nat} {f : Nat → Value} (A : AryR Z h a C len f) : a < h.size := A.ary.lt
theorem AryR.ext {h h' : Heap} {a : Addr} {C : String} {len : Nat} {f : Nat → Value} (A : AryR Z h a C len f) (E : Ext h h') : AryR Z h' a C len f := by obtain ⟨c, q, r⟩ := A; exact ⟨c, q.ext E, r⟩
theorem AryR.other {h h' : Heap} {a b : Addr} {C : String} {len sl : Nat} {f : Nat → Value} {v : Value} (A : AryR Z h a C len f) (W : Wr h h' b sl v) (q : a ≠ b) : AryR Z h' a C len f := by obtain ⟨c, q', r⟩ := A; exact ⟨c, q'.other W q, r⟩
theorem AryR.keep {h h' : Heap} {a : Addr} {C : String} {len : Nat} {f : Nat → Value} {ws : List Addr} (A : AryR Z h a C len f) (K : Keep h h' ws) (q : a ∉ ws) : AryR Z h' a C len f := by obtain ⟨c, q', r⟩ := A; exact ⟨c, ⟨K.2.1 a c q'.1 q, q'.2⟩, r⟩
theorem AryR.same {h h' : Heap} {a : Addr} {C : String} {len j : Nat} {f : Nat → Value} {v : Value} (A : AryR Z h a C len f) (W : Wr h h' a j v) : AryR Z h' a C len (fun i => if i = j then v else f i) := by
  obtain ⟨c, q, o, r1, r2, r3⟩ := A
  refine ⟨_, q.same W, o, by rw [sz_set]; exact r1, r2, fun i hi => ?_⟩
  by_cases e : i = j
  · subst e; simp [Cell.setSlot, r1, hi]
  · simp only [e, if_false]; rw [← r3 i hi]; exact Array.getElem?_setIfInBounds_ne (Ne.symm e)
theorem AryR.cong {h : Heap} {a : Addr} {C : String} {len : Nat} {f f' : Nat → Value} (A : AryR Z h a C len f) (q : ∀ i, i < len → f i = f' i) : AryR Z h a C len f' := by obtain ⟨c, q', o, r1, r2, r3⟩ := A; exact ⟨c, q', o, r1, r2, fun i hi => by rw [← q i hi]; exact r3 i hi⟩
theorem anewarray {q1 : Nat} {i : Nat} {C : String} {N : Int32} {len cap : Nat} (hd : decode bytes pc = .ok (.anewarray i, 3)) (hq1 : pc + 3 = q1) (w1 : (Cond.classLink own i C).before a0 Z = true) (w2 : (Cond.arrayOver (.object C)).before a0 Z = true) (hN : N.toInt = (len : Int)) (hcap : len ≤ cap) (hb0 : cap * 8 ≤ 536870912) (hk : k + 1 ≤ R.cells) (hn : n + cap ≤ R.slots)
    (g : h0.size ≤ h.size → ∀ h', Ext h h' → AryR Z h' h.size C len (fun _ => .null) → Wp wd p l e R s m args below meth c Z own nam bytes maxL ret n0 h0 ws Q I h' (k + 1) (n + cap) q1 Ls (.ref h.size :: rest)) : Wp wd p l e R s m args below meth c Z own nam bytes maxL ret n0 h0 ws Q I h k n pc Ls (.int N :: rest) := by
  subst hq1
  exact  lawS fun E T L vm0 B X NN eT => by
    have hneg : ¬ N < 0 := by rw [Int32.lt_iff_toInt_lt, hN]; simp
    have hcl : N.toNatClampNeg = len := by simp [Int32.toNatClampNeg, hN]
    obtain ⟨T', h', cA, X', e', E', A', O', st'⟩ := newR X E.1 (bZ E B) (bO E B) w1 w2 eT (g := mkF m pc Ls.toArray (.int N :: rest)) rfl (hb E.2.1 hd) rfl hneg (cap := cap) (by omega) hb0 hk hn
    refine ⟨T', L, h', _, _, X', NN, e', E'.1, st', g (szOf E X eT) h' E' ⟨_, A', O', by rw [sz_new, hcl], by omega, fun i hi => ?_⟩⟩
    simp [newA, hcl, hi, defaultValue]

theorem iaload {q1 : Nat} {a : Addr} {len i : Nat} {f : Nat → Value} {j : Int32} {v : Value} (hd : decode bytes pc = .ok (.iaload, 1)) (hq1 : pc + 1 = q1) (A : Ary Z h a .int len f) (hj : j.toInt = (i : Int)) (hi : i < len) (hv : f i = v) (g : Wp wd p l e R s m args below meth c Z own nam bytes maxL ret n0 h0 ws Q I h k n q1 Ls (v :: rest)) : Wp wd p l e R s m args below meth c Z own nam bytes maxL ret n0 h0 ws Q I h k n pc Ls (.int j :: .ref a :: rest) := by
  subst hq1
  exact  step g fun E T L t vm0 B X eT hr => by
    obtain ⟨cl, q, r1, r2, r3⟩ := A
    obtain ⟨b1, b2⟩ := idx_ok hj hi r1
    exact X.iaload E.1 (v := v) (by rw [eT]; exact q.1) (State.isArrayOf_alike (bZ E B).alike q.2.1) q.2.2 b1 (by rw [b2, r3 i hi, hv]) (g := mkF m pc Ls.toArray (.int j :: .ref a :: rest)) rfl rfl (hb E.2.1 hd) _ hr

theorem laload {q1 : Nat} {a : Addr} {len i : Nat} {f : Nat → Value} {j : Int32} {v : Value} (hd : decode bytes pc = .ok (.laload, 1)) (hq1 : pc + 1 = q1) (A : Ary Z h a .long len f) (hj : j.toInt = (i : Int)) (hi : i < len) (hv : f i = v) (g : Wp wd p l e R s m args below meth c Z own nam bytes maxL ret n0 h0 ws Q I h k n q1 Ls (v :: rest)) : Wp wd p l e R s m args below meth c Z own nam bytes maxL ret n0 h0 ws Q I h k n pc Ls (.int j :: .ref a :: rest) := by
  subst hq1
  exact  step g fun E T L t vm0 B X eT hr => by
    obtain ⟨cl, q, r1, r2, r3⟩ := A
    obtain ⟨b1, b2⟩ := idx_ok hj hi r1
    exact X.laload E.1 (v := v) (by rw [eT]; exact q.1) (State.isArrayOf_alike (bZ E B).alike q.2.1) q.2.2 b1 (by rw [b2, r3 i hi, hv]) (g := mkF m pc Ls.toArray (.int j :: .ref a :: rest)) rfl rfl (hb E.2.1 hd) _ hr

theorem caload {q1 : Nat} {a : Addr} {len i : Nat} {f : Nat → Value} {j : Int32} {v : Value} (hd : decode bytes pc = .ok (.caload, 1)) (hq1 : pc + 1 = q1) (A : Ary Z h a .char len f) (hj : j.toInt = (i : Int)) (hi : i < len) (hv : f i = v) (g : Wp wd p l e R s m args below meth c Z own nam bytes maxL ret n0 h0 ws Q I h k n q1 Ls (v :: rest)) : Wp wd p l e R s m args below meth c Z own nam bytes maxL ret n0 h0 ws Q I h k n pc Ls (.int j :: .ref a :: rest) := by
  subst hq1
  exact  step g fun E T L t vm0 B X eT hr => by
    obtain ⟨cl, q, r1, r2, r3⟩ := A
    obtain ⟨b1, b2⟩ := idx_ok hj hi r1
    exact X.caload E.1 (v := v) (by rw [eT]; exact q.1) (State.isArrayOf_alike (bZ E B).alike q.2.1) q.2.2 b1 (by rw [b2, r3 i hi, hv]) (g := mkF m pc Ls.toArray (.int j :: .ref a :: rest)) rfl rfl (hb E.2.1 hd) _ hr

theorem baload {q1 : Nat} {a : Addr} {len i : Nat} {f : Nat → Value} {j : Int32} {v : Value} (hd : decode bytes pc = .ok (.baload, 1)) (hq1 : pc + 1 = q1) (A : Ary Z h a .byte len f) (hj : j.toInt = (i : Int)) (hi : i < len) (hv : f i = v) (g : Wp wd p l e R s m args below meth c Z own nam bytes maxL ret n0 h0 ws Q I h k n q1 Ls (v :: rest)) : Wp wd p l e R s m args below meth c Z own nam bytes maxL ret n0 h0 ws Q I h k n pc Ls (.int j :: .ref a :: rest) := by
  subst hq1
  exact  step g fun E T L t vm0 B X eT hr => by
    obtain ⟨cl, q, r1, r2, r3⟩ := A
    obtain ⟨b1, b2⟩ := idx_ok hj hi r1
    exact X.baloadBytes E.1 (v := v) (by rw [eT]; exact q.1) (State.isArrayOf_alike (bZ E B).alike q.2.1) q.2.2 b1 (by rw [b2, r3 i hi, hv]) (g := mkF m pc Ls.toArray (.int j :: .ref a :: rest)) rfl rfl (hb E.2.1 hd) _ hr

theorem aaload {q1 : Nat} {a : Addr} {len i : Nat} {ty : FieldType} {f : Nat → Value} {j : Int32} {v : Value} (hd : decode bytes pc = .ok (.aaload, 1)) (hq1 : pc + 1 = q1) (A : Ary Z h a ty len f) (hty : ty.isReference = true) (hj : j.toInt = (i : Int)) (hi : i < len) (hv : f i = v) (g : Wp wd p l e R s m args below meth c Z own nam bytes maxL ret n0 h0 ws Q I h k n q1 Ls (v :: rest)) : Wp wd p l e R s m args below meth c Z own nam bytes maxL ret n0 h0 ws Q I h k n pc Ls (.int j :: .ref a :: rest) := by
  subst hq1
  exact  step g fun E T L t vm0 B X eT hr => by
    obtain ⟨cl, q, r1, r2, r3⟩ := A
    obtain ⟨b1, b2⟩ := idx_ok hj hi r1
    exact X.aaload E.1 (v := v) (by rw [eT]; exact q.1) (State.isArrayOf_alike (bZ E B).alike q.2.1) hty q.2.2 b1 (by rw [b2, r3 i hi, hv]) (g := mkF m pc Ls.toArray (.int j :: .ref a :: rest)) rfl rfl (hb E.2.1 hd) _ hr

theorem iastore {q1 : Nat} {a : Addr} {len i : Nat} {f : Nat → Value} {j : Int32} {x : Int32} (hd : decode bytes pc = .ok (.iastore, 1)) (hq1 : pc + 1 = q1) (A : Ary Z h a .int len f) (hj : j.toInt = (i : Int)) (hi : i < len) (ha : a ∈ ws ∨ h0.size ≤ a) (g : ∀ h', Wr h h' a i (.int x) → Wp wd p l e R s m args below meth c Z own nam bytes maxL ret n0 h0 ws Q I h' k n q1 Ls rest) : Wp wd p l e R s m args below meth c Z own nam bytes maxL ret n0 h0 ws Q I h k n pc Ls (.int x :: .int j :: .ref a :: rest) := by
  subst hq1
  exact  lawS fun E T L vm0 B X N eT => by
    obtain ⟨cl, q, r1, r2, r3⟩ := A
    obtain ⟨b1, b2⟩ := idx_ok hj hi r1
    obtain ⟨T', h', X', e', W', st'⟩ := stI X E.1 (bZ E B) eT q b1 (g := mkF m pc Ls.toArray (.int x :: .int j :: .ref a :: rest)) rfl rfl (hb E.2.1 hd)
    exact ⟨T', _, h', k, n, X', Pmt.snoc N ha, e', Nat.le_of_eq W'.size.symm, st', g h' (b2 ▸ W')⟩

theorem castore {q1 : Nat} {a : Addr} {len i : Nat} {f : Nat → Value} {j : Int32} {x : Int32} (hd : decode bytes pc = .ok (.castore, 1)) (hq1 : pc + 1 = q1) (A : Ary Z h a .char len f) (hj : j.toInt = (i : Int)) (hi : i < len) (ha : a ∈ ws ∨ h0.size ≤ a) (g : ∀ h', Wr h h' a i (.int (nar .char x)) → Wp wd p l e R s m args below meth c Z own nam bytes maxL ret n0 h0 ws Q I h' k n q1 Ls rest) : Wp wd p l e R s m args below meth c Z own nam bytes maxL ret n0 h0 ws Q I h k n pc Ls (.int x :: .int j :: .ref a :: rest) := by
  subst hq1
  exact  lawS fun E T L vm0 B X N eT => by
    obtain ⟨cl, q, r1, r2, r3⟩ := A
    obtain ⟨b1, b2⟩ := idx_ok hj hi r1
    obtain ⟨T', h', X', e', W', st'⟩ := stC X E.1 (bZ E B) eT q b1 (g := mkF m pc Ls.toArray (.int x :: .int j :: .ref a :: rest)) rfl rfl (hb E.2.1 hd)
    exact ⟨T', _, h', k, n, X', Pmt.snoc N ha, e', Nat.le_of_eq W'.size.symm, st', g h' (b2 ▸ W')⟩

theorem bastore {q1 : Nat} {a : Addr} {len i : Nat} {f : Nat → Value} {j : Int32} {x : Int32} (hd : decode bytes pc = .ok (.bastore, 1)) (hq1 : pc + 1 = q1) (A : Ary Z h a .byte len f) (hj : j.toInt = (i : Int)) (hi : i < len) (ha : a ∈ ws ∨ h0.size ≤ a) (g : ∀ h', Wr h h' a i (.int (nar .byte x)) → Wp wd p l e R s m args below meth c Z own nam bytes maxL ret n0 h0 ws Q I h' k n q1 Ls rest) : Wp wd p l e R s m args below meth c Z own nam bytes maxL ret n0 h0 ws Q I h k n pc Ls (.int x :: .int j :: .ref a :: rest) := by
  subst hq1
  exact  lawS fun E T L vm0 B X N eT => by
    obtain ⟨cl, q, r1, r2, r3⟩ := A
    obtain ⟨b1, b2⟩ := idx_ok hj hi r1
    obtain ⟨T', h', X', e', W', st'⟩ := stB X E.1 (bZ E B) eT q b1 (g := mkF m pc Ls.toArray (.int x :: .int j :: .ref a :: rest)) rfl rfl (hb E.2.1 hd)
    exact ⟨T', _, h', k, n, X', Pmt.snoc N ha, e', Nat.le_of_eq W'.size.symm, st', g h' (b2 ▸ W')⟩

theorem lastore {q1 : Nat} {a : Addr} {len i : Nat} {f : Nat → Value} {j : Int32} {x : Int64} (hd : decode bytes pc = .ok (.lastore, 1)) (hq1 : pc + 1 = q1) (A : Ary Z h a .long len f) (hj : j.toInt = (i : Int)) (hi : i < len) (ha : a ∈ ws ∨ h0.size ≤ a) (g : ∀ h', Wr h h' a i (.long x) → Wp wd p l e R s m args below meth c Z own nam bytes maxL ret n0 h0 ws Q I h' k n q1 Ls rest) : Wp wd p l e R s m args below meth c Z own nam bytes maxL ret n0 h0 ws Q I h k n pc Ls (.long x :: .int j :: .ref a :: rest) := by
  subst hq1
  exact  lawS fun E T L vm0 B X N eT => by
    obtain ⟨cl, q, r1, r2, r3⟩ := A
    obtain ⟨b1, b2⟩ := idx_ok hj hi r1
    obtain ⟨T', h', X', e', W', st'⟩ := stJ X E.1 (bZ E B) eT q b1 (g := mkF m pc Ls.toArray (.long x :: .int j :: .ref a :: rest)) rfl rfl (hb E.2.1 hd)
    exact ⟨T', _, h', k, n, X', Pmt.snoc N ha, e', Nat.le_of_eq W'.size.symm, st', g h' (b2 ▸ W')⟩

theorem aastore {q1 : Nat} {a : Addr} {C : String} {len i : Nat} {f : Nat → Value} {j : Int32} {v : Value} (hd : decode bytes pc = .ok (.aastore, 1)) (hq1 : pc + 1 = q1) (A : AryR Z h a C len f) (hj : j.toInt = (i : Int)) (hi : i < len) (ha : a ∈ ws ∨ h0.size ≤ a) (hS : v = .null ∨ ∃ y, v = .ref y ∧ Ins Z h y C true) (g : ∀ h', Wr h h' a i v → Wp wd p l e R s m args below meth c Z own nam bytes maxL ret n0 h0 ws Q I h' k n q1 Ls rest) : Wp wd p l e R s m args below meth c Z own nam bytes maxL ret n0 h0 ws Q I h k n pc Ls (v :: .int j :: .ref a :: rest) := by
  subst hq1
  exact  lawS fun E T L vm0 B X N eT => by
    obtain ⟨cl, q, o, r1, r2, r3⟩ := A
    obtain ⟨b1, b2⟩ := idx_ok hj hi r1
    have S : Sto Z h a v := by
      rcases hS with rfl | ⟨y, rfl, I⟩
      · exact Or.inl rfl
      · exact Sto.of q o I
    obtain ⟨T', h', X', e', W', st'⟩ := stR X E.1 (bZ E B) eT q b1 rfl S (g := mkF m pc Ls.toArray (v :: .int j :: .ref a :: rest)) rfl rfl (hb E.2.1 hd)
    exact ⟨T', _, h', k, n, X', Pmt.snoc N ha, e', Nat.le_of_eq W'.size.symm, st', g h' (b2 ▸ W')⟩

theorem initObj {q1 : Nat} {i : Nat} {a : Addr} (hd : decode bytes pc = .ok (.invokespecial i, 3)) (hq1 : pc + 3 = q1) (w1 : (Cond.methodLink own i Lib.objectInit).before a0 Z = true) (w2 : (Cond.instanceMethod Lib.objectInit).before a0 Z = true) (w3 : (Cond.code Lib.objectInit ⟨#[0xb1]⟩ 1 none).before a0 Z = true) (hL : Ls.length = maxL) (hr : (Nat.ble 1 R.frames && Nat.ble ((rest.map fun v => v.category).sum + 12) R.locals) = true) (g : Wp wd p l e R s m args below meth c Z own nam bytes maxL ret n0 h0 ws Q I h k n q1 Ls rest) : Wp wd p l e R s m args below meth c Z own nam bytes maxL ret n0 h0 ws Q I h k n pc Ls (.ref a :: rest) := by
  subst hq1
  exact  lawS fun E T L vm0 B X N eT => by
    have hr' := Bool.and_eq_true_iff.mp hr
    obtain ⟨T', X', e', st'⟩ := initO X E.1 (bZ E B) (bO E B) w1 w2 w3 eT (g := mkF m pc Ls.toArray (.ref a :: rest)) rfl (by rw [E.2.2.1, ← hL]; simp) rfl (hb E.2.1 hd) (Nat.le_of_ble_eq_true hr'.1) (W := (rest.map fun v => v.category).sum) (by show 2 * 0 + _ ≤ _; omega) (Nat.le_of_ble_eq_true hr'.2)
    exact ⟨T', L, h, k, n, X', N, e', Nat.le_refl _, st', g⟩

/-- the room that a call asks -/
def roomOk (R rm : Room) (maxL' : Nat) (rest : List Value) (k n : Nat) : Bool := Nat.ble (rm.frames + 1) R.frames && Nat.ble ((rest.map fun v => v.category).sum + (maxL' + 11) + rm.locals) R.locals && Nat.ble (k + rm.cells) R.cells && Nat.ble (n + rm.slots) R.slots
theorem roomOk_spec {R rm : Room} {maxL' k n : Nat} {rest : List Value} (h : roomOk R rm maxL' rest k n = true) : rm.frames + 1 ≤ R.frames ∧ (rest.map fun v => v.category).sum + (maxL' + 11) + rm.locals ≤ R.locals ∧ k + rm.cells ≤ R.cells ∧ n + rm.slots ≤ R.slots := by
  simp only [roomOk, Bool.and_eq_true] at h
  exact ⟨Nat.le_of_ble_eq_true h.1.1.1, Nat.le_of_ble_eq_true h.1.1.2, Nat.le_of_ble_eq_true h.1.2, Nat.le_of_ble_eq_true h.2⟩
theorem rev_eq (as r : List Value) : List.reverseAux as r = as.reverse ++ r := by simp [List.reverseAux_eq]
section Calls
variable {y : MethodName} {bytes' : ByteArray} {maxL' : Nat} {ret' : Option FieldType} {rm : Room} {as : List Value} {ws' : List Addr} {Q' : Option Value → Heap → Prop} {ps : List FieldType} {r' : Option FieldType} {i : Nat} {a : Addr}
theorem invokestatic {q1 : Nat} (hd : decode bytes pc = .ok (.invokestatic i, 3)) (hq1 : pc + 3 = q1) (w1 : (Cond.methodLink own i y).before a0 Z = true) (w2 : (Cond.static y).before a0 Z = true) (w3 : (Cond.initialized y.cls).before a0 Z = true) (w4 : (Cond.code y bytes' maxL' ret').before a0 Z = true) (hy : y.cls ≠ "java/lang/invoke/MethodHandle" ∧ y.cls ≠ "java/lang/invoke/VarHandle") (pd : parseMethodDescriptor y.desc = some ⟨ps, r'⟩)
    (C : Con l Z n0 y bytes' maxL' ret' rm as h ws' Q') (hst : st = List.reverseAux as rest) (hlen : as.length = ps.length) (hL : Ls.length = maxL) (hr : roomOk R rm maxL' rest k n = true) (hws : ∀ x ∈ ws', x ∈ ws ∨ h0.size ≤ x) (g : ∀ v h', Q' v h' → Keep h h' ws' → Wp wd p l e R s m args below meth c Z own nam bytes maxL ret n0 h0 ws Q I h' (k + rm.cells) (n + rm.slots) q1 Ls (psh v rest)) : Wp wd p l e R s m args below meth c Z own nam bytes maxL ret n0 h0 ws Q I h k n pc Ls st := by
  subst hq1
  exact  fun E T L vm0 B X N eT => by
    obtain ⟨r1, r2, r3, r4⟩ := roomOk_spec hr
    subst hst
    obtain ⟨v, vm, ⟨T1, L1, k1, n1⟩, -, X1, ⟨Lc, hQ, l1, y1, z1⟩, st1⟩ := Jvm.LawKit.callS X E.1 (bO E B) (mvT (bZ E B) w1) (mvT (bZ E B) w2) (mvT (bZ E B) w3) (mvT (bZ E B) w4) hy (backOf (Q := fun v h1 L => Q' v h1 ∧ Pmt h ws' L ∧ Keep h h1 ws') (C (oldOf E X N eT) (fun x hx => n0Of E (hws x hx)) []) (bZ E B) w4 w3 r1 r2) (g := mkF m pc Ls.toArray (List.reverseAux as rest)) rfl (by rw [E.2.2.1, ← hL]; simp) (argsL := as) (rest := rest) (lenOf pd hlen) (rev_eq as rest) (by show 2 * 0 + _ ≤ _; omega) (hb E.2.1 hd) (fun _ _ => ⟨rfl, eT, r3, r4⟩)
    dsimp only [Pt.U, Pt.locs, Pt.cells, Pt.slots] at X1 l1 y1 z1 st1 hQ
    subst l1 y1 z1
    obtain ⟨s2, o, hs, r⟩ := g v _ hQ.1 hQ.2.2 E T1 _ vm0 (bG B hQ.2.2.1) X1 (N.app (pmtOf E X eT hws hQ.2.1)) rfl
    exact ⟨s2, o, st1 _ (by rw [psh_eq]; exact hs), r⟩
theorem invokespecial {q1 : Nat} (hd : decode bytes pc = .ok (.invokespecial i, 3)) (hq1 : pc + 3 = q1) (hy1 : y.name = "<init>") (w1 : (Cond.methodLink own i y).before a0 Z = true) (w2 : (Cond.instanceMethod y).before a0 Z = true) (w3 : (Cond.initialized y.cls).before a0 Z = true) (w4 : (Cond.code y bytes' maxL' none).before a0 Z = true) (hy : y.cls ≠ "java/lang/invoke/MethodHandle" ∧ y.cls ≠ "java/lang/invoke/VarHandle") (pd : parseMethodDescriptor y.desc = some ⟨ps, r'⟩)
    (C : Con l Z n0 y bytes' maxL' none rm (.ref a :: as) h ws' Q') (hst : st = List.reverseAux as (.ref a :: rest)) (hlen : as.length = ps.length) (hL : Ls.length = maxL) (hr : roomOk R rm maxL' rest k n = true) (hws : ∀ x ∈ ws', x ∈ ws ∨ h0.size ≤ x) (g : ∀ v h', Q' v h' → Keep h h' ws' → Wp wd p l e R s m args below meth c Z own nam bytes maxL ret n0 h0 ws Q I h' (k + rm.cells) (n + rm.slots) q1 Ls (psh v rest)) : Wp wd p l e R s m args below meth c Z own nam bytes maxL ret n0 h0 ws Q I h k n pc Ls st := by
  subst hq1
  exact  fun E T L vm0 B X N eT => by
    obtain ⟨r1, r2, r3, r4⟩ := roomOk_spec hr
    subst hst
    obtain ⟨v, vm, ⟨T1, L1, k1, n1⟩, -, X1, ⟨Lc, hQ, l1, y1, z1⟩, st1⟩ := X.specialBack E.1 hy1 (bO E B) (mvT (bZ E B) w1) (mvT (bZ E B) w2) (mvT (bZ E B) w4) hy (backOf (Q := fun v h1 L => Q' v h1 ∧ Pmt h ws' L ∧ Keep h h1 ws') (C (oldOf E X N eT) (fun x hx => n0Of E (hws x hx)) []) (bZ E B) w4 w3 r1 r2) (g := mkF m pc Ls.toArray (List.reverseAux as (.ref a :: rest))) rfl (by rw [E.2.2.1, ← hL]; simp) (Steps.refl _) (a := a) (argsL := as) (rest := rest) (lenOf pd hlen) (rev_eq as _) (by show 2 * 0 + _ ≤ _; omega) (hb E.2.1 hd) (fun _ _ => ⟨rfl, eT, r3, r4⟩)
    dsimp only [Pt.U, Pt.locs, Pt.cells, Pt.slots] at X1 l1 y1 z1 st1 hQ
    subst l1 y1 z1
    obtain ⟨s2, o, hs, r⟩ := g v _ hQ.1 hQ.2.2 E T1 _ vm0 (bG B hQ.2.2.1) X1 (N.app (pmtOf E X eT hws hQ.2.1)) rfl
    exact ⟨s2, o, st1.trans (by rw [psh_eq]; exact hs), r⟩
theorem invokevirtual {q1 : Nat} {z : MethodName} {D : String} (hd : decode bytes pc = .ok (.invokevirtual i, 3)) (hq1 : pc + 3 = q1) (w1 : (Cond.methodLink own i y).before a0 Z = true) (w2 : (Cond.declares y).before a0 Z = true) (nf : ∀ vm0, Z.Warmed39 vm0 → NotFace (s.setVm vm0) y) (w3 : (Cond.selects D y z).before a0 Z = true) (w4 : (Cond.instanceMethod z).before a0 Z = true) (w5 : (Cond.initialized z.cls).before a0 Z = true) (w6 : (Cond.code z bytes' maxL' ret').before a0 Z = true) (hy : y.cls ≠ "java/lang/invoke/MethodHandle" ∧ y.cls ≠ "java/lang/invoke/VarHandle") (pd : parseMethodDescriptor y.desc = some ⟨ps, r'⟩)
    (X0 : Exa Z h a D) (C : Con l Z n0 z bytes' maxL' ret' rm (.ref a :: as) h ws' Q') (hst : st = List.reverseAux as (.ref a :: rest)) (hlen : as.length = ps.length) (hL : Ls.length = maxL) (hr : roomOk R rm maxL' rest k n = true) (hws : ∀ x ∈ ws', x ∈ ws ∨ h0.size ≤ x) (g : ∀ v h', Q' v h' → Keep h h' ws' → Wp wd p l e R s m args below meth c Z own nam bytes maxL ret n0 h0 ws Q I h' (k + rm.cells) (n + rm.slots) q1 Ls (psh v rest)) : Wp wd p l e R s m args below meth c Z own nam bytes maxL ret n0 h0 ws Q I h k n pc Ls st := by
  subst hq1
  exact  fun E T L vm0 B X N eT => by
    obtain ⟨r1, r2, r3, r4⟩ := roomOk_spec hr
    subst hst
    obtain ⟨cq, kq, qa, qb, qc⟩ := isOf (bZ E B) eT X0
    obtain ⟨v, vm, ⟨T1, L1, k1, n1⟩, -, X1, ⟨Lc, hQ, l1, y1, z1⟩, st1⟩ := X.virtualBack E.1 (bO E B) (mvT (bZ E B) w1) (mvT (bZ E B) w2) (nf vm0 (bZ E B)) (mvT (bZ E B) w3) (mvT (bZ E B) w4) hy (backOf (Q := fun v h1 L => Q' v h1 ∧ Pmt h ws' L ∧ Keep h h1 ws') (C (oldOf E X N eT) (fun x hx => n0Of E (hws x hx)) []) (bZ E B) w6 w5 r1 r2) qa qc (g := mkF m pc Ls.toArray (List.reverseAux as (.ref a :: rest))) rfl (by rw [E.2.2.1, ← hL]; simp) (Steps.refl _) (argsL := as) (rest := rest) (lenOf pd hlen) (rev_eq as _) (by show 2 * 0 + _ ≤ _; omega) (hb E.2.1 hd) (fun _ _ => ⟨rfl, eT, r3, r4⟩)
    dsimp only [Pt.U, Pt.locs, Pt.cells, Pt.slots] at X1 l1 y1 z1 st1 hQ
    subst l1 y1 z1
    obtain ⟨s2, o, hs, r⟩ := g v _ hQ.1 hQ.2.2 E T1 _ vm0 (bG B hQ.2.2.1) X1 (N.app (pmtOf E X eT hws hQ.2.1)) rfl
    exact ⟨s2, o, st1.trans (by rw [psh_eq]; exact hs), r⟩
/-- the method that the entry names is the one that is run -/
theorem invokevirt {q1 : Nat} (hd : decode bytes pc = .ok (.invokevirtual i, 3)) (hq1 : pc + 3 = q1) (w1 : (Cond.methodLink own i y).before a0 Z = true) (w2 : (Cond.declares y).before a0 Z = true) {D : String} (w3 : (Cond.selects D y y).before a0 Z = true) (w4 : (Cond.instanceMethod y).before a0 Z = true) (w5 : (Cond.initialized y.cls).before a0 Z = true) (w6 : (Cond.code y bytes' maxL' ret').before a0 Z = true) (hy : y.cls ≠ "java/lang/invoke/MethodHandle" ∧ y.cls ≠ "java/lang/invoke/VarHandle") (pd : parseMethodDescriptor y.desc = some ⟨ps, r'⟩)
    (X0 : Exa Z h a D) (C : Con l Z n0 y bytes' maxL' ret' rm (.ref a :: as) h ws' Q') (hst : st = List.reverseAux as (.ref a :: rest)) (hlen : as.length = ps.length) (hL : Ls.length = maxL) (hr : roomOk R rm maxL' rest k n = true) (hws : ∀ x ∈ ws', x ∈ ws ∨ h0.size ≤ x) (g : ∀ v h', Q' v h' → Keep h h' ws' → Wp wd p l e R s m args below meth c Z own nam bytes maxL ret n0 h0 ws Q I h' (k + rm.cells) (n + rm.slots) q1 Ls (psh v rest)) : Wp wd p l e R s m args below meth c Z own nam bytes maxL ret n0 h0 ws Q I h k n pc Ls st := by
  subst hq1
  exact  invokevirtual hd rfl w1 w2 (fun vm0 hz => notFace_of_selects (args := #[]) (mvT (s := s.setVm vm0) hz w3)) w3 w4 w5 w6 hy pd X0 C hst hlen hL hr hws g
/-- the entry names a method that a class above declares -/
theorem invokeup {q1 : Nat} {z : MethodName} {D owner : String} (hd : decode bytes pc = .ok (.invokevirtual i, 3)) (hq1 : pc + 3 = q1) (w1 : (Cond.methodLink own i y).before a0 Z = true) (w2 : (Cond.sameMethod y.cls owner y.name y.desc).before a0 Z = true) (w3 : (Cond.declares ⟨owner, y.name, y.desc⟩).before a0 Z = true) (ho : owner ≠ "java/lang/invoke/MethodHandle" ∧ owner ≠ "java/lang/invoke/VarHandle") (w4 : (Cond.selects D y z).before a0 Z = true) (w5 : (Cond.instanceMethod z).before a0 Z = true) (w6 : (Cond.initialized z.cls).before a0 Z = true) (w7 : (Cond.code z bytes' maxL' ret').before a0 Z = true) (pd : parseMethodDescriptor y.desc = some ⟨ps, r'⟩)
    (X0 : Exa Z h a D) (C : Con l Z n0 z bytes' maxL' ret' rm (.ref a :: as) h ws' Q') (hst : st = List.reverseAux as (.ref a :: rest)) (hlen : as.length = ps.length) (hL : Ls.length = maxL) (hr : roomOk R rm maxL' rest k n = true) (hws : ∀ x ∈ ws', x ∈ ws ∨ h0.size ≤ x) (g : ∀ v h', Q' v h' → Keep h h' ws' → Wp wd p l e R s m args below meth c Z own nam bytes maxL ret n0 h0 ws Q I h' (k + rm.cells) (n + rm.slots) q1 Ls (psh v rest)) : Wp wd p l e R s m args below meth c Z own nam bytes maxL ret n0 h0 ws Q I h k n pc Ls st := by
  subst hq1
  exact  fun E T L vm0 B X N eT => by
    obtain ⟨r1, r2, r3, r4⟩ := roomOk_spec hr
    subst hst
    obtain ⟨cq, kq, qa, qb, qc⟩ := isOf (bZ E B) eT X0
    obtain ⟨v, vm, ⟨T1, L1, k1, n1⟩, -, X1, ⟨Lc, hQ, l1, y1, z1⟩, st1⟩ := X.virtualBackUp E.1 (bO E B) (mvT (bZ E B) w1) (mvT (bZ E B) w2) (mvT (bZ E B) w3) ho (mvT (bZ E B) w4) (mvT (bZ E B) w5) (backOf (Q := fun v h1 L => Q' v h1 ∧ Pmt h ws' L ∧ Keep h h1 ws') (C (oldOf E X N eT) (fun x hx => n0Of E (hws x hx)) []) (bZ E B) w7 w6 r1 r2) qa qc (g := mkF m pc Ls.toArray (List.reverseAux as (.ref a :: rest))) rfl (by rw [E.2.2.1, ← hL]; simp) (Steps.refl _) (argsL := as) (rest := rest) (lenOf pd hlen) (rev_eq as _) (by show 2 * 0 + _ ≤ _; omega) (hb E.2.1 hd) (fun _ _ => ⟨rfl, eT, r3, r4⟩)
    dsimp only [Pt.U, Pt.locs, Pt.cells, Pt.slots] at X1 l1 y1 z1 st1 hQ
    subst l1 y1 z1
    obtain ⟨s2, o, hs, r⟩ := g v _ hQ.1 hQ.2.2 E T1 _ vm0 (bG B hQ.2.2.1) X1 (N.app (pmtOf E X eT hws hQ.2.1)) rfl
    exact ⟨s2, o, st1.trans (by rw [psh_eq]; exact hs), r⟩
theorem invokeface {q1 : Nat} {z : MethodName} {D : String} {cnt : Nat} (hd : decode bytes pc = .ok (.invokeinterface i cnt, 5)) (hq1 : pc + 5 = q1) (w1 : (Cond.methodLink own i y).before a0 Z = true) (w2 : (Cond.declares y).before a0 Z = true) (w3 : (Cond.interfaceMethod y.cls y.cls y.name y.desc).before a0 Z = true) (w4 : (Cond.selects D y z).before a0 Z = true) (w5 : (Cond.instanceMethod z).before a0 Z = true) (w5b : (Cond.publicMethod z).before a0 Z = true) (w5c : (Cond.unhidden D y.name y.desc).before a0 Z = true) (w5d : (Cond.castable D y.cls).before a0 Z = true) (w6 : (Cond.initialized z.cls).before a0 Z = true) (w7 : (Cond.code z bytes' maxL' ret').before a0 Z = true) (hy : y.cls ≠ "java/lang/invoke/MethodHandle" ∧ y.cls ≠ "java/lang/invoke/VarHandle") (hfc : ((Cond.interfaceMethod y.cls y.cls y.name y.desc).onTables && (Cond.interfaceMethod y.cls y.cls y.name y.desc).keepsFace) = true) (pd : parseMethodDescriptor y.desc = some ⟨ps, r'⟩)
    (X0 : Exa Z h a D) (C : Con l Z n0 z bytes' maxL' ret' rm (.ref a :: as) h ws' Q') (hst : st = List.reverseAux as (.ref a :: rest)) (hlen : as.length = ps.length) (hL : Ls.length = maxL) (hr : roomOk R rm maxL' rest k n = true) (hws : ∀ x ∈ ws', x ∈ ws ∨ h0.size ≤ x) (g : ∀ v h', Q' v h' → Keep h h' ws' → Wp wd p l e R s m args below meth c Z own nam bytes maxL ret n0 h0 ws Q I h' (k + rm.cells) (n + rm.slots) q1 Ls (psh v rest)) : Wp wd p l e R s m args below meth c Z own nam bytes maxL ret n0 h0 ws Q I h k n pc Ls st := by
  subst hq1
  exact  fun E T L vm0 B X N eT => by
    obtain ⟨r1, r2, r3, r4⟩ := roomOk_spec hr
    subst hst
    obtain ⟨cq, kq, qa, qb, qc⟩ := isOf (bZ E B) eT X0
    obtain ⟨v, vm, ⟨T1, L1, k1, n1⟩, -, X1, ⟨Lc, hQ, l1, y1, z1⟩, st1⟩ := X.interfaceBack E.1 (bO E B) (mvT (bZ E B) w1) (mvT (bZ E B) w2) (mvT (bZ E B) w3 hfc) (mvT (bZ E B) w4) (mvT (bZ E B) w5) (mvT (bZ E B) w5b) (mvT (bZ E B) w5c) (mvT (bZ E B) w5d) hy (backOf (Q := fun v h1 L => Q' v h1 ∧ Pmt h ws' L ∧ Keep h h1 ws') (C (oldOf E X N eT) (fun x hx => n0Of E (hws x hx)) []) (bZ E B) w7 w6 r1 r2) qa qb qc (g := mkF m pc Ls.toArray (List.reverseAux as (.ref a :: rest))) rfl (by rw [E.2.2.1, ← hL]; simp) (Steps.refl _) (argsL := as) (rest := rest) (lenOf pd hlen) (rev_eq as _) (by show 2 * 0 + _ ≤ _; omega) (hb E.2.1 hd) (fun _ _ => ⟨rfl, eT, r3, r4⟩)
    dsimp only [Pt.U, Pt.locs, Pt.cells, Pt.slots] at X1 l1 y1 z1 st1 hQ
    subst l1 y1 z1
    obtain ⟨s2, o, hs, r⟩ := g v _ hQ.1 hQ.2.2 E T1 _ vm0 (bG B hQ.2.2.1) X1 (N.app (pmtOf E X eT hws hQ.2.1)) rfl
    exact ⟨s2, o, st1.trans (by rw [psh_eq]; exact hs), r⟩
/-- a private method of the class at hand -/
theorem invokepriv {q1 : Nat} {D : String} {kk : Nat} (hd : decode bytes pc = .ok (.invokevirtual i, 3)) (hq1 : pc + 3 = q1) (w1 : (Cond.methodLink own i y).before a0 Z = true) (w2 : (Cond.instanceMethod y).before a0 Z = true) (w3 : (Cond.instantiable y.cls kk).before a0 Z = true) (w4 : (Cond.privateMethod y).before a0 Z = true) (w5 : (Cond.initialized y.cls).before a0 Z = true) (w6 : (Cond.code y bytes' maxL' ret').before a0 Z = true) (hy : y.cls ≠ "java/lang/invoke/MethodHandle" ∧ y.cls ≠ "java/lang/invoke/VarHandle") (pd : parseMethodDescriptor y.desc = some ⟨ps, r'⟩)
    (X0 : Exa Z h a D) (C : Con l Z n0 y bytes' maxL' ret' rm (.ref a :: as) h ws' Q') (hst : st = List.reverseAux as (.ref a :: rest)) (hlen : as.length = ps.length) (hL : Ls.length = maxL) (hr : roomOk R rm maxL' rest k n = true) (hws : ∀ x ∈ ws', x ∈ ws ∨ h0.size ≤ x) (g : ∀ v h', Q' v h' → Keep h h' ws' → Wp wd p l e R s m args below meth c Z own nam bytes maxL ret n0 h0 ws Q I h' (k + rm.cells) (n + rm.slots) q1 Ls (psh v rest)) : Wp wd p l e R s m args below meth c Z own nam bytes maxL ret n0 h0 ws Q I h k n pc Ls st := by
  subst hq1
  exact  fun E T L vm0 B X N eT => by
    obtain ⟨r1, r2, r3, r4⟩ := roomOk_spec hr
    subst hst
    obtain ⟨cq, q1, q2⟩ := X0.cell
    obtain ⟨ci, ki, i1, i2, -, i3, -⟩ := Cond.instantiable_spec (mvT (s := s.setVm vm0) (args := args) (bZ E B) w3)
    have hpv : (s.setVm vm0).PrivateAt y := Cond.privateMethod_at (mvP (bZ E B) w4 (args := #[]))
    have hsel : (Cond.selects y.cls y y).before args (s.setVm vm0) = true := selects_self_of_private i1 i2 (by simp only [Bool.or_eq_false_iff] at i3; exact i3.1) hpv (mvT (bZ E B) w2) hy
    obtain ⟨v, vm, ⟨T1, L1, k1, n1⟩, -, X1, ⟨Lc, hQ, l1, y1, z1⟩, st1⟩ := X.privateBack E.1 (bO E B) (mvT (bZ E B) w1) (mvT (bZ E B) w2) hsel hpv (mvT (bZ E B) w6) hy (backOf (Q := fun v h1 L => Q' v h1 ∧ Pmt h ws' L ∧ Keep h h1 ws') (C (oldOf E X N eT) (fun x hx => n0Of E (hws x hx)) []) (bZ E B) w6 w5 r1 r2) (g := mkF m pc Ls.toArray (List.reverseAux as (.ref a :: rest))) rfl (by rw [E.2.2.1, ← hL]; simp) (Steps.refl _) (a := a) (by rw [eT]; exact q1) q2 (argsL := as) (rest := rest) (lenOf pd hlen) (rev_eq as _) (by show 2 * 0 + _ ≤ _; omega) (hb E.2.1 hd) (fun _ _ => ⟨rfl, eT, r3, r4⟩)
    dsimp only [Pt.U, Pt.locs, Pt.cells, Pt.slots] at X1 l1 y1 z1 st1 hQ
    subst l1 y1 z1
    obtain ⟨s2, o, hs, r⟩ := g v _ hQ.1 hQ.2.2 E T1 _ vm0 (bG B hQ.2.2.1) X1 (N.app (pmtOf E X eT hws hQ.2.1)) rfl
    exact ⟨s2, o, st1.trans (by rw [psh_eq]; exact hs), r⟩
end Calls
/-! ### wide: constants are interned -/
section Wide
theorem sameNil {s T : State} {L : List Loc} {k n : Nat} (q : s.sameButNew T L k n) (e : T.heap = s.heap) : s.sameButNew T [] k n :=
  ⟨q.1, q.2.1, q.2.2.1, q.2.2.2.1, q.2.2.2.2.1, fun a c ha => ⟨c, by rw [e]; exact ha, rfl, rfl, fun _ _ => rfl⟩⟩
/-- ldc of a String constant whose text this run has not interned yet, ahead of the body's first write -/
theorem ldcLit {q1 : Nat} {i nn : Nat} {text : String} {Ts : List String} {vs : List Value} {z : Int32} (hd : decode bytes pc = .ok (.ldc i, 2)) (hq1 : pc + 2 = q1) (w : (Cond.stringLink own i text).before a0 Z = true) (wS : ∀ a ∈ Bundle.stringAtoms, a.before a0 Z = true) (hI : ∀ vm, I vm → IB Z vm Ts) (hnot : text ∉ Ts) (hh : Jvm.Lit.constHeld Z own i) (hcw : Jvm.Lit.compactW.before a0 Z = true)
    (ht : (∀ c ∈ text.toList, c.toNat < 256) ∧ text.toList.map (fun c => Value.int (Jvm.Lit.byteI c.toNat.toUInt16)) = vs) (hz : ¬ z < 0) (hl : z.toNatClampNeg = vs.length) (hn : 4 * text.toList.length ≤ nn) (hbig : nn ≤ 536870912) (hc : k + 2 ≤ R.cells) (hl' : n + (nn + 4) ≤ R.slots)
    (g : ∀ (a : Addr) (h' : Heap) (b : Addr) (kk : ClassId), Ext h0 h' → Exa Z h' a "java/lang/String" → Fld Z h' a "java/lang/String" "coder" "B" (.int 0) → Fld Z h' a "java/lang/String" "value" "[B" (.ref b) → Arv Z h' b kk .byte z vs (.int 0) → a < h'.size → b < h'.size → Wp true p l e R s m args below meth c Z own nam bytes maxL ret n0 h0 ws Q (fun vm => IB Z vm (text :: Ts) ∧ Lit (Z.setVm vm) own i a) h' (k + 2) (n + (nn + 4)) q1 Ls (.ref a :: st)) : Wp true p l e R s m args below meth c Z own nam bytes maxL ret n0 h0 ws Q I h0 k n pc Ls st := by
  subst hq1
  exact  fun E T L vm0 B X N eT => by
    have eh : s.heap = h0 := E.2.2.2.2.2.2.2.2.1
    have X' : Stand p l e R (s.setVm vm0) m args below meth c T [] k n := ⟨X.admits, X.cas, X.clock, X.frames, X.room, X.hears, X.method, X.code, X.here, X.tail, X.warmed, X.limits, X.bytes, sameNil X.same (by show T.heap = s.heap; rw [eT, eh])⟩
    obtain ⟨a, T', h', k1, b, kk, r1, r2, r3, r4, r5, r6, r7, r8, r9, r10, r11, r12, r13, r14, r15, r16⟩ := ldcSVL (s := s) X' E.1 B.2.1 (bO (wd := true) E B) w wS eT B.1 (Nat.le_refl _) (fun _ q => nomatch q) (fun b cl hb => by rw [eh]; exact E.2.2.2.2.2.2.2.2.2.1.2.2 b cl hb) (hI _ B.2.2) hnot hh hcw ht hz hl (g := mkF m pc Ls.toArray st) rfl (hb E.2.1 hd) hn hbig hc hl'
    obtain ⟨s2, o, hs, r⟩ := g a h' b kk r3 r8 r9 r10 r11 r12 r13 E T' [] T'.vm ⟨⟨r4.1, r4.2.mono r5⟩, r6, r14, r15⟩ r1 (Pmt.nil _ _) r2
    exact ⟨s2, o, r16 _ hs, r⟩
theorem ldcAgain {q1 : Nat} {i : Nat} {text : String} {a : Addr} (hd : decode bytes pc = .ok (.ldc i, 2)) (hq1 : pc + 2 = q1) (w : (Cond.stringLink own i text).before a0 Z = true) (hI : ∀ vm, I vm → Lit (Z.setVm vm) own i a) (g : Wp true p l e R s m args below meth c Z own nam bytes maxL ret n0 h0 ws Q I h k n q1 Ls (.ref a :: st)) : Wp true p l e R s m args below meth c Z own nam bytes maxL ret n0 h0 ws Q I h k n pc Ls st := by
  subst hq1
  exact  step g fun E T L t vm0 B X _ hr => Jvm.RoadKit.ldcAgain (s := s) X E.1 B.2.1 (bO (wd := true) E B) w (a := a) (hI _ B.2.2) (g := mkF m pc Ls.toArray st) rfl (hb E.2.1 hd) _ hr
/-- ldc of a String constant, of whose text nothing is said -/
theorem ldcAny {q1 : Nat} {i nn : Nat} {text : String} (hd : decode bytes pc = .ok (.ldc i, 2)) (hq1 : pc + 2 = q1) (w : (Cond.stringLink own i text).before a0 Z = true) (wS : ∀ a ∈ Bundle.stringAtoms, a.before a0 Z = true) (hn : 4 * text.toList.length ≤ nn) (hbig : nn ≤ 536870912) (hc : k + 2 ≤ R.cells) (hl' : n + (nn + 4) ≤ R.slots)
    (g : ∀ (a : Addr) (h' : Heap), Ext h h' → Wp true p l e R s m args below meth c Z own nam bytes maxL ret n0 h0 ws Q (fun _ => True) h' (k + 2) (n + (nn + 4)) q1 Ls (.ref a :: st)) : Wp true p l e R s m args below meth c Z own nam bytes maxL ret n0 h0 ws Q I h k n pc Ls st := by
  subst hq1
  exact  fun E T L vm0 B X N eT => by
    obtain ⟨a, T', h', k1, r1, r2, r3, r4, r5, r6, r7, r8⟩ := ldcS (s := s) X E.1 B.2.1 (bO (wd := true) E B) w wS eT B.1 (Nat.le_refl _) (g := mkF m pc Ls.toArray st) rfl (hb E.2.1 hd) hn hbig hc hl'
    obtain ⟨s2, o, hs, r⟩ := g a h' r3 E T' L T'.vm ⟨⟨r4.1, r4.2.mono r5⟩, r6, trivial⟩ r1 N r2
    exact ⟨s2, o, r8 _ hs, r⟩
variable {y : MethodName} {bytes' : ByteArray} {maxL' : Nat} {ret' : Option FieldType} {rm : Room} {as : List Value} {ws' : List Addr} {I' : Vm → Prop} {Q' : Option Value → Heap → Prop} {ps : List FieldType} {r' : Option FieldType} {i : Nat} {a : Addr}
theorem backJ {as' : Array Value} {len W' : Nat} {QL : Option Value → Heap → List Loc → Prop}
    (hM : MetFree l y (head1 [Cond.code y bytes' maxL' ret'] rm) (fun a U => a = as' ∧ Z.Warmed39 U.vm ∧ U.heap = h ∧ I' U.vm) (fun _ _ _ _ _ => True) (fun _ U o U' => ∃ v L, o = .returned v ∧ QL v U'.heap L ∧ ReturnedEndW U o U' L rm.cells rm.slots))
    (hZ : Z.Warmed39 s.vm) (wc : (Cond.code y bytes' maxL' ret').before a0 Z = true) (wz : (Cond.initialized y.cls).before a0 Z = true) (hf : rm.frames + 1 ≤ R.frames) (hl : W' + (maxL' + 11) + rm.locals ≤ R.locals) :
    BackS l R p e below s args y len W' (fun A a => a = as' ∧ A.U.heap = h ∧ I' A.U.vm ∧ A.cells + rm.cells ≤ R.cells ∧ A.slots + rm.slots ≤ R.slots)
      (fun A _ v B => ∃ L, QL v B.U.heap L ∧ B.locs = A.locs ++ L ∧ B.cells = A.cells + rm.cells ∧ B.slots = A.slots + rm.slots) :=
  BackS.of_freeW (bytes := bytes') (maxL := maxL') (ret := ret') (E := fun _ _ o t L k n => k = rm.cells ∧ n = rm.slots ∧ ∃ v, o = .returned v ∧ QL v t.heap L) hM hf hl
    (fun m meth c A a Y hp => have hU : Z.Warmed39 A.U.vm := wtrans hZ Y.warmed
      ⟨by show (Cond.and _ .tt).before a A.U = true; rw [Cond.before_and, mv hU wc]; rfl, mv hU wc, mv hU wz, hp.2.2.2.1, hp.2.2.2.2⟩)
    (fun m meth c A a g mk Y hp => ⟨hp.1, wtrans hZ Y.warmed, hp.2.1, hp.2.2.1⟩) (fun _ _ _ _ _ _ _ _ _ => trivial)
    (fun _ _ _ _ ⟨v, L, h1, h2, h3⟩ => ⟨L, _, _, h3, rfl, rfl, v, h1, h2⟩)
    (fun m meth c A a g mk v t L k n Y hp _ _ ⟨e1, e2, v', e3, e4⟩ => by cases e3; subst e1 e2; exact ⟨L, e4, rfl, rfl, rfl⟩)
/-- what is known of the tables stands under tables that are warmer in the narrow sense -/
def Stab (I I' : Vm → Prop) : Prop := ∀ (s : State) (vm vm' : Vm), (s.setVm vm).WarmedH vm' → I vm → I' vm'
theorem stabIB {Z : State} {Ts : List String} : Stab (fun vm => IB Z vm Ts) (fun vm => IB Z vm Ts) := fun s vm vm' hW ⟨more, e, q⟩ => ⟨more, by rw [hW.interned_eq]; exact e, q⟩
theorem stabT {I : Vm → Prop} : Stab I (fun _ => True) := fun _ _ _ _ _ => trivial
theorem rebase {Z s : State} {vm0 vm1 : Vm} {h : Heap} {U : State} (B : Base true I Z s vm0 h) (hS : (s.setVm vm0).Since U.vm U.heap.size) (hg : h.size ≤ U.heap.size) (hv : U.vm = vm1) : Base true (fun _ => True) Z s vm1 U.heap := by
  subst hv
  exact ⟨B.1.trans hS hg, State.Warmed39.trans (t := s.setVm vm0) B.2.1 hS.1, trivial⟩
theorem invokestaticW {q1 : Nat} (hd : decode bytes pc = .ok (.invokestatic i, 3)) (hq1 : pc + 3 = q1) (w1 : (Cond.methodLink own i y).before a0 Z = true) (w2 : (Cond.static y).before a0 Z = true) (w3 : (Cond.initialized y.cls).before a0 Z = true) (w4 : (Cond.code y bytes' maxL' ret').before a0 Z = true) (hy : y.cls ≠ "java/lang/invoke/MethodHandle" ∧ y.cls ≠ "java/lang/invoke/VarHandle") (pd : parseMethodDescriptor y.desc = some ⟨ps, r'⟩)
    (C : ConW l Z n0 y bytes' maxL' ret' rm as h ws' I' Q') (hst : st = List.reverseAux as rest) (hlen : as.length = ps.length) (hL : Ls.length = maxL) (hr : roomOk R rm maxL' rest k n = true) (hws : ∀ x ∈ ws', x ∈ ws ∨ h0.size ≤ x) (hSt : Stab I I') (g : ∀ v h', Q' v h' → Keep h h' ws' → Wp true p l e R s m args below meth c Z own nam bytes maxL ret n0 h0 ws Q (fun _ => True) h' (k + rm.cells) (n + rm.slots) q1 Ls (psh v rest)) : Wp true p l e R s m args below meth c Z own nam bytes maxL ret n0 h0 ws Q I h k n pc Ls st := by
  subst hq1
  exact  fun E T L vm0 B X N eT => by
    obtain ⟨r1, r2, r3, r4⟩ := roomOk_spec hr
    subst hst
    obtain ⟨v, vm, ⟨T1, L1, k1, n1⟩, -, X1, hS, hgr, ⟨Lc, hQ, l1, y1, z1⟩, st1⟩ := callSS X E.1 (bO E B) (mvT (bZ E B) w1) (mvT (bZ E B) w2) (mvT (bZ E B) w3) (mvT (bZ E B) w4) hy (backJ (QL := fun v h1 L => Q' v h1 ∧ Pmt h ws' L ∧ Keep h h1 ws') (C (oldOf E X N eT) (fun x hx => n0Of E (hws x hx)) []) (bZ E B) w4 w3 r1 r2) (g := mkF m pc Ls.toArray (List.reverseAux as rest)) rfl (by rw [E.2.2.1, ← hL]; simp) (argsL := as) (rest := rest) (lenOf pd hlen) (rev_eq as rest) (by show 2 * 0 + _ ≤ _; omega) (hb E.2.1 hd) (fun vm1 hw1 => ⟨rfl, eT, hSt s vm0 vm1 hw1 B.2.2, r3, r4⟩)
    dsimp only [Pt.U, Pt.locs, Pt.cells, Pt.slots] at X1 l1 y1 z1 st1 hQ hS hgr
    subst l1 y1 z1
    obtain ⟨s2, o, hs, r⟩ := g v _ hQ.1 hQ.2.2 E T1 _ T1.vm (rebase B hS (by rw [← eT]; exact hgr) rfl) X1 (N.app (pmtOf E X eT hws hQ.2.1)) rfl
    exact ⟨s2, o, st1.trans (by rw [psh_eq]; exact hs), r⟩
theorem invokespecialW {q1 : Nat} (hd : decode bytes pc = .ok (.invokespecial i, 3)) (hq1 : pc + 3 = q1) (hy1 : y.name = "<init>") (w1 : (Cond.methodLink own i y).before a0 Z = true) (w2 : (Cond.instanceMethod y).before a0 Z = true) (w3 : (Cond.initialized y.cls).before a0 Z = true) (w4 : (Cond.code y bytes' maxL' none).before a0 Z = true) (hy : y.cls ≠ "java/lang/invoke/MethodHandle" ∧ y.cls ≠ "java/lang/invoke/VarHandle") (pd : parseMethodDescriptor y.desc = some ⟨ps, r'⟩)
    (C : ConW l Z n0 y bytes' maxL' none rm (.ref a :: as) h ws' I' Q') (hst : st = List.reverseAux as (.ref a :: rest)) (hlen : as.length = ps.length) (hL : Ls.length = maxL) (hr : roomOk R rm maxL' rest k n = true) (hws : ∀ x ∈ ws', x ∈ ws ∨ h0.size ≤ x) (hSt : Stab I I') (g : ∀ v h', Q' v h' → Keep h h' ws' → Wp true p l e R s m args below meth c Z own nam bytes maxL ret n0 h0 ws Q (fun _ => True) h' (k + rm.cells) (n + rm.slots) q1 Ls (psh v rest)) : Wp true p l e R s m args below meth c Z own nam bytes maxL ret n0 h0 ws Q I h k n pc Ls st := by
  subst hq1
  exact  fun E T L vm0 B X N eT => by
    obtain ⟨r1, r2, r3, r4⟩ := roomOk_spec hr
    subst hst
    obtain ⟨v, vm, ⟨T1, L1, k1, n1⟩, -, X1, hS, hgr, ⟨Lc, hQ, l1, y1, z1⟩, st1⟩ := X.specialBackS E.1 hy1 (bO E B) (mvT (bZ E B) w1) (mvT (bZ E B) w2) (mvT (bZ E B) w4) hy (backJ (QL := fun v h1 L => Q' v h1 ∧ Pmt h ws' L ∧ Keep h h1 ws') (C (oldOf E X N eT) (fun x hx => n0Of E (hws x hx)) []) (bZ E B) w4 w3 r1 r2) (g := mkF m pc Ls.toArray (List.reverseAux as (.ref a :: rest))) rfl (by rw [E.2.2.1, ← hL]; simp) (Steps.refl _) (a := a) (argsL := as) (rest := rest) (lenOf pd hlen) (rev_eq as _) (by show 2 * 0 + _ ≤ _; omega) (hb E.2.1 hd) (fun vm1 hw1 => ⟨rfl, eT, hSt s vm0 vm1 hw1 B.2.2, r3, r4⟩)
    dsimp only [Pt.U, Pt.locs, Pt.cells, Pt.slots] at X1 l1 y1 z1 st1 hQ hS hgr
    subst l1 y1 z1
    obtain ⟨s2, o, hs, r⟩ := g v _ hQ.1 hQ.2.2 E T1 _ T1.vm (rebase B hS (by rw [← eT]; exact hgr) rfl) X1 (N.app (pmtOf E X eT hws hQ.2.1)) rfl
    exact ⟨s2, o, st1.trans (by rw [psh_eq]; exact hs), r⟩
end Wide
/-! the end -/
theorem ret_v (hd : decode bytes pc = .ok (.return_, 1)) (hret : ret = none) (hr : (Nat.ble k R.cells && Nat.ble n R.slots) = true) (hQ : Q none h) : Wp wd p l e R s m args below meth c Z own nam bytes maxL ret n0 h0 ws Q I h k n pc Ls [] := fun E T L vm0 B X N eT => by
  have hr' := Bool.and_eq_true_iff.mp hr
  obtain ⟨fs, hrr, hrun, hended, hW, hsame⟩ := X.leave (v := none) (fun _ => rfl) E.2.2.2.2.2.2.2.1
  refine ⟨_, _, ?_, hrun, hended, _, _, rfl, ⟨?_, N⟩, endOf E B ⟨_, rfl⟩ hW hsame eT (Nat.le_of_ble_eq_true hr'.1) (Nat.le_of_ble_eq_true hr'.2)⟩
  · exact X.returnOut E.1 (E.2.2.2.2.2.2.1.trans hret) (hb E.2.1 hd) hrr
  · show Q none T.heap
    rw [eT]; exact hQ
theorem ret_w {w : Value} {t : FieldType} {ii : Instr} (hd : decode bytes pc = .ok (ii, 1)) (hret : ret = some t) (hn : narrow t w = w)
    (hi : (ii = .ireturn ∧ (t = .int ∨ t = .boolean ∨ t = .byte ∨ t = .char ∨ t = .short) ∧ ∃ z, w = .int z) ∨ (ii = .lreturn ∧ t = .long ∧ ∃ z, w = .long z) ∨ (ii = .dreturn ∧ t = .double ∧ ∃ z, w = .double z) ∨ (ii = .freturn ∧ t = .float ∧ ∃ z, w = .float z) ∨ (ii = .areturn ∧ t.isReference = true ∧ w.isRef = true))
    (hr : (Nat.ble k R.cells && Nat.ble n R.slots) = true) (hQ : Q (some w) h) : Wp wd p l e R s m args below meth c Z own nam bytes maxL ret n0 h0 ws Q I h k n pc Ls (w :: rest) := fun E T L vm0 B X N eT => by
  have hr' := Bool.and_eq_true_iff.mp hr
  obtain ⟨fs, hrr, hrun, hended, hW, hsame⟩ := X.leave (v := some w) (fun h => by rw [E.2.2.2.2.2.2.1, hret] at h; cases h) E.2.2.2.2.2.2.2.1
  refine ⟨_, _, ?_, hrun, hended, _, _, rfl, ⟨?_, N⟩, endOf E B ⟨_, rfl⟩ hW hsame eT (Nat.le_of_ble_eq_true hr'.1) (Nat.le_of_ble_eq_true hr'.2)⟩
  · exact retOut X E.1 (E.2.2.2.2.2.2.1.trans hret) hn hi (hb E.2.1 hd) hrr
  · show Q _ T.heap
    rw [eT]; exact hQ
theorem ret_i {x : Int32} (hd : decode bytes pc = .ok (.ireturn, 1)) (hret : ret = some .int) (hr : (Nat.ble k R.cells && Nat.ble n R.slots) = true) (hQ : Q (some (.int x)) h) : Wp wd p l e R s m args below meth c Z own nam bytes maxL ret n0 h0 ws Q I h k n pc Ls (.int x :: rest) :=
  ret_w hd hret rfl (Or.inl ⟨rfl, Or.inl rfl, x, rfl⟩) hr hQ
theorem ret_l {x : Int64} (hd : decode bytes pc = .ok (.lreturn, 1)) (hret : ret = some .long) (hr : (Nat.ble k R.cells && Nat.ble n R.slots) = true) (hQ : Q (some (.long x)) h) : Wp wd p l e R s m args below meth c Z own nam bytes maxL ret n0 h0 ws Q I h k n pc Ls (.long x :: rest) :=
  ret_w hd hret rfl (Or.inr (Or.inl ⟨rfl, rfl, x, rfl⟩)) hr hQ
theorem ret_a {w : Value} {t : FieldType} (hd : decode bytes pc = .ok (.areturn, 1)) (hret : ret = some t) (ht : t.isReference = true) (hw : w.isRef = true) (hr : (Nat.ble k R.cells && Nat.ble n R.slots) = true) (hQ : Q (some w) h) : Wp wd p l e R s m args below meth c Z own nam bytes maxL ret n0 h0 ws Q I h k n pc Ls (w :: rest) :=
  ret_w hd hret (by cases t <;> first | (cases ht; done) | (cases w <;> first | rfl | (cases hw; done))) (Or.inr (Or.inr (Or.inr (Or.inr ⟨rfl, ht, hw⟩)))) hr hQ
theorem ret_n {x : Int32} {t : FieldType} (hd : decode bytes pc = .ok (.ireturn, 1)) (hret : ret = some t) (ht : t = .boolean ∨ t = .byte ∨ t = .char ∨ t = .short) (hr : (Nat.ble k R.cells && Nat.ble n R.slots) = true) (hQ : Q (some (.int (nar t x))) h) : Wp wd p l e R s m args below meth c Z own nam bytes maxL ret n0 h0 ws Q I h k n pc Ls (.int x :: rest) := fun E T L vm0 B X N eT => by
  have hr' := Bool.and_eq_true_iff.mp hr
  obtain ⟨fs, hrr, hrun, hended, hW, hsame⟩ := X.leave (v := some (.int (nar t x))) (fun h => by rw [E.2.2.2.2.2.2.1, hret] at h; cases h) E.2.2.2.2.2.2.2.1
  refine ⟨_, _, ?_, hrun, hended, _, _, rfl, ⟨?_, N⟩, endOf E B ⟨_, rfl⟩ hW hsame eT (Nat.le_of_ble_eq_true hr'.1) (Nat.le_of_ble_eq_true hr'.2)⟩
  · exact retN X E.1 (E.2.2.2.2.2.2.1.trans hret) ht (hb E.2.1 hd) hrr
  · show Q _ T.heap
    rw [eT]; exact hQ
end Walk
end Jvm.OwnWp
namespace Jvm.Pilot.@@N@@
open Jvm Jvm.ClassFile Sem Op Lib Jvm.Free Jvm.Stand Jvm.LawKit Jvm.RoadKit Jvm.OwnWp Bundle Jvm.Pilot.@@N@@.Jvm.D
theorem ww {Z : State} {a0 : Array Value} (hw : ∀ d ∈ tables_1, d.before a0 Z = true) (i : Nat) {d : Jvm.Cond} (h : tables_1[i]? = some d) : d.before a0 Z = true := hw d (List.mem_of_getElem? h)
theorem pd0 : parseMethodDescriptor "([C)V" = some ⟨[(.array .char)], none⟩ := by decide +kernel
theorem pd1 : parseMethodDescriptor "([CIILjava/lang/Void;)V" = some ⟨[(.array .char), .int, .int, (.object "java/lang/Void")], none⟩ := by decide +kernel
theorem pd2 : parseMethodDescriptor "()V" = some ⟨[], none⟩ := by decide +kernel
theorem pd3 : parseMethodDescriptor "([CII)[B" = some ⟨[(.array .char), .int, .int], some (.array .byte)⟩ := by decide +kernel
theorem pd4 : parseMethodDescriptor "([CI[BII)I" = some ⟨[(.array .char), .int, (.array .byte), .int, .int], some .int⟩ := by decide +kernel
theorem pd5 : parseMethodDescriptor "([BI)B" = some ⟨[(.array .byte), .int], some .byte⟩ := by decide +kernel
theorem pd6 : parseMethodDescriptor "(Ljava/lang/CharSequence;)Z" = some ⟨[(.object "java/lang/CharSequence")], some .boolean⟩ := by decide +kernel
theorem pd7 : parseMethodDescriptor "()I" = some ⟨[], some .int⟩ := by decide +kernel
theorem pd8 : parseMethodDescriptor "()B" = some ⟨[], some .byte⟩ := by decide +kernel
theorem pd9 : parseMethodDescriptor "(I)C" = some ⟨[.int], some .char⟩ := by decide +kernel
theorem pd10 : parseMethodDescriptor "()Z" = some ⟨[], some .boolean⟩ := by decide +kernel
theorem pd11 : parseMethodDescriptor "([BI)C" = some ⟨[(.array .byte), .int], some .char⟩ := by decide +kernel
theorem pd12 : parseMethodDescriptor "(II)V" = some ⟨[.int, .int], none⟩ := by decide +kernel
theorem pd13 : parseMethodDescriptor "(IILjava/util/function/BiFunction;)I" = some ⟨[.int, .int, (.object "java/util/function/BiFunction")], some .int⟩ := by decide +kernel
theorem pd14 : parseMethodDescriptor "(Ljava/lang/CharSequence;I)Z" = some ⟨[(.object "java/lang/CharSequence"), .int], some .boolean⟩ := by decide +kernel
theorem pd15 : parseMethodDescriptor "(Ljava/lang/String;)Z" = some ⟨[(.object "java/lang/String")], some .boolean⟩ := by decide +kernel
theorem pd16 : parseMethodDescriptor "(Ljava/lang/CharSequence;Ljava/lang/String;I)Z" = some ⟨[(.object "java/lang/CharSequence"), (.object "java/lang/String"), .int], some .boolean⟩ := by decide +kernel
theorem pd17 : parseMethodDescriptor "(C)Ljava/lang/String;" = some ⟨[.char], some (.object "java/lang/String")⟩ := by decide +kernel
theorem pd18 : parseMethodDescriptor "(C)Z" = some ⟨[.char], some .boolean⟩ := by decide +kernel
theorem pd19 : parseMethodDescriptor "(C)[B" = some ⟨[.char], some (.array .byte)⟩ := by decide +kernel
theorem pd20 : parseMethodDescriptor "([BB)V" = some ⟨[(.array .byte), .byte], none⟩ := by decide +kernel
theorem own_succ {j : Int32} {i : Nat} (h : j.toInt = (i : Int)) (hb : i < 2147483647) : (j + 1).toInt = ((i + 1 : Nat) : Int) := by
  have e : (1 : Int32).toInt = 1 := rfl
  rw [XT.add32 (by rw [h, e]; constructor <;> omega), h, e]; omega
theorem own_lt {x y : Int32} : x < y ↔ x.toInt < y.toInt := Int32.lt_iff_toInt_lt
theorem own_eq {x y : Int32} (h : x.toInt = y.toInt) : x = y := Int32.toInt_inj.mp h
theorem own_b8 (x : Int32) : nar .byte (x.toInt8.toInt32) = x.toInt8.toInt32 := by simp [nar]
theorem own_and255 (x : Int32) : ∃ n : Nat, (x &&& 255).toInt = (n : Int) ∧ n < 256 := by
  have h := c_mask x 255 8 (by decide) (by decide)
  refine ⟨(x &&& 255).toInt.toNat, ?_, ?_⟩ <;> omega
theorem own_c8 (x : Int32) : nar .char ((x &&& 255).toUInt32.toUInt16.toUInt32.toInt32) = x &&& 255 := by
  rw [i2c_mask]; exact i2c_mask x
theorem own_le255 (x : Int32) : ¬ (255 : Int32) < x &&& 255 := by
  obtain ⟨n, h1, h2⟩ := own_and255 x
  rw [own_lt, h1]; have : (255 : Int32).toInt = 255 := rfl; omega
theorem own_in1 {a : Addr} : ∀ {L : List Addr}, a ∈ a :: L := List.mem_cons_self
theorem d1_0 : decode jdk_42_method_3_code 0 = .ok (.aload_n 0, 1) := by decide +kernel
theorem d1_1 : decode jdk_42_method_3_code 1 = .ok (.aload_n 1, 1) := by decide +kernel
theorem d1_2 : decode jdk_42_method_3_code 2 = .ok (.iconst 0, 1) := by decide +kernel
theorem d1_3 : decode jdk_42_method_3_code 3 = .ok (.aload_n 1, 1) := by decide +kernel
theorem d1_4 : decode jdk_42_method_3_code 4 = .ok (.arraylength, 1) := by decide +kernel
theorem d1_5 : decode jdk_42_method_3_code 5 = .ok (.aconst_null, 1) := by decide +kernel
theorem d1_6 : decode jdk_42_method_3_code 6 = .ok (.invokespecial 27, 3) := by decide +kernel
theorem d1_9 : decode jdk_42_method_3_code 9 = .ok (.return_, 1) := by decide +kernel
theorem d2_0 : decode jdk_42_method_149_code 0 = .ok (.aload_n 0, 1) := by decide +kernel
theorem d2_1 : decode jdk_42_method_149_code 1 = .ok (.invokespecial 1, 3) := by decide +kernel
theorem d2_4 : decode jdk_42_method_149_code 4 = .ok (.iload_n 3, 1) := by decide +kernel
theorem d2_5 : decode jdk_42_method_149_code 5 = .ok (.ifCond .ne 22, 3) := by decide +kernel
theorem d2_8 : decode jdk_42_method_149_code 8 = .ok (.aload_n 0, 1) := by decide +kernel
theorem d2_9 : decode jdk_42_method_149_code 9 = .ok (.ldc 7, 2) := by decide +kernel
theorem d2_11 : decode jdk_42_method_149_code 11 = .ok (.getfield 9, 3) := by decide +kernel
theorem d2_14 : decode jdk_42_method_149_code 14 = .ok (.putfield 9, 3) := by decide +kernel
theorem d2_17 : decode jdk_42_method_149_code 17 = .ok (.aload_n 0, 1) := by decide +kernel
theorem d2_18 : decode jdk_42_method_149_code 18 = .ok (.ldc 7, 2) := by decide +kernel
theorem d2_20 : decode jdk_42_method_149_code 20 = .ok (.getfield 15, 3) := by decide +kernel
theorem d2_23 : decode jdk_42_method_149_code 23 = .ok (.putfield 15, 3) := by decide +kernel
theorem d2_26 : decode jdk_42_method_149_code 26 = .ok (.return_, 1) := by decide +kernel
theorem d2_27 : decode jdk_42_method_149_code 27 = .ok (.getstatic 38, 3) := by decide +kernel
theorem d2_30 : decode jdk_42_method_149_code 30 = .ok (.ifCond .eq 28, 3) := by decide +kernel
theorem d2_33 : decode jdk_42_method_149_code 33 = .ok (.aload_n 1, 1) := by decide +kernel
theorem d2_34 : decode jdk_42_method_149_code 34 = .ok (.iload_n 2, 1) := by decide +kernel
theorem d2_35 : decode jdk_42_method_149_code 35 = .ok (.iload_n 3, 1) := by decide +kernel
theorem d2_36 : decode jdk_42_method_149_code 36 = .ok (.invokestatic 177, 3) := by decide +kernel
theorem d2_39 : decode jdk_42_method_149_code 39 = .ok (.astore 5, 2) := by decide +kernel
theorem d2_41 : decode jdk_42_method_149_code 41 = .ok (.aload_n 0, 1) := by decide +kernel
theorem d2_42 : decode jdk_42_method_149_code 42 = .ok (.aload 5, 2) := by decide +kernel
theorem d2_44 : decode jdk_42_method_149_code 44 = .ok (.iload_n 3, 1) := by decide +kernel
theorem d2_45 : decode jdk_42_method_149_code 45 = .ok (.invokestatic 47, 3) := by decide +kernel
theorem d2_48 : decode jdk_42_method_149_code 48 = .ok (.putfield 15, 3) := by decide +kernel
theorem d2_51 : decode jdk_42_method_149_code 51 = .ok (.aload_n 0, 1) := by decide +kernel
theorem d2_52 : decode jdk_42_method_149_code 52 = .ok (.aload 5, 2) := by decide +kernel
theorem d2_54 : decode jdk_42_method_149_code 54 = .ok (.putfield 9, 3) := by decide +kernel
theorem d2_57 : decode jdk_42_method_149_code 57 = .ok (.return_, 1) := by decide +kernel
theorem d2_58 : decode jdk_42_method_149_code 58 = .ok (.aload_n 0, 1) := by decide +kernel
theorem d2_59 : decode jdk_42_method_149_code 59 = .ok (.iconst 1, 1) := by decide +kernel
theorem d2_60 : decode jdk_42_method_149_code 60 = .ok (.putfield 15, 3) := by decide +kernel
theorem d2_63 : decode jdk_42_method_149_code 63 = .ok (.aload_n 0, 1) := by decide +kernel
theorem d2_64 : decode jdk_42_method_149_code 64 = .ok (.aload_n 1, 1) := by decide +kernel
theorem d2_65 : decode jdk_42_method_149_code 65 = .ok (.iload_n 2, 1) := by decide +kernel
theorem d2_66 : decode jdk_42_method_149_code 66 = .ok (.iload_n 3, 1) := by decide +kernel
theorem d2_67 : decode jdk_42_method_149_code 67 = .ok (.invokestatic 180, 3) := by decide +kernel
theorem d2_70 : decode jdk_42_method_149_code 70 = .ok (.putfield 9, 3) := by decide +kernel
theorem d2_73 : decode jdk_42_method_149_code 73 = .ok (.return_, 1) := by decide +kernel
theorem d4_0 : decode jdk_52_method_16_code 0 = .ok (.iload_n 2, 1) := by decide +kernel
theorem d4_1 : decode jdk_52_method_16_code 1 = .ok (.newarray .byte, 2) := by decide +kernel
theorem d4_3 : decode jdk_52_method_16_code 3 = .ok (.astore_n 3, 1) := by decide +kernel
theorem d4_4 : decode jdk_52_method_16_code 4 = .ok (.aload_n 0, 1) := by decide +kernel
theorem d4_5 : decode jdk_52_method_16_code 5 = .ok (.iload_n 1, 1) := by decide +kernel
theorem d4_6 : decode jdk_52_method_16_code 6 = .ok (.aload_n 3, 1) := by decide +kernel
theorem d4_7 : decode jdk_52_method_16_code 7 = .ok (.iconst 0, 1) := by decide +kernel
theorem d4_8 : decode jdk_52_method_16_code 8 = .ok (.iload_n 2, 1) := by decide +kernel
theorem d4_9 : decode jdk_52_method_16_code 9 = .ok (.invokestatic 115, 3) := by decide +kernel
theorem d4_12 : decode jdk_52_method_16_code 12 = .ok (.istore 4, 2) := by decide +kernel
theorem d4_14 : decode jdk_52_method_16_code 14 = .ok (.iload 4, 2) := by decide +kernel
theorem d4_16 : decode jdk_52_method_16_code 16 = .ok (.iload_n 2, 1) := by decide +kernel
theorem d4_17 : decode jdk_52_method_16_code 17 = .ok (.if_icmp .eq 40, 3) := by decide +kernel
theorem d4_20 : decode jdk_52_method_16_code 20 = .ok (.aload_n 0, 1) := by decide +kernel
theorem d4_21 : decode jdk_52_method_16_code 21 = .ok (.iload_n 1, 1) := by decide +kernel
theorem d4_22 : decode jdk_52_method_16_code 22 = .ok (.iload_n 2, 1) := by decide +kernel
theorem d4_23 : decode jdk_52_method_16_code 23 = .ok (.invokestatic 119, 3) := by decide +kernel
theorem d4_26 : decode jdk_52_method_16_code 26 = .ok (.astore 5, 2) := by decide +kernel
theorem d4_28 : decode jdk_52_method_16_code 28 = .ok (.aload 5, 2) := by decide +kernel
theorem d4_30 : decode jdk_52_method_16_code 30 = .ok (.iload 4, 2) := by decide +kernel
theorem d4_32 : decode jdk_52_method_16_code 32 = .ok (.invokestatic 71, 3) := by decide +kernel
theorem d4_35 : decode jdk_52_method_16_code 35 = .ok (.sipush 255, 3) := by decide +kernel
theorem d4_38 : decode jdk_52_method_16_code 38 = .ok (.if_icmp .gt 16, 3) := by decide +kernel
theorem d4_41 : decode jdk_52_method_16_code 41 = .ok (.aload 5, 2) := by decide +kernel
theorem d4_43 : decode jdk_52_method_16_code 43 = .ok (.iconst 0, 1) := by decide +kernel
theorem d4_44 : decode jdk_52_method_16_code 44 = .ok (.aload_n 3, 1) := by decide +kernel
theorem d4_45 : decode jdk_52_method_16_code 45 = .ok (.iconst 0, 1) := by decide +kernel
theorem d4_46 : decode jdk_52_method_16_code 46 = .ok (.iload_n 2, 1) := by decide +kernel
theorem d4_47 : decode jdk_52_method_16_code 47 = .ok (.invokestatic 123, 3) := by decide +kernel
theorem d4_50 : decode jdk_52_method_16_code 50 = .ok (.iload_n 2, 1) := by decide +kernel
theorem d4_51 : decode jdk_52_method_16_code 51 = .ok (.if_icmp .eq 6, 3) := by decide +kernel
theorem d4_54 : decode jdk_52_method_16_code 54 = .ok (.aload 5, 2) := by decide +kernel
theorem d4_56 : decode jdk_52_method_16_code 56 = .ok (.areturn, 1) := by decide +kernel
theorem d4_57 : decode jdk_52_method_16_code 57 = .ok (.aload_n 3, 1) := by decide +kernel
theorem d4_58 : decode jdk_52_method_16_code 58 = .ok (.areturn, 1) := by decide +kernel
theorem d5_0 : decode jdk_52_method_21_code 0 = .ok (.iconst 0, 1) := by decide +kernel
theorem d5_1 : decode jdk_52_method_21_code 1 = .ok (.istore 5, 2) := by decide +kernel
theorem d5_3 : decode jdk_52_method_21_code 3 = .ok (.iload 5, 2) := by decide +kernel
theorem d5_5 : decode jdk_52_method_21_code 5 = .ok (.iload 4, 2) := by decide +kernel
theorem d5_7 : decode jdk_52_method_21_code 7 = .ok (.if_icmp .ge 37, 3) := by decide +kernel
theorem d5_10 : decode jdk_52_method_21_code 10 = .ok (.aload_n 0, 1) := by decide +kernel
theorem d5_11 : decode jdk_52_method_21_code 11 = .ok (.iload_n 1, 1) := by decide +kernel
theorem d5_12 : decode jdk_52_method_21_code 12 = .ok (.caload, 1) := by decide +kernel
theorem d5_13 : decode jdk_52_method_21_code 13 = .ok (.istore 6, 2) := by decide +kernel
theorem d5_15 : decode jdk_52_method_21_code 15 = .ok (.iload 6, 2) := by decide +kernel
theorem d5_17 : decode jdk_52_method_21_code 17 = .ok (.sipush 255, 3) := by decide +kernel
theorem d5_20 : decode jdk_52_method_21_code 20 = .ok (.if_icmp .le 6, 3) := by decide +kernel
theorem d5_23 : decode jdk_52_method_21_code 23 = .ok (.iload 5, 2) := by decide +kernel
theorem d5_25 : decode jdk_52_method_21_code 25 = .ok (.ireturn, 1) := by decide +kernel
theorem d5_26 : decode jdk_52_method_21_code 26 = .ok (.aload_n 2, 1) := by decide +kernel
theorem d5_27 : decode jdk_52_method_21_code 27 = .ok (.iload_n 3, 1) := by decide +kernel
theorem d5_28 : decode jdk_52_method_21_code 28 = .ok (.iload 6, 2) := by decide +kernel
theorem d5_30 : decode jdk_52_method_21_code 30 = .ok (.i2b, 1) := by decide +kernel
theorem d5_31 : decode jdk_52_method_21_code 31 = .ok (.bastore, 1) := by decide +kernel
theorem d5_32 : decode jdk_52_method_21_code 32 = .ok (.iinc 1 1, 3) := by decide +kernel
theorem d5_35 : decode jdk_52_method_21_code 35 = .ok (.iinc 3 1, 3) := by decide +kernel
theorem d5_38 : decode jdk_52_method_21_code 38 = .ok (.iinc 5 1, 3) := by decide +kernel
theorem d5_41 : decode jdk_52_method_21_code 41 = .ok (.goto (-38), 3) := by decide +kernel
theorem d5_44 : decode jdk_52_method_21_code 44 = .ok (.iload 4, 2) := by decide +kernel
theorem d5_46 : decode jdk_52_method_21_code 46 = .ok (.ireturn, 1) := by decide +kernel
theorem d6_0 : decode jdk_52_method_15_code 0 = .ok (.iload_n 1, 1) := by decide +kernel
theorem d6_1 : decode jdk_52_method_15_code 1 = .ok (.aload_n 0, 1) := by decide +kernel
theorem d6_2 : decode jdk_52_method_15_code 2 = .ok (.arraylength, 1) := by decide +kernel
theorem d6_3 : decode jdk_52_method_15_code 3 = .ok (.isub, 1) := by decide +kernel
theorem d6_4 : decode jdk_52_method_15_code 4 = .ok (.bipush 31, 2) := by decide +kernel
theorem d6_6 : decode jdk_52_method_15_code 6 = .ok (.iushr, 1) := by decide +kernel
theorem d6_7 : decode jdk_52_method_15_code 7 = .ok (.i2b, 1) := by decide +kernel
theorem d6_8 : decode jdk_52_method_15_code 8 = .ok (.ireturn, 1) := by decide +kernel
/-- chars of which none is above 255 -/
def Lat (cf : Nat → Int32) (len : Nat) : Prop := ∀ i, i < len → ¬ (255 : Int32) < cf i
set_option maxRecDepth 65536 in
set_option maxHeartbeats 40000000 in
theorem c_cm5 {l : Launch} {Z : State} {a0 : Array Value} (hw : ∀ d ∈ tables_1, d.before a0 Z = true) {n0 : Nat} {h0 : Heap} {vb db : Addr} {len : Nat} {lenI : Int32} {cf : Nat → Int32} (hlen : lenI.toInt = (len : Int)) (V : Ary Z h0 vb .char len (fun i => .int (cf i))) (B : Ary Z h0 db .byte len (fun _ => .int 0)) (hne : vb ≠ db) (hc : Lat cf len) : Con l Z n0 (⟨"java/lang/StringUTF16", "compress", "([CI[BII)I"⟩ : MethodName) jdk_52_method_21_code 7 (some .int) ({ frames := 0, cells := 0, slots := 0, locals := 0 } : Room) [.ref vb, .int 0, .ref db, .int 0, .int lenI] h0 [db] (fun v h' => v = some (.int lenI) ∧ Ary Z h' db .byte len (fun t => .int (cf t).toInt8.toInt32)) := by
  refine Con.of (Ls := [.val (.ref vb), .val (.int 0), .val (.ref db), .val (.int 0), .val (.int lenI), .unset, .unset]) (by decide +kernel) (fun m => by first | (simp [entryFrame, mkF, argsToLocals, Value.category]; done) | (rcases ref_cases hrw with rfl | ⟨b, rfl⟩ <;> rfl) | rfl) (fun p e s m below meth c => ?_)
  show Wp false p l e ({ frames := 0, cells := 0, slots := 0, locals := 0 } : Room) s m ([.ref vb, .int 0, .ref db, .int 0, .int lenI] : List Value).toArray below meth c Z "java/lang/StringUTF16" "compress" jdk_52_method_21_code 7 (some .int) n0 h0 [db] (fun v h' => v = some (.int lenI) ∧ Ary Z h' db .byte len (fun t => .int (cf t).toInt8.toInt32)) (fun _ => True) h0 0 0 0 [.val (.ref vb), .val (.int 0), .val (.ref db), .val (.int 0), .val (.int lenI), .unset, .unset] []
  have hb := V.bound
  have loop : ∀ (r i : Nat) (j : Int32) (h : Heap) (o6 : Slot), i + r = len → j.toInt = (i : Int) → oneB o6 = true → Ary Z h db .byte len (fun t => if t < i then .int (cf t).toInt8.toInt32 else .int 0) → Wp false p l e ({ frames := 0, cells := 0, slots := 0, locals := 0 } : Room) s m ([.ref vb, .int 0, .ref db, .int 0, .int lenI] : List Value).toArray below meth c Z "java/lang/StringUTF16" "compress" jdk_52_method_21_code 7 (some .int) n0 h0 [db] (fun v h' => v = some (.int lenI) ∧ Ary Z h' db .byte len (fun t => .int (cf t).toInt8.toInt32)) (fun _ => True) h 0 0 3 [.val (.ref vb), .val (.int j), .val (.ref db), .val (.int j), .val (.int lenI), .val (.int j), o6] [] := by
    intro r
    induction r with
    | zero =>
      intro i j h o6 hi hj ho A
      refine iload (q1 := 5) d5_3 rfl rfl ?_
      refine iload (q1 := 7) d5_5 rfl rfl ?_
      refine icmp_ge (q1 := 10) (q := 44) d5_7 rfl ⟨by decide, rfl⟩ (fun hc => ?_) (fun hc => ?_)
      · refine iload (q1 := 46) d5_44 rfl rfl ?_
        refine ret_i d5_46 rfl rfl ?_
        exact ⟨rfl, A.cong fun t ht => by simp [show t < i by omega]⟩
      · exact absurd hc (by rw [own_lt, hj, hlen]; omega)
    | succ r ih =>
      intro i j h o6 hi hj ho A
      refine iload (q1 := 5) d5_3 rfl rfl ?_
      refine iload (q1 := 7) d5_5 rfl rfl ?_
      refine icmp_ge (q1 := 10) (q := 44) d5_7 rfl ⟨by decide, rfl⟩ (fun hc => absurd (show j < lenI by rw [own_lt, hj, hlen]; omega) hc) (fun _ => ?_)
      refine kept fun K O => ?_
      refine aload_n (q1 := 11) d5_10 rfl rfl rfl ?_
      refine iload_n (q1 := 12) d5_11 rfl rfl ?_
      refine caload (q1 := 13) d5_12 rfl (V.keep K (ninS hne nin0)) hj (show i < len by omega) rfl ?_
      refine istore (q1 := 15) d5_13 rfl ho ?_
      simp only [List.set_cons_zero, List.set_cons_succ]
      refine iload (q1 := 17) d5_15 rfl rfl ?_
      refine sipush (q1 := 20) (v := 255) d5_17 rfl rfl ?_
      refine icmp_le (q1 := 23) (q := 26) d5_20 rfl ⟨by decide, rfl⟩ (fun _ => ?_) (fun hq => absurd hq (hc i (by omega)))
      refine aload_n (q1 := 27) d5_26 rfl rfl rfl ?_
      refine iload_n (q1 := 28) d5_27 rfl rfl ?_
      refine iload (q1 := 30) d5_28 rfl rfl ?_
      refine i2b (q1 := 31) d5_30 rfl ?_
      refine bastore (q1 := 32) d5_31 rfl (A) hj (show i < len by omega) (Or.inl (List.mem_singleton.mpr rfl)) (fun h31 W31 => ?_)
      refine iinc (q1 := 35) (v := 1) d5_32 rfl rfl rfl ?_
      simp only [List.set_cons_zero, List.set_cons_succ]
      refine iinc (q1 := 38) (v := 1) d5_35 rfl rfl rfl ?_
      simp only [List.set_cons_zero, List.set_cons_succ]
      refine iinc (q1 := 41) (v := 1) d5_38 rfl rfl rfl ?_
      simp only [List.set_cons_zero, List.set_cons_succ]
      refine goto (q := 3) d5_41 ⟨by decide, rfl⟩ ?_
      refine ih (i + 1) (j + 1) h31 _ (by omega) (own_succ hj (by omega)) rfl ((A.same W31).cong fun t ht => ?_)
      by_cases e : t = i
      · subst e; simp [own_b8]
      · by_cases e2 : t < i
        · simp [e, e2, show t < i + 1 by omega]
        · simp [e, e2, show ¬ t < i + 1 by omega]
  refine iconst (q1 := 1) (v := 0) d5_0 rfl rfl ?_
  refine istore (q1 := 3) d5_1 rfl rfl ?_
  simp only [List.set_cons_zero, List.set_cons_succ]
  exact loop len 0 0 h0 _ (by omega) rfl rfl (B.cong fun t ht => by simp)
set_option maxRecDepth 65536 in
set_option maxHeartbeats 40000000 in
theorem c_cm3 {l : Launch} {Z : State} {a0 : Array Value} (hw : ∀ d ∈ tables_1, d.before a0 Z = true) {n0 : Nat} {h0 : Heap} {vb : Addr} {len : Nat} {lenI : Int32} {cf : Nat → Int32} (hlen : lenI.toInt = (len : Int)) (hcap : len ≤ 4000) (V : Ary Z h0 vb .char len (fun i => .int (cf i))) (hc : Lat cf len) : Con l Z n0 (⟨"java/lang/StringUTF16", "compress", "([CII)[B"⟩ : MethodName) jdk_52_method_16_code 6 (some (.array .byte)) { frames := 1, cells := 1, slots := len, locals := 18 } [.ref vb, .int 0, .int lenI] h0 [] (fun v h' => v = some (.ref h0.size) ∧ Ary Z h' h0.size .byte len (fun t => .int (cf t).toInt8.toInt32)) := by
  refine Con.of (Ls := [.val (.ref vb), .val (.int 0), .val (.int lenI), .unset, .unset, .unset]) (by decide +kernel) (fun m => by first | (simp [entryFrame, mkF, argsToLocals, Value.category]; done) | (rcases ref_cases hrw with rfl | ⟨b, rfl⟩ <;> rfl) | rfl) (fun p e s m below meth c => ?_)
  show Wp false p l e ({ frames := 1, cells := 1, slots := len, locals := 18 }) s m ([.ref vb, .int 0, .int lenI] : List Value).toArray below meth c Z "java/lang/StringUTF16" "compress" jdk_52_method_16_code 6 (some (.array .byte)) n0 h0 [] (fun v h' => v = some (.ref h0.size) ∧ Ary Z h' h0.size .byte len (fun t => .int (cf t).toInt8.toInt32)) (fun _ => True) h0 0 0 0 [.val (.ref vb), .val (.int 0), .val (.int lenI), .unset, .unset, .unset] []
  refine iload_n (q1 := 1) d4_0 rfl rfl ?_
  refine newarray (q1 := 3) (len := len) (cap := len) d4_1 rfl (ww hw 20 rfl) hlen (Nat.le_refl _) (by omega) (Nat.le_refl _) (by show 0 + len ≤ len; omega) (fun S1 h1 E1 A1 => ?_)
  refine astore_n (q1 := 4) (jj := 3) d4_3 rfl rfl rfl rfl ?_
  simp only [List.set_cons_zero, List.set_cons_succ]
  refine aload_n (q1 := 5) d4_4 rfl rfl rfl ?_
  refine iload_n (q1 := 6) d4_5 rfl rfl ?_
  refine aload_n (q1 := 7) d4_6 rfl rfl rfl ?_
  refine iconst (q1 := 8) (v := 0) d4_7 rfl rfl ?_
  refine iload_n (q1 := 9) d4_8 rfl rfl ?_
  refine invokestatic (q1 := 12) d4_9 rfl (ww hw 21 rfl) (ww hw 22 rfl) (ww hw 18 rfl) (ww hw 23 rfl) (by decide) pd4 (c_cm5 hw hlen (V.ext E1) A1 (Nat.ne_of_lt V.lt) hc) rfl rfl rfl (by simp [roomOk, Value.category]) (allS (Or.inr S1) all0) (fun v h' q K => ?_)
  obtain ⟨rfl, A2⟩ := q
  refine istore (q1 := 14) d4_12 rfl rfl ?_
  simp only [List.set_cons_zero, List.set_cons_succ]
  refine iload (q1 := 16) d4_14 rfl rfl ?_
  refine iload_n (q1 := 17) d4_16 rfl rfl ?_
  refine icmp_eq (q1 := 20) (q := 57) d4_17 rfl ⟨by decide, rfl⟩ (fun _ => ?_) (fun hq => absurd rfl hq)
  refine aload_n (q1 := 58) d4_57 rfl rfl rfl ?_
  refine ret_a d4_58 rfl rfl rfl (by simp) ?_
  exact ⟨rfl, A2⟩
theorem own_cfl (z : Int32) : (((z - z).toUInt32 >>> ((31 : Int32) &&& 31).toUInt32).toInt32).toInt8.toInt32 = 0 := by
  rw [Int32.sub_self]; decide
set_option maxRecDepth 65536 in
set_option maxHeartbeats 40000000 in
theorem c_cfl {l : Launch} {Z : State} {a0 : Array Value} (hw : ∀ d ∈ tables_1, d.before a0 Z = true) {n0 : Nat} {h0 : Heap} {db : Addr} {len : Nat} {lenI : Int32} {f : Nat → Value} (hlen : lenI.toInt = (len : Int)) (A : Ary Z h0 db .byte len f) : Con l Z n0 (⟨"java/lang/StringUTF16", "coderFromArrayLen", "([BI)B"⟩ : MethodName) jdk_52_method_15_code 2 (some .byte) ({ frames := 0, cells := 0, slots := 0, locals := 0 } : Room) [.ref db, .int lenI] h0 [] (fun v h' => v = some (.int 0) ∧ h' = h0) := by
  refine Con.of (Ls := [.val (.ref db), .val (.int lenI)]) (by decide +kernel) (fun m => by first | (simp [entryFrame, mkF, argsToLocals, Value.category]; done) | (rcases ref_cases hrw with rfl | ⟨b, rfl⟩ <;> rfl) | rfl) (fun p e s m below meth c => ?_)
  show Wp false p l e ({ frames := 0, cells := 0, slots := 0, locals := 0 } : Room) s m ([.ref db, .int lenI] : List Value).toArray below meth c Z "java/lang/StringUTF16" "coderFromArrayLen" jdk_52_method_15_code 2 (some .byte) n0 h0 [] (fun v h' => v = some (.int 0) ∧ h' = h0) (fun _ => True) h0 0 0 0 [.val (.ref db), .val (.int lenI)] []
  refine iload_n (q1 := 1) d6_0 rfl rfl ?_
  refine aload_n (q1 := 2) d6_1 rfl rfl rfl ?_
  refine arraylength (q1 := 3) d6_2 rfl (A) hlen ?_
  refine isub (q1 := 4) d6_3 rfl ?_
  refine bipush (q1 := 6) (v := 31) d6_4 rfl rfl ?_
  refine iushr (q1 := 7) d6_6 rfl ?_
  refine i2b (q1 := 8) d6_7 rfl ?_
  refine ret_n (t := .byte) d6_8 rfl (by simp) rfl ?_
  refine ⟨?_, rfl⟩
  rw [own_cfl]; rfl
/-- a String as it was made of Latin-1 chars -/
def StrOf (Z : State) (h : Heap) (x : Addr) (len : Nat) (cf : Nat → Int32) (t : Addr) : Prop := Exa Z h x "java/lang/String" ∧ Fld Z h x "java/lang/String" "coder" "B" (.int 0) ∧ Fld Z h x "java/lang/String" "value" "[B" (.ref t) ∧ Ary Z h t .byte len (fun i => .int (cf i).toInt8.toInt32)
def Cmpct (Z : State) (z : Int32) : Prop := Sta Z Z.heap "java/lang/String" "COMPACT_STRINGS" "Z" (.int z) ∧ ¬ z = 0
set_option maxRecDepth 65536 in
set_option maxHeartbeats 40000000 in
theorem c_si4 {l : Launch} {Z : State} {a0 : Array Value} (hw : ∀ d ∈ tables_1, d.before a0 Z = true) {n0 : Nat} {h0 : Heap} {x vb : Addr} {len : Nat} {lenI z : Int32} {cf : Nat → Int32} {v0 c0 : Value} (hlen : lenI.toInt = (len : Int)) (hpos : 0 < len) (hcap : len ≤ 4000) (X : Exa Z h0 x "java/lang/String") (FV : Fld Z h0 x "java/lang/String" "value" "[B" v0) (FC : Fld Z h0 x "java/lang/String" "coder" "B" c0) (V : Ary Z h0 vb .char len (fun i => .int (cf i))) (hc : Lat cf len) (S : Cmpct Z z) : Con l Z n0 (⟨"java/lang/String", "<init>", "([CIILjava/lang/Void;)V"⟩ : MethodName) jdk_42_method_149_code 6 none { frames := 2, cells := 1, slots := len, locals := 35 } [.ref x, .ref vb, .int 0, .int lenI, .null] h0 [x] (fun v h' => v = none ∧ StrOf Z h' x len cf h0.size) := by
  refine Con.of (Ls := [.val (.ref x), .val (.ref vb), .val (.int 0), .val (.int lenI), .val .null, .unset]) (by decide +kernel) (fun m => by first | (simp [entryFrame, mkF, argsToLocals, Value.category]; done) | (rcases ref_cases hrw with rfl | ⟨b, rfl⟩ <;> rfl) | rfl) (fun p e s m below meth c => ?_)
  show Wp false p l e ({ frames := 2, cells := 1, slots := len, locals := 35 }) s m ([.ref x, .ref vb, .int 0, .int lenI, .null] : List Value).toArray below meth c Z "java/lang/String" "<init>" jdk_42_method_149_code 6 none n0 h0 [x] (fun v h' => v = none ∧ StrOf Z h' x len cf h0.size) (fun _ => True) h0 0 0 0 [.val (.ref x), .val (.ref vb), .val (.int 0), .val (.int lenI), .val .null, .unset] []
  refine aload_n (q1 := 1) d2_0 rfl rfl rfl ?_
  refine initObj (q1 := 4) d2_1 rfl (ww hw 12 rfl) (ww hw 13 rfl) (ww hw 14 rfl) rfl rfl ?_
  refine iload_n (q1 := 5) d2_4 rfl rfl ?_
  refine if_ne (q1 := 8) (q := 27) d2_5 rfl ⟨by decide, rfl⟩ (fun _ => ?_) (fun hq => absurd hq (by intro e; rw [e] at hlen; simp at hlen; omega))
  refine kept fun K O => ?_
  refine getstatic (q1 := 30) d2_27 rfl (ww hw 15 rfl) Via.refl (S.1.ext O.2) ?_
  refine if_eq (q1 := 33) (q := 58) d2_30 rfl ⟨by decide, rfl⟩ (fun hq => absurd hq S.2) (fun _ => ?_)
  refine aload_n (q1 := 34) d2_33 rfl rfl rfl ?_
  refine iload_n (q1 := 35) d2_34 rfl rfl ?_
  refine iload_n (q1 := 36) d2_35 rfl rfl ?_
  refine invokestatic (q1 := 39) d2_36 rfl (ww hw 16 rfl) (ww hw 17 rfl) (ww hw 18 rfl) (ww hw 19 rfl) (by decide) pd3 (c_cm3 hw hlen hcap V hc) rfl rfl rfl (by simp [roomOk, Value.category]) all0 (fun v h1 q K1 => ?_)
  obtain ⟨rfl, A1⟩ := q
  refine astore (q1 := 41) d2_39 rfl rfl rfl ?_
  simp only [List.set_cons_zero, List.set_cons_succ]
  refine aload_n (q1 := 42) d2_41 rfl rfl rfl ?_
  refine aload (q1 := 44) d2_42 rfl rfl rfl ?_
  refine iload_n (q1 := 45) d2_44 rfl rfl ?_
  refine invokestatic (q1 := 48) d2_45 rfl (ww hw 24 rfl) (ww hw 25 rfl) (ww hw 18 rfl) (ww hw 26 rfl) (by decide) pd5 (c_cfl hw hlen A1) rfl rfl rfl (by simp [roomOk, Value.category]) all0 (fun v h2 q K2 => ?_)
  obtain ⟨rfl, rfl⟩ := q
  have X1 := X.keep K1
  have FV1 := FV.keep K1 nin0
  have FC1 := FC.keep K1 nin0
  have hxt : h0.size ≠ x := Nat.ne_of_gt X.lt
  refine putfieldN (q1 := 51) d2_48 rfl (ww hw 27 rfl) Via.refl (FC1) (X1) (Or.inr ⟨(ww hw 28 rfl), rfl, rfl⟩) (ww hw 3 rfl) (ty := .byte) (by decide) rfl (fits_nar_byte _) (Or.inl (List.mem_singleton.mpr rfl)) (fun h48 W48 => ?_)
  refine aload_n (q1 := 52) d2_51 rfl rfl rfl ?_
  refine aload (q1 := 54) d2_52 rfl rfl rfl ?_
  refine putfield (q1 := 57) d2_54 rfl (ww hw 29 rfl) Via.refl (FV1.other W48 (Or.inr (slot_ne (Or.inr (ww hw 30 rfl)) (Or.inr (ww hw 28 rfl)) (by decide) (t := (.array .byte)) (t' := .byte) (by decide) (by decide)))) (X1.wr W48) (Or.inr ⟨(ww hw 30 rfl), rfl, rfl⟩) (ww hw 3 rfl) (ty := (.array .byte)) (by decide) rfl rfl (Or.inl (List.mem_singleton.mpr rfl)) (fun h54 W54 => ?_)
  refine ret_v d2_57 rfl (by simp) ?_
  refine ⟨rfl, (X1.wr W48).wr W54, ?_, ?_, ?_⟩
  · exact (FC1.same W48).other W54 (Or.inr (slot_ne (Or.inr (ww hw 28 rfl)) (Or.inr (ww hw 30 rfl)) (by decide) (t := .byte) (t' := (.array .byte)) (by decide) (by decide)))
  · exact (FV1.other W48 (Or.inr (slot_ne (Or.inr (ww hw 30 rfl)) (Or.inr (ww hw 28 rfl)) (by decide) (t := (.array .byte)) (t' := .byte) (by decide) (by decide)))).same W54
  · exact (A1.other W48 hxt).other W54 hxt
set_option maxRecDepth 65536 in
set_option maxHeartbeats 40000000 in
theorem c_si1 {l : Launch} {Z : State} {a0 : Array Value} (hw : ∀ d ∈ tables_1, d.before a0 Z = true) {n0 : Nat} {h0 : Heap} {x vb : Addr} {len : Nat} {lenI z : Int32} {cf : Nat → Int32} {v0 c0 : Value} (hlen : lenI.toInt = (len : Int)) (hpos : 0 < len) (hcap : len ≤ 4000) (X : Exa Z h0 x "java/lang/String") (FV : Fld Z h0 x "java/lang/String" "value" "[B" v0) (FC : Fld Z h0 x "java/lang/String" "coder" "B" c0) (V : Ary Z h0 vb .char len (fun i => .int (cf i))) (hc : Lat cf len) (S : Cmpct Z z) : Con l Z n0 (⟨"java/lang/String", "<init>", "([C)V"⟩ : MethodName) jdk_42_method_3_code 2 none { frames := 3, cells := 1, slots := len, locals := 52 } [.ref x, .ref vb] h0 [x] (fun v h' => v = none ∧ StrOf Z h' x len cf h0.size) := by
  refine Con.of (Ls := [.val (.ref x), .val (.ref vb)]) (by decide +kernel) (fun m => by first | (simp [entryFrame, mkF, argsToLocals, Value.category]; done) | (rcases ref_cases hrw with rfl | ⟨b, rfl⟩ <;> rfl) | rfl) (fun p e s m below meth c => ?_)
  show Wp false p l e ({ frames := 3, cells := 1, slots := len, locals := 52 }) s m ([.ref x, .ref vb] : List Value).toArray below meth c Z "java/lang/String" "<init>" jdk_42_method_3_code 2 none n0 h0 [x] (fun v h' => v = none ∧ StrOf Z h' x len cf h0.size) (fun _ => True) h0 0 0 0 [.val (.ref x), .val (.ref vb)] []
  refine aload_n (q1 := 1) d1_0 rfl rfl rfl ?_
  refine aload_n (q1 := 2) d1_1 rfl rfl rfl ?_
  refine iconst (q1 := 3) (v := 0) d1_2 rfl rfl ?_
  refine aload_n (q1 := 4) d1_3 rfl rfl rfl ?_
  refine arraylength (q1 := 5) d1_4 rfl (V) hlen ?_
  refine aconst_null (q1 := 6) d1_5 rfl ?_
  refine invokespecial (q1 := 9) d1_6 rfl rfl (ww hw 8 rfl) (ww hw 9 rfl) (ww hw 4 rfl) (ww hw 11 rfl) (by decide) pd1 (c_si4 hw hlen hpos hcap X FV FC V hc S) rfl rfl rfl (by simp [roomOk, Value.category]) (allS (Or.inl (List.mem_singleton.mpr rfl)) all0) (fun v h1 q K1 => ?_)
  obtain ⟨rfl, Q1⟩ := q
  refine ret_v d1_9 rfl (by simp) ?_
  exact ⟨rfl, Q1⟩
/-- what the case says of the constant "" -/
def LitOk (Z : State) (a0 : Array Value) : Prop := (∀ a ∈ Bundle.stringAtoms, a.before a0 Z = true) ∧ Jvm.Lit.constHeld Z "java/lang/String" 7 ∧ Jvm.Lit.compactW.before a0 Z = true
theorem own_arv0 {Z : State} {h : Heap} {b : Addr} {kk : ClassId} {d : Value} {f : Nat → Value} (A : Arv Z h b kk .byte 0 [] d) : Ary Z h b .byte 0 f := by
  obtain ⟨c, q, -, r, -⟩ := A
  exact ⟨c, q, r, by decide, fun i hi => absurd hi (Nat.not_lt_zero i)⟩
set_option maxRecDepth 65536 in
set_option maxHeartbeats 40000000 in
theorem c_si4e {l : Launch} {Z : State} {a0 : Array Value} (hw : ∀ d ∈ tables_1, d.before a0 Z = true) {n0 : Nat} {h0 : Heap} {x vb : Addr} {c0 : Value} {cf : Nat → Int32} (X : Exa Z h0 x "java/lang/String") (FV : Fld Z h0 x "java/lang/String" "value" "[B" .null) (FC : Fld Z h0 x "java/lang/String" "coder" "B" c0) (LO : LitOk Z a0) : ConW l Z n0 (⟨"java/lang/String", "<init>", "([CIILjava/lang/Void;)V"⟩ : MethodName) jdk_42_method_149_code 6 none ({ frames := 1, cells := 2, slots := 4, locals := 12 } : Room) [.ref x, .ref vb, .int 0, .int 0, .null] h0 [x] (fun vm => IB Z vm []) (fun v h' => v = none ∧ ∃ t, StrOf Z h' x 0 cf t) := by
  refine ConW.of (Ls := [.val (.ref x), .val (.ref vb), .val (.int 0), .val (.int 0), .val .null, .unset]) (by decide +kernel) (fun m => by first | (simp [entryFrame, mkF, argsToLocals, Value.category]; done) | (rcases ref_cases hrw with rfl | ⟨b, rfl⟩ <;> rfl) | rfl) (fun p e s m below meth c => ?_)
  show Wp true p l e ({ frames := 1, cells := 2, slots := 4, locals := 12 } : Room) s m ([.ref x, .ref vb, .int 0, .int 0, .null] : List Value).toArray below meth c Z "java/lang/String" "<init>" jdk_42_method_149_code 6 none n0 h0 [x] (fun v h' => v = none ∧ ∃ t, StrOf Z h' x 0 cf t) (fun vm => IB Z vm []) h0 0 0 0 [.val (.ref x), .val (.ref vb), .val (.int 0), .val (.int 0), .val .null, .unset] []
  refine aload_n (q1 := 1) d2_0 rfl rfl rfl ?_
  refine initObj (q1 := 4) d2_1 rfl (ww hw 12 rfl) (ww hw 13 rfl) (ww hw 14 rfl) rfl rfl ?_
  refine iload_n (q1 := 5) d2_4 rfl rfl ?_
  refine if_ne (q1 := 8) (q := 27) d2_5 rfl ⟨by decide, rfl⟩ (fun hq => absurd rfl hq) (fun _ => ?_)
  refine aload_n (q1 := 9) d2_8 rfl rfl rfl ?_
  refine ldcLit (q1 := 11) (nn := 0) (vs := []) (z := 0) (Ts := []) d2_9 rfl (ww hw 111 rfl) LO.1 (fun vm q => q) (by simp) LO.2.1 LO.2.2 ⟨by decide, by decide⟩ (by decide) rfl (by decide) (by decide) (by decide) (by decide) (fun a h1 b kk E1 XL FCL FVL AL la lb => ?_)
  have ne : a ≠ x := Fld.ne FVL (FV.ext E1) (by simp)
  have A1 : Ary Z h1 b .byte 0 (fun i => .int (cf i).toInt8.toInt32) := own_arv0 AL
  obtain ⟨cb, ab, -⟩ := AL
  have nb : x ≠ b := ne_arr (X.ext E1) (ww hw 3 rfl) ab
  refine getfield (q1 := 14) d2_11 rfl (ww hw 29 rfl) Via.refl (FVL) ?_
  refine putfield (q1 := 17) d2_14 rfl (ww hw 29 rfl) Via.refl (FV.ext E1) (X.ext E1) (Or.inr ⟨(ww hw 30 rfl), rfl, rfl⟩) (ww hw 3 rfl) (ty := (.array .byte)) (by decide) rfl rfl (Or.inl own_in1) (fun h2 W2 => ?_)
  refine aload_n (q1 := 18) d2_17 rfl rfl rfl ?_
  refine Jvm.OwnWp.ldcAgain (q1 := 20) d2_18 rfl (ww hw 111 rfl) (fun vm q => q.2) ?_
  refine getfield (q1 := 23) d2_20 rfl (ww hw 27 rfl) Via.refl (FCL.other W2 (Or.inl ne)) ?_
  refine putfieldN (q1 := 26) d2_23 rfl (ww hw 27 rfl) Via.refl ((FC.ext E1).other W2 (Or.inr (slot_ne (Or.inr (ww hw 28 rfl)) (Or.inr (ww hw 30 rfl)) (by decide) (t := .byte) (t' := (.array .byte)) (by decide) (by decide)))) ((X.ext E1).wr W2) (Or.inr ⟨(ww hw 28 rfl), rfl, rfl⟩) (ww hw 3 rfl) (ty := .byte) (by decide) rfl (fits_nar_byte _) (Or.inl own_in1) (fun h3 W3 => ?_)
  refine ret_v d2_26 rfl rfl ?_
  refine ⟨rfl, b, ((X.ext E1).wr W2).wr W3, ((FC.ext E1).other W2 (Or.inr (slot_ne (Or.inr (ww hw 28 rfl)) (Or.inr (ww hw 30 rfl)) (by decide) (t := .byte) (t' := (.array .byte)) (by decide) (by decide)))).same W3, ((FV.ext E1).same W2).other W3 (Or.inr (slot_ne (Or.inr (ww hw 30 rfl)) (Or.inr (ww hw 28 rfl)) (by decide) (t := (.array .byte)) (t' := .byte) (by decide) (by decide))), (A1.other W2 nb.symm).other W3 nb.symm⟩
set_option maxRecDepth 65536 in
set_option maxHeartbeats 40000000 in
theorem c_si1e {l : Launch} {Z : State} {a0 : Array Value} (hw : ∀ d ∈ tables_1, d.before a0 Z = true) {n0 : Nat} {h0 : Heap} {x vb : Addr} {c0 : Value} {cf : Nat → Int32} {f : Nat → Value} (X : Exa Z h0 x "java/lang/String") (FV : Fld Z h0 x "java/lang/String" "value" "[B" .null) (FC : Fld Z h0 x "java/lang/String" "coder" "B" c0) (V : Ary Z h0 vb .char 0 f) (LO : LitOk Z a0) : ConW l Z n0 (⟨"java/lang/String", "<init>", "([C)V"⟩ : MethodName) jdk_42_method_3_code 2 none ({ frames := 2, cells := 2, slots := 4, locals := 29 } : Room) [.ref x, .ref vb] h0 [x] (fun vm => IB Z vm []) (fun v h' => v = none ∧ ∃ t, StrOf Z h' x 0 cf t) := by
  refine ConW.of (Ls := [.val (.ref x), .val (.ref vb)]) (by decide +kernel) (fun m => by first | (simp [entryFrame, mkF, argsToLocals, Value.category]; done) | (rcases ref_cases hrw with rfl | ⟨b, rfl⟩ <;> rfl) | rfl) (fun p e s m below meth c => ?_)
  show Wp true p l e ({ frames := 2, cells := 2, slots := 4, locals := 29 } : Room) s m ([.ref x, .ref vb] : List Value).toArray below meth c Z "java/lang/String" "<init>" jdk_42_method_3_code 2 none n0 h0 [x] (fun v h' => v = none ∧ ∃ t, StrOf Z h' x 0 cf t) (fun vm => IB Z vm []) h0 0 0 0 [.val (.ref x), .val (.ref vb)] []
  refine aload_n (q1 := 1) d1_0 rfl rfl rfl ?_
  refine aload_n (q1 := 2) d1_1 rfl rfl rfl ?_
  refine iconst (q1 := 3) (v := 0) d1_2 rfl rfl ?_
  refine aload_n (q1 := 4) d1_3 rfl rfl rfl ?_
  refine arraylength (q1 := 5) (z := 0) d1_4 rfl (V) rfl ?_
  refine aconst_null (q1 := 6) d1_5 rfl ?_
  refine invokespecialW (q1 := 9) d1_6 rfl rfl (ww hw 8 rfl) (ww hw 9 rfl) (ww hw 4 rfl) (ww hw 11 rfl) (by decide) pd1 (c_si4e hw (cf := cf) X FV FC LO) rfl rfl rfl rfl (allS (Or.inl own_in1) all0) (stabIB) (fun v h1 q K1 => ?_)
  obtain ⟨rfl, Q1⟩ := q
  refine ret_v d1_9 rfl rfl ?_
  exact ⟨rfl, Q1⟩
theorem d19_0 : decode jdk_42_method_139_code 0 = .ok (.getstatic 38, 3) := by decide +kernel
theorem d19_3 : decode jdk_42_method_139_code 3 = .ok (.ifCond .eq 23, 3) := by decide +kernel
theorem d19_6 : decode jdk_42_method_139_code 6 = .ok (.iload_n 0, 1) := by decide +kernel
theorem d19_7 : decode jdk_42_method_139_code 7 = .ok (.invokestatic 1015, 3) := by decide +kernel
theorem d19_10 : decode jdk_42_method_139_code 10 = .ok (.ifCond .eq 16, 3) := by decide +kernel
theorem d19_13 : decode jdk_42_method_139_code 13 = .ok (.new 10, 3) := by decide +kernel
theorem d19_16 : decode jdk_42_method_139_code 16 = .ok (.dup, 1) := by decide +kernel
theorem d19_17 : decode jdk_42_method_139_code 17 = .ok (.iload_n 0, 1) := by decide +kernel
theorem d19_18 : decode jdk_42_method_139_code 18 = .ok (.invokestatic 1018, 3) := by decide +kernel
theorem d19_21 : decode jdk_42_method_139_code 21 = .ok (.iconst 0, 1) := by decide +kernel
theorem d19_22 : decode jdk_42_method_139_code 22 = .ok (.invokespecial 209, 3) := by decide +kernel
theorem d19_25 : decode jdk_42_method_139_code 25 = .ok (.areturn, 1) := by decide +kernel
theorem d19_26 : decode jdk_42_method_139_code 26 = .ok (.new 10, 3) := by decide +kernel
theorem d19_29 : decode jdk_42_method_139_code 29 = .ok (.dup, 1) := by decide +kernel
theorem d19_30 : decode jdk_42_method_139_code 30 = .ok (.iload_n 0, 1) := by decide +kernel
theorem d19_31 : decode jdk_42_method_139_code 31 = .ok (.invokestatic 1021, 3) := by decide +kernel
theorem d19_34 : decode jdk_42_method_139_code 34 = .ok (.iconst 1, 1) := by decide +kernel
theorem d19_35 : decode jdk_42_method_139_code 35 = .ok (.invokespecial 209, 3) := by decide +kernel
theorem d19_38 : decode jdk_42_method_139_code 38 = .ok (.areturn, 1) := by decide +kernel
theorem d20_0 : decode jdk_43_method_3_code 0 = .ok (.iload_n 0, 1) := by decide +kernel
theorem d20_1 : decode jdk_43_method_3_code 1 = .ok (.sipush 255, 3) := by decide +kernel
theorem d20_4 : decode jdk_43_method_3_code 4 = .ok (.if_icmp .gt 7, 3) := by decide +kernel
theorem d20_7 : decode jdk_43_method_3_code 7 = .ok (.iconst 1, 1) := by decide +kernel
theorem d20_8 : decode jdk_43_method_3_code 8 = .ok (.goto 4, 3) := by decide +kernel
theorem d20_11 : decode jdk_43_method_3_code 11 = .ok (.iconst 0, 1) := by decide +kernel
theorem d20_12 : decode jdk_43_method_3_code 12 = .ok (.ireturn, 1) := by decide +kernel
theorem d21_0 : decode jdk_43_method_46_code 0 = .ok (.iconst 1, 1) := by decide +kernel
theorem d21_1 : decode jdk_43_method_46_code 1 = .ok (.newarray .byte, 2) := by decide +kernel
theorem d21_3 : decode jdk_43_method_46_code 3 = .ok (.dup, 1) := by decide +kernel
theorem d21_4 : decode jdk_43_method_46_code 4 = .ok (.iconst 0, 1) := by decide +kernel
theorem d21_5 : decode jdk_43_method_46_code 5 = .ok (.iload_n 0, 1) := by decide +kernel
theorem d21_6 : decode jdk_43_method_46_code 6 = .ok (.i2b, 1) := by decide +kernel
theorem d21_7 : decode jdk_43_method_46_code 7 = .ok (.bastore, 1) := by decide +kernel
theorem d21_8 : decode jdk_43_method_46_code 8 = .ok (.areturn, 1) := by decide +kernel
theorem d22_0 : decode jdk_42_method_151_code 0 = .ok (.aload_n 0, 1) := by decide +kernel
theorem d22_1 : decode jdk_42_method_151_code 1 = .ok (.invokespecial 1, 3) := by decide +kernel
theorem d22_4 : decode jdk_42_method_151_code 4 = .ok (.aload_n 0, 1) := by decide +kernel
theorem d22_5 : decode jdk_42_method_151_code 5 = .ok (.aload_n 1, 1) := by decide +kernel
theorem d22_6 : decode jdk_42_method_151_code 6 = .ok (.putfield 9, 3) := by decide +kernel
theorem d22_9 : decode jdk_42_method_151_code 9 = .ok (.aload_n 0, 1) := by decide +kernel
theorem d22_10 : decode jdk_42_method_151_code 10 = .ok (.iload_n 2, 1) := by decide +kernel
theorem d22_11 : decode jdk_42_method_151_code 11 = .ok (.putfield 15, 3) := by decide +kernel
theorem d22_14 : decode jdk_42_method_151_code 14 = .ok (.return_, 1) := by decide +kernel
set_option maxRecDepth 65536 in
set_option maxHeartbeats 40000000 in
theorem c_cen {l : Launch} {Z : State} {a0 : Array Value} (hw : ∀ d ∈ tables_1, d.before a0 Z = true) {n0 : Nat} {h0 : Heap} {x : Int32} (hx : ¬ (255 : Int32) < x) : Con l Z n0 (⟨"java/lang/StringLatin1", "canEncode", "(C)Z"⟩ : MethodName) jdk_43_method_3_code 1 (some .boolean) ({ frames := 0, cells := 0, slots := 0, locals := 0 } : Room) [.int x] h0 [] (fun v h' => v = some (.int 1) ∧ h' = h0) := by
  refine Con.of (Ls := [.val (.int x)]) (by decide +kernel) (fun m => by first | (simp [entryFrame, mkF, argsToLocals, Value.category]; done) | (rcases ref_cases hrw with rfl | ⟨b, rfl⟩ <;> rfl) | rfl) (fun p e s m below meth c => ?_)
  show Wp false p l e ({ frames := 0, cells := 0, slots := 0, locals := 0 } : Room) s m ([.int x] : List Value).toArray below meth c Z "java/lang/StringLatin1" "canEncode" jdk_43_method_3_code 1 (some .boolean) n0 h0 [] (fun v h' => v = some (.int 1) ∧ h' = h0) (fun _ => True) h0 0 0 0 [.val (.int x)] []
  refine iload_n (q1 := 1) d20_0 rfl rfl ?_
  refine sipush (q1 := 4) (v := 255) d20_1 rfl rfl ?_
  refine icmp_gt (q1 := 7) (q := 11) d20_4 rfl ⟨by decide, rfl⟩ (fun hq => absurd hq hx) (fun _ => ?_)
  refine iconst (q1 := 8) (v := 1) d20_7 rfl rfl ?_
  refine goto (q := 12) d20_8 ⟨by decide, rfl⟩ ?_
  refine ret_n (t := .boolean) d20_12 rfl (by simp) rfl ⟨rfl, rfl⟩
set_option maxRecDepth 65536 in
set_option maxHeartbeats 40000000 in
theorem c_tby {l : Launch} {Z : State} {a0 : Array Value} (hw : ∀ d ∈ tables_1, d.before a0 Z = true) {n0 : Nat} {h0 : Heap} {x : Int32} : Con l Z n0 (⟨"java/lang/StringLatin1", "toBytes", "(C)[B"⟩ : MethodName) jdk_43_method_46_code 1 (some (.array .byte)) ({ frames := 0, cells := 1, slots := 1, locals := 0 } : Room) [.int x] h0 [] (fun v h' => v = some (.ref h0.size) ∧ Ary Z h' h0.size .byte 1 (fun _ => .int x.toInt8.toInt32)) := by
  refine Con.of (Ls := [.val (.int x)]) (by decide +kernel) (fun m => by first | (simp [entryFrame, mkF, argsToLocals, Value.category]; done) | (rcases ref_cases hrw with rfl | ⟨b, rfl⟩ <;> rfl) | rfl) (fun p e s m below meth c => ?_)
  show Wp false p l e ({ frames := 0, cells := 1, slots := 1, locals := 0 } : Room) s m ([.int x] : List Value).toArray below meth c Z "java/lang/StringLatin1" "toBytes" jdk_43_method_46_code 1 (some (.array .byte)) n0 h0 [] (fun v h' => v = some (.ref h0.size) ∧ Ary Z h' h0.size .byte 1 (fun _ => .int x.toInt8.toInt32)) (fun _ => True) h0 0 0 0 [.val (.int x)] []
  refine iconst (q1 := 1) (v := 1) d21_0 rfl rfl ?_
  refine newarray (q1 := 3) (len := 1) (cap := 1) d21_1 rfl (ww hw 20 rfl) rfl (by decide) (by decide) (by decide) (by decide) (fun S1 h1 E1 A1 => ?_)
  refine Jvm.OwnWp.dup (q1 := 4) d21_3 rfl rfl ?_
  refine iconst (q1 := 5) (v := 0) d21_4 rfl rfl ?_
  refine iload_n (q1 := 6) d21_5 rfl rfl ?_
  refine i2b (q1 := 7) d21_6 rfl ?_
  refine bastore (q1 := 8) (i := 0) d21_7 rfl (A1) rfl (by decide) (Or.inr S1) (fun h7 W7 => ?_)
  refine ret_a d21_8 rfl rfl rfl rfl ?_
  exact ⟨rfl, (A1.same W7).cong fun t ht => by have e : t = 0 := (by omega); subst e; rw [if_pos rfl, own_b8]⟩
set_option maxRecDepth 65536 in
set_option maxHeartbeats 40000000 in
theorem c_sib {l : Launch} {Z : State} {a0 : Array Value} (hw : ∀ d ∈ tables_1, d.before a0 Z = true) {n0 : Nat} {h0 : Heap} {x t : Addr} {v0 c0 : Value} {len : Nat} {f : Nat → Value} (X : Exa Z h0 x "java/lang/String") (FV : Fld Z h0 x "java/lang/String" "value" "[B" v0) (FC : Fld Z h0 x "java/lang/String" "coder" "B" c0) (A : Ary Z h0 t .byte len f) (hxt : t ≠ x) : Con l Z n0 (⟨"java/lang/String", "<init>", "([BB)V"⟩ : MethodName) jdk_42_method_151_code 3 none ({ frames := 1, cells := 0, slots := 0, locals := 12 } : Room) [.ref x, .ref t, .int 0] h0 [x] (fun v h' => v = none ∧ Exa Z h' x "java/lang/String" ∧ Fld Z h' x "java/lang/String" "coder" "B" (.int 0) ∧ Fld Z h' x "java/lang/String" "value" "[B" (.ref t) ∧ Ary Z h' t .byte len f) := by
  refine Con.of (Ls := [.val (.ref x), .val (.ref t), .val (.int 0)]) (by decide +kernel) (fun m => by first | (simp [entryFrame, mkF, argsToLocals, Value.category]; done) | (rcases ref_cases hrw with rfl | ⟨b, rfl⟩ <;> rfl) | rfl) (fun p e s m below meth c => ?_)
  show Wp false p l e ({ frames := 1, cells := 0, slots := 0, locals := 12 } : Room) s m ([.ref x, .ref t, .int 0] : List Value).toArray below meth c Z "java/lang/String" "<init>" jdk_42_method_151_code 3 none n0 h0 [x] (fun v h' => v = none ∧ Exa Z h' x "java/lang/String" ∧ Fld Z h' x "java/lang/String" "coder" "B" (.int 0) ∧ Fld Z h' x "java/lang/String" "value" "[B" (.ref t) ∧ Ary Z h' t .byte len f) (fun _ => True) h0 0 0 0 [.val (.ref x), .val (.ref t), .val (.int 0)] []
  refine aload_n (q1 := 1) d22_0 rfl rfl rfl ?_
  refine initObj (q1 := 4) d22_1 rfl (ww hw 12 rfl) (ww hw 13 rfl) (ww hw 14 rfl) rfl rfl ?_
  refine aload_n (q1 := 5) d22_4 rfl rfl rfl ?_
  refine aload_n (q1 := 6) d22_5 rfl rfl rfl ?_
  refine putfield (q1 := 9) d22_6 rfl (ww hw 29 rfl) Via.refl (FV) (X) (Or.inr ⟨(ww hw 30 rfl), rfl, rfl⟩) (ww hw 3 rfl) (ty := (.array .byte)) (by decide) rfl rfl (Or.inl own_in1) (fun h6 W6 => ?_)
  refine aload_n (q1 := 10) d22_9 rfl rfl rfl ?_
  refine iload_n (q1 := 11) d22_10 rfl rfl ?_
  refine putfieldN (q1 := 14) d22_11 rfl (ww hw 27 rfl) Via.refl (FC.other W6 (Or.inr (slot_ne (Or.inr (ww hw 28 rfl)) (Or.inr (ww hw 30 rfl)) (by decide) (t := .byte) (t' := (.array .byte)) (by decide) (by decide)))) (X.wr W6) (Or.inr ⟨(ww hw 28 rfl), rfl, rfl⟩) (ww hw 3 rfl) (ty := .byte) (by decide) rfl (fits_nar_byte _) (Or.inl own_in1) (fun h11 W11 => ?_)
  refine ret_v d22_14 rfl rfl ?_
  exact ⟨rfl, (X.wr W6).wr W11, (FC.other W6 (Or.inr (slot_ne (Or.inr (ww hw 28 rfl)) (Or.inr (ww hw 30 rfl)) (by decide) (t := .byte) (t' := (.array .byte)) (by decide) (by decide)))).same W11, (FV.same W6).other W11 (Or.inr (slot_ne (Or.inr (ww hw 30 rfl)) (Or.inr (ww hw 28 rfl)) (by decide) (t := (.array .byte)) (t' := .byte) (by decide) (by decide))), (A.other W6 hxt).other W11 hxt⟩
set_option maxRecDepth 65536 in
set_option maxHeartbeats 40000000 in
theorem c_vof {l : Launch} {Z : State} {a0 : Array Value} (hw : ∀ d ∈ tables_1, d.before a0 Z = true) {n0 : Nat} {h0 : Heap} {x z : Int32} (hx : ¬ (255 : Int32) < x) (S : Cmpct Z z) : Con l Z n0 (⟨"java/lang/String", "valueOf", "(C)Ljava/lang/String;"⟩ : MethodName) jdk_42_method_139_code 1 (some (.object "java/lang/String")) ({ frames := 2, cells := 2, slots := 5, locals := 30 } : Room) [.int x] h0 [] (fun v h' => v = some (.ref h0.size) ∧ ∃ t, StrOf Z h' h0.size 1 (fun _ => x) t) := by
  refine Con.of (Ls := [.val (.int x)]) (by decide +kernel) (fun m => by first | (simp [entryFrame, mkF, argsToLocals, Value.category]; done) | (rcases ref_cases hrw with rfl | ⟨b, rfl⟩ <;> rfl) | rfl) (fun p e s m below meth c => ?_)
  show Wp false p l e ({ frames := 2, cells := 2, slots := 5, locals := 30 } : Room) s m ([.int x] : List Value).toArray below meth c Z "java/lang/String" "valueOf" jdk_42_method_139_code 1 (some (.object "java/lang/String")) n0 h0 [] (fun v h' => v = some (.ref h0.size) ∧ ∃ t, StrOf Z h' h0.size 1 (fun _ => x) t) (fun _ => True) h0 0 0 0 [.val (.int x)] []
  refine kept fun K O => ?_
  refine getstatic (q1 := 3) d19_0 rfl (ww hw 15 rfl) Via.refl (S.1.ext O.2) ?_
  refine if_eq (q1 := 6) (q := 26) d19_3 rfl ⟨by decide, rfl⟩ (fun hq => absurd hq S.2) (fun _ => ?_)
  refine iload_n (q1 := 7) d19_6 rfl rfl ?_
  refine invokestatic (q1 := 10) d19_7 rfl (ww hw 117 rfl) (ww hw 118 rfl) (ww hw 72 rfl) (ww hw 119 rfl) (by decide) pd18 (c_cen hw hx) rfl rfl rfl rfl all0 (fun v h7 q K7 => ?_)
  obtain ⟨rfl, rfl⟩ := q
  refine if_eq (q1 := 13) (q := 26) d19_10 rfl ⟨by decide, rfl⟩ (fun hq => absurd hq (by decide)) (fun _ => ?_)
  refine new (q1 := 16) d19_13 rfl (ww hw 120 rfl) (ww hw 3 rfl) (ww hw 4 rfl) (by decide) (by decide) (fun S13 h13 E13 X13 D13 U13 => ?_)
  refine Jvm.OwnWp.dup (q1 := 17) d19_16 rfl rfl ?_
  refine iload_n (q1 := 18) d19_17 rfl rfl ?_
  refine invokestatic (q1 := 21) d19_18 rfl (ww hw 121 rfl) (ww hw 122 rfl) (ww hw 72 rfl) (ww hw 123 rfl) (by decide) pd19 (c_tby hw) rfl rfl rfl rfl all0 (fun v h18 q K18 => ?_)
  obtain ⟨rfl, A18⟩ := q
  refine iconst (q1 := 22) (v := 0) d19_21 rfl rfl ?_
  refine invokespecial (q1 := 25) d19_22 rfl rfl (ww hw 124 rfl) (ww hw 125 rfl) (ww hw 4 rfl) (ww hw 126 rfl) (by decide) pd20 (c_sib hw (X13.keep K18) ((D13 (Or.inr (ww hw 30 rfl)) (ty := .array .byte) (by decide)).keep K18 nin0) ((D13 (Or.inr (ww hw 28 rfl)) (ty := .byte) (by decide)).keep K18 nin0) A18 (Nat.ne_of_gt X13.lt)) rfl rfl rfl rfl (allS (Or.inr (Nat.le_refl _)) all0) (fun v h22 q K22 => ?_)
  obtain ⟨rfl, q1, q2, q3, q4⟩ := q
  refine ret_a d19_25 rfl rfl rfl rfl ⟨rfl, _, q1, q2, q3, q4⟩
theorem d9_0 : decode jdk_42_method_54_code 0 = .ok (.aload_n 0, 1) := by decide +kernel
theorem d9_1 : decode jdk_42_method_54_code 1 = .ok (.getfield 9, 3) := by decide +kernel
theorem d9_4 : decode jdk_42_method_54_code 4 = .ok (.arraylength, 1) := by decide +kernel
theorem d9_5 : decode jdk_42_method_54_code 5 = .ok (.aload_n 0, 1) := by decide +kernel
theorem d9_6 : decode jdk_42_method_54_code 6 = .ok (.invokevirtual 335, 3) := by decide +kernel
theorem d9_9 : decode jdk_42_method_54_code 9 = .ok (.ishr, 1) := by decide +kernel
theorem d9_10 : decode jdk_42_method_54_code 10 = .ok (.ireturn, 1) := by decide +kernel
theorem d10_0 : decode jdk_42_method_152_code 0 = .ok (.getstatic 38, 3) := by decide +kernel
theorem d10_3 : decode jdk_42_method_152_code 3 = .ok (.ifCond .eq 10, 3) := by decide +kernel
theorem d10_6 : decode jdk_42_method_152_code 6 = .ok (.aload_n 0, 1) := by decide +kernel
theorem d10_7 : decode jdk_42_method_152_code 7 = .ok (.getfield 15, 3) := by decide +kernel
theorem d10_10 : decode jdk_42_method_152_code 10 = .ok (.goto 4, 3) := by decide +kernel
theorem d10_13 : decode jdk_42_method_152_code 13 = .ok (.iconst 1, 1) := by decide +kernel
theorem d10_14 : decode jdk_42_method_152_code 14 = .ok (.ireturn, 1) := by decide +kernel
theorem d11_0 : decode jdk_42_method_56_code 0 = .ok (.aload_n 0, 1) := by decide +kernel
theorem d11_1 : decode jdk_42_method_56_code 1 = .ok (.invokevirtual 492, 3) := by decide +kernel
theorem d11_4 : decode jdk_42_method_56_code 4 = .ok (.ifCond .eq 12, 3) := by decide +kernel
theorem d11_7 : decode jdk_42_method_56_code 7 = .ok (.aload_n 0, 1) := by decide +kernel
theorem d11_8 : decode jdk_42_method_56_code 8 = .ok (.getfield 9, 3) := by decide +kernel
theorem d11_11 : decode jdk_42_method_56_code 11 = .ok (.iload_n 1, 1) := by decide +kernel
theorem d11_12 : decode jdk_42_method_56_code 12 = .ok (.invokestatic 495, 3) := by decide +kernel
theorem d11_15 : decode jdk_42_method_56_code 15 = .ok (.ireturn, 1) := by decide +kernel
theorem d11_16 : decode jdk_42_method_56_code 16 = .ok (.aload_n 0, 1) := by decide +kernel
theorem d11_17 : decode jdk_42_method_56_code 17 = .ok (.getfield 9, 3) := by decide +kernel
theorem d11_20 : decode jdk_42_method_56_code 20 = .ok (.iload_n 1, 1) := by decide +kernel
theorem d11_21 : decode jdk_42_method_56_code 21 = .ok (.invokestatic 498, 3) := by decide +kernel
theorem d11_24 : decode jdk_42_method_56_code 24 = .ok (.ireturn, 1) := by decide +kernel
theorem d12_0 : decode jdk_42_method_154_code 0 = .ok (.getstatic 38, 3) := by decide +kernel
theorem d12_3 : decode jdk_42_method_154_code 3 = .ok (.ifCond .eq 14, 3) := by decide +kernel
theorem d12_6 : decode jdk_42_method_154_code 6 = .ok (.aload_n 0, 1) := by decide +kernel
theorem d12_7 : decode jdk_42_method_154_code 7 = .ok (.getfield 15, 3) := by decide +kernel
theorem d12_10 : decode jdk_42_method_154_code 10 = .ok (.ifCond .ne 7, 3) := by decide +kernel
theorem d12_13 : decode jdk_42_method_154_code 13 = .ok (.iconst 1, 1) := by decide +kernel
theorem d12_14 : decode jdk_42_method_154_code 14 = .ok (.goto 4, 3) := by decide +kernel
theorem d12_17 : decode jdk_42_method_154_code 17 = .ok (.iconst 0, 1) := by decide +kernel
theorem d12_18 : decode jdk_42_method_154_code 18 = .ok (.ireturn, 1) := by decide +kernel
theorem d13_0 : decode jdk_43_method_2_code 0 = .ok (.iload_n 1, 1) := by decide +kernel
theorem d13_1 : decode jdk_43_method_2_code 1 = .ok (.aload_n 0, 1) := by decide +kernel
theorem d13_2 : decode jdk_43_method_2_code 2 = .ok (.arraylength, 1) := by decide +kernel
theorem d13_3 : decode jdk_43_method_2_code 3 = .ok (.invokestatic 9, 3) := by decide +kernel
theorem d13_6 : decode jdk_43_method_2_code 6 = .ok (.aload_n 0, 1) := by decide +kernel
theorem d13_7 : decode jdk_43_method_2_code 7 = .ok (.iload_n 1, 1) := by decide +kernel
theorem d13_8 : decode jdk_43_method_2_code 8 = .ok (.baload, 1) := by decide +kernel
theorem d13_9 : decode jdk_43_method_2_code 9 = .ok (.sipush 255, 3) := by decide +kernel
theorem d13_12 : decode jdk_43_method_2_code 12 = .ok (.iand, 1) := by decide +kernel
theorem d13_13 : decode jdk_43_method_2_code 13 = .ok (.i2c, 1) := by decide +kernel
theorem d13_14 : decode jdk_43_method_2_code 14 = .ok (.ireturn, 1) := by decide +kernel
theorem d14_0 : decode jdk_42_method_155_code 0 = .ok (.iload_n 0, 1) := by decide +kernel
theorem d14_1 : decode jdk_42_method_155_code 1 = .ok (.iload_n 1, 1) := by decide +kernel
theorem d14_2 : decode jdk_42_method_155_code 2 = .ok (.getstatic 1053, 3) := by decide +kernel
theorem d14_5 : decode jdk_42_method_155_code 5 = .ok (.invokestatic 1059, 3) := by decide +kernel
theorem d14_8 : decode jdk_42_method_155_code 8 = .ok (.pop, 1) := by decide +kernel
theorem d14_9 : decode jdk_42_method_155_code 9 = .ok (.return_, 1) := by decide +kernel
theorem d15_0 : decode jdk_41_method_11_code 0 = .ok (.iload_n 0, 1) := by decide +kernel
theorem d15_1 : decode jdk_41_method_11_code 1 = .ok (.ifCond .lt 8, 3) := by decide +kernel
theorem d15_4 : decode jdk_41_method_11_code 4 = .ok (.iload_n 0, 1) := by decide +kernel
theorem d15_5 : decode jdk_41_method_11_code 5 = .ok (.iload_n 1, 1) := by decide +kernel
theorem d15_6 : decode jdk_41_method_11_code 6 = .ok (.if_icmp .lt 10, 3) := by decide +kernel
theorem d15_9 : decode jdk_41_method_11_code 9 = .ok (.aload_n 2, 1) := by decide +kernel
theorem d15_10 : decode jdk_41_method_11_code 10 = .ok (.iload_n 0, 1) := by decide +kernel
theorem d15_11 : decode jdk_41_method_11_code 11 = .ok (.iload_n 1, 1) := by decide +kernel
theorem d15_12 : decode jdk_41_method_11_code 12 = .ok (.invokestatic 95, 3) := by decide +kernel
theorem d15_15 : decode jdk_41_method_11_code 15 = .ok (.athrow, 1) := by decide +kernel
theorem d15_16 : decode jdk_41_method_11_code 16 = .ok (.iload_n 0, 1) := by decide +kernel
theorem d15_17 : decode jdk_41_method_11_code 17 = .ok (.ireturn, 1) := by decide +kernel
set_option maxRecDepth 65536 in
set_option maxHeartbeats 40000000 in
theorem c_cod {l : Launch} {Z : State} {a0 : Array Value} (hw : ∀ d ∈ tables_1, d.before a0 Z = true) {n0 : Nat} {h0 : Heap} {x t : Addr} {len : Nat} {cf : Nat → Int32} {z : Int32} (B : StrOf Z h0 x len cf t) (S : Cmpct Z z) : Con l Z n0 (⟨"java/lang/String", "coder", "()B"⟩ : MethodName) jdk_42_method_152_code 1 (some .byte) ({ frames := 0, cells := 0, slots := 0, locals := 0 } : Room) [.ref x] h0 [] (fun v h' => v = some (.int 0) ∧ h' = h0) := by
  refine Con.of (Ls := [.val (.ref x)]) (by decide +kernel) (fun m => by first | (simp [entryFrame, mkF, argsToLocals, Value.category]; done) | (rcases ref_cases hrw with rfl | ⟨b, rfl⟩ <;> rfl) | rfl) (fun p e s m below meth c => ?_)
  show Wp false p l e ({ frames := 0, cells := 0, slots := 0, locals := 0 } : Room) s m ([.ref x] : List Value).toArray below meth c Z "java/lang/String" "coder" jdk_42_method_152_code 1 (some .byte) n0 h0 [] (fun v h' => v = some (.int 0) ∧ h' = h0) (fun _ => True) h0 0 0 0 [.val (.ref x)] []
  refine kept fun K O => ?_
  refine getstatic (q1 := 3) d10_0 rfl (ww hw 15 rfl) Via.refl (S.1.ext O.2) ?_
  refine if_eq (q1 := 6) (q := 13) d10_3 rfl ⟨by decide, rfl⟩ (fun hq => absurd hq S.2) (fun _ => ?_)
  refine aload_n (q1 := 7) d10_6 rfl rfl rfl ?_
  refine getfield (q1 := 10) d10_7 rfl (ww hw 27 rfl) Via.refl (B.2.1) ?_
  refine goto (q := 14) d10_10 ⟨by decide, rfl⟩ ?_
  refine ret_n (t := .byte) d10_14 rfl (by simp) rfl ⟨rfl, rfl⟩
theorem own_shr0 (c : Int32) : c >>> ((0 : Int32) &&& 31) = c := by
  have e := c_ishr c 0 0 (by decide)
  apply own_eq; rw [e]; simp
set_option maxRecDepth 65536 in
set_option maxHeartbeats 40000000 in
theorem c_len {l : Launch} {Z : State} {a0 : Array Value} (hw : ∀ d ∈ tables_1, d.before a0 Z = true) {n0 : Nat} {h0 : Heap} {x t : Addr} {len : Nat} {cf : Nat → Int32} {z lenI : Int32} (B : StrOf Z h0 x len cf t) (S : Cmpct Z z) (hlen : lenI.toInt = (len : Int)) : Con l Z n0 (⟨"java/lang/String", "length", "()I"⟩ : MethodName) jdk_42_method_54_code 1 (some .int) ({ frames := 1, cells := 0, slots := 0, locals := 13 } : Room) [.ref x] h0 [] (fun v h' => v = some (.int lenI) ∧ h' = h0) := by
  refine Con.of (Ls := [.val (.ref x)]) (by decide +kernel) (fun m => by first | (simp [entryFrame, mkF, argsToLocals, Value.category]; done) | (rcases ref_cases hrw with rfl | ⟨b, rfl⟩ <;> rfl) | rfl) (fun p e s m below meth c => ?_)
  show Wp false p l e ({ frames := 1, cells := 0, slots := 0, locals := 13 } : Room) s m ([.ref x] : List Value).toArray below meth c Z "java/lang/String" "length" jdk_42_method_54_code 1 (some .int) n0 h0 [] (fun v h' => v = some (.int lenI) ∧ h' = h0) (fun _ => True) h0 0 0 0 [.val (.ref x)] []
  refine aload_n (q1 := 1) d9_0 rfl rfl rfl ?_
  refine getfield (q1 := 4) d9_1 rfl (ww hw 29 rfl) Via.refl (B.2.2.1) ?_
  refine arraylength (q1 := 5) d9_4 rfl (B.2.2.2) hlen ?_
  refine aload_n (q1 := 6) d9_5 rfl rfl rfl ?_
  refine invokevirt (q1 := 9) d9_6 rfl (ww hw 52 rfl) (ww hw 53 rfl) (ww hw 55 rfl) (ww hw 54 rfl) (ww hw 4 rfl) (ww hw 56 rfl) (by decide) pd8 (B.1) (c_cod hw B S) rfl rfl rfl rfl all0 (fun v h1 q _ => ?_)
  obtain ⟨rfl, rfl⟩ := q
  refine ishr (q1 := 10) d9_9 rfl ?_
  refine ret_i d9_10 rfl rfl ?_
  rw [own_shr0]; exact ⟨rfl, rfl⟩
set_option maxRecDepth 65536 in
set_option maxHeartbeats 40000000 in
theorem c_isl {l : Launch} {Z : State} {a0 : Array Value} (hw : ∀ d ∈ tables_1, d.before a0 Z = true) {n0 : Nat} {h0 : Heap} {x t : Addr} {len : Nat} {cf : Nat → Int32} {z : Int32} (B : StrOf Z h0 x len cf t) (S : Cmpct Z z) : Con l Z n0 (⟨"java/lang/String", "isLatin1", "()Z"⟩ : MethodName) jdk_42_method_154_code 1 (some .boolean) ({ frames := 0, cells := 0, slots := 0, locals := 0 } : Room) [.ref x] h0 [] (fun v h' => v = some (.int 1) ∧ h' = h0) := by
  refine Con.of (Ls := [.val (.ref x)]) (by decide +kernel) (fun m => by first | (simp [entryFrame, mkF, argsToLocals, Value.category]; done) | (rcases ref_cases hrw with rfl | ⟨b, rfl⟩ <;> rfl) | rfl) (fun p e s m below meth c => ?_)
  show Wp false p l e ({ frames := 0, cells := 0, slots := 0, locals := 0 } : Room) s m ([.ref x] : List Value).toArray below meth c Z "java/lang/String" "isLatin1" jdk_42_method_154_code 1 (some .boolean) n0 h0 [] (fun v h' => v = some (.int 1) ∧ h' = h0) (fun _ => True) h0 0 0 0 [.val (.ref x)] []
  refine kept fun K O => ?_
  refine getstatic (q1 := 3) d12_0 rfl (ww hw 15 rfl) Via.refl (S.1.ext O.2) ?_
  refine if_eq (q1 := 6) (q := 17) d12_3 rfl ⟨by decide, rfl⟩ (fun hq => absurd hq S.2) (fun _ => ?_)
  refine aload_n (q1 := 7) d12_6 rfl rfl rfl ?_
  refine getfield (q1 := 10) d12_7 rfl (ww hw 27 rfl) Via.refl (B.2.1) ?_
  refine if_ne (q1 := 13) (q := 17) d12_10 rfl ⟨by decide, rfl⟩ (fun hq => absurd rfl hq) (fun _ => ?_)
  refine iconst (q1 := 14) (v := 1) d12_13 rfl rfl ?_
  refine goto (q := 18) d12_14 ⟨by decide, rfl⟩ ?_
  refine ret_n (t := .boolean) d12_18 rfl (by simp) rfl ⟨rfl, rfl⟩
def Siob (Z : State) (w : Value) : Prop := Sta Z Z.heap "jdk/internal/util/Preconditions" "SIOOBE_FORMATTER" "Ljava/util/function/BiFunction;" w ∧ w.isRef = true
set_option maxRecDepth 65536 in
set_option maxHeartbeats 40000000 in
theorem c_pcki {l : Launch} {Z : State} {a0 : Array Value} (hw : ∀ d ∈ tables_1, d.before a0 Z = true) {n0 : Nat} {h0 : Heap} {j lenI : Int32} {w : Value} (hrw : w.isRef = true) (h1 : ¬ j < 0) (h2 : j < lenI) : Con l Z n0 (⟨"jdk/internal/util/Preconditions", "checkIndex", "(IILjava/util/function/BiFunction;)I"⟩ : MethodName) jdk_41_method_11_code 3 (some .int) ({ frames := 0, cells := 0, slots := 0, locals := 0 } : Room) [.int j, .int lenI, w] h0 [] (fun v h' => v = some (.int j) ∧ h' = h0) := by
  refine Con.of (Ls := [.val (.int j), .val (.int lenI), .val w]) (by decide +kernel) (fun m => by first | (simp [entryFrame, mkF, argsToLocals, Value.category]; done) | (rcases ref_cases hrw with rfl | ⟨b, rfl⟩ <;> rfl) | rfl) (fun p e s m below meth c => ?_)
  show Wp false p l e ({ frames := 0, cells := 0, slots := 0, locals := 0 } : Room) s m ([.int j, .int lenI, w] : List Value).toArray below meth c Z "jdk/internal/util/Preconditions" "checkIndex" jdk_41_method_11_code 3 (some .int) n0 h0 [] (fun v h' => v = some (.int j) ∧ h' = h0) (fun _ => True) h0 0 0 0 [.val (.int j), .val (.int lenI), .val w] []
  refine iload_n (q1 := 1) d15_0 rfl rfl ?_
  refine if_lt (q1 := 4) (q := 9) d15_1 rfl ⟨by decide, rfl⟩ (fun hq => absurd hq h1) (fun _ => ?_)
  refine iload_n (q1 := 5) d15_4 rfl rfl ?_
  refine iload_n (q1 := 6) d15_5 rfl rfl ?_
  refine icmp_lt (q1 := 9) (q := 16) d15_6 rfl ⟨by decide, rfl⟩ (fun _ => ?_) (fun hq => absurd h2 hq)
  refine iload_n (q1 := 17) d15_16 rfl rfl ?_
  refine ret_i d15_17 rfl rfl ⟨rfl, rfl⟩
set_option maxRecDepth 65536 in
set_option maxHeartbeats 40000000 in
theorem c_scki {l : Launch} {Z : State} {a0 : Array Value} (hw : ∀ d ∈ tables_1, d.before a0 Z = true) {n0 : Nat} {h0 : Heap} {j lenI : Int32} {w : Value} (F : Siob Z w) (h1 : ¬ j < 0) (h2 : j < lenI) : Con l Z n0 (⟨"java/lang/String", "checkIndex", "(II)V"⟩ : MethodName) jdk_42_method_155_code 2 none ({ frames := 1, cells := 0, slots := 0, locals := 14 } : Room) [.int j, .int lenI] h0 [] (fun v h' => v = none ∧ h' = h0) := by
  refine Con.of (Ls := [.val (.int j), .val (.int lenI)]) (by decide +kernel) (fun m => by first | (simp [entryFrame, mkF, argsToLocals, Value.category]; done) | (rcases ref_cases hrw with rfl | ⟨b, rfl⟩ <;> rfl) | rfl) (fun p e s m below meth c => ?_)
  show Wp false p l e ({ frames := 1, cells := 0, slots := 0, locals := 14 } : Room) s m ([.int j, .int lenI] : List Value).toArray below meth c Z "java/lang/String" "checkIndex" jdk_42_method_155_code 2 none n0 h0 [] (fun v h' => v = none ∧ h' = h0) (fun _ => True) h0 0 0 0 [.val (.int j), .val (.int lenI)] []
  refine iload_n (q1 := 1) d14_0 rfl rfl ?_
  refine iload_n (q1 := 2) d14_1 rfl rfl ?_
  refine kept fun K O => ?_
  refine getstatic (q1 := 5) d14_2 rfl (ww hw 77 rfl) Via.refl (F.1.ext O.2) ?_
  refine invokestatic (q1 := 8) d14_5 rfl (ww hw 79 rfl) (ww hw 80 rfl) (ww hw 78 rfl) (ww hw 81 rfl) (by decide) pd13 (c_pcki hw F.2 h1 h2) rfl rfl rfl rfl all0 (fun v h1 q _ => ?_)
  obtain ⟨rfl, rfl⟩ := q
  refine Jvm.OwnWp.pop (q1 := 9) d14_8 rfl rfl ?_
  refine ret_v d14_9 rfl rfl ⟨rfl, rfl⟩
/-- a char up to 255, made a byte and back -/
theorem own_back8 {c : Int32} (h0 : 0 ≤ c.toInt) (h1 : c.toInt ≤ 255) : (c.toInt8.toInt32 &&& 255).toUInt32.toUInt16.toUInt32.toInt32 = c := by
  have a := c_i2b c
  have b := c_mask c.toInt8.toInt32 255 8 (by decide) (by decide)
  have d := c_i2c (c.toInt8.toInt32 &&& 255)
  apply own_eq
  omega
theorem own_nar8 {c : Int32} (h0 : 0 ≤ c.toInt) (h1 : c.toInt ≤ 255) : nar .char c = c := by
  have d := c_i2c c
  apply own_eq
  show (c.toUInt32.toUInt16.toUInt32.toInt32).toInt = _
  omega
set_option maxRecDepth 65536 in
set_option maxHeartbeats 40000000 in
theorem c_lcha {l : Launch} {Z : State} {a0 : Array Value} (hw : ∀ d ∈ tables_1, d.before a0 Z = true) {n0 : Nat} {h0 : Heap} {t : Addr} {len i : Nat} {cf : Nat → Int32} {j : Int32} {w : Value} (A : Ary Z h0 t .byte len (fun i => .int (cf i).toInt8.toInt32)) (F : Siob Z w) (hj : j.toInt = (i : Int)) (hi : i < len) (hc : 0 ≤ (cf i).toInt ∧ (cf i).toInt ≤ 255) (hle : len < 2 ^ 31) : Con l Z n0 (⟨"java/lang/StringLatin1", "charAt", "([BI)C"⟩ : MethodName) jdk_43_method_2_code 2 (some .char) ({ frames := 2, cells := 0, slots := 0, locals := 27 } : Room) [.ref t, .int j] h0 [] (fun v h' => v = some (.int (cf i)) ∧ h' = h0) := by
  refine Con.of (Ls := [.val (.ref t), .val (.int j)]) (by decide +kernel) (fun m => by first | (simp [entryFrame, mkF, argsToLocals, Value.category]; done) | (rcases ref_cases hrw with rfl | ⟨b, rfl⟩ <;> rfl) | rfl) (fun p e s m below meth c => ?_)
  show Wp false p l e ({ frames := 2, cells := 0, slots := 0, locals := 27 } : Room) s m ([.ref t, .int j] : List Value).toArray below meth c Z "java/lang/StringLatin1" "charAt" jdk_43_method_2_code 2 (some .char) n0 h0 [] (fun v h' => v = some (.int (cf i)) ∧ h' = h0) (fun _ => True) h0 0 0 0 [.val (.ref t), .val (.int j)] []
  have hl : (Int32.ofNat len).toInt = (len : Int) := len_toInt hle
  refine iload_n (q1 := 1) d13_0 rfl rfl ?_
  refine aload_n (q1 := 2) d13_1 rfl rfl rfl ?_
  refine arraylength (q1 := 3) d13_2 rfl (A) hl ?_
  refine invokestatic (q1 := 6) d13_3 rfl (ww hw 74 rfl) (ww hw 75 rfl) (ww hw 4 rfl) (ww hw 76 rfl) (by decide) pd12 (c_scki hw F (by rw [own_lt, hj]; have : (0 : Int32).toInt = 0 := rfl; omega) (by rw [own_lt, hj, hl]; omega)) rfl rfl rfl rfl all0 (fun v h1 q _ => ?_)
  obtain ⟨rfl, rfl⟩ := q
  refine aload_n (q1 := 7) d13_6 rfl rfl rfl ?_
  refine iload_n (q1 := 8) d13_7 rfl rfl ?_
  refine baload (q1 := 9) d13_8 rfl (A) hj hi rfl ?_
  refine sipush (q1 := 12) (v := 255) d13_9 rfl rfl ?_
  refine iand (q1 := 13) d13_12 rfl ?_
  refine i2c (q1 := 14) d13_13 rfl ?_
  refine ret_n (t := .char) d13_14 rfl (by simp) rfl ?_
  rw [own_back8 hc.1 hc.2, own_nar8 hc.1 hc.2]; exact ⟨rfl, rfl⟩
set_option maxRecDepth 65536 in
set_option maxHeartbeats 40000000 in
theorem c_cha {l : Launch} {Z : State} {a0 : Array Value} (hw : ∀ d ∈ tables_1, d.before a0 Z = true) {n0 : Nat} {h0 : Heap} {x t : Addr} {len i : Nat} {cf : Nat → Int32} {z j : Int32} {w : Value} (B : StrOf Z h0 x len cf t) (S : Cmpct Z z) (F : Siob Z w) (hj : j.toInt = (i : Int)) (hi : i < len) (hc : 0 ≤ (cf i).toInt ∧ (cf i).toInt ≤ 255) : Con l Z n0 (⟨"java/lang/String", "charAt", "(I)C"⟩ : MethodName) jdk_42_method_56_code 2 (some .char) ({ frames := 3, cells := 0, slots := 0, locals := 40 } : Room) [.ref x, .int j] h0 [] (fun v h' => v = some (.int (cf i)) ∧ h' = h0) := by
  refine Con.of (Ls := [.val (.ref x), .val (.int j)]) (by decide +kernel) (fun m => by first | (simp [entryFrame, mkF, argsToLocals, Value.category]; done) | (rcases ref_cases hrw with rfl | ⟨b, rfl⟩ <;> rfl) | rfl) (fun p e s m below meth c => ?_)
  show Wp false p l e ({ frames := 3, cells := 0, slots := 0, locals := 40 } : Room) s m ([.ref x, .int j] : List Value).toArray below meth c Z "java/lang/String" "charAt" jdk_42_method_56_code 2 (some .char) n0 h0 [] (fun v h' => v = some (.int (cf i)) ∧ h' = h0) (fun _ => True) h0 0 0 0 [.val (.ref x), .val (.int j)] []
  refine aload_n (q1 := 1) d11_0 rfl rfl rfl ?_
  refine invokevirt (q1 := 4) d11_1 rfl (ww hw 65 rfl) (ww hw 66 rfl) (ww hw 68 rfl) (ww hw 67 rfl) (ww hw 4 rfl) (ww hw 69 rfl) (by decide) pd10 (B.1) (c_isl hw B S) rfl rfl rfl rfl all0 (fun v h1 q _ => ?_)
  obtain ⟨rfl, rfl⟩ := q
  refine if_eq (q1 := 7) (q := 16) d11_4 rfl ⟨by decide, rfl⟩ (fun hq => absurd hq (by decide)) (fun _ => ?_)
  refine aload_n (q1 := 8) d11_7 rfl rfl rfl ?_
  refine getfield (q1 := 11) d11_8 rfl (ww hw 29 rfl) Via.refl (B.2.2.1) ?_
  refine iload_n (q1 := 12) d11_11 rfl rfl ?_
  refine invokestatic (q1 := 15) d11_12 rfl (ww hw 70 rfl) (ww hw 71 rfl) (ww hw 72 rfl) (ww hw 73 rfl) (by decide) pd11 (c_lcha hw B.2.2.2 F hj hi hc B.2.2.2.bound) rfl rfl rfl rfl all0 (fun v h1 q _ => ?_)
  obtain ⟨rfl, rfl⟩ := q
  refine ret_n (t := .char) d11_15 rfl (by simp) rfl ?_
  rw [own_nar8 hc.1 hc.2]; exact ⟨rfl, rfl⟩
theorem d7_0 : decode prog_21_method_1_code 0 = .ok (.aload_n 0, 1) := by decide +kernel
theorem d7_1 : decode prog_21_method_1_code 1 = .ok (.invokespecial 1, 3) := by decide +kernel
theorem d7_4 : decode prog_21_method_1_code 4 = .ok (.return_, 1) := by decide +kernel
theorem d8_0 : decode prog_21_method_3_code 0 = .ok (.iconst 0, 1) := by decide +kernel
theorem d8_1 : decode prog_21_method_3_code 1 = .ok (.istore_n 2, 1) := by decide +kernel
theorem d8_2 : decode prog_21_method_3_code 2 = .ok (.iload_n 2, 1) := by decide +kernel
theorem d8_3 : decode prog_21_method_3_code 3 = .ok (.aload_n 1, 1) := by decide +kernel
theorem d8_4 : decode prog_21_method_3_code 4 = .ok (.invokeinterface 11 1, 5) := by decide +kernel
theorem d8_9 : decode prog_21_method_3_code 9 = .ok (.if_icmp .ge 21, 3) := by decide +kernel
theorem d8_12 : decode prog_21_method_3_code 12 = .ok (.aload_n 1, 1) := by decide +kernel
theorem d8_13 : decode prog_21_method_3_code 13 = .ok (.iload_n 2, 1) := by decide +kernel
theorem d8_14 : decode prog_21_method_3_code 14 = .ok (.invokeinterface 17 2, 5) := by decide +kernel
theorem d8_19 : decode prog_21_method_3_code 19 = .ok (.bipush 91, 2) := by decide +kernel
theorem d8_21 : decode prog_21_method_3_code 21 = .ok (.if_icmp .eq 9, 3) := by decide +kernel
theorem d8_24 : decode prog_21_method_3_code 24 = .ok (.iinc 2 1, 3) := by decide +kernel
theorem d8_27 : decode prog_21_method_3_code 27 = .ok (.goto (-25), 3) := by decide +kernel
theorem d8_30 : decode prog_21_method_3_code 30 = .ok (.iload_n 2, 1) := by decide +kernel
theorem d8_31 : decode prog_21_method_3_code 31 = .ok (.iconst 1, 1) := by decide +kernel
theorem d8_32 : decode prog_21_method_3_code 32 = .ok (.if_icmp .lt 26, 3) := by decide +kernel
theorem d8_35 : decode prog_21_method_3_code 35 = .ok (.iload_n 2, 1) := by decide +kernel
theorem d8_36 : decode prog_21_method_3_code 36 = .ok (.aload_n 1, 1) := by decide +kernel
theorem d8_37 : decode prog_21_method_3_code 37 = .ok (.invokeinterface 11 1, 5) := by decide +kernel
theorem d8_42 : decode prog_21_method_3_code 42 = .ok (.if_icmp .ge 16, 3) := by decide +kernel
theorem d8_45 : decode prog_21_method_3_code 45 = .ok (.aload_n 0, 1) := by decide +kernel
theorem d8_46 : decode prog_21_method_3_code 46 = .ok (.aload_n 1, 1) := by decide +kernel
theorem d8_47 : decode prog_21_method_3_code 47 = .ok (.iload_n 2, 1) := by decide +kernel
theorem d8_48 : decode prog_21_method_3_code 48 = .ok (.invokevirtual 21, 3) := by decide +kernel
theorem d8_51 : decode prog_21_method_3_code 51 = .ok (.ifCond .eq 7, 3) := by decide +kernel
theorem d8_54 : decode prog_21_method_3_code 54 = .ok (.iconst 1, 1) := by decide +kernel
theorem d8_55 : decode prog_21_method_3_code 55 = .ok (.goto 4, 3) := by decide +kernel
theorem d8_58 : decode prog_21_method_3_code 58 = .ok (.iconst 0, 1) := by decide +kernel
theorem d8_59 : decode prog_21_method_3_code 59 = .ok (.ireturn, 1) := by decide +kernel
theorem d16_0 : decode prog_21_method_5_code 0 = .ok (.lconst 0, 1) := by decide +kernel
theorem d16_1 : decode prog_21_method_5_code 1 = .ok (.lstore_n 3, 1) := by decide +kernel
theorem d16_2 : decode prog_21_method_5_code 2 = .ok (.iload_n 2, 1) := by decide +kernel
theorem d16_3 : decode prog_21_method_5_code 3 = .ok (.iconst 1, 1) := by decide +kernel
theorem d16_4 : decode prog_21_method_5_code 4 = .ok (.iadd, 1) := by decide +kernel
theorem d16_5 : decode prog_21_method_5_code 5 = .ok (.istore 5, 2) := by decide +kernel
theorem d16_7 : decode prog_21_method_5_code 7 = .ok (.iload 5, 2) := by decide +kernel
theorem d16_9 : decode prog_21_method_5_code 9 = .ok (.aload_n 1, 1) := by decide +kernel
theorem d16_10 : decode prog_21_method_5_code 10 = .ok (.invokeinterface 11 1, 5) := by decide +kernel
theorem d16_15 : decode prog_21_method_5_code 15 = .ok (.if_icmp .ge 14, 3) := by decide +kernel
theorem d16_18 : decode prog_21_method_5_code 18 = .ok (.aload_n 1, 1) := by decide +kernel
theorem d16_19 : decode prog_21_method_5_code 19 = .ok (.iload 5, 2) := by decide +kernel
theorem d16_21 : decode prog_21_method_5_code 21 = .ok (.invokeinterface 17 2, 5) := by decide +kernel
theorem d16_26 : decode prog_21_method_5_code 26 = .ok (.goto 5, 3) := by decide +kernel
theorem d16_29 : decode prog_21_method_5_code 29 = .ok (.bipush 93, 2) := by decide +kernel
theorem d16_31 : decode prog_21_method_5_code 31 = .ok (.istore 6, 2) := by decide +kernel
theorem d16_33 : decode prog_21_method_5_code 33 = .ok (.iload 6, 2) := by decide +kernel
theorem d16_35 : decode prog_21_method_5_code 35 = .ok (.bipush 48, 2) := by decide +kernel
theorem d16_37 : decode prog_21_method_5_code 37 = .ok (.if_icmp .lt 65, 3) := by decide +kernel
theorem d16_40 : decode prog_21_method_5_code 40 = .ok (.iload 6, 2) := by decide +kernel
theorem d16_42 : decode prog_21_method_5_code 42 = .ok (.bipush 57, 2) := by decide +kernel
theorem d16_44 : decode prog_21_method_5_code 44 = .ok (.if_icmp .gt 58, 3) := by decide +kernel
theorem d16_47 : decode prog_21_method_5_code 47 = .ok (.iload 5, 2) := by decide +kernel
theorem d16_49 : decode prog_21_method_5_code 49 = .ok (.iload_n 2, 1) := by decide +kernel
theorem d16_50 : decode prog_21_method_5_code 50 = .ok (.isub, 1) := by decide +kernel
theorem d16_51 : decode prog_21_method_5_code 51 = .ok (.bipush 10, 2) := by decide +kernel
theorem d16_53 : decode prog_21_method_5_code 53 = .ok (.if_icmp .gt 49, 3) := by decide +kernel
theorem d16_56 : decode prog_21_method_5_code 56 = .ok (.lload_n 3, 1) := by decide +kernel
theorem d16_57 : decode prog_21_method_5_code 57 = .ok (.ldc2_w 34, 3) := by decide +kernel
theorem d16_60 : decode prog_21_method_5_code 60 = .ok (.lmul, 1) := by decide +kernel
theorem d16_61 : decode prog_21_method_5_code 61 = .ok (.iload 6, 2) := by decide +kernel
theorem d16_63 : decode prog_21_method_5_code 63 = .ok (.i2l, 1) := by decide +kernel
theorem d16_64 : decode prog_21_method_5_code 64 = .ok (.ladd, 1) := by decide +kernel
theorem d16_65 : decode prog_21_method_5_code 65 = .ok (.ldc2_w 36, 3) := by decide +kernel
theorem d16_68 : decode prog_21_method_5_code 68 = .ok (.lsub, 1) := by decide +kernel
theorem d16_69 : decode prog_21_method_5_code 69 = .ok (.lstore_n 3, 1) := by decide +kernel
theorem d16_70 : decode prog_21_method_5_code 70 = .ok (.iinc 5 1, 3) := by decide +kernel
theorem d16_73 : decode prog_21_method_5_code 73 = .ok (.iload 5, 2) := by decide +kernel
theorem d16_75 : decode prog_21_method_5_code 75 = .ok (.aload_n 1, 1) := by decide +kernel
theorem d16_76 : decode prog_21_method_5_code 76 = .ok (.invokeinterface 11 1, 5) := by decide +kernel
theorem d16_81 : decode prog_21_method_5_code 81 = .ok (.if_icmp .ge 14, 3) := by decide +kernel
theorem d16_84 : decode prog_21_method_5_code 84 = .ok (.aload_n 1, 1) := by decide +kernel
theorem d16_85 : decode prog_21_method_5_code 85 = .ok (.iload 5, 2) := by decide +kernel
theorem d16_87 : decode prog_21_method_5_code 87 = .ok (.invokeinterface 17 2, 5) := by decide +kernel
theorem d16_92 : decode prog_21_method_5_code 92 = .ok (.goto 5, 3) := by decide +kernel
theorem d16_95 : decode prog_21_method_5_code 95 = .ok (.bipush 93, 2) := by decide +kernel
theorem d16_97 : decode prog_21_method_5_code 97 = .ok (.istore 6, 2) := by decide +kernel
theorem d16_99 : decode prog_21_method_5_code 99 = .ok (.goto (-66), 3) := by decide +kernel
theorem d16_102 : decode prog_21_method_5_code 102 = .ok (.iload 5, 2) := by decide +kernel
theorem d16_104 : decode prog_21_method_5_code 104 = .ok (.iload_n 2, 1) := by decide +kernel
theorem d16_105 : decode prog_21_method_5_code 105 = .ok (.isub, 1) := by decide +kernel
theorem d16_106 : decode prog_21_method_5_code 106 = .ok (.iconst 1, 1) := by decide +kernel
theorem d16_107 : decode prog_21_method_5_code 107 = .ok (.isub, 1) := by decide +kernel
theorem d16_108 : decode prog_21_method_5_code 108 = .ok (.istore 7, 2) := by decide +kernel
theorem d16_110 : decode prog_21_method_5_code 110 = .ok (.iload 7, 2) := by decide +kernel
theorem d16_112 : decode prog_21_method_5_code 112 = .ok (.ifCond .le 35, 3) := by decide +kernel
theorem d16_115 : decode prog_21_method_5_code 115 = .ok (.lload_n 3, 1) := by decide +kernel
theorem d16_116 : decode prog_21_method_5_code 116 = .ok (.ldc2_w 40, 3) := by decide +kernel
theorem d16_119 : decode prog_21_method_5_code 119 = .ok (.lcmp, 1) := by decide +kernel
theorem d16_120 : decode prog_21_method_5_code 120 = .ok (.ifCond .gt 27, 3) := by decide +kernel
theorem d16_123 : decode prog_21_method_5_code 123 = .ok (.iload 7, 2) := by decide +kernel
theorem d16_125 : decode prog_21_method_5_code 125 = .ok (.iconst 1, 1) := by decide +kernel
theorem d16_126 : decode prog_21_method_5_code 126 = .ok (.if_icmp .eq 17, 3) := by decide +kernel
theorem d16_129 : decode prog_21_method_5_code 129 = .ok (.aload_n 1, 1) := by decide +kernel
theorem d16_130 : decode prog_21_method_5_code 130 = .ok (.iload_n 2, 1) := by decide +kernel
theorem d16_131 : decode prog_21_method_5_code 131 = .ok (.iconst 1, 1) := by decide +kernel
theorem d16_132 : decode prog_21_method_5_code 132 = .ok (.iadd, 1) := by decide +kernel
theorem d16_133 : decode prog_21_method_5_code 133 = .ok (.invokeinterface 17 2, 5) := by decide +kernel
theorem d16_138 : decode prog_21_method_5_code 138 = .ok (.bipush 48, 2) := by decide +kernel
theorem d16_140 : decode prog_21_method_5_code 140 = .ok (.if_icmp .eq 7, 3) := by decide +kernel
theorem d16_143 : decode prog_21_method_5_code 143 = .ok (.iconst 1, 1) := by decide +kernel
theorem d16_144 : decode prog_21_method_5_code 144 = .ok (.goto 4, 3) := by decide +kernel
theorem d16_147 : decode prog_21_method_5_code 147 = .ok (.iconst 0, 1) := by decide +kernel
theorem d16_148 : decode prog_21_method_5_code 148 = .ok (.istore 8, 2) := by decide +kernel
theorem d16_150 : decode prog_21_method_5_code 150 = .ok (.iload 5, 2) := by decide +kernel
theorem d16_152 : decode prog_21_method_5_code 152 = .ok (.iconst 2, 1) := by decide +kernel
theorem d16_153 : decode prog_21_method_5_code 153 = .ok (.iadd, 1) := by decide +kernel
theorem d16_154 : decode prog_21_method_5_code 154 = .ok (.aload_n 1, 1) := by decide +kernel
theorem d16_155 : decode prog_21_method_5_code 155 = .ok (.invokeinterface 11 1, 5) := by decide +kernel
theorem d16_160 : decode prog_21_method_5_code 160 = .ok (.if_icmp .ge 35, 3) := by decide +kernel
theorem d16_163 : decode prog_21_method_5_code 163 = .ok (.aload_n 1, 1) := by decide +kernel
theorem d16_164 : decode prog_21_method_5_code 164 = .ok (.iload 5, 2) := by decide +kernel
theorem d16_166 : decode prog_21_method_5_code 166 = .ok (.invokeinterface 17 2, 5) := by decide +kernel
theorem d16_171 : decode prog_21_method_5_code 171 = .ok (.bipush 93, 2) := by decide +kernel
theorem d16_173 : decode prog_21_method_5_code 173 = .ok (.if_icmp .ne 22, 3) := by decide +kernel
theorem d16_176 : decode prog_21_method_5_code 176 = .ok (.aload_n 1, 1) := by decide +kernel
theorem d16_177 : decode prog_21_method_5_code 177 = .ok (.iload 5, 2) := by decide +kernel
theorem d16_179 : decode prog_21_method_5_code 179 = .ok (.iconst 1, 1) := by decide +kernel
theorem d16_180 : decode prog_21_method_5_code 180 = .ok (.iadd, 1) := by decide +kernel
theorem d16_181 : decode prog_21_method_5_code 181 = .ok (.invokeinterface 17 2, 5) := by decide +kernel
theorem d16_186 : decode prog_21_method_5_code 186 = .ok (.bipush 46, 2) := by decide +kernel
theorem d16_188 : decode prog_21_method_5_code 188 = .ok (.if_icmp .ne 7, 3) := by decide +kernel
theorem d16_191 : decode prog_21_method_5_code 191 = .ok (.iconst 1, 1) := by decide +kernel
theorem d16_192 : decode prog_21_method_5_code 192 = .ok (.goto 4, 3) := by decide +kernel
theorem d16_195 : decode prog_21_method_5_code 195 = .ok (.iconst 0, 1) := by decide +kernel
theorem d16_196 : decode prog_21_method_5_code 196 = .ok (.istore 9, 2) := by decide +kernel
theorem d16_198 : decode prog_21_method_5_code 198 = .ok (.iload 8, 2) := by decide +kernel
theorem d16_200 : decode prog_21_method_5_code 200 = .ok (.ifCond .eq 8, 3) := by decide +kernel
theorem d16_203 : decode prog_21_method_5_code 203 = .ok (.iload 9, 2) := by decide +kernel
theorem d16_205 : decode prog_21_method_5_code 205 = .ok (.ifCond .ne 5, 3) := by decide +kernel
theorem d16_208 : decode prog_21_method_5_code 208 = .ok (.iconst 0, 1) := by decide +kernel
theorem d16_209 : decode prog_21_method_5_code 209 = .ok (.ireturn, 1) := by decide +kernel
theorem d16_210 : decode prog_21_method_5_code 210 = .ok (.aload_n 0, 1) := by decide +kernel
theorem d16_211 : decode prog_21_method_5_code 211 = .ok (.aload_n 1, 1) := by decide +kernel
theorem d16_212 : decode prog_21_method_5_code 212 = .ok (.putfield 42, 3) := by decide +kernel
theorem d16_215 : decode prog_21_method_5_code 215 = .ok (.aload_n 0, 1) := by decide +kernel
theorem d16_216 : decode prog_21_method_5_code 216 = .ok (.iload_n 2, 1) := by decide +kernel
theorem d16_217 : decode prog_21_method_5_code 217 = .ok (.putfield 46, 3) := by decide +kernel
theorem d16_220 : decode prog_21_method_5_code 220 = .ok (.aload_n 0, 1) := by decide +kernel
theorem d16_221 : decode prog_21_method_5_code 221 = .ok (.lload_n 3, 1) := by decide +kernel
theorem d16_222 : decode prog_21_method_5_code 222 = .ok (.l2i, 1) := by decide +kernel
theorem d16_223 : decode prog_21_method_5_code 223 = .ok (.putfield 50, 3) := by decide +kernel
theorem d16_226 : decode prog_21_method_5_code 226 = .ok (.aload_n 0, 1) := by decide +kernel
theorem d16_227 : decode prog_21_method_5_code 227 = .ok (.iload 5, 2) := by decide +kernel
theorem d16_229 : decode prog_21_method_5_code 229 = .ok (.iconst 2, 1) := by decide +kernel
theorem d16_230 : decode prog_21_method_5_code 230 = .ok (.iadd, 1) := by decide +kernel
theorem d16_231 : decode prog_21_method_5_code 231 = .ok (.putfield 53, 3) := by decide +kernel
theorem d16_234 : decode prog_21_method_5_code 234 = .ok (.iconst 1, 1) := by decide +kernel
theorem d16_235 : decode prog_21_method_5_code 235 = .ok (.ireturn, 1) := by decide +kernel
theorem d17_0 : decode prog_21_method_9_code 0 = .ok (.aload_n 0, 1) := by decide +kernel
theorem d17_1 : decode prog_21_method_9_code 1 = .ok (.getfield 42, 3) := by decide +kernel
theorem d17_4 : decode prog_21_method_9_code 4 = .ok (.invokeinterface 11 1, 5) := by decide +kernel
theorem d17_9 : decode prog_21_method_9_code 9 = .ok (.aload_n 0, 1) := by decide +kernel
theorem d17_10 : decode prog_21_method_9_code 10 = .ok (.getfield 53, 3) := by decide +kernel
theorem d17_13 : decode prog_21_method_9_code 13 = .ok (.isub, 1) := by decide +kernel
theorem d17_14 : decode prog_21_method_9_code 14 = .ok (.aload_n 1, 1) := by decide +kernel
theorem d17_15 : decode prog_21_method_9_code 15 = .ok (.invokevirtual 27, 3) := by decide +kernel
theorem d17_18 : decode prog_21_method_9_code 18 = .ok (.if_icmp .ne 22, 3) := by decide +kernel
theorem d17_21 : decode prog_21_method_9_code 21 = .ok (.aload_n 0, 1) := by decide +kernel
theorem d17_22 : decode prog_21_method_9_code 22 = .ok (.getfield 42, 3) := by decide +kernel
theorem d17_25 : decode prog_21_method_9_code 25 = .ok (.aload_n 1, 1) := by decide +kernel
theorem d17_26 : decode prog_21_method_9_code 26 = .ok (.aload_n 0, 1) := by decide +kernel
theorem d17_27 : decode prog_21_method_9_code 27 = .ok (.getfield 53, 3) := by decide +kernel
theorem d17_30 : decode prog_21_method_9_code 30 = .ok (.invokestatic 30, 3) := by decide +kernel
theorem d17_33 : decode prog_21_method_9_code 33 = .ok (.ifCond .eq 7, 3) := by decide +kernel
theorem d17_36 : decode prog_21_method_9_code 36 = .ok (.iconst 1, 1) := by decide +kernel
theorem d17_37 : decode prog_21_method_9_code 37 = .ok (.goto 4, 3) := by decide +kernel
theorem d17_40 : decode prog_21_method_9_code 40 = .ok (.iconst 0, 1) := by decide +kernel
theorem d17_41 : decode prog_21_method_9_code 41 = .ok (.ireturn, 1) := by decide +kernel
theorem d18_0 : decode prog_21_method_10_code 0 = .ok (.iconst 0, 1) := by decide +kernel
theorem d18_1 : decode prog_21_method_10_code 1 = .ok (.istore_n 3, 1) := by decide +kernel
theorem d18_2 : decode prog_21_method_10_code 2 = .ok (.iload_n 3, 1) := by decide +kernel
theorem d18_3 : decode prog_21_method_10_code 3 = .ok (.aload_n 1, 1) := by decide +kernel
theorem d18_4 : decode prog_21_method_10_code 4 = .ok (.invokevirtual 27, 3) := by decide +kernel
theorem d18_7 : decode prog_21_method_10_code 7 = .ok (.if_icmp .ge 26, 3) := by decide +kernel
theorem d18_10 : decode prog_21_method_10_code 10 = .ok (.aload_n 0, 1) := by decide +kernel
theorem d18_11 : decode prog_21_method_10_code 11 = .ok (.iload_n 2, 1) := by decide +kernel
theorem d18_12 : decode prog_21_method_10_code 12 = .ok (.iload_n 3, 1) := by decide +kernel
theorem d18_13 : decode prog_21_method_10_code 13 = .ok (.iadd, 1) := by decide +kernel
theorem d18_14 : decode prog_21_method_10_code 14 = .ok (.invokeinterface 17 2, 5) := by decide +kernel
theorem d18_19 : decode prog_21_method_10_code 19 = .ok (.aload_n 1, 1) := by decide +kernel
theorem d18_20 : decode prog_21_method_10_code 20 = .ok (.iload_n 3, 1) := by decide +kernel
theorem d18_21 : decode prog_21_method_10_code 21 = .ok (.invokevirtual 64, 3) := by decide +kernel
theorem d18_24 : decode prog_21_method_10_code 24 = .ok (.if_icmp .ne 9, 3) := by decide +kernel
theorem d18_27 : decode prog_21_method_10_code 27 = .ok (.iinc 3 1, 3) := by decide +kernel
theorem d18_30 : decode prog_21_method_10_code 30 = .ok (.goto (-28), 3) := by decide +kernel
theorem d18_33 : decode prog_21_method_10_code 33 = .ok (.iload_n 3, 1) := by decide +kernel
theorem d18_34 : decode prog_21_method_10_code 34 = .ok (.aload_n 1, 1) := by decide +kernel
theorem d18_35 : decode prog_21_method_10_code 35 = .ok (.invokevirtual 27, 3) := by decide +kernel
theorem d18_38 : decode prog_21_method_10_code 38 = .ok (.if_icmp .ne 7, 3) := by decide +kernel
theorem d18_41 : decode prog_21_method_10_code 41 = .ok (.iconst 1, 1) := by decide +kernel
theorem d18_42 : decode prog_21_method_10_code 42 = .ok (.goto 4, 3) := by decide +kernel
theorem d18_45 : decode prog_21_method_10_code 45 = .ok (.iconst 0, 1) := by decide +kernel
theorem d18_46 : decode prog_21_method_10_code 46 = .ok (.ireturn, 1) := by decide +kernel
theorem StrOf.ext {Z : State} {h h' : Heap} {x t : Addr} {len : Nat} {cf : Nat → Int32} (B : StrOf Z h x len cf t) (E : Ext h h') : StrOf Z h' x len cf t := ⟨B.1.ext E, B.2.1.ext E, B.2.2.1.ext E, B.2.2.2.ext E⟩
theorem StrOf.other {Z : State} {h h' : Heap} {x t a : Addr} {len sl : Nat} {cf : Nat → Int32} {v : Value} (B : StrOf Z h x len cf t) (W : Wr h h' a sl v) (q1 : x ≠ a) (q2 : t ≠ a) : StrOf Z h' x len cf t := ⟨B.1.wr W, B.2.1.other W (Or.inl q1), B.2.2.1.other W (Or.inl q1), B.2.2.2.other W q2⟩
theorem StrOf.keep {Z : State} {h h' : Heap} {x t : Addr} {len : Nat} {cf : Nat → Int32} {ws : List Addr} (B : StrOf Z h x len cf t) (K : Keep h h' ws) (q1 : x ∉ ws) (q2 : t ∉ ws) : StrOf Z h' x len cf t := ⟨B.1.keep K, B.2.1.keep K q1, B.2.2.1.keep K q1, B.2.2.2.keep K q2⟩
theorem StrOf.cong {Z : State} {h : Heap} {x t : Addr} {len : Nat} {cf cg : Nat → Int32} (B : StrOf Z h x len cf t) (q : ∀ i, i < len → cf i = cg i) : StrOf Z h x len cg t := ⟨B.1, B.2.1, B.2.2.1, B.2.2.2.cong fun i hi => by rw [q i hi]⟩
def C8 (c : Int32) : Prop := 0 ≤ c.toInt ∧ c.toInt ≤ 255
/-- the name: r[5..5].abc with its bracket at cl -/
def Pat (cf : Nat → Int32) (cl : Nat) : Prop := cf 0 = 114 ∧ cf 1 = 91 ∧ (∀ i, 2 ≤ i → i < cl → cf i = 53) ∧ cf cl = 93 ∧ cf (cl + 1) = 46 ∧ (∀ i, i < 8 → C8 (cf i)) ∧ 3 ≤ cl ∧ cl ≤ 5
def ixf (c : Nat) : Int64 := if c = 2 then 0 else if c = 3 then 5 else if c = 4 then 55 else 555
theorem own_ixf {c : Nat} (h1 : 2 ≤ c) (h2 : c < 5) : ixf c * 10 + (53 : Int32).toInt64 - 48 = ixf (c + 1) := by
  have e : c = 2 ∨ c = 3 ∨ c = 4 := by omega
  rcases e with rfl | rfl | rfl <;> decide
theorem own_ixle {c : Nat} : ¬ (0 : Int32) < lcmpW (ixf c) 2147483647 := by
  unfold ixf
  by_cases h1 : c = 2
  · simp only [if_pos h1]; decide
  · by_cases h2 : c = 3
    · simp only [if_neg h1, if_pos h2]; decide
    · by_cases h3 : c = 4
      · simp only [if_neg h1, if_neg h2, if_pos h3]; decide
      · simp only [if_neg h1, if_neg h2, if_neg h3]; decide
theorem own_subI {x y : Int32} {a b : Int} (hx : x.toInt = a) (hy : y.toInt = b) (h : -2147483648 ≤ a - b) (h' : a - b < 2147483648) : (x - y).toInt = a - b := by
  rw [XT.sub32 (by rw [hx, hy]; exact ⟨by omega, by omega⟩), hx, hy]
theorem own_addI {x y : Int32} {a b : Int} (hx : x.toInt = a) (hy : y.toInt = b) (h : -2147483648 ≤ a + b) (h' : a + b < 2147483648) : (x + y).toInt = a + b := by
  rw [XT.add32 (by rw [hx, hy]; exact ⟨by omega, by omega⟩), hx, hy]
def RowIs (Z : State) (h : Heap) (r nm : Addr) (fs : Int32) : Prop := Exa Z h r "com/example/bay3/bay3/form/RowFieldName" ∧ Fld Z h r "com/example/bay3/bay3/form/RowFieldName" "name" "Ljava/lang/CharSequence;" (.ref nm) ∧ Fld Z h r "com/example/bay3/bay3/form/RowFieldName" "fieldStart" "I" (.int fs)
set_option maxRecDepth 65536 in
set_option maxHeartbeats 40000000 in
theorem c_rfi {l : Launch} {Z : State} {a0 : Array Value} (hw : ∀ d ∈ tables_1, d.before a0 Z = true) {n0 : Nat} {h0 : Heap} {r : Addr} : Con l Z n0 (⟨"com/example/bay3/bay3/form/RowFieldName", "<init>", "()V"⟩ : MethodName) prog_21_method_1_code 1 none ({ frames := 1, cells := 0, slots := 0, locals := 12 } : Room) [.ref r] h0 [] (fun v h' => v = none ∧ h' = h0) := by
  refine Con.of (Ls := [.val (.ref r)]) (by decide +kernel) (fun m => by first | (simp [entryFrame, mkF, argsToLocals, Value.category]; done) | (rcases ref_cases hrw with rfl | ⟨b, rfl⟩ <;> rfl) | rfl) (fun p e s m below meth c => ?_)
  show Wp false p l e ({ frames := 1, cells := 0, slots := 0, locals := 12 } : Room) s m ([.ref r] : List Value).toArray below meth c Z "com/example/bay3/bay3/form/RowFieldName" "<init>" prog_21_method_1_code 1 none n0 h0 [] (fun v h' => v = none ∧ h' = h0) (fun _ => True) h0 0 0 0 [.val (.ref r)] []
  refine aload_n (q1 := 1) d7_0 rfl rfl rfl ?_
  refine initObj (q1 := 4) d7_1 rfl (ww hw 37 rfl) (ww hw 13 rfl) (ww hw 14 rfl) rfl rfl ?_
  refine ret_v d7_4 rfl rfl ⟨rfl, rfl⟩
set_option maxRecDepth 65536 in
set_option maxHeartbeats 40000000 in
theorem c_rix {l : Launch} {Z : State} {a0 : Array Value} (hw : ∀ d ∈ tables_1, d.before a0 Z = true) {n0 : Nat} {h0 : Heap} {r nm t : Addr} {cl : Nat} {cf : Nat → Int32} {z : Int32} {w u1 u2 u3 u4 : Value} (S : Cmpct Z z) (F : Siob Z w) (B : StrOf Z h0 nm 8 cf t) (P : Pat cf cl) (X : Exa Z h0 r "com/example/bay3/bay3/form/RowFieldName") (F1 : Fld Z h0 r "com/example/bay3/bay3/form/RowFieldName" "name" "Ljava/lang/CharSequence;" u1) (F2 : Fld Z h0 r "com/example/bay3/bay3/form/RowFieldName" "open" "I" u2) (F3 : Fld Z h0 r "com/example/bay3/bay3/form/RowFieldName" "index" "I" u3) (F4 : Fld Z h0 r "com/example/bay3/bay3/form/RowFieldName" "fieldStart" "I" u4) : Con l Z n0 (⟨"com/example/bay3/bay3/form/RowFieldName", "readIndex", "(Ljava/lang/CharSequence;I)Z"⟩ : MethodName) prog_21_method_5_code 10 (some .boolean) ({ frames := 4, cells := 0, slots := 0, locals := 60 } : Room) [.ref r, .ref nm, .int 1] h0 [r] (fun v h' => v = some (.int 1) ∧ ∃ fs : Int32, fs.toInt = ((cl + 2 : Nat) : Int) ∧ RowIs Z h' r nm fs) := by
  refine Con.of (Ls := [.val (.ref r), .val (.ref nm), .val (.int 1), .unset, .unset, .unset, .unset, .unset, .unset, .unset]) (by decide +kernel) (fun m => by first | (simp [entryFrame, mkF, argsToLocals, Value.category]; done) | (rcases ref_cases hrw with rfl | ⟨b, rfl⟩ <;> rfl) | rfl) (fun p e s m below meth c => ?_)
  show Wp false p l e ({ frames := 4, cells := 0, slots := 0, locals := 60 } : Room) s m ([.ref r, .ref nm, .int 1] : List Value).toArray below meth c Z "com/example/bay3/bay3/form/RowFieldName" "readIndex" prog_21_method_5_code 10 (some .boolean) n0 h0 [r] (fun v h' => v = some (.int 1) ∧ ∃ fs : Int32, fs.toInt = ((cl + 2 : Nat) : Int) ∧ RowIs Z h' r nm fs) (fun _ => True) h0 0 0 0 [.val (.ref r), .val (.ref nm), .val (.int 1), .unset, .unset, .unset, .unset, .unset, .unset, .unset] []
  obtain ⟨P0, P1, P2, P3, P4, P5, P6, P7⟩ := P
  have one : (1 : Int32).toInt = 1 := rfl
  have two : (2 : Int32).toInt = 2 := rfl
  have e8 : (8 : Int32).toInt = 8 := rfl
  have zero : (0 : Int32).toInt = 0 := rfl
  have done : ∀ (cI : Int32), cI.toInt = (cl : Int) → Wp false p l e ({ frames := 4, cells := 0, slots := 0, locals := 60 } : Room) s m ([.ref r, .ref nm, .int 1] : List Value).toArray below meth c Z "com/example/bay3/bay3/form/RowFieldName" "readIndex" prog_21_method_5_code 10 (some .boolean) n0 h0 [r] (fun v h' => v = some (.int 1) ∧ ∃ fs : Int32, fs.toInt = ((cl + 2 : Nat) : Int) ∧ RowIs Z h' r nm fs) (fun _ => True) h0 0 0 143 [.val (.ref r), .val (.ref nm), .val (.int 1), .val (.long (ixf cl)), .second, .val (.int cI), .val (.int 93), .val (.int (cI - 1 - 1)), .unset, .unset] [] := by
    intro cI hcI
    have h2 : (cI + 2).toInt = (cl : Int) + 2 := own_addI hcI two (by omega) (by omega)
    have h1 : (cI + 1).toInt = (cl : Int) + 1 := own_addI hcI one (by omega) (by omega)
    refine iconst (q1 := 144) (v := 1) d16_143 rfl rfl ?_
    refine goto (q := 148) d16_144 ⟨by decide, rfl⟩ ?_
    refine istore (q1 := 150) d16_148 rfl rfl ?_
    simp only [List.set_cons_zero, List.set_cons_succ]
    refine iload (q1 := 152) d16_150 rfl rfl ?_
    refine iconst (q1 := 153) (v := 2) d16_152 rfl rfl ?_
    refine iadd (q1 := 154) d16_153 rfl ?_
    refine aload_n (q1 := 155) d16_154 rfl rfl rfl ?_
    refine invokeface (q1 := 160) d16_155 rfl (ww hw 43 rfl) (ww hw 44 rfl) (ww hw 45 rfl) (ww hw 46 rfl) (ww hw 47 rfl) (ww hw 48 rfl) (ww hw 49 rfl) (ww hw 50 rfl) (ww hw 4 rfl) (ww hw 51 rfl) (by decide) rfl pd7 (B.1) (c_len hw B S (lenI := 8) rfl) rfl rfl rfl rfl all0 (fun v h' q _ => ?_)
    obtain ⟨rfl, rfl⟩ := q
    refine icmp_ge (q1 := 163) (q := 195) d16_160 rfl ⟨by decide, rfl⟩ (fun hq => absurd (show cI + 2 < 8 by rw [own_lt, h2, e8]; omega) hq) (fun _ => ?_)
    refine aload_n (q1 := 164) d16_163 rfl rfl rfl ?_
    refine iload (q1 := 166) d16_164 rfl rfl ?_
    refine invokeface (q1 := 171) d16_166 rfl (ww hw 57 rfl) (ww hw 58 rfl) (ww hw 59 rfl) (ww hw 60 rfl) (ww hw 61 rfl) (ww hw 62 rfl) (ww hw 63 rfl) (ww hw 50 rfl) (ww hw 4 rfl) (ww hw 64 rfl) (by decide) rfl pd9 (B.1) (c_cha hw B S F hcI (by omega) (P5 cl (by omega))) rfl rfl rfl rfl all0 (fun v h' q _ => ?_)
    obtain ⟨rfl, rfl⟩ := q
    rw [P3]
    refine bipush (q1 := 173) (v := 93) d16_171 rfl rfl ?_
    refine icmp_ne (q1 := 176) (q := 195) d16_173 rfl ⟨by decide, rfl⟩ (fun hq => absurd rfl hq) (fun _ => ?_)
    refine aload_n (q1 := 177) d16_176 rfl rfl rfl ?_
    refine iload (q1 := 179) d16_177 rfl rfl ?_
    refine iconst (q1 := 180) (v := 1) d16_179 rfl rfl ?_
    refine iadd (q1 := 181) d16_180 rfl ?_
    refine invokeface (q1 := 186) d16_181 rfl (ww hw 57 rfl) (ww hw 58 rfl) (ww hw 59 rfl) (ww hw 60 rfl) (ww hw 61 rfl) (ww hw 62 rfl) (ww hw 63 rfl) (ww hw 50 rfl) (ww hw 4 rfl) (ww hw 64 rfl) (by decide) rfl pd9 (B.1) (c_cha hw B S F (i := cl + 1) (by rw [h1]; omega) (by omega) (P5 (cl + 1) (by omega))) rfl rfl rfl rfl all0 (fun v h' q _ => ?_)
    obtain ⟨rfl, rfl⟩ := q
    rw [P4]
    refine bipush (q1 := 188) (v := 46) d16_186 rfl rfl ?_
    refine icmp_ne (q1 := 191) (q := 195) d16_188 rfl ⟨by decide, rfl⟩ (fun hq => absurd rfl hq) (fun _ => ?_)
    refine iconst (q1 := 192) (v := 1) d16_191 rfl rfl ?_
    refine goto (q := 196) d16_192 ⟨by decide, rfl⟩ ?_
    refine istore (q1 := 198) d16_196 rfl rfl ?_
    simp only [List.set_cons_zero, List.set_cons_succ]
    refine iload (q1 := 200) d16_198 rfl rfl ?_
    refine if_eq (q1 := 203) (q := 208) d16_200 rfl ⟨by decide, rfl⟩ (fun hq => absurd hq (by decide)) (fun _ => ?_)
    refine iload (q1 := 205) d16_203 rfl rfl ?_
    refine if_ne (q1 := 208) (q := 210) d16_205 rfl ⟨by decide, rfl⟩ (fun _ => ?_) (fun hq => absurd hq (by decide))
    refine aload_n (q1 := 211) d16_210 rfl rfl rfl ?_
    refine aload_n (q1 := 212) d16_211 rfl rfl rfl ?_
    refine putfield (q1 := 215) d16_212 rfl (ww hw 89 rfl) Via.refl (F1) (X) (Or.inl (ww hw 90 rfl)) (ww hw 32 rfl) (ty := (.object "java/lang/CharSequence")) (by decide) rfl rfl (Or.inl own_in1) (fun h212 W212 => ?_)
    have f2 := F2.other W212 (Or.inr (slot_ne (Or.inl (ww hw 92 rfl)) (Or.inl (ww hw 90 rfl)) (by decide) (t := .int) (t' := (.object "java/lang/CharSequence")) (by decide) (by decide)))
    have f3 := F3.other W212 (Or.inr (slot_ne (Or.inl (ww hw 94 rfl)) (Or.inl (ww hw 90 rfl)) (by decide) (t := .int) (t' := (.object "java/lang/CharSequence")) (by decide) (by decide)))
    have f4 := F4.other W212 (Or.inr (slot_ne (Or.inl (ww hw 96 rfl)) (Or.inl (ww hw 90 rfl)) (by decide) (t := .int) (t' := (.object "java/lang/CharSequence")) (by decide) (by decide)))
    refine aload_n (q1 := 216) d16_215 rfl rfl rfl ?_
    refine iload_n (q1 := 217) d16_216 rfl rfl ?_
    refine putfield (q1 := 220) d16_217 rfl (ww hw 91 rfl) Via.refl (f2) (X.wr W212) (Or.inl (ww hw 92 rfl)) (ww hw 32 rfl) (ty := .int) (by decide) rfl rfl (Or.inl own_in1) (fun h217 W217 => ?_)
    have g1 := (F1.same W212).other W217 (Or.inr (slot_ne (Or.inl (ww hw 90 rfl)) (Or.inl (ww hw 92 rfl)) (by decide) (t := (.object "java/lang/CharSequence")) (t' := .int) (by decide) (by decide)))
    have g3 := f3.other W217 (Or.inr (slot_ne (Or.inl (ww hw 94 rfl)) (Or.inl (ww hw 92 rfl)) (by decide) (t := .int) (t' := .int) (by decide) (by decide)))
    have g4 := f4.other W217 (Or.inr (slot_ne (Or.inl (ww hw 96 rfl)) (Or.inl (ww hw 92 rfl)) (by decide) (t := .int) (t' := .int) (by decide) (by decide)))
    refine aload_n (q1 := 221) d16_220 rfl rfl rfl ?_
    refine lload_n (q1 := 222) d16_221 rfl rfl ?_
    refine l2i (q1 := 223) d16_222 rfl ?_
    refine putfield (q1 := 226) d16_223 rfl (ww hw 93 rfl) Via.refl (g3) ((X.wr W212).wr W217) (Or.inl (ww hw 94 rfl)) (ww hw 32 rfl) (ty := .int) (by decide) rfl rfl (Or.inl own_in1) (fun h223 W223 => ?_)
    have k1 := g1.other W223 (Or.inr (slot_ne (Or.inl (ww hw 90 rfl)) (Or.inl (ww hw 94 rfl)) (by decide) (t := (.object "java/lang/CharSequence")) (t' := .int) (by decide) (by decide)))
    have k4 := g4.other W223 (Or.inr (slot_ne (Or.inl (ww hw 96 rfl)) (Or.inl (ww hw 94 rfl)) (by decide) (t := .int) (t' := .int) (by decide) (by decide)))
    refine aload_n (q1 := 227) d16_226 rfl rfl rfl ?_
    refine iload (q1 := 229) d16_227 rfl rfl ?_
    refine iconst (q1 := 230) (v := 2) d16_229 rfl rfl ?_
    refine iadd (q1 := 231) d16_230 rfl ?_
    refine putfield (q1 := 234) d16_231 rfl (ww hw 95 rfl) Via.refl (k4) (((X.wr W212).wr W217).wr W223) (Or.inl (ww hw 96 rfl)) (ww hw 32 rfl) (ty := .int) (by decide) rfl rfl (Or.inl own_in1) (fun h231 W231 => ?_)
    refine iconst (q1 := 235) (v := 1) d16_234 rfl rfl ?_
    refine ret_n (t := .boolean) d16_235 rfl (by simp) rfl ⟨rfl, cI + 2, by rw [h2]; omega, (((X.wr W212).wr W217).wr W223).wr W231, k1.other W231 (Or.inr (slot_ne (Or.inl (ww hw 90 rfl)) (Or.inl (ww hw 96 rfl)) (by decide) (t := (.object "java/lang/CharSequence")) (t' := .int) (by decide) (by decide))), k4.same W231⟩
  have loop : ∀ (m' c' : Nat) (cI : Int32), c' + m' = cl → 2 ≤ c' → cI.toInt = (c' : Int) → Wp false p l e ({ frames := 4, cells := 0, slots := 0, locals := 60 } : Room) s m ([.ref r, .ref nm, .int 1] : List Value).toArray below meth c Z "com/example/bay3/bay3/form/RowFieldName" "readIndex" prog_21_method_5_code 10 (some .boolean) n0 h0 [r] (fun v h' => v = some (.int 1) ∧ ∃ fs : Int32, fs.toInt = ((cl + 2 : Nat) : Int) ∧ RowIs Z h' r nm fs) (fun _ => True) h0 0 0 33 [.val (.ref r), .val (.ref nm), .val (.int 1), .val (.long (ixf c')), .second, .val (.int cI), .val (.int (cf c')), .unset, .unset, .unset] [] := by
    intro m'
    induction m' with
    | zero =>
      intro c' cI hc h2 hcI
      obtain rfl : c' = cl := by omega
      rw [P3]
      refine iload (q1 := 35) d16_33 rfl rfl ?_
      refine bipush (q1 := 37) (v := 48) d16_35 rfl rfl ?_
      refine icmp_lt (q1 := 40) (q := 102) d16_37 rfl ⟨by decide, rfl⟩ (fun hq => absurd hq (by decide)) (fun _ => ?_)
      refine iload (q1 := 42) d16_40 rfl rfl ?_
      refine bipush (q1 := 44) (v := 57) d16_42 rfl rfl ?_
      refine icmp_gt (q1 := 47) (q := 102) d16_44 rfl ⟨by decide, rfl⟩ (fun _ => ?_) (fun hq => absurd (by decide) hq)
      refine iload (q1 := 104) d16_102 rfl rfl ?_
      refine iload_n (q1 := 105) d16_104 rfl rfl ?_
      refine isub (q1 := 106) d16_105 rfl ?_
      refine iconst (q1 := 107) (v := 1) d16_106 rfl rfl ?_
      refine isub (q1 := 108) d16_107 rfl ?_
      refine istore (q1 := 110) d16_108 rfl rfl ?_
      simp only [List.set_cons_zero, List.set_cons_succ]
      refine iload (q1 := 112) d16_110 rfl rfl ?_
      have d1 : (cI - 1).toInt = (c' : Int) - 1 := own_subI hcI one (by omega) (by omega)
      have d2 : (cI - 1 - 1).toInt = (c' : Int) - 1 - 1 := own_subI d1 one (by omega) (by omega)
      refine if_le (q1 := 115) (q := 147) d16_112 rfl ⟨by decide, rfl⟩ (fun hq => absurd (show 0 < cI - 1 - 1 by rw [own_lt, d2, zero]; omega) hq) (fun _ => ?_)
      refine lload_n (q1 := 116) d16_115 rfl rfl ?_
      refine ldc2J (q1 := 119) d16_116 rfl (ww hw 88 rfl) ?_
      refine lcmp (q1 := 120) d16_119 rfl ?_
      refine if_gt (q1 := 123) (q := 147) d16_120 rfl ⟨by decide, rfl⟩ (fun hq => absurd hq own_ixle) (fun _ => ?_)
      refine iload (q1 := 125) d16_123 rfl rfl ?_
      refine iconst (q1 := 126) (v := 1) d16_125 rfl rfl ?_
      refine icmp_eq (q1 := 129) (q := 143) d16_126 rfl ⟨by decide, rfl⟩ (fun _ => ?_) (fun _ => ?_)
      · exact done cI hcI
      · refine aload_n (q1 := 130) d16_129 rfl rfl rfl ?_
        refine iload_n (q1 := 131) d16_130 rfl rfl ?_
        refine iconst (q1 := 132) (v := 1) d16_131 rfl rfl ?_
        refine iadd (q1 := 133) d16_132 rfl ?_
        refine invokeface (q1 := 138) d16_133 rfl (ww hw 57 rfl) (ww hw 58 rfl) (ww hw 59 rfl) (ww hw 60 rfl) (ww hw 61 rfl) (ww hw 62 rfl) (ww hw 63 rfl) (ww hw 50 rfl) (ww hw 4 rfl) (ww hw 64 rfl) (by decide) rfl pd9 (B.1) (c_cha hw B S F (i := 2) rfl (by decide) (P5 2 (by decide))) rfl rfl rfl rfl all0 (fun v h' q _ => ?_)
        obtain ⟨rfl, rfl⟩ := q
        rw [P2 2 (by omega) (by omega)]
        refine bipush (q1 := 140) (v := 48) d16_138 rfl rfl ?_
        refine icmp_eq (q1 := 143) (q := 147) d16_140 rfl ⟨by decide, rfl⟩ (fun hq => absurd hq (by decide)) (fun _ => ?_)
        exact done cI hcI
    | succ m' ih =>
      intro c' cI hc h2 hcI
      rw [P2 c' h2 (by omega)]
      refine iload (q1 := 35) d16_33 rfl rfl ?_
      refine bipush (q1 := 37) (v := 48) d16_35 rfl rfl ?_
      refine icmp_lt (q1 := 40) (q := 102) d16_37 rfl ⟨by decide, rfl⟩ (fun hq => absurd hq (by decide)) (fun _ => ?_)
      refine iload (q1 := 42) d16_40 rfl rfl ?_
      refine bipush (q1 := 44) (v := 57) d16_42 rfl rfl ?_
      refine icmp_gt (q1 := 47) (q := 102) d16_44 rfl ⟨by decide, rfl⟩ (fun hq => absurd hq (by decide)) (fun _ => ?_)
      refine iload (q1 := 49) d16_47 rfl rfl ?_
      refine iload_n (q1 := 50) d16_49 rfl rfl ?_
      refine isub (q1 := 51) d16_50 rfl ?_
      refine bipush (q1 := 53) (v := 10) d16_51 rfl rfl ?_
      have d1 : (cI - 1).toInt = (c' : Int) - 1 := own_subI hcI one (by omega) (by omega)
      refine icmp_gt (q1 := 56) (q := 102) d16_53 rfl ⟨by decide, rfl⟩ (fun hq => absurd hq (by rw [own_lt, d1]; have : (10 : Int32).toInt = 10 := rfl; omega)) (fun _ => ?_)
      refine lload_n (q1 := 57) d16_56 rfl rfl ?_
      refine ldc2J (q1 := 60) d16_57 rfl (ww hw 86 rfl) ?_
      refine lmul (q1 := 61) d16_60 rfl ?_
      refine iload (q1 := 63) d16_61 rfl rfl ?_
      refine i2l (q1 := 64) d16_63 rfl ?_
      refine ladd (q1 := 65) d16_64 rfl ?_
      refine ldc2J (q1 := 68) d16_65 rfl (ww hw 87 rfl) ?_
      refine lsub (q1 := 69) d16_68 rfl ?_
      refine lstore_n (q1 := 70) (jj := 3) (jk := 4) d16_69 rfl rfl rfl rfl ?_
      simp only [List.set_cons_zero, List.set_cons_succ]
      refine iinc (q1 := 73) (v := 1) d16_70 rfl rfl rfl ?_
      simp only [List.set_cons_zero, List.set_cons_succ]
      refine iload (q1 := 75) d16_73 rfl rfl ?_
      refine aload_n (q1 := 76) d16_75 rfl rfl rfl ?_
      rw [own_ixf h2 (by omega)]
      have h1 : (cI + 1).toInt = ((c' + 1 : Nat) : Int) := own_succ hcI (by omega)
      refine invokeface (q1 := 81) d16_76 rfl (ww hw 43 rfl) (ww hw 44 rfl) (ww hw 45 rfl) (ww hw 46 rfl) (ww hw 47 rfl) (ww hw 48 rfl) (ww hw 49 rfl) (ww hw 50 rfl) (ww hw 4 rfl) (ww hw 51 rfl) (by decide) rfl pd7 (B.1) (c_len hw B S (lenI := 8) rfl) rfl rfl rfl rfl all0 (fun v h' q _ => ?_)
      obtain ⟨rfl, rfl⟩ := q
      refine icmp_ge (q1 := 84) (q := 95) d16_81 rfl ⟨by decide, rfl⟩ (fun hq => absurd (show cI + 1 < 8 by rw [own_lt, h1, e8]; omega) hq) (fun _ => ?_)
      refine aload_n (q1 := 85) d16_84 rfl rfl rfl ?_
      refine iload (q1 := 87) d16_85 rfl rfl ?_
      refine invokeface (q1 := 92) d16_87 rfl (ww hw 57 rfl) (ww hw 58 rfl) (ww hw 59 rfl) (ww hw 60 rfl) (ww hw 61 rfl) (ww hw 62 rfl) (ww hw 63 rfl) (ww hw 50 rfl) (ww hw 4 rfl) (ww hw 64 rfl) (by decide) rfl pd9 (B.1) (c_cha hw B S F h1 (by omega) (P5 (c' + 1) (by omega))) rfl rfl rfl rfl all0 (fun v h' q _ => ?_)
      obtain ⟨rfl, rfl⟩ := q
      refine goto (q := 97) d16_92 ⟨by decide, rfl⟩ ?_
      refine istore (q1 := 99) d16_97 rfl rfl ?_
      simp only [List.set_cons_zero, List.set_cons_succ]
      refine goto (q := 33) d16_99 ⟨by decide, rfl⟩ ?_
      exact ih (c' + 1) (cI + 1) (by omega) (by omega) h1
  refine lconst (q1 := 1) (v := 0) d16_0 rfl rfl ?_
  refine lstore_n (q1 := 2) (jj := 3) (jk := 4) d16_1 rfl rfl rfl rfl ?_
  simp only [List.set_cons_zero, List.set_cons_succ]
  refine iload_n (q1 := 3) d16_2 rfl rfl ?_
  refine iconst (q1 := 4) (v := 1) d16_3 rfl rfl ?_
  refine iadd (q1 := 5) d16_4 rfl ?_
  refine istore (q1 := 7) d16_5 rfl rfl ?_
  simp only [List.set_cons_zero, List.set_cons_succ]
  refine iload (q1 := 9) d16_7 rfl rfl ?_
  refine aload_n (q1 := 10) d16_9 rfl rfl rfl ?_
  refine invokeface (q1 := 15) d16_10 rfl (ww hw 43 rfl) (ww hw 44 rfl) (ww hw 45 rfl) (ww hw 46 rfl) (ww hw 47 rfl) (ww hw 48 rfl) (ww hw 49 rfl) (ww hw 50 rfl) (ww hw 4 rfl) (ww hw 51 rfl) (by decide) rfl pd7 (B.1) (c_len hw B S (lenI := 8) rfl) rfl rfl rfl rfl all0 (fun v h' q _ => ?_)
  obtain ⟨rfl, rfl⟩ := q
  refine icmp_ge (q1 := 18) (q := 29) d16_15 rfl ⟨by decide, rfl⟩ (fun hq => absurd (by decide) hq) (fun _ => ?_)
  refine aload_n (q1 := 19) d16_18 rfl rfl rfl ?_
  refine iload (q1 := 21) d16_19 rfl rfl ?_
  refine invokeface (q1 := 26) d16_21 rfl (ww hw 57 rfl) (ww hw 58 rfl) (ww hw 59 rfl) (ww hw 60 rfl) (ww hw 61 rfl) (ww hw 62 rfl) (ww hw 63 rfl) (ww hw 50 rfl) (ww hw 4 rfl) (ww hw 64 rfl) (by decide) rfl pd9 (B.1) (c_cha hw B S F (i := 2) rfl (by decide) (P5 2 (by decide))) rfl rfl rfl rfl all0 (fun v h' q _ => ?_)
  obtain ⟨rfl, rfl⟩ := q
  refine goto (q := 31) d16_26 ⟨by decide, rfl⟩ ?_
  refine istore (q1 := 33) d16_31 rfl rfl ?_
  simp only [List.set_cons_zero, List.set_cons_succ]
  exact loop (cl - 2) 2 (1 + 1) (by omega) (by omega) rfl
set_option maxRecDepth 65536 in
set_option maxHeartbeats 40000000 in
theorem c_rrd {l : Launch} {Z : State} {a0 : Array Value} (hw : ∀ d ∈ tables_1, d.before a0 Z = true) {n0 : Nat} {h0 : Heap} {r nm t : Addr} {cl : Nat} {cf : Nat → Int32} {z : Int32} {w u1 u2 u3 u4 : Value} (S : Cmpct Z z) (F : Siob Z w) (B : StrOf Z h0 nm 8 cf t) (P : Pat cf cl) (X : Exa Z h0 r "com/example/bay3/bay3/form/RowFieldName") (F1 : Fld Z h0 r "com/example/bay3/bay3/form/RowFieldName" "name" "Ljava/lang/CharSequence;" u1) (F2 : Fld Z h0 r "com/example/bay3/bay3/form/RowFieldName" "open" "I" u2) (F3 : Fld Z h0 r "com/example/bay3/bay3/form/RowFieldName" "index" "I" u3) (F4 : Fld Z h0 r "com/example/bay3/bay3/form/RowFieldName" "fieldStart" "I" u4) : Con l Z n0 (⟨"com/example/bay3/bay3/form/RowFieldName", "read", "(Ljava/lang/CharSequence;)Z"⟩ : MethodName) prog_21_method_3_code 3 (some .boolean) ({ frames := 5, cells := 0, slots := 0, locals := 82 } : Room) [.ref r, .ref nm] h0 [r] (fun v h' => v = some (.int 1) ∧ ∃ fs : Int32, fs.toInt = ((cl + 2 : Nat) : Int) ∧ RowIs Z h' r nm fs) := by
  refine Con.of (Ls := [.val (.ref r), .val (.ref nm), .unset]) (by decide +kernel) (fun m => by first | (simp [entryFrame, mkF, argsToLocals, Value.category]; done) | (rcases ref_cases hrw with rfl | ⟨b, rfl⟩ <;> rfl) | rfl) (fun p e s m below meth c => ?_)
  show Wp false p l e ({ frames := 5, cells := 0, slots := 0, locals := 82 } : Room) s m ([.ref r, .ref nm] : List Value).toArray below meth c Z "com/example/bay3/bay3/form/RowFieldName" "read" prog_21_method_3_code 3 (some .boolean) n0 h0 [r] (fun v h' => v = some (.int 1) ∧ ∃ fs : Int32, fs.toInt = ((cl + 2 : Nat) : Int) ∧ RowIs Z h' r nm fs) (fun _ => True) h0 0 0 0 [.val (.ref r), .val (.ref nm), .unset] []
  refine iconst (q1 := 1) (v := 0) d8_0 rfl rfl ?_
  refine istore_n (q1 := 2) (jj := 2) d8_1 rfl rfl rfl ?_
  simp only [List.set_cons_zero, List.set_cons_succ]
  refine iload_n (q1 := 3) d8_2 rfl rfl ?_
  refine aload_n (q1 := 4) d8_3 rfl rfl rfl ?_
  refine invokeface (q1 := 9) d8_4 rfl (ww hw 43 rfl) (ww hw 44 rfl) (ww hw 45 rfl) (ww hw 46 rfl) (ww hw 47 rfl) (ww hw 48 rfl) (ww hw 49 rfl) (ww hw 50 rfl) (ww hw 4 rfl) (ww hw 51 rfl) (by decide) rfl pd7 (B.1) (c_len hw B S (lenI := 8) rfl) rfl rfl rfl rfl all0 (fun v h' q _ => ?_)
  obtain ⟨rfl, rfl⟩ := q
  refine icmp_ge (q1 := 12) (q := 30) d8_9 rfl ⟨by decide, rfl⟩ (fun hq => absurd (by decide) hq) (fun _ => ?_)
  refine aload_n (q1 := 13) d8_12 rfl rfl rfl ?_
  refine iload_n (q1 := 14) d8_13 rfl rfl ?_
  refine invokeface (q1 := 19) d8_14 rfl (ww hw 57 rfl) (ww hw 58 rfl) (ww hw 59 rfl) (ww hw 60 rfl) (ww hw 61 rfl) (ww hw 62 rfl) (ww hw 63 rfl) (ww hw 50 rfl) (ww hw 4 rfl) (ww hw 64 rfl) (by decide) rfl pd9 (B.1) (c_cha hw B S F (i := 0) rfl (by decide) (P.2.2.2.2.2.1 0 (by decide))) rfl rfl rfl rfl all0 (fun v h' q _ => ?_)
  obtain ⟨rfl, rfl⟩ := q
  rw [P.1]
  refine bipush (q1 := 21) (v := 91) d8_19 rfl rfl ?_
  refine icmp_eq (q1 := 24) (q := 30) d8_21 rfl ⟨by decide, rfl⟩ (fun hq => absurd hq (by decide)) (fun _ => ?_)
  refine iinc (q1 := 27) (v := 1) d8_24 rfl rfl rfl ?_
  simp only [List.set_cons_zero, List.set_cons_succ]
  refine goto (q := 2) d8_27 ⟨by decide, rfl⟩ ?_
  refine iload_n (q1 := 3) d8_2 rfl rfl ?_
  refine aload_n (q1 := 4) d8_3 rfl rfl rfl ?_
  refine invokeface (q1 := 9) d8_4 rfl (ww hw 43 rfl) (ww hw 44 rfl) (ww hw 45 rfl) (ww hw 46 rfl) (ww hw 47 rfl) (ww hw 48 rfl) (ww hw 49 rfl) (ww hw 50 rfl) (ww hw 4 rfl) (ww hw 51 rfl) (by decide) rfl pd7 (B.1) (c_len hw B S (lenI := 8) rfl) rfl rfl rfl rfl all0 (fun v h' q _ => ?_)
  obtain ⟨rfl, rfl⟩ := q
  refine icmp_ge (q1 := 12) (q := 30) d8_9 rfl ⟨by decide, rfl⟩ (fun hq => absurd (by decide) hq) (fun _ => ?_)
  refine aload_n (q1 := 13) d8_12 rfl rfl rfl ?_
  refine iload_n (q1 := 14) d8_13 rfl rfl ?_
  refine invokeface (q1 := 19) d8_14 rfl (ww hw 57 rfl) (ww hw 58 rfl) (ww hw 59 rfl) (ww hw 60 rfl) (ww hw 61 rfl) (ww hw 62 rfl) (ww hw 63 rfl) (ww hw 50 rfl) (ww hw 4 rfl) (ww hw 64 rfl) (by decide) rfl pd9 (B.1) (c_cha hw B S F (i := 1) rfl (by decide) (P.2.2.2.2.2.1 1 (by decide))) rfl rfl rfl rfl all0 (fun v h' q _ => ?_)
  obtain ⟨rfl, rfl⟩ := q
  rw [P.2.1]
  refine bipush (q1 := 21) (v := 91) d8_19 rfl rfl ?_
  refine icmp_eq (q1 := 24) (q := 30) d8_21 rfl ⟨by decide, rfl⟩ (fun _ => ?_) (fun hq => absurd rfl hq)
  refine iload_n (q1 := 31) d8_30 rfl rfl ?_
  refine iconst (q1 := 32) (v := 1) d8_31 rfl rfl ?_
  refine icmp_lt (q1 := 35) (q := 58) d8_32 rfl ⟨by decide, rfl⟩ (fun hq => absurd hq (by decide)) (fun _ => ?_)
  refine iload_n (q1 := 36) d8_35 rfl rfl ?_
  refine aload_n (q1 := 37) d8_36 rfl rfl rfl ?_
  refine invokeface (q1 := 42) d8_37 rfl (ww hw 43 rfl) (ww hw 44 rfl) (ww hw 45 rfl) (ww hw 46 rfl) (ww hw 47 rfl) (ww hw 48 rfl) (ww hw 49 rfl) (ww hw 50 rfl) (ww hw 4 rfl) (ww hw 51 rfl) (by decide) rfl pd7 (B.1) (c_len hw B S (lenI := 8) rfl) rfl rfl rfl rfl all0 (fun v h' q _ => ?_)
  obtain ⟨rfl, rfl⟩ := q
  refine icmp_ge (q1 := 45) (q := 58) d8_42 rfl ⟨by decide, rfl⟩ (fun hq => absurd (by decide) hq) (fun _ => ?_)
  refine aload_n (q1 := 46) d8_45 rfl rfl rfl ?_
  refine aload_n (q1 := 47) d8_46 rfl rfl rfl ?_
  refine iload_n (q1 := 48) d8_47 rfl rfl ?_
  refine invokepriv (q1 := 51) d8_48 rfl (ww hw 82 rfl) (ww hw 83 rfl) (ww hw 32 rfl) (ww hw 84 rfl) (ww hw 33 rfl) (ww hw 85 rfl) (by decide) pd14 (X) (c_rix hw S F B P X F1 F2 F3 F4) rfl rfl rfl rfl (allS (Or.inl own_in1) all0) (fun v h' q _ => ?_)
  obtain ⟨rfl, Q1⟩ := q
  refine if_eq (q1 := 54) (q := 58) d8_51 rfl ⟨by decide, rfl⟩ (fun hq => absurd hq (by decide)) (fun _ => ?_)
  refine iconst (q1 := 55) (v := 1) d8_54 rfl rfl ?_
  refine goto (q := 59) d8_55 ⟨by decide, rfl⟩ ?_
  refine ret_n (t := .boolean) d8_59 rfl (by simp) rfl ⟨rfl, Q1⟩
open Classical in
set_option maxRecDepth 65536 in
set_option maxHeartbeats 40000000 in
theorem c_rho {l : Launch} {Z : State} {a0 : Array Value} (hw : ∀ d ∈ tables_1, d.before a0 Z = true) {n0 : Nat} {h0 : Heap} {nm t ar ta : Addr} {fs La : Nat} {cf ca : Nat → Int32} {fsI LI z : Int32} {w : Value} (S : Cmpct Z z) (F : Siob Z w) (B : StrOf Z h0 nm 8 cf t) (BA : StrOf Z h0 ar La ca ta) (hfs : fsI.toInt = (fs : Int)) (hLI : LI.toInt = (La : Int)) (hL : fs + La = 8) (hc : ∀ i, i < 8 → C8 (cf i)) (hca : ∀ i, i < La → C8 (ca i)) : Con l Z n0 (⟨"com/example/bay3/bay3/form/RowFieldName", "holds", "(Ljava/lang/CharSequence;Ljava/lang/String;I)Z"⟩ : MethodName) prog_21_method_10_code 4 (some .boolean) ({ frames := 4, cells := 0, slots := 0, locals := 60 } : Room) [.ref nm, .ref ar, .int fsI] h0 [] (fun v h' => v = some (.int (if ∀ i, i < La → cf (fs + i) = ca i then 1 else 0)) ∧ h' = h0) := by
  refine Con.of (Ls := [.val (.ref nm), .val (.ref ar), .val (.int fsI), .unset]) (by decide +kernel) (fun m => by first | (simp [entryFrame, mkF, argsToLocals, Value.category]; done) | (rcases ref_cases hrw with rfl | ⟨b, rfl⟩ <;> rfl) | rfl) (fun p e s m below meth c => ?_)
  show Wp false p l e ({ frames := 4, cells := 0, slots := 0, locals := 60 } : Room) s m ([.ref nm, .ref ar, .int fsI] : List Value).toArray below meth c Z "com/example/bay3/bay3/form/RowFieldName" "holds" prog_21_method_10_code 4 (some .boolean) n0 h0 [] (fun v h' => v = some (.int (if ∀ i, i < La → cf (fs + i) = ca i then 1 else 0)) ∧ h' = h0) (fun _ => True) h0 0 0 0 [.val (.ref nm), .val (.ref ar), .val (.int fsI), .unset] []
  have loop : ∀ (r i : Nat) (j : Int32), i + r = La → j.toInt = (i : Int) → (∀ i', i' < i → cf (fs + i') = ca i') → Wp false p l e ({ frames := 4, cells := 0, slots := 0, locals := 60 } : Room) s m ([.ref nm, .ref ar, .int fsI] : List Value).toArray below meth c Z "com/example/bay3/bay3/form/RowFieldName" "holds" prog_21_method_10_code 4 (some .boolean) n0 h0 [] (fun v h' => v = some (.int (if ∀ i, i < La → cf (fs + i) = ca i then 1 else 0)) ∧ h' = h0) (fun _ => True) h0 0 0 2 [.val (.ref nm), .val (.ref ar), .val (.int fsI), .val (.int j)] [] := by
    intro r
    induction r with
    | zero =>
      intro i j hi hj hall
      refine iload_n (q1 := 3) d18_2 rfl rfl ?_
      refine aload_n (q1 := 4) d18_3 rfl rfl rfl ?_
      refine invokevirt (q1 := 7) d18_4 rfl (ww hw 102 rfl) (ww hw 103 rfl) (ww hw 104 rfl) (ww hw 47 rfl) (ww hw 4 rfl) (ww hw 51 rfl) (by decide) pd7 (BA.1) (c_len hw BA S hLI) rfl rfl rfl rfl all0 (fun v h' q _ => ?_)
      obtain ⟨rfl, rfl⟩ := q
      refine icmp_ge (q1 := 10) (q := 33) d18_7 rfl ⟨by decide, rfl⟩ (fun _ => ?_) (fun hq => absurd hq (by rw [own_lt, hj, hLI]; omega))
      refine iload_n (q1 := 34) d18_33 rfl rfl ?_
      refine aload_n (q1 := 35) d18_34 rfl rfl rfl ?_
      refine invokevirt (q1 := 38) d18_35 rfl (ww hw 102 rfl) (ww hw 103 rfl) (ww hw 104 rfl) (ww hw 47 rfl) (ww hw 4 rfl) (ww hw 51 rfl) (by decide) pd7 (BA.1) (c_len hw BA S hLI) rfl rfl rfl rfl all0 (fun v h' q _ => ?_)
      obtain ⟨rfl, rfl⟩ := q
      refine icmp_ne (q1 := 41) (q := 45) d18_38 rfl ⟨by decide, rfl⟩ (fun hq => absurd (own_eq (by rw [hj, hLI]; omega)) hq) (fun _ => ?_)
      refine iconst (q1 := 42) (v := 1) d18_41 rfl rfl ?_
      refine goto (q := 46) d18_42 ⟨by decide, rfl⟩ ?_
      refine ret_n (t := .boolean) d18_46 rfl (by simp) rfl ?_
      rw [if_pos (fun i' hi' => hall i' (by omega))]; exact ⟨rfl, rfl⟩
    | succ r ih =>
      intro i j hi hj hall
      refine iload_n (q1 := 3) d18_2 rfl rfl ?_
      refine aload_n (q1 := 4) d18_3 rfl rfl rfl ?_
      refine invokevirt (q1 := 7) d18_4 rfl (ww hw 102 rfl) (ww hw 103 rfl) (ww hw 104 rfl) (ww hw 47 rfl) (ww hw 4 rfl) (ww hw 51 rfl) (by decide) pd7 (BA.1) (c_len hw BA S hLI) rfl rfl rfl rfl all0 (fun v h' q _ => ?_)
      obtain ⟨rfl, rfl⟩ := q
      refine icmp_ge (q1 := 10) (q := 33) d18_7 rfl ⟨by decide, rfl⟩ (fun hq => absurd (show j < LI by rw [own_lt, hj, hLI]; omega) hq) (fun _ => ?_)
      refine aload_n (q1 := 11) d18_10 rfl rfl rfl ?_
      refine iload_n (q1 := 12) d18_11 rfl rfl ?_
      refine iload_n (q1 := 13) d18_12 rfl rfl ?_
      refine iadd (q1 := 14) d18_13 rfl ?_
      refine invokeface (q1 := 19) d18_14 rfl (ww hw 57 rfl) (ww hw 58 rfl) (ww hw 59 rfl) (ww hw 60 rfl) (ww hw 61 rfl) (ww hw 62 rfl) (ww hw 63 rfl) (ww hw 50 rfl) (ww hw 4 rfl) (ww hw 64 rfl) (by decide) rfl pd9 (B.1) (c_cha hw B S F (i := fs + i) (by rw [own_addI hfs hj (by omega) (by omega)]; omega) (by omega) (hc _ (by omega))) rfl rfl rfl rfl all0 (fun v h' q _ => ?_)
      obtain ⟨rfl, rfl⟩ := q
      refine aload_n (q1 := 20) d18_19 rfl rfl rfl ?_
      refine iload_n (q1 := 21) d18_20 rfl rfl ?_
      refine invokevirt (q1 := 24) d18_21 rfl (ww hw 108 rfl) (ww hw 109 rfl) (ww hw 110 rfl) (ww hw 61 rfl) (ww hw 4 rfl) (ww hw 64 rfl) (by decide) pd9 (BA.1) (c_cha hw BA S F hj (by omega) (hca _ (by omega))) rfl rfl rfl rfl all0 (fun v h' q _ => ?_)
      obtain ⟨rfl, rfl⟩ := q
      refine icmp_ne (q1 := 27) (q := 33) d18_24 rfl ⟨by decide, rfl⟩ (fun hq => ?_) (fun hq => ?_)
      · refine iload_n (q1 := 34) d18_33 rfl rfl ?_
        refine aload_n (q1 := 35) d18_34 rfl rfl rfl ?_
        refine invokevirt (q1 := 38) d18_35 rfl (ww hw 102 rfl) (ww hw 103 rfl) (ww hw 104 rfl) (ww hw 47 rfl) (ww hw 4 rfl) (ww hw 51 rfl) (by decide) pd7 (BA.1) (c_len hw BA S hLI) rfl rfl rfl rfl all0 (fun v h' q _ => ?_)
        obtain ⟨rfl, rfl⟩ := q
        refine icmp_ne (q1 := 41) (q := 45) d18_38 rfl ⟨by decide, rfl⟩ (fun _ => ?_) (fun hq' => absurd hq' (fun e => by rw [e, hLI] at hj; omega))
        refine iconst (q1 := 46) (v := 0) d18_45 rfl rfl ?_
        refine ret_n (t := .boolean) d18_46 rfl (by simp) rfl ?_
        rw [if_neg (fun hall' => hq (hall' i (by omega)))]; exact ⟨rfl, rfl⟩
      · refine iinc (q1 := 30) (v := 1) d18_27 rfl rfl rfl ?_
        simp only [List.set_cons_zero, List.set_cons_succ]
        refine goto (q := 2) d18_30 ⟨by decide, rfl⟩ ?_
        refine ih (i + 1) (j + 1) (by omega) (own_succ hj (by omega)) (fun i' hi' => ?_)
        by_cases e : i' = i
        · subst e; exact hq
        · exact hall i' (by omega)
  refine iconst (q1 := 1) (v := 0) d18_0 rfl rfl ?_
  refine istore_n (q1 := 2) (jj := 3) d18_1 rfl rfl rfl ?_
  simp only [List.set_cons_zero, List.set_cons_succ]
  exact loop La 0 0 (by omega) rfl (fun i' hi' => absurd hi' (Nat.not_lt_zero i'))
open Classical in
set_option maxRecDepth 65536 in
set_option maxHeartbeats 40000000 in
theorem c_ris {l : Launch} {Z : State} {a0 : Array Value} (hw : ∀ d ∈ tables_1, d.before a0 Z = true) {n0 : Nat} {h0 : Heap} {r nm t ar ta : Addr} {fs La : Nat} {cf ca : Nat → Int32} {fsI LI z : Int32} {w : Value} (S : Cmpct Z z) (F : Siob Z w) (RI : RowIs Z h0 r nm fsI) (B : StrOf Z h0 nm 8 cf t) (BA : StrOf Z h0 ar La ca ta) (hfs : fsI.toInt = (fs : Int)) (hfs8 : fs ≤ 8) (hLI : LI.toInt = (La : Int)) (hL : La ≤ 8) (hc : ∀ i, i < 8 → C8 (cf i)) (hca : ∀ i, i < La → C8 (ca i)) : Con l Z n0 (⟨"com/example/bay3/bay3/form/RowFieldName", "isField", "(Ljava/lang/String;)Z"⟩ : MethodName) prog_21_method_9_code 2 (some .boolean) ({ frames := 5, cells := 0, slots := 0, locals := 76 } : Room) [.ref r, .ref ar] h0 [] (fun v h' => v = some (.int (if fs + La = 8 ∧ ∀ i, i < La → cf (fs + i) = ca i then 1 else 0)) ∧ h' = h0) := by
  refine Con.of (Ls := [.val (.ref r), .val (.ref ar)]) (by decide +kernel) (fun m => by first | (simp [entryFrame, mkF, argsToLocals, Value.category]; done) | (rcases ref_cases hrw with rfl | ⟨b, rfl⟩ <;> rfl) | rfl) (fun p e s m below meth c => ?_)
  show Wp false p l e ({ frames := 5, cells := 0, slots := 0, locals := 76 } : Room) s m ([.ref r, .ref ar] : List Value).toArray below meth c Z "com/example/bay3/bay3/form/RowFieldName" "isField" prog_21_method_9_code 2 (some .boolean) n0 h0 [] (fun v h' => v = some (.int (if fs + La = 8 ∧ ∀ i, i < La → cf (fs + i) = ca i then 1 else 0)) ∧ h' = h0) (fun _ => True) h0 0 0 0 [.val (.ref r), .val (.ref ar)] []
  have e8 : (8 : Int32).toInt = 8 := rfl
  have d : ((8 : Int32) - fsI).toInt = 8 - (fs : Int) := own_subI e8 hfs (by omega) (by omega)
  refine aload_n (q1 := 1) d17_0 rfl rfl rfl ?_
  refine getfield (q1 := 4) d17_1 rfl (ww hw 89 rfl) Via.refl (RI.2.1) ?_
  refine invokeface (q1 := 9) d17_4 rfl (ww hw 43 rfl) (ww hw 44 rfl) (ww hw 45 rfl) (ww hw 46 rfl) (ww hw 47 rfl) (ww hw 48 rfl) (ww hw 49 rfl) (ww hw 50 rfl) (ww hw 4 rfl) (ww hw 51 rfl) (by decide) rfl pd7 (B.1) (c_len hw B S (lenI := 8) rfl) rfl rfl rfl rfl all0 (fun v h' q _ => ?_)
  obtain ⟨rfl, rfl⟩ := q
  refine aload_n (q1 := 10) d17_9 rfl rfl rfl ?_
  refine getfield (q1 := 13) d17_10 rfl (ww hw 95 rfl) Via.refl (RI.2.2) ?_
  refine isub (q1 := 14) d17_13 rfl ?_
  refine aload_n (q1 := 15) d17_14 rfl rfl rfl ?_
  refine invokevirt (q1 := 18) d17_15 rfl (ww hw 102 rfl) (ww hw 103 rfl) (ww hw 104 rfl) (ww hw 47 rfl) (ww hw 4 rfl) (ww hw 51 rfl) (by decide) pd7 (BA.1) (c_len hw BA S hLI) rfl rfl rfl rfl all0 (fun v h' q _ => ?_)
  obtain ⟨rfl, rfl⟩ := q
  refine icmp_ne (q1 := 21) (q := 40) d17_18 rfl ⟨by decide, rfl⟩ (fun hq => ?_) (fun hq => ?_)
  · refine iconst (q1 := 41) (v := 0) d17_40 rfl rfl ?_
    refine ret_n (t := .boolean) d17_41 rfl (by simp) rfl ?_
    rw [if_neg (fun h => hq (own_eq (by rw [d, hLI]; omega)))]; exact ⟨rfl, rfl⟩
  · have hfl : fs + La = 8 := by rw [← hq, d] at hLI; omega
    refine aload_n (q1 := 22) d17_21 rfl rfl rfl ?_
    refine getfield (q1 := 25) d17_22 rfl (ww hw 89 rfl) Via.refl (RI.2.1) ?_
    refine aload_n (q1 := 26) d17_25 rfl rfl rfl ?_
    refine aload_n (q1 := 27) d17_26 rfl rfl rfl ?_
    refine getfield (q1 := 30) d17_27 rfl (ww hw 95 rfl) Via.refl (RI.2.2) ?_
    refine invokestatic (q1 := 33) d17_30 rfl (ww hw 105 rfl) (ww hw 106 rfl) (ww hw 33 rfl) (ww hw 107 rfl) (by decide) pd16 (c_rho hw S F B BA hfs hLI hfl hc hca) rfl rfl rfl rfl all0 (fun v h' q _ => ?_)
    obtain ⟨rfl, rfl⟩ := q
    by_cases hall : ∀ i, i < La → cf (fs + i) = ca i
    · rw [if_pos hall]
      refine if_eq (q1 := 36) (q := 40) d17_33 rfl ⟨by decide, rfl⟩ (fun hq => absurd hq (by decide)) (fun _ => ?_)
      refine iconst (q1 := 37) (v := 1) d17_36 rfl rfl ?_
      refine goto (q := 41) d17_37 ⟨by decide, rfl⟩ ?_
      refine ret_n (t := .boolean) d17_41 rfl (by simp) rfl ?_
      rw [if_pos ⟨hfl, hall⟩]; exact ⟨rfl, rfl⟩
    · rw [if_neg hall]
      refine if_eq (q1 := 36) (q := 40) d17_33 rfl ⟨by decide, rfl⟩ (fun _ => ?_) (fun hq => absurd rfl hq)
      refine iconst (q1 := 41) (v := 0) d17_40 rfl rfl ?_
      refine ret_n (t := .boolean) d17_41 rfl (by simp) rfl ?_
      rw [if_neg (fun h => hall h.2)]; exact ⟨rfl, rfl⟩
theorem own_and3 (x : Int32) : x &&& 3 = 0 ∨ x &&& 3 = 1 ∨ x &&& 3 = 2 ∨ x &&& 3 = 3 := by
  have h := c_mask x 3 2 (by decide) (by decide)
  have e : (x &&& 3).toInt = 0 ∨ (x &&& 3).toInt = 1 ∨ (x &&& 3).toInt = 2 ∨ (x &&& 3).toInt = 3 := by omega
  rcases e with e | e | e | e
  · exact Or.inl (own_eq e)
  · exact Or.inr (Or.inl (own_eq e))
  · exact Or.inr (Or.inr (Or.inl (own_eq e)))
  · exact Or.inr (Or.inr (Or.inr (own_eq e)))
theorem own_n3 (x : Int32) : (1 + (x &&& 2147483647) % 3 : Int32) = 1 ∨ (1 + (x &&& 2147483647) % 3 : Int32) = 2 ∨ (1 + (x &&& 2147483647) % 3 : Int32) = 3 := by
  have h := c_mask x 2147483647 31 (by decide) (by decide)
  have r := (c_irem (x &&& 2147483647) 3 3 rfl).1 (by omega)
  have a := c_iadd 1 ((x &&& 2147483647) % 3)
  have g := rng32 (1 + (x &&& 2147483647) % 3)
  have one : (1 : Int32).toInt = 1 := rfl
  have e : (1 + (x &&& 2147483647) % 3 : Int32).toInt = 1 ∨ (1 + (x &&& 2147483647) % 3 : Int32).toInt = 2 ∨ (1 + (x &&& 2147483647) % 3 : Int32).toInt = 3 := by omega
  rcases e with e | e | e
  · exact Or.inl (own_eq e)
  · exact Or.inr (Or.inl (own_eq e))
  · exact Or.inr (Or.inr (own_eq e))
theorem own_C8 (x : Int32) : C8 (x &&& 255) := by
  obtain ⟨n, h1, h2⟩ := own_and255 x
  exact ⟨by rw [h1]; omega, by rw [h1]; omega⟩
theorem C8.le {c : Int32} (h : C8 c) : ¬ (255 : Int32) < c := by
  rw [own_lt]; have : (255 : Int32).toInt = 255 := rfl; have := h.2; omega
def nmF (nn : Nat) (a b c : Int32) : Nat → Int32 := fun i => if i = 0 then 114 else if i = 1 then 91 else if i < 6 - nn then 53 else if i = 6 - nn then 93 else if i = 7 - nn then 46 else if i = 8 - nn then a else if i = 9 - nn then b else c
def arF (cx cy cz : Int32) : Nat → Int32 := fun i => if i = 0 then cx else if i = 1 then cy else cz
theorem own_pat {nn : Nat} {a b c : Int32} (hn : nn = 1 ∨ nn = 2 ∨ nn = 3) (ha : C8 a) (hb : C8 b) (hc : C8 c) : Pat (nmF nn a b c) (6 - nn) := by
  refine ⟨by simp [nmF], by simp [nmF], fun i h1 h2 => ?_, ?_, ?_, fun i hi => ?_, by omega, by omega⟩
  · unfold nmF; rw [if_neg (by omega), if_neg (by omega), if_pos h2]
  · unfold nmF; rw [if_neg (by omega), if_neg (by omega), if_neg (by omega), if_pos rfl]
  · unfold nmF; rw [if_neg (by omega), if_neg (by omega), if_neg (by omega), if_neg (by omega), if_pos (by omega)]
  · unfold nmF
    have k : ∀ z : Int32, z = 114 ∨ z = 91 ∨ z = 53 ∨ z = 93 ∨ z = 46 → C8 z := by
      intro z hz; rcases hz with rfl | rfl | rfl | rfl | rfl <;> exact ⟨by decide, by decide⟩
    by_cases e0 : i = 0
    · rw [if_pos e0]; exact k _ (by simp)
    · rw [if_neg e0]
      by_cases e1 : i = 1
      · rw [if_pos e1]; exact k _ (by simp)
      · rw [if_neg e1]
        by_cases e2 : i < 6 - nn
        · rw [if_pos e2]; exact k _ (by simp)
        · rw [if_neg e2]
          by_cases e3 : i = 6 - nn
          · rw [if_pos e3]; exact k _ (by simp)
          · rw [if_neg e3]
            by_cases e4 : i = 7 - nn
            · rw [if_pos e4]; exact k _ (by simp)
            · rw [if_neg e4]
              by_cases e5 : i = 8 - nn
              · rw [if_pos e5]; exact ha
              · rw [if_neg e5]
                by_cases e6 : i = 9 - nn
                · rw [if_pos e6]; exact hb
                · rw [if_neg e6]; exact hc
theorem own_arF {cx cy cz : Int32} (h1 : C8 cx) (h2 : C8 cy) (h3 : C8 cz) (i : Nat) : C8 (arF cx cy cz i) := by
  unfold arF
  by_cases e0 : i = 0
  · rw [if_pos e0]; exact h1
  · rw [if_neg e0]
    by_cases e1 : i = 1
    · rw [if_pos e1]; exact h2
    · rw [if_neg e1]; exact h3
def ev (nI lI cx cy cz a b c : Int32) : Int32 := if lI = nI then (if nI = 1 then (if cx = a then 1 else 0) else if nI = 2 then (if cx = a then (if cy = b then 1 else 0) else 0) else (if cx = a then (if cy = b then (if cz = c then 1 else 0) else 0) else 0)) else 0
theorem own_all1 {P : Nat → Prop} : (∀ i, i < 1 → P i) ↔ P 0 := ⟨fun h => h 0 (by decide), fun h i hi => by have e : i = 0 := (by omega); subst e; exact h⟩
theorem own_all2 {P : Nat → Prop} : (∀ i, i < 2 → P i) ↔ P 0 ∧ P 1 := ⟨fun h => ⟨h 0 (by decide), h 1 (by decide)⟩, fun h i hi => by
  have e : i = 0 ∨ i = 1 := (by omega)
  rcases e with rfl | rfl
  · exact h.1
  · exact h.2⟩
theorem own_all3 {P : Nat → Prop} : (∀ i, i < 3 → P i) ↔ P 0 ∧ P 1 ∧ P 2 := ⟨fun h => ⟨h 0 (by decide), h 1 (by decide), h 2 (by decide)⟩, fun h i hi => by
  have e : i = 0 ∨ i = 1 ∨ i = 2 := (by omega)
  rcases e with rfl | rfl | rfl
  · exact h.1
  · exact h.2.1
  · exact h.2.2⟩
open Classical in
theorem own_got {nn La : Nat} {nI lI cx cy cz a b c : Int32} (hn : (nn = 1 ∧ nI = 1) ∨ (nn = 2 ∧ nI = 2) ∨ (nn = 3 ∧ nI = 3)) (hl : (La = 0 ∧ lI = 0) ∨ (La = 1 ∧ lI = 1) ∨ (La = 2 ∧ lI = 2) ∨ (La = 3 ∧ lI = 3)) :
    (if (6 - nn + 2) + La = 8 ∧ ∀ i, i < La → nmF nn a b c (6 - nn + 2 + i) = arF cx cy cz i then (1 : Int32) else 0) = ev nI lI cx cy cz a b c := by
  rcases hn with ⟨rfl, rfl⟩ | ⟨rfl, rfl⟩ | ⟨rfl, rfl⟩ <;> rcases hl with ⟨rfl, rfl⟩ | ⟨rfl, rfl⟩ | ⟨rfl, rfl⟩ | ⟨rfl, rfl⟩
  all_goals first | (rw [if_neg (fun h => absurd h.1 (by decide))]; unfold ev; rw [if_neg (by decide)]; done) | skip
  · have q : (∀ i, i < 1 → nmF 1 a b c (6 - 1 + 2 + i) = arF cx cy cz i) ↔ cx = a := own_all1.trans ⟨fun h => by simpa [nmF, arF] using h.symm, fun h => by simp [nmF, arF, h]⟩
    unfold ev; simp only [q]; by_cases e : cx = a <;> simp [e]
  · have q : (∀ i, i < 2 → nmF 2 a b c (6 - 2 + 2 + i) = arF cx cy cz i) ↔ cx = a ∧ cy = b := own_all2.trans ⟨fun h => by simpa [nmF, arF, eq_comm] using h, fun h => by simp [nmF, arF, h]⟩
    unfold ev; simp only [q]; by_cases e : cx = a <;> by_cases e2 : cy = b <;> simp [e, e2]
  · have q : (∀ i, i < 3 → nmF 3 a b c (6 - 3 + 2 + i) = arF cx cy cz i) ↔ cx = a ∧ cy = b ∧ cz = c := own_all3.trans ⟨fun h => by simpa [nmF, arF, eq_comm] using h, fun h => by simp [nmF, arF, h]⟩
    unfold ev; simp only [q]; by_cases e : cx = a <;> by_cases e2 : cy = b <;> by_cases e3 : cz = c <;> simp [e, e2, e3]
open Classical in
set_option maxRecDepth 65536 in
set_option maxHeartbeats 40000000 in
theorem law {l : Launch} {Z : State} {a0 : Array Value} (hw : ∀ d ∈ tables_1, d.before a0 Z = true) {n0 : Nat} {h0 : Heap} {p1 p2 p3 p4 p5 p6 z : Int32} {w : Value} (S : Cmpct Z z) (F : Siob Z w) (LO : LitOk Z a0) : ConW l Z n0 x code maxLocals ret room_1 [.int p1, .int p2, .int p3, .int p4, .int p5, .int p6] h0 [] (fun vm => IB Z vm []) (fun v h' => v = some (.int 1)) := by
  refine ConW.of (Ls := [.val (.int p1), .val (.int p2), .val (.int p3), .val (.int p4), .val (.int p5), .val (.int p6), .unset, .unset, .unset, .unset, .unset, .unset, .unset, .unset, .unset, .unset, .unset, .unset, .unset, .unset, .unset]) (by decide +kernel) (fun m => by first | (simp [entryFrame, mkF, argsToLocals, Value.category, maxLocals]; done) | (rcases ref_cases hrw with rfl | ⟨b, rfl⟩ <;> rfl) | rfl) (fun p e s m below meth c => ?_)
  show Wp true p l e room_1 s m ([.int p1, .int p2, .int p3, .int p4, .int p5, .int p6] : List Value).toArray below meth c Z "com/example/bay3/bay3/form/RowFieldNameIsFieldPinLaw" "law" code maxLocals (some .boolean) n0 h0 [] (fun v h' => v = some (.int 1)) (fun vm => IB Z vm []) h0 0 0 0 [.val (.int p1), .val (.int p2), .val (.int p3), .val (.int p4), .val (.int p5), .val (.int p6), .unset, .unset, .unset, .unset, .unset, .unset, .unset, .unset, .unset, .unset, .unset, .unset, .unset, .unset, .unset] []
  have fin : ∀ (nI lI cx cy cz a b cc g : Int32) (na nm ar rr : Addr) (h : Heap), (nI = 1 ∨ nI = 2 ∨ nI = 3) → g = ev nI lI cx cy cz a b cc → Wp true p l e room_1 s m ([.int p1, .int p2, .int p3, .int p4, .int p5, .int p6] : List Value).toArray below meth c Z "com/example/bay3/bay3/form/RowFieldNameIsFieldPinLaw" "law" code maxLocals (some .boolean) n0 h0 [] (fun v h' => v = some (.int 1)) (fun _ => True) h 8 34 395 [.val (.int p1), .val (.int p2), .val (.int p3), .val (.int p4), .val (.int p5), .val (.int p6), .val (.int nI), .val (.int lI), .val (.int cx), .val (.int cy), .val (.int cz), .val (.int a), .val (.int b), .val (.int cc), .val (.ref na), .val (.ref nm), .val (.ref ar), .val (.ref rr), .val (.int 1), .val (.int g), .unset] [] := by
    intro nI lI cx cy cz a b cc g na nm ar rr h hn hg
    have end489 : ∀ x : Int32, g = x → Wp true p l e room_1 s m ([.int p1, .int p2, .int p3, .int p4, .int p5, .int p6] : List Value).toArray below meth c Z "com/example/bay3/bay3/form/RowFieldNameIsFieldPinLaw" "law" code maxLocals (some .boolean) n0 h0 [] (fun v h' => v = some (.int 1)) (fun _ => True) h 8 34 489 [.val (.int p1), .val (.int p2), .val (.int p3), .val (.int p4), .val (.int p5), .val (.int p6), .val (.int nI), .val (.int lI), .val (.int cx), .val (.int cy), .val (.int cz), .val (.int a), .val (.int b), .val (.int cc), .val (.ref na), .val (.ref nm), .val (.ref ar), .val (.ref rr), .val (.int 1), .val (.int g), .val (.int x)] [] := by
      intro x hx
      refine iload (q1 := 491) at_489 rfl rfl ?_
      refine if_eq (q1 := 494) (q := 505) at_491 rfl ⟨by decide, rfl⟩ (fun hq => absurd hq (by decide)) (fun _ => ?_)
      refine iload (q1 := 496) at_494 rfl rfl ?_
      refine iload (q1 := 498) at_496 rfl rfl ?_
      refine icmp_ne (q1 := 501) (q := 505) at_498 rfl ⟨by decide, rfl⟩ (fun hq => absurd hx hq) (fun _ => ?_)
      refine iconst (q1 := 502) (v := 1) at_501 rfl rfl ?_
      refine goto (q := 506) at_502 ⟨by decide, rfl⟩ ?_
      refine ret_n (t := .boolean) at_506 rfl (by simp) rfl rfl
    refine iload (q1 := 397) at_395 rfl rfl ?_
    refine iload (q1 := 399) at_397 rfl rfl ?_
    refine icmp_eq (q1 := 402) (q := 408) at_399 rfl ⟨by decide, rfl⟩ (fun hl => ?_) (fun hl => ?_)
    · refine iload (q1 := 410) at_408 rfl rfl ?_
      refine iconst (q1 := 411) (v := 1) at_410 rfl rfl ?_
      refine icmp_ne (q1 := 414) (q := 431) at_411 rfl ⟨by decide, rfl⟩ (fun hn1 => ?_) (fun hn1 => ?_)
      · refine iload (q1 := 433) at_431 rfl rfl ?_
        refine iconst (q1 := 434) (v := 2) at_433 rfl rfl ?_
        refine icmp_ne (q1 := 437) (q := 461) at_434 rfl ⟨by decide, rfl⟩ (fun hn2 => ?_) (fun hn2 => ?_)
        · have hn3 : nI = 3 := by rcases hn with q | q | q; exact absurd q hn1; exact absurd q hn2; exact q
          refine iload (q1 := 463) at_461 rfl rfl ?_
          refine iload (q1 := 465) at_463 rfl rfl ?_
          refine icmp_ne (q1 := 468) (q := 486) at_465 rfl ⟨by decide, rfl⟩ (fun e1 => ?_) (fun e1 => ?_)
          · refine iconst (q1 := 487) (v := 0) at_486 rfl rfl ?_
            refine istore (q1 := 489) at_487 rfl rfl ?_
            simp only [List.set_cons_zero, List.set_cons_succ]
            exact end489 0 (by rw [hg]; unfold ev; rw [if_pos hl, if_neg hn1, if_neg hn2, if_neg e1])
          · refine iload (q1 := 470) at_468 rfl rfl ?_
            refine iload (q1 := 472) at_470 rfl rfl ?_
            refine icmp_ne (q1 := 475) (q := 486) at_472 rfl ⟨by decide, rfl⟩ (fun e2 => ?_) (fun e2 => ?_)
            · refine iconst (q1 := 487) (v := 0) at_486 rfl rfl ?_
              refine istore (q1 := 489) at_487 rfl rfl ?_
              simp only [List.set_cons_zero, List.set_cons_succ]
              exact end489 0 (by rw [hg]; unfold ev; rw [if_pos hl, if_neg hn1, if_neg hn2, if_pos e1, if_neg e2])
            · refine iload (q1 := 477) at_475 rfl rfl ?_
              refine iload (q1 := 479) at_477 rfl rfl ?_
              refine icmp_ne (q1 := 482) (q := 486) at_479 rfl ⟨by decide, rfl⟩ (fun e3 => ?_) (fun e3 => ?_)
              · refine iconst (q1 := 487) (v := 0) at_486 rfl rfl ?_
                refine istore (q1 := 489) at_487 rfl rfl ?_
                simp only [List.set_cons_zero, List.set_cons_succ]
                exact end489 0 (by rw [hg]; unfold ev; rw [if_pos hl, if_neg hn1, if_neg hn2, if_pos e1, if_pos e2, if_neg e3])
              · refine iconst (q1 := 483) (v := 1) at_482 rfl rfl ?_
                refine goto (q := 487) at_483 ⟨by decide, rfl⟩ ?_
                refine istore (q1 := 489) at_487 rfl rfl ?_
                simp only [List.set_cons_zero, List.set_cons_succ]
                exact end489 1 (by rw [hg]; unfold ev; rw [if_pos hl, if_neg hn1, if_neg hn2, if_pos e1, if_pos e2, if_pos e3])
        · refine iload (q1 := 439) at_437 rfl rfl ?_
          refine iload (q1 := 441) at_439 rfl rfl ?_
          refine icmp_ne (q1 := 444) (q := 455) at_441 rfl ⟨by decide, rfl⟩ (fun e1 => ?_) (fun e1 => ?_)
          · refine iconst (q1 := 456) (v := 0) at_455 rfl rfl ?_
            refine istore (q1 := 458) at_456 rfl rfl ?_
            simp only [List.set_cons_zero, List.set_cons_succ]
            refine goto (q := 489) at_458 ⟨by decide, rfl⟩ ?_
            exact end489 0 (by rw [hg]; unfold ev; rw [if_pos hl, if_neg hn1, if_pos hn2, if_neg e1])
          · refine iload (q1 := 446) at_444 rfl rfl ?_
            refine iload (q1 := 448) at_446 rfl rfl ?_
            refine icmp_ne (q1 := 451) (q := 455) at_448 rfl ⟨by decide, rfl⟩ (fun e2 => ?_) (fun e2 => ?_)
            · refine iconst (q1 := 456) (v := 0) at_455 rfl rfl ?_
              refine istore (q1 := 458) at_456 rfl rfl ?_
              simp only [List.set_cons_zero, List.set_cons_succ]
              refine goto (q := 489) at_458 ⟨by decide, rfl⟩ ?_
              exact end489 0 (by rw [hg]; unfold ev; rw [if_pos hl, if_neg hn1, if_pos hn2, if_pos e1, if_neg e2])
            · refine iconst (q1 := 452) (v := 1) at_451 rfl rfl ?_
              refine goto (q := 456) at_452 ⟨by decide, rfl⟩ ?_
              refine istore (q1 := 458) at_456 rfl rfl ?_
              simp only [List.set_cons_zero, List.set_cons_succ]
              refine goto (q := 489) at_458 ⟨by decide, rfl⟩ ?_
              exact end489 1 (by rw [hg]; unfold ev; rw [if_pos hl, if_neg hn1, if_pos hn2, if_pos e1, if_pos e2])
      · refine iload (q1 := 416) at_414 rfl rfl ?_
        refine iload (q1 := 418) at_416 rfl rfl ?_
        refine icmp_ne (q1 := 421) (q := 425) at_418 rfl ⟨by decide, rfl⟩ (fun e1 => ?_) (fun e1 => ?_)
        · refine iconst (q1 := 426) (v := 0) at_425 rfl rfl ?_
          refine istore (q1 := 428) at_426 rfl rfl ?_
          simp only [List.set_cons_zero, List.set_cons_succ]
          refine goto (q := 489) at_428 ⟨by decide, rfl⟩ ?_
          exact end489 0 (by rw [hg]; unfold ev; rw [if_pos hl, if_pos hn1, if_neg e1])
        · refine iconst (q1 := 422) (v := 1) at_421 rfl rfl ?_
          refine goto (q := 426) at_422 ⟨by decide, rfl⟩ ?_
          refine istore (q1 := 428) at_426 rfl rfl ?_
          simp only [List.set_cons_zero, List.set_cons_succ]
          refine goto (q := 489) at_428 ⟨by decide, rfl⟩ ?_
          exact end489 1 (by rw [hg]; unfold ev; rw [if_pos hl, if_pos hn1, if_pos e1])
    · refine iconst (q1 := 403) (v := 0) at_402 rfl rfl ?_
      refine istore (q1 := 405) at_403 rfl rfl ?_
      simp only [List.set_cons_zero, List.set_cons_succ]
      refine goto (q := 489) at_405 ⟨by decide, rfl⟩ ?_
      exact end489 0 (by rw [hg]; unfold ev; rw [if_neg hl])
  have eph : ∀ (nI lI cx cy cz a b cc : Int32) (nn La : Nat) (na nm t ar ta : Addr) (h : Heap), ((nn = 1 ∧ nI = 1) ∨ (nn = 2 ∧ nI = 2) ∨ (nn = 3 ∧ nI = 3)) → ((La = 0 ∧ lI = 0) ∨ (La = 1 ∧ lI = 1) ∨ (La = 2 ∧ lI = 2) ∨ (La = 3 ∧ lI = 3)) → C8 cx → C8 cy → C8 cz → C8 a → C8 b → C8 cc → StrOf Z h nm 8 (nmF nn a b cc) t → StrOf Z h ar La (arF cx cy cz) ta → Wp true p l e room_1 s m ([.int p1, .int p2, .int p3, .int p4, .int p5, .int p6] : List Value).toArray below meth c Z "com/example/bay3/bay3/form/RowFieldNameIsFieldPinLaw" "law" code maxLocals (some .boolean) n0 h0 [] (fun v h' => v = some (.int 1)) (fun _ => True) h 7 30 368 [.val (.int p1), .val (.int p2), .val (.int p3), .val (.int p4), .val (.int p5), .val (.int p6), .val (.int nI), .val (.int lI), .val (.int cx), .val (.int cy), .val (.int cz), .val (.int a), .val (.int b), .val (.int cc), .val (.ref na), .val (.ref nm), .val (.ref ar), .unset, .unset, .unset, .unset] [] := by
    intro nI lI cx cy cz a b cc nn La na nm t ar ta h hn hl h1 h2 h3 h4 h5 h6 B BA
    have P := own_pat (nn := nn) (by omega) h4 h5 h6
    have hLI : lI.toInt = (La : Int) := by rcases hl with ⟨rfl, rfl⟩ | ⟨rfl, rfl⟩ | ⟨rfl, rfl⟩ | ⟨rfl, rfl⟩ <;> rfl
    refine new (q1 := 371) at_368 rfl (ww hw 31 rfl) (ww hw 32 rfl) (ww hw 33 rfl) (by decide) (by decide) (fun S368 h368 E368 X368 D368 U368 => ?_)
    refine Jvm.OwnWp.dup (q1 := 372) at_371 rfl rfl ?_
    refine invokespecial (q1 := 375) at_372 rfl rfl (ww hw 34 rfl) (ww hw 35 rfl) (ww hw 33 rfl) (ww hw 36 rfl) (by decide) pd2 (c_rfi hw) rfl rfl rfl rfl all0 (fun v h' q _ => ?_)
    obtain ⟨rfl, rfl⟩ := q
    refine astore (q1 := 377) at_375 rfl rfl rfl ?_
    simp only [List.set_cons_zero, List.set_cons_succ]
    refine aload (q1 := 379) at_377 rfl rfl rfl ?_
    refine aload (q1 := 381) at_379 rfl rfl rfl ?_
    have B1 := B.ext E368
    have BA1 := BA.ext E368
    refine invokevirt (q1 := 384) at_381 rfl (ww hw 38 rfl) (ww hw 39 rfl) (ww hw 41 rfl) (ww hw 40 rfl) (ww hw 33 rfl) (ww hw 42 rfl) (by decide) pd6 (X368) (c_rrd hw S F B1 P X368 (D368 (Or.inl (ww hw 90 rfl)) (ty := .object "java/lang/CharSequence") (by decide)) (D368 (Or.inl (ww hw 92 rfl)) (ty := .int) (by decide)) (D368 (Or.inl (ww hw 94 rfl)) (ty := .int) (by decide)) (D368 (Or.inl (ww hw 96 rfl)) (ty := .int) (by decide))) rfl rfl rfl rfl (allS (Or.inr S368) all0) (fun v h381 q K381 => ?_)
    obtain ⟨rfl, fs, hfs, RI⟩ := q
    have n1 : nm ∉ [h.size] := ninS (Nat.ne_of_lt B.1.lt) nin0
    have n2 : t ∉ [h.size] := ninS (Nat.ne_of_lt B.2.2.2.lt) nin0
    have n3 : ar ∉ [h.size] := ninS (Nat.ne_of_lt BA.1.lt) nin0
    have n4 : ta ∉ [h.size] := ninS (Nat.ne_of_lt BA.2.2.2.lt) nin0
    refine istore (q1 := 386) at_384 rfl rfl ?_
    simp only [List.set_cons_zero, List.set_cons_succ]
    refine aload (q1 := 388) at_386 rfl rfl rfl ?_
    refine aload (q1 := 390) at_388 rfl rfl rfl ?_
    refine invokevirt (q1 := 393) at_390 rfl (ww hw 97 rfl) (ww hw 98 rfl) (ww hw 100 rfl) (ww hw 99 rfl) (ww hw 33 rfl) (ww hw 101 rfl) (by decide) pd15 (RI.1) (c_ris hw S F RI (B1.keep K381 n1 n2) (BA1.keep K381 n3 n4) hfs (by omega) hLI (by omega) P.2.2.2.2.2.1 (fun i _ => own_arF h1 h2 h3 i)) rfl rfl rfl rfl all0 (fun v h' q _ => ?_)
    obtain ⟨rfl, rfl⟩ := q
    refine istore (q1 := 395) at_393 rfl rfl ?_
    simp only [List.set_cons_zero, List.set_cons_succ]
    exact fin nI lI cx cy cz a b cc _ _ _ _ _ _ (by rcases hn with q | q | q; exact Or.inl q.2; exact Or.inr (Or.inl q.2); exact Or.inr (Or.inr q.2)) (own_got hn hl)
  have dph : ∀ (nI lI cx cy cz a b cc : Int32) (nn : Nat) (na nm t : Addr) (h : Heap), ((nn = 1 ∧ nI = 1) ∨ (nn = 2 ∧ nI = 2) ∨ (nn = 3 ∧ nI = 3)) → (lI = 0 ∨ lI = 1 ∨ lI = 2 ∨ lI = 3) → C8 cx → C8 cy → C8 cz → C8 a → C8 b → C8 cc → StrOf Z h nm 8 (nmF nn a b cc) t → Wp true p l e room_1 s m ([.int p1, .int p2, .int p3, .int p4, .int p5, .int p6] : List Value).toArray below meth c Z "com/example/bay3/bay3/form/RowFieldNameIsFieldPinLaw" "law" code maxLocals (some .boolean) n0 h0 [] (fun v h' => v = some (.int 1)) (fun vm => IB Z vm []) h 3 20 273 [.val (.int p1), .val (.int p2), .val (.int p3), .val (.int p4), .val (.int p5), .val (.int p6), .val (.int nI), .val (.int lI), .val (.int cx), .val (.int cy), .val (.int cz), .val (.int a), .val (.int b), .val (.int cc), .val (.ref na), .val (.ref nm), .unset, .unset, .unset, .unset, .unset] [] := by
    intro nI lI cx cy cz a b cc nn na nm t h hn hl h1 h2 h3 h4 h5 h6 B
    have b1 := B.1.lt
    have b2 := B.2.2.2.lt
    refine iload (q1 := 275) at_273 rfl rfl ?_
    refine iconst (q1 := 276) (v := 3) at_275 rfl rfl ?_
    rcases hl with rfl | rfl | rfl | rfl
    · refine icmp_ne (q1 := 279) (q := 309) at_276 rfl ⟨by decide, rfl⟩ (fun _ => ?_) (fun hq => absurd hq (by decide))
      refine iload (q1 := 311) at_309 rfl rfl ?_
      refine iconst (q1 := 312) (v := 2) at_311 rfl rfl ?_
      refine icmp_ne (q1 := 315) (q := 340) at_312 rfl ⟨by decide, rfl⟩ (fun _ => ?_) (fun hq => absurd hq (by decide))
      refine iload (q1 := 342) at_340 rfl rfl ?_
      refine iconst (q1 := 343) (v := 1) at_342 rfl rfl ?_
      refine icmp_ne (q1 := 346) (q := 356) at_343 rfl ⟨by decide, rfl⟩ (fun _ => ?_) (fun hq => absurd hq (by decide))
      refine new (q1 := 359) at_356 rfl (ww hw 2 rfl) (ww hw 3 rfl) (ww hw 4 rfl) (by decide) (by decide) (fun S356 h356 E356 X356 D356 U356 => ?_)
      refine Jvm.OwnWp.dup (q1 := 360) at_359 rfl rfl ?_
      refine iconst (q1 := 361) (v := 0) at_360 rfl rfl ?_
      refine newarray (q1 := 363) (len := 0) (cap := 0) at_361 rfl (ww hw 1 rfl) rfl (by decide) (by decide) (by decide) (by decide) (fun S361 h361 E361 A361 => ?_)
      refine invokespecialW (q1 := 366) at_363 rfl rfl (ww hw 5 rfl) (ww hw 6 rfl) (ww hw 4 rfl) (ww hw 7 rfl) (by decide) pd0 (c_si1e hw (cf := arF cx cy cz) (X356.ext E361) ((D356 (Or.inr (ww hw 30 rfl)) (ty := .array .byte) (by decide)).ext E361) ((D356 (Or.inr (ww hw 28 rfl)) (ty := .byte) (by decide)).ext E361) A361 LO) rfl rfl rfl rfl (allS (Or.inr S356) all0) (stabIB) (fun v h363 q K363 => ?_)
      obtain ⟨rfl, ta, BA⟩ := q
      refine astore (q1 := 368) at_366 rfl rfl rfl ?_
      simp only [List.set_cons_zero, List.set_cons_succ]
      refine more (k' := 7) (n' := 30) (by decide) (by decide) ?_
      exact eph nI 0 cx cy cz a b cc nn 0 na nm t _ ta _ hn (by simp) h1 h2 h3 h4 h5 h6 (((B.ext E356).ext E361).keep K363 (ninS (Nat.ne_of_lt b1) nin0) (ninS (Nat.ne_of_lt b2) nin0)) BA
    · refine icmp_ne (q1 := 279) (q := 309) at_276 rfl ⟨by decide, rfl⟩ (fun _ => ?_) (fun hq => absurd hq (by decide))
      refine iload (q1 := 311) at_309 rfl rfl ?_
      refine iconst (q1 := 312) (v := 2) at_311 rfl rfl ?_
      refine icmp_ne (q1 := 315) (q := 340) at_312 rfl ⟨by decide, rfl⟩ (fun _ => ?_) (fun hq => absurd hq (by decide))
      refine iload (q1 := 342) at_340 rfl rfl ?_
      refine iconst (q1 := 343) (v := 1) at_342 rfl rfl ?_
      refine icmp_ne (q1 := 346) (q := 356) at_343 rfl ⟨by decide, rfl⟩ (fun hq => absurd rfl hq) (fun _ => ?_)
      refine iload (q1 := 348) at_346 rfl rfl ?_
      refine invokestatic (q1 := 351) at_348 rfl (ww hw 114 rfl) (ww hw 115 rfl) (ww hw 4 rfl) (ww hw 116 rfl) (by decide) pd17 (c_vof hw h1.le S) rfl rfl rfl rfl all0 (fun v h348 q K348 => ?_)
      obtain ⟨rfl, ta, BA⟩ := q
      refine astore (q1 := 353) at_351 rfl rfl rfl ?_
      simp only [List.set_cons_zero, List.set_cons_succ]
      refine goto (q := 368) at_353 ⟨by decide, rfl⟩ ?_
      refine more (k' := 7) (n' := 30) (by decide) (by decide) (wk (J := fun _ => True) (fun _ _ => trivial) ?_)
      exact eph nI 1 cx cy cz a b cc nn 1 na nm t _ ta _ hn (by simp) h1 h2 h3 h4 h5 h6 (B.keep K348 nin0 nin0) (BA.cong fun i hi => by have e : i = 0 := (by omega); subst e; rfl)
    · refine icmp_ne (q1 := 279) (q := 309) at_276 rfl ⟨by decide, rfl⟩ (fun _ => ?_) (fun hq => absurd hq (by decide))
      refine iload (q1 := 311) at_309 rfl rfl ?_
      refine iconst (q1 := 312) (v := 2) at_311 rfl rfl ?_
      refine icmp_ne (q1 := 315) (q := 340) at_312 rfl ⟨by decide, rfl⟩ (fun hq => absurd rfl hq) (fun _ => ?_)
      refine new (q1 := 318) at_315 rfl (ww hw 2 rfl) (ww hw 3 rfl) (ww hw 4 rfl) (by decide) (by decide) (fun S315 h315 E315 X315 D315 U315 => ?_)
      refine Jvm.OwnWp.dup (q1 := 319) at_318 rfl rfl ?_
      refine iconst (q1 := 320) (v := 2) at_319 rfl rfl ?_
      refine newarray (q1 := 322) (len := 2) (cap := 2) at_320 rfl (ww hw 1 rfl) rfl (by decide) (by decide) (by decide) (by decide) (fun S320 h320 E320 A320 => ?_)
      refine Jvm.OwnWp.dup (q1 := 323) at_322 rfl rfl ?_
      refine iconst (q1 := 324) (v := 0) at_323 rfl rfl ?_
      refine iload (q1 := 326) at_324 rfl rfl ?_
      refine castore (q1 := 327) (i := 0) at_326 rfl (A320) rfl (by decide) (Or.inr S320) (fun h326 W326 => ?_)
      refine Jvm.OwnWp.dup (q1 := 328) at_327 rfl rfl ?_
      refine iconst (q1 := 329) (v := 1) at_328 rfl rfl ?_
      refine iload (q1 := 331) at_329 rfl rfl ?_
      refine castore (q1 := 332) (i := 1) at_331 rfl (A320.same W326) rfl (by decide) (Or.inr S320) (fun h331 W331 => ?_)
      have V : Ary Z h331 h315.size .char 2 (fun i => .int (arF cx cy cz i)) := ((A320.same W326).same W331).cong (fun t ht => by
        have e : t = 0 ∨ t = 1 := (by omega)
        rcases e with rfl | rfl
        · simp [arF, own_nar8 h1.1 h1.2]
        · simp [arF, own_nar8 h2.1 h2.2])
      have ne : h.size ≠ h315.size := Nat.ne_of_lt X315.lt
      have q1 : nm ≠ h315.size := Nat.ne_of_lt (Nat.lt_of_lt_of_le b1 E315.1)
      have q2 : t ≠ h315.size := Nat.ne_of_lt (Nat.lt_of_lt_of_le b2 E315.1)
      refine invokespecial (q1 := 335) at_332 rfl rfl (ww hw 5 rfl) (ww hw 6 rfl) (ww hw 4 rfl) (ww hw 7 rfl) (by decide) pd0 (c_si1 hw (len := 2) (lenI := 2) rfl (by decide) (by decide) (((X315.ext E320).wr W326).wr W331) ((((D315 (Or.inr (ww hw 30 rfl)) (ty := .array .byte) (by decide)).ext E320).other W326 (Or.inl ne)).other W331 (Or.inl ne)) ((((D315 (Or.inr (ww hw 28 rfl)) (ty := .byte) (by decide)).ext E320).other W326 (Or.inl ne)).other W331 (Or.inl ne)) V (fun i _ => (own_arF h1 h2 h3 i).le) S) rfl rfl rfl rfl (allS (Or.inr S315) all0) (fun v h332 q K332 => ?_)
      obtain ⟨rfl, BA⟩ := q
      refine astore (q1 := 337) at_335 rfl rfl rfl ?_
      simp only [List.set_cons_zero, List.set_cons_succ]
      refine goto (q := 368) at_337 ⟨by decide, rfl⟩ ?_
      refine more (k' := 7) (n' := 30) (by decide) (by decide) (wk (J := fun _ => True) (fun _ _ => trivial) ?_)
      exact eph nI 2 cx cy cz a b cc nn 2 na nm t _ _ _ hn (by simp) h1 h2 h3 h4 h5 h6 (((((B.ext E315).ext E320).other W326 q1 q2).other W331 q1 q2).keep K332 (ninS (Nat.ne_of_lt b1) nin0) (ninS (Nat.ne_of_lt b2) nin0)) BA
    · refine icmp_ne (q1 := 279) (q := 309) at_276 rfl ⟨by decide, rfl⟩ (fun hq => absurd rfl hq) (fun _ => ?_)
      refine new (q1 := 282) at_279 rfl (ww hw 2 rfl) (ww hw 3 rfl) (ww hw 4 rfl) (by decide) (by decide) (fun S279 h279 E279 X279 D279 U279 => ?_)
      refine Jvm.OwnWp.dup (q1 := 283) at_282 rfl rfl ?_
      refine iconst (q1 := 284) (v := 3) at_283 rfl rfl ?_
      refine newarray (q1 := 286) (len := 3) (cap := 3) at_284 rfl (ww hw 1 rfl) rfl (by decide) (by decide) (by decide) (by decide) (fun S284 h284 E284 A284 => ?_)
      refine Jvm.OwnWp.dup (q1 := 287) at_286 rfl rfl ?_
      refine iconst (q1 := 288) (v := 0) at_287 rfl rfl ?_
      refine iload (q1 := 290) at_288 rfl rfl ?_
      refine castore (q1 := 291) (i := 0) at_290 rfl (A284) rfl (by decide) (Or.inr S284) (fun h290 W290 => ?_)
      refine Jvm.OwnWp.dup (q1 := 292) at_291 rfl rfl ?_
      refine iconst (q1 := 293) (v := 1) at_292 rfl rfl ?_
      refine iload (q1 := 295) at_293 rfl rfl ?_
      refine castore (q1 := 296) (i := 1) at_295 rfl (A284.same W290) rfl (by decide) (Or.inr S284) (fun h295 W295 => ?_)
      refine Jvm.OwnWp.dup (q1 := 297) at_296 rfl rfl ?_
      refine iconst (q1 := 298) (v := 2) at_297 rfl rfl ?_
      refine iload (q1 := 300) at_298 rfl rfl ?_
      refine castore (q1 := 301) (i := 2) at_300 rfl ((A284.same W290).same W295) rfl (by decide) (Or.inr S284) (fun h300 W300 => ?_)
      have V : Ary Z h300 h279.size .char 3 (fun i => .int (arF cx cy cz i)) := (((A284.same W290).same W295).same W300).cong (fun t ht => by
        have e : t = 0 ∨ t = 1 ∨ t = 2 := (by omega)
        rcases e with rfl | rfl | rfl
        · simp [arF, own_nar8 h1.1 h1.2]
        · simp [arF, own_nar8 h2.1 h2.2]
        · simp [arF, own_nar8 h3.1 h3.2])
      have ne : h.size ≠ h279.size := Nat.ne_of_lt X279.lt
      have q1 : nm ≠ h279.size := Nat.ne_of_lt (Nat.lt_of_lt_of_le b1 E279.1)
      have q2 : t ≠ h279.size := Nat.ne_of_lt (Nat.lt_of_lt_of_le b2 E279.1)
      refine invokespecial (q1 := 304) at_301 rfl rfl (ww hw 5 rfl) (ww hw 6 rfl) (ww hw 4 rfl) (ww hw 7 rfl) (by decide) pd0 (c_si1 hw (len := 3) (lenI := 3) rfl (by decide) (by decide) ((((X279.ext E284).wr W290).wr W295).wr W300) (((((D279 (Or.inr (ww hw 30 rfl)) (ty := .array .byte) (by decide)).ext E284).other W290 (Or.inl ne)).other W295 (Or.inl ne)).other W300 (Or.inl ne)) (((((D279 (Or.inr (ww hw 28 rfl)) (ty := .byte) (by decide)).ext E284).other W290 (Or.inl ne)).other W295 (Or.inl ne)).other W300 (Or.inl ne)) V (fun i _ => (own_arF h1 h2 h3 i).le) S) rfl rfl rfl rfl (allS (Or.inr S279) all0) (fun v h301 q K301 => ?_)
      obtain ⟨rfl, BA⟩ := q
      refine astore (q1 := 306) at_304 rfl rfl rfl ?_
      simp only [List.set_cons_zero, List.set_cons_succ]
      refine goto (q := 368) at_306 ⟨by decide, rfl⟩ ?_
      refine more (k' := 7) (n' := 30) (by decide) (by decide) (wk (J := fun _ => True) (fun _ _ => trivial) ?_)
      exact eph nI 3 cx cy cz a b cc nn 3 na nm t _ _ _ hn (by simp) h1 h2 h3 h4 h5 h6 ((((((B.ext E279).ext E284).other W290 q1 q2).other W295 q1 q2).other W300 q1 q2).keep K301 (ninS (Nat.ne_of_lt b1) nin0) (ninS (Nat.ne_of_lt b2) nin0)) BA
  have cph : ∀ (nI lI cx cy cz a b cc : Int32) (nn : Nat) (na : Addr) (h : Heap), ((nn = 1 ∧ nI = 1) ∨ (nn = 2 ∧ nI = 2) ∨ (nn = 3 ∧ nI = 3)) → (lI = 0 ∨ lI = 1 ∨ lI = 2 ∨ lI = 3) → C8 cx → C8 cy → C8 cz → C8 a → C8 b → C8 cc → Ary Z h na .char 8 (fun i => .int (nmF nn a b cc i)) → Wp true p l e room_1 s m ([.int p1, .int p2, .int p3, .int p4, .int p5, .int p6] : List Value).toArray below meth c Z "com/example/bay3/bay3/form/RowFieldNameIsFieldPinLaw" "law" code maxLocals (some .boolean) n0 h0 [] (fun v h' => v = some (.int 1)) (fun vm => IB Z vm []) h 1 8 262 [.val (.int p1), .val (.int p2), .val (.int p3), .val (.int p4), .val (.int p5), .val (.int p6), .val (.int nI), .val (.int lI), .val (.int cx), .val (.int cy), .val (.int cz), .val (.int a), .val (.int b), .val (.int cc), .val (.ref na), .unset, .unset, .unset, .unset, .unset, .unset] [] := by
    intro nI lI cx cy cz a b cc nn na h hn hl h1 h2 h3 h4 h5 h6 V
    have P := own_pat (nn := nn) (by omega) h4 h5 h6
    refine new (q1 := 265) at_262 rfl (ww hw 2 rfl) (ww hw 3 rfl) (ww hw 4 rfl) (by decide) (by decide) (fun S262 h262 E262 X262 D262 U262 => ?_)
    refine Jvm.OwnWp.dup (q1 := 266) at_265 rfl rfl ?_
    refine aload (q1 := 268) at_266 rfl rfl rfl ?_
    refine invokespecial (q1 := 271) at_268 rfl rfl (ww hw 5 rfl) (ww hw 6 rfl) (ww hw 4 rfl) (ww hw 7 rfl) (by decide) pd0 (c_si1 hw (len := 8) (lenI := 8) rfl (by decide) (by decide) X262 (D262 (Or.inr (ww hw 30 rfl)) (ty := .array .byte) (by decide)) (D262 (Or.inr (ww hw 28 rfl)) (ty := .byte) (by decide)) (V.ext E262) (fun i hi => (P.2.2.2.2.2.1 i hi).le) S) rfl rfl rfl rfl (allS (Or.inr S262) all0) (fun v h268 q K268 => ?_)
    obtain ⟨rfl, B⟩ := q
    refine astore (q1 := 273) at_271 rfl rfl rfl ?_
    simp only [List.set_cons_zero, List.set_cons_succ]
    exact dph nI lI cx cy cz a b cc nn na _ _ _ hn hl h1 h2 h3 h4 h5 h6 B
  have bph : ∀ (nI lI cx cy cz a b cc : Int32), (nI = 1 ∨ nI = 2 ∨ nI = 3) → (lI = 0 ∨ lI = 1 ∨ lI = 2 ∨ lI = 3) → C8 cx → C8 cy → C8 cz → C8 a → C8 b → C8 cc → Wp true p l e room_1 s m ([.int p1, .int p2, .int p3, .int p4, .int p5, .int p6] : List Value).toArray below meth c Z "com/example/bay3/bay3/form/RowFieldNameIsFieldPinLaw" "law" code maxLocals (some .boolean) n0 h0 [] (fun v h' => v = some (.int 1)) (fun vm => IB Z vm []) h0 0 0 112 [.val (.int p1), .val (.int p2), .val (.int p3), .val (.int p4), .val (.int p5), .val (.int p6), .val (.int nI), .val (.int lI), .val (.int cx), .val (.int cy), .val (.int cz), .val (.int a), .val (.int b), .val (.int cc), .unset, .unset, .unset, .unset, .unset, .unset, .unset] [] := by
    intro nI lI cx cy cz a b cc hn hl h1 h2 h3 h4 h5 h6
    have na := own_nar8 h4.1 h4.2
    have nb := own_nar8 h5.1 h5.2
    have nc := own_nar8 h6.1 h6.2
    have n1 : nar .char 114 = 114 := by decide
    have n2 : nar .char 91 = 91 := by decide
    have n3 : nar .char 53 = 53 := by decide
    have n4 : nar .char 93 = 93 := by decide
    have n5 : nar .char 46 = 46 := by decide
    refine bipush (q1 := 114) (v := 8) at_112 rfl rfl ?_
    refine newarray (q1 := 116) (len := 8) (cap := 8) at_114 rfl (ww hw 1 rfl) rfl (by decide) (by decide) (by decide) (by decide) (fun S114 h114 E114 A114 => ?_)
    refine astore (q1 := 118) at_116 rfl rfl rfl ?_
    simp only [List.set_cons_zero, List.set_cons_succ]
    refine aload (q1 := 120) at_118 rfl rfl rfl ?_
    refine iconst (q1 := 121) (v := 0) at_120 rfl rfl ?_
    refine bipush (q1 := 123) (v := 114) at_121 rfl rfl ?_
    refine castore (q1 := 124) (i := 0) at_123 rfl (A114) rfl (by decide) (Or.inr S114) (fun h123 W123 => ?_)
    refine aload (q1 := 126) at_124 rfl rfl rfl ?_
    refine iconst (q1 := 127) (v := 1) at_126 rfl rfl ?_
    refine bipush (q1 := 129) (v := 91) at_127 rfl rfl ?_
    refine castore (q1 := 130) (i := 1) at_129 rfl (A114.same W123) rfl (by decide) (Or.inr S114) (fun h129 W129 => ?_)
    have A2 := (A114.same W123).same W129
    refine iload (q1 := 132) at_130 rfl rfl ?_
    refine iconst (q1 := 133) (v := 3) at_132 rfl rfl ?_
    rcases hn with rfl | rfl | rfl
    · refine icmp_ne (q1 := 136) (q := 177) at_133 rfl ⟨by decide, rfl⟩ (fun _ => ?_) (fun hq => absurd hq (by decide))
      refine iload (q1 := 179) at_177 rfl rfl ?_
      refine iconst (q1 := 180) (v := 2) at_179 rfl rfl ?_
      refine icmp_ne (q1 := 183) (q := 224) at_180 rfl ⟨by decide, rfl⟩ (fun _ => ?_) (fun hq => absurd hq (by decide))
      refine aload (q1 := 226) at_224 rfl rfl rfl ?_
      refine iconst (q1 := 227) (v := 2) at_226 rfl rfl ?_
      refine bipush (q1 := 229) (v := 53) at_227 rfl rfl ?_
      refine castore (q1 := 230) (i := 2) at_229 rfl (A2) rfl (by decide) (Or.inr S114) (fun h229 W229 => ?_)
      have A3 := (A2).same W229
      refine aload (q1 := 232) at_230 rfl rfl rfl ?_
      refine iconst (q1 := 233) (v := 3) at_232 rfl rfl ?_
      refine bipush (q1 := 235) (v := 53) at_233 rfl rfl ?_
      refine castore (q1 := 236) (i := 3) at_235 rfl (A3) rfl (by decide) (Or.inr S114) (fun h235 W235 => ?_)
      have A4 := (A3).same W235
      refine aload (q1 := 238) at_236 rfl rfl rfl ?_
      refine iconst (q1 := 239) (v := 4) at_238 rfl rfl ?_
      refine bipush (q1 := 241) (v := 53) at_239 rfl rfl ?_
      refine castore (q1 := 242) (i := 4) at_241 rfl (A4) rfl (by decide) (Or.inr S114) (fun h241 W241 => ?_)
      have A5 := (A4).same W241
      refine aload (q1 := 244) at_242 rfl rfl rfl ?_
      refine iconst (q1 := 245) (v := 5) at_244 rfl rfl ?_
      refine bipush (q1 := 247) (v := 93) at_245 rfl rfl ?_
      refine castore (q1 := 248) (i := 5) at_247 rfl (A5) rfl (by decide) (Or.inr S114) (fun h247 W247 => ?_)
      have A6 := (A5).same W247
      refine aload (q1 := 250) at_248 rfl rfl rfl ?_
      refine bipush (q1 := 252) (v := 6) at_250 rfl rfl ?_
      refine bipush (q1 := 254) (v := 46) at_252 rfl rfl ?_
      refine castore (q1 := 255) (i := 6) at_254 rfl (A6) rfl (by decide) (Or.inr S114) (fun h254 W254 => ?_)
      have A7 := (A6).same W254
      refine aload (q1 := 257) at_255 rfl rfl rfl ?_
      refine bipush (q1 := 259) (v := 7) at_257 rfl rfl ?_
      refine iload (q1 := 261) at_259 rfl rfl ?_
      refine castore (q1 := 262) (i := 7) at_261 rfl (A7) rfl (by decide) (Or.inr S114) (fun h261 W261 => ?_)
      have A8 := (A7).same W261
      refine cph 1 lI cx cy cz a b cc 1 h0.size _ (by simp) hl h1 h2 h3 h4 h5 h6 (A8.cong fun t ht => ?_)
      have e : t = 0 ∨ t = 1 ∨ t = 2 ∨ t = 3 ∨ t = 4 ∨ t = 5 ∨ t = 6 ∨ t = 7 := (by omega)
      rcases e with rfl | rfl | rfl | rfl | rfl | rfl | rfl | rfl <;> simp [nmF, na, nb, nc, n1, n2, n3, n4, n5]
    · refine icmp_ne (q1 := 136) (q := 177) at_133 rfl ⟨by decide, rfl⟩ (fun _ => ?_) (fun hq => absurd hq (by decide))
      refine iload (q1 := 179) at_177 rfl rfl ?_
      refine iconst (q1 := 180) (v := 2) at_179 rfl rfl ?_
      refine icmp_ne (q1 := 183) (q := 224) at_180 rfl ⟨by decide, rfl⟩ (fun hq => absurd rfl hq) (fun _ => ?_)
      refine aload (q1 := 185) at_183 rfl rfl rfl ?_
      refine iconst (q1 := 186) (v := 2) at_185 rfl rfl ?_
      refine bipush (q1 := 188) (v := 53) at_186 rfl rfl ?_
      refine castore (q1 := 189) (i := 2) at_188 rfl (A2) rfl (by decide) (Or.inr S114) (fun h188 W188 => ?_)
      have A3 := (A2).same W188
      refine aload (q1 := 191) at_189 rfl rfl rfl ?_
      refine iconst (q1 := 192) (v := 3) at_191 rfl rfl ?_
      refine bipush (q1 := 194) (v := 53) at_192 rfl rfl ?_
      refine castore (q1 := 195) (i := 3) at_194 rfl (A3) rfl (by decide) (Or.inr S114) (fun h194 W194 => ?_)
      have A4 := (A3).same W194
      refine aload (q1 := 197) at_195 rfl rfl rfl ?_
      refine iconst (q1 := 198) (v := 4) at_197 rfl rfl ?_
      refine bipush (q1 := 200) (v := 93) at_198 rfl rfl ?_
      refine castore (q1 := 201) (i := 4) at_200 rfl (A4) rfl (by decide) (Or.inr S114) (fun h200 W200 => ?_)
      have A5 := (A4).same W200
      refine aload (q1 := 203) at_201 rfl rfl rfl ?_
      refine iconst (q1 := 204) (v := 5) at_203 rfl rfl ?_
      refine bipush (q1 := 206) (v := 46) at_204 rfl rfl ?_
      refine castore (q1 := 207) (i := 5) at_206 rfl (A5) rfl (by decide) (Or.inr S114) (fun h206 W206 => ?_)
      have A6 := (A5).same W206
      refine aload (q1 := 209) at_207 rfl rfl rfl ?_
      refine bipush (q1 := 211) (v := 6) at_209 rfl rfl ?_
      refine iload (q1 := 213) at_211 rfl rfl ?_
      refine castore (q1 := 214) (i := 6) at_213 rfl (A6) rfl (by decide) (Or.inr S114) (fun h213 W213 => ?_)
      have A7 := (A6).same W213
      refine aload (q1 := 216) at_214 rfl rfl rfl ?_
      refine bipush (q1 := 218) (v := 7) at_216 rfl rfl ?_
      refine iload (q1 := 220) at_218 rfl rfl ?_
      refine castore (q1 := 221) (i := 7) at_220 rfl (A7) rfl (by decide) (Or.inr S114) (fun h220 W220 => ?_)
      have A8 := (A7).same W220
      refine goto (q := 262) at_221 ⟨by decide, rfl⟩ ?_
      refine cph 2 lI cx cy cz a b cc 2 h0.size _ (by simp) hl h1 h2 h3 h4 h5 h6 (A8.cong fun t ht => ?_)
      have e : t = 0 ∨ t = 1 ∨ t = 2 ∨ t = 3 ∨ t = 4 ∨ t = 5 ∨ t = 6 ∨ t = 7 := (by omega)
      rcases e with rfl | rfl | rfl | rfl | rfl | rfl | rfl | rfl <;> simp [nmF, na, nb, nc, n1, n2, n3, n4, n5]
    · refine icmp_ne (q1 := 136) (q := 177) at_133 rfl ⟨by decide, rfl⟩ (fun hq => absurd rfl hq) (fun _ => ?_)
      refine aload (q1 := 138) at_136 rfl rfl rfl ?_
      refine iconst (q1 := 139) (v := 2) at_138 rfl rfl ?_
      refine bipush (q1 := 141) (v := 53) at_139 rfl rfl ?_
      refine castore (q1 := 142) (i := 2) at_141 rfl (A2) rfl (by decide) (Or.inr S114) (fun h141 W141 => ?_)
      have A3 := (A2).same W141
      refine aload (q1 := 144) at_142 rfl rfl rfl ?_
      refine iconst (q1 := 145) (v := 3) at_144 rfl rfl ?_
      refine bipush (q1 := 147) (v := 93) at_145 rfl rfl ?_
      refine castore (q1 := 148) (i := 3) at_147 rfl (A3) rfl (by decide) (Or.inr S114) (fun h147 W147 => ?_)
      have A4 := (A3).same W147
      refine aload (q1 := 150) at_148 rfl rfl rfl ?_
      refine iconst (q1 := 151) (v := 4) at_150 rfl rfl ?_
      refine bipush (q1 := 153) (v := 46) at_151 rfl rfl ?_
      refine castore (q1 := 154) (i := 4) at_153 rfl (A4) rfl (by decide) (Or.inr S114) (fun h153 W153 => ?_)
      have A5 := (A4).same W153
      refine aload (q1 := 156) at_154 rfl rfl rfl ?_
      refine iconst (q1 := 157) (v := 5) at_156 rfl rfl ?_
      refine iload (q1 := 159) at_157 rfl rfl ?_
      refine castore (q1 := 160) (i := 5) at_159 rfl (A5) rfl (by decide) (Or.inr S114) (fun h159 W159 => ?_)
      have A6 := (A5).same W159
      refine aload (q1 := 162) at_160 rfl rfl rfl ?_
      refine bipush (q1 := 164) (v := 6) at_162 rfl rfl ?_
      refine iload (q1 := 166) at_164 rfl rfl ?_
      refine castore (q1 := 167) (i := 6) at_166 rfl (A6) rfl (by decide) (Or.inr S114) (fun h166 W166 => ?_)
      have A7 := (A6).same W166
      refine aload (q1 := 169) at_167 rfl rfl rfl ?_
      refine bipush (q1 := 171) (v := 7) at_169 rfl rfl ?_
      refine iload (q1 := 173) at_171 rfl rfl ?_
      refine castore (q1 := 174) (i := 7) at_173 rfl (A7) rfl (by decide) (Or.inr S114) (fun h173 W173 => ?_)
      have A8 := (A7).same W173
      refine goto (q := 262) at_174 ⟨by decide, rfl⟩ ?_
      refine cph 3 lI cx cy cz a b cc 3 h0.size _ (by simp) hl h1 h2 h3 h4 h5 h6 (A8.cong fun t ht => ?_)
      have e : t = 0 ∨ t = 1 ∨ t = 2 ∨ t = 3 ∨ t = 4 ∨ t = 5 ∨ t = 6 ∨ t = 7 := (by omega)
      rcases e with rfl | rfl | rfl | rfl | rfl | rfl | rfl | rfl <;> simp [nmF, na, nb, nc, n1, n2, n3, n4, n5]
  refine iconst (q1 := 1) (v := 1) at_0 rfl rfl ?_
  refine iload_n (q1 := 2) at_1 rfl rfl ?_
  refine ldcI (q1 := 4) at_2 rfl (ww hw 0 rfl) ?_
  refine iand (q1 := 5) at_4 rfl ?_
  refine iconst (q1 := 6) (v := 3) at_5 rfl rfl ?_
  refine irem (q1 := 7) at_6 rfl (by decide) ?_
  refine iadd (q1 := 8) at_7 rfl ?_
  refine istore (q1 := 10) at_8 rfl rfl ?_
  simp only [List.set_cons_zero, List.set_cons_succ]
  refine iload_n (q1 := 11) at_10 rfl rfl ?_
  refine iconst (q1 := 12) (v := 3) at_11 rfl rfl ?_
  refine iand (q1 := 13) at_12 rfl ?_
  refine istore (q1 := 15) at_13 rfl rfl ?_
  simp only [List.set_cons_zero, List.set_cons_succ]
  refine iload_n (q1 := 16) at_15 rfl rfl ?_
  refine sipush (q1 := 19) (v := 255) at_16 rfl rfl ?_
  refine iand (q1 := 20) at_19 rfl ?_
  refine i2c (q1 := 21) at_20 rfl ?_
  refine istore (q1 := 23) at_21 rfl rfl ?_
  simp only [List.set_cons_zero, List.set_cons_succ]
  refine iload_n (q1 := 24) at_23 rfl rfl ?_
  refine sipush (q1 := 27) (v := 255) at_24 rfl rfl ?_
  refine iand (q1 := 28) at_27 rfl ?_
  refine i2c (q1 := 29) at_28 rfl ?_
  refine istore (q1 := 31) at_29 rfl rfl ?_
  simp only [List.set_cons_zero, List.set_cons_succ]
  refine iload (q1 := 33) at_31 rfl rfl ?_
  refine sipush (q1 := 36) (v := 255) at_33 rfl rfl ?_
  refine iand (q1 := 37) at_36 rfl ?_
  refine i2c (q1 := 38) at_37 rfl ?_
  refine istore (q1 := 40) at_38 rfl rfl ?_
  simp only [List.set_cons_zero, List.set_cons_succ]
  refine iload (q1 := 42) at_40 rfl rfl ?_
  refine iconst (q1 := 43) (v := 1) at_42 rfl rfl ?_
  refine iand (q1 := 44) at_43 rfl ?_
  rw [i2c_mask, i2c_mask, i2c_mask]
  have j62 : ∀ a : Int32, C8 a → Wp true p l e room_1 s m ([.int p1, .int p2, .int p3, .int p4, .int p5, .int p6] : List Value).toArray below meth c Z "com/example/bay3/bay3/form/RowFieldNameIsFieldPinLaw" "law" code maxLocals (some .boolean) n0 h0 [] (fun v h' => v = some (.int 1)) (fun vm => IB Z vm []) h0 0 0 62 [.val (.int p1), .val (.int p2), .val (.int p3), .val (.int p4), .val (.int p5), .val (.int p6), .val (.int (1 + (p1 &&& 2147483647) % 3)), .val (.int (p2 &&& 3)), .val (.int (p3 &&& 255)), .val (.int (p4 &&& 255)), .val (.int (p5 &&& 255)), .unset, .unset, .unset, .unset, .unset, .unset, .unset, .unset, .unset, .unset] [.int a] := by
    intro a ha
    refine istore (q1 := 64) at_62 rfl rfl ?_
    simp only [List.set_cons_zero, List.set_cons_succ]
    refine iload (q1 := 66) at_64 rfl rfl ?_
    refine iconst (q1 := 67) (v := 2) at_66 rfl rfl ?_
    refine iand (q1 := 68) at_67 rfl ?_
    have j86 : ∀ b : Int32, C8 b → Wp true p l e room_1 s m ([.int p1, .int p2, .int p3, .int p4, .int p5, .int p6] : List Value).toArray below meth c Z "com/example/bay3/bay3/form/RowFieldNameIsFieldPinLaw" "law" code maxLocals (some .boolean) n0 h0 [] (fun v h' => v = some (.int 1)) (fun vm => IB Z vm []) h0 0 0 86 [.val (.int p1), .val (.int p2), .val (.int p3), .val (.int p4), .val (.int p5), .val (.int p6), .val (.int (1 + (p1 &&& 2147483647) % 3)), .val (.int (p2 &&& 3)), .val (.int (p3 &&& 255)), .val (.int (p4 &&& 255)), .val (.int (p5 &&& 255)), .val (.int a), .unset, .unset, .unset, .unset, .unset, .unset, .unset, .unset, .unset] [.int b] := by
      intro b hb
      refine istore (q1 := 88) at_86 rfl rfl ?_
      simp only [List.set_cons_zero, List.set_cons_succ]
      refine iload (q1 := 90) at_88 rfl rfl ?_
      refine iconst (q1 := 91) (v := 4) at_90 rfl rfl ?_
      refine iand (q1 := 92) at_91 rfl ?_
      have j110 : ∀ cc : Int32, C8 cc → Wp true p l e room_1 s m ([.int p1, .int p2, .int p3, .int p4, .int p5, .int p6] : List Value).toArray below meth c Z "com/example/bay3/bay3/form/RowFieldNameIsFieldPinLaw" "law" code maxLocals (some .boolean) n0 h0 [] (fun v h' => v = some (.int 1)) (fun vm => IB Z vm []) h0 0 0 110 [.val (.int p1), .val (.int p2), .val (.int p3), .val (.int p4), .val (.int p5), .val (.int p6), .val (.int (1 + (p1 &&& 2147483647) % 3)), .val (.int (p2 &&& 3)), .val (.int (p3 &&& 255)), .val (.int (p4 &&& 255)), .val (.int (p5 &&& 255)), .val (.int a), .val (.int b), .unset, .unset, .unset, .unset, .unset, .unset, .unset, .unset] [.int cc] := by
        intro cc hc
        refine istore (q1 := 112) at_110 rfl rfl ?_
        simp only [List.set_cons_zero, List.set_cons_succ]
        exact bph _ _ _ _ _ a b cc (own_n3 p1) (own_and3 p2) (own_C8 p3) (own_C8 p4) (own_C8 p5) ha hb hc
      refine if_eq (q1 := 95) (q := 100) at_92 rfl ⟨by decide, rfl⟩ (fun _ => ?_) (fun _ => ?_)
      · refine iload (q1 := 102) at_100 rfl rfl ?_
        refine bipush (q1 := 104) (v := 24) at_102 rfl rfl ?_
        refine iushr (q1 := 105) at_104 rfl ?_
        refine sipush (q1 := 108) (v := 255) at_105 rfl rfl ?_
        refine iand (q1 := 109) at_108 rfl ?_
        refine i2c (q1 := 110) at_109 rfl ?_
        rw [i2c_mask]
        exact j110 _ (own_C8 _)
      · refine iload (q1 := 97) at_95 rfl rfl ?_
        refine goto (q := 110) at_97 ⟨by decide, rfl⟩ ?_
        exact j110 _ (own_C8 p5)
    refine if_eq (q1 := 71) (q := 76) at_68 rfl ⟨by decide, rfl⟩ (fun _ => ?_) (fun _ => ?_)
    · refine iload (q1 := 78) at_76 rfl rfl ?_
      refine bipush (q1 := 80) (v := 16) at_78 rfl rfl ?_
      refine iushr (q1 := 81) at_80 rfl ?_
      refine sipush (q1 := 84) (v := 255) at_81 rfl rfl ?_
      refine iand (q1 := 85) at_84 rfl ?_
      refine i2c (q1 := 86) at_85 rfl ?_
      rw [i2c_mask]
      exact j86 _ (own_C8 _)
    · refine iload (q1 := 73) at_71 rfl rfl ?_
      refine goto (q := 86) at_73 ⟨by decide, rfl⟩ ?_
      exact j86 _ (own_C8 p4)
  refine if_eq (q1 := 47) (q := 52) at_44 rfl ⟨by decide, rfl⟩ (fun _ => ?_) (fun _ => ?_)
  · refine iload (q1 := 54) at_52 rfl rfl ?_
    refine bipush (q1 := 56) (v := 8) at_54 rfl rfl ?_
    refine iushr (q1 := 57) at_56 rfl ?_
    refine sipush (q1 := 60) (v := 255) at_57 rfl rfl ?_
    refine iand (q1 := 61) at_60 rfl ?_
    refine i2c (q1 := 62) at_61 rfl ?_
    rw [i2c_mask]
    exact j62 _ (own_C8 _)
  · refine iload (q1 := 49) at_47 rfl rfl ?_
    refine goto (q := 62) at_49 ⟨by decide, rfl⟩ ?_
    exact j62 _ (own_C8 p3)
set_option maxRecDepth 65536 in
set_option maxHeartbeats 40000000 in
theorem comes_1 {Post : Tables → Env → Array Value → State → Outcome → State → Prop} (hpost : ∀ tb e args s v u, (limb_1_1.after args s (.returned v) u = true ∧ limb_1_2.after args s (.returned v) u = true ∧ True) → ReturnedEndW s (.returned v) u (Jvm.fieldLocs frame_1_writes args s ++ Jvm.arrayLocs frame_1_arrays args s ++ Jvm.staticLocs frame_1_statics s) 24 1216 → Post tb e args s (.returned v) u) :
    ArmFor flags0 classFile x code maxLocals ret World_1 tables_1 room_1 Calls_1 rest_1 Pre_1 Post := by
  intro l hfl _ _ p e ha hc hk s m args below hf hA hF happ hP
  obtain ⟨hcalls, hrest, hpre⟩ := hP
  obtain ⟨-, -, -, hnamed, -, -, -, hat⟩ := (Spec.applies_iff hf).mp happ
  obtain ⟨hg, hn⟩ := and_e (Cond.before_iff.mp (show (Jvm.Cond.and given_1 narrow_1).before args s = true from hpre))
  obtain ⟨g1, g2⟩ := and_e hg
  obtain ⟨g3, g4⟩ := and_e g2
  obtain ⟨g5, g6⟩ := and_e g4
  obtain ⟨g7, g8⟩ := and_e g6
  obtain ⟨g9, g10⟩ := and_e g8
  obtain ⟨g11, g12⟩ := and_e g10
  obtain ⟨w0, w1, w2, w3, w4, w5, rfl⟩ : ∃ w0 w1 w2 w3 w4 w5 : Value, args = #[w0, w1, w2, w3, w4, w5] := by
    have hs : args.size = 6 := by simpa [Cond.value, given_1] using g1
    obtain ⟨L⟩ := args
    match L, hs with
    | [w0, w1, w2, w3, w4, w5], _ => exact ⟨w0, w1, w2, w3, w4, w5, rfl⟩
  have hw := fun d (hd : d ∈ tables_1) => atoms_spec (ws := Jvm.Cond.code x code maxLocals ret :: tables_1) hat d (List.mem_cons_of_mem _ hd)
  have hfit : Fit s := fun {y c} hc i hi => by
    obtain ⟨ha, rfl⟩ := Array.getElem?_eq_some_iff.mp hc
    have q := List.all_eq_true.mp ((Array.all_eq_true_iff_forall_mem.mp hF) _ (Array.getElem_mem ha)) i (List.mem_range.mpr hi)
    simpa [Array.getElem?_eq_getElem hi] using q
  obtain ⟨hsets, hown0⟩ := atoms_of _ (rest_1_c_eq ▸ (show rest_1_c.before _ s = true from hrest))
  obtain ⟨i0, ei0⟩ := is_v g3
  obtain rfl : w0 = (.int i0) := Option.some.inj ei0
  obtain ⟨i1, ei1⟩ := is_v g5
  obtain rfl : w1 = (.int i1) := Option.some.inj ei1
  obtain ⟨i2, ei2⟩ := is_v g7
  obtain rfl : w2 = (.int i2) := Option.some.inj ei2
  obtain ⟨i3, ei3⟩ := is_v g9
  obtain rfl : w3 = (.int i3) := Option.some.inj ei3
  obtain ⟨i4, ei4⟩ := is_v g11
  obtain rfl : w4 = (.int i4) := Option.some.inj ei4
  obtain ⟨i5, ei5⟩ := is_v g12
  obtain rfl : w5 = (.int i5) := Option.some.inj ei5
  obtain ⟨z, ez⟩ := is_v (Cond.before_iff.mp (hsets _ (List.mem_of_getElem? (i := 1) rfl)))
  have S : Cmpct s z := ⟨Sta.start ez (Or.inl (hsets _ (List.mem_of_getElem? (i := 0) rfl))), gotF (Cond.eq_ints ez (Term.int_eval (0))) (not_v (Cond.before_iff.mp (hsets _ (List.mem_of_getElem? (i := 2) rfl))))⟩
  obtain ⟨wF, eF, rF⟩ := isR_v (Cond.before_iff.mp (hsets _ (List.mem_of_getElem? (i := 8) rfl)))
  have F : Siob s wF := ⟨Sta.start eF (Or.inl (hsets _ (List.mem_of_getElem? (i := 7) rfl))), rF⟩
  have LO : LitOk s _ := ⟨fun d hd => by
      simp only [Bundle.stringAtoms, List.mem_cons, List.not_mem_nil, or_false] at hd
      rcases hd with rfl | rfl | rfl | rfl | rfl | rfl | rfl
      · exact (ww hw 4 rfl)
      · exact (ww hw 3 rfl)
      · exact (ww hw 20 rfl)
      · exact (ww hw 30 rfl)
      · exact (ww hw 28 rfl)
      · exact (ww hw 112 rfl)
      · exact (ww hw 113 rfl), hcalls.1 ("java/lang/String", 7) (List.mem_singleton.mpr rfl), hsets _ (List.mem_of_getElem? (i := 2) rfl)⟩
  obtain ⟨n, o, h1, h2, h3, _, L, rfl, ⟨rfl, N, -⟩, hq⟩ := law (l := l) hw (p1 := i0) (p2 := i1) (p3 := i2) (p4 := i3) (p5 := i4) (p6 := i5) S F LO (Old.start s) all0 tables_1 p e ha hc hk s m _ below hf ((Spec.applies_iff_loose hf).mp happ).1 ⟨rfl, State.Warmed39.refl s, rfl, IB.start⟩ trivial
  refine ⟨n, _, h1, h2, h3, hpost _ _ _ _ _ _ ⟨Cond.after_iff.mpr rfl, Cond.after_iff.mpr (eq_i res_at (Term.int_eval (1)) rfl), trivial⟩ ⟨hq.1, hq.2.1, hq.2.2.1, (hq.2.2.2.sift fun y hy => Or.inr ((N y hy).elim (fun q => nomatch q) id)).mono (by decide) (by decide)⟩⟩
theorem main_1_1 : Claimed_1_1 := comes_1 fun _ _ _ _ _ _ h hF => ⟨h.1, hF⟩
theorem main_1_2 : Claimed_1_2 := comes_1 fun _ _ _ _ _ _ h hF => ⟨h.2.1, hF⟩
end Jvm.Pilot.@@N@@
namespace Jvm.Pilot.@@N@@
open Jvm Jvm.ClassFile Sem Op Lib Jvm.Free Jvm.Stand Jvm.Pilot.@@N@@.Jvm.D
/-! MADE BY PROGRAM (witnessworld.py) out of the Statement's table words and the real class files: 20 classes; the members and pool entries that the words name. The judged class is class 1, her method 1. -/
namespace start1
open Jvm.ClassFile
def u (s : String) : CpInfo := .utf8 (stringToUtf16 s)
/-- a pool by its gaps: so many unusable entries, then the entry; so many at the end -/
def gap : Nat → List CpInfo → List CpInfo
  | 0, r => r
  | n + 1, r => .unusable :: gap n r
def poolList (es : List (Nat × CpInfo)) (last : Nat) : List CpInfo := es.foldr (fun e r => gap e.1 (e.2 :: r)) (gap last [])
def pool (es : List (Nat × CpInfo)) (last : Nat) : Array CpInfo := ⟨poolList es last⟩
def fileOf (pool : Array CpInfo) (this : Nat) (attrs : Array Attribute := #[]) (ms : Array MethodInfo := #[]) (fl : Nat := 33) (sup : Nat := 0) (ifs : Array Nat := #[]) (fds : Array FieldInfo := #[]) : ClassFile where
  minorVersion := 0
  majorVersion := 65
  constantPool := pool
  accessFlags := fl
  thisClass := this
  superClass := sup
  interfaces := ifs
  fields := fds
  methods := ms
  attributes := attrs
def plain (name : String) (sup : Option ClassId) : Class where
  name := name
  kind := .ordinary
  loader := none
  accessFlags := 33
  super := sup
  interfaces := #[]
  cf := none
  fields := #[]
  methods := #[]
  instanceTypes := #[]
  staticTypes := #[]
  resolved := #[]
  callSites := []
  init := .initialized
  statics := none
  mirror := none

def pool0 : Array CpInfo := pool [(5, u "<init>"), (0, u "()V"), (1, .class_ 10), (1, u "java/lang/Object")] 113

def k0c0 : Code := { maxStack := 0, maxLocals := 1, code := object_method_1_code, exceptionTable := #[], attributes := #[] }
def k0m0 : Method := { name := "<init>", desc := "()V", sig := { parameters := [], returnType := none }, accessFlags := 1, code := some k0c0 }
/-- java/lang/Object -/
def k0 : Class := { plain "java/lang/Object" none with
  accessFlags := 33
  interfaces := #[]
  cf := some (fileOf pool0 8 #[] #[{ accessFlags := 1, nameIndex := 5, descriptorIndex := 6, attributes := #[] }] 33 0 #[] #[])
  fields := #[]
  methods := #[k0m0]
  instanceTypes := #[]
  staticTypes := #[]
  resolved := Array.replicate 124 none
  statics := none }

def pool1 : Array CpInfo := pool [(2, .class_ 4), (0, .nameAndType 5 6), (0, u "java/lang/Object"), (0, u "<init>"), (0, u "()V"), (0, .integer 2147483647), (0, .class_ 9), (0, u "java/lang/String"), (0, .methodref 8 11), (0, .nameAndType 5 12), (0, u "([C)V"), (0, .methodref 8 14), (0, .nameAndType 15 16), (0, u "valueOf"), (0, u "(C)Ljava/lang/String;"), (0, .class_ 18), (0, u "com/example/bay3/bay3/form/RowFieldName"), (0, .methodref 17 3), (0, .methodref 17 21), (0, .nameAndType 22 23), (0, u "read"), (0, u "(Ljava/lang/CharSequence;)Z"), (0, .methodref 17 25), (0, .nameAndType 26 27), (0, u "isField"), (0, u "(Ljava/lang/String;)Z"), (0, .class_ 29), (0, u "com/example/bay3/bay3/form/RowFieldNameIsFieldPinLaw"), (2, u "law"), (0, u "(IIIIII)Z")] 5

def k1m0 : Method := { name := "<init>", desc := "()V", sig := { parameters := [], returnType := none }, accessFlags := 1, code := none }
def k1c1 : Code := { maxStack := 6, maxLocals := 21, code := code, exceptionTable := #[], attributes := #[] }
def k1m1 : Method := { name := "law", desc := "(IIIIII)Z", sig := { parameters := [.int, .int, .int, .int, .int, .int], returnType := some .boolean }, accessFlags := 9, code := some k1c1 }
/-- com/example/bay3/bay3/form/RowFieldNameIsFieldPinLaw -/
def k1 : Class := { plain "com/example/bay3/bay3/form/RowFieldNameIsFieldPinLaw" (some 0) with
  accessFlags := 49
  interfaces := #[]
  cf := some (fileOf pool1 28 #[] #[{ accessFlags := 1, nameIndex := 5, descriptorIndex := 6, attributes := #[] }, { accessFlags := 9, nameIndex := 32, descriptorIndex := 33, attributes := #[] }] 49 2 #[] #[])
  fields := #[]
  methods := #[k1m0, k1m1]
  instanceTypes := #[]
  staticTypes := #[]
  resolved := Array.replicate 39 none
  statics := none }

def pool2 : Array CpInfo := pool [(1, .class_ 2), (0, u "java/io/Serializable"), (0, .class_ 4), (0, u "java/lang/Object")] 2

/-- java/io/Serializable -/
def k2 : Class := { plain "java/io/Serializable" (some 0) with
  accessFlags := 1537
  interfaces := #[]
  cf := some (fileOf pool2 1 #[] #[] 1537 3 #[] #[])
  fields := #[]
  methods := #[]
  instanceTypes := #[]
  staticTypes := #[]
  resolved := Array.replicate 7 none
  statics := none }

def pool3 : Array CpInfo := pool [(1, .class_ 2), (0, u "java/lang/Comparable"), (0, .class_ 4), (0, u "java/lang/Object")] 7

/-- java/lang/Comparable -/
def k3 : Class := { plain "java/lang/Comparable" (some 0) with
  accessFlags := 1537
  interfaces := #[]
  cf := some (fileOf pool3 1 #[] #[] 1537 3 #[] #[])
  fields := #[]
  methods := #[]
  instanceTypes := #[]
  staticTypes := #[]
  resolved := Array.replicate 12 none
  statics := none }

def pool4 : Array CpInfo := pool [(2, .class_ 4), (1, u "java/lang/CharSequence"), (0, u "length"), (0, u "()I"), (38, u "charAt"), (0, u "(I)C"), (0, .class_ 48), (0, u "java/lang/CharSequence$1CodePointIterator"), (10, .class_ 60), (0, u "java/lang/CharSequence$1CharIterator"), (5, .class_ 67), (0, u "java/lang/Object")] 63

def k4m0 : Method := { name := "length", desc := "()I", sig := { parameters := [], returnType := some .int }, accessFlags := 1025, code := none }
def k4m1 : Method := { name := "charAt", desc := "(I)C", sig := { parameters := [.int], returnType := some .char }, accessFlags := 1025, code := none }
/-- java/lang/CharSequence -/
def k4 : Class := { plain "java/lang/CharSequence" (some 0) with
  accessFlags := 1537
  interfaces := #[]
  cf := some (fileOf pool4 2 #[.nestMembers #[47, 59]] #[{ accessFlags := 1025, nameIndex := 5, descriptorIndex := 6, attributes := #[] }, { accessFlags := 1025, nameIndex := 45, descriptorIndex := 46, attributes := #[] }] 1537 66 #[] #[])
  fields := #[]
  methods := #[k4m0, k4m1]
  instanceTypes := #[]
  staticTypes := #[]
  resolved := Array.replicate 131 none
  statics := none }

def pool5 : Array CpInfo := pool [(1, .class_ 2), (0, u "java/lang/constant/Constable"), (0, .class_ 4), (0, u "java/lang/Object")] 6

/-- java/lang/constant/Constable -/
def k5 : Class := { plain "java/lang/constant/Constable" (some 0) with
  accessFlags := 1537
  interfaces := #[]
  cf := some (fileOf pool5 1 #[] #[] 1537 3 #[] #[])
  fields := #[]
  methods := #[]
  instanceTypes := #[]
  staticTypes := #[]
  resolved := Array.replicate 11 none
  statics := none }

def pool6 : Array CpInfo := pool [(1, .class_ 2), (0, u "java/lang/constant/ConstantDesc"), (0, .class_ 4), (0, u "java/lang/Object")] 32

/-- java/lang/constant/ConstantDesc -/
def k6 : Class := { plain "java/lang/constant/ConstantDesc" (some 0) with
  accessFlags := 1537
  interfaces := #[]
  cf := some (fileOf pool6 1 #[] #[] 1537 3 #[] #[])
  fields := #[]
  methods := #[]
  instanceTypes := #[]
  staticTypes := #[]
  resolved := Array.replicate 37 none
  statics := none }

def pool7 : Array CpInfo := pool [(1, .methodref 2 3), (0, .class_ 4), (0, .nameAndType 5 6), (0, u "java/lang/Object"), (0, u "<init>"), (0, u "()V"), (0, .string 8), (0, u ""), (0, .fieldref 10 11), (0, .class_ 12), (0, .nameAndType 13 14), (0, u "java/lang/String"), (0, u "value"), (0, u "[B"), (0, .fieldref 10 16), (0, .nameAndType 17 18), (0, u "coder"), (0, u "B"), (2, u "hash"), (0, u "I"), (2, u "hashIsZero"), (0, u "Z"), (0, .methodref 10 28), (0, .nameAndType 5 29), (0, u "([CIILjava/lang/Void;)V"), (8, .fieldref 10 39), (0, .nameAndType 40 26), (0, u "COMPACT_STRINGS"), (1, .class_ 44), (1, u "java/lang/StringUTF16"), (0, u "compress"), (1, .methodref 42 48), (0, .nameAndType 49 50), (0, u "coderFromArrayLen"), (0, u "([BI)B"), (2, u "toBytes"), (53, .class_ 109), (1, u "java/lang/StringLatin1"), (32, u "()Z"), (34, .methodref 42 178), (0, .nameAndType 45 179), (0, u "([CII)[B"), (29, .methodref 10 210), (0, .nameAndType 5 211), (0, u "([BB)V"), (122, u "()I"), (0, .methodref 10 336), (0, .nameAndType 17 337), (0, u "()B"), (25, u "([BI)C"), (5, u "(C)Z"), (21, u "(II)V"), (35, u "(I)C"), (64, .methodref 10 493), (0, .nameAndType 494 142), (0, u "isLatin1"), (0, .methodref 107 496), (0, .nameAndType 497 363), (0, u "charAt"), (3, u "checkIndex"), (5, u "length"), (67, .class_ 576), (0, u "java/lang/CharSequence"), (22, u "CASE_INSENSITIVE_ORDER"), (0, u "Ljava/util/Comparator;"), (181, u "valueOf"), (0, u "(C)Ljava/lang/String;"), (226, u "([C)V"), (4, .methodref 107 1016), (0, .nameAndType 1017 369), (0, u "canEncode"), (0, .methodref 107 1019), (0, .nameAndType 53 1020), (0, u "(C)[B"), (32, .fieldref 1054 1055), (0, .class_ 1056), (0, .nameAndType 1057 1058), (0, u "jdk/internal/util/Preconditions"), (0, u "SIOOBE_FORMATTER"), (0, u "Ljava/util/function/BiFunction;"), (0, .methodref 1054 1060), (0, .nameAndType 501 1061), (0, u "(IILjava/util/function/BiFunction;)I"), (39, u "serialPersistentFields"), (0, u "[Ljava/io/ObjectStreamField;"), (0, .class_ 1104), (0, u "java/lang/String$CaseInsensitiveComparator"), (1, .class_ 1107), (0, u "java/io/Serializable"), (0, .class_ 1109), (0, u "java/lang/Comparable"), (0, .class_ 1111), (0, u "java/lang/constant/Constable"), (0, .class_ 1113), (0, u "java/lang/constant/ConstantDesc"), (2, u "serialVersionUID"), (0, u "J"), (3, u "REPL"), (0, u "C"), (2, u "LATIN1"), (1, u "UTF16")] 323

def k7m0 : Method := { name := "<init>", desc := "()V", sig := { parameters := [], returnType := none }, accessFlags := 1, code := none }
def k7c1 : Code := { maxStack := 5, maxLocals := 2, code := jdk_42_method_3_code, exceptionTable := #[], attributes := #[] }
def k7m1 : Method := { name := "<init>", desc := "([C)V", sig := { parameters := [(.array .char)], returnType := none }, accessFlags := 1, code := some k7c1 }
def k7c2 : Code := { maxStack := 2, maxLocals := 1, code := jdk_42_method_54_code, exceptionTable := #[], attributes := #[] }
def k7m2 : Method := { name := "length", desc := "()I", sig := { parameters := [], returnType := some .int }, accessFlags := 1, code := some k7c2 }
def k7c3 : Code := { maxStack := 2, maxLocals := 2, code := jdk_42_method_56_code, exceptionTable := #[], attributes := #[] }
def k7m3 : Method := { name := "charAt", desc := "(I)C", sig := { parameters := [.int], returnType := some .char }, accessFlags := 1, code := some k7c3 }
def k7c4 : Code := { maxStack := 4, maxLocals := 1, code := jdk_42_method_139_code, exceptionTable := #[], attributes := #[] }
def k7m4 : Method := { name := "valueOf", desc := "(C)Ljava/lang/String;", sig := { parameters := [.char], returnType := some (.object "java/lang/String") }, accessFlags := 9, code := some k7c4 }
def k7c5 : Code := { maxStack := 4, maxLocals := 6, code := jdk_42_method_149_code, exceptionTable := #[], attributes := #[] }
def k7m5 : Method := { name := "<init>", desc := "([CIILjava/lang/Void;)V", sig := { parameters := [(.array .char), .int, .int, (.object "java/lang/Void")], returnType := none }, accessFlags := 2, code := some k7c5 }
def k7c6 : Code := { maxStack := 2, maxLocals := 3, code := jdk_42_method_151_code, exceptionTable := #[], attributes := #[] }
def k7m6 : Method := { name := "<init>", desc := "([BB)V", sig := { parameters := [(.array .byte), .byte], returnType := none }, accessFlags := 0, code := some k7c6 }
def k7c7 : Code := { maxStack := 1, maxLocals := 1, code := jdk_42_method_152_code, exceptionTable := #[], attributes := #[] }
def k7m7 : Method := { name := "coder", desc := "()B", sig := { parameters := [], returnType := some .byte }, accessFlags := 0, code := some k7c7 }
def k7c8 : Code := { maxStack := 1, maxLocals := 1, code := jdk_42_method_154_code, exceptionTable := #[], attributes := #[] }
def k7m8 : Method := { name := "isLatin1", desc := "()Z", sig := { parameters := [], returnType := some .boolean }, accessFlags := 0, code := some k7c8 }
def k7c9 : Code := { maxStack := 3, maxLocals := 2, code := jdk_42_method_155_code, exceptionTable := #[], attributes := #[] }
def k7m9 : Method := { name := "checkIndex", desc := "(II)V", sig := { parameters := [.int, .int], returnType := none }, accessFlags := 8, code := some k7c9 }
/-- java/lang/String -/
def k7 : Class := { plain "java/lang/String" (some 0) with
  accessFlags := 49
  interfaces := #[2, 3, 4, 5, 6]
  cf := some (fileOf pool7 10 #[.nestMembers #[1103]] #[{ accessFlags := 1, nameIndex := 5, descriptorIndex := 6, attributes := #[] }, { accessFlags := 1, nameIndex := 5, descriptorIndex := 1010, attributes := #[] }, { accessFlags := 1, nameIndex := 507, descriptorIndex := 334, attributes := #[] }, { accessFlags := 1, nameIndex := 497, descriptorIndex := 427, attributes := #[] }, { accessFlags := 9, nameIndex := 782, descriptorIndex := 783, attributes := #[] }, { accessFlags := 2, nameIndex := 5, descriptorIndex := 29, attributes := #[] }, { accessFlags := 0, nameIndex := 5, descriptorIndex := 211, attributes := #[] }, { accessFlags := 0, nameIndex := 17, descriptorIndex := 337, attributes := #[] }, { accessFlags := 0, nameIndex := 494, descriptorIndex := 142, attributes := #[] }, { accessFlags := 8, nameIndex := 501, descriptorIndex := 391, attributes := #[] }] 49 2 #[1106, 1108, 575, 1110, 1112] #[{ accessFlags := 18, nameIndex := 13, descriptorIndex := 14, attributes := #[] }, { accessFlags := 18, nameIndex := 17, descriptorIndex := 18, attributes := #[] }, { accessFlags := 2, nameIndex := 21, descriptorIndex := 22, attributes := #[] }, { accessFlags := 2, nameIndex := 25, descriptorIndex := 26, attributes := #[] }, { accessFlags := 26, nameIndex := 1116, descriptorIndex := 1117, attributes := #[] }, { accessFlags := 24, nameIndex := 40, descriptorIndex := 26, attributes := #[] }, { accessFlags := 26, nameIndex := 1101, descriptorIndex := 1102, attributes := #[] }, { accessFlags := 26, nameIndex := 1121, descriptorIndex := 1122, attributes := #[] }, { accessFlags := 25, nameIndex := 599, descriptorIndex := 600, attributes := #[] }, { accessFlags := 24, nameIndex := 1125, descriptorIndex := 18, attributes := #[] }, { accessFlags := 24, nameIndex := 1127, descriptorIndex := 18, attributes := #[] }])
  fields := #[{ name := "value", type := (.array .byte), accessFlags := 18, slot := 0, constantValue := 0 }, { name := "coder", type := .byte, accessFlags := 18, slot := 1, constantValue := 0 }, { name := "hash", type := .int, accessFlags := 2, slot := 2, constantValue := 0 }, { name := "hashIsZero", type := .boolean, accessFlags := 2, slot := 3, constantValue := 0 }, { name := "serialVersionUID", type := .long, accessFlags := 26, slot := 0, constantValue := 0 }, { name := "COMPACT_STRINGS", type := .boolean, accessFlags := 24, slot := 1, constantValue := 0 }, { name := "serialPersistentFields", type := (.array (.object "java/io/ObjectStreamField")), accessFlags := 26, slot := 2, constantValue := 0 }, { name := "REPL", type := .char, accessFlags := 26, slot := 3, constantValue := 0 }, { name := "CASE_INSENSITIVE_ORDER", type := (.object "java/util/Comparator"), accessFlags := 25, slot := 4, constantValue := 0 }, { name := "LATIN1", type := .byte, accessFlags := 24, slot := 5, constantValue := 0 }, { name := "UTF16", type := .byte, accessFlags := 24, slot := 6, constantValue := 0 }]
  methods := #[k7m0, k7m1, k7m2, k7m3, k7m4, k7m5, k7m6, k7m7, k7m8, k7m9]
  instanceTypes := #[(.array .byte), .byte, .int, .boolean]
  staticTypes := #[.long, .boolean, (.array (.object "java/io/ObjectStreamField")), .char, (.object "java/util/Comparator"), .byte, .byte]
  resolved := Array.replicate 1451 none
  statics := some 0 }

def pool8 : Array CpInfo := pool [(6, .class_ 8), (1, u "java/lang/Object"), (0, u "<init>"), (0, u "()V"), (1, .class_ 14), (1, u "java/lang/StringUTF16"), (31, u "$assertionsDisabled"), (0, u "Z"), (13, u "HI_BYTE_SHIFT"), (0, u "I"), (2, u "LO_BYTE_SHIFT"), (49, .methodref 12 116), (0, .nameAndType 117 118), (0, u "compress"), (0, u "([CI[BII)I"), (3, u "([CII)[B"), (138, u "coderFromArrayLen"), (0, u "([BI)B"), (106, .class_ 371), (1, u "java/lang/StringUTF16$LinesSpliterator"), (58, u "MAX_LENGTH"), (196, .class_ 628), (0, u "java/lang/StringUTF16$CodePointsSpliterator"), (0, .class_ 630), (0, u "java/lang/StringUTF16$CharsSpliterator")] 4

def k8m0 : Method := { name := "<init>", desc := "()V", sig := { parameters := [], returnType := none }, accessFlags := 0, code := none }
def k8c1 : Code := { maxStack := 2, maxLocals := 2, code := jdk_52_method_15_code, exceptionTable := #[], attributes := #[] }
def k8m1 : Method := { name := "coderFromArrayLen", desc := "([BI)B", sig := { parameters := [(.array .byte), .int], returnType := some .byte }, accessFlags := 8, code := some k8c1 }
def k8c2 : Code := { maxStack := 5, maxLocals := 6, code := jdk_52_method_16_code, exceptionTable := #[], attributes := #[] }
def k8m2 : Method := { name := "compress", desc := "([CII)[B", sig := { parameters := [(.array .char), .int, .int], returnType := some (.array .byte) }, accessFlags := 9, code := some k8c2 }
def k8c3 : Code := { maxStack := 3, maxLocals := 7, code := jdk_52_method_21_code, exceptionTable := #[], attributes := #[] }
def k8m3 : Method := { name := "compress", desc := "([CI[BII)I", sig := { parameters := [(.array .char), .int, (.array .byte), .int, .int], returnType := some .int }, accessFlags := 9, code := some k8c3 }
/-- java/lang/StringUTF16 -/
def k8 : Class := { plain "java/lang/StringUTF16" (some 0) with
  accessFlags := 48
  interfaces := #[]
  cf := some (fileOf pool8 12 #[.nestMembers #[627, 629, 369]] #[{ accessFlags := 0, nameIndex := 9, descriptorIndex := 10, attributes := #[] }, { accessFlags := 8, nameIndex := 261, descriptorIndex := 262, attributes := #[] }, { accessFlags := 9, nameIndex := 117, descriptorIndex := 122, attributes := #[] }, { accessFlags := 9, nameIndex := 117, descriptorIndex := 118, attributes := #[] }] 48 6 #[] #[{ accessFlags := 26, nameIndex := 61, descriptorIndex := 62, attributes := #[] }, { accessFlags := 26, nameIndex := 65, descriptorIndex := 62, attributes := #[] }, { accessFlags := 24, nameIndex := 430, descriptorIndex := 62, attributes := #[] }, { accessFlags := 4120, nameIndex := 46, descriptorIndex := 47, attributes := #[] }])
  fields := #[{ name := "HI_BYTE_SHIFT", type := .int, accessFlags := 26, slot := 0, constantValue := 0 }, { name := "LO_BYTE_SHIFT", type := .int, accessFlags := 26, slot := 1, constantValue := 0 }, { name := "MAX_LENGTH", type := .int, accessFlags := 24, slot := 2, constantValue := 0 }, { name := "$assertionsDisabled", type := .boolean, accessFlags := 4120, slot := 3, constantValue := 0 }]
  methods := #[k8m0, k8m1, k8m2, k8m3]
  instanceTypes := #[]
  staticTypes := #[.int, .int, .int, .boolean]
  resolved := Array.replicate 635 none
  statics := none }

def pool9 : Array CpInfo := pool [(1, .methodref 2 3), (0, .class_ 4), (0, .nameAndType 5 6), (0, u "java/lang/Object"), (0, u "<init>"), (0, u "()V"), (4, .interfaceMethodref 12 13), (0, .class_ 14), (0, .nameAndType 15 16), (0, u "java/lang/CharSequence"), (0, u "length"), (0, u "()I"), (0, .interfaceMethodref 12 18), (0, .nameAndType 19 20), (0, u "charAt"), (0, u "(I)C"), (0, .methodref 22 23), (0, .class_ 24), (0, .nameAndType 25 26), (0, u "com/example/bay3/bay3/form/RowFieldName"), (0, u "readIndex"), (0, u "(Ljava/lang/CharSequence;I)Z"), (0, .methodref 28 13), (0, .class_ 29), (0, u "java/lang/String"), (0, .methodref 22 31), (0, .nameAndType 32 33), (0, u "holds"), (0, u "(Ljava/lang/CharSequence;Ljava/lang/String;I)Z"), (0, .long 10), (1, .long 48), (3, .long 2147483647), (1, .fieldref 22 43), (0, .nameAndType 44 45), (0, u "name"), (0, u "Ljava/lang/CharSequence;"), (0, .fieldref 22 47), (0, .nameAndType 48 49), (0, u "open"), (0, u "I"), (0, .fieldref 22 51), (0, .nameAndType 52 49), (0, u "index"), (0, .fieldref 22 54), (0, .nameAndType 55 49), (0, u "fieldStart"), (8, .methodref 28 18), (0, u "MOST_DIGITS"), (5, u "read"), (0, u "(Ljava/lang/CharSequence;)Z"), (4, u "isField"), (0, u "(Ljava/lang/String;)Z")] 17

def k9c0 : Code := { maxStack := 1, maxLocals := 1, code := prog_21_method_1_code, exceptionTable := #[], attributes := #[] }
def k9m0 : Method := { name := "<init>", desc := "()V", sig := { parameters := [], returnType := none }, accessFlags := 0, code := some k9c0 }
def k9c1 : Code := { maxStack := 3, maxLocals := 3, code := prog_21_method_3_code, exceptionTable := #[], attributes := #[] }
def k9m1 : Method := { name := "read", desc := "(Ljava/lang/CharSequence;)Z", sig := { parameters := [(.object "java/lang/CharSequence")], returnType := some .boolean }, accessFlags := 0, code := some k9c1 }
def k9c2 : Code := { maxStack := 4, maxLocals := 10, code := prog_21_method_5_code, exceptionTable := #[], attributes := #[] }
def k9m2 : Method := { name := "readIndex", desc := "(Ljava/lang/CharSequence;I)Z", sig := { parameters := [(.object "java/lang/CharSequence"), .int], returnType := some .boolean }, accessFlags := 2, code := some k9c2 }
def k9c3 : Code := { maxStack := 3, maxLocals := 2, code := prog_21_method_9_code, exceptionTable := #[], attributes := #[] }
def k9m3 : Method := { name := "isField", desc := "(Ljava/lang/String;)Z", sig := { parameters := [(.object "java/lang/String")], returnType := some .boolean }, accessFlags := 0, code := some k9c3 }
def k9c4 : Code := { maxStack := 3, maxLocals := 4, code := prog_21_method_10_code, exceptionTable := #[], attributes := #[] }
def k9m4 : Method := { name := "holds", desc := "(Ljava/lang/CharSequence;Ljava/lang/String;I)Z", sig := { parameters := [(.object "java/lang/CharSequence"), (.object "java/lang/String"), .int], returnType := some .boolean }, accessFlags := 10, code := some k9c4 }
/-- com/example/bay3/bay3/form/RowFieldName -/
def k9 : Class := { plain "com/example/bay3/bay3/form/RowFieldName" (some 0) with
  accessFlags := 32
  interfaces := #[]
  cf := some (fileOf pool9 22 #[] #[{ accessFlags := 0, nameIndex := 5, descriptorIndex := 6, attributes := #[] }, { accessFlags := 0, nameIndex := 71, descriptorIndex := 72, attributes := #[] }, { accessFlags := 2, nameIndex := 25, descriptorIndex := 26, attributes := #[] }, { accessFlags := 0, nameIndex := 77, descriptorIndex := 78, attributes := #[] }, { accessFlags := 10, nameIndex := 32, descriptorIndex := 33, attributes := #[] }] 32 2 #[] #[{ accessFlags := 26, nameIndex := 65, descriptorIndex := 49, attributes := #[] }, { accessFlags := 2, nameIndex := 44, descriptorIndex := 45, attributes := #[] }, { accessFlags := 2, nameIndex := 48, descriptorIndex := 49, attributes := #[] }, { accessFlags := 2, nameIndex := 52, descriptorIndex := 49, attributes := #[] }, { accessFlags := 2, nameIndex := 55, descriptorIndex := 49, attributes := #[] }])
  fields := #[{ name := "MOST_DIGITS", type := .int, accessFlags := 26, slot := 0, constantValue := 0 }, { name := "name", type := (.object "java/lang/CharSequence"), accessFlags := 2, slot := 0, constantValue := 0 }, { name := "open", type := .int, accessFlags := 2, slot := 1, constantValue := 0 }, { name := "index", type := .int, accessFlags := 2, slot := 2, constantValue := 0 }, { name := "fieldStart", type := .int, accessFlags := 2, slot := 3, constantValue := 0 }]
  methods := #[k9m0, k9m1, k9m2, k9m3, k9m4]
  instanceTypes := #[(.object "java/lang/CharSequence"), .int, .int, .int]
  staticTypes := #[.int]
  resolved := Array.replicate 96 none
  statics := none }

def pool10 : Array CpInfo := pool [(1, .class_ 2), (0, u "java/lang/String"), (1, .class_ 6), (1, u "java/lang/Object"), (0, u "<init>"), (0, u "()V"), (0, .methodref 1 10), (0, .nameAndType 11 12), (0, u "checkIndex"), (0, u "(II)V"), (1, .class_ 16), (1, u "java/lang/StringLatin1"), (36, u "([BI)C"), (36, u "canEncode"), (14, u "(C)Z"), (15, u "$assertionsDisabled"), (0, u "Z"), (98, .class_ 223), (1, u "java/lang/StringLatin1$LinesSpliterator"), (28, u "charAt"), (127, u "toBytes"), (1, u "(C)[B"), (7, .class_ 391), (0, u "java/lang/StringLatin1$CharsSpliterator")] 3

def k10m0 : Method := { name := "<init>", desc := "()V", sig := { parameters := [], returnType := none }, accessFlags := 0, code := none }
def k10c1 : Code := { maxStack := 2, maxLocals := 2, code := jdk_43_method_2_code, exceptionTable := #[], attributes := #[] }
def k10m1 : Method := { name := "charAt", desc := "([BI)C", sig := { parameters := [(.array .byte), .int], returnType := some .char }, accessFlags := 9, code := some k10c1 }
def k10c2 : Code := { maxStack := 2, maxLocals := 1, code := jdk_43_method_3_code, exceptionTable := #[], attributes := #[] }
def k10m2 : Method := { name := "canEncode", desc := "(C)Z", sig := { parameters := [.char], returnType := some .boolean }, accessFlags := 9, code := some k10c2 }
def k10c3 : Code := { maxStack := 4, maxLocals := 1, code := jdk_43_method_46_code, exceptionTable := #[], attributes := #[] }
def k10m3 : Method := { name := "toBytes", desc := "(C)[B", sig := { parameters := [.char], returnType := some (.array .byte) }, accessFlags := 9, code := some k10c3 }
/-- java/lang/StringLatin1 -/
def k10 : Class := { plain "java/lang/StringLatin1" (some 0) with
  accessFlags := 48
  interfaces := #[]
  cf := some (fileOf pool10 14 #[.nestMembers #[390, 221]] #[{ accessFlags := 0, nameIndex := 7, descriptorIndex := 8, attributes := #[] }, { accessFlags := 9, nameIndex := 252, descriptorIndex := 53, attributes := #[] }, { accessFlags := 9, nameIndex := 90, descriptorIndex := 105, attributes := #[] }, { accessFlags := 9, nameIndex := 380, descriptorIndex := 382, attributes := #[] }] 48 4 #[] #[{ accessFlags := 4120, nameIndex := 121, descriptorIndex := 122, attributes := #[] }])
  fields := #[{ name := "$assertionsDisabled", type := .boolean, accessFlags := 4120, slot := 0, constantValue := 0 }]
  methods := #[k10m0, k10m1, k10m2, k10m3]
  instanceTypes := #[]
  staticTypes := #[.boolean]
  resolved := Array.replicate 395 none
  statics := none }

def pool11 : Array CpInfo := pool [(2, .class_ 4), (1, u "java/lang/Object"), (0, u "<init>"), (0, u "()V"), (17, .class_ 26), (1, u "jdk/internal/util/Preconditions"), (6, u "checkIndex"), (21, .class_ 56), (0, u "jdk/internal/util/Preconditions$4"), (57, .class_ 115), (0, u "jdk/internal/util/Preconditions$1"), (7, u "SIOOBE_FORMATTER"), (0, u "Ljava/util/function/BiFunction;"), (0, .class_ 126), (0, u "jdk/internal/util/Preconditions$2"), (3, u "AIOOBE_FORMATTER"), (0, .class_ 132), (0, u "jdk/internal/util/Preconditions$3"), (3, u "IOOBE_FORMATTER"), (41, u "(IILjava/util/function/BiFunction;)I")] 15

def k11m0 : Method := { name := "<init>", desc := "()V", sig := { parameters := [], returnType := none }, accessFlags := 1, code := none }
def k11c1 : Code := { maxStack := 3, maxLocals := 3, code := jdk_41_method_11_code, exceptionTable := #[], attributes := #[] }
def k11m1 : Method := { name := "checkIndex", desc := "(IILjava/util/function/BiFunction;)I", sig := { parameters := [.int, .int, (.object "java/util/function/BiFunction")], returnType := some .int }, accessFlags := 9, code := some k11c1 }
/-- jdk/internal/util/Preconditions -/
def k11 : Class := { plain "jdk/internal/util/Preconditions" (some 0) with
  accessFlags := 33
  interfaces := #[]
  cf := some (fileOf pool11 24 #[.nestMembers #[55, 131, 125, 114]] #[{ accessFlags := 1, nameIndex := 5, descriptorIndex := 6, attributes := #[] }, { accessFlags := 9, nameIndex := 33, descriptorIndex := 178, attributes := #[] }] 33 2 #[] #[{ accessFlags := 25, nameIndex := 123, descriptorIndex := 124, attributes := #[] }, { accessFlags := 25, nameIndex := 130, descriptorIndex := 124, attributes := #[] }, { accessFlags := 25, nameIndex := 136, descriptorIndex := 124, attributes := #[] }])
  fields := #[{ name := "SIOOBE_FORMATTER", type := (.object "java/util/function/BiFunction"), accessFlags := 25, slot := 0, constantValue := 0 }, { name := "AIOOBE_FORMATTER", type := (.object "java/util/function/BiFunction"), accessFlags := 25, slot := 1, constantValue := 0 }, { name := "IOOBE_FORMATTER", type := (.object "java/util/function/BiFunction"), accessFlags := 25, slot := 2, constantValue := 0 }]
  methods := #[k11m0, k11m1]
  instanceTypes := #[]
  staticTypes := #[(.object "java/util/function/BiFunction"), (.object "java/util/function/BiFunction"), (.object "java/util/function/BiFunction")]
  resolved := Array.replicate 194 none
  statics := some 1 }

def pool12 : Array CpInfo := pool [(9, u "<init>"), (6, .class_ 18), (1, u "java/lang/Object"), (0, u "()V"), (1, .class_ 23), (1, u "jdk/internal/util/ArraysSupport"), (0, u "LOG2_ARRAY_LONG_INDEX_SCALE"), (0, u "I"), (2, u "U"), (0, u "Ljdk/internal/misc/Unsafe;"), (8, u "BIG_ENDIAN"), (0, u "Z"), (8, u "LOG2_BYTE_BIT_SIZE"), (4, u "LOG2_ARRAY_INT_INDEX_SCALE"), (54, u "JLA"), (0, u "Ljdk/internal/access/JavaLangAccess;"), (11, u "LOG2_ARRAY_BOOLEAN_INDEX_SCALE"), (9, u "LOG2_ARRAY_BYTE_INDEX_SCALE"), (5, u "LOG2_ARRAY_CHAR_INDEX_SCALE"), (5, u "LOG2_ARRAY_SHORT_INDEX_SCALE"), (18, u "LOG2_ARRAY_FLOAT_INDEX_SCALE"), (24, u "LOG2_ARRAY_DOUBLE_INDEX_SCALE"), (89, u "T_BOOLEAN"), (2, u "T_CHAR"), (1, u "T_FLOAT"), (1, u "T_DOUBLE"), (1, u "T_BYTE"), (1, u "T_SHORT"), (1, u "T_INT"), (1, u "T_LONG"), (1, u "SOFT_MAX_ARRAY_LENGTH")] 83

def k12m0 : Method := { name := "<init>", desc := "()V", sig := { parameters := [], returnType := none }, accessFlags := 2, code := none }
/-- jdk/internal/util/ArraysSupport -/
def k12 : Class := { plain "jdk/internal/util/ArraysSupport" (some 0) with
  accessFlags := 33
  interfaces := #[]
  cf := some (fileOf pool12 21 #[] #[{ accessFlags := 2, nameIndex := 9, descriptorIndex := 19, attributes := #[] }] 33 16 #[] #[{ accessFlags := 24, nameIndex := 28, descriptorIndex := 29, attributes := #[] }, { accessFlags := 26, nameIndex := 38, descriptorIndex := 39, attributes := #[] }, { accessFlags := 25, nameIndex := 121, descriptorIndex := 25, attributes := #[] }, { accessFlags := 25, nameIndex := 131, descriptorIndex := 25, attributes := #[] }, { accessFlags := 25, nameIndex := 137, descriptorIndex := 25, attributes := #[] }, { accessFlags := 25, nameIndex := 143, descriptorIndex := 25, attributes := #[] }, { accessFlags := 25, nameIndex := 53, descriptorIndex := 25, attributes := #[] }, { accessFlags := 25, nameIndex := 24, descriptorIndex := 25, attributes := #[] }, { accessFlags := 25, nameIndex := 162, descriptorIndex := 25, attributes := #[] }, { accessFlags := 25, nameIndex := 187, descriptorIndex := 25, attributes := #[] }, { accessFlags := 26, nameIndex := 48, descriptorIndex := 25, attributes := #[] }, { accessFlags := 25, nameIndex := 277, descriptorIndex := 25, attributes := #[] }, { accessFlags := 25, nameIndex := 280, descriptorIndex := 25, attributes := #[] }, { accessFlags := 25, nameIndex := 282, descriptorIndex := 25, attributes := #[] }, { accessFlags := 25, nameIndex := 284, descriptorIndex := 25, attributes := #[] }, { accessFlags := 25, nameIndex := 286, descriptorIndex := 25, attributes := #[] }, { accessFlags := 25, nameIndex := 288, descriptorIndex := 25, attributes := #[] }, { accessFlags := 25, nameIndex := 290, descriptorIndex := 25, attributes := #[] }, { accessFlags := 25, nameIndex := 292, descriptorIndex := 25, attributes := #[] }, { accessFlags := 26, nameIndex := 108, descriptorIndex := 109, attributes := #[] }, { accessFlags := 25, nameIndex := 294, descriptorIndex := 25, attributes := #[] }])
  fields := #[{ name := "U", type := (.object "jdk/internal/misc/Unsafe"), accessFlags := 24, slot := 0, constantValue := 0 }, { name := "BIG_ENDIAN", type := .boolean, accessFlags := 26, slot := 1, constantValue := 0 }, { name := "LOG2_ARRAY_BOOLEAN_INDEX_SCALE", type := .int, accessFlags := 25, slot := 2, constantValue := 0 }, { name := "LOG2_ARRAY_BYTE_INDEX_SCALE", type := .int, accessFlags := 25, slot := 3, constantValue := 0 }, { name := "LOG2_ARRAY_CHAR_INDEX_SCALE", type := .int, accessFlags := 25, slot := 4, constantValue := 0 }, { name := "LOG2_ARRAY_SHORT_INDEX_SCALE", type := .int, accessFlags := 25, slot := 5, constantValue := 0 }, { name := "LOG2_ARRAY_INT_INDEX_SCALE", type := .int, accessFlags := 25, slot := 6, constantValue := 0 }, { name := "LOG2_ARRAY_LONG_INDEX_SCALE", type := .int, accessFlags := 25, slot := 7, constantValue := 0 }, { name := "LOG2_ARRAY_FLOAT_INDEX_SCALE", type := .int, accessFlags := 25, slot := 8, constantValue := 0 }, { name := "LOG2_ARRAY_DOUBLE_INDEX_SCALE", type := .int, accessFlags := 25, slot := 9, constantValue := 0 }, { name := "LOG2_BYTE_BIT_SIZE", type := .int, accessFlags := 26, slot := 10, constantValue := 0 }, { name := "T_BOOLEAN", type := .int, accessFlags := 25, slot := 11, constantValue := 0 }, { name := "T_CHAR", type := .int, accessFlags := 25, slot := 12, constantValue := 0 }, { name := "T_FLOAT", type := .int, accessFlags := 25, slot := 13, constantValue := 0 }, { name := "T_DOUBLE", type := .int, accessFlags := 25, slot := 14, constantValue := 0 }, { name := "T_BYTE", type := .int, accessFlags := 25, slot := 15, constantValue := 0 }, { name := "T_SHORT", type := .int, accessFlags := 25, slot := 16, constantValue := 0 }, { name := "T_INT", type := .int, accessFlags := 25, slot := 17, constantValue := 0 }, { name := "T_LONG", type := .int, accessFlags := 25, slot := 18, constantValue := 0 }, { name := "JLA", type := (.object "jdk/internal/access/JavaLangAccess"), accessFlags := 26, slot := 19, constantValue := 0 }, { name := "SOFT_MAX_ARRAY_LENGTH", type := .int, accessFlags := 25, slot := 20, constantValue := 0 }]
  methods := #[k12m0]
  instanceTypes := #[]
  staticTypes := #[(.object "jdk/internal/misc/Unsafe"), .boolean, .int, .int, .int, .int, .int, .int, .int, .int, .int, .int, .int, .int, .int, .int, .int, .int, .int, (.object "jdk/internal/access/JavaLangAccess"), .int]
  resolved := Array.replicate 378 none
  statics := none }

def pool13 : Array CpInfo := pool [(1, u "java/lang/Cloneable"), (0, .class_ 1), (0, u "java/lang/Object"), (0, .class_ 3)] 3

/-- java/lang/Cloneable -/
def k13 : Class := { plain "java/lang/Cloneable" (some 0) with
  accessFlags := 1537
  interfaces := #[]
  cf := some (fileOf pool13 2 #[] #[] 1537 4 #[] #[])
  fields := #[]
  methods := #[]
  instanceTypes := #[]
  staticTypes := #[]
  resolved := Array.replicate 8 none
  statics := none }

/-- the primitive byte -/
def k14 : Class := { plain "byte" none with kind := .primitive 'B', accessFlags := 0x411 }
/-- [B -/
def k15 : Class := { plain "[B" (some 0) with kind := .array 14 .byte, interfaces := #[13, 2], accessFlags := 1041 }

/-- the primitive char -/
def k16 : Class := { plain "char" none with kind := .primitive 'C', accessFlags := 0x411 }
/-- [C -/
def k17 : Class := { plain "[C" (some 0) with kind := .array 16 .char, interfaces := #[13, 2], accessFlags := 1041 }

/-- the primitive int -/
def k18 : Class := { plain "int" none with kind := .primitive 'I', accessFlags := 0x411 }
/-- [I -/
def k19 : Class := { plain "[I" (some 0) with kind := .array 18 .int, interfaces := #[13, 2], accessFlags := 1041 }

def heap : Heap := #[{ cls := 7, slots := #[.long 0, .int 1, .null, .int 0, .null, .int 0, .int 0], vm := .statics 7 },
  { cls := 11, slots := #[.null, .null, .null], vm := .statics 11 }]
def classes : Array Class := #[k0, k1, k2, k3, k4, k5, k6, k7, k8, k9, k10, k11, k12, k13, k14, k15, k16, k17, k18, k19]
def interned : List (Array UInt16 × Addr) := []
def slotsUsed : Nat := 10
def theMethod : MethodId := ⟨1, 1⟩
def args0 : Array Value := #[.int 5, .int 5, .int 5, .int 5, .int 5, .int 5]
def aboutOver (below : List Frame) : State where
  vm := { classes := classes, interned := interned.toArray }
  heap := heap
  slotsUsed := slotsUsed
  threads := #[{ frames := .invoking theMethod args0 :: below }]
def below0 : List Frame := [.native { method := ⟨0, 0⟩, args := #[] }]
def about1 : State := aboutOver below0
def p0 : Program := .bare "" "" ""
def e0 : Env := launch0.env 0 0 0
theorem w_frames : about1.frames = Frame.invoking theMethod args0 :: below0 := rfl
set_option maxRecDepth 65536 in
theorem w_args : argsFit about1.vm theMethod args0 = true := by decide +kernel
set_option maxRecDepth 65536 in
theorem w_heap : heapFits about1 = true := by decide +kernel
set_option maxRecDepth 65536 in
theorem w_runnable : about1.curStatus? = some .runnable := by decide +kernel
set_option maxRecDepth 65536 in
theorem w_alone : about1.alone = true := by decide +kernel
set_option maxRecDepth 65536 in
theorem w_named : about1.methodNamed? x = some theMethod := by decide +kernel
set_option maxRecDepth 65536 in
theorem w_hears : about1.hears theMethod below0 = true := by decide +kernel
set_option maxRecDepth 65536 in
theorem w_ripe : about1.ripe theMethod args0 below0 = true := by decide +kernel
theorem w_running : about1.status = .running := rfl
set_option maxRecDepth 65536 in
theorem w_room : about1.hasRoom e0.platform room_1 = true :=
  launch0.hasRoom_least _ room_1 (by decide +kernel) (by decide +kernel) (by decide +kernel) (by decide +kernel) (by decide +kernel) (by decide +kernel)
theorem allAtoms_all (ts : List Jvm.Cond) (a : Array Jvm.Value) (st : Jvm.State) : (allAtoms ts).before a st = ts.all (fun c => c.before a st) := by
  induction ts with
  | nil => rfl
  | cons c t ih =>
    show (Jvm.Cond.and c (allAtoms t)).before a st = _
    rw [Jvm.Cond.before_and, ih, List.all_cons]
def words1 : List Jvm.Cond := Jvm.Cond.code x code maxLocals ret :: tables_1
/-- a 'code' word, met by the world's own term for the bytes: nothing is compared byte by byte -/
theorem code_word {y : MethodName} {bytes : ByteArray} {mx : Nat} {rt : Option FieldType} {a : Array Value} {s : State} {m : MethodId} {meth : Method} {c : Code} (h1 : s.methodNamed? y = some m) (h2 : s.vm.method? m = some meth) (h3 : meth.code = some c) (h4 : c.code = bytes)
    (h5 : (c.maxLocals == mx && c.exceptionTable.isEmpty && decide (c.maxStack ≤ mostOperands) && decide (meth.sig.returnType = rt) && !meth.locks && decide (parseMethodDescriptor y.desc = some meth.sig)) = true) : (Jvm.Cond.code y bytes mx rt).before a s = true := by
  simp only [Bool.and_eq_true, beq_iff_eq, Bool.not_eq_true', decide_eq_true_eq] at h5
  obtain ⟨⟨⟨⟨⟨g1, g2⟩, g3⟩, g4⟩, g5⟩, g6⟩ := h5
  simp [Cond.before, Cond.holds, Cond.value, h1, h2, h3, h4, g1, g2, g3, g4, g5, g6]
def isCode : Jvm.Cond → Bool
  | .code _ _ _ _ => true
  | _ => false
theorem all_split {L : List Jvm.Cond} {P : Jvm.Cond → Bool} (h1 : L.all (fun c => isCode c || P c) = true) (h2 : ∀ c ∈ L.filter isCode, P c = true) : L.all P = true := by
  refine List.all_eq_true.mpr fun c hc => ?_
  have h := List.all_eq_true.mp h1 c hc
  rcases Bool.eq_false_or_eq_true (isCode c) with hi | hi
  · exact h2 c (List.mem_filter.mpr ⟨hc, hi⟩)
  · simpa [hi] using h
set_option maxRecDepth 65536 in
theorem w_c0 : (Jvm.Cond.code x code maxLocals ret).before args0 about1 = true := code_word (m := ⟨1, 1⟩) (meth := k1m1) (c := k1c1) (by decide +kernel) rfl rfl rfl (by decide +kernel)
set_option maxRecDepth 65536 in
theorem w_c1 : (Jvm.Cond.code ({ cls := "java/lang/String", name := "<init>", desc := "([C)V" } : Jvm.MethodName) jdk_42_method_3_code (2 : Nat) (Option.none : Option Jvm.ClassFile.FieldType)).before args0 about1 = true := code_word (m := ⟨7, 1⟩) (meth := k7m1) (c := k7c1) (by decide +kernel) rfl rfl rfl (by decide +kernel)
set_option maxRecDepth 65536 in
theorem w_c2 : (Jvm.Cond.code ({ cls := "java/lang/String", name := "<init>", desc := "([CIILjava/lang/Void;)V" } : Jvm.MethodName) jdk_42_method_149_code (6 : Nat) (Option.none : Option Jvm.ClassFile.FieldType)).before args0 about1 = true := code_word (m := ⟨7, 5⟩) (meth := k7m5) (c := k7c5) (by decide +kernel) rfl rfl rfl (by decide +kernel)
set_option maxRecDepth 65536 in
theorem w_c3 : (Jvm.Cond.code ({ cls := "java/lang/Object", name := "<init>", desc := "()V" } : Jvm.MethodName) object_method_1_code (1 : Nat) (Option.none : Option Jvm.ClassFile.FieldType)).before args0 about1 = true := code_word (m := ⟨0, 0⟩) (meth := k0m0) (c := k0c0) (by decide +kernel) rfl rfl rfl (by decide +kernel)
set_option maxRecDepth 65536 in
theorem w_c4 : (Jvm.Cond.code ({ cls := "java/lang/StringUTF16", name := "compress", desc := "([CII)[B" } : Jvm.MethodName) jdk_52_method_16_code (6 : Nat) (Option.some (Jvm.ClassFile.FieldType.array Jvm.ClassFile.FieldType.byte))).before args0 about1 = true := code_word (m := ⟨8, 2⟩) (meth := k8m2) (c := k8c2) (by decide +kernel) rfl rfl rfl (by decide +kernel)
set_option maxRecDepth 65536 in
theorem w_c5 : (Jvm.Cond.code ({ cls := "java/lang/StringUTF16", name := "compress", desc := "([CI[BII)I" } : Jvm.MethodName) jdk_52_method_21_code (7 : Nat) (Option.some Jvm.ClassFile.FieldType.int)).before args0 about1 = true := code_word (m := ⟨8, 3⟩) (meth := k8m3) (c := k8c3) (by decide +kernel) rfl rfl rfl (by decide +kernel)
set_option maxRecDepth 65536 in
theorem w_c6 : (Jvm.Cond.code ({ cls := "java/lang/StringUTF16", name := "coderFromArrayLen", desc := "([BI)B" } : Jvm.MethodName) jdk_52_method_15_code (2 : Nat) (Option.some Jvm.ClassFile.FieldType.byte)).before args0 about1 = true := code_word (m := ⟨8, 1⟩) (meth := k8m1) (c := k8c1) (by decide +kernel) rfl rfl rfl (by decide +kernel)
set_option maxRecDepth 65536 in
theorem w_c7 : (Jvm.Cond.code ({ cls := "com/example/bay3/bay3/form/RowFieldName", name := "<init>", desc := "()V" } : Jvm.MethodName) prog_21_method_1_code (1 : Nat) (Option.none : Option Jvm.ClassFile.FieldType)).before args0 about1 = true := code_word (m := ⟨9, 0⟩) (meth := k9m0) (c := k9c0) (by decide +kernel) rfl rfl rfl (by decide +kernel)
set_option maxRecDepth 65536 in
theorem w_c8 : (Jvm.Cond.code ({ cls := "com/example/bay3/bay3/form/RowFieldName", name := "read", desc := "(Ljava/lang/CharSequence;)Z" } : Jvm.MethodName) prog_21_method_3_code (3 : Nat) (Option.some Jvm.ClassFile.FieldType.boolean)).before args0 about1 = true := code_word (m := ⟨9, 1⟩) (meth := k9m1) (c := k9c1) (by decide +kernel) rfl rfl rfl (by decide +kernel)
set_option maxRecDepth 65536 in
theorem w_c9 : (Jvm.Cond.code ({ cls := "java/lang/String", name := "length", desc := "()I" } : Jvm.MethodName) jdk_42_method_54_code (1 : Nat) (Option.some Jvm.ClassFile.FieldType.int)).before args0 about1 = true := code_word (m := ⟨7, 2⟩) (meth := k7m2) (c := k7c2) (by decide +kernel) rfl rfl rfl (by decide +kernel)
set_option maxRecDepth 65536 in
theorem w_c10 : (Jvm.Cond.code ({ cls := "java/lang/String", name := "coder", desc := "()B" } : Jvm.MethodName) jdk_42_method_152_code (1 : Nat) (Option.some Jvm.ClassFile.FieldType.byte)).before args0 about1 = true := code_word (m := ⟨7, 7⟩) (meth := k7m7) (c := k7c7) (by decide +kernel) rfl rfl rfl (by decide +kernel)
set_option maxRecDepth 65536 in
theorem w_c11 : (Jvm.Cond.code ({ cls := "java/lang/String", name := "charAt", desc := "(I)C" } : Jvm.MethodName) jdk_42_method_56_code (2 : Nat) (Option.some Jvm.ClassFile.FieldType.char)).before args0 about1 = true := code_word (m := ⟨7, 3⟩) (meth := k7m3) (c := k7c3) (by decide +kernel) rfl rfl rfl (by decide +kernel)
set_option maxRecDepth 65536 in
theorem w_c12 : (Jvm.Cond.code ({ cls := "java/lang/String", name := "isLatin1", desc := "()Z" } : Jvm.MethodName) jdk_42_method_154_code (1 : Nat) (Option.some Jvm.ClassFile.FieldType.boolean)).before args0 about1 = true := code_word (m := ⟨7, 8⟩) (meth := k7m8) (c := k7c8) (by decide +kernel) rfl rfl rfl (by decide +kernel)
set_option maxRecDepth 65536 in
theorem w_c13 : (Jvm.Cond.code ({ cls := "java/lang/StringLatin1", name := "charAt", desc := "([BI)C" } : Jvm.MethodName) jdk_43_method_2_code (2 : Nat) (Option.some Jvm.ClassFile.FieldType.char)).before args0 about1 = true := code_word (m := ⟨10, 1⟩) (meth := k10m1) (c := k10c1) (by decide +kernel) rfl rfl rfl (by decide +kernel)
set_option maxRecDepth 65536 in
theorem w_c14 : (Jvm.Cond.code ({ cls := "java/lang/String", name := "checkIndex", desc := "(II)V" } : Jvm.MethodName) jdk_42_method_155_code (2 : Nat) (Option.none : Option Jvm.ClassFile.FieldType)).before args0 about1 = true := code_word (m := ⟨7, 9⟩) (meth := k7m9) (c := k7c9) (by decide +kernel) rfl rfl rfl (by decide +kernel)
set_option maxRecDepth 65536 in
theorem w_c15 : (Jvm.Cond.code ({ cls := "jdk/internal/util/Preconditions", name := "checkIndex", desc := "(IILjava/util/function/BiFunction;)I" } : Jvm.MethodName) jdk_41_method_11_code (3 : Nat) (Option.some Jvm.ClassFile.FieldType.int)).before args0 about1 = true := code_word (m := ⟨11, 1⟩) (meth := k11m1) (c := k11c1) (by decide +kernel) rfl rfl rfl (by decide +kernel)
set_option maxRecDepth 65536 in
theorem w_c16 : (Jvm.Cond.code ({ cls := "com/example/bay3/bay3/form/RowFieldName", name := "readIndex", desc := "(Ljava/lang/CharSequence;I)Z" } : Jvm.MethodName) prog_21_method_5_code (10 : Nat) (Option.some Jvm.ClassFile.FieldType.boolean)).before args0 about1 = true := code_word (m := ⟨9, 2⟩) (meth := k9m2) (c := k9c2) (by decide +kernel) rfl rfl rfl (by decide +kernel)
set_option maxRecDepth 65536 in
theorem w_c17 : (Jvm.Cond.code ({ cls := "com/example/bay3/bay3/form/RowFieldName", name := "isField", desc := "(Ljava/lang/String;)Z" } : Jvm.MethodName) prog_21_method_9_code (2 : Nat) (Option.some Jvm.ClassFile.FieldType.boolean)).before args0 about1 = true := code_word (m := ⟨9, 3⟩) (meth := k9m3) (c := k9c3) (by decide +kernel) rfl rfl rfl (by decide +kernel)
set_option maxRecDepth 65536 in
theorem w_c18 : (Jvm.Cond.code ({ cls := "com/example/bay3/bay3/form/RowFieldName", name := "holds", desc := "(Ljava/lang/CharSequence;Ljava/lang/String;I)Z" } : Jvm.MethodName) prog_21_method_10_code (4 : Nat) (Option.some Jvm.ClassFile.FieldType.boolean)).before args0 about1 = true := code_word (m := ⟨9, 4⟩) (meth := k9m4) (c := k9c4) (by decide +kernel) rfl rfl rfl (by decide +kernel)
set_option maxRecDepth 65536 in
theorem w_c19 : (Jvm.Cond.code ({ cls := "java/lang/String", name := "valueOf", desc := "(C)Ljava/lang/String;" } : Jvm.MethodName) jdk_42_method_139_code (1 : Nat) (Option.some (Jvm.ClassFile.FieldType.object "java/lang/String"))).before args0 about1 = true := code_word (m := ⟨7, 4⟩) (meth := k7m4) (c := k7c4) (by decide +kernel) rfl rfl rfl (by decide +kernel)
set_option maxRecDepth 65536 in
theorem w_c20 : (Jvm.Cond.code ({ cls := "java/lang/StringLatin1", name := "canEncode", desc := "(C)Z" } : Jvm.MethodName) jdk_43_method_3_code (1 : Nat) (Option.some Jvm.ClassFile.FieldType.boolean)).before args0 about1 = true := code_word (m := ⟨10, 2⟩) (meth := k10m2) (c := k10c2) (by decide +kernel) rfl rfl rfl (by decide +kernel)
set_option maxRecDepth 65536 in
theorem w_c21 : (Jvm.Cond.code ({ cls := "java/lang/StringLatin1", name := "toBytes", desc := "(C)[B" } : Jvm.MethodName) jdk_43_method_46_code (1 : Nat) (Option.some (Jvm.ClassFile.FieldType.array Jvm.ClassFile.FieldType.byte))).before args0 about1 = true := code_word (m := ⟨10, 3⟩) (meth := k10m3) (c := k10c3) (by decide +kernel) rfl rfl rfl (by decide +kernel)
set_option maxRecDepth 65536 in
theorem w_c22 : (Jvm.Cond.code ({ cls := "java/lang/String", name := "<init>", desc := "([BB)V" } : Jvm.MethodName) jdk_42_method_151_code (3 : Nat) (Option.none : Option Jvm.ClassFile.FieldType)).before args0 about1 = true := code_word (m := ⟨7, 6⟩) (meth := k7m6) (c := k7c6) (by decide +kernel) rfl rfl rfl (by decide +kernel)
def codes1 : List Jvm.Cond := [Jvm.Cond.code x code maxLocals ret, Jvm.Cond.code ({ cls := "java/lang/String", name := "<init>", desc := "([C)V" } : Jvm.MethodName) jdk_42_method_3_code (2 : Nat) (Option.none : Option Jvm.ClassFile.FieldType), Jvm.Cond.code ({ cls := "java/lang/String", name := "<init>", desc := "([CIILjava/lang/Void;)V" } : Jvm.MethodName) jdk_42_method_149_code (6 : Nat) (Option.none : Option Jvm.ClassFile.FieldType), Jvm.Cond.code ({ cls := "java/lang/Object", name := "<init>", desc := "()V" } : Jvm.MethodName) object_method_1_code (1 : Nat) (Option.none : Option Jvm.ClassFile.FieldType), Jvm.Cond.code ({ cls := "java/lang/StringUTF16", name := "compress", desc := "([CII)[B" } : Jvm.MethodName) jdk_52_method_16_code (6 : Nat) (Option.some (Jvm.ClassFile.FieldType.array Jvm.ClassFile.FieldType.byte)), Jvm.Cond.code ({ cls := "java/lang/StringUTF16", name := "compress", desc := "([CI[BII)I" } : Jvm.MethodName) jdk_52_method_21_code (7 : Nat) (Option.some Jvm.ClassFile.FieldType.int), Jvm.Cond.code ({ cls := "java/lang/StringUTF16", name := "coderFromArrayLen", desc := "([BI)B" } : Jvm.MethodName) jdk_52_method_15_code (2 : Nat) (Option.some Jvm.ClassFile.FieldType.byte), Jvm.Cond.code ({ cls := "com/example/bay3/bay3/form/RowFieldName", name := "<init>", desc := "()V" } : Jvm.MethodName) prog_21_method_1_code (1 : Nat) (Option.none : Option Jvm.ClassFile.FieldType), Jvm.Cond.code ({ cls := "com/example/bay3/bay3/form/RowFieldName", name := "read", desc := "(Ljava/lang/CharSequence;)Z" } : Jvm.MethodName) prog_21_method_3_code (3 : Nat) (Option.some Jvm.ClassFile.FieldType.boolean), Jvm.Cond.code ({ cls := "java/lang/String", name := "length", desc := "()I" } : Jvm.MethodName) jdk_42_method_54_code (1 : Nat) (Option.some Jvm.ClassFile.FieldType.int), Jvm.Cond.code ({ cls := "java/lang/String", name := "coder", desc := "()B" } : Jvm.MethodName) jdk_42_method_152_code (1 : Nat) (Option.some Jvm.ClassFile.FieldType.byte), Jvm.Cond.code ({ cls := "java/lang/String", name := "charAt", desc := "(I)C" } : Jvm.MethodName) jdk_42_method_56_code (2 : Nat) (Option.some Jvm.ClassFile.FieldType.char), Jvm.Cond.code ({ cls := "java/lang/String", name := "isLatin1", desc := "()Z" } : Jvm.MethodName) jdk_42_method_154_code (1 : Nat) (Option.some Jvm.ClassFile.FieldType.boolean), Jvm.Cond.code ({ cls := "java/lang/StringLatin1", name := "charAt", desc := "([BI)C" } : Jvm.MethodName) jdk_43_method_2_code (2 : Nat) (Option.some Jvm.ClassFile.FieldType.char), Jvm.Cond.code ({ cls := "java/lang/String", name := "checkIndex", desc := "(II)V" } : Jvm.MethodName) jdk_42_method_155_code (2 : Nat) (Option.none : Option Jvm.ClassFile.FieldType), Jvm.Cond.code ({ cls := "jdk/internal/util/Preconditions", name := "checkIndex", desc := "(IILjava/util/function/BiFunction;)I" } : Jvm.MethodName) jdk_41_method_11_code (3 : Nat) (Option.some Jvm.ClassFile.FieldType.int), Jvm.Cond.code ({ cls := "com/example/bay3/bay3/form/RowFieldName", name := "readIndex", desc := "(Ljava/lang/CharSequence;I)Z" } : Jvm.MethodName) prog_21_method_5_code (10 : Nat) (Option.some Jvm.ClassFile.FieldType.boolean), Jvm.Cond.code ({ cls := "com/example/bay3/bay3/form/RowFieldName", name := "isField", desc := "(Ljava/lang/String;)Z" } : Jvm.MethodName) prog_21_method_9_code (2 : Nat) (Option.some Jvm.ClassFile.FieldType.boolean), Jvm.Cond.code ({ cls := "com/example/bay3/bay3/form/RowFieldName", name := "holds", desc := "(Ljava/lang/CharSequence;Ljava/lang/String;I)Z" } : Jvm.MethodName) prog_21_method_10_code (4 : Nat) (Option.some Jvm.ClassFile.FieldType.boolean), Jvm.Cond.code ({ cls := "java/lang/String", name := "valueOf", desc := "(C)Ljava/lang/String;" } : Jvm.MethodName) jdk_42_method_139_code (1 : Nat) (Option.some (Jvm.ClassFile.FieldType.object "java/lang/String")), Jvm.Cond.code ({ cls := "java/lang/StringLatin1", name := "canEncode", desc := "(C)Z" } : Jvm.MethodName) jdk_43_method_3_code (1 : Nat) (Option.some Jvm.ClassFile.FieldType.boolean), Jvm.Cond.code ({ cls := "java/lang/StringLatin1", name := "toBytes", desc := "(C)[B" } : Jvm.MethodName) jdk_43_method_46_code (1 : Nat) (Option.some (Jvm.ClassFile.FieldType.array Jvm.ClassFile.FieldType.byte)), Jvm.Cond.code ({ cls := "java/lang/String", name := "<init>", desc := "([BB)V" } : Jvm.MethodName) jdk_42_method_151_code (3 : Nat) (Option.none : Option Jvm.ClassFile.FieldType)]
set_option maxRecDepth 65536 in
theorem codes_eq : words1.filter isCode = codes1 := rfl
theorem w_codes : ∀ c ∈ words1.filter isCode, c.before args0 about1 = true := by
  rw [codes_eq]
  intro c hc
  simp only [codes1, List.mem_cons, List.not_mem_nil, or_false] at hc
  rcases hc with rfl | rfl | rfl | rfl | rfl | rfl | rfl | rfl | rfl | rfl | rfl | rfl | rfl | rfl | rfl | rfl | rfl | rfl | rfl | rfl | rfl | rfl | rfl
  · exact w_c0
  · exact w_c1
  · exact w_c2
  · exact w_c3
  · exact w_c4
  · exact w_c5
  · exact w_c6
  · exact w_c7
  · exact w_c8
  · exact w_c9
  · exact w_c10
  · exact w_c11
  · exact w_c12
  · exact w_c13
  · exact w_c14
  · exact w_c15
  · exact w_c16
  · exact w_c17
  · exact w_c18
  · exact w_c19
  · exact w_c20
  · exact w_c21
  · exact w_c22
set_option maxRecDepth 65536 in
theorem w_t1 : (words1.take 24).all (fun c => isCode c || c.before args0 about1) = true := by decide +kernel
set_option maxRecDepth 65536 in
theorem w_t2 : ((words1.drop 24).take 24).all (fun c => isCode c || c.before args0 about1) = true := by decide +kernel
set_option maxRecDepth 65536 in
theorem w_t3 : (((words1.drop 24).drop 24).take 24).all (fun c => isCode c || c.before args0 about1) = true := by decide +kernel
set_option maxRecDepth 65536 in
theorem w_t4 : ((((words1.drop 24).drop 24).drop 24).take 24).all (fun c => isCode c || c.before args0 about1) = true := by decide +kernel
set_option maxRecDepth 65536 in
theorem w_t5 : (((((words1.drop 24).drop 24).drop 24).drop 24).take 24).all (fun c => isCode c || c.before args0 about1) = true := by decide +kernel
set_option maxRecDepth 65536 in
theorem w_t6 : (((((words1.drop 24).drop 24).drop 24).drop 24).drop 24).all (fun c => isCode c || c.before args0 about1) = true := by decide +kernel
theorem w_tables : (allAtoms (Jvm.Cond.code x code maxLocals ret :: tables_1)).before args0 about1 = true := by
  rw [allAtoms_all]
  show words1.all (fun c => c.before args0 about1) = true
  refine all_split ?_ w_codes
  rw [← List.take_append_drop 24 words1, List.all_append, w_t1, ← List.take_append_drop 24 (words1.drop 24), List.all_append, w_t2, ← List.take_append_drop 24 ((words1.drop 24).drop 24), List.all_append, w_t3, ← List.take_append_drop 24 (((words1.drop 24).drop 24).drop 24), List.all_append, w_t4, ← List.take_append_drop 24 ((((words1.drop 24).drop 24).drop 24).drop 24), List.all_append, w_t5, w_t6]
  rfl
set_option maxRecDepth 65536 in
theorem w_rest : rest_1_c.before args0 about1 = true := by decide +kernel
set_option maxRecDepth 65536 in
theorem w_case : (Jvm.Cond.and given_1 narrow_1).before args0 about1 = true := by decide +kernel
set_option maxRecDepth 65536 in
theorem w_consts : constsHeld consts_1 about1 := Jvm.Lit.constsHeldB_iff.mp (by decide +kernel)
theorem w_applies : (headSpec (Jvm.Cond.code x code maxLocals ret :: tables_1) room_1).applies x e0.platform about1 = true :=
  (Spec.applies_iff w_frames).mpr ⟨w_running, w_runnable, w_alone, w_named, w_hears, w_ripe, w_room, w_tables⟩
theorem atStart : AtStart classFile x code maxLocals ret World_1 tables_1 room_1 Calls_1 rest_1 Pre_1 launch0 p0 e0 about1 theMethod args0 below0 :=
  ⟨lists_1, trivial, launch0.admits_env _ _ _, launch0.least_env, fairChoices_fair.cas, fairChoices_fair.clock, w_frames, w_args, w_heap, w_applies, ⟨w_consts, trivial⟩, w_rest, w_case⟩
end start1
theorem witness_1 : WitnessClaimed_1 := ⟨start1.p0, start1.e0, start1.about1, start1.theMethod, start1.args0, start1.below0, start1.atStart⟩
end Jvm.Pilot.@@N@@
