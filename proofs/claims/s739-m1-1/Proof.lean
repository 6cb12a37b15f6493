import JvmDerived
import JvmDerived.Pilot.@@N@@Statement
import JvmDerived.Pilot.@@N@@Code
set_option linter.unusedVariables false
set_option linter.unusedSimpArgs false
@@BLOCK:NumsL.lean.txt@@
namespace Jvm.RoadKit
open Sem ClassFile Op Lib Jvm.Stand Jvm.Free Jvm.LawKit
section Own
variable {p : Program} {l : Launch} {e : Env} {R : Room} {s : State} {m : MethodId} {args : Array Value} {below : List Frame} {meth : Method} {c : Code} {T T' : State} {locs : List Loc} {cells slots : Nat}
theorem retI (X : Stand p l e R s m args below meth c T locs cells slots) (hx : p.tables.exec = Jvm.exec) {pc : Nat} {Ls : Array Slot} {z : Int32} {rest : List Value} (hret : meth.sig.returnType = some .int) (hd : decode c.code pc = .ok (.ireturn, 1)) {fs : List Frame}
    (hl : ∀ (f : JFrame) (acts : List Action), f.method = m → f.locked = none → f.entered = [] → (doReturn e (T.setTop f) acts (some (.int z))).1 = T.setFrames fs) : Steps p.tables e below (T.setTop (mkF m pc Ls (.int z :: rest))) (T.setFrames fs) := by
  have hm' : T.vm.method? m = some meth := X.method'
  have hn : narrow .int (.int z) = .int z := rfl
  show Steps p.tables e below (T.setTop { method := m, pc := pc, locals := Ls, stack := _ :: rest, locked := none }) _
  jvm_step X.here [X.here.top, hx, hd, hm', hret, hn]
  first | (intro acts; rw [hl _ acts rfl rfl rfl]) | rw [hl _ _ rfl rfl rfl]
  exact Steps.refl _
/-- what is left of a walk: it comes to an end at which K holds -/
def own_Go (p : Program) (e : Env) (below : List Frame) (K : Outcome → State → Prop) (T : State) (g : JFrame) : Prop := ∃ s₂ o, Steps p.tables e below (T.setTop g) s₂ ∧ s₂.status = .running ∧ Ended s₂ below o ∧ K o s₂
def own_K (s : State) (Q : Option Value → Heap → List Loc → Prop) (C S : Nat) (o : Outcome) (U' : State) : Prop := ∃ v L, o = .returned v ∧ Q v U'.heap L ∧ FrameEnd s o U' L C S
variable {K : Outcome → State → Prop} {g g' : JFrame} {Q : Option Value → Heap → List Loc → Prop} {C S : Nat}
theorem own_st (st : ∀ target, Steps p.tables e below (T'.setTop g') target → Steps p.tables e below (T.setTop g) target) (k : own_Go p e below K T' g') : own_Go p e below K T g := by
  obtain ⟨s2, o, h1, h2⟩ := k
  exact ⟨s2, o, st _ h1, h2⟩
theorem own_tr (st : Steps p.tables e below (T.setTop g) (T'.setTop g')) (k : own_Go p e below K T' g') : own_Go p e below K T g := by
  obtain ⟨s2, o, h1, h2⟩ := k
  exact ⟨s2, o, st.trans h1, h2⟩
theorem own_num (X : Stand p l e R s m args below meth c T locs cells slots) {k' n' : Nat} (h1 : cells = k') (h2 : slots = n') : Stand p l e R s m args below meth c T locs k' n' := h1 ▸ h2 ▸ X
theorem own_hide (X : Stand p l e R s m args below meth c T locs cells slots) {n0 : Nat} (N : Fr n0 locs) : ∃ lc, Stand p l e R s m args below meth c T lc cells slots ∧ Fr n0 lc := ⟨_, X, N⟩
theorem own_gotT {s₀ : State} {n rc rs : Nat} {rest : List Value} (G : ∃ (v : Option Value) (vm₁ : Vm) (B : Pt), s.WarmedH vm₁ ∧ Stand p l e R s m args below meth c B.U B.locs B.cells B.slots ∧ (∃ L, Q v B.U.heap L ∧ B.locs = locs ++ L ∧ B.cells = cells + rc ∧ B.slots = slots + rs) ∧ Steps p.tables e below s₀ (B.U.setTop { g with pc := g.pc + n, stack := v.toList ++ rest })) :
    ∃ v T' L, Stand p l e R s m args below meth c T' (locs ++ L) (cells + rc) (slots + rs) ∧ Q v T'.heap L ∧ Steps p.tables e below s₀ (T'.setTop { g with pc := g.pc + n, stack := v.toList ++ rest }) := by
  obtain ⟨v, _, ⟨U, L, k, j⟩, -, X, ⟨L', hQ, hl, hk, hj⟩, st⟩ := G
  subst hl hk hj
  exact ⟨v, U, L', X, hQ, st⟩
theorem own_gotS {n rc rs : Nat} {rest : List Value} (G : ∃ (v : Option Value) (vm₁ : Vm) (B : Pt), s.WarmedH vm₁ ∧ Stand p l e R s m args below meth c B.U B.locs B.cells B.slots ∧ (∃ L, Q v B.U.heap L ∧ B.locs = locs ++ L ∧ B.cells = cells + rc ∧ B.slots = slots + rs) ∧ ∀ target, Steps p.tables e below (B.U.setTop { g with pc := g.pc + n, stack := v.toList ++ rest }) target → Steps p.tables e below (T.setTop g) target) :
    ∃ v T' L, Stand p l e R s m args below meth c T' (locs ++ L) (cells + rc) (slots + rs) ∧ Q v T'.heap L ∧ ∀ target, Steps p.tables e below (T'.setTop { g with pc := g.pc + n, stack := v.toList ++ rest }) target → Steps p.tables e below (T.setTop g) target := by
  obtain ⟨v, _, ⟨U, L, k, j⟩, -, X, ⟨L', hQ, hl, hk, hj⟩, st⟩ := G
  subst hl hk hj
  exact ⟨v, U, L', X, hQ, st⟩
theorem own_end (X : Stand p l e R s m args below meth c T locs cells slots) (hlk : meth.locks = false) {v : Option Value} (hv : meth.sig.returnType = none → v = none)
    (hst : ∀ fs, (∀ (f : JFrame) (acts : List Action), f.method = m → f.locked = none → f.entered = [] → (doReturn e (T.setTop f) acts v).1 = T.setFrames fs) → Steps p.tables e below (T.setTop g) (T.setFrames fs)) (hc : cells ≤ C) (hs : slots ≤ S) (hQ : Q v T.heap locs) :
    own_Go p e below (own_K s Q C S) T g := by
  obtain ⟨fs, hr, hrun, hended, hW, hsame⟩ := X.leave (v := v) hv hlk
  exact ⟨_, _, hst fs hr, hrun, hended, _, _, rfl, hQ, ⟨_, rfl⟩, hW, hsame.mono hc hs⟩
theorem own_retI (X : Stand p l e R s m args below meth c T locs cells slots) (hx : p.tables.exec = Jvm.exec) (hlk : meth.locks = false) {pc : Nat} {Ls : Array Slot} {z : Int32} {rest : List Value} (hret : meth.sig.returnType = some .int) (hd : decode c.code pc = .ok (.ireturn, 1)) (hc : cells ≤ C) (hs : slots ≤ S) (hQ : Q (some (.int z)) T.heap locs) :
    own_Go p e below (own_K s Q C S) T (mkF m pc Ls (.int z :: rest)) := own_end X hlk (fun h => by rw [hret] at h; cases h) (fun fs hr => retI X hx hret hd hr) hc hs hQ
theorem own_retN (X : Stand p l e R s m args below meth c T locs cells slots) (hx : p.tables.exec = Jvm.exec) (hlk : meth.locks = false) {pc : Nat} {Ls : Array Slot} {z : Int32} {t : FieldType} {rest : List Value} (hret : meth.sig.returnType = some t) (ht : t = .boolean ∨ t = .byte ∨ t = .char ∨ t = .short) (hd : decode c.code pc = .ok (.ireturn, 1)) (hc : cells ≤ C) (hs : slots ≤ S) (hQ : Q (some (.int (nar t z))) T.heap locs) :
    own_Go p e below (own_K s Q C S) T (mkF m pc Ls (.int z :: rest)) := own_end X hlk (fun h => by rw [hret] at h; cases h) (fun fs hr => retN X hx hret ht hd hr) hc hs hQ
theorem own_retA (X : Stand p l e R s m args below meth c T locs cells slots) (hx : p.tables.exec = Jvm.exec) (hlk : meth.locks = false) {pc : Nat} {Ls : Array Slot} {v : Value} {t : FieldType} {rest : List Value} (hret : meth.sig.returnType = some t) (ht : t.isReference = true) (hv : v.isRef = true) (hd : decode c.code pc = .ok (.areturn, 1)) (hc : cells ≤ C) (hs : slots ≤ S) (hQ : Q (some v) T.heap locs) :
    own_Go p e below (own_K s Q C S) T (mkF m pc Ls (v :: rest)) := own_end X hlk (fun h => by rw [hret] at h; cases h) (fun fs hr => retOut X hx hret (by cases t <;> first | (cases ht; done) | (cases v <;> first | rfl | (cases hv; done))) (Or.inr (Or.inr (Or.inr (Or.inr ⟨rfl, ht, hv⟩)))) hd hr) hc hs hQ
theorem own_retL (X : Stand p l e R s m args below meth c T locs cells slots) (hx : p.tables.exec = Jvm.exec) (hlk : meth.locks = false) {pc : Nat} {Ls : Array Slot} {w : Int64} (hret : meth.sig.returnType = some .long) (hd : decode c.code pc = .ok (.lreturn, 1)) (hc : cells ≤ C) (hs : slots ≤ S) (hQ : Q (some (.long w)) T.heap locs) :
    own_Go p e below (own_K s Q C S) T (mkF m pc Ls [.long w]) := own_end X hlk (fun h => by rw [hret] at h; cases h) (fun fs hr => X.lreturnOut hx hret hd hr) hc hs hQ
theorem own_ret (X : Stand p l e R s m args below meth c T locs cells slots) (hx : p.tables.exec = Jvm.exec) (hlk : meth.locks = false) {pc : Nat} {Ls : Array Slot} (hret : meth.sig.returnType = none) (hd : decode c.code pc = .ok (.return_, 1)) (hc : cells ≤ C) (hs : slots ≤ S) (hQ : Q none T.heap locs) :
    own_Go p e below (own_K s Q C S) T (mkF m pc Ls []) := own_end X hlk (fun _ => rfl) (fun fs hr => X.returnOut hx hret hd hr) hc hs hQ
variable {Z : State} {h : Heap} {a : Addr} {k : ClassId} {ty : FieldType} {z j : Int32} {vs : List Value} {dv v : Value} {rest : List Value} {target : State}
theorem own_len (X : Stand p l e R s m args below meth c T locs cells slots) (hx : p.tables.exec = Jvm.exec) (hZ : Z.Warmed39 s.vm) (eT : T.heap = h) (F : Arv Z h a k ty z vs dv) (hg : g.method = m) (hs : g.stack = .ref a :: rest) (hd : decode c.code g.pc = .ok (.arraylength, 1))
    (hr : Steps p.tables e below (T.setTop { g with pc := g.pc + 1, stack := .int z :: rest }) target) : Steps p.tables e below (T.setTop g) target := by
  obtain ⟨cl, A, -, S, q, -, -⟩ := F
  refine X.arraylength hx (by rw [eT]; exact A.1) (State.isArrayOf_alike hZ.alike A.2.1) hg hs hd _ ?_
  rw [len_of S q]
  exact hr
theorem own_ldR (X : Stand p l e R s m args below meth c T locs cells slots) (hx : p.tables.exec = Jvm.exec) (hZ : Z.Warmed39 s.vm) (eT : T.heap = h) (F : Arv Z h a k ty z vs dv) (hty : ty.isReference = true) (hj : ¬ j < 0 ∧ j < z) (hv : vs.getD j.toNatClampNeg dv = v) (hg : g.method = m) (hs : g.stack = .int j :: .ref a :: rest) (hd : decode c.code g.pc = .ok (.aaload, 1))
    (hr : Steps p.tables e below (T.setTop { g with pc := g.pc + 1, stack := v :: rest }) target) : Steps p.tables e below (T.setTop g) target := by
  obtain ⟨cl, A, -, S, q, H, -⟩ := F
  exact X.aaload hx (by rw [eT]; exact A.1) (State.isArrayOf_alike hZ.alike A.2.1) hty A.2.2 (inb_of S hj) (H.at (inb_of S hj) hv) hg hs hd _ hr
theorem own_ldB (X : Stand p l e R s m args below meth c T locs cells slots) (hx : p.tables.exec = Jvm.exec) (hZ : Z.Warmed39 s.vm) (eT : T.heap = h) (F : Arv Z h a k .byte z vs dv) (hj : ¬ j < 0 ∧ j < z) (hv : vs.getD j.toNatClampNeg dv = v) (hg : g.method = m) (hs : g.stack = .int j :: .ref a :: rest) (hd : decode c.code g.pc = .ok (.baload, 1))
    (hr : Steps p.tables e below (T.setTop { g with pc := g.pc + 1, stack := v :: rest }) target) : Steps p.tables e below (T.setTop g) target := by
  obtain ⟨cl, A, -, S, q, H, -⟩ := F
  exact X.baloadBytes hx (by rw [eT]; exact A.1) (State.isArrayOf_alike hZ.alike A.2.1) A.2.2 (inb_of S hj) (H.at (inb_of S hj) hv) hg hs hd _ hr
theorem own_ldJ (X : Stand p l e R s m args below meth c T locs cells slots) (hx : p.tables.exec = Jvm.exec) (hZ : Z.Warmed39 s.vm) (eT : T.heap = h) (F : Arv Z h a k .long z vs dv) (hj : ¬ j < 0 ∧ j < z) (hv : vs.getD j.toNatClampNeg dv = v) (hg : g.method = m) (hs : g.stack = .int j :: .ref a :: rest) (hd : decode c.code g.pc = .ok (.laload, 1))
    (hr : Steps p.tables e below (T.setTop { g with pc := g.pc + 1, stack := v :: rest }) target) : Steps p.tables e below (T.setTop g) target := by
  obtain ⟨cl, A, -, S, q, H, -⟩ := F
  exact X.laload hx (by rw [eT]; exact A.1) (State.isArrayOf_alike hZ.alike A.2.1) A.2.2 (inb_of S hj) (H.at (inb_of S hj) hv) hg hs hd _ hr
theorem own_stB (X : Stand p l e R s m args below meth c T locs cells slots) (hx : p.tables.exec = Jvm.exec) (hZ : Z.Warmed39 s.vm) (eT : T.heap = h) (F : Arv Z h a k .byte z vs dv) {x : Int32} (hj : ¬ j < 0 ∧ j < z) (i : Nat) (hi : j.toNatClampNeg = i) (hl : i < vs.length) (hg : g.method = m) (hs : g.stack = .int x :: .int j :: .ref a :: rest) (hd : decode c.code g.pc = .ok (.bastore, 1)) :
    ∃ T' h', Stand p l e R s m args below meth c T' (locs ++ [⟨a, j.toNatClampNeg⟩]) cells slots ∧ T'.heap = h' ∧ Wr h h' a j.toNatClampNeg (.int (nar .byte x)) ∧ Arv Z h' a k .byte z (vs.set i (.int x.toInt8.toInt32)) dv ∧ ∀ target, Steps p.tables e below (T'.setTop { g with pc := g.pc + 1, stack := rest }) target → Steps p.tables e below (T.setTop g) target := by
  obtain ⟨cl, A, q1, S, q3, H, G⟩ := F
  obtain ⟨T', h', X', e', W, st⟩ := stB X hx hZ eT A (inb_of S hj) hg hs hd
  exact ⟨T', h', X', e', W, Arv.set A q1 S q3 H G (fits_nar_byte _) W i hi hl, st⟩
theorem own_pushB (X : Stand p l e R s m args below meth c T locs cells slots) (hx : p.tables.exec = Jvm.exec) (hZ : Z.Warmed39 s.vm) (eT : T.heap = h) (F : Arv Z h a k .byte z vs dv) {x : Int32} (hj : ¬ j < 0 ∧ j < z) (hi : j.toNatClampNeg = vs.length) (hg : g.method = m) (hs : g.stack = .int x :: .int j :: .ref a :: rest) (hd : decode c.code g.pc = .ok (.bastore, 1)) :
    ∃ T' h', Stand p l e R s m args below meth c T' (locs ++ [⟨a, j.toNatClampNeg⟩]) cells slots ∧ T'.heap = h' ∧ Wr h h' a j.toNatClampNeg (.int (nar .byte x)) ∧ Arv Z h' a k .byte z (vs ++ [.int x.toInt8.toInt32]) dv ∧ ∀ target, Steps p.tables e below (T'.setTop { g with pc := g.pc + 1, stack := rest }) target → Steps p.tables e below (T.setTop g) target := by
  have F' : Arv Z h a k .byte z (vs ++ List.replicate 1 dv) dv := F.pad (pad_rep vs dv 1)
  obtain ⟨cl, A, q1, S, q3, H, G⟩ := F'
  obtain ⟨T', h', X', e', W, st⟩ := stB X hx hZ eT A (inb_of S hj) hg hs hd
  have V := Arv.set A q1 S q3 H G (fits_nar_byte _) W vs.length hi (by simp)
  have e : (vs ++ List.replicate 1 dv).set vs.length (.int x.toInt8.toInt32) = vs ++ [.int x.toInt8.toInt32] := by simp
  exact ⟨T', h', X', e', W, e ▸ V, st⟩
theorem own_stJ (X : Stand p l e R s m args below meth c T locs cells slots) (hx : p.tables.exec = Jvm.exec) (hZ : Z.Warmed39 s.vm) (eT : T.heap = h) (F : Arv Z h a k .long z vs dv) {x : Int64} (hj : ¬ j < 0 ∧ j < z) (i : Nat) (hi : j.toNatClampNeg = i) (hl : i < vs.length) (hg : g.method = m) (hs : g.stack = .long x :: .int j :: .ref a :: rest) (hd : decode c.code g.pc = .ok (.lastore, 1)) :
    ∃ T' h', Stand p l e R s m args below meth c T' (locs ++ [⟨a, j.toNatClampNeg⟩]) cells slots ∧ T'.heap = h' ∧ Wr h h' a j.toNatClampNeg (.long x) ∧ Arv Z h' a k .long z (vs.set i (.long x)) dv ∧ ∀ target, Steps p.tables e below (T'.setTop { g with pc := g.pc + 1, stack := rest }) target → Steps p.tables e below (T.setTop g) target := by
  obtain ⟨cl, A, q1, S, q3, H, G⟩ := F
  obtain ⟨T', h', X', e', W, st⟩ := stJ X hx hZ eT A (inb_of S hj) hg hs hd
  exact ⟨T', h', X', e', W, Arv.set A q1 S q3 H G rfl W i hi hl, st⟩
theorem own_stR (X : Stand p l e R s m args below meth c T locs cells slots) (hx : p.tables.exec = Jvm.exec) (hZ : Z.Warmed39 s.vm) (eT : T.heap = h) {C : String} (F : Arv Z h a k (.object C) z vs dv) {b : Addr} (O : Ovr Z k C) (I : Ins Z h b C true) (hj : ¬ j < 0 ∧ j < z) (i : Nat) (hi : j.toNatClampNeg = i) (hl : i < vs.length) (hg : g.method = m) (hs : g.stack = .ref b :: .int j :: .ref a :: rest) (hd : decode c.code g.pc = .ok (.aastore, 1)) :
    ∃ T' h', Stand p l e R s m args below meth c T' (locs ++ [⟨a, j.toNatClampNeg⟩]) cells slots ∧ T'.heap = h' ∧ Wr h h' a j.toNatClampNeg (.ref b) ∧ Arv Z h' a k (.object C) z (vs.set i (.ref b)) dv ∧ ∀ target, Steps p.tables e below (T'.setTop { g with pc := g.pc + 1, stack := rest }) target → Steps p.tables e below (T.setTop g) target := by
  obtain ⟨cl, A, q1, S, q3, H, G⟩ := F
  obtain ⟨T', h', X', e', W, st⟩ := stR X hx hZ eT A (inb_of S hj) rfl (Sto.ofV A q1 O I) hg hs hd
  exact ⟨T', h', X', e', W, Arv.set A q1 S q3 H G rfl W i hi hl, st⟩
end Own
end Jvm.RoadKit
namespace Jvm.Pilot.@@N@@
open Jvm Jvm.ClassFile Sem Op Lib Jvm.Free Jvm.Stand Jvm.LawKit Jvm.RoadKit Bundle Jvm.Pilot.@@N@@.Jvm.D
theorem own_eq_int {args : Array Value} {first s : State} {o : Option Outcome} {idx : List Nat} {t : Term} {k : Int32} (h : (Cond.eq t (.int k)).value args first o s idx = some true) : t.eval args first o idx s = some (.int k) := by
  cases ht : t.eval args first o idx s with
  | none => simp [Cond.value, ht] at h
  | some x => cases x <;> simp [Cond.value, Term.eval, ht] at h ⊢; exact h
theorem own_eq_ref {args : Array Value} {first s : State} {o : Option Outcome} {idx : List Nat} {t u : Term} {a : Addr} (hu : u.eval args first o idx s = some (.ref a)) (h : (Cond.eq t u).value args first o s idx = some true) : t.eval args first o idx s = some (.ref a) := by
  cases ht : t.eval args first o idx s with
  | none => simp [Cond.value, ht] at h
  | some x => cases x <;> simp [Cond.value, ht, hu] at h ⊢; exact h
theorem own_arr_start {args : Array Value} {Z : State} {t : Term} {a : Addr} {ty : FieldType} {z : Int32} (ev : t.eval args Z none [] Z = some (.ref a)) (ha : (Cond.arrayOf t ty).value args Z none Z [] = some true) (hl : (Cond.eq (.length t) (.int z)).value args Z none Z [] = some true) : ∃ c, Arr Z Z.heap a c ty ∧ c.slots.size < 2 ^ 31 ∧ c.slots.size.toInt32 = z := by
  obtain ⟨c, A⟩ := Arr.start ev ha
  have hq := own_eq_int hl
  have hc : Z.arrayAt? a = some c := A.fin (Vm.Alike.refl _)
  refine ⟨c, A, ?_⟩
  simp only [Term.eval, ev, hc, Option.bind_eq_bind, Option.bind_some] at hq
  split at hq
  · rename_i hlt
    simp only [Option.pure_def, Option.some.injEq, Value.int.injEq] at hq
    exact ⟨hlt, hq⟩
  · cases hq
theorem own_pn0 : plainName "com/example/recency/recency/RecencyList$Link" = true := by first | (simp [plainName, overriddenIn]; done) | decide +kernel
theorem own_pn1 : plainName "com/example/recency/recency/RecencyList" = true := by first | (simp [plainName, overriddenIn]; done) | decide +kernel
theorem own_pn2 : plainName "com/example/recency/recency/RecencyListRemovePinLaw" = true := by first | (simp [plainName, overriddenIn]; done) | decide +kernel
theorem own_pd0 : parseMethodDescriptor "()V" = some ⟨[], none⟩ := by decide +kernel
theorem own_pd1 : parseMethodDescriptor "(Lcom/example/recency/recency/RecencyList$Link;)V" = some ⟨[.object "com/example/recency/recency/RecencyList$Link"], none⟩ := by decide +kernel
theorem own_pd2 : parseMethodDescriptor "()Lcom/example/recency/recency/RecencyList$Link;" = some ⟨[], some (.object "com/example/recency/recency/RecencyList$Link")⟩ := by decide +kernel
theorem own_pd3 : parseMethodDescriptor "([Lcom/example/recency/recency/RecencyListRemovePinLaw;II)Z" = some ⟨[.array (.object "com/example/recency/recency/RecencyListRemovePinLaw"), .int, .int], some .boolean⟩ := by decide +kernel
theorem own_da_0 : decode method_1_code 0 = .ok (.aload_n 0, 1) := by decide +kernel
theorem own_da_1 : decode method_1_code 1 = .ok (.invokespecial 1, 3) := by decide +kernel
theorem own_da_4 : decode method_1_code 4 = .ok (.return_, 1) := by decide +kernel
theorem own_db_0 : decode prog_24_method_1_code 0 = .ok (.aload_n 0, 1) := by decide +kernel
theorem own_db_1 : decode prog_24_method_1_code 1 = .ok (.invokespecial 1, 3) := by decide +kernel
theorem own_db_4 : decode prog_24_method_1_code 4 = .ok (.return_, 1) := by decide +kernel
theorem own_dc_0 : decode prog_22_method_1_code 0 = .ok (.aload_n 0, 1) := by decide +kernel
theorem own_dc_1 : decode prog_22_method_1_code 1 = .ok (.invokespecial 1, 3) := by decide +kernel
theorem own_dc_4 : decode prog_22_method_1_code 4 = .ok (.return_, 1) := by decide +kernel
theorem own_dd_0 : decode prog_22_method_3_code 0 = .ok (.getstatic 13, 3) := by decide +kernel
theorem own_dd_3 : decode prog_22_method_3_code 3 = .ok (.ifCond .ne 33, 3) := by decide +kernel
theorem own_dd_36 : decode prog_22_method_3_code 36 = .ok (.aload_n 0, 1) := by decide +kernel
theorem own_dd_37 : decode prog_22_method_3_code 37 = .ok (.getfield 28, 3) := by decide +kernel
theorem own_dd_40 : decode prog_22_method_3_code 40 = .ok (.ifnonnull 11, 3) := by decide +kernel
theorem own_dd_43 : decode prog_22_method_3_code 43 = .ok (.aload_n 0, 1) := by decide +kernel
theorem own_dd_44 : decode prog_22_method_3_code 44 = .ok (.aload_n 1, 1) := by decide +kernel
theorem own_dd_45 : decode prog_22_method_3_code 45 = .ok (.putfield 7, 3) := by decide +kernel
theorem own_dd_48 : decode prog_22_method_3_code 48 = .ok (.goto 19, 3) := by decide +kernel
theorem own_dd_51 : decode prog_22_method_3_code 51 = .ok (.aload_n 0, 1) := by decide +kernel
theorem own_dd_52 : decode prog_22_method_3_code 52 = .ok (.getfield 28, 3) := by decide +kernel
theorem own_dd_55 : decode prog_22_method_3_code 55 = .ok (.aload_n 1, 1) := by decide +kernel
theorem own_dd_56 : decode prog_22_method_3_code 56 = .ok (.putfield 22, 3) := by decide +kernel
theorem own_dd_59 : decode prog_22_method_3_code 59 = .ok (.aload_n 1, 1) := by decide +kernel
theorem own_dd_60 : decode prog_22_method_3_code 60 = .ok (.aload_n 0, 1) := by decide +kernel
theorem own_dd_61 : decode prog_22_method_3_code 61 = .ok (.getfield 28, 3) := by decide +kernel
theorem own_dd_64 : decode prog_22_method_3_code 64 = .ok (.putfield 17, 3) := by decide +kernel
theorem own_dd_67 : decode prog_22_method_3_code 67 = .ok (.aload_n 0, 1) := by decide +kernel
theorem own_dd_68 : decode prog_22_method_3_code 68 = .ok (.aload_n 1, 1) := by decide +kernel
theorem own_dd_69 : decode prog_22_method_3_code 69 = .ok (.putfield 28, 3) := by decide +kernel
theorem own_dd_72 : decode prog_22_method_3_code 72 = .ok (.return_, 1) := by decide +kernel
theorem own_de_0 : decode prog_22_method_5_code 0 = .ok (.getstatic 13, 3) := by decide +kernel
theorem own_de_3 : decode prog_22_method_5_code 3 = .ok (.ifCond .ne 26, 3) := by decide +kernel
theorem own_de_29 : decode prog_22_method_5_code 29 = .ok (.aload_n 1, 1) := by decide +kernel
theorem own_de_30 : decode prog_22_method_5_code 30 = .ok (.getfield 17, 3) := by decide +kernel
theorem own_de_33 : decode prog_22_method_5_code 33 = .ok (.astore_n 2, 1) := by decide +kernel
theorem own_de_34 : decode prog_22_method_5_code 34 = .ok (.aload_n 1, 1) := by decide +kernel
theorem own_de_35 : decode prog_22_method_5_code 35 = .ok (.getfield 22, 3) := by decide +kernel
theorem own_de_38 : decode prog_22_method_5_code 38 = .ok (.astore_n 3, 1) := by decide +kernel
theorem own_de_39 : decode prog_22_method_5_code 39 = .ok (.aload_n 2, 1) := by decide +kernel
theorem own_de_40 : decode prog_22_method_5_code 40 = .ok (.ifnonnull 11, 3) := by decide +kernel
theorem own_de_43 : decode prog_22_method_5_code 43 = .ok (.aload_n 0, 1) := by decide +kernel
theorem own_de_44 : decode prog_22_method_5_code 44 = .ok (.aload_n 3, 1) := by decide +kernel
theorem own_de_45 : decode prog_22_method_5_code 45 = .ok (.putfield 7, 3) := by decide +kernel
theorem own_de_48 : decode prog_22_method_5_code 48 = .ok (.goto 8, 3) := by decide +kernel
theorem own_de_51 : decode prog_22_method_5_code 51 = .ok (.aload_n 2, 1) := by decide +kernel
theorem own_de_52 : decode prog_22_method_5_code 52 = .ok (.aload_n 3, 1) := by decide +kernel
theorem own_de_53 : decode prog_22_method_5_code 53 = .ok (.putfield 22, 3) := by decide +kernel
theorem own_de_56 : decode prog_22_method_5_code 56 = .ok (.aload_n 3, 1) := by decide +kernel
theorem own_de_57 : decode prog_22_method_5_code 57 = .ok (.ifnonnull 11, 3) := by decide +kernel
theorem own_de_60 : decode prog_22_method_5_code 60 = .ok (.aload_n 0, 1) := by decide +kernel
theorem own_de_61 : decode prog_22_method_5_code 61 = .ok (.aload_n 2, 1) := by decide +kernel
theorem own_de_62 : decode prog_22_method_5_code 62 = .ok (.putfield 28, 3) := by decide +kernel
theorem own_de_65 : decode prog_22_method_5_code 65 = .ok (.goto 8, 3) := by decide +kernel
theorem own_de_68 : decode prog_22_method_5_code 68 = .ok (.aload_n 3, 1) := by decide +kernel
theorem own_de_69 : decode prog_22_method_5_code 69 = .ok (.aload_n 2, 1) := by decide +kernel
theorem own_de_70 : decode prog_22_method_5_code 70 = .ok (.putfield 17, 3) := by decide +kernel
theorem own_de_73 : decode prog_22_method_5_code 73 = .ok (.aload_n 1, 1) := by decide +kernel
theorem own_de_74 : decode prog_22_method_5_code 74 = .ok (.aconst_null, 1) := by decide +kernel
theorem own_de_75 : decode prog_22_method_5_code 75 = .ok (.putfield 17, 3) := by decide +kernel
theorem own_de_78 : decode prog_22_method_5_code 78 = .ok (.aload_n 1, 1) := by decide +kernel
theorem own_de_79 : decode prog_22_method_5_code 79 = .ok (.aconst_null, 1) := by decide +kernel
theorem own_de_80 : decode prog_22_method_5_code 80 = .ok (.putfield 22, 3) := by decide +kernel
theorem own_de_83 : decode prog_22_method_5_code 83 = .ok (.return_, 1) := by decide +kernel
theorem own_df_0 : decode prog_22_method_2_code 0 = .ok (.aload_n 0, 1) := by decide +kernel
theorem own_df_1 : decode prog_22_method_2_code 1 = .ok (.getfield 7, 3) := by decide +kernel
theorem own_df_4 : decode prog_22_method_2_code 4 = .ok (.areturn, 1) := by decide +kernel
theorem own_dg_0 : decode method_3_code 0 = .ok (.iload_n 1, 1) := by decide +kernel
theorem own_dg_1 : decode method_3_code 1 = .ok (.iload_n 2, 1) := by decide +kernel
theorem own_dg_2 : decode method_3_code 2 = .ok (.if_icmp .lt 5, 3) := by decide +kernel
theorem own_dg_5 : decode method_3_code 5 = .ok (.iconst 1, 1) := by decide +kernel
theorem own_dg_6 : decode method_3_code 6 = .ok (.ireturn, 1) := by decide +kernel
theorem own_dg_7 : decode method_3_code 7 = .ok (.iload_n 1, 1) := by decide +kernel
theorem own_dg_8 : decode method_3_code 8 = .ok (.ifCond .ne 7, 3) := by decide +kernel
theorem own_dg_11 : decode method_3_code 11 = .ok (.aconst_null, 1) := by decide +kernel
theorem own_dg_12 : decode method_3_code 12 = .ok (.goto 8, 3) := by decide +kernel
theorem own_dg_15 : decode method_3_code 15 = .ok (.aload_n 0, 1) := by decide +kernel
theorem own_dg_16 : decode method_3_code 16 = .ok (.iload_n 1, 1) := by decide +kernel
theorem own_dg_17 : decode method_3_code 17 = .ok (.iconst 1, 1) := by decide +kernel
theorem own_dg_18 : decode method_3_code 18 = .ok (.isub, 1) := by decide +kernel
theorem own_dg_19 : decode method_3_code 19 = .ok (.aaload, 1) := by decide +kernel
theorem own_dg_20 : decode method_3_code 20 = .ok (.astore_n 3, 1) := by decide +kernel
theorem own_dg_21 : decode method_3_code 21 = .ok (.iload_n 1, 1) := by decide +kernel
theorem own_dg_22 : decode method_3_code 22 = .ok (.iload_n 2, 1) := by decide +kernel
theorem own_dg_23 : decode method_3_code 23 = .ok (.iconst 1, 1) := by decide +kernel
theorem own_dg_24 : decode method_3_code 24 = .ok (.isub, 1) := by decide +kernel
theorem own_dg_25 : decode method_3_code 25 = .ok (.if_icmp .ne 7, 3) := by decide +kernel
theorem own_dg_28 : decode method_3_code 28 = .ok (.aconst_null, 1) := by decide +kernel
theorem own_dg_29 : decode method_3_code 29 = .ok (.goto 8, 3) := by decide +kernel
theorem own_dg_32 : decode method_3_code 32 = .ok (.aload_n 0, 1) := by decide +kernel
theorem own_dg_33 : decode method_3_code 33 = .ok (.iload_n 1, 1) := by decide +kernel
theorem own_dg_34 : decode method_3_code 34 = .ok (.iconst 1, 1) := by decide +kernel
theorem own_dg_35 : decode method_3_code 35 = .ok (.iadd, 1) := by decide +kernel
theorem own_dg_36 : decode method_3_code 36 = .ok (.aaload, 1) := by decide +kernel
theorem own_dg_37 : decode method_3_code 37 = .ok (.astore 4, 2) := by decide +kernel
theorem own_dg_39 : decode method_3_code 39 = .ok (.aload_n 0, 1) := by decide +kernel
theorem own_dg_40 : decode method_3_code 40 = .ok (.iload_n 1, 1) := by decide +kernel
theorem own_dg_41 : decode method_3_code 41 = .ok (.aaload, 1) := by decide +kernel
theorem own_dg_42 : decode method_3_code 42 = .ok (.getfield 21, 3) := by decide +kernel
theorem own_dg_45 : decode method_3_code 45 = .ok (.aload_n 3, 1) := by decide +kernel
theorem own_dg_46 : decode method_3_code 46 = .ok (.if_acmp .ne 18, 3) := by decide +kernel
theorem own_dg_49 : decode method_3_code 49 = .ok (.aload_n 0, 1) := by decide +kernel
theorem own_dg_50 : decode method_3_code 50 = .ok (.iload_n 1, 1) := by decide +kernel
theorem own_dg_51 : decode method_3_code 51 = .ok (.aaload, 1) := by decide +kernel
theorem own_dg_52 : decode method_3_code 52 = .ok (.getfield 25, 3) := by decide +kernel
theorem own_dg_55 : decode method_3_code 55 = .ok (.aload 4, 2) := by decide +kernel
theorem own_dg_57 : decode method_3_code 57 = .ok (.if_acmp .ne 7, 3) := by decide +kernel
theorem own_dg_60 : decode method_3_code 60 = .ok (.iconst 1, 1) := by decide +kernel
theorem own_dg_61 : decode method_3_code 61 = .ok (.goto 4, 3) := by decide +kernel
theorem own_dg_65 : decode method_3_code 65 = .ok (.ireturn, 1) := by decide +kernel
theorem own_ef_lini (m : MethodId) (x0 : Addr) : entryFrame m #[(.ref x0)] 1 = mkF m 0 #[.val (.ref x0)] [] := by first | (simp [entryFrame, mkF, argsToLocals, Value.category]; done) | rfl
def own_Q_lini (Z : State) (a : Addr) (h0 : Heap) (n0 : Nat) (v : Option Value) (h : Heap) (L : List Loc) : Prop := v = none ∧ Fr n0 L ∧ h = h0
set_option maxRecDepth 65536 in
set_option maxHeartbeats 40000000 in
theorem own_rm_lini (l : Launch) (Z : State) (a0 : Array Value) (hw : ∀ d ∈ tables_1, d.before a0 Z = true) (ws : List Jvm.Cond) (a : Addr) (h0 : Heap) (n0 : Nat) (Z0 : n0 ≤ h0.size)  :
    MetFree l (⟨"com/example/recency/recency/RecencyList$Link", "<init>", "()V"⟩ : MethodName) (head1 (Jvm.Cond.code (⟨"com/example/recency/recency/RecencyList$Link", "<init>", "()V"⟩ : MethodName) prog_24_method_1_code 1 none :: ws) ({ frames := 1, cells := 0, slots := 0, locals := 12 } : Room)) (fun zz U => zz = #[(.ref a)] ∧ Z.Warmed39 U.vm ∧ U.heap = h0) (fun _ _ _ _ _ => True) (fun _ U zo U' => ∃ v L, zo = .returned v ∧ own_Q_lini Z a h0 n0 v U'.heap L ∧ FrameEnd U zo U' L ({ frames := 1, cells := 0, slots := 0, locals := 12 } : Room).cells ({ frames := 1, cells := 0, slots := 0, locals := 12 } : Room).slots) := by
  refine MetFree.of_bodySF (plainFor_of_name own_pn0) hisR ?_
  intro p e s m args below meth c s₁ Bd hml0 hP hK
  obtain ⟨rfl, hZ, hh⟩ := hP
  have hx := Bd.exec
  have hby := Bd.bytes
  have hml : c.maxLocals = 1 := hml0
  have hown : s.vm.findClass "com/example/recency/recency/RecencyList$Link" = some m.cls := findClass_of_methodNamed Bd.named
  have hnm := (name_of_methodNamed Bd.named Bd.method).1
  have X0 : Stand p l e ({ frames := 1, cells := 0, slots := 0, locals := 12 } : Room) s m #[(.ref a)] below meth c s₁ [] 0 0 := Stand.of_body Bd
  have e0 : s₁.heap = h0 := by rw [← hh, Bd.state]; rfl
  have N0 := Fr.nil n0
  show own_Go p e below (own_K s (own_Q_lini Z a h0 n0) ({ frames := 1, cells := 0, slots := 0, locals := 12 } : Room).cells ({ frames := 1, cells := 0, slots := 0, locals := 12 } : Room).slots) s₁ (entryFrame m #[(.ref a)] 1)
  rw [own_ef_lini m a]
  show own_Go p e below _ s₁ (mkF m 0 #[rv a] [])
  refine own_st (fun _ k => XS.aloadN X0.here hx rfl (hb hby own_db_0) rfl rfl k) ?_
  show own_Go p e below _ s₁ (mkF m 1 #[rv a] [(.ref a)])
  obtain ⟨T1, X1, e1, st1⟩ := initO X0 hx hZ hown (hw _ (List.mem_of_getElem? (i := 13) rfl)) (hw _ (List.mem_of_getElem? (i := 14) rfl)) (hw _ (List.mem_of_getElem? (i := 15) rfl)) e0 (g := (mkF m 1 #[rv a] [(.ref a)])) rfl (by rw [hml]; rfl) rfl (hb hby own_db_1) (by decide) (W := 0) (by show 2 * 0 + _ ≤ _; exact Nat.le_of_eq rfl) (by decide)
  refine own_st st1 ?_
  clear st1
  show own_Go p e below _ T1 (mkF m 4 #[rv a] [])
  refine own_ret X1 hx Bd.notSynchronized Bd.returns (hb hby own_db_4) (by decide) (by decide) ?_
  rw [e1]
  exact ⟨rfl, N0, rfl⟩
theorem own_ef_rini (m : MethodId) (x0 : Addr) : entryFrame m #[(.ref x0)] 1 = mkF m 0 #[.val (.ref x0)] [] := by first | (simp [entryFrame, mkF, argsToLocals, Value.category]; done) | rfl
def own_Q_rini (Z : State) (a : Addr) (h0 : Heap) (n0 : Nat) (v : Option Value) (h : Heap) (L : List Loc) : Prop := v = none ∧ Fr n0 L ∧ h = h0
set_option maxRecDepth 65536 in
set_option maxHeartbeats 40000000 in
theorem own_rm_rini (l : Launch) (Z : State) (a0 : Array Value) (hw : ∀ d ∈ tables_1, d.before a0 Z = true) (ws : List Jvm.Cond) (a : Addr) (h0 : Heap) (n0 : Nat) (Z0 : n0 ≤ h0.size)  :
    MetFree l (⟨"com/example/recency/recency/RecencyList", "<init>", "()V"⟩ : MethodName) (head1 (Jvm.Cond.code (⟨"com/example/recency/recency/RecencyList", "<init>", "()V"⟩ : MethodName) prog_22_method_1_code 1 none :: ws) ({ frames := 1, cells := 0, slots := 0, locals := 12 } : Room)) (fun zz U => zz = #[(.ref a)] ∧ Z.Warmed39 U.vm ∧ U.heap = h0) (fun _ _ _ _ _ => True) (fun _ U zo U' => ∃ v L, zo = .returned v ∧ own_Q_rini Z a h0 n0 v U'.heap L ∧ FrameEnd U zo U' L ({ frames := 1, cells := 0, slots := 0, locals := 12 } : Room).cells ({ frames := 1, cells := 0, slots := 0, locals := 12 } : Room).slots) := by
  refine MetFree.of_bodySF (plainFor_of_name own_pn1) hisR ?_
  intro p e s m args below meth c s₁ Bd hml0 hP hK
  obtain ⟨rfl, hZ, hh⟩ := hP
  have hx := Bd.exec
  have hby := Bd.bytes
  have hml : c.maxLocals = 1 := hml0
  have hown : s.vm.findClass "com/example/recency/recency/RecencyList" = some m.cls := findClass_of_methodNamed Bd.named
  have hnm := (name_of_methodNamed Bd.named Bd.method).1
  have X0 : Stand p l e ({ frames := 1, cells := 0, slots := 0, locals := 12 } : Room) s m #[(.ref a)] below meth c s₁ [] 0 0 := Stand.of_body Bd
  have e0 : s₁.heap = h0 := by rw [← hh, Bd.state]; rfl
  have N0 := Fr.nil n0
  show own_Go p e below (own_K s (own_Q_rini Z a h0 n0) ({ frames := 1, cells := 0, slots := 0, locals := 12 } : Room).cells ({ frames := 1, cells := 0, slots := 0, locals := 12 } : Room).slots) s₁ (entryFrame m #[(.ref a)] 1)
  rw [own_ef_rini m a]
  show own_Go p e below _ s₁ (mkF m 0 #[rv a] [])
  refine own_st (fun _ k => XS.aloadN X0.here hx rfl (hb hby own_dc_0) rfl rfl k) ?_
  show own_Go p e below _ s₁ (mkF m 1 #[rv a] [(.ref a)])
  obtain ⟨T1, X1, e1, st1⟩ := initO X0 hx hZ hown (hw _ (List.mem_of_getElem? (i := 23) rfl)) (hw _ (List.mem_of_getElem? (i := 14) rfl)) (hw _ (List.mem_of_getElem? (i := 15) rfl)) e0 (g := (mkF m 1 #[rv a] [(.ref a)])) rfl (by rw [hml]; rfl) rfl (hb hby own_dc_1) (by decide) (W := 0) (by show 2 * 0 + _ ≤ _; exact Nat.le_of_eq rfl) (by decide)
  refine own_st st1 ?_
  clear st1
  show own_Go p e below _ T1 (mkF m 4 #[rv a] [])
  refine own_ret X1 hx Bd.notSynchronized Bd.returns (hb hby own_dc_4) (by decide) (by decide) ?_
  rw [e1]
  exact ⟨rfl, N0, rfl⟩
theorem own_ef_ini (m : MethodId) (x0 : Addr) : entryFrame m #[(.ref x0)] 1 = mkF m 0 #[.val (.ref x0)] [] := by first | (simp [entryFrame, mkF, argsToLocals, Value.category]; done) | rfl
def own_Q_ini (Z : State) (a : Addr) (h0 : Heap) (n0 : Nat) (v : Option Value) (h : Heap) (L : List Loc) : Prop := v = none ∧ Fr n0 L ∧ h = h0
set_option maxRecDepth 65536 in
set_option maxHeartbeats 40000000 in
theorem own_rm_ini (l : Launch) (Z : State) (a0 : Array Value) (hw : ∀ d ∈ tables_1, d.before a0 Z = true) (ws : List Jvm.Cond) (a : Addr) (h0 : Heap) (n0 : Nat) (Z0 : n0 ≤ h0.size)  :
    MetFree l (⟨"com/example/recency/recency/RecencyListRemovePinLaw", "<init>", "()V"⟩ : MethodName) (head1 (Jvm.Cond.code (⟨"com/example/recency/recency/RecencyListRemovePinLaw", "<init>", "()V"⟩ : MethodName) method_1_code 1 none :: ws) ({ frames := 2, cells := 0, slots := 0, locals := 24 } : Room)) (fun zz U => zz = #[(.ref a)] ∧ Z.Warmed39 U.vm ∧ U.heap = h0) (fun _ _ _ _ _ => True) (fun _ U zo U' => ∃ v L, zo = .returned v ∧ own_Q_ini Z a h0 n0 v U'.heap L ∧ FrameEnd U zo U' L ({ frames := 2, cells := 0, slots := 0, locals := 24 } : Room).cells ({ frames := 2, cells := 0, slots := 0, locals := 24 } : Room).slots) := by
  refine MetFree.of_bodySF (plainFor_of_name own_pn2) hisR ?_
  intro p e s m args below meth c s₁ Bd hml0 hP hK
  obtain ⟨rfl, hZ, hh⟩ := hP
  have hx := Bd.exec
  have hby := Bd.bytes
  have hml : c.maxLocals = 1 := hml0
  have hown : s.vm.findClass "com/example/recency/recency/RecencyListRemovePinLaw" = some m.cls := findClass_of_methodNamed Bd.named
  have hnm := (name_of_methodNamed Bd.named Bd.method).1
  have X0 : Stand p l e ({ frames := 2, cells := 0, slots := 0, locals := 24 } : Room) s m #[(.ref a)] below meth c s₁ [] 0 0 := Stand.of_body Bd
  have e0 : s₁.heap = h0 := by rw [← hh, Bd.state]; rfl
  have N0 := Fr.nil n0
  show own_Go p e below (own_K s (own_Q_ini Z a h0 n0) ({ frames := 2, cells := 0, slots := 0, locals := 24 } : Room).cells ({ frames := 2, cells := 0, slots := 0, locals := 24 } : Room).slots) s₁ (entryFrame m #[(.ref a)] 1)
  rw [own_ef_ini m a]
  show own_Go p e below _ s₁ (mkF m 0 #[rv a] [])
  refine own_st (fun _ k => XS.aloadN X0.here hx rfl (hb hby own_da_0) rfl rfl k) ?_
  show own_Go p e below _ s₁ (mkF m 1 #[rv a] [(.ref a)])
  obtain ⟨_, T1, L1, X1, hQ1, st1⟩ := own_gotT (X0.specialBack hx (y := (⟨"com/example/recency/recency/RecencyList$Link", "<init>", "()V"⟩ : MethodName)) rfl hown (mvT hZ (hw _ (List.mem_of_getElem? (i := 8) rfl))) (mvT hZ (hw _ (List.mem_of_getElem? (i := 9) rfl))) (mvT hZ (hw _ (List.mem_of_getElem? (i := 12) rfl))) (by decide) (backOf (W := 0) (own_rm_lini l Z a0 hw [] a h0 n0 Z0) hZ (hw _ (List.mem_of_getElem? (i := 12) rfl)) (hw _ (List.mem_of_getElem? (i := 11) rfl)) (by decide) (by decide)) (g := (mkF m 1 #[rv a] [(.ref a)])) rfl (by rw [hml]; rfl) (Steps.refl _) (a := a) (argsL := []) (rest := []) (lenOf own_pd0 rfl) rfl (by show 2 * 0 + _ ≤ _; exact Nat.le_of_eq rfl) (hb hby own_da_1) (fun _ _ => ⟨rfl, e0, (by decide : 0 + 0 ≤ _), (by decide : 0 + 0 ≤ _)⟩))
  replace X1 := own_num X1 (k' := 0) (n' := 0) rfl rfl
  obtain ⟨rfl, N1, eh1⟩ := hQ1
  have M1 := Fr.app N0 N1
  obtain ⟨lc1, Y1, P1⟩ := own_hide X1 M1
  refine own_tr st1 ?_
  clear X0 N1 e0 X1 M1 st1
  show own_Go p e below _ T1 (mkF m 4 #[rv a] [])
  refine own_ret Y1 hx Bd.notSynchronized Bd.returns (hb hby own_da_4) (by decide) (by decide) ?_
  rw [eh1]
  exact ⟨rfl, P1, rfl⟩
theorem own_ef_add0 (m : MethodId) (x0 : Addr) (x1 : Addr) : entryFrame m #[(.ref x0), (.ref x1)] 2 = mkF m 0 #[.val (.ref x0), .val (.ref x1)] [] := by first | (simp [entryFrame, mkF, argsToLocals, Value.category]; done) | rfl
def own_Q_add0 (Z : State) (o : Addr) (x : Addr) (h0 : Heap) (n0 : Nat) (v : Option Value) (h : Heap) (L : List Loc) : Prop := v = none ∧ Fr n0 L ∧ Keep h0 h [o] ∧ Fld Z h o "com/example/recency/recency/RecencyList" "first" "Lcom/example/recency/recency/RecencyList$Link;" (.ref x) ∧ Fld Z h o "com/example/recency/recency/RecencyList" "last" "Lcom/example/recency/recency/RecencyList$Link;" (.ref x)
set_option maxRecDepth 65536 in
set_option maxHeartbeats 40000000 in
theorem own_rm_add0 (l : Launch) (Z : State) (a0 : Array Value) (hw : ∀ d ∈ tables_1, d.before a0 Z = true) (ws : List Jvm.Cond) (o : Addr) (x : Addr) (h0 : Heap) (n0 : Nat) (Z0 : n0 ≤ h0.size) (S_A : Sta Z h0 "com/example/recency/recency/RecencyList" "$assertionsDisabled" "Z" (.int (1 : Int32))) (E_o : Exa Z h0 o "com/example/recency/recency/RecencyList") (F_first_o : Fld Z h0 o "com/example/recency/recency/RecencyList" "first" "Lcom/example/recency/recency/RecencyList$Link;" .null) (F_last_o : Fld Z h0 o "com/example/recency/recency/RecencyList" "last" "Lcom/example/recency/recency/RecencyList$Link;" .null) (g_o : n0 ≤ o) :
    MetFree l (⟨"com/example/recency/recency/RecencyList", "addLast", "(Lcom/example/recency/recency/RecencyList$Link;)V"⟩ : MethodName) (head1 (Jvm.Cond.code (⟨"com/example/recency/recency/RecencyList", "addLast", "(Lcom/example/recency/recency/RecencyList$Link;)V"⟩ : MethodName) prog_22_method_3_code 2 none :: ws) ({ frames := 0, cells := 0, slots := 0, locals := 0 } : Room)) (fun zz U => zz = #[(.ref o), (.ref x)] ∧ Z.Warmed39 U.vm ∧ U.heap = h0) (fun _ _ _ _ _ => True) (fun _ U zo U' => ∃ v L, zo = .returned v ∧ own_Q_add0 Z o x h0 n0 v U'.heap L ∧ FrameEnd U zo U' L ({ frames := 0, cells := 0, slots := 0, locals := 0 } : Room).cells ({ frames := 0, cells := 0, slots := 0, locals := 0 } : Room).slots) := by
  refine MetFree.of_bodySF (plainFor_of_name own_pn1) hisR ?_
  intro p e s m args below meth c s₁ Bd hml0 hP hK
  obtain ⟨rfl, hZ, hh⟩ := hP
  have hx := Bd.exec
  have hby := Bd.bytes
  have hml : c.maxLocals = 2 := hml0
  have hown : s.vm.findClass "com/example/recency/recency/RecencyList" = some m.cls := findClass_of_methodNamed Bd.named
  have hnm := (name_of_methodNamed Bd.named Bd.method).1
  have X0 : Stand p l e ({ frames := 0, cells := 0, slots := 0, locals := 0 } : Room) s m #[(.ref o), (.ref x)] below meth c s₁ [] 0 0 := Stand.of_body Bd
  have e0 : s₁.heap = h0 := by rw [← hh, Bd.state]; rfl
  have N0 := Fr.nil n0
  show own_Go p e below (own_K s (own_Q_add0 Z o x h0 n0) ({ frames := 0, cells := 0, slots := 0, locals := 0 } : Room).cells ({ frames := 0, cells := 0, slots := 0, locals := 0 } : Room).slots) s₁ (entryFrame m #[(.ref o), (.ref x)] 2)
  rw [own_ef_add0 m o x]
  show own_Go p e below _ s₁ (mkF m 0 #[rv o, rv x] [])
  have K0 : Keep h0 h0 [o] := Keep.refl _ _
  obtain ⟨T1, X1, e1, st1⟩ := getS2 X0 hx hZ hown (host := "") (Or.inl (hw _ (List.mem_of_getElem? (i := 29) rfl))) Via.refl e0 S_A (g := (mkF m 0 #[rv o, rv x] [])) rfl (hb hby own_dd_0)
  clear X0 e0
  refine own_st st1 ?_
  clear st1
  show own_Go p e below _ T1 (mkF m 3 #[rv o, rv x] [(.int 1)])
  refine own_st (fun _ k => XS.ifYes X1.here hx rfl (pc0 := 3) (pc' := 36) rfl (hb hby own_dd_3) rfl (XT.i0_ne_t (by decide)) (by decide) (by decide) k) ?_
  show own_Go p e below _ T1 (mkF m 36 #[rv o, rv x] [])
  refine own_st (fun _ k => XS.aloadN X1.here hx rfl (hb hby own_dd_36) rfl rfl k) ?_
  show own_Go p e below _ T1 (mkF m 37 #[rv o, rv x] [(.ref o)])
  obtain ⟨T2, X2, e2, st2⟩ := getF X1 hx hZ hown (host := "") (Or.inl (hw _ (List.mem_of_getElem? (i := 31) rfl))) Via.refl e1 F_last_o (g := (mkF m 37 #[rv o, rv x] [(.ref o)])) rfl rfl (hb hby own_dd_37)
  clear X1 e1
  refine own_st st2 ?_
  clear st2
  show own_Go p e below _ T2 (mkF m 40 #[rv o, rv x] [.null])
  refine own_st (fun _ k => XT.ifnonnullNo X2.here hx rfl (hb hby own_dd_40) rfl k) ?_
  show own_Go p e below _ T2 (mkF m 43 #[rv o, rv x] [])
  refine own_st (fun _ k => XS.aloadN X2.here hx rfl (hb hby own_dd_43) rfl rfl k) ?_
  show own_Go p e below _ T2 (mkF m 44 #[rv o, rv x] [(.ref o)])
  refine own_st (fun _ k => XS.aloadN X2.here hx rfl (hb hby own_dd_44) rfl rfl k) ?_
  show own_Go p e below _ T2 (mkF m 45 #[rv o, rv x] [(.ref x), (.ref o)])
  obtain ⟨T3, h3, X3, e3, W3, st3⟩ := putF X2 hx hZ hown (host := "") (Or.inl (hw _ (List.mem_of_getElem? (i := 33) rfl))) Via.refl e2 F_first_o E_o (Or.inl (hw _ (List.mem_of_getElem? (i := 34) rfl))) (hw _ (List.mem_of_getElem? (i := 18) rfl)) (ty := .object "com/example/recency/recency/RecencyList$Link") (by decide) rfl rfl (g := (mkF m 45 #[rv o, rv x] [(.ref x), (.ref o)])) rfl rfl (hb hby own_dd_45)
  have E3_o := E_o.wr W3
  have F3_first_o := F_first_o.same W3
  have F3_last_o := F_last_o.other W3 (Or.inr (slot_ne (Or.inl (hw _ (List.mem_of_getElem? (i := 32) rfl))) (Or.inl (hw _ (List.mem_of_getElem? (i := 34) rfl))) (by decide) (t := .object "com/example/recency/recency/RecencyList$Link") (t' := .object "com/example/recency/recency/RecencyList$Link") (by decide) (by decide)))
  have Z3 : n0 ≤ h3.size := by rw [W3.size]; exact Z0
  have K3 : Keep h0 h3 [o] := K0.wr W3 (Or.inl (List.mem_of_getElem? (i := 0) rfl))
  clear Z0 K0 E_o F_first_o F_last_o W3
  have N3 := Fr.snoc X3 N0 g_o
  obtain ⟨lc3, Y3, P3⟩ := own_hide X3 N3
  clear X3 N3
  clear X2 e2
  refine own_st st3 ?_
  clear st3
  show own_Go p e below _ T3 (mkF m 48 #[rv o, rv x] [])
  refine own_st (fun _ k => XS.goto Y3.here hx rfl (pc0 := 48) (pc' := 67) rfl (hb hby own_dd_48) (by decide) (by decide) k) ?_
  show own_Go p e below _ T3 (mkF m 67 #[rv o, rv x] [])
  refine own_st (fun _ k => XS.aloadN Y3.here hx rfl (hb hby own_dd_67) rfl rfl k) ?_
  show own_Go p e below _ T3 (mkF m 68 #[rv o, rv x] [(.ref o)])
  refine own_st (fun _ k => XS.aloadN Y3.here hx rfl (hb hby own_dd_68) rfl rfl k) ?_
  show own_Go p e below _ T3 (mkF m 69 #[rv o, rv x] [(.ref x), (.ref o)])
  obtain ⟨T4, h4, X4, e4, W4, st4⟩ := putF Y3 hx hZ hown (host := "") (Or.inl (hw _ (List.mem_of_getElem? (i := 31) rfl))) Via.refl e3 F3_last_o E3_o (Or.inl (hw _ (List.mem_of_getElem? (i := 32) rfl))) (hw _ (List.mem_of_getElem? (i := 18) rfl)) (ty := .object "com/example/recency/recency/RecencyList$Link") (by decide) rfl rfl (g := (mkF m 69 #[rv o, rv x] [(.ref x), (.ref o)])) rfl rfl (hb hby own_dd_69)
  have E4_o := E3_o.wr W4
  have F4_first_o := F3_first_o.other W4 (Or.inr (slot_ne (Or.inl (hw _ (List.mem_of_getElem? (i := 34) rfl))) (Or.inl (hw _ (List.mem_of_getElem? (i := 32) rfl))) (by decide) (t := .object "com/example/recency/recency/RecencyList$Link") (t' := .object "com/example/recency/recency/RecencyList$Link") (by decide) (by decide)))
  have F4_last_o := F3_last_o.same W4
  have Z4 : n0 ≤ h4.size := by rw [W4.size]; exact Z3
  have K4 : Keep h0 h4 [o] := K3.wr W4 (Or.inl (List.mem_of_getElem? (i := 0) rfl))
  clear Z3 K3 E3_o F3_first_o F3_last_o W4
  have N4 := Fr.snoc X4 P3 g_o
  obtain ⟨lc4, Y4, P4⟩ := own_hide X4 N4
  clear X4 N4
  clear Y3 e3
  refine own_st st4 ?_
  clear st4
  show own_Go p e below _ T4 (mkF m 72 #[rv o, rv x] [])
  refine own_ret Y4 hx Bd.notSynchronized Bd.returns (hb hby own_dd_72) (by decide) (by decide) ?_
  rw [e4]
  exact ⟨rfl, P4, K4, F4_first_o, F4_last_o⟩
theorem own_ef_add1 (m : MethodId) (x0 : Addr) (x1 : Addr) : entryFrame m #[(.ref x0), (.ref x1)] 2 = mkF m 0 #[.val (.ref x0), .val (.ref x1)] [] := by first | (simp [entryFrame, mkF, argsToLocals, Value.category]; done) | rfl
def own_Q_add1 (Z : State) (o : Addr) (x : Addr) (b : Addr) (f : Addr) (h0 : Heap) (n0 : Nat) (v : Option Value) (h : Heap) (L : List Loc) : Prop := v = none ∧ Fr n0 L ∧ Keep h0 h [o, b, x] ∧ Fld Z h o "com/example/recency/recency/RecencyList" "first" "Lcom/example/recency/recency/RecencyList$Link;" (.ref f) ∧ Fld Z h o "com/example/recency/recency/RecencyList" "last" "Lcom/example/recency/recency/RecencyList$Link;" (.ref x) ∧ Fld Z h b "com/example/recency/recency/RecencyList$Link" "next" "Lcom/example/recency/recency/RecencyList$Link;" (.ref x) ∧ Fld Z h x "com/example/recency/recency/RecencyList$Link" "previous" "Lcom/example/recency/recency/RecencyList$Link;" (.ref b) ∧ Fld Z h x "com/example/recency/recency/RecencyList$Link" "next" "Lcom/example/recency/recency/RecencyList$Link;" .null
set_option maxRecDepth 65536 in
set_option maxHeartbeats 40000000 in
theorem own_rm_add1 (l : Launch) (Z : State) (a0 : Array Value) (hw : ∀ d ∈ tables_1, d.before a0 Z = true) (ws : List Jvm.Cond) (o : Addr) (x : Addr) (b : Addr) (f : Addr) (h0 : Heap) (n0 : Nat) (Z0 : n0 ≤ h0.size) (S_A : Sta Z h0 "com/example/recency/recency/RecencyList" "$assertionsDisabled" "Z" (.int (1 : Int32))) (E_o : Exa Z h0 o "com/example/recency/recency/RecencyList") (E_b : Exa Z h0 b "com/example/recency/recency/RecencyListRemovePinLaw") (E_x : Exa Z h0 x "com/example/recency/recency/RecencyListRemovePinLaw") (F_first_o : Fld Z h0 o "com/example/recency/recency/RecencyList" "first" "Lcom/example/recency/recency/RecencyList$Link;" (.ref f)) (F_last_o : Fld Z h0 o "com/example/recency/recency/RecencyList" "last" "Lcom/example/recency/recency/RecencyList$Link;" (.ref b)) (F_next_b : Fld Z h0 b "com/example/recency/recency/RecencyList$Link" "next" "Lcom/example/recency/recency/RecencyList$Link;" .null) (F_previous_x : Fld Z h0 x "com/example/recency/recency/RecencyList$Link" "previous" "Lcom/example/recency/recency/RecencyList$Link;" .null) (F_next_x : Fld Z h0 x "com/example/recency/recency/RecencyList$Link" "next" "Lcom/example/recency/recency/RecencyList$Link;" .null) (g_o : n0 ≤ o) (g_b : n0 ≤ b) (g_x : n0 ≤ x) (ne_o_b : o ≠ b) (ne_o_x : o ≠ x) (ne_b_x : b ≠ x) :
    MetFree l (⟨"com/example/recency/recency/RecencyList", "addLast", "(Lcom/example/recency/recency/RecencyList$Link;)V"⟩ : MethodName) (head1 (Jvm.Cond.code (⟨"com/example/recency/recency/RecencyList", "addLast", "(Lcom/example/recency/recency/RecencyList$Link;)V"⟩ : MethodName) prog_22_method_3_code 2 none :: ws) ({ frames := 0, cells := 0, slots := 0, locals := 0 } : Room)) (fun zz U => zz = #[(.ref o), (.ref x)] ∧ Z.Warmed39 U.vm ∧ U.heap = h0) (fun _ _ _ _ _ => True) (fun _ U zo U' => ∃ v L, zo = .returned v ∧ own_Q_add1 Z o x b f h0 n0 v U'.heap L ∧ FrameEnd U zo U' L ({ frames := 0, cells := 0, slots := 0, locals := 0 } : Room).cells ({ frames := 0, cells := 0, slots := 0, locals := 0 } : Room).slots) := by
  refine MetFree.of_bodySF (plainFor_of_name own_pn1) hisR ?_
  intro p e s m args below meth c s₁ Bd hml0 hP hK
  obtain ⟨rfl, hZ, hh⟩ := hP
  have hx := Bd.exec
  have hby := Bd.bytes
  have hml : c.maxLocals = 2 := hml0
  have hown : s.vm.findClass "com/example/recency/recency/RecencyList" = some m.cls := findClass_of_methodNamed Bd.named
  have hnm := (name_of_methodNamed Bd.named Bd.method).1
  have X0 : Stand p l e ({ frames := 0, cells := 0, slots := 0, locals := 0 } : Room) s m #[(.ref o), (.ref x)] below meth c s₁ [] 0 0 := Stand.of_body Bd
  have e0 : s₁.heap = h0 := by rw [← hh, Bd.state]; rfl
  have N0 := Fr.nil n0
  show own_Go p e below (own_K s (own_Q_add1 Z o x b f h0 n0) ({ frames := 0, cells := 0, slots := 0, locals := 0 } : Room).cells ({ frames := 0, cells := 0, slots := 0, locals := 0 } : Room).slots) s₁ (entryFrame m #[(.ref o), (.ref x)] 2)
  rw [own_ef_add1 m o x]
  show own_Go p e below _ s₁ (mkF m 0 #[rv o, rv x] [])
  have K0 : Keep h0 h0 [o, b, x] := Keep.refl _ _
  obtain ⟨T1, X1, e1, st1⟩ := getS2 X0 hx hZ hown (host := "") (Or.inl (hw _ (List.mem_of_getElem? (i := 29) rfl))) Via.refl e0 S_A (g := (mkF m 0 #[rv o, rv x] [])) rfl (hb hby own_dd_0)
  clear X0 e0
  refine own_st st1 ?_
  clear st1
  show own_Go p e below _ T1 (mkF m 3 #[rv o, rv x] [(.int 1)])
  refine own_st (fun _ k => XS.ifYes X1.here hx rfl (pc0 := 3) (pc' := 36) rfl (hb hby own_dd_3) rfl (XT.i0_ne_t (by decide)) (by decide) (by decide) k) ?_
  show own_Go p e below _ T1 (mkF m 36 #[rv o, rv x] [])
  refine own_st (fun _ k => XS.aloadN X1.here hx rfl (hb hby own_dd_36) rfl rfl k) ?_
  show own_Go p e below _ T1 (mkF m 37 #[rv o, rv x] [(.ref o)])
  obtain ⟨T2, X2, e2, st2⟩ := getF X1 hx hZ hown (host := "") (Or.inl (hw _ (List.mem_of_getElem? (i := 31) rfl))) Via.refl e1 F_last_o (g := (mkF m 37 #[rv o, rv x] [(.ref o)])) rfl rfl (hb hby own_dd_37)
  clear X1 e1
  refine own_st st2 ?_
  clear st2
  show own_Go p e below _ T2 (mkF m 40 #[rv o, rv x] [(.ref b)])
  refine own_st (fun _ k => XT.ifnonnullYes X2.here hx rfl (pc0 := 40) (pc' := 51) rfl (hb hby own_dd_40) rfl (by decide) (by decide) k) ?_
  show own_Go p e below _ T2 (mkF m 51 #[rv o, rv x] [])
  refine own_st (fun _ k => XS.aloadN X2.here hx rfl (hb hby own_dd_51) rfl rfl k) ?_
  show own_Go p e below _ T2 (mkF m 52 #[rv o, rv x] [(.ref o)])
  obtain ⟨T3, X3, e3, st3⟩ := getF X2 hx hZ hown (host := "") (Or.inl (hw _ (List.mem_of_getElem? (i := 31) rfl))) Via.refl e2 F_last_o (g := (mkF m 52 #[rv o, rv x] [(.ref o)])) rfl rfl (hb hby own_dd_52)
  clear X2 e2
  refine own_st st3 ?_
  clear st3
  show own_Go p e below _ T3 (mkF m 55 #[rv o, rv x] [(.ref b)])
  refine own_st (fun _ k => XS.aloadN X3.here hx rfl (hb hby own_dd_55) rfl rfl k) ?_
  show own_Go p e below _ T3 (mkF m 56 #[rv o, rv x] [(.ref x), (.ref b)])
  obtain ⟨T4, h4, X4, e4, W4, st4⟩ := putF X3 hx hZ hown (host := "") (Or.inl (hw _ (List.mem_of_getElem? (i := 42) rfl))) Via.refl e3 F_next_b E_b (Or.inl (hw _ (List.mem_of_getElem? (i := 43) rfl))) (hw _ (List.mem_of_getElem? (i := 3) rfl)) (ty := .object "com/example/recency/recency/RecencyList$Link") (by decide) rfl rfl (g := (mkF m 56 #[rv o, rv x] [(.ref x), (.ref b)])) rfl rfl (hb hby own_dd_56)
  have E4_o := E_o.wr W4
  have E4_b := E_b.wr W4
  have E4_x := E_x.wr W4
  have F4_first_o := F_first_o.other W4 (Or.inl ne_o_b)
  have F4_last_o := F_last_o.other W4 (Or.inl ne_o_b)
  have F4_next_b := F_next_b.same W4
  have F4_previous_x := F_previous_x.other W4 (Or.inl ne_b_x.symm)
  have F4_next_x := F_next_x.other W4 (Or.inl ne_b_x.symm)
  have Z4 : n0 ≤ h4.size := by rw [W4.size]; exact Z0
  have K4 : Keep h0 h4 [o, b, x] := K0.wr W4 (Or.inl (List.mem_of_getElem? (i := 1) rfl))
  clear Z0 K0 E_o E_b E_x F_first_o F_last_o F_next_b F_previous_x F_next_x W4
  have N4 := Fr.snoc X4 N0 g_b
  obtain ⟨lc4, Y4, P4⟩ := own_hide X4 N4
  clear X4 N4
  clear X3 e3
  refine own_st st4 ?_
  clear st4
  show own_Go p e below _ T4 (mkF m 59 #[rv o, rv x] [])
  refine own_st (fun _ k => XS.aloadN Y4.here hx rfl (hb hby own_dd_59) rfl rfl k) ?_
  show own_Go p e below _ T4 (mkF m 60 #[rv o, rv x] [(.ref x)])
  refine own_st (fun _ k => XS.aloadN Y4.here hx rfl (hb hby own_dd_60) rfl rfl k) ?_
  show own_Go p e below _ T4 (mkF m 61 #[rv o, rv x] [(.ref o), (.ref x)])
  obtain ⟨T5, X5, e5, st5⟩ := getF Y4 hx hZ hown (host := "") (Or.inl (hw _ (List.mem_of_getElem? (i := 31) rfl))) Via.refl e4 F4_last_o (g := (mkF m 61 #[rv o, rv x] [(.ref o), (.ref x)])) rfl rfl (hb hby own_dd_61)
  clear Y4 e4
  refine own_st st5 ?_
  clear st5
  show own_Go p e below _ T5 (mkF m 64 #[rv o, rv x] [(.ref b), (.ref x)])
  obtain ⟨T6, h6, X6, e6, W6, st6⟩ := putF X5 hx hZ hown (host := "") (Or.inl (hw _ (List.mem_of_getElem? (i := 40) rfl))) Via.refl e5 F4_previous_x E4_x (Or.inl (hw _ (List.mem_of_getElem? (i := 41) rfl))) (hw _ (List.mem_of_getElem? (i := 3) rfl)) (ty := .object "com/example/recency/recency/RecencyList$Link") (by decide) rfl rfl (g := (mkF m 64 #[rv o, rv x] [(.ref b), (.ref x)])) rfl rfl (hb hby own_dd_64)
  have E6_o := E4_o.wr W6
  have E6_b := E4_b.wr W6
  have E6_x := E4_x.wr W6
  have F6_first_o := F4_first_o.other W6 (Or.inl ne_o_x)
  have F6_last_o := F4_last_o.other W6 (Or.inl ne_o_x)
  have F6_next_b := F4_next_b.other W6 (Or.inl ne_b_x)
  have F6_previous_x := F4_previous_x.same W6
  have F6_next_x := F4_next_x.other W6 (Or.inr (slot_ne (Or.inl (hw _ (List.mem_of_getElem? (i := 43) rfl))) (Or.inl (hw _ (List.mem_of_getElem? (i := 41) rfl))) (by decide) (t := .object "com/example/recency/recency/RecencyList$Link") (t' := .object "com/example/recency/recency/RecencyList$Link") (by decide) (by decide)))
  have Z6 : n0 ≤ h6.size := by rw [W6.size]; exact Z4
  have K6 : Keep h0 h6 [o, b, x] := K4.wr W6 (Or.inl (List.mem_of_getElem? (i := 2) rfl))
  clear Z4 K4 E4_o E4_b E4_x F4_first_o F4_last_o F4_next_b F4_previous_x F4_next_x W6
  have N6 := Fr.snoc X6 P4 g_x
  obtain ⟨lc6, Y6, P6⟩ := own_hide X6 N6
  clear X6 N6
  clear X5 e5
  refine own_st st6 ?_
  clear st6
  show own_Go p e below _ T6 (mkF m 67 #[rv o, rv x] [])
  refine own_st (fun _ k => XS.aloadN Y6.here hx rfl (hb hby own_dd_67) rfl rfl k) ?_
  show own_Go p e below _ T6 (mkF m 68 #[rv o, rv x] [(.ref o)])
  refine own_st (fun _ k => XS.aloadN Y6.here hx rfl (hb hby own_dd_68) rfl rfl k) ?_
  show own_Go p e below _ T6 (mkF m 69 #[rv o, rv x] [(.ref x), (.ref o)])
  obtain ⟨T7, h7, X7, e7, W7, st7⟩ := putF Y6 hx hZ hown (host := "") (Or.inl (hw _ (List.mem_of_getElem? (i := 31) rfl))) Via.refl e6 F6_last_o E6_o (Or.inl (hw _ (List.mem_of_getElem? (i := 32) rfl))) (hw _ (List.mem_of_getElem? (i := 18) rfl)) (ty := .object "com/example/recency/recency/RecencyList$Link") (by decide) rfl rfl (g := (mkF m 69 #[rv o, rv x] [(.ref x), (.ref o)])) rfl rfl (hb hby own_dd_69)
  have E7_o := E6_o.wr W7
  have E7_b := E6_b.wr W7
  have E7_x := E6_x.wr W7
  have F7_first_o := F6_first_o.other W7 (Or.inr (slot_ne (Or.inl (hw _ (List.mem_of_getElem? (i := 34) rfl))) (Or.inl (hw _ (List.mem_of_getElem? (i := 32) rfl))) (by decide) (t := .object "com/example/recency/recency/RecencyList$Link") (t' := .object "com/example/recency/recency/RecencyList$Link") (by decide) (by decide)))
  have F7_last_o := F6_last_o.same W7
  have F7_next_b := F6_next_b.other W7 (Or.inl ne_o_b.symm)
  have F7_previous_x := F6_previous_x.other W7 (Or.inl ne_o_x.symm)
  have F7_next_x := F6_next_x.other W7 (Or.inl ne_o_x.symm)
  have Z7 : n0 ≤ h7.size := by rw [W7.size]; exact Z6
  have K7 : Keep h0 h7 [o, b, x] := K6.wr W7 (Or.inl (List.mem_of_getElem? (i := 0) rfl))
  clear Z6 K6 E6_o E6_b E6_x F6_first_o F6_last_o F6_next_b F6_previous_x F6_next_x W7
  have N7 := Fr.snoc X7 P6 g_o
  obtain ⟨lc7, Y7, P7⟩ := own_hide X7 N7
  clear X7 N7
  clear Y6 e6
  refine own_st st7 ?_
  clear st7
  show own_Go p e below _ T7 (mkF m 72 #[rv o, rv x] [])
  refine own_ret Y7 hx Bd.notSynchronized Bd.returns (hb hby own_dd_72) (by decide) (by decide) ?_
  rw [e7]
  exact ⟨rfl, P7, K7, F7_first_o, F7_last_o, F7_next_b, F7_previous_x, F7_next_x⟩
theorem own_ef_addN (m : MethodId) (x0 : Addr) (x1 : Addr) : entryFrame m #[(.ref x0), (.ref x1)] 2 = mkF m 0 #[.val (.ref x0), .val (.ref x1)] [] := by first | (simp [entryFrame, mkF, argsToLocals, Value.category]; done) | rfl
def own_Q_addN (Z : State) (o : Addr) (x : Addr) (b : Addr) (f : Addr) (h0 : Heap) (n0 : Nat) (v : Option Value) (h : Heap) (L : List Loc) : Prop := v = none ∧ Fr n0 L ∧ Keep h0 h [o, b, x] ∧ Fld Z h o "com/example/recency/recency/RecencyList" "first" "Lcom/example/recency/recency/RecencyList$Link;" (.ref f) ∧ Fld Z h o "com/example/recency/recency/RecencyList" "last" "Lcom/example/recency/recency/RecencyList$Link;" (.ref x) ∧ Fld Z h b "com/example/recency/recency/RecencyList$Link" "previous" "Lcom/example/recency/recency/RecencyList$Link;" .null ∧ Fld Z h b "com/example/recency/recency/RecencyList$Link" "next" "Lcom/example/recency/recency/RecencyList$Link;" (.ref x) ∧ Fld Z h x "com/example/recency/recency/RecencyList$Link" "previous" "Lcom/example/recency/recency/RecencyList$Link;" (.ref b) ∧ Fld Z h x "com/example/recency/recency/RecencyList$Link" "next" "Lcom/example/recency/recency/RecencyList$Link;" .null
set_option maxRecDepth 65536 in
set_option maxHeartbeats 40000000 in
theorem own_rm_addN (l : Launch) (Z : State) (a0 : Array Value) (hw : ∀ d ∈ tables_1, d.before a0 Z = true) (ws : List Jvm.Cond) (o : Addr) (x : Addr) (b : Addr) (f : Addr) (h0 : Heap) (n0 : Nat) (Z0 : n0 ≤ h0.size) (S_A : Sta Z h0 "com/example/recency/recency/RecencyList" "$assertionsDisabled" "Z" (.int (1 : Int32))) (E_o : Exa Z h0 o "com/example/recency/recency/RecencyList") (E_b : Exa Z h0 b "com/example/recency/recency/RecencyListRemovePinLaw") (E_x : Exa Z h0 x "com/example/recency/recency/RecencyListRemovePinLaw") (F_first_o : Fld Z h0 o "com/example/recency/recency/RecencyList" "first" "Lcom/example/recency/recency/RecencyList$Link;" (.ref f)) (F_last_o : Fld Z h0 o "com/example/recency/recency/RecencyList" "last" "Lcom/example/recency/recency/RecencyList$Link;" (.ref b)) (F_previous_b : Fld Z h0 b "com/example/recency/recency/RecencyList$Link" "previous" "Lcom/example/recency/recency/RecencyList$Link;" .null) (F_next_b : Fld Z h0 b "com/example/recency/recency/RecencyList$Link" "next" "Lcom/example/recency/recency/RecencyList$Link;" .null) (F_previous_x : Fld Z h0 x "com/example/recency/recency/RecencyList$Link" "previous" "Lcom/example/recency/recency/RecencyList$Link;" .null) (F_next_x : Fld Z h0 x "com/example/recency/recency/RecencyList$Link" "next" "Lcom/example/recency/recency/RecencyList$Link;" .null) (g_o : n0 ≤ o) (g_b : n0 ≤ b) (g_x : n0 ≤ x) (ne_o_b : o ≠ b) (ne_o_x : o ≠ x) (ne_b_x : b ≠ x) :
    MetFree l (⟨"com/example/recency/recency/RecencyList", "addLast", "(Lcom/example/recency/recency/RecencyList$Link;)V"⟩ : MethodName) (head1 (Jvm.Cond.code (⟨"com/example/recency/recency/RecencyList", "addLast", "(Lcom/example/recency/recency/RecencyList$Link;)V"⟩ : MethodName) prog_22_method_3_code 2 none :: ws) ({ frames := 0, cells := 0, slots := 0, locals := 0 } : Room)) (fun zz U => zz = #[(.ref o), (.ref x)] ∧ Z.Warmed39 U.vm ∧ U.heap = h0) (fun _ _ _ _ _ => True) (fun _ U zo U' => ∃ v L, zo = .returned v ∧ own_Q_addN Z o x b f h0 n0 v U'.heap L ∧ FrameEnd U zo U' L ({ frames := 0, cells := 0, slots := 0, locals := 0 } : Room).cells ({ frames := 0, cells := 0, slots := 0, locals := 0 } : Room).slots) := by
  refine MetFree.of_bodySF (plainFor_of_name own_pn1) hisR ?_
  intro p e s m args below meth c s₁ Bd hml0 hP hK
  obtain ⟨rfl, hZ, hh⟩ := hP
  have hx := Bd.exec
  have hby := Bd.bytes
  have hml : c.maxLocals = 2 := hml0
  have hown : s.vm.findClass "com/example/recency/recency/RecencyList" = some m.cls := findClass_of_methodNamed Bd.named
  have hnm := (name_of_methodNamed Bd.named Bd.method).1
  have X0 : Stand p l e ({ frames := 0, cells := 0, slots := 0, locals := 0 } : Room) s m #[(.ref o), (.ref x)] below meth c s₁ [] 0 0 := Stand.of_body Bd
  have e0 : s₁.heap = h0 := by rw [← hh, Bd.state]; rfl
  have N0 := Fr.nil n0
  show own_Go p e below (own_K s (own_Q_addN Z o x b f h0 n0) ({ frames := 0, cells := 0, slots := 0, locals := 0 } : Room).cells ({ frames := 0, cells := 0, slots := 0, locals := 0 } : Room).slots) s₁ (entryFrame m #[(.ref o), (.ref x)] 2)
  rw [own_ef_addN m o x]
  show own_Go p e below _ s₁ (mkF m 0 #[rv o, rv x] [])
  have K0 : Keep h0 h0 [o, b, x] := Keep.refl _ _
  obtain ⟨T1, X1, e1, st1⟩ := getS2 X0 hx hZ hown (host := "") (Or.inl (hw _ (List.mem_of_getElem? (i := 29) rfl))) Via.refl e0 S_A (g := (mkF m 0 #[rv o, rv x] [])) rfl (hb hby own_dd_0)
  clear X0 e0
  refine own_st st1 ?_
  clear st1
  show own_Go p e below _ T1 (mkF m 3 #[rv o, rv x] [(.int 1)])
  refine own_st (fun _ k => XS.ifYes X1.here hx rfl (pc0 := 3) (pc' := 36) rfl (hb hby own_dd_3) rfl (XT.i0_ne_t (by decide)) (by decide) (by decide) k) ?_
  show own_Go p e below _ T1 (mkF m 36 #[rv o, rv x] [])
  refine own_st (fun _ k => XS.aloadN X1.here hx rfl (hb hby own_dd_36) rfl rfl k) ?_
  show own_Go p e below _ T1 (mkF m 37 #[rv o, rv x] [(.ref o)])
  obtain ⟨T2, X2, e2, st2⟩ := getF X1 hx hZ hown (host := "") (Or.inl (hw _ (List.mem_of_getElem? (i := 31) rfl))) Via.refl e1 F_last_o (g := (mkF m 37 #[rv o, rv x] [(.ref o)])) rfl rfl (hb hby own_dd_37)
  clear X1 e1
  refine own_st st2 ?_
  clear st2
  show own_Go p e below _ T2 (mkF m 40 #[rv o, rv x] [(.ref b)])
  refine own_st (fun _ k => XT.ifnonnullYes X2.here hx rfl (pc0 := 40) (pc' := 51) rfl (hb hby own_dd_40) rfl (by decide) (by decide) k) ?_
  show own_Go p e below _ T2 (mkF m 51 #[rv o, rv x] [])
  refine own_st (fun _ k => XS.aloadN X2.here hx rfl (hb hby own_dd_51) rfl rfl k) ?_
  show own_Go p e below _ T2 (mkF m 52 #[rv o, rv x] [(.ref o)])
  obtain ⟨T3, X3, e3, st3⟩ := getF X2 hx hZ hown (host := "") (Or.inl (hw _ (List.mem_of_getElem? (i := 31) rfl))) Via.refl e2 F_last_o (g := (mkF m 52 #[rv o, rv x] [(.ref o)])) rfl rfl (hb hby own_dd_52)
  clear X2 e2
  refine own_st st3 ?_
  clear st3
  show own_Go p e below _ T3 (mkF m 55 #[rv o, rv x] [(.ref b)])
  refine own_st (fun _ k => XS.aloadN X3.here hx rfl (hb hby own_dd_55) rfl rfl k) ?_
  show own_Go p e below _ T3 (mkF m 56 #[rv o, rv x] [(.ref x), (.ref b)])
  obtain ⟨T4, h4, X4, e4, W4, st4⟩ := putF X3 hx hZ hown (host := "") (Or.inl (hw _ (List.mem_of_getElem? (i := 42) rfl))) Via.refl e3 F_next_b E_b (Or.inl (hw _ (List.mem_of_getElem? (i := 43) rfl))) (hw _ (List.mem_of_getElem? (i := 3) rfl)) (ty := .object "com/example/recency/recency/RecencyList$Link") (by decide) rfl rfl (g := (mkF m 56 #[rv o, rv x] [(.ref x), (.ref b)])) rfl rfl (hb hby own_dd_56)
  have E4_o := E_o.wr W4
  have E4_b := E_b.wr W4
  have E4_x := E_x.wr W4
  have F4_first_o := F_first_o.other W4 (Or.inl ne_o_b)
  have F4_last_o := F_last_o.other W4 (Or.inl ne_o_b)
  have F4_previous_b := F_previous_b.other W4 (Or.inr (slot_ne (Or.inl (hw _ (List.mem_of_getElem? (i := 41) rfl))) (Or.inl (hw _ (List.mem_of_getElem? (i := 43) rfl))) (by decide) (t := .object "com/example/recency/recency/RecencyList$Link") (t' := .object "com/example/recency/recency/RecencyList$Link") (by decide) (by decide)))
  have F4_next_b := F_next_b.same W4
  have F4_previous_x := F_previous_x.other W4 (Or.inl ne_b_x.symm)
  have F4_next_x := F_next_x.other W4 (Or.inl ne_b_x.symm)
  have Z4 : n0 ≤ h4.size := by rw [W4.size]; exact Z0
  have K4 : Keep h0 h4 [o, b, x] := K0.wr W4 (Or.inl (List.mem_of_getElem? (i := 1) rfl))
  clear Z0 K0 E_o E_b E_x F_first_o F_last_o F_previous_b F_next_b F_previous_x F_next_x W4
  have N4 := Fr.snoc X4 N0 g_b
  obtain ⟨lc4, Y4, P4⟩ := own_hide X4 N4
  clear X4 N4
  clear X3 e3
  refine own_st st4 ?_
  clear st4
  show own_Go p e below _ T4 (mkF m 59 #[rv o, rv x] [])
  refine own_st (fun _ k => XS.aloadN Y4.here hx rfl (hb hby own_dd_59) rfl rfl k) ?_
  show own_Go p e below _ T4 (mkF m 60 #[rv o, rv x] [(.ref x)])
  refine own_st (fun _ k => XS.aloadN Y4.here hx rfl (hb hby own_dd_60) rfl rfl k) ?_
  show own_Go p e below _ T4 (mkF m 61 #[rv o, rv x] [(.ref o), (.ref x)])
  obtain ⟨T5, X5, e5, st5⟩ := getF Y4 hx hZ hown (host := "") (Or.inl (hw _ (List.mem_of_getElem? (i := 31) rfl))) Via.refl e4 F4_last_o (g := (mkF m 61 #[rv o, rv x] [(.ref o), (.ref x)])) rfl rfl (hb hby own_dd_61)
  clear Y4 e4
  refine own_st st5 ?_
  clear st5
  show own_Go p e below _ T5 (mkF m 64 #[rv o, rv x] [(.ref b), (.ref x)])
  obtain ⟨T6, h6, X6, e6, W6, st6⟩ := putF X5 hx hZ hown (host := "") (Or.inl (hw _ (List.mem_of_getElem? (i := 40) rfl))) Via.refl e5 F4_previous_x E4_x (Or.inl (hw _ (List.mem_of_getElem? (i := 41) rfl))) (hw _ (List.mem_of_getElem? (i := 3) rfl)) (ty := .object "com/example/recency/recency/RecencyList$Link") (by decide) rfl rfl (g := (mkF m 64 #[rv o, rv x] [(.ref b), (.ref x)])) rfl rfl (hb hby own_dd_64)
  have E6_o := E4_o.wr W6
  have E6_b := E4_b.wr W6
  have E6_x := E4_x.wr W6
  have F6_first_o := F4_first_o.other W6 (Or.inl ne_o_x)
  have F6_last_o := F4_last_o.other W6 (Or.inl ne_o_x)
  have F6_previous_b := F4_previous_b.other W6 (Or.inl ne_b_x)
  have F6_next_b := F4_next_b.other W6 (Or.inl ne_b_x)
  have F6_previous_x := F4_previous_x.same W6
  have F6_next_x := F4_next_x.other W6 (Or.inr (slot_ne (Or.inl (hw _ (List.mem_of_getElem? (i := 43) rfl))) (Or.inl (hw _ (List.mem_of_getElem? (i := 41) rfl))) (by decide) (t := .object "com/example/recency/recency/RecencyList$Link") (t' := .object "com/example/recency/recency/RecencyList$Link") (by decide) (by decide)))
  have Z6 : n0 ≤ h6.size := by rw [W6.size]; exact Z4
  have K6 : Keep h0 h6 [o, b, x] := K4.wr W6 (Or.inl (List.mem_of_getElem? (i := 2) rfl))
  clear Z4 K4 E4_o E4_b E4_x F4_first_o F4_last_o F4_previous_b F4_next_b F4_previous_x F4_next_x W6
  have N6 := Fr.snoc X6 P4 g_x
  obtain ⟨lc6, Y6, P6⟩ := own_hide X6 N6
  clear X6 N6
  clear X5 e5
  refine own_st st6 ?_
  clear st6
  show own_Go p e below _ T6 (mkF m 67 #[rv o, rv x] [])
  refine own_st (fun _ k => XS.aloadN Y6.here hx rfl (hb hby own_dd_67) rfl rfl k) ?_
  show own_Go p e below _ T6 (mkF m 68 #[rv o, rv x] [(.ref o)])
  refine own_st (fun _ k => XS.aloadN Y6.here hx rfl (hb hby own_dd_68) rfl rfl k) ?_
  show own_Go p e below _ T6 (mkF m 69 #[rv o, rv x] [(.ref x), (.ref o)])
  obtain ⟨T7, h7, X7, e7, W7, st7⟩ := putF Y6 hx hZ hown (host := "") (Or.inl (hw _ (List.mem_of_getElem? (i := 31) rfl))) Via.refl e6 F6_last_o E6_o (Or.inl (hw _ (List.mem_of_getElem? (i := 32) rfl))) (hw _ (List.mem_of_getElem? (i := 18) rfl)) (ty := .object "com/example/recency/recency/RecencyList$Link") (by decide) rfl rfl (g := (mkF m 69 #[rv o, rv x] [(.ref x), (.ref o)])) rfl rfl (hb hby own_dd_69)
  have E7_o := E6_o.wr W7
  have E7_b := E6_b.wr W7
  have E7_x := E6_x.wr W7
  have F7_first_o := F6_first_o.other W7 (Or.inr (slot_ne (Or.inl (hw _ (List.mem_of_getElem? (i := 34) rfl))) (Or.inl (hw _ (List.mem_of_getElem? (i := 32) rfl))) (by decide) (t := .object "com/example/recency/recency/RecencyList$Link") (t' := .object "com/example/recency/recency/RecencyList$Link") (by decide) (by decide)))
  have F7_last_o := F6_last_o.same W7
  have F7_previous_b := F6_previous_b.other W7 (Or.inl ne_o_b.symm)
  have F7_next_b := F6_next_b.other W7 (Or.inl ne_o_b.symm)
  have F7_previous_x := F6_previous_x.other W7 (Or.inl ne_o_x.symm)
  have F7_next_x := F6_next_x.other W7 (Or.inl ne_o_x.symm)
  have Z7 : n0 ≤ h7.size := by rw [W7.size]; exact Z6
  have K7 : Keep h0 h7 [o, b, x] := K6.wr W7 (Or.inl (List.mem_of_getElem? (i := 0) rfl))
  clear Z6 K6 E6_o E6_b E6_x F6_first_o F6_last_o F6_previous_b F6_next_b F6_previous_x F6_next_x W7
  have N7 := Fr.snoc X7 P6 g_o
  obtain ⟨lc7, Y7, P7⟩ := own_hide X7 N7
  clear X7 N7
  clear Y6 e6
  refine own_st st7 ?_
  clear st7
  show own_Go p e below _ T7 (mkF m 72 #[rv o, rv x] [])
  refine own_ret Y7 hx Bd.notSynchronized Bd.returns (hb hby own_dd_72) (by decide) (by decide) ?_
  rw [e7]
  exact ⟨rfl, P7, K7, F7_first_o, F7_last_o, F7_previous_b, F7_next_b, F7_previous_x, F7_next_x⟩
theorem own_ef_addP (m : MethodId) (x0 : Addr) (x1 : Addr) : entryFrame m #[(.ref x0), (.ref x1)] 2 = mkF m 0 #[.val (.ref x0), .val (.ref x1)] [] := by first | (simp [entryFrame, mkF, argsToLocals, Value.category]; done) | rfl
def own_Q_addP (Z : State) (o : Addr) (x : Addr) (b : Addr) (f : Addr) (d : Addr) (h0 : Heap) (n0 : Nat) (v : Option Value) (h : Heap) (L : List Loc) : Prop := v = none ∧ Fr n0 L ∧ Keep h0 h [o, b, x] ∧ Fld Z h o "com/example/recency/recency/RecencyList" "first" "Lcom/example/recency/recency/RecencyList$Link;" (.ref f) ∧ Fld Z h o "com/example/recency/recency/RecencyList" "last" "Lcom/example/recency/recency/RecencyList$Link;" (.ref x) ∧ Fld Z h b "com/example/recency/recency/RecencyList$Link" "previous" "Lcom/example/recency/recency/RecencyList$Link;" (.ref d) ∧ Fld Z h b "com/example/recency/recency/RecencyList$Link" "next" "Lcom/example/recency/recency/RecencyList$Link;" (.ref x) ∧ Fld Z h x "com/example/recency/recency/RecencyList$Link" "previous" "Lcom/example/recency/recency/RecencyList$Link;" (.ref b) ∧ Fld Z h x "com/example/recency/recency/RecencyList$Link" "next" "Lcom/example/recency/recency/RecencyList$Link;" .null
set_option maxRecDepth 65536 in
set_option maxHeartbeats 40000000 in
theorem own_rm_addP (l : Launch) (Z : State) (a0 : Array Value) (hw : ∀ d ∈ tables_1, d.before a0 Z = true) (ws : List Jvm.Cond) (o : Addr) (x : Addr) (b : Addr) (f : Addr) (d : Addr) (h0 : Heap) (n0 : Nat) (Z0 : n0 ≤ h0.size) (S_A : Sta Z h0 "com/example/recency/recency/RecencyList" "$assertionsDisabled" "Z" (.int (1 : Int32))) (E_o : Exa Z h0 o "com/example/recency/recency/RecencyList") (E_b : Exa Z h0 b "com/example/recency/recency/RecencyListRemovePinLaw") (E_x : Exa Z h0 x "com/example/recency/recency/RecencyListRemovePinLaw") (F_first_o : Fld Z h0 o "com/example/recency/recency/RecencyList" "first" "Lcom/example/recency/recency/RecencyList$Link;" (.ref f)) (F_last_o : Fld Z h0 o "com/example/recency/recency/RecencyList" "last" "Lcom/example/recency/recency/RecencyList$Link;" (.ref b)) (F_previous_b : Fld Z h0 b "com/example/recency/recency/RecencyList$Link" "previous" "Lcom/example/recency/recency/RecencyList$Link;" (.ref d)) (F_next_b : Fld Z h0 b "com/example/recency/recency/RecencyList$Link" "next" "Lcom/example/recency/recency/RecencyList$Link;" .null) (F_previous_x : Fld Z h0 x "com/example/recency/recency/RecencyList$Link" "previous" "Lcom/example/recency/recency/RecencyList$Link;" .null) (F_next_x : Fld Z h0 x "com/example/recency/recency/RecencyList$Link" "next" "Lcom/example/recency/recency/RecencyList$Link;" .null) (g_o : n0 ≤ o) (g_b : n0 ≤ b) (g_x : n0 ≤ x) (ne_o_b : o ≠ b) (ne_o_x : o ≠ x) (ne_b_x : b ≠ x) :
    MetFree l (⟨"com/example/recency/recency/RecencyList", "addLast", "(Lcom/example/recency/recency/RecencyList$Link;)V"⟩ : MethodName) (head1 (Jvm.Cond.code (⟨"com/example/recency/recency/RecencyList", "addLast", "(Lcom/example/recency/recency/RecencyList$Link;)V"⟩ : MethodName) prog_22_method_3_code 2 none :: ws) ({ frames := 0, cells := 0, slots := 0, locals := 0 } : Room)) (fun zz U => zz = #[(.ref o), (.ref x)] ∧ Z.Warmed39 U.vm ∧ U.heap = h0) (fun _ _ _ _ _ => True) (fun _ U zo U' => ∃ v L, zo = .returned v ∧ own_Q_addP Z o x b f d h0 n0 v U'.heap L ∧ FrameEnd U zo U' L ({ frames := 0, cells := 0, slots := 0, locals := 0 } : Room).cells ({ frames := 0, cells := 0, slots := 0, locals := 0 } : Room).slots) := by
  refine MetFree.of_bodySF (plainFor_of_name own_pn1) hisR ?_
  intro p e s m args below meth c s₁ Bd hml0 hP hK
  obtain ⟨rfl, hZ, hh⟩ := hP
  have hx := Bd.exec
  have hby := Bd.bytes
  have hml : c.maxLocals = 2 := hml0
  have hown : s.vm.findClass "com/example/recency/recency/RecencyList" = some m.cls := findClass_of_methodNamed Bd.named
  have hnm := (name_of_methodNamed Bd.named Bd.method).1
  have X0 : Stand p l e ({ frames := 0, cells := 0, slots := 0, locals := 0 } : Room) s m #[(.ref o), (.ref x)] below meth c s₁ [] 0 0 := Stand.of_body Bd
  have e0 : s₁.heap = h0 := by rw [← hh, Bd.state]; rfl
  have N0 := Fr.nil n0
  show own_Go p e below (own_K s (own_Q_addP Z o x b f d h0 n0) ({ frames := 0, cells := 0, slots := 0, locals := 0 } : Room).cells ({ frames := 0, cells := 0, slots := 0, locals := 0 } : Room).slots) s₁ (entryFrame m #[(.ref o), (.ref x)] 2)
  rw [own_ef_addP m o x]
  show own_Go p e below _ s₁ (mkF m 0 #[rv o, rv x] [])
  have K0 : Keep h0 h0 [o, b, x] := Keep.refl _ _
  obtain ⟨T1, X1, e1, st1⟩ := getS2 X0 hx hZ hown (host := "") (Or.inl (hw _ (List.mem_of_getElem? (i := 29) rfl))) Via.refl e0 S_A (g := (mkF m 0 #[rv o, rv x] [])) rfl (hb hby own_dd_0)
  clear X0 e0
  refine own_st st1 ?_
  clear st1
  show own_Go p e below _ T1 (mkF m 3 #[rv o, rv x] [(.int 1)])
  refine own_st (fun _ k => XS.ifYes X1.here hx rfl (pc0 := 3) (pc' := 36) rfl (hb hby own_dd_3) rfl (XT.i0_ne_t (by decide)) (by decide) (by decide) k) ?_
  show own_Go p e below _ T1 (mkF m 36 #[rv o, rv x] [])
  refine own_st (fun _ k => XS.aloadN X1.here hx rfl (hb hby own_dd_36) rfl rfl k) ?_
  show own_Go p e below _ T1 (mkF m 37 #[rv o, rv x] [(.ref o)])
  obtain ⟨T2, X2, e2, st2⟩ := getF X1 hx hZ hown (host := "") (Or.inl (hw _ (List.mem_of_getElem? (i := 31) rfl))) Via.refl e1 F_last_o (g := (mkF m 37 #[rv o, rv x] [(.ref o)])) rfl rfl (hb hby own_dd_37)
  clear X1 e1
  refine own_st st2 ?_
  clear st2
  show own_Go p e below _ T2 (mkF m 40 #[rv o, rv x] [(.ref b)])
  refine own_st (fun _ k => XT.ifnonnullYes X2.here hx rfl (pc0 := 40) (pc' := 51) rfl (hb hby own_dd_40) rfl (by decide) (by decide) k) ?_
  show own_Go p e below _ T2 (mkF m 51 #[rv o, rv x] [])
  refine own_st (fun _ k => XS.aloadN X2.here hx rfl (hb hby own_dd_51) rfl rfl k) ?_
  show own_Go p e below _ T2 (mkF m 52 #[rv o, rv x] [(.ref o)])
  obtain ⟨T3, X3, e3, st3⟩ := getF X2 hx hZ hown (host := "") (Or.inl (hw _ (List.mem_of_getElem? (i := 31) rfl))) Via.refl e2 F_last_o (g := (mkF m 52 #[rv o, rv x] [(.ref o)])) rfl rfl (hb hby own_dd_52)
  clear X2 e2
  refine own_st st3 ?_
  clear st3
  show own_Go p e below _ T3 (mkF m 55 #[rv o, rv x] [(.ref b)])
  refine own_st (fun _ k => XS.aloadN X3.here hx rfl (hb hby own_dd_55) rfl rfl k) ?_
  show own_Go p e below _ T3 (mkF m 56 #[rv o, rv x] [(.ref x), (.ref b)])
  obtain ⟨T4, h4, X4, e4, W4, st4⟩ := putF X3 hx hZ hown (host := "") (Or.inl (hw _ (List.mem_of_getElem? (i := 42) rfl))) Via.refl e3 F_next_b E_b (Or.inl (hw _ (List.mem_of_getElem? (i := 43) rfl))) (hw _ (List.mem_of_getElem? (i := 3) rfl)) (ty := .object "com/example/recency/recency/RecencyList$Link") (by decide) rfl rfl (g := (mkF m 56 #[rv o, rv x] [(.ref x), (.ref b)])) rfl rfl (hb hby own_dd_56)
  have E4_o := E_o.wr W4
  have E4_b := E_b.wr W4
  have E4_x := E_x.wr W4
  have F4_first_o := F_first_o.other W4 (Or.inl ne_o_b)
  have F4_last_o := F_last_o.other W4 (Or.inl ne_o_b)
  have F4_previous_b := F_previous_b.other W4 (Or.inr (slot_ne (Or.inl (hw _ (List.mem_of_getElem? (i := 41) rfl))) (Or.inl (hw _ (List.mem_of_getElem? (i := 43) rfl))) (by decide) (t := .object "com/example/recency/recency/RecencyList$Link") (t' := .object "com/example/recency/recency/RecencyList$Link") (by decide) (by decide)))
  have F4_next_b := F_next_b.same W4
  have F4_previous_x := F_previous_x.other W4 (Or.inl ne_b_x.symm)
  have F4_next_x := F_next_x.other W4 (Or.inl ne_b_x.symm)
  have Z4 : n0 ≤ h4.size := by rw [W4.size]; exact Z0
  have K4 : Keep h0 h4 [o, b, x] := K0.wr W4 (Or.inl (List.mem_of_getElem? (i := 1) rfl))
  clear Z0 K0 E_o E_b E_x F_first_o F_last_o F_previous_b F_next_b F_previous_x F_next_x W4
  have N4 := Fr.snoc X4 N0 g_b
  obtain ⟨lc4, Y4, P4⟩ := own_hide X4 N4
  clear X4 N4
  clear X3 e3
  refine own_st st4 ?_
  clear st4
  show own_Go p e below _ T4 (mkF m 59 #[rv o, rv x] [])
  refine own_st (fun _ k => XS.aloadN Y4.here hx rfl (hb hby own_dd_59) rfl rfl k) ?_
  show own_Go p e below _ T4 (mkF m 60 #[rv o, rv x] [(.ref x)])
  refine own_st (fun _ k => XS.aloadN Y4.here hx rfl (hb hby own_dd_60) rfl rfl k) ?_
  show own_Go p e below _ T4 (mkF m 61 #[rv o, rv x] [(.ref o), (.ref x)])
  obtain ⟨T5, X5, e5, st5⟩ := getF Y4 hx hZ hown (host := "") (Or.inl (hw _ (List.mem_of_getElem? (i := 31) rfl))) Via.refl e4 F4_last_o (g := (mkF m 61 #[rv o, rv x] [(.ref o), (.ref x)])) rfl rfl (hb hby own_dd_61)
  clear Y4 e4
  refine own_st st5 ?_
  clear st5
  show own_Go p e below _ T5 (mkF m 64 #[rv o, rv x] [(.ref b), (.ref x)])
  obtain ⟨T6, h6, X6, e6, W6, st6⟩ := putF X5 hx hZ hown (host := "") (Or.inl (hw _ (List.mem_of_getElem? (i := 40) rfl))) Via.refl e5 F4_previous_x E4_x (Or.inl (hw _ (List.mem_of_getElem? (i := 41) rfl))) (hw _ (List.mem_of_getElem? (i := 3) rfl)) (ty := .object "com/example/recency/recency/RecencyList$Link") (by decide) rfl rfl (g := (mkF m 64 #[rv o, rv x] [(.ref b), (.ref x)])) rfl rfl (hb hby own_dd_64)
  have E6_o := E4_o.wr W6
  have E6_b := E4_b.wr W6
  have E6_x := E4_x.wr W6
  have F6_first_o := F4_first_o.other W6 (Or.inl ne_o_x)
  have F6_last_o := F4_last_o.other W6 (Or.inl ne_o_x)
  have F6_previous_b := F4_previous_b.other W6 (Or.inl ne_b_x)
  have F6_next_b := F4_next_b.other W6 (Or.inl ne_b_x)
  have F6_previous_x := F4_previous_x.same W6
  have F6_next_x := F4_next_x.other W6 (Or.inr (slot_ne (Or.inl (hw _ (List.mem_of_getElem? (i := 43) rfl))) (Or.inl (hw _ (List.mem_of_getElem? (i := 41) rfl))) (by decide) (t := .object "com/example/recency/recency/RecencyList$Link") (t' := .object "com/example/recency/recency/RecencyList$Link") (by decide) (by decide)))
  have Z6 : n0 ≤ h6.size := by rw [W6.size]; exact Z4
  have K6 : Keep h0 h6 [o, b, x] := K4.wr W6 (Or.inl (List.mem_of_getElem? (i := 2) rfl))
  clear Z4 K4 E4_o E4_b E4_x F4_first_o F4_last_o F4_previous_b F4_next_b F4_previous_x F4_next_x W6
  have N6 := Fr.snoc X6 P4 g_x
  obtain ⟨lc6, Y6, P6⟩ := own_hide X6 N6
  clear X6 N6
  clear X5 e5
  refine own_st st6 ?_
  clear st6
  show own_Go p e below _ T6 (mkF m 67 #[rv o, rv x] [])
  refine own_st (fun _ k => XS.aloadN Y6.here hx rfl (hb hby own_dd_67) rfl rfl k) ?_
  show own_Go p e below _ T6 (mkF m 68 #[rv o, rv x] [(.ref o)])
  refine own_st (fun _ k => XS.aloadN Y6.here hx rfl (hb hby own_dd_68) rfl rfl k) ?_
  show own_Go p e below _ T6 (mkF m 69 #[rv o, rv x] [(.ref x), (.ref o)])
  obtain ⟨T7, h7, X7, e7, W7, st7⟩ := putF Y6 hx hZ hown (host := "") (Or.inl (hw _ (List.mem_of_getElem? (i := 31) rfl))) Via.refl e6 F6_last_o E6_o (Or.inl (hw _ (List.mem_of_getElem? (i := 32) rfl))) (hw _ (List.mem_of_getElem? (i := 18) rfl)) (ty := .object "com/example/recency/recency/RecencyList$Link") (by decide) rfl rfl (g := (mkF m 69 #[rv o, rv x] [(.ref x), (.ref o)])) rfl rfl (hb hby own_dd_69)
  have E7_o := E6_o.wr W7
  have E7_b := E6_b.wr W7
  have E7_x := E6_x.wr W7
  have F7_first_o := F6_first_o.other W7 (Or.inr (slot_ne (Or.inl (hw _ (List.mem_of_getElem? (i := 34) rfl))) (Or.inl (hw _ (List.mem_of_getElem? (i := 32) rfl))) (by decide) (t := .object "com/example/recency/recency/RecencyList$Link") (t' := .object "com/example/recency/recency/RecencyList$Link") (by decide) (by decide)))
  have F7_last_o := F6_last_o.same W7
  have F7_previous_b := F6_previous_b.other W7 (Or.inl ne_o_b.symm)
  have F7_next_b := F6_next_b.other W7 (Or.inl ne_o_b.symm)
  have F7_previous_x := F6_previous_x.other W7 (Or.inl ne_o_x.symm)
  have F7_next_x := F6_next_x.other W7 (Or.inl ne_o_x.symm)
  have Z7 : n0 ≤ h7.size := by rw [W7.size]; exact Z6
  have K7 : Keep h0 h7 [o, b, x] := K6.wr W7 (Or.inl (List.mem_of_getElem? (i := 0) rfl))
  clear Z6 K6 E6_o E6_b E6_x F6_first_o F6_last_o F6_previous_b F6_next_b F6_previous_x F6_next_x W7
  have N7 := Fr.snoc X7 P6 g_o
  obtain ⟨lc7, Y7, P7⟩ := own_hide X7 N7
  clear X7 N7
  clear Y6 e6
  refine own_st st7 ?_
  clear st7
  show own_Go p e below _ T7 (mkF m 72 #[rv o, rv x] [])
  refine own_ret Y7 hx Bd.notSynchronized Bd.returns (hb hby own_dd_72) (by decide) (by decide) ?_
  rw [e7]
  exact ⟨rfl, P7, K7, F7_first_o, F7_last_o, F7_previous_b, F7_next_b, F7_previous_x, F7_next_x⟩
theorem own_ef_rem00 (m : MethodId) (x0 : Addr) (x1 : Addr) : entryFrame m #[(.ref x0), (.ref x1)] 4 = mkF m 0 #[.val (.ref x0), .val (.ref x1), .unset, .unset] [] := by first | (simp [entryFrame, mkF, argsToLocals, Value.category]; done) | rfl
def own_Q_rem00 (Z : State) (o : Addr) (x : Addr) (h0 : Heap) (n0 : Nat) (v : Option Value) (h : Heap) (L : List Loc) : Prop := v = none ∧ Fr n0 L ∧ Keep h0 h [o, x] ∧ Fld Z h o "com/example/recency/recency/RecencyList" "first" "Lcom/example/recency/recency/RecencyList$Link;" .null ∧ Fld Z h o "com/example/recency/recency/RecencyList" "last" "Lcom/example/recency/recency/RecencyList$Link;" .null ∧ Fld Z h x "com/example/recency/recency/RecencyList$Link" "previous" "Lcom/example/recency/recency/RecencyList$Link;" .null ∧ Fld Z h x "com/example/recency/recency/RecencyList$Link" "next" "Lcom/example/recency/recency/RecencyList$Link;" .null
set_option maxRecDepth 65536 in
set_option maxHeartbeats 40000000 in
theorem own_rm_rem00 (l : Launch) (Z : State) (a0 : Array Value) (hw : ∀ d ∈ tables_1, d.before a0 Z = true) (ws : List Jvm.Cond) (o : Addr) (x : Addr) (h0 : Heap) (n0 : Nat) (Z0 : n0 ≤ h0.size) (S_A : Sta Z h0 "com/example/recency/recency/RecencyList" "$assertionsDisabled" "Z" (.int (1 : Int32))) (E_o : Exa Z h0 o "com/example/recency/recency/RecencyList") (E_x : Exa Z h0 x "com/example/recency/recency/RecencyListRemovePinLaw") (F_first_o : Fld Z h0 o "com/example/recency/recency/RecencyList" "first" "Lcom/example/recency/recency/RecencyList$Link;" (.ref x)) (F_last_o : Fld Z h0 o "com/example/recency/recency/RecencyList" "last" "Lcom/example/recency/recency/RecencyList$Link;" (.ref x)) (F_previous_x : Fld Z h0 x "com/example/recency/recency/RecencyList$Link" "previous" "Lcom/example/recency/recency/RecencyList$Link;" .null) (F_next_x : Fld Z h0 x "com/example/recency/recency/RecencyList$Link" "next" "Lcom/example/recency/recency/RecencyList$Link;" .null) (g_o : n0 ≤ o) (g_x : n0 ≤ x) (ne_o_x : o ≠ x) :
    MetFree l (⟨"com/example/recency/recency/RecencyList", "remove", "(Lcom/example/recency/recency/RecencyList$Link;)V"⟩ : MethodName) (head1 (Jvm.Cond.code (⟨"com/example/recency/recency/RecencyList", "remove", "(Lcom/example/recency/recency/RecencyList$Link;)V"⟩ : MethodName) prog_22_method_5_code 4 none :: ws) ({ frames := 0, cells := 0, slots := 0, locals := 0 } : Room)) (fun zz U => zz = #[(.ref o), (.ref x)] ∧ Z.Warmed39 U.vm ∧ U.heap = h0) (fun _ _ _ _ _ => True) (fun _ U zo U' => ∃ v L, zo = .returned v ∧ own_Q_rem00 Z o x h0 n0 v U'.heap L ∧ FrameEnd U zo U' L ({ frames := 0, cells := 0, slots := 0, locals := 0 } : Room).cells ({ frames := 0, cells := 0, slots := 0, locals := 0 } : Room).slots) := by
  refine MetFree.of_bodySF (plainFor_of_name own_pn1) hisR ?_
  intro p e s m args below meth c s₁ Bd hml0 hP hK
  obtain ⟨rfl, hZ, hh⟩ := hP
  have hx := Bd.exec
  have hby := Bd.bytes
  have hml : c.maxLocals = 4 := hml0
  have hown : s.vm.findClass "com/example/recency/recency/RecencyList" = some m.cls := findClass_of_methodNamed Bd.named
  have hnm := (name_of_methodNamed Bd.named Bd.method).1
  have X0 : Stand p l e ({ frames := 0, cells := 0, slots := 0, locals := 0 } : Room) s m #[(.ref o), (.ref x)] below meth c s₁ [] 0 0 := Stand.of_body Bd
  have e0 : s₁.heap = h0 := by rw [← hh, Bd.state]; rfl
  have N0 := Fr.nil n0
  show own_Go p e below (own_K s (own_Q_rem00 Z o x h0 n0) ({ frames := 0, cells := 0, slots := 0, locals := 0 } : Room).cells ({ frames := 0, cells := 0, slots := 0, locals := 0 } : Room).slots) s₁ (entryFrame m #[(.ref o), (.ref x)] 4)
  rw [own_ef_rem00 m o x]
  show own_Go p e below _ s₁ (mkF m 0 #[rv o, rv x, .unset, .unset] [])
  have K0 : Keep h0 h0 [o, x] := Keep.refl _ _
  obtain ⟨T1, X1, e1, st1⟩ := getS2 X0 hx hZ hown (host := "") (Or.inl (hw _ (List.mem_of_getElem? (i := 29) rfl))) Via.refl e0 S_A (g := (mkF m 0 #[rv o, rv x, .unset, .unset] [])) rfl (hb hby own_de_0)
  clear X0 e0
  refine own_st st1 ?_
  clear st1
  show own_Go p e below _ T1 (mkF m 3 #[rv o, rv x, .unset, .unset] [(.int 1)])
  refine own_st (fun _ k => XS.ifYes X1.here hx rfl (pc0 := 3) (pc' := 29) rfl (hb hby own_de_3) rfl (XT.i0_ne_t (by decide)) (by decide) (by decide) k) ?_
  show own_Go p e below _ T1 (mkF m 29 #[rv o, rv x, .unset, .unset] [])
  refine own_st (fun _ k => XS.aloadN X1.here hx rfl (hb hby own_de_29) rfl rfl k) ?_
  show own_Go p e below _ T1 (mkF m 30 #[rv o, rv x, .unset, .unset] [(.ref x)])
  obtain ⟨T2, X2, e2, st2⟩ := getF X1 hx hZ hown (host := "") (Or.inl (hw _ (List.mem_of_getElem? (i := 40) rfl))) Via.refl e1 F_previous_x (g := (mkF m 30 #[rv o, rv x, .unset, .unset] [(.ref x)])) rfl rfl (hb hby own_de_30)
  clear X1 e1
  refine own_st st2 ?_
  clear st2
  show own_Go p e below _ T2 (mkF m 33 #[rv o, rv x, .unset, .unset] [.null])
  refine own_st (fun _ k => XS.astoreN X2.here hx rfl (hb hby own_de_33) rfl rfl (l' := #[rv o, rv x, .val .null, .unset]) rfl k) ?_
  show own_Go p e below _ T2 (mkF m 34 #[rv o, rv x, .val .null, .unset] [])
  refine own_st (fun _ k => XS.aloadN X2.here hx rfl (hb hby own_de_34) rfl rfl k) ?_
  show own_Go p e below _ T2 (mkF m 35 #[rv o, rv x, .val .null, .unset] [(.ref x)])
  obtain ⟨T3, X3, e3, st3⟩ := getF X2 hx hZ hown (host := "") (Or.inl (hw _ (List.mem_of_getElem? (i := 42) rfl))) Via.refl e2 F_next_x (g := (mkF m 35 #[rv o, rv x, .val .null, .unset] [(.ref x)])) rfl rfl (hb hby own_de_35)
  clear X2 e2
  refine own_st st3 ?_
  clear st3
  show own_Go p e below _ T3 (mkF m 38 #[rv o, rv x, .val .null, .unset] [.null])
  refine own_st (fun _ k => XS.astoreN X3.here hx rfl (hb hby own_de_38) rfl rfl (l' := #[rv o, rv x, .val .null, .val .null]) rfl k) ?_
  show own_Go p e below _ T3 (mkF m 39 #[rv o, rv x, .val .null, .val .null] [])
  refine own_st (fun _ k => XS.aloadN X3.here hx rfl (hb hby own_de_39) rfl rfl k) ?_
  show own_Go p e below _ T3 (mkF m 40 #[rv o, rv x, .val .null, .val .null] [.null])
  refine own_st (fun _ k => XT.ifnonnullNo X3.here hx rfl (hb hby own_de_40) rfl k) ?_
  show own_Go p e below _ T3 (mkF m 43 #[rv o, rv x, .val .null, .val .null] [])
  refine own_st (fun _ k => XS.aloadN X3.here hx rfl (hb hby own_de_43) rfl rfl k) ?_
  show own_Go p e below _ T3 (mkF m 44 #[rv o, rv x, .val .null, .val .null] [(.ref o)])
  refine own_st (fun _ k => XS.aloadN X3.here hx rfl (hb hby own_de_44) rfl rfl k) ?_
  show own_Go p e below _ T3 (mkF m 45 #[rv o, rv x, .val .null, .val .null] [.null, (.ref o)])
  obtain ⟨T4, h4, X4, e4, W4, st4⟩ := putF X3 hx hZ hown (host := "") (Or.inl (hw _ (List.mem_of_getElem? (i := 33) rfl))) Via.refl e3 F_first_o E_o (Or.inl (hw _ (List.mem_of_getElem? (i := 34) rfl))) (hw _ (List.mem_of_getElem? (i := 18) rfl)) (ty := .object "com/example/recency/recency/RecencyList$Link") (by decide) rfl rfl (g := (mkF m 45 #[rv o, rv x, .val .null, .val .null] [.null, (.ref o)])) rfl rfl (hb hby own_de_45)
  have E4_o := E_o.wr W4
  have E4_x := E_x.wr W4
  have F4_first_o := F_first_o.same W4
  have F4_last_o := F_last_o.other W4 (Or.inr (slot_ne (Or.inl (hw _ (List.mem_of_getElem? (i := 32) rfl))) (Or.inl (hw _ (List.mem_of_getElem? (i := 34) rfl))) (by decide) (t := .object "com/example/recency/recency/RecencyList$Link") (t' := .object "com/example/recency/recency/RecencyList$Link") (by decide) (by decide)))
  have F4_previous_x := F_previous_x.other W4 (Or.inl ne_o_x.symm)
  have F4_next_x := F_next_x.other W4 (Or.inl ne_o_x.symm)
  have Z4 : n0 ≤ h4.size := by rw [W4.size]; exact Z0
  have K4 : Keep h0 h4 [o, x] := K0.wr W4 (Or.inl (List.mem_of_getElem? (i := 0) rfl))
  clear Z0 K0 E_o E_x F_first_o F_last_o F_previous_x F_next_x W4
  have N4 := Fr.snoc X4 N0 g_o
  obtain ⟨lc4, Y4, P4⟩ := own_hide X4 N4
  clear X4 N4
  clear X3 e3
  refine own_st st4 ?_
  clear st4
  show own_Go p e below _ T4 (mkF m 48 #[rv o, rv x, .val .null, .val .null] [])
  refine own_st (fun _ k => XS.goto Y4.here hx rfl (pc0 := 48) (pc' := 56) rfl (hb hby own_de_48) (by decide) (by decide) k) ?_
  show own_Go p e below _ T4 (mkF m 56 #[rv o, rv x, .val .null, .val .null] [])
  refine own_st (fun _ k => XS.aloadN Y4.here hx rfl (hb hby own_de_56) rfl rfl k) ?_
  show own_Go p e below _ T4 (mkF m 57 #[rv o, rv x, .val .null, .val .null] [.null])
  refine own_st (fun _ k => XT.ifnonnullNo Y4.here hx rfl (hb hby own_de_57) rfl k) ?_
  show own_Go p e below _ T4 (mkF m 60 #[rv o, rv x, .val .null, .val .null] [])
  refine own_st (fun _ k => XS.aloadN Y4.here hx rfl (hb hby own_de_60) rfl rfl k) ?_
  show own_Go p e below _ T4 (mkF m 61 #[rv o, rv x, .val .null, .val .null] [(.ref o)])
  refine own_st (fun _ k => XS.aloadN Y4.here hx rfl (hb hby own_de_61) rfl rfl k) ?_
  show own_Go p e below _ T4 (mkF m 62 #[rv o, rv x, .val .null, .val .null] [.null, (.ref o)])
  obtain ⟨T5, h5, X5, e5, W5, st5⟩ := putF Y4 hx hZ hown (host := "") (Or.inl (hw _ (List.mem_of_getElem? (i := 31) rfl))) Via.refl e4 F4_last_o E4_o (Or.inl (hw _ (List.mem_of_getElem? (i := 32) rfl))) (hw _ (List.mem_of_getElem? (i := 18) rfl)) (ty := .object "com/example/recency/recency/RecencyList$Link") (by decide) rfl rfl (g := (mkF m 62 #[rv o, rv x, .val .null, .val .null] [.null, (.ref o)])) rfl rfl (hb hby own_de_62)
  have E5_o := E4_o.wr W5
  have E5_x := E4_x.wr W5
  have F5_first_o := F4_first_o.other W5 (Or.inr (slot_ne (Or.inl (hw _ (List.mem_of_getElem? (i := 34) rfl))) (Or.inl (hw _ (List.mem_of_getElem? (i := 32) rfl))) (by decide) (t := .object "com/example/recency/recency/RecencyList$Link") (t' := .object "com/example/recency/recency/RecencyList$Link") (by decide) (by decide)))
  have F5_last_o := F4_last_o.same W5
  have F5_previous_x := F4_previous_x.other W5 (Or.inl ne_o_x.symm)
  have F5_next_x := F4_next_x.other W5 (Or.inl ne_o_x.symm)
  have Z5 : n0 ≤ h5.size := by rw [W5.size]; exact Z4
  have K5 : Keep h0 h5 [o, x] := K4.wr W5 (Or.inl (List.mem_of_getElem? (i := 0) rfl))
  clear Z4 K4 E4_o E4_x F4_first_o F4_last_o F4_previous_x F4_next_x W5
  have N5 := Fr.snoc X5 P4 g_o
  obtain ⟨lc5, Y5, P5⟩ := own_hide X5 N5
  clear X5 N5
  clear Y4 e4
  refine own_st st5 ?_
  clear st5
  show own_Go p e below _ T5 (mkF m 65 #[rv o, rv x, .val .null, .val .null] [])
  refine own_st (fun _ k => XS.goto Y5.here hx rfl (pc0 := 65) (pc' := 73) rfl (hb hby own_de_65) (by decide) (by decide) k) ?_
  show own_Go p e below _ T5 (mkF m 73 #[rv o, rv x, .val .null, .val .null] [])
  refine own_st (fun _ k => XS.aloadN Y5.here hx rfl (hb hby own_de_73) rfl rfl k) ?_
  show own_Go p e below _ T5 (mkF m 74 #[rv o, rv x, .val .null, .val .null] [(.ref x)])
  refine own_st (fun _ k => XS.aconstNull Y5.here hx rfl (hb hby own_de_74) k) ?_
  show own_Go p e below _ T5 (mkF m 75 #[rv o, rv x, .val .null, .val .null] [.null, (.ref x)])
  obtain ⟨T6, h6, X6, e6, W6, st6⟩ := putF Y5 hx hZ hown (host := "") (Or.inl (hw _ (List.mem_of_getElem? (i := 40) rfl))) Via.refl e5 F5_previous_x E5_x (Or.inl (hw _ (List.mem_of_getElem? (i := 41) rfl))) (hw _ (List.mem_of_getElem? (i := 3) rfl)) (ty := .object "com/example/recency/recency/RecencyList$Link") (by decide) rfl rfl (g := (mkF m 75 #[rv o, rv x, .val .null, .val .null] [.null, (.ref x)])) rfl rfl (hb hby own_de_75)
  have E6_o := E5_o.wr W6
  have E6_x := E5_x.wr W6
  have F6_first_o := F5_first_o.other W6 (Or.inl ne_o_x)
  have F6_last_o := F5_last_o.other W6 (Or.inl ne_o_x)
  have F6_previous_x := F5_previous_x.same W6
  have F6_next_x := F5_next_x.other W6 (Or.inr (slot_ne (Or.inl (hw _ (List.mem_of_getElem? (i := 43) rfl))) (Or.inl (hw _ (List.mem_of_getElem? (i := 41) rfl))) (by decide) (t := .object "com/example/recency/recency/RecencyList$Link") (t' := .object "com/example/recency/recency/RecencyList$Link") (by decide) (by decide)))
  have Z6 : n0 ≤ h6.size := by rw [W6.size]; exact Z5
  have K6 : Keep h0 h6 [o, x] := K5.wr W6 (Or.inl (List.mem_of_getElem? (i := 1) rfl))
  clear Z5 K5 E5_o E5_x F5_first_o F5_last_o F5_previous_x F5_next_x W6
  have N6 := Fr.snoc X6 P5 g_x
  obtain ⟨lc6, Y6, P6⟩ := own_hide X6 N6
  clear X6 N6
  clear Y5 e5
  refine own_st st6 ?_
  clear st6
  show own_Go p e below _ T6 (mkF m 78 #[rv o, rv x, .val .null, .val .null] [])
  refine own_st (fun _ k => XS.aloadN Y6.here hx rfl (hb hby own_de_78) rfl rfl k) ?_
  show own_Go p e below _ T6 (mkF m 79 #[rv o, rv x, .val .null, .val .null] [(.ref x)])
  refine own_st (fun _ k => XS.aconstNull Y6.here hx rfl (hb hby own_de_79) k) ?_
  show own_Go p e below _ T6 (mkF m 80 #[rv o, rv x, .val .null, .val .null] [.null, (.ref x)])
  obtain ⟨T7, h7, X7, e7, W7, st7⟩ := putF Y6 hx hZ hown (host := "") (Or.inl (hw _ (List.mem_of_getElem? (i := 42) rfl))) Via.refl e6 F6_next_x E6_x (Or.inl (hw _ (List.mem_of_getElem? (i := 43) rfl))) (hw _ (List.mem_of_getElem? (i := 3) rfl)) (ty := .object "com/example/recency/recency/RecencyList$Link") (by decide) rfl rfl (g := (mkF m 80 #[rv o, rv x, .val .null, .val .null] [.null, (.ref x)])) rfl rfl (hb hby own_de_80)
  have E7_o := E6_o.wr W7
  have E7_x := E6_x.wr W7
  have F7_first_o := F6_first_o.other W7 (Or.inl ne_o_x)
  have F7_last_o := F6_last_o.other W7 (Or.inl ne_o_x)
  have F7_previous_x := F6_previous_x.other W7 (Or.inr (slot_ne (Or.inl (hw _ (List.mem_of_getElem? (i := 41) rfl))) (Or.inl (hw _ (List.mem_of_getElem? (i := 43) rfl))) (by decide) (t := .object "com/example/recency/recency/RecencyList$Link") (t' := .object "com/example/recency/recency/RecencyList$Link") (by decide) (by decide)))
  have F7_next_x := F6_next_x.same W7
  have Z7 : n0 ≤ h7.size := by rw [W7.size]; exact Z6
  have K7 : Keep h0 h7 [o, x] := K6.wr W7 (Or.inl (List.mem_of_getElem? (i := 1) rfl))
  clear Z6 K6 E6_o E6_x F6_first_o F6_last_o F6_previous_x F6_next_x W7
  have N7 := Fr.snoc X7 P6 g_x
  obtain ⟨lc7, Y7, P7⟩ := own_hide X7 N7
  clear X7 N7
  clear Y6 e6
  refine own_st st7 ?_
  clear st7
  show own_Go p e below _ T7 (mkF m 83 #[rv o, rv x, .val .null, .val .null] [])
  refine own_ret Y7 hx Bd.notSynchronized Bd.returns (hb hby own_de_83) (by decide) (by decide) ?_
  rw [e7]
  exact ⟨rfl, P7, K7, F7_first_o, F7_last_o, F7_previous_x, F7_next_x⟩
theorem own_ef_rem01N (m : MethodId) (x0 : Addr) (x1 : Addr) : entryFrame m #[(.ref x0), (.ref x1)] 4 = mkF m 0 #[.val (.ref x0), .val (.ref x1), .unset, .unset] [] := by first | (simp [entryFrame, mkF, argsToLocals, Value.category]; done) | rfl
def own_Q_rem01N (Z : State) (o : Addr) (x : Addr) (cc : Addr) (z : Addr) (h0 : Heap) (n0 : Nat) (v : Option Value) (h : Heap) (L : List Loc) : Prop := v = none ∧ Fr n0 L ∧ Keep h0 h [o, x, cc] ∧ Fld Z h o "com/example/recency/recency/RecencyList" "first" "Lcom/example/recency/recency/RecencyList$Link;" (.ref cc) ∧ Fld Z h o "com/example/recency/recency/RecencyList" "last" "Lcom/example/recency/recency/RecencyList$Link;" (.ref z) ∧ Fld Z h x "com/example/recency/recency/RecencyList$Link" "previous" "Lcom/example/recency/recency/RecencyList$Link;" .null ∧ Fld Z h x "com/example/recency/recency/RecencyList$Link" "next" "Lcom/example/recency/recency/RecencyList$Link;" .null ∧ Fld Z h cc "com/example/recency/recency/RecencyList$Link" "previous" "Lcom/example/recency/recency/RecencyList$Link;" .null ∧ Fld Z h cc "com/example/recency/recency/RecencyList$Link" "next" "Lcom/example/recency/recency/RecencyList$Link;" .null
set_option maxRecDepth 65536 in
set_option maxHeartbeats 40000000 in
theorem own_rm_rem01N (l : Launch) (Z : State) (a0 : Array Value) (hw : ∀ d ∈ tables_1, d.before a0 Z = true) (ws : List Jvm.Cond) (o : Addr) (x : Addr) (cc : Addr) (z : Addr) (h0 : Heap) (n0 : Nat) (Z0 : n0 ≤ h0.size) (S_A : Sta Z h0 "com/example/recency/recency/RecencyList" "$assertionsDisabled" "Z" (.int (1 : Int32))) (E_o : Exa Z h0 o "com/example/recency/recency/RecencyList") (E_x : Exa Z h0 x "com/example/recency/recency/RecencyListRemovePinLaw") (E_cc : Exa Z h0 cc "com/example/recency/recency/RecencyListRemovePinLaw") (F_first_o : Fld Z h0 o "com/example/recency/recency/RecencyList" "first" "Lcom/example/recency/recency/RecencyList$Link;" (.ref x)) (F_last_o : Fld Z h0 o "com/example/recency/recency/RecencyList" "last" "Lcom/example/recency/recency/RecencyList$Link;" (.ref z)) (F_previous_x : Fld Z h0 x "com/example/recency/recency/RecencyList$Link" "previous" "Lcom/example/recency/recency/RecencyList$Link;" .null) (F_next_x : Fld Z h0 x "com/example/recency/recency/RecencyList$Link" "next" "Lcom/example/recency/recency/RecencyList$Link;" (.ref cc)) (F_previous_cc : Fld Z h0 cc "com/example/recency/recency/RecencyList$Link" "previous" "Lcom/example/recency/recency/RecencyList$Link;" (.ref x)) (F_next_cc : Fld Z h0 cc "com/example/recency/recency/RecencyList$Link" "next" "Lcom/example/recency/recency/RecencyList$Link;" .null) (g_o : n0 ≤ o) (g_x : n0 ≤ x) (g_cc : n0 ≤ cc) (ne_o_x : o ≠ x) (ne_o_cc : o ≠ cc) (ne_x_cc : x ≠ cc) :
    MetFree l (⟨"com/example/recency/recency/RecencyList", "remove", "(Lcom/example/recency/recency/RecencyList$Link;)V"⟩ : MethodName) (head1 (Jvm.Cond.code (⟨"com/example/recency/recency/RecencyList", "remove", "(Lcom/example/recency/recency/RecencyList$Link;)V"⟩ : MethodName) prog_22_method_5_code 4 none :: ws) ({ frames := 0, cells := 0, slots := 0, locals := 0 } : Room)) (fun zz U => zz = #[(.ref o), (.ref x)] ∧ Z.Warmed39 U.vm ∧ U.heap = h0) (fun _ _ _ _ _ => True) (fun _ U zo U' => ∃ v L, zo = .returned v ∧ own_Q_rem01N Z o x cc z h0 n0 v U'.heap L ∧ FrameEnd U zo U' L ({ frames := 0, cells := 0, slots := 0, locals := 0 } : Room).cells ({ frames := 0, cells := 0, slots := 0, locals := 0 } : Room).slots) := by
  refine MetFree.of_bodySF (plainFor_of_name own_pn1) hisR ?_
  intro p e s m args below meth c s₁ Bd hml0 hP hK
  obtain ⟨rfl, hZ, hh⟩ := hP
  have hx := Bd.exec
  have hby := Bd.bytes
  have hml : c.maxLocals = 4 := hml0
  have hown : s.vm.findClass "com/example/recency/recency/RecencyList" = some m.cls := findClass_of_methodNamed Bd.named
  have hnm := (name_of_methodNamed Bd.named Bd.method).1
  have X0 : Stand p l e ({ frames := 0, cells := 0, slots := 0, locals := 0 } : Room) s m #[(.ref o), (.ref x)] below meth c s₁ [] 0 0 := Stand.of_body Bd
  have e0 : s₁.heap = h0 := by rw [← hh, Bd.state]; rfl
  have N0 := Fr.nil n0
  show own_Go p e below (own_K s (own_Q_rem01N Z o x cc z h0 n0) ({ frames := 0, cells := 0, slots := 0, locals := 0 } : Room).cells ({ frames := 0, cells := 0, slots := 0, locals := 0 } : Room).slots) s₁ (entryFrame m #[(.ref o), (.ref x)] 4)
  rw [own_ef_rem01N m o x]
  show own_Go p e below _ s₁ (mkF m 0 #[rv o, rv x, .unset, .unset] [])
  have K0 : Keep h0 h0 [o, x, cc] := Keep.refl _ _
  obtain ⟨T1, X1, e1, st1⟩ := getS2 X0 hx hZ hown (host := "") (Or.inl (hw _ (List.mem_of_getElem? (i := 29) rfl))) Via.refl e0 S_A (g := (mkF m 0 #[rv o, rv x, .unset, .unset] [])) rfl (hb hby own_de_0)
  clear X0 e0
  refine own_st st1 ?_
  clear st1
  show own_Go p e below _ T1 (mkF m 3 #[rv o, rv x, .unset, .unset] [(.int 1)])
  refine own_st (fun _ k => XS.ifYes X1.here hx rfl (pc0 := 3) (pc' := 29) rfl (hb hby own_de_3) rfl (XT.i0_ne_t (by decide)) (by decide) (by decide) k) ?_
  show own_Go p e below _ T1 (mkF m 29 #[rv o, rv x, .unset, .unset] [])
  refine own_st (fun _ k => XS.aloadN X1.here hx rfl (hb hby own_de_29) rfl rfl k) ?_
  show own_Go p e below _ T1 (mkF m 30 #[rv o, rv x, .unset, .unset] [(.ref x)])
  obtain ⟨T2, X2, e2, st2⟩ := getF X1 hx hZ hown (host := "") (Or.inl (hw _ (List.mem_of_getElem? (i := 40) rfl))) Via.refl e1 F_previous_x (g := (mkF m 30 #[rv o, rv x, .unset, .unset] [(.ref x)])) rfl rfl (hb hby own_de_30)
  clear X1 e1
  refine own_st st2 ?_
  clear st2
  show own_Go p e below _ T2 (mkF m 33 #[rv o, rv x, .unset, .unset] [.null])
  refine own_st (fun _ k => XS.astoreN X2.here hx rfl (hb hby own_de_33) rfl rfl (l' := #[rv o, rv x, .val .null, .unset]) rfl k) ?_
  show own_Go p e below _ T2 (mkF m 34 #[rv o, rv x, .val .null, .unset] [])
  refine own_st (fun _ k => XS.aloadN X2.here hx rfl (hb hby own_de_34) rfl rfl k) ?_
  show own_Go p e below _ T2 (mkF m 35 #[rv o, rv x, .val .null, .unset] [(.ref x)])
  obtain ⟨T3, X3, e3, st3⟩ := getF X2 hx hZ hown (host := "") (Or.inl (hw _ (List.mem_of_getElem? (i := 42) rfl))) Via.refl e2 F_next_x (g := (mkF m 35 #[rv o, rv x, .val .null, .unset] [(.ref x)])) rfl rfl (hb hby own_de_35)
  clear X2 e2
  refine own_st st3 ?_
  clear st3
  show own_Go p e below _ T3 (mkF m 38 #[rv o, rv x, .val .null, .unset] [(.ref cc)])
  refine own_st (fun _ k => XS.astoreN X3.here hx rfl (hb hby own_de_38) rfl rfl (l' := #[rv o, rv x, .val .null, rv cc]) rfl k) ?_
  show own_Go p e below _ T3 (mkF m 39 #[rv o, rv x, .val .null, rv cc] [])
  refine own_st (fun _ k => XS.aloadN X3.here hx rfl (hb hby own_de_39) rfl rfl k) ?_
  show own_Go p e below _ T3 (mkF m 40 #[rv o, rv x, .val .null, rv cc] [.null])
  refine own_st (fun _ k => XT.ifnonnullNo X3.here hx rfl (hb hby own_de_40) rfl k) ?_
  show own_Go p e below _ T3 (mkF m 43 #[rv o, rv x, .val .null, rv cc] [])
  refine own_st (fun _ k => XS.aloadN X3.here hx rfl (hb hby own_de_43) rfl rfl k) ?_
  show own_Go p e below _ T3 (mkF m 44 #[rv o, rv x, .val .null, rv cc] [(.ref o)])
  refine own_st (fun _ k => XS.aloadN X3.here hx rfl (hb hby own_de_44) rfl rfl k) ?_
  show own_Go p e below _ T3 (mkF m 45 #[rv o, rv x, .val .null, rv cc] [(.ref cc), (.ref o)])
  obtain ⟨T4, h4, X4, e4, W4, st4⟩ := putF X3 hx hZ hown (host := "") (Or.inl (hw _ (List.mem_of_getElem? (i := 33) rfl))) Via.refl e3 F_first_o E_o (Or.inl (hw _ (List.mem_of_getElem? (i := 34) rfl))) (hw _ (List.mem_of_getElem? (i := 18) rfl)) (ty := .object "com/example/recency/recency/RecencyList$Link") (by decide) rfl rfl (g := (mkF m 45 #[rv o, rv x, .val .null, rv cc] [(.ref cc), (.ref o)])) rfl rfl (hb hby own_de_45)
  have E4_o := E_o.wr W4
  have E4_x := E_x.wr W4
  have E4_cc := E_cc.wr W4
  have F4_first_o := F_first_o.same W4
  have F4_last_o := F_last_o.other W4 (Or.inr (slot_ne (Or.inl (hw _ (List.mem_of_getElem? (i := 32) rfl))) (Or.inl (hw _ (List.mem_of_getElem? (i := 34) rfl))) (by decide) (t := .object "com/example/recency/recency/RecencyList$Link") (t' := .object "com/example/recency/recency/RecencyList$Link") (by decide) (by decide)))
  have F4_previous_x := F_previous_x.other W4 (Or.inl ne_o_x.symm)
  have F4_next_x := F_next_x.other W4 (Or.inl ne_o_x.symm)
  have F4_previous_cc := F_previous_cc.other W4 (Or.inl ne_o_cc.symm)
  have F4_next_cc := F_next_cc.other W4 (Or.inl ne_o_cc.symm)
  have Z4 : n0 ≤ h4.size := by rw [W4.size]; exact Z0
  have K4 : Keep h0 h4 [o, x, cc] := K0.wr W4 (Or.inl (List.mem_of_getElem? (i := 0) rfl))
  clear Z0 K0 E_o E_x E_cc F_first_o F_last_o F_previous_x F_next_x F_previous_cc F_next_cc W4
  have N4 := Fr.snoc X4 N0 g_o
  obtain ⟨lc4, Y4, P4⟩ := own_hide X4 N4
  clear X4 N4
  clear X3 e3
  refine own_st st4 ?_
  clear st4
  show own_Go p e below _ T4 (mkF m 48 #[rv o, rv x, .val .null, rv cc] [])
  refine own_st (fun _ k => XS.goto Y4.here hx rfl (pc0 := 48) (pc' := 56) rfl (hb hby own_de_48) (by decide) (by decide) k) ?_
  show own_Go p e below _ T4 (mkF m 56 #[rv o, rv x, .val .null, rv cc] [])
  refine own_st (fun _ k => XS.aloadN Y4.here hx rfl (hb hby own_de_56) rfl rfl k) ?_
  show own_Go p e below _ T4 (mkF m 57 #[rv o, rv x, .val .null, rv cc] [(.ref cc)])
  refine own_st (fun _ k => XT.ifnonnullYes Y4.here hx rfl (pc0 := 57) (pc' := 68) rfl (hb hby own_de_57) rfl (by decide) (by decide) k) ?_
  show own_Go p e below _ T4 (mkF m 68 #[rv o, rv x, .val .null, rv cc] [])
  refine own_st (fun _ k => XS.aloadN Y4.here hx rfl (hb hby own_de_68) rfl rfl k) ?_
  show own_Go p e below _ T4 (mkF m 69 #[rv o, rv x, .val .null, rv cc] [(.ref cc)])
  refine own_st (fun _ k => XS.aloadN Y4.here hx rfl (hb hby own_de_69) rfl rfl k) ?_
  show own_Go p e below _ T4 (mkF m 70 #[rv o, rv x, .val .null, rv cc] [.null, (.ref cc)])
  obtain ⟨T5, h5, X5, e5, W5, st5⟩ := putF Y4 hx hZ hown (host := "") (Or.inl (hw _ (List.mem_of_getElem? (i := 40) rfl))) Via.refl e4 F4_previous_cc E4_cc (Or.inl (hw _ (List.mem_of_getElem? (i := 41) rfl))) (hw _ (List.mem_of_getElem? (i := 3) rfl)) (ty := .object "com/example/recency/recency/RecencyList$Link") (by decide) rfl rfl (g := (mkF m 70 #[rv o, rv x, .val .null, rv cc] [.null, (.ref cc)])) rfl rfl (hb hby own_de_70)
  have E5_o := E4_o.wr W5
  have E5_x := E4_x.wr W5
  have E5_cc := E4_cc.wr W5
  have F5_first_o := F4_first_o.other W5 (Or.inl ne_o_cc)
  have F5_last_o := F4_last_o.other W5 (Or.inl ne_o_cc)
  have F5_previous_x := F4_previous_x.other W5 (Or.inl ne_x_cc)
  have F5_next_x := F4_next_x.other W5 (Or.inl ne_x_cc)
  have F5_previous_cc := F4_previous_cc.same W5
  have F5_next_cc := F4_next_cc.other W5 (Or.inr (slot_ne (Or.inl (hw _ (List.mem_of_getElem? (i := 43) rfl))) (Or.inl (hw _ (List.mem_of_getElem? (i := 41) rfl))) (by decide) (t := .object "com/example/recency/recency/RecencyList$Link") (t' := .object "com/example/recency/recency/RecencyList$Link") (by decide) (by decide)))
  have Z5 : n0 ≤ h5.size := by rw [W5.size]; exact Z4
  have K5 : Keep h0 h5 [o, x, cc] := K4.wr W5 (Or.inl (List.mem_of_getElem? (i := 2) rfl))
  clear Z4 K4 E4_o E4_x E4_cc F4_first_o F4_last_o F4_previous_x F4_next_x F4_previous_cc F4_next_cc W5
  have N5 := Fr.snoc X5 P4 g_cc
  obtain ⟨lc5, Y5, P5⟩ := own_hide X5 N5
  clear X5 N5
  clear Y4 e4
  refine own_st st5 ?_
  clear st5
  show own_Go p e below _ T5 (mkF m 73 #[rv o, rv x, .val .null, rv cc] [])
  refine own_st (fun _ k => XS.aloadN Y5.here hx rfl (hb hby own_de_73) rfl rfl k) ?_
  show own_Go p e below _ T5 (mkF m 74 #[rv o, rv x, .val .null, rv cc] [(.ref x)])
  refine own_st (fun _ k => XS.aconstNull Y5.here hx rfl (hb hby own_de_74) k) ?_
  show own_Go p e below _ T5 (mkF m 75 #[rv o, rv x, .val .null, rv cc] [.null, (.ref x)])
  obtain ⟨T6, h6, X6, e6, W6, st6⟩ := putF Y5 hx hZ hown (host := "") (Or.inl (hw _ (List.mem_of_getElem? (i := 40) rfl))) Via.refl e5 F5_previous_x E5_x (Or.inl (hw _ (List.mem_of_getElem? (i := 41) rfl))) (hw _ (List.mem_of_getElem? (i := 3) rfl)) (ty := .object "com/example/recency/recency/RecencyList$Link") (by decide) rfl rfl (g := (mkF m 75 #[rv o, rv x, .val .null, rv cc] [.null, (.ref x)])) rfl rfl (hb hby own_de_75)
  have E6_o := E5_o.wr W6
  have E6_x := E5_x.wr W6
  have E6_cc := E5_cc.wr W6
  have F6_first_o := F5_first_o.other W6 (Or.inl ne_o_x)
  have F6_last_o := F5_last_o.other W6 (Or.inl ne_o_x)
  have F6_previous_x := F5_previous_x.same W6
  have F6_next_x := F5_next_x.other W6 (Or.inr (slot_ne (Or.inl (hw _ (List.mem_of_getElem? (i := 43) rfl))) (Or.inl (hw _ (List.mem_of_getElem? (i := 41) rfl))) (by decide) (t := .object "com/example/recency/recency/RecencyList$Link") (t' := .object "com/example/recency/recency/RecencyList$Link") (by decide) (by decide)))
  have F6_previous_cc := F5_previous_cc.other W6 (Or.inl ne_x_cc.symm)
  have F6_next_cc := F5_next_cc.other W6 (Or.inl ne_x_cc.symm)
  have Z6 : n0 ≤ h6.size := by rw [W6.size]; exact Z5
  have K6 : Keep h0 h6 [o, x, cc] := K5.wr W6 (Or.inl (List.mem_of_getElem? (i := 1) rfl))
  clear Z5 K5 E5_o E5_x E5_cc F5_first_o F5_last_o F5_previous_x F5_next_x F5_previous_cc F5_next_cc W6
  have N6 := Fr.snoc X6 P5 g_x
  obtain ⟨lc6, Y6, P6⟩ := own_hide X6 N6
  clear X6 N6
  clear Y5 e5
  refine own_st st6 ?_
  clear st6
  show own_Go p e below _ T6 (mkF m 78 #[rv o, rv x, .val .null, rv cc] [])
  refine own_st (fun _ k => XS.aloadN Y6.here hx rfl (hb hby own_de_78) rfl rfl k) ?_
  show own_Go p e below _ T6 (mkF m 79 #[rv o, rv x, .val .null, rv cc] [(.ref x)])
  refine own_st (fun _ k => XS.aconstNull Y6.here hx rfl (hb hby own_de_79) k) ?_
  show own_Go p e below _ T6 (mkF m 80 #[rv o, rv x, .val .null, rv cc] [.null, (.ref x)])
  obtain ⟨T7, h7, X7, e7, W7, st7⟩ := putF Y6 hx hZ hown (host := "") (Or.inl (hw _ (List.mem_of_getElem? (i := 42) rfl))) Via.refl e6 F6_next_x E6_x (Or.inl (hw _ (List.mem_of_getElem? (i := 43) rfl))) (hw _ (List.mem_of_getElem? (i := 3) rfl)) (ty := .object "com/example/recency/recency/RecencyList$Link") (by decide) rfl rfl (g := (mkF m 80 #[rv o, rv x, .val .null, rv cc] [.null, (.ref x)])) rfl rfl (hb hby own_de_80)
  have E7_o := E6_o.wr W7
  have E7_x := E6_x.wr W7
  have E7_cc := E6_cc.wr W7
  have F7_first_o := F6_first_o.other W7 (Or.inl ne_o_x)
  have F7_last_o := F6_last_o.other W7 (Or.inl ne_o_x)
  have F7_previous_x := F6_previous_x.other W7 (Or.inr (slot_ne (Or.inl (hw _ (List.mem_of_getElem? (i := 41) rfl))) (Or.inl (hw _ (List.mem_of_getElem? (i := 43) rfl))) (by decide) (t := .object "com/example/recency/recency/RecencyList$Link") (t' := .object "com/example/recency/recency/RecencyList$Link") (by decide) (by decide)))
  have F7_next_x := F6_next_x.same W7
  have F7_previous_cc := F6_previous_cc.other W7 (Or.inl ne_x_cc.symm)
  have F7_next_cc := F6_next_cc.other W7 (Or.inl ne_x_cc.symm)
  have Z7 : n0 ≤ h7.size := by rw [W7.size]; exact Z6
  have K7 : Keep h0 h7 [o, x, cc] := K6.wr W7 (Or.inl (List.mem_of_getElem? (i := 1) rfl))
  clear Z6 K6 E6_o E6_x E6_cc F6_first_o F6_last_o F6_previous_x F6_next_x F6_previous_cc F6_next_cc W7
  have N7 := Fr.snoc X7 P6 g_x
  obtain ⟨lc7, Y7, P7⟩ := own_hide X7 N7
  clear X7 N7
  clear Y6 e6
  refine own_st st7 ?_
  clear st7
  show own_Go p e below _ T7 (mkF m 83 #[rv o, rv x, .val .null, rv cc] [])
  refine own_ret Y7 hx Bd.notSynchronized Bd.returns (hb hby own_de_83) (by decide) (by decide) ?_
  rw [e7]
  exact ⟨rfl, P7, K7, F7_first_o, F7_last_o, F7_previous_x, F7_next_x, F7_previous_cc, F7_next_cc⟩
theorem own_ef_rem01D (m : MethodId) (x0 : Addr) (x1 : Addr) : entryFrame m #[(.ref x0), (.ref x1)] 4 = mkF m 0 #[.val (.ref x0), .val (.ref x1), .unset, .unset] [] := by first | (simp [entryFrame, mkF, argsToLocals, Value.category]; done) | rfl
def own_Q_rem01D (Z : State) (o : Addr) (x : Addr) (cc : Addr) (z : Addr) (d : Addr) (h0 : Heap) (n0 : Nat) (v : Option Value) (h : Heap) (L : List Loc) : Prop := v = none ∧ Fr n0 L ∧ Keep h0 h [o, x, cc] ∧ Fld Z h o "com/example/recency/recency/RecencyList" "first" "Lcom/example/recency/recency/RecencyList$Link;" (.ref cc) ∧ Fld Z h o "com/example/recency/recency/RecencyList" "last" "Lcom/example/recency/recency/RecencyList$Link;" (.ref z) ∧ Fld Z h x "com/example/recency/recency/RecencyList$Link" "previous" "Lcom/example/recency/recency/RecencyList$Link;" .null ∧ Fld Z h x "com/example/recency/recency/RecencyList$Link" "next" "Lcom/example/recency/recency/RecencyList$Link;" .null ∧ Fld Z h cc "com/example/recency/recency/RecencyList$Link" "previous" "Lcom/example/recency/recency/RecencyList$Link;" .null ∧ Fld Z h cc "com/example/recency/recency/RecencyList$Link" "next" "Lcom/example/recency/recency/RecencyList$Link;" (.ref d)
set_option maxRecDepth 65536 in
set_option maxHeartbeats 40000000 in
theorem own_rm_rem01D (l : Launch) (Z : State) (a0 : Array Value) (hw : ∀ d ∈ tables_1, d.before a0 Z = true) (ws : List Jvm.Cond) (o : Addr) (x : Addr) (cc : Addr) (z : Addr) (d : Addr) (h0 : Heap) (n0 : Nat) (Z0 : n0 ≤ h0.size) (S_A : Sta Z h0 "com/example/recency/recency/RecencyList" "$assertionsDisabled" "Z" (.int (1 : Int32))) (E_o : Exa Z h0 o "com/example/recency/recency/RecencyList") (E_x : Exa Z h0 x "com/example/recency/recency/RecencyListRemovePinLaw") (E_cc : Exa Z h0 cc "com/example/recency/recency/RecencyListRemovePinLaw") (F_first_o : Fld Z h0 o "com/example/recency/recency/RecencyList" "first" "Lcom/example/recency/recency/RecencyList$Link;" (.ref x)) (F_last_o : Fld Z h0 o "com/example/recency/recency/RecencyList" "last" "Lcom/example/recency/recency/RecencyList$Link;" (.ref z)) (F_previous_x : Fld Z h0 x "com/example/recency/recency/RecencyList$Link" "previous" "Lcom/example/recency/recency/RecencyList$Link;" .null) (F_next_x : Fld Z h0 x "com/example/recency/recency/RecencyList$Link" "next" "Lcom/example/recency/recency/RecencyList$Link;" (.ref cc)) (F_previous_cc : Fld Z h0 cc "com/example/recency/recency/RecencyList$Link" "previous" "Lcom/example/recency/recency/RecencyList$Link;" (.ref x)) (F_next_cc : Fld Z h0 cc "com/example/recency/recency/RecencyList$Link" "next" "Lcom/example/recency/recency/RecencyList$Link;" (.ref d)) (g_o : n0 ≤ o) (g_x : n0 ≤ x) (g_cc : n0 ≤ cc) (ne_o_x : o ≠ x) (ne_o_cc : o ≠ cc) (ne_x_cc : x ≠ cc) :
    MetFree l (⟨"com/example/recency/recency/RecencyList", "remove", "(Lcom/example/recency/recency/RecencyList$Link;)V"⟩ : MethodName) (head1 (Jvm.Cond.code (⟨"com/example/recency/recency/RecencyList", "remove", "(Lcom/example/recency/recency/RecencyList$Link;)V"⟩ : MethodName) prog_22_method_5_code 4 none :: ws) ({ frames := 0, cells := 0, slots := 0, locals := 0 } : Room)) (fun zz U => zz = #[(.ref o), (.ref x)] ∧ Z.Warmed39 U.vm ∧ U.heap = h0) (fun _ _ _ _ _ => True) (fun _ U zo U' => ∃ v L, zo = .returned v ∧ own_Q_rem01D Z o x cc z d h0 n0 v U'.heap L ∧ FrameEnd U zo U' L ({ frames := 0, cells := 0, slots := 0, locals := 0 } : Room).cells ({ frames := 0, cells := 0, slots := 0, locals := 0 } : Room).slots) := by
  refine MetFree.of_bodySF (plainFor_of_name own_pn1) hisR ?_
  intro p e s m args below meth c s₁ Bd hml0 hP hK
  obtain ⟨rfl, hZ, hh⟩ := hP
  have hx := Bd.exec
  have hby := Bd.bytes
  have hml : c.maxLocals = 4 := hml0
  have hown : s.vm.findClass "com/example/recency/recency/RecencyList" = some m.cls := findClass_of_methodNamed Bd.named
  have hnm := (name_of_methodNamed Bd.named Bd.method).1
  have X0 : Stand p l e ({ frames := 0, cells := 0, slots := 0, locals := 0 } : Room) s m #[(.ref o), (.ref x)] below meth c s₁ [] 0 0 := Stand.of_body Bd
  have e0 : s₁.heap = h0 := by rw [← hh, Bd.state]; rfl
  have N0 := Fr.nil n0
  show own_Go p e below (own_K s (own_Q_rem01D Z o x cc z d h0 n0) ({ frames := 0, cells := 0, slots := 0, locals := 0 } : Room).cells ({ frames := 0, cells := 0, slots := 0, locals := 0 } : Room).slots) s₁ (entryFrame m #[(.ref o), (.ref x)] 4)
  rw [own_ef_rem01D m o x]
  show own_Go p e below _ s₁ (mkF m 0 #[rv o, rv x, .unset, .unset] [])
  have K0 : Keep h0 h0 [o, x, cc] := Keep.refl _ _
  obtain ⟨T1, X1, e1, st1⟩ := getS2 X0 hx hZ hown (host := "") (Or.inl (hw _ (List.mem_of_getElem? (i := 29) rfl))) Via.refl e0 S_A (g := (mkF m 0 #[rv o, rv x, .unset, .unset] [])) rfl (hb hby own_de_0)
  clear X0 e0
  refine own_st st1 ?_
  clear st1
  show own_Go p e below _ T1 (mkF m 3 #[rv o, rv x, .unset, .unset] [(.int 1)])
  refine own_st (fun _ k => XS.ifYes X1.here hx rfl (pc0 := 3) (pc' := 29) rfl (hb hby own_de_3) rfl (XT.i0_ne_t (by decide)) (by decide) (by decide) k) ?_
  show own_Go p e below _ T1 (mkF m 29 #[rv o, rv x, .unset, .unset] [])
  refine own_st (fun _ k => XS.aloadN X1.here hx rfl (hb hby own_de_29) rfl rfl k) ?_
  show own_Go p e below _ T1 (mkF m 30 #[rv o, rv x, .unset, .unset] [(.ref x)])
  obtain ⟨T2, X2, e2, st2⟩ := getF X1 hx hZ hown (host := "") (Or.inl (hw _ (List.mem_of_getElem? (i := 40) rfl))) Via.refl e1 F_previous_x (g := (mkF m 30 #[rv o, rv x, .unset, .unset] [(.ref x)])) rfl rfl (hb hby own_de_30)
  clear X1 e1
  refine own_st st2 ?_
  clear st2
  show own_Go p e below _ T2 (mkF m 33 #[rv o, rv x, .unset, .unset] [.null])
  refine own_st (fun _ k => XS.astoreN X2.here hx rfl (hb hby own_de_33) rfl rfl (l' := #[rv o, rv x, .val .null, .unset]) rfl k) ?_
  show own_Go p e below _ T2 (mkF m 34 #[rv o, rv x, .val .null, .unset] [])
  refine own_st (fun _ k => XS.aloadN X2.here hx rfl (hb hby own_de_34) rfl rfl k) ?_
  show own_Go p e below _ T2 (mkF m 35 #[rv o, rv x, .val .null, .unset] [(.ref x)])
  obtain ⟨T3, X3, e3, st3⟩ := getF X2 hx hZ hown (host := "") (Or.inl (hw _ (List.mem_of_getElem? (i := 42) rfl))) Via.refl e2 F_next_x (g := (mkF m 35 #[rv o, rv x, .val .null, .unset] [(.ref x)])) rfl rfl (hb hby own_de_35)
  clear X2 e2
  refine own_st st3 ?_
  clear st3
  show own_Go p e below _ T3 (mkF m 38 #[rv o, rv x, .val .null, .unset] [(.ref cc)])
  refine own_st (fun _ k => XS.astoreN X3.here hx rfl (hb hby own_de_38) rfl rfl (l' := #[rv o, rv x, .val .null, rv cc]) rfl k) ?_
  show own_Go p e below _ T3 (mkF m 39 #[rv o, rv x, .val .null, rv cc] [])
  refine own_st (fun _ k => XS.aloadN X3.here hx rfl (hb hby own_de_39) rfl rfl k) ?_
  show own_Go p e below _ T3 (mkF m 40 #[rv o, rv x, .val .null, rv cc] [.null])
  refine own_st (fun _ k => XT.ifnonnullNo X3.here hx rfl (hb hby own_de_40) rfl k) ?_
  show own_Go p e below _ T3 (mkF m 43 #[rv o, rv x, .val .null, rv cc] [])
  refine own_st (fun _ k => XS.aloadN X3.here hx rfl (hb hby own_de_43) rfl rfl k) ?_
  show own_Go p e below _ T3 (mkF m 44 #[rv o, rv x, .val .null, rv cc] [(.ref o)])
  refine own_st (fun _ k => XS.aloadN X3.here hx rfl (hb hby own_de_44) rfl rfl k) ?_
  show own_Go p e below _ T3 (mkF m 45 #[rv o, rv x, .val .null, rv cc] [(.ref cc), (.ref o)])
  obtain ⟨T4, h4, X4, e4, W4, st4⟩ := putF X3 hx hZ hown (host := "") (Or.inl (hw _ (List.mem_of_getElem? (i := 33) rfl))) Via.refl e3 F_first_o E_o (Or.inl (hw _ (List.mem_of_getElem? (i := 34) rfl))) (hw _ (List.mem_of_getElem? (i := 18) rfl)) (ty := .object "com/example/recency/recency/RecencyList$Link") (by decide) rfl rfl (g := (mkF m 45 #[rv o, rv x, .val .null, rv cc] [(.ref cc), (.ref o)])) rfl rfl (hb hby own_de_45)
  have E4_o := E_o.wr W4
  have E4_x := E_x.wr W4
  have E4_cc := E_cc.wr W4
  have F4_first_o := F_first_o.same W4
  have F4_last_o := F_last_o.other W4 (Or.inr (slot_ne (Or.inl (hw _ (List.mem_of_getElem? (i := 32) rfl))) (Or.inl (hw _ (List.mem_of_getElem? (i := 34) rfl))) (by decide) (t := .object "com/example/recency/recency/RecencyList$Link") (t' := .object "com/example/recency/recency/RecencyList$Link") (by decide) (by decide)))
  have F4_previous_x := F_previous_x.other W4 (Or.inl ne_o_x.symm)
  have F4_next_x := F_next_x.other W4 (Or.inl ne_o_x.symm)
  have F4_previous_cc := F_previous_cc.other W4 (Or.inl ne_o_cc.symm)
  have F4_next_cc := F_next_cc.other W4 (Or.inl ne_o_cc.symm)
  have Z4 : n0 ≤ h4.size := by rw [W4.size]; exact Z0
  have K4 : Keep h0 h4 [o, x, cc] := K0.wr W4 (Or.inl (List.mem_of_getElem? (i := 0) rfl))
  clear Z0 K0 E_o E_x E_cc F_first_o F_last_o F_previous_x F_next_x F_previous_cc F_next_cc W4
  have N4 := Fr.snoc X4 N0 g_o
  obtain ⟨lc4, Y4, P4⟩ := own_hide X4 N4
  clear X4 N4
  clear X3 e3
  refine own_st st4 ?_
  clear st4
  show own_Go p e below _ T4 (mkF m 48 #[rv o, rv x, .val .null, rv cc] [])
  refine own_st (fun _ k => XS.goto Y4.here hx rfl (pc0 := 48) (pc' := 56) rfl (hb hby own_de_48) (by decide) (by decide) k) ?_
  show own_Go p e below _ T4 (mkF m 56 #[rv o, rv x, .val .null, rv cc] [])
  refine own_st (fun _ k => XS.aloadN Y4.here hx rfl (hb hby own_de_56) rfl rfl k) ?_
  show own_Go p e below _ T4 (mkF m 57 #[rv o, rv x, .val .null, rv cc] [(.ref cc)])
  refine own_st (fun _ k => XT.ifnonnullYes Y4.here hx rfl (pc0 := 57) (pc' := 68) rfl (hb hby own_de_57) rfl (by decide) (by decide) k) ?_
  show own_Go p e below _ T4 (mkF m 68 #[rv o, rv x, .val .null, rv cc] [])
  refine own_st (fun _ k => XS.aloadN Y4.here hx rfl (hb hby own_de_68) rfl rfl k) ?_
  show own_Go p e below _ T4 (mkF m 69 #[rv o, rv x, .val .null, rv cc] [(.ref cc)])
  refine own_st (fun _ k => XS.aloadN Y4.here hx rfl (hb hby own_de_69) rfl rfl k) ?_
  show own_Go p e below _ T4 (mkF m 70 #[rv o, rv x, .val .null, rv cc] [.null, (.ref cc)])
  obtain ⟨T5, h5, X5, e5, W5, st5⟩ := putF Y4 hx hZ hown (host := "") (Or.inl (hw _ (List.mem_of_getElem? (i := 40) rfl))) Via.refl e4 F4_previous_cc E4_cc (Or.inl (hw _ (List.mem_of_getElem? (i := 41) rfl))) (hw _ (List.mem_of_getElem? (i := 3) rfl)) (ty := .object "com/example/recency/recency/RecencyList$Link") (by decide) rfl rfl (g := (mkF m 70 #[rv o, rv x, .val .null, rv cc] [.null, (.ref cc)])) rfl rfl (hb hby own_de_70)
  have E5_o := E4_o.wr W5
  have E5_x := E4_x.wr W5
  have E5_cc := E4_cc.wr W5
  have F5_first_o := F4_first_o.other W5 (Or.inl ne_o_cc)
  have F5_last_o := F4_last_o.other W5 (Or.inl ne_o_cc)
  have F5_previous_x := F4_previous_x.other W5 (Or.inl ne_x_cc)
  have F5_next_x := F4_next_x.other W5 (Or.inl ne_x_cc)
  have F5_previous_cc := F4_previous_cc.same W5
  have F5_next_cc := F4_next_cc.other W5 (Or.inr (slot_ne (Or.inl (hw _ (List.mem_of_getElem? (i := 43) rfl))) (Or.inl (hw _ (List.mem_of_getElem? (i := 41) rfl))) (by decide) (t := .object "com/example/recency/recency/RecencyList$Link") (t' := .object "com/example/recency/recency/RecencyList$Link") (by decide) (by decide)))
  have Z5 : n0 ≤ h5.size := by rw [W5.size]; exact Z4
  have K5 : Keep h0 h5 [o, x, cc] := K4.wr W5 (Or.inl (List.mem_of_getElem? (i := 2) rfl))
  clear Z4 K4 E4_o E4_x E4_cc F4_first_o F4_last_o F4_previous_x F4_next_x F4_previous_cc F4_next_cc W5
  have N5 := Fr.snoc X5 P4 g_cc
  obtain ⟨lc5, Y5, P5⟩ := own_hide X5 N5
  clear X5 N5
  clear Y4 e4
  refine own_st st5 ?_
  clear st5
  show own_Go p e below _ T5 (mkF m 73 #[rv o, rv x, .val .null, rv cc] [])
  refine own_st (fun _ k => XS.aloadN Y5.here hx rfl (hb hby own_de_73) rfl rfl k) ?_
  show own_Go p e below _ T5 (mkF m 74 #[rv o, rv x, .val .null, rv cc] [(.ref x)])
  refine own_st (fun _ k => XS.aconstNull Y5.here hx rfl (hb hby own_de_74) k) ?_
  show own_Go p e below _ T5 (mkF m 75 #[rv o, rv x, .val .null, rv cc] [.null, (.ref x)])
  obtain ⟨T6, h6, X6, e6, W6, st6⟩ := putF Y5 hx hZ hown (host := "") (Or.inl (hw _ (List.mem_of_getElem? (i := 40) rfl))) Via.refl e5 F5_previous_x E5_x (Or.inl (hw _ (List.mem_of_getElem? (i := 41) rfl))) (hw _ (List.mem_of_getElem? (i := 3) rfl)) (ty := .object "com/example/recency/recency/RecencyList$Link") (by decide) rfl rfl (g := (mkF m 75 #[rv o, rv x, .val .null, rv cc] [.null, (.ref x)])) rfl rfl (hb hby own_de_75)
  have E6_o := E5_o.wr W6
  have E6_x := E5_x.wr W6
  have E6_cc := E5_cc.wr W6
  have F6_first_o := F5_first_o.other W6 (Or.inl ne_o_x)
  have F6_last_o := F5_last_o.other W6 (Or.inl ne_o_x)
  have F6_previous_x := F5_previous_x.same W6
  have F6_next_x := F5_next_x.other W6 (Or.inr (slot_ne (Or.inl (hw _ (List.mem_of_getElem? (i := 43) rfl))) (Or.inl (hw _ (List.mem_of_getElem? (i := 41) rfl))) (by decide) (t := .object "com/example/recency/recency/RecencyList$Link") (t' := .object "com/example/recency/recency/RecencyList$Link") (by decide) (by decide)))
  have F6_previous_cc := F5_previous_cc.other W6 (Or.inl ne_x_cc.symm)
  have F6_next_cc := F5_next_cc.other W6 (Or.inl ne_x_cc.symm)
  have Z6 : n0 ≤ h6.size := by rw [W6.size]; exact Z5
  have K6 : Keep h0 h6 [o, x, cc] := K5.wr W6 (Or.inl (List.mem_of_getElem? (i := 1) rfl))
  clear Z5 K5 E5_o E5_x E5_cc F5_first_o F5_last_o F5_previous_x F5_next_x F5_previous_cc F5_next_cc W6
  have N6 := Fr.snoc X6 P5 g_x
  obtain ⟨lc6, Y6, P6⟩ := own_hide X6 N6
  clear X6 N6
  clear Y5 e5
  refine own_st st6 ?_
  clear st6
  show own_Go p e below _ T6 (mkF m 78 #[rv o, rv x, .val .null, rv cc] [])
  refine own_st (fun _ k => XS.aloadN Y6.here hx rfl (hb hby own_de_78) rfl rfl k) ?_
  show own_Go p e below _ T6 (mkF m 79 #[rv o, rv x, .val .null, rv cc] [(.ref x)])
  refine own_st (fun _ k => XS.aconstNull Y6.here hx rfl (hb hby own_de_79) k) ?_
  show own_Go p e below _ T6 (mkF m 80 #[rv o, rv x, .val .null, rv cc] [.null, (.ref x)])
  obtain ⟨T7, h7, X7, e7, W7, st7⟩ := putF Y6 hx hZ hown (host := "") (Or.inl (hw _ (List.mem_of_getElem? (i := 42) rfl))) Via.refl e6 F6_next_x E6_x (Or.inl (hw _ (List.mem_of_getElem? (i := 43) rfl))) (hw _ (List.mem_of_getElem? (i := 3) rfl)) (ty := .object "com/example/recency/recency/RecencyList$Link") (by decide) rfl rfl (g := (mkF m 80 #[rv o, rv x, .val .null, rv cc] [.null, (.ref x)])) rfl rfl (hb hby own_de_80)
  have E7_o := E6_o.wr W7
  have E7_x := E6_x.wr W7
  have E7_cc := E6_cc.wr W7
  have F7_first_o := F6_first_o.other W7 (Or.inl ne_o_x)
  have F7_last_o := F6_last_o.other W7 (Or.inl ne_o_x)
  have F7_previous_x := F6_previous_x.other W7 (Or.inr (slot_ne (Or.inl (hw _ (List.mem_of_getElem? (i := 41) rfl))) (Or.inl (hw _ (List.mem_of_getElem? (i := 43) rfl))) (by decide) (t := .object "com/example/recency/recency/RecencyList$Link") (t' := .object "com/example/recency/recency/RecencyList$Link") (by decide) (by decide)))
  have F7_next_x := F6_next_x.same W7
  have F7_previous_cc := F6_previous_cc.other W7 (Or.inl ne_x_cc.symm)
  have F7_next_cc := F6_next_cc.other W7 (Or.inl ne_x_cc.symm)
  have Z7 : n0 ≤ h7.size := by rw [W7.size]; exact Z6
  have K7 : Keep h0 h7 [o, x, cc] := K6.wr W7 (Or.inl (List.mem_of_getElem? (i := 1) rfl))
  clear Z6 K6 E6_o E6_x E6_cc F6_first_o F6_last_o F6_previous_x F6_next_x F6_previous_cc F6_next_cc W7
  have N7 := Fr.snoc X7 P6 g_x
  obtain ⟨lc7, Y7, P7⟩ := own_hide X7 N7
  clear X7 N7
  clear Y6 e6
  refine own_st st7 ?_
  clear st7
  show own_Go p e below _ T7 (mkF m 83 #[rv o, rv x, .val .null, rv cc] [])
  refine own_ret Y7 hx Bd.notSynchronized Bd.returns (hb hby own_de_83) (by decide) (by decide) ?_
  rw [e7]
  exact ⟨rfl, P7, K7, F7_first_o, F7_last_o, F7_previous_x, F7_next_x, F7_previous_cc, F7_next_cc⟩
theorem own_ef_rem10N (m : MethodId) (x0 : Addr) (x1 : Addr) : entryFrame m #[(.ref x0), (.ref x1)] 4 = mkF m 0 #[.val (.ref x0), .val (.ref x1), .unset, .unset] [] := by first | (simp [entryFrame, mkF, argsToLocals, Value.category]; done) | rfl
def own_Q_rem10N (Z : State) (o : Addr) (x : Addr) (b : Addr) (f : Addr) (h0 : Heap) (n0 : Nat) (v : Option Value) (h : Heap) (L : List Loc) : Prop := v = none ∧ Fr n0 L ∧ Keep h0 h [o, x, b] ∧ Fld Z h o "com/example/recency/recency/RecencyList" "first" "Lcom/example/recency/recency/RecencyList$Link;" (.ref f) ∧ Fld Z h o "com/example/recency/recency/RecencyList" "last" "Lcom/example/recency/recency/RecencyList$Link;" (.ref b) ∧ Fld Z h x "com/example/recency/recency/RecencyList$Link" "previous" "Lcom/example/recency/recency/RecencyList$Link;" .null ∧ Fld Z h x "com/example/recency/recency/RecencyList$Link" "next" "Lcom/example/recency/recency/RecencyList$Link;" .null ∧ Fld Z h b "com/example/recency/recency/RecencyList$Link" "previous" "Lcom/example/recency/recency/RecencyList$Link;" .null ∧ Fld Z h b "com/example/recency/recency/RecencyList$Link" "next" "Lcom/example/recency/recency/RecencyList$Link;" .null
set_option maxRecDepth 65536 in
set_option maxHeartbeats 40000000 in
theorem own_rm_rem10N (l : Launch) (Z : State) (a0 : Array Value) (hw : ∀ d ∈ tables_1, d.before a0 Z = true) (ws : List Jvm.Cond) (o : Addr) (x : Addr) (b : Addr) (f : Addr) (h0 : Heap) (n0 : Nat) (Z0 : n0 ≤ h0.size) (S_A : Sta Z h0 "com/example/recency/recency/RecencyList" "$assertionsDisabled" "Z" (.int (1 : Int32))) (E_o : Exa Z h0 o "com/example/recency/recency/RecencyList") (E_x : Exa Z h0 x "com/example/recency/recency/RecencyListRemovePinLaw") (E_b : Exa Z h0 b "com/example/recency/recency/RecencyListRemovePinLaw") (F_first_o : Fld Z h0 o "com/example/recency/recency/RecencyList" "first" "Lcom/example/recency/recency/RecencyList$Link;" (.ref f)) (F_last_o : Fld Z h0 o "com/example/recency/recency/RecencyList" "last" "Lcom/example/recency/recency/RecencyList$Link;" (.ref x)) (F_previous_x : Fld Z h0 x "com/example/recency/recency/RecencyList$Link" "previous" "Lcom/example/recency/recency/RecencyList$Link;" (.ref b)) (F_next_x : Fld Z h0 x "com/example/recency/recency/RecencyList$Link" "next" "Lcom/example/recency/recency/RecencyList$Link;" .null) (F_previous_b : Fld Z h0 b "com/example/recency/recency/RecencyList$Link" "previous" "Lcom/example/recency/recency/RecencyList$Link;" .null) (F_next_b : Fld Z h0 b "com/example/recency/recency/RecencyList$Link" "next" "Lcom/example/recency/recency/RecencyList$Link;" (.ref x)) (g_o : n0 ≤ o) (g_x : n0 ≤ x) (g_b : n0 ≤ b) (ne_o_x : o ≠ x) (ne_o_b : o ≠ b) (ne_x_b : x ≠ b) :
    MetFree l (⟨"com/example/recency/recency/RecencyList", "remove", "(Lcom/example/recency/recency/RecencyList$Link;)V"⟩ : MethodName) (head1 (Jvm.Cond.code (⟨"com/example/recency/recency/RecencyList", "remove", "(Lcom/example/recency/recency/RecencyList$Link;)V"⟩ : MethodName) prog_22_method_5_code 4 none :: ws) ({ frames := 0, cells := 0, slots := 0, locals := 0 } : Room)) (fun zz U => zz = #[(.ref o), (.ref x)] ∧ Z.Warmed39 U.vm ∧ U.heap = h0) (fun _ _ _ _ _ => True) (fun _ U zo U' => ∃ v L, zo = .returned v ∧ own_Q_rem10N Z o x b f h0 n0 v U'.heap L ∧ FrameEnd U zo U' L ({ frames := 0, cells := 0, slots := 0, locals := 0 } : Room).cells ({ frames := 0, cells := 0, slots := 0, locals := 0 } : Room).slots) := by
  refine MetFree.of_bodySF (plainFor_of_name own_pn1) hisR ?_
  intro p e s m args below meth c s₁ Bd hml0 hP hK
  obtain ⟨rfl, hZ, hh⟩ := hP
  have hx := Bd.exec
  have hby := Bd.bytes
  have hml : c.maxLocals = 4 := hml0
  have hown : s.vm.findClass "com/example/recency/recency/RecencyList" = some m.cls := findClass_of_methodNamed Bd.named
  have hnm := (name_of_methodNamed Bd.named Bd.method).1
  have X0 : Stand p l e ({ frames := 0, cells := 0, slots := 0, locals := 0 } : Room) s m #[(.ref o), (.ref x)] below meth c s₁ [] 0 0 := Stand.of_body Bd
  have e0 : s₁.heap = h0 := by rw [← hh, Bd.state]; rfl
  have N0 := Fr.nil n0
  show own_Go p e below (own_K s (own_Q_rem10N Z o x b f h0 n0) ({ frames := 0, cells := 0, slots := 0, locals := 0 } : Room).cells ({ frames := 0, cells := 0, slots := 0, locals := 0 } : Room).slots) s₁ (entryFrame m #[(.ref o), (.ref x)] 4)
  rw [own_ef_rem10N m o x]
  show own_Go p e below _ s₁ (mkF m 0 #[rv o, rv x, .unset, .unset] [])
  have K0 : Keep h0 h0 [o, x, b] := Keep.refl _ _
  obtain ⟨T1, X1, e1, st1⟩ := getS2 X0 hx hZ hown (host := "") (Or.inl (hw _ (List.mem_of_getElem? (i := 29) rfl))) Via.refl e0 S_A (g := (mkF m 0 #[rv o, rv x, .unset, .unset] [])) rfl (hb hby own_de_0)
  clear X0 e0
  refine own_st st1 ?_
  clear st1
  show own_Go p e below _ T1 (mkF m 3 #[rv o, rv x, .unset, .unset] [(.int 1)])
  refine own_st (fun _ k => XS.ifYes X1.here hx rfl (pc0 := 3) (pc' := 29) rfl (hb hby own_de_3) rfl (XT.i0_ne_t (by decide)) (by decide) (by decide) k) ?_
  show own_Go p e below _ T1 (mkF m 29 #[rv o, rv x, .unset, .unset] [])
  refine own_st (fun _ k => XS.aloadN X1.here hx rfl (hb hby own_de_29) rfl rfl k) ?_
  show own_Go p e below _ T1 (mkF m 30 #[rv o, rv x, .unset, .unset] [(.ref x)])
  obtain ⟨T2, X2, e2, st2⟩ := getF X1 hx hZ hown (host := "") (Or.inl (hw _ (List.mem_of_getElem? (i := 40) rfl))) Via.refl e1 F_previous_x (g := (mkF m 30 #[rv o, rv x, .unset, .unset] [(.ref x)])) rfl rfl (hb hby own_de_30)
  clear X1 e1
  refine own_st st2 ?_
  clear st2
  show own_Go p e below _ T2 (mkF m 33 #[rv o, rv x, .unset, .unset] [(.ref b)])
  refine own_st (fun _ k => XS.astoreN X2.here hx rfl (hb hby own_de_33) rfl rfl (l' := #[rv o, rv x, rv b, .unset]) rfl k) ?_
  show own_Go p e below _ T2 (mkF m 34 #[rv o, rv x, rv b, .unset] [])
  refine own_st (fun _ k => XS.aloadN X2.here hx rfl (hb hby own_de_34) rfl rfl k) ?_
  show own_Go p e below _ T2 (mkF m 35 #[rv o, rv x, rv b, .unset] [(.ref x)])
  obtain ⟨T3, X3, e3, st3⟩ := getF X2 hx hZ hown (host := "") (Or.inl (hw _ (List.mem_of_getElem? (i := 42) rfl))) Via.refl e2 F_next_x (g := (mkF m 35 #[rv o, rv x, rv b, .unset] [(.ref x)])) rfl rfl (hb hby own_de_35)
  clear X2 e2
  refine own_st st3 ?_
  clear st3
  show own_Go p e below _ T3 (mkF m 38 #[rv o, rv x, rv b, .unset] [.null])
  refine own_st (fun _ k => XS.astoreN X3.here hx rfl (hb hby own_de_38) rfl rfl (l' := #[rv o, rv x, rv b, .val .null]) rfl k) ?_
  show own_Go p e below _ T3 (mkF m 39 #[rv o, rv x, rv b, .val .null] [])
  refine own_st (fun _ k => XS.aloadN X3.here hx rfl (hb hby own_de_39) rfl rfl k) ?_
  show own_Go p e below _ T3 (mkF m 40 #[rv o, rv x, rv b, .val .null] [(.ref b)])
  refine own_st (fun _ k => XT.ifnonnullYes X3.here hx rfl (pc0 := 40) (pc' := 51) rfl (hb hby own_de_40) rfl (by decide) (by decide) k) ?_
  show own_Go p e below _ T3 (mkF m 51 #[rv o, rv x, rv b, .val .null] [])
  refine own_st (fun _ k => XS.aloadN X3.here hx rfl (hb hby own_de_51) rfl rfl k) ?_
  show own_Go p e below _ T3 (mkF m 52 #[rv o, rv x, rv b, .val .null] [(.ref b)])
  refine own_st (fun _ k => XS.aloadN X3.here hx rfl (hb hby own_de_52) rfl rfl k) ?_
  show own_Go p e below _ T3 (mkF m 53 #[rv o, rv x, rv b, .val .null] [.null, (.ref b)])
  obtain ⟨T4, h4, X4, e4, W4, st4⟩ := putF X3 hx hZ hown (host := "") (Or.inl (hw _ (List.mem_of_getElem? (i := 42) rfl))) Via.refl e3 F_next_b E_b (Or.inl (hw _ (List.mem_of_getElem? (i := 43) rfl))) (hw _ (List.mem_of_getElem? (i := 3) rfl)) (ty := .object "com/example/recency/recency/RecencyList$Link") (by decide) rfl rfl (g := (mkF m 53 #[rv o, rv x, rv b, .val .null] [.null, (.ref b)])) rfl rfl (hb hby own_de_53)
  have E4_o := E_o.wr W4
  have E4_x := E_x.wr W4
  have E4_b := E_b.wr W4
  have F4_first_o := F_first_o.other W4 (Or.inl ne_o_b)
  have F4_last_o := F_last_o.other W4 (Or.inl ne_o_b)
  have F4_previous_x := F_previous_x.other W4 (Or.inl ne_x_b)
  have F4_next_x := F_next_x.other W4 (Or.inl ne_x_b)
  have F4_previous_b := F_previous_b.other W4 (Or.inr (slot_ne (Or.inl (hw _ (List.mem_of_getElem? (i := 41) rfl))) (Or.inl (hw _ (List.mem_of_getElem? (i := 43) rfl))) (by decide) (t := .object "com/example/recency/recency/RecencyList$Link") (t' := .object "com/example/recency/recency/RecencyList$Link") (by decide) (by decide)))
  have F4_next_b := F_next_b.same W4
  have Z4 : n0 ≤ h4.size := by rw [W4.size]; exact Z0
  have K4 : Keep h0 h4 [o, x, b] := K0.wr W4 (Or.inl (List.mem_of_getElem? (i := 2) rfl))
  clear Z0 K0 E_o E_x E_b F_first_o F_last_o F_previous_x F_next_x F_previous_b F_next_b W4
  have N4 := Fr.snoc X4 N0 g_b
  obtain ⟨lc4, Y4, P4⟩ := own_hide X4 N4
  clear X4 N4
  clear X3 e3
  refine own_st st4 ?_
  clear st4
  show own_Go p e below _ T4 (mkF m 56 #[rv o, rv x, rv b, .val .null] [])
  refine own_st (fun _ k => XS.aloadN Y4.here hx rfl (hb hby own_de_56) rfl rfl k) ?_
  show own_Go p e below _ T4 (mkF m 57 #[rv o, rv x, rv b, .val .null] [.null])
  refine own_st (fun _ k => XT.ifnonnullNo Y4.here hx rfl (hb hby own_de_57) rfl k) ?_
  show own_Go p e below _ T4 (mkF m 60 #[rv o, rv x, rv b, .val .null] [])
  refine own_st (fun _ k => XS.aloadN Y4.here hx rfl (hb hby own_de_60) rfl rfl k) ?_
  show own_Go p e below _ T4 (mkF m 61 #[rv o, rv x, rv b, .val .null] [(.ref o)])
  refine own_st (fun _ k => XS.aloadN Y4.here hx rfl (hb hby own_de_61) rfl rfl k) ?_
  show own_Go p e below _ T4 (mkF m 62 #[rv o, rv x, rv b, .val .null] [(.ref b), (.ref o)])
  obtain ⟨T5, h5, X5, e5, W5, st5⟩ := putF Y4 hx hZ hown (host := "") (Or.inl (hw _ (List.mem_of_getElem? (i := 31) rfl))) Via.refl e4 F4_last_o E4_o (Or.inl (hw _ (List.mem_of_getElem? (i := 32) rfl))) (hw _ (List.mem_of_getElem? (i := 18) rfl)) (ty := .object "com/example/recency/recency/RecencyList$Link") (by decide) rfl rfl (g := (mkF m 62 #[rv o, rv x, rv b, .val .null] [(.ref b), (.ref o)])) rfl rfl (hb hby own_de_62)
  have E5_o := E4_o.wr W5
  have E5_x := E4_x.wr W5
  have E5_b := E4_b.wr W5
  have F5_first_o := F4_first_o.other W5 (Or.inr (slot_ne (Or.inl (hw _ (List.mem_of_getElem? (i := 34) rfl))) (Or.inl (hw _ (List.mem_of_getElem? (i := 32) rfl))) (by decide) (t := .object "com/example/recency/recency/RecencyList$Link") (t' := .object "com/example/recency/recency/RecencyList$Link") (by decide) (by decide)))
  have F5_last_o := F4_last_o.same W5
  have F5_previous_x := F4_previous_x.other W5 (Or.inl ne_o_x.symm)
  have F5_next_x := F4_next_x.other W5 (Or.inl ne_o_x.symm)
  have F5_previous_b := F4_previous_b.other W5 (Or.inl ne_o_b.symm)
  have F5_next_b := F4_next_b.other W5 (Or.inl ne_o_b.symm)
  have Z5 : n0 ≤ h5.size := by rw [W5.size]; exact Z4
  have K5 : Keep h0 h5 [o, x, b] := K4.wr W5 (Or.inl (List.mem_of_getElem? (i := 0) rfl))
  clear Z4 K4 E4_o E4_x E4_b F4_first_o F4_last_o F4_previous_x F4_next_x F4_previous_b F4_next_b W5
  have N5 := Fr.snoc X5 P4 g_o
  obtain ⟨lc5, Y5, P5⟩ := own_hide X5 N5
  clear X5 N5
  clear Y4 e4
  refine own_st st5 ?_
  clear st5
  show own_Go p e below _ T5 (mkF m 65 #[rv o, rv x, rv b, .val .null] [])
  refine own_st (fun _ k => XS.goto Y5.here hx rfl (pc0 := 65) (pc' := 73) rfl (hb hby own_de_65) (by decide) (by decide) k) ?_
  show own_Go p e below _ T5 (mkF m 73 #[rv o, rv x, rv b, .val .null] [])
  refine own_st (fun _ k => XS.aloadN Y5.here hx rfl (hb hby own_de_73) rfl rfl k) ?_
  show own_Go p e below _ T5 (mkF m 74 #[rv o, rv x, rv b, .val .null] [(.ref x)])
  refine own_st (fun _ k => XS.aconstNull Y5.here hx rfl (hb hby own_de_74) k) ?_
  show own_Go p e below _ T5 (mkF m 75 #[rv o, rv x, rv b, .val .null] [.null, (.ref x)])
  obtain ⟨T6, h6, X6, e6, W6, st6⟩ := putF Y5 hx hZ hown (host := "") (Or.inl (hw _ (List.mem_of_getElem? (i := 40) rfl))) Via.refl e5 F5_previous_x E5_x (Or.inl (hw _ (List.mem_of_getElem? (i := 41) rfl))) (hw _ (List.mem_of_getElem? (i := 3) rfl)) (ty := .object "com/example/recency/recency/RecencyList$Link") (by decide) rfl rfl (g := (mkF m 75 #[rv o, rv x, rv b, .val .null] [.null, (.ref x)])) rfl rfl (hb hby own_de_75)
  have E6_o := E5_o.wr W6
  have E6_x := E5_x.wr W6
  have E6_b := E5_b.wr W6
  have F6_first_o := F5_first_o.other W6 (Or.inl ne_o_x)
  have F6_last_o := F5_last_o.other W6 (Or.inl ne_o_x)
  have F6_previous_x := F5_previous_x.same W6
  have F6_next_x := F5_next_x.other W6 (Or.inr (slot_ne (Or.inl (hw _ (List.mem_of_getElem? (i := 43) rfl))) (Or.inl (hw _ (List.mem_of_getElem? (i := 41) rfl))) (by decide) (t := .object "com/example/recency/recency/RecencyList$Link") (t' := .object "com/example/recency/recency/RecencyList$Link") (by decide) (by decide)))
  have F6_previous_b := F5_previous_b.other W6 (Or.inl ne_x_b.symm)
  have F6_next_b := F5_next_b.other W6 (Or.inl ne_x_b.symm)
  have Z6 : n0 ≤ h6.size := by rw [W6.size]; exact Z5
  have K6 : Keep h0 h6 [o, x, b] := K5.wr W6 (Or.inl (List.mem_of_getElem? (i := 1) rfl))
  clear Z5 K5 E5_o E5_x E5_b F5_first_o F5_last_o F5_previous_x F5_next_x F5_previous_b F5_next_b W6
  have N6 := Fr.snoc X6 P5 g_x
  obtain ⟨lc6, Y6, P6⟩ := own_hide X6 N6
  clear X6 N6
  clear Y5 e5
  refine own_st st6 ?_
  clear st6
  show own_Go p e below _ T6 (mkF m 78 #[rv o, rv x, rv b, .val .null] [])
  refine own_st (fun _ k => XS.aloadN Y6.here hx rfl (hb hby own_de_78) rfl rfl k) ?_
  show own_Go p e below _ T6 (mkF m 79 #[rv o, rv x, rv b, .val .null] [(.ref x)])
  refine own_st (fun _ k => XS.aconstNull Y6.here hx rfl (hb hby own_de_79) k) ?_
  show own_Go p e below _ T6 (mkF m 80 #[rv o, rv x, rv b, .val .null] [.null, (.ref x)])
  obtain ⟨T7, h7, X7, e7, W7, st7⟩ := putF Y6 hx hZ hown (host := "") (Or.inl (hw _ (List.mem_of_getElem? (i := 42) rfl))) Via.refl e6 F6_next_x E6_x (Or.inl (hw _ (List.mem_of_getElem? (i := 43) rfl))) (hw _ (List.mem_of_getElem? (i := 3) rfl)) (ty := .object "com/example/recency/recency/RecencyList$Link") (by decide) rfl rfl (g := (mkF m 80 #[rv o, rv x, rv b, .val .null] [.null, (.ref x)])) rfl rfl (hb hby own_de_80)
  have E7_o := E6_o.wr W7
  have E7_x := E6_x.wr W7
  have E7_b := E6_b.wr W7
  have F7_first_o := F6_first_o.other W7 (Or.inl ne_o_x)
  have F7_last_o := F6_last_o.other W7 (Or.inl ne_o_x)
  have F7_previous_x := F6_previous_x.other W7 (Or.inr (slot_ne (Or.inl (hw _ (List.mem_of_getElem? (i := 41) rfl))) (Or.inl (hw _ (List.mem_of_getElem? (i := 43) rfl))) (by decide) (t := .object "com/example/recency/recency/RecencyList$Link") (t' := .object "com/example/recency/recency/RecencyList$Link") (by decide) (by decide)))
  have F7_next_x := F6_next_x.same W7
  have F7_previous_b := F6_previous_b.other W7 (Or.inl ne_x_b.symm)
  have F7_next_b := F6_next_b.other W7 (Or.inl ne_x_b.symm)
  have Z7 : n0 ≤ h7.size := by rw [W7.size]; exact Z6
  have K7 : Keep h0 h7 [o, x, b] := K6.wr W7 (Or.inl (List.mem_of_getElem? (i := 1) rfl))
  clear Z6 K6 E6_o E6_x E6_b F6_first_o F6_last_o F6_previous_x F6_next_x F6_previous_b F6_next_b W7
  have N7 := Fr.snoc X7 P6 g_x
  obtain ⟨lc7, Y7, P7⟩ := own_hide X7 N7
  clear X7 N7
  clear Y6 e6
  refine own_st st7 ?_
  clear st7
  show own_Go p e below _ T7 (mkF m 83 #[rv o, rv x, rv b, .val .null] [])
  refine own_ret Y7 hx Bd.notSynchronized Bd.returns (hb hby own_de_83) (by decide) (by decide) ?_
  rw [e7]
  exact ⟨rfl, P7, K7, F7_first_o, F7_last_o, F7_previous_x, F7_next_x, F7_previous_b, F7_next_b⟩
theorem own_ef_rem10D (m : MethodId) (x0 : Addr) (x1 : Addr) : entryFrame m #[(.ref x0), (.ref x1)] 4 = mkF m 0 #[.val (.ref x0), .val (.ref x1), .unset, .unset] [] := by first | (simp [entryFrame, mkF, argsToLocals, Value.category]; done) | rfl
def own_Q_rem10D (Z : State) (o : Addr) (x : Addr) (b : Addr) (f : Addr) (d : Addr) (h0 : Heap) (n0 : Nat) (v : Option Value) (h : Heap) (L : List Loc) : Prop := v = none ∧ Fr n0 L ∧ Keep h0 h [o, x, b] ∧ Fld Z h o "com/example/recency/recency/RecencyList" "first" "Lcom/example/recency/recency/RecencyList$Link;" (.ref f) ∧ Fld Z h o "com/example/recency/recency/RecencyList" "last" "Lcom/example/recency/recency/RecencyList$Link;" (.ref b) ∧ Fld Z h x "com/example/recency/recency/RecencyList$Link" "previous" "Lcom/example/recency/recency/RecencyList$Link;" .null ∧ Fld Z h x "com/example/recency/recency/RecencyList$Link" "next" "Lcom/example/recency/recency/RecencyList$Link;" .null ∧ Fld Z h b "com/example/recency/recency/RecencyList$Link" "previous" "Lcom/example/recency/recency/RecencyList$Link;" (.ref d) ∧ Fld Z h b "com/example/recency/recency/RecencyList$Link" "next" "Lcom/example/recency/recency/RecencyList$Link;" .null
set_option maxRecDepth 65536 in
set_option maxHeartbeats 40000000 in
theorem own_rm_rem10D (l : Launch) (Z : State) (a0 : Array Value) (hw : ∀ d ∈ tables_1, d.before a0 Z = true) (ws : List Jvm.Cond) (o : Addr) (x : Addr) (b : Addr) (f : Addr) (d : Addr) (h0 : Heap) (n0 : Nat) (Z0 : n0 ≤ h0.size) (S_A : Sta Z h0 "com/example/recency/recency/RecencyList" "$assertionsDisabled" "Z" (.int (1 : Int32))) (E_o : Exa Z h0 o "com/example/recency/recency/RecencyList") (E_x : Exa Z h0 x "com/example/recency/recency/RecencyListRemovePinLaw") (E_b : Exa Z h0 b "com/example/recency/recency/RecencyListRemovePinLaw") (F_first_o : Fld Z h0 o "com/example/recency/recency/RecencyList" "first" "Lcom/example/recency/recency/RecencyList$Link;" (.ref f)) (F_last_o : Fld Z h0 o "com/example/recency/recency/RecencyList" "last" "Lcom/example/recency/recency/RecencyList$Link;" (.ref x)) (F_previous_x : Fld Z h0 x "com/example/recency/recency/RecencyList$Link" "previous" "Lcom/example/recency/recency/RecencyList$Link;" (.ref b)) (F_next_x : Fld Z h0 x "com/example/recency/recency/RecencyList$Link" "next" "Lcom/example/recency/recency/RecencyList$Link;" .null) (F_previous_b : Fld Z h0 b "com/example/recency/recency/RecencyList$Link" "previous" "Lcom/example/recency/recency/RecencyList$Link;" (.ref d)) (F_next_b : Fld Z h0 b "com/example/recency/recency/RecencyList$Link" "next" "Lcom/example/recency/recency/RecencyList$Link;" (.ref x)) (g_o : n0 ≤ o) (g_x : n0 ≤ x) (g_b : n0 ≤ b) (ne_o_x : o ≠ x) (ne_o_b : o ≠ b) (ne_x_b : x ≠ b) :
    MetFree l (⟨"com/example/recency/recency/RecencyList", "remove", "(Lcom/example/recency/recency/RecencyList$Link;)V"⟩ : MethodName) (head1 (Jvm.Cond.code (⟨"com/example/recency/recency/RecencyList", "remove", "(Lcom/example/recency/recency/RecencyList$Link;)V"⟩ : MethodName) prog_22_method_5_code 4 none :: ws) ({ frames := 0, cells := 0, slots := 0, locals := 0 } : Room)) (fun zz U => zz = #[(.ref o), (.ref x)] ∧ Z.Warmed39 U.vm ∧ U.heap = h0) (fun _ _ _ _ _ => True) (fun _ U zo U' => ∃ v L, zo = .returned v ∧ own_Q_rem10D Z o x b f d h0 n0 v U'.heap L ∧ FrameEnd U zo U' L ({ frames := 0, cells := 0, slots := 0, locals := 0 } : Room).cells ({ frames := 0, cells := 0, slots := 0, locals := 0 } : Room).slots) := by
  refine MetFree.of_bodySF (plainFor_of_name own_pn1) hisR ?_
  intro p e s m args below meth c s₁ Bd hml0 hP hK
  obtain ⟨rfl, hZ, hh⟩ := hP
  have hx := Bd.exec
  have hby := Bd.bytes
  have hml : c.maxLocals = 4 := hml0
  have hown : s.vm.findClass "com/example/recency/recency/RecencyList" = some m.cls := findClass_of_methodNamed Bd.named
  have hnm := (name_of_methodNamed Bd.named Bd.method).1
  have X0 : Stand p l e ({ frames := 0, cells := 0, slots := 0, locals := 0 } : Room) s m #[(.ref o), (.ref x)] below meth c s₁ [] 0 0 := Stand.of_body Bd
  have e0 : s₁.heap = h0 := by rw [← hh, Bd.state]; rfl
  have N0 := Fr.nil n0
  show own_Go p e below (own_K s (own_Q_rem10D Z o x b f d h0 n0) ({ frames := 0, cells := 0, slots := 0, locals := 0 } : Room).cells ({ frames := 0, cells := 0, slots := 0, locals := 0 } : Room).slots) s₁ (entryFrame m #[(.ref o), (.ref x)] 4)
  rw [own_ef_rem10D m o x]
  show own_Go p e below _ s₁ (mkF m 0 #[rv o, rv x, .unset, .unset] [])
  have K0 : Keep h0 h0 [o, x, b] := Keep.refl _ _
  obtain ⟨T1, X1, e1, st1⟩ := getS2 X0 hx hZ hown (host := "") (Or.inl (hw _ (List.mem_of_getElem? (i := 29) rfl))) Via.refl e0 S_A (g := (mkF m 0 #[rv o, rv x, .unset, .unset] [])) rfl (hb hby own_de_0)
  clear X0 e0
  refine own_st st1 ?_
  clear st1
  show own_Go p e below _ T1 (mkF m 3 #[rv o, rv x, .unset, .unset] [(.int 1)])
  refine own_st (fun _ k => XS.ifYes X1.here hx rfl (pc0 := 3) (pc' := 29) rfl (hb hby own_de_3) rfl (XT.i0_ne_t (by decide)) (by decide) (by decide) k) ?_
  show own_Go p e below _ T1 (mkF m 29 #[rv o, rv x, .unset, .unset] [])
  refine own_st (fun _ k => XS.aloadN X1.here hx rfl (hb hby own_de_29) rfl rfl k) ?_
  show own_Go p e below _ T1 (mkF m 30 #[rv o, rv x, .unset, .unset] [(.ref x)])
  obtain ⟨T2, X2, e2, st2⟩ := getF X1 hx hZ hown (host := "") (Or.inl (hw _ (List.mem_of_getElem? (i := 40) rfl))) Via.refl e1 F_previous_x (g := (mkF m 30 #[rv o, rv x, .unset, .unset] [(.ref x)])) rfl rfl (hb hby own_de_30)
  clear X1 e1
  refine own_st st2 ?_
  clear st2
  show own_Go p e below _ T2 (mkF m 33 #[rv o, rv x, .unset, .unset] [(.ref b)])
  refine own_st (fun _ k => XS.astoreN X2.here hx rfl (hb hby own_de_33) rfl rfl (l' := #[rv o, rv x, rv b, .unset]) rfl k) ?_
  show own_Go p e below _ T2 (mkF m 34 #[rv o, rv x, rv b, .unset] [])
  refine own_st (fun _ k => XS.aloadN X2.here hx rfl (hb hby own_de_34) rfl rfl k) ?_
  show own_Go p e below _ T2 (mkF m 35 #[rv o, rv x, rv b, .unset] [(.ref x)])
  obtain ⟨T3, X3, e3, st3⟩ := getF X2 hx hZ hown (host := "") (Or.inl (hw _ (List.mem_of_getElem? (i := 42) rfl))) Via.refl e2 F_next_x (g := (mkF m 35 #[rv o, rv x, rv b, .unset] [(.ref x)])) rfl rfl (hb hby own_de_35)
  clear X2 e2
  refine own_st st3 ?_
  clear st3
  show own_Go p e below _ T3 (mkF m 38 #[rv o, rv x, rv b, .unset] [.null])
  refine own_st (fun _ k => XS.astoreN X3.here hx rfl (hb hby own_de_38) rfl rfl (l' := #[rv o, rv x, rv b, .val .null]) rfl k) ?_
  show own_Go p e below _ T3 (mkF m 39 #[rv o, rv x, rv b, .val .null] [])
  refine own_st (fun _ k => XS.aloadN X3.here hx rfl (hb hby own_de_39) rfl rfl k) ?_
  show own_Go p e below _ T3 (mkF m 40 #[rv o, rv x, rv b, .val .null] [(.ref b)])
  refine own_st (fun _ k => XT.ifnonnullYes X3.here hx rfl (pc0 := 40) (pc' := 51) rfl (hb hby own_de_40) rfl (by decide) (by decide) k) ?_
  show own_Go p e below _ T3 (mkF m 51 #[rv o, rv x, rv b, .val .null] [])
  refine own_st (fun _ k => XS.aloadN X3.here hx rfl (hb hby own_de_51) rfl rfl k) ?_
  show own_Go p e below _ T3 (mkF m 52 #[rv o, rv x, rv b, .val .null] [(.ref b)])
  refine own_st (fun _ k => XS.aloadN X3.here hx rfl (hb hby own_de_52) rfl rfl k) ?_
  show own_Go p e below _ T3 (mkF m 53 #[rv o, rv x, rv b, .val .null] [.null, (.ref b)])
  obtain ⟨T4, h4, X4, e4, W4, st4⟩ := putF X3 hx hZ hown (host := "") (Or.inl (hw _ (List.mem_of_getElem? (i := 42) rfl))) Via.refl e3 F_next_b E_b (Or.inl (hw _ (List.mem_of_getElem? (i := 43) rfl))) (hw _ (List.mem_of_getElem? (i := 3) rfl)) (ty := .object "com/example/recency/recency/RecencyList$Link") (by decide) rfl rfl (g := (mkF m 53 #[rv o, rv x, rv b, .val .null] [.null, (.ref b)])) rfl rfl (hb hby own_de_53)
  have E4_o := E_o.wr W4
  have E4_x := E_x.wr W4
  have E4_b := E_b.wr W4
  have F4_first_o := F_first_o.other W4 (Or.inl ne_o_b)
  have F4_last_o := F_last_o.other W4 (Or.inl ne_o_b)
  have F4_previous_x := F_previous_x.other W4 (Or.inl ne_x_b)
  have F4_next_x := F_next_x.other W4 (Or.inl ne_x_b)
  have F4_previous_b := F_previous_b.other W4 (Or.inr (slot_ne (Or.inl (hw _ (List.mem_of_getElem? (i := 41) rfl))) (Or.inl (hw _ (List.mem_of_getElem? (i := 43) rfl))) (by decide) (t := .object "com/example/recency/recency/RecencyList$Link") (t' := .object "com/example/recency/recency/RecencyList$Link") (by decide) (by decide)))
  have F4_next_b := F_next_b.same W4
  have Z4 : n0 ≤ h4.size := by rw [W4.size]; exact Z0
  have K4 : Keep h0 h4 [o, x, b] := K0.wr W4 (Or.inl (List.mem_of_getElem? (i := 2) rfl))
  clear Z0 K0 E_o E_x E_b F_first_o F_last_o F_previous_x F_next_x F_previous_b F_next_b W4
  have N4 := Fr.snoc X4 N0 g_b
  obtain ⟨lc4, Y4, P4⟩ := own_hide X4 N4
  clear X4 N4
  clear X3 e3
  refine own_st st4 ?_
  clear st4
  show own_Go p e below _ T4 (mkF m 56 #[rv o, rv x, rv b, .val .null] [])
  refine own_st (fun _ k => XS.aloadN Y4.here hx rfl (hb hby own_de_56) rfl rfl k) ?_
  show own_Go p e below _ T4 (mkF m 57 #[rv o, rv x, rv b, .val .null] [.null])
  refine own_st (fun _ k => XT.ifnonnullNo Y4.here hx rfl (hb hby own_de_57) rfl k) ?_
  show own_Go p e below _ T4 (mkF m 60 #[rv o, rv x, rv b, .val .null] [])
  refine own_st (fun _ k => XS.aloadN Y4.here hx rfl (hb hby own_de_60) rfl rfl k) ?_
  show own_Go p e below _ T4 (mkF m 61 #[rv o, rv x, rv b, .val .null] [(.ref o)])
  refine own_st (fun _ k => XS.aloadN Y4.here hx rfl (hb hby own_de_61) rfl rfl k) ?_
  show own_Go p e below _ T4 (mkF m 62 #[rv o, rv x, rv b, .val .null] [(.ref b), (.ref o)])
  obtain ⟨T5, h5, X5, e5, W5, st5⟩ := putF Y4 hx hZ hown (host := "") (Or.inl (hw _ (List.mem_of_getElem? (i := 31) rfl))) Via.refl e4 F4_last_o E4_o (Or.inl (hw _ (List.mem_of_getElem? (i := 32) rfl))) (hw _ (List.mem_of_getElem? (i := 18) rfl)) (ty := .object "com/example/recency/recency/RecencyList$Link") (by decide) rfl rfl (g := (mkF m 62 #[rv o, rv x, rv b, .val .null] [(.ref b), (.ref o)])) rfl rfl (hb hby own_de_62)
  have E5_o := E4_o.wr W5
  have E5_x := E4_x.wr W5
  have E5_b := E4_b.wr W5
  have F5_first_o := F4_first_o.other W5 (Or.inr (slot_ne (Or.inl (hw _ (List.mem_of_getElem? (i := 34) rfl))) (Or.inl (hw _ (List.mem_of_getElem? (i := 32) rfl))) (by decide) (t := .object "com/example/recency/recency/RecencyList$Link") (t' := .object "com/example/recency/recency/RecencyList$Link") (by decide) (by decide)))
  have F5_last_o := F4_last_o.same W5
  have F5_previous_x := F4_previous_x.other W5 (Or.inl ne_o_x.symm)
  have F5_next_x := F4_next_x.other W5 (Or.inl ne_o_x.symm)
  have F5_previous_b := F4_previous_b.other W5 (Or.inl ne_o_b.symm)
  have F5_next_b := F4_next_b.other W5 (Or.inl ne_o_b.symm)
  have Z5 : n0 ≤ h5.size := by rw [W5.size]; exact Z4
  have K5 : Keep h0 h5 [o, x, b] := K4.wr W5 (Or.inl (List.mem_of_getElem? (i := 0) rfl))
  clear Z4 K4 E4_o E4_x E4_b F4_first_o F4_last_o F4_previous_x F4_next_x F4_previous_b F4_next_b W5
  have N5 := Fr.snoc X5 P4 g_o
  obtain ⟨lc5, Y5, P5⟩ := own_hide X5 N5
  clear X5 N5
  clear Y4 e4
  refine own_st st5 ?_
  clear st5
  show own_Go p e below _ T5 (mkF m 65 #[rv o, rv x, rv b, .val .null] [])
  refine own_st (fun _ k => XS.goto Y5.here hx rfl (pc0 := 65) (pc' := 73) rfl (hb hby own_de_65) (by decide) (by decide) k) ?_
  show own_Go p e below _ T5 (mkF m 73 #[rv o, rv x, rv b, .val .null] [])
  refine own_st (fun _ k => XS.aloadN Y5.here hx rfl (hb hby own_de_73) rfl rfl k) ?_
  show own_Go p e below _ T5 (mkF m 74 #[rv o, rv x, rv b, .val .null] [(.ref x)])
  refine own_st (fun _ k => XS.aconstNull Y5.here hx rfl (hb hby own_de_74) k) ?_
  show own_Go p e below _ T5 (mkF m 75 #[rv o, rv x, rv b, .val .null] [.null, (.ref x)])
  obtain ⟨T6, h6, X6, e6, W6, st6⟩ := putF Y5 hx hZ hown (host := "") (Or.inl (hw _ (List.mem_of_getElem? (i := 40) rfl))) Via.refl e5 F5_previous_x E5_x (Or.inl (hw _ (List.mem_of_getElem? (i := 41) rfl))) (hw _ (List.mem_of_getElem? (i := 3) rfl)) (ty := .object "com/example/recency/recency/RecencyList$Link") (by decide) rfl rfl (g := (mkF m 75 #[rv o, rv x, rv b, .val .null] [.null, (.ref x)])) rfl rfl (hb hby own_de_75)
  have E6_o := E5_o.wr W6
  have E6_x := E5_x.wr W6
  have E6_b := E5_b.wr W6
  have F6_first_o := F5_first_o.other W6 (Or.inl ne_o_x)
  have F6_last_o := F5_last_o.other W6 (Or.inl ne_o_x)
  have F6_previous_x := F5_previous_x.same W6
  have F6_next_x := F5_next_x.other W6 (Or.inr (slot_ne (Or.inl (hw _ (List.mem_of_getElem? (i := 43) rfl))) (Or.inl (hw _ (List.mem_of_getElem? (i := 41) rfl))) (by decide) (t := .object "com/example/recency/recency/RecencyList$Link") (t' := .object "com/example/recency/recency/RecencyList$Link") (by decide) (by decide)))
  have F6_previous_b := F5_previous_b.other W6 (Or.inl ne_x_b.symm)
  have F6_next_b := F5_next_b.other W6 (Or.inl ne_x_b.symm)
  have Z6 : n0 ≤ h6.size := by rw [W6.size]; exact Z5
  have K6 : Keep h0 h6 [o, x, b] := K5.wr W6 (Or.inl (List.mem_of_getElem? (i := 1) rfl))
  clear Z5 K5 E5_o E5_x E5_b F5_first_o F5_last_o F5_previous_x F5_next_x F5_previous_b F5_next_b W6
  have N6 := Fr.snoc X6 P5 g_x
  obtain ⟨lc6, Y6, P6⟩ := own_hide X6 N6
  clear X6 N6
  clear Y5 e5
  refine own_st st6 ?_
  clear st6
  show own_Go p e below _ T6 (mkF m 78 #[rv o, rv x, rv b, .val .null] [])
  refine own_st (fun _ k => XS.aloadN Y6.here hx rfl (hb hby own_de_78) rfl rfl k) ?_
  show own_Go p e below _ T6 (mkF m 79 #[rv o, rv x, rv b, .val .null] [(.ref x)])
  refine own_st (fun _ k => XS.aconstNull Y6.here hx rfl (hb hby own_de_79) k) ?_
  show own_Go p e below _ T6 (mkF m 80 #[rv o, rv x, rv b, .val .null] [.null, (.ref x)])
  obtain ⟨T7, h7, X7, e7, W7, st7⟩ := putF Y6 hx hZ hown (host := "") (Or.inl (hw _ (List.mem_of_getElem? (i := 42) rfl))) Via.refl e6 F6_next_x E6_x (Or.inl (hw _ (List.mem_of_getElem? (i := 43) rfl))) (hw _ (List.mem_of_getElem? (i := 3) rfl)) (ty := .object "com/example/recency/recency/RecencyList$Link") (by decide) rfl rfl (g := (mkF m 80 #[rv o, rv x, rv b, .val .null] [.null, (.ref x)])) rfl rfl (hb hby own_de_80)
  have E7_o := E6_o.wr W7
  have E7_x := E6_x.wr W7
  have E7_b := E6_b.wr W7
  have F7_first_o := F6_first_o.other W7 (Or.inl ne_o_x)
  have F7_last_o := F6_last_o.other W7 (Or.inl ne_o_x)
  have F7_previous_x := F6_previous_x.other W7 (Or.inr (slot_ne (Or.inl (hw _ (List.mem_of_getElem? (i := 41) rfl))) (Or.inl (hw _ (List.mem_of_getElem? (i := 43) rfl))) (by decide) (t := .object "com/example/recency/recency/RecencyList$Link") (t' := .object "com/example/recency/recency/RecencyList$Link") (by decide) (by decide)))
  have F7_next_x := F6_next_x.same W7
  have F7_previous_b := F6_previous_b.other W7 (Or.inl ne_x_b.symm)
  have F7_next_b := F6_next_b.other W7 (Or.inl ne_x_b.symm)
  have Z7 : n0 ≤ h7.size := by rw [W7.size]; exact Z6
  have K7 : Keep h0 h7 [o, x, b] := K6.wr W7 (Or.inl (List.mem_of_getElem? (i := 1) rfl))
  clear Z6 K6 E6_o E6_x E6_b F6_first_o F6_last_o F6_previous_x F6_next_x F6_previous_b F6_next_b W7
  have N7 := Fr.snoc X7 P6 g_x
  obtain ⟨lc7, Y7, P7⟩ := own_hide X7 N7
  clear X7 N7
  clear Y6 e6
  refine own_st st7 ?_
  clear st7
  show own_Go p e below _ T7 (mkF m 83 #[rv o, rv x, rv b, .val .null] [])
  refine own_ret Y7 hx Bd.notSynchronized Bd.returns (hb hby own_de_83) (by decide) (by decide) ?_
  rw [e7]
  exact ⟨rfl, P7, K7, F7_first_o, F7_last_o, F7_previous_x, F7_next_x, F7_previous_b, F7_next_b⟩
theorem own_ef_rem1100 (m : MethodId) (x0 : Addr) (x1 : Addr) : entryFrame m #[(.ref x0), (.ref x1)] 4 = mkF m 0 #[.val (.ref x0), .val (.ref x1), .unset, .unset] [] := by first | (simp [entryFrame, mkF, argsToLocals, Value.category]; done) | rfl
def own_Q_rem1100 (Z : State) (o : Addr) (x : Addr) (b : Addr) (cc : Addr) (f : Addr) (z : Addr) (h0 : Heap) (n0 : Nat) (v : Option Value) (h : Heap) (L : List Loc) : Prop := v = none ∧ Fr n0 L ∧ Keep h0 h [o, x, b, cc] ∧ Fld Z h o "com/example/recency/recency/RecencyList" "first" "Lcom/example/recency/recency/RecencyList$Link;" (.ref f) ∧ Fld Z h o "com/example/recency/recency/RecencyList" "last" "Lcom/example/recency/recency/RecencyList$Link;" (.ref z) ∧ Fld Z h x "com/example/recency/recency/RecencyList$Link" "previous" "Lcom/example/recency/recency/RecencyList$Link;" .null ∧ Fld Z h x "com/example/recency/recency/RecencyList$Link" "next" "Lcom/example/recency/recency/RecencyList$Link;" .null ∧ Fld Z h b "com/example/recency/recency/RecencyList$Link" "previous" "Lcom/example/recency/recency/RecencyList$Link;" .null ∧ Fld Z h b "com/example/recency/recency/RecencyList$Link" "next" "Lcom/example/recency/recency/RecencyList$Link;" (.ref cc) ∧ Fld Z h cc "com/example/recency/recency/RecencyList$Link" "previous" "Lcom/example/recency/recency/RecencyList$Link;" (.ref b) ∧ Fld Z h cc "com/example/recency/recency/RecencyList$Link" "next" "Lcom/example/recency/recency/RecencyList$Link;" .null
set_option maxRecDepth 65536 in
set_option maxHeartbeats 40000000 in
theorem own_rm_rem1100 (l : Launch) (Z : State) (a0 : Array Value) (hw : ∀ d ∈ tables_1, d.before a0 Z = true) (ws : List Jvm.Cond) (o : Addr) (x : Addr) (b : Addr) (cc : Addr) (f : Addr) (z : Addr) (h0 : Heap) (n0 : Nat) (Z0 : n0 ≤ h0.size) (S_A : Sta Z h0 "com/example/recency/recency/RecencyList" "$assertionsDisabled" "Z" (.int (1 : Int32))) (E_o : Exa Z h0 o "com/example/recency/recency/RecencyList") (E_x : Exa Z h0 x "com/example/recency/recency/RecencyListRemovePinLaw") (E_b : Exa Z h0 b "com/example/recency/recency/RecencyListRemovePinLaw") (E_cc : Exa Z h0 cc "com/example/recency/recency/RecencyListRemovePinLaw") (F_first_o : Fld Z h0 o "com/example/recency/recency/RecencyList" "first" "Lcom/example/recency/recency/RecencyList$Link;" (.ref f)) (F_last_o : Fld Z h0 o "com/example/recency/recency/RecencyList" "last" "Lcom/example/recency/recency/RecencyList$Link;" (.ref z)) (F_previous_x : Fld Z h0 x "com/example/recency/recency/RecencyList$Link" "previous" "Lcom/example/recency/recency/RecencyList$Link;" (.ref b)) (F_next_x : Fld Z h0 x "com/example/recency/recency/RecencyList$Link" "next" "Lcom/example/recency/recency/RecencyList$Link;" (.ref cc)) (F_previous_b : Fld Z h0 b "com/example/recency/recency/RecencyList$Link" "previous" "Lcom/example/recency/recency/RecencyList$Link;" .null) (F_next_b : Fld Z h0 b "com/example/recency/recency/RecencyList$Link" "next" "Lcom/example/recency/recency/RecencyList$Link;" (.ref x)) (F_previous_cc : Fld Z h0 cc "com/example/recency/recency/RecencyList$Link" "previous" "Lcom/example/recency/recency/RecencyList$Link;" (.ref x)) (F_next_cc : Fld Z h0 cc "com/example/recency/recency/RecencyList$Link" "next" "Lcom/example/recency/recency/RecencyList$Link;" .null) (g_o : n0 ≤ o) (g_x : n0 ≤ x) (g_b : n0 ≤ b) (g_cc : n0 ≤ cc) (ne_o_x : o ≠ x) (ne_o_b : o ≠ b) (ne_o_cc : o ≠ cc) (ne_x_b : x ≠ b) (ne_x_cc : x ≠ cc) (ne_b_cc : b ≠ cc) :
    MetFree l (⟨"com/example/recency/recency/RecencyList", "remove", "(Lcom/example/recency/recency/RecencyList$Link;)V"⟩ : MethodName) (head1 (Jvm.Cond.code (⟨"com/example/recency/recency/RecencyList", "remove", "(Lcom/example/recency/recency/RecencyList$Link;)V"⟩ : MethodName) prog_22_method_5_code 4 none :: ws) ({ frames := 0, cells := 0, slots := 0, locals := 0 } : Room)) (fun zz U => zz = #[(.ref o), (.ref x)] ∧ Z.Warmed39 U.vm ∧ U.heap = h0) (fun _ _ _ _ _ => True) (fun _ U zo U' => ∃ v L, zo = .returned v ∧ own_Q_rem1100 Z o x b cc f z h0 n0 v U'.heap L ∧ FrameEnd U zo U' L ({ frames := 0, cells := 0, slots := 0, locals := 0 } : Room).cells ({ frames := 0, cells := 0, slots := 0, locals := 0 } : Room).slots) := by
  refine MetFree.of_bodySF (plainFor_of_name own_pn1) hisR ?_
  intro p e s m args below meth c s₁ Bd hml0 hP hK
  obtain ⟨rfl, hZ, hh⟩ := hP
  have hx := Bd.exec
  have hby := Bd.bytes
  have hml : c.maxLocals = 4 := hml0
  have hown : s.vm.findClass "com/example/recency/recency/RecencyList" = some m.cls := findClass_of_methodNamed Bd.named
  have hnm := (name_of_methodNamed Bd.named Bd.method).1
  have X0 : Stand p l e ({ frames := 0, cells := 0, slots := 0, locals := 0 } : Room) s m #[(.ref o), (.ref x)] below meth c s₁ [] 0 0 := Stand.of_body Bd
  have e0 : s₁.heap = h0 := by rw [← hh, Bd.state]; rfl
  have N0 := Fr.nil n0
  show own_Go p e below (own_K s (own_Q_rem1100 Z o x b cc f z h0 n0) ({ frames := 0, cells := 0, slots := 0, locals := 0 } : Room).cells ({ frames := 0, cells := 0, slots := 0, locals := 0 } : Room).slots) s₁ (entryFrame m #[(.ref o), (.ref x)] 4)
  rw [own_ef_rem1100 m o x]
  show own_Go p e below _ s₁ (mkF m 0 #[rv o, rv x, .unset, .unset] [])
  have K0 : Keep h0 h0 [o, x, b, cc] := Keep.refl _ _
  obtain ⟨T1, X1, e1, st1⟩ := getS2 X0 hx hZ hown (host := "") (Or.inl (hw _ (List.mem_of_getElem? (i := 29) rfl))) Via.refl e0 S_A (g := (mkF m 0 #[rv o, rv x, .unset, .unset] [])) rfl (hb hby own_de_0)
  clear X0 e0
  refine own_st st1 ?_
  clear st1
  show own_Go p e below _ T1 (mkF m 3 #[rv o, rv x, .unset, .unset] [(.int 1)])
  refine own_st (fun _ k => XS.ifYes X1.here hx rfl (pc0 := 3) (pc' := 29) rfl (hb hby own_de_3) rfl (XT.i0_ne_t (by decide)) (by decide) (by decide) k) ?_
  show own_Go p e below _ T1 (mkF m 29 #[rv o, rv x, .unset, .unset] [])
  refine own_st (fun _ k => XS.aloadN X1.here hx rfl (hb hby own_de_29) rfl rfl k) ?_
  show own_Go p e below _ T1 (mkF m 30 #[rv o, rv x, .unset, .unset] [(.ref x)])
  obtain ⟨T2, X2, e2, st2⟩ := getF X1 hx hZ hown (host := "") (Or.inl (hw _ (List.mem_of_getElem? (i := 40) rfl))) Via.refl e1 F_previous_x (g := (mkF m 30 #[rv o, rv x, .unset, .unset] [(.ref x)])) rfl rfl (hb hby own_de_30)
  clear X1 e1
  refine own_st st2 ?_
  clear st2
  show own_Go p e below _ T2 (mkF m 33 #[rv o, rv x, .unset, .unset] [(.ref b)])
  refine own_st (fun _ k => XS.astoreN X2.here hx rfl (hb hby own_de_33) rfl rfl (l' := #[rv o, rv x, rv b, .unset]) rfl k) ?_
  show own_Go p e below _ T2 (mkF m 34 #[rv o, rv x, rv b, .unset] [])
  refine own_st (fun _ k => XS.aloadN X2.here hx rfl (hb hby own_de_34) rfl rfl k) ?_
  show own_Go p e below _ T2 (mkF m 35 #[rv o, rv x, rv b, .unset] [(.ref x)])
  obtain ⟨T3, X3, e3, st3⟩ := getF X2 hx hZ hown (host := "") (Or.inl (hw _ (List.mem_of_getElem? (i := 42) rfl))) Via.refl e2 F_next_x (g := (mkF m 35 #[rv o, rv x, rv b, .unset] [(.ref x)])) rfl rfl (hb hby own_de_35)
  clear X2 e2
  refine own_st st3 ?_
  clear st3
  show own_Go p e below _ T3 (mkF m 38 #[rv o, rv x, rv b, .unset] [(.ref cc)])
  refine own_st (fun _ k => XS.astoreN X3.here hx rfl (hb hby own_de_38) rfl rfl (l' := #[rv o, rv x, rv b, rv cc]) rfl k) ?_
  show own_Go p e below _ T3 (mkF m 39 #[rv o, rv x, rv b, rv cc] [])
  refine own_st (fun _ k => XS.aloadN X3.here hx rfl (hb hby own_de_39) rfl rfl k) ?_
  show own_Go p e below _ T3 (mkF m 40 #[rv o, rv x, rv b, rv cc] [(.ref b)])
  refine own_st (fun _ k => XT.ifnonnullYes X3.here hx rfl (pc0 := 40) (pc' := 51) rfl (hb hby own_de_40) rfl (by decide) (by decide) k) ?_
  show own_Go p e below _ T3 (mkF m 51 #[rv o, rv x, rv b, rv cc] [])
  refine own_st (fun _ k => XS.aloadN X3.here hx rfl (hb hby own_de_51) rfl rfl k) ?_
  show own_Go p e below _ T3 (mkF m 52 #[rv o, rv x, rv b, rv cc] [(.ref b)])
  refine own_st (fun _ k => XS.aloadN X3.here hx rfl (hb hby own_de_52) rfl rfl k) ?_
  show own_Go p e below _ T3 (mkF m 53 #[rv o, rv x, rv b, rv cc] [(.ref cc), (.ref b)])
  obtain ⟨T4, h4, X4, e4, W4, st4⟩ := putF X3 hx hZ hown (host := "") (Or.inl (hw _ (List.mem_of_getElem? (i := 42) rfl))) Via.refl e3 F_next_b E_b (Or.inl (hw _ (List.mem_of_getElem? (i := 43) rfl))) (hw _ (List.mem_of_getElem? (i := 3) rfl)) (ty := .object "com/example/recency/recency/RecencyList$Link") (by decide) rfl rfl (g := (mkF m 53 #[rv o, rv x, rv b, rv cc] [(.ref cc), (.ref b)])) rfl rfl (hb hby own_de_53)
  have E4_o := E_o.wr W4
  have E4_x := E_x.wr W4
  have E4_b := E_b.wr W4
  have E4_cc := E_cc.wr W4
  have F4_first_o := F_first_o.other W4 (Or.inl ne_o_b)
  have F4_last_o := F_last_o.other W4 (Or.inl ne_o_b)
  have F4_previous_x := F_previous_x.other W4 (Or.inl ne_x_b)
  have F4_next_x := F_next_x.other W4 (Or.inl ne_x_b)
  have F4_previous_b := F_previous_b.other W4 (Or.inr (slot_ne (Or.inl (hw _ (List.mem_of_getElem? (i := 41) rfl))) (Or.inl (hw _ (List.mem_of_getElem? (i := 43) rfl))) (by decide) (t := .object "com/example/recency/recency/RecencyList$Link") (t' := .object "com/example/recency/recency/RecencyList$Link") (by decide) (by decide)))
  have F4_next_b := F_next_b.same W4
  have F4_previous_cc := F_previous_cc.other W4 (Or.inl ne_b_cc.symm)
  have F4_next_cc := F_next_cc.other W4 (Or.inl ne_b_cc.symm)
  have Z4 : n0 ≤ h4.size := by rw [W4.size]; exact Z0
  have K4 : Keep h0 h4 [o, x, b, cc] := K0.wr W4 (Or.inl (List.mem_of_getElem? (i := 2) rfl))
  clear Z0 K0 E_o E_x E_b E_cc F_first_o F_last_o F_previous_x F_next_x F_previous_b F_next_b F_previous_cc F_next_cc W4
  have N4 := Fr.snoc X4 N0 g_b
  obtain ⟨lc4, Y4, P4⟩ := own_hide X4 N4
  clear X4 N4
  clear X3 e3
  refine own_st st4 ?_
  clear st4
  show own_Go p e below _ T4 (mkF m 56 #[rv o, rv x, rv b, rv cc] [])
  refine own_st (fun _ k => XS.aloadN Y4.here hx rfl (hb hby own_de_56) rfl rfl k) ?_
  show own_Go p e below _ T4 (mkF m 57 #[rv o, rv x, rv b, rv cc] [(.ref cc)])
  refine own_st (fun _ k => XT.ifnonnullYes Y4.here hx rfl (pc0 := 57) (pc' := 68) rfl (hb hby own_de_57) rfl (by decide) (by decide) k) ?_
  show own_Go p e below _ T4 (mkF m 68 #[rv o, rv x, rv b, rv cc] [])
  refine own_st (fun _ k => XS.aloadN Y4.here hx rfl (hb hby own_de_68) rfl rfl k) ?_
  show own_Go p e below _ T4 (mkF m 69 #[rv o, rv x, rv b, rv cc] [(.ref cc)])
  refine own_st (fun _ k => XS.aloadN Y4.here hx rfl (hb hby own_de_69) rfl rfl k) ?_
  show own_Go p e below _ T4 (mkF m 70 #[rv o, rv x, rv b, rv cc] [(.ref b), (.ref cc)])
  obtain ⟨T5, h5, X5, e5, W5, st5⟩ := putF Y4 hx hZ hown (host := "") (Or.inl (hw _ (List.mem_of_getElem? (i := 40) rfl))) Via.refl e4 F4_previous_cc E4_cc (Or.inl (hw _ (List.mem_of_getElem? (i := 41) rfl))) (hw _ (List.mem_of_getElem? (i := 3) rfl)) (ty := .object "com/example/recency/recency/RecencyList$Link") (by decide) rfl rfl (g := (mkF m 70 #[rv o, rv x, rv b, rv cc] [(.ref b), (.ref cc)])) rfl rfl (hb hby own_de_70)
  have E5_o := E4_o.wr W5
  have E5_x := E4_x.wr W5
  have E5_b := E4_b.wr W5
  have E5_cc := E4_cc.wr W5
  have F5_first_o := F4_first_o.other W5 (Or.inl ne_o_cc)
  have F5_last_o := F4_last_o.other W5 (Or.inl ne_o_cc)
  have F5_previous_x := F4_previous_x.other W5 (Or.inl ne_x_cc)
  have F5_next_x := F4_next_x.other W5 (Or.inl ne_x_cc)
  have F5_previous_b := F4_previous_b.other W5 (Or.inl ne_b_cc)
  have F5_next_b := F4_next_b.other W5 (Or.inl ne_b_cc)
  have F5_previous_cc := F4_previous_cc.same W5
  have F5_next_cc := F4_next_cc.other W5 (Or.inr (slot_ne (Or.inl (hw _ (List.mem_of_getElem? (i := 43) rfl))) (Or.inl (hw _ (List.mem_of_getElem? (i := 41) rfl))) (by decide) (t := .object "com/example/recency/recency/RecencyList$Link") (t' := .object "com/example/recency/recency/RecencyList$Link") (by decide) (by decide)))
  have Z5 : n0 ≤ h5.size := by rw [W5.size]; exact Z4
  have K5 : Keep h0 h5 [o, x, b, cc] := K4.wr W5 (Or.inl (List.mem_of_getElem? (i := 3) rfl))
  clear Z4 K4 E4_o E4_x E4_b E4_cc F4_first_o F4_last_o F4_previous_x F4_next_x F4_previous_b F4_next_b F4_previous_cc F4_next_cc W5
  have N5 := Fr.snoc X5 P4 g_cc
  obtain ⟨lc5, Y5, P5⟩ := own_hide X5 N5
  clear X5 N5
  clear Y4 e4
  refine own_st st5 ?_
  clear st5
  show own_Go p e below _ T5 (mkF m 73 #[rv o, rv x, rv b, rv cc] [])
  refine own_st (fun _ k => XS.aloadN Y5.here hx rfl (hb hby own_de_73) rfl rfl k) ?_
  show own_Go p e below _ T5 (mkF m 74 #[rv o, rv x, rv b, rv cc] [(.ref x)])
  refine own_st (fun _ k => XS.aconstNull Y5.here hx rfl (hb hby own_de_74) k) ?_
  show own_Go p e below _ T5 (mkF m 75 #[rv o, rv x, rv b, rv cc] [.null, (.ref x)])
  obtain ⟨T6, h6, X6, e6, W6, st6⟩ := putF Y5 hx hZ hown (host := "") (Or.inl (hw _ (List.mem_of_getElem? (i := 40) rfl))) Via.refl e5 F5_previous_x E5_x (Or.inl (hw _ (List.mem_of_getElem? (i := 41) rfl))) (hw _ (List.mem_of_getElem? (i := 3) rfl)) (ty := .object "com/example/recency/recency/RecencyList$Link") (by decide) rfl rfl (g := (mkF m 75 #[rv o, rv x, rv b, rv cc] [.null, (.ref x)])) rfl rfl (hb hby own_de_75)
  have E6_o := E5_o.wr W6
  have E6_x := E5_x.wr W6
  have E6_b := E5_b.wr W6
  have E6_cc := E5_cc.wr W6
  have F6_first_o := F5_first_o.other W6 (Or.inl ne_o_x)
  have F6_last_o := F5_last_o.other W6 (Or.inl ne_o_x)
  have F6_previous_x := F5_previous_x.same W6
  have F6_next_x := F5_next_x.other W6 (Or.inr (slot_ne (Or.inl (hw _ (List.mem_of_getElem? (i := 43) rfl))) (Or.inl (hw _ (List.mem_of_getElem? (i := 41) rfl))) (by decide) (t := .object "com/example/recency/recency/RecencyList$Link") (t' := .object "com/example/recency/recency/RecencyList$Link") (by decide) (by decide)))
  have F6_previous_b := F5_previous_b.other W6 (Or.inl ne_x_b.symm)
  have F6_next_b := F5_next_b.other W6 (Or.inl ne_x_b.symm)
  have F6_previous_cc := F5_previous_cc.other W6 (Or.inl ne_x_cc.symm)
  have F6_next_cc := F5_next_cc.other W6 (Or.inl ne_x_cc.symm)
  have Z6 : n0 ≤ h6.size := by rw [W6.size]; exact Z5
  have K6 : Keep h0 h6 [o, x, b, cc] := K5.wr W6 (Or.inl (List.mem_of_getElem? (i := 1) rfl))
  clear Z5 K5 E5_o E5_x E5_b E5_cc F5_first_o F5_last_o F5_previous_x F5_next_x F5_previous_b F5_next_b F5_previous_cc F5_next_cc W6
  have N6 := Fr.snoc X6 P5 g_x
  obtain ⟨lc6, Y6, P6⟩ := own_hide X6 N6
  clear X6 N6
  clear Y5 e5
  refine own_st st6 ?_
  clear st6
  show own_Go p e below _ T6 (mkF m 78 #[rv o, rv x, rv b, rv cc] [])
  refine own_st (fun _ k => XS.aloadN Y6.here hx rfl (hb hby own_de_78) rfl rfl k) ?_
  show own_Go p e below _ T6 (mkF m 79 #[rv o, rv x, rv b, rv cc] [(.ref x)])
  refine own_st (fun _ k => XS.aconstNull Y6.here hx rfl (hb hby own_de_79) k) ?_
  show own_Go p e below _ T6 (mkF m 80 #[rv o, rv x, rv b, rv cc] [.null, (.ref x)])
  obtain ⟨T7, h7, X7, e7, W7, st7⟩ := putF Y6 hx hZ hown (host := "") (Or.inl (hw _ (List.mem_of_getElem? (i := 42) rfl))) Via.refl e6 F6_next_x E6_x (Or.inl (hw _ (List.mem_of_getElem? (i := 43) rfl))) (hw _ (List.mem_of_getElem? (i := 3) rfl)) (ty := .object "com/example/recency/recency/RecencyList$Link") (by decide) rfl rfl (g := (mkF m 80 #[rv o, rv x, rv b, rv cc] [.null, (.ref x)])) rfl rfl (hb hby own_de_80)
  have E7_o := E6_o.wr W7
  have E7_x := E6_x.wr W7
  have E7_b := E6_b.wr W7
  have E7_cc := E6_cc.wr W7
  have F7_first_o := F6_first_o.other W7 (Or.inl ne_o_x)
  have F7_last_o := F6_last_o.other W7 (Or.inl ne_o_x)
  have F7_previous_x := F6_previous_x.other W7 (Or.inr (slot_ne (Or.inl (hw _ (List.mem_of_getElem? (i := 41) rfl))) (Or.inl (hw _ (List.mem_of_getElem? (i := 43) rfl))) (by decide) (t := .object "com/example/recency/recency/RecencyList$Link") (t' := .object "com/example/recency/recency/RecencyList$Link") (by decide) (by decide)))
  have F7_next_x := F6_next_x.same W7
  have F7_previous_b := F6_previous_b.other W7 (Or.inl ne_x_b.symm)
  have F7_next_b := F6_next_b.other W7 (Or.inl ne_x_b.symm)
  have F7_previous_cc := F6_previous_cc.other W7 (Or.inl ne_x_cc.symm)
  have F7_next_cc := F6_next_cc.other W7 (Or.inl ne_x_cc.symm)
  have Z7 : n0 ≤ h7.size := by rw [W7.size]; exact Z6
  have K7 : Keep h0 h7 [o, x, b, cc] := K6.wr W7 (Or.inl (List.mem_of_getElem? (i := 1) rfl))
  clear Z6 K6 E6_o E6_x E6_b E6_cc F6_first_o F6_last_o F6_previous_x F6_next_x F6_previous_b F6_next_b F6_previous_cc F6_next_cc W7
  have N7 := Fr.snoc X7 P6 g_x
  obtain ⟨lc7, Y7, P7⟩ := own_hide X7 N7
  clear X7 N7
  clear Y6 e6
  refine own_st st7 ?_
  clear st7
  show own_Go p e below _ T7 (mkF m 83 #[rv o, rv x, rv b, rv cc] [])
  refine own_ret Y7 hx Bd.notSynchronized Bd.returns (hb hby own_de_83) (by decide) (by decide) ?_
  rw [e7]
  exact ⟨rfl, P7, K7, F7_first_o, F7_last_o, F7_previous_x, F7_next_x, F7_previous_b, F7_next_b, F7_previous_cc, F7_next_cc⟩
theorem own_ef_rem1101 (m : MethodId) (x0 : Addr) (x1 : Addr) : entryFrame m #[(.ref x0), (.ref x1)] 4 = mkF m 0 #[.val (.ref x0), .val (.ref x1), .unset, .unset] [] := by first | (simp [entryFrame, mkF, argsToLocals, Value.category]; done) | rfl
def own_Q_rem1101 (Z : State) (o : Addr) (x : Addr) (b : Addr) (cc : Addr) (f : Addr) (z : Addr) (y : Addr) (h0 : Heap) (n0 : Nat) (v : Option Value) (h : Heap) (L : List Loc) : Prop := v = none ∧ Fr n0 L ∧ Keep h0 h [o, x, b, cc] ∧ Fld Z h o "com/example/recency/recency/RecencyList" "first" "Lcom/example/recency/recency/RecencyList$Link;" (.ref f) ∧ Fld Z h o "com/example/recency/recency/RecencyList" "last" "Lcom/example/recency/recency/RecencyList$Link;" (.ref z) ∧ Fld Z h x "com/example/recency/recency/RecencyList$Link" "previous" "Lcom/example/recency/recency/RecencyList$Link;" .null ∧ Fld Z h x "com/example/recency/recency/RecencyList$Link" "next" "Lcom/example/recency/recency/RecencyList$Link;" .null ∧ Fld Z h b "com/example/recency/recency/RecencyList$Link" "previous" "Lcom/example/recency/recency/RecencyList$Link;" .null ∧ Fld Z h b "com/example/recency/recency/RecencyList$Link" "next" "Lcom/example/recency/recency/RecencyList$Link;" (.ref cc) ∧ Fld Z h cc "com/example/recency/recency/RecencyList$Link" "previous" "Lcom/example/recency/recency/RecencyList$Link;" (.ref b) ∧ Fld Z h cc "com/example/recency/recency/RecencyList$Link" "next" "Lcom/example/recency/recency/RecencyList$Link;" (.ref y)
set_option maxRecDepth 65536 in
set_option maxHeartbeats 40000000 in
theorem own_rm_rem1101 (l : Launch) (Z : State) (a0 : Array Value) (hw : ∀ d ∈ tables_1, d.before a0 Z = true) (ws : List Jvm.Cond) (o : Addr) (x : Addr) (b : Addr) (cc : Addr) (f : Addr) (z : Addr) (y : Addr) (h0 : Heap) (n0 : Nat) (Z0 : n0 ≤ h0.size) (S_A : Sta Z h0 "com/example/recency/recency/RecencyList" "$assertionsDisabled" "Z" (.int (1 : Int32))) (E_o : Exa Z h0 o "com/example/recency/recency/RecencyList") (E_x : Exa Z h0 x "com/example/recency/recency/RecencyListRemovePinLaw") (E_b : Exa Z h0 b "com/example/recency/recency/RecencyListRemovePinLaw") (E_cc : Exa Z h0 cc "com/example/recency/recency/RecencyListRemovePinLaw") (F_first_o : Fld Z h0 o "com/example/recency/recency/RecencyList" "first" "Lcom/example/recency/recency/RecencyList$Link;" (.ref f)) (F_last_o : Fld Z h0 o "com/example/recency/recency/RecencyList" "last" "Lcom/example/recency/recency/RecencyList$Link;" (.ref z)) (F_previous_x : Fld Z h0 x "com/example/recency/recency/RecencyList$Link" "previous" "Lcom/example/recency/recency/RecencyList$Link;" (.ref b)) (F_next_x : Fld Z h0 x "com/example/recency/recency/RecencyList$Link" "next" "Lcom/example/recency/recency/RecencyList$Link;" (.ref cc)) (F_previous_b : Fld Z h0 b "com/example/recency/recency/RecencyList$Link" "previous" "Lcom/example/recency/recency/RecencyList$Link;" .null) (F_next_b : Fld Z h0 b "com/example/recency/recency/RecencyList$Link" "next" "Lcom/example/recency/recency/RecencyList$Link;" (.ref x)) (F_previous_cc : Fld Z h0 cc "com/example/recency/recency/RecencyList$Link" "previous" "Lcom/example/recency/recency/RecencyList$Link;" (.ref x)) (F_next_cc : Fld Z h0 cc "com/example/recency/recency/RecencyList$Link" "next" "Lcom/example/recency/recency/RecencyList$Link;" (.ref y)) (g_o : n0 ≤ o) (g_x : n0 ≤ x) (g_b : n0 ≤ b) (g_cc : n0 ≤ cc) (ne_o_x : o ≠ x) (ne_o_b : o ≠ b) (ne_o_cc : o ≠ cc) (ne_x_b : x ≠ b) (ne_x_cc : x ≠ cc) (ne_b_cc : b ≠ cc) :
    MetFree l (⟨"com/example/recency/recency/RecencyList", "remove", "(Lcom/example/recency/recency/RecencyList$Link;)V"⟩ : MethodName) (head1 (Jvm.Cond.code (⟨"com/example/recency/recency/RecencyList", "remove", "(Lcom/example/recency/recency/RecencyList$Link;)V"⟩ : MethodName) prog_22_method_5_code 4 none :: ws) ({ frames := 0, cells := 0, slots := 0, locals := 0 } : Room)) (fun zz U => zz = #[(.ref o), (.ref x)] ∧ Z.Warmed39 U.vm ∧ U.heap = h0) (fun _ _ _ _ _ => True) (fun _ U zo U' => ∃ v L, zo = .returned v ∧ own_Q_rem1101 Z o x b cc f z y h0 n0 v U'.heap L ∧ FrameEnd U zo U' L ({ frames := 0, cells := 0, slots := 0, locals := 0 } : Room).cells ({ frames := 0, cells := 0, slots := 0, locals := 0 } : Room).slots) := by
  refine MetFree.of_bodySF (plainFor_of_name own_pn1) hisR ?_
  intro p e s m args below meth c s₁ Bd hml0 hP hK
  obtain ⟨rfl, hZ, hh⟩ := hP
  have hx := Bd.exec
  have hby := Bd.bytes
  have hml : c.maxLocals = 4 := hml0
  have hown : s.vm.findClass "com/example/recency/recency/RecencyList" = some m.cls := findClass_of_methodNamed Bd.named
  have hnm := (name_of_methodNamed Bd.named Bd.method).1
  have X0 : Stand p l e ({ frames := 0, cells := 0, slots := 0, locals := 0 } : Room) s m #[(.ref o), (.ref x)] below meth c s₁ [] 0 0 := Stand.of_body Bd
  have e0 : s₁.heap = h0 := by rw [← hh, Bd.state]; rfl
  have N0 := Fr.nil n0
  show own_Go p e below (own_K s (own_Q_rem1101 Z o x b cc f z y h0 n0) ({ frames := 0, cells := 0, slots := 0, locals := 0 } : Room).cells ({ frames := 0, cells := 0, slots := 0, locals := 0 } : Room).slots) s₁ (entryFrame m #[(.ref o), (.ref x)] 4)
  rw [own_ef_rem1101 m o x]
  show own_Go p e below _ s₁ (mkF m 0 #[rv o, rv x, .unset, .unset] [])
  have K0 : Keep h0 h0 [o, x, b, cc] := Keep.refl _ _
  obtain ⟨T1, X1, e1, st1⟩ := getS2 X0 hx hZ hown (host := "") (Or.inl (hw _ (List.mem_of_getElem? (i := 29) rfl))) Via.refl e0 S_A (g := (mkF m 0 #[rv o, rv x, .unset, .unset] [])) rfl (hb hby own_de_0)
  clear X0 e0
  refine own_st st1 ?_
  clear st1
  show own_Go p e below _ T1 (mkF m 3 #[rv o, rv x, .unset, .unset] [(.int 1)])
  refine own_st (fun _ k => XS.ifYes X1.here hx rfl (pc0 := 3) (pc' := 29) rfl (hb hby own_de_3) rfl (XT.i0_ne_t (by decide)) (by decide) (by decide) k) ?_
  show own_Go p e below _ T1 (mkF m 29 #[rv o, rv x, .unset, .unset] [])
  refine own_st (fun _ k => XS.aloadN X1.here hx rfl (hb hby own_de_29) rfl rfl k) ?_
  show own_Go p e below _ T1 (mkF m 30 #[rv o, rv x, .unset, .unset] [(.ref x)])
  obtain ⟨T2, X2, e2, st2⟩ := getF X1 hx hZ hown (host := "") (Or.inl (hw _ (List.mem_of_getElem? (i := 40) rfl))) Via.refl e1 F_previous_x (g := (mkF m 30 #[rv o, rv x, .unset, .unset] [(.ref x)])) rfl rfl (hb hby own_de_30)
  clear X1 e1
  refine own_st st2 ?_
  clear st2
  show own_Go p e below _ T2 (mkF m 33 #[rv o, rv x, .unset, .unset] [(.ref b)])
  refine own_st (fun _ k => XS.astoreN X2.here hx rfl (hb hby own_de_33) rfl rfl (l' := #[rv o, rv x, rv b, .unset]) rfl k) ?_
  show own_Go p e below _ T2 (mkF m 34 #[rv o, rv x, rv b, .unset] [])
  refine own_st (fun _ k => XS.aloadN X2.here hx rfl (hb hby own_de_34) rfl rfl k) ?_
  show own_Go p e below _ T2 (mkF m 35 #[rv o, rv x, rv b, .unset] [(.ref x)])
  obtain ⟨T3, X3, e3, st3⟩ := getF X2 hx hZ hown (host := "") (Or.inl (hw _ (List.mem_of_getElem? (i := 42) rfl))) Via.refl e2 F_next_x (g := (mkF m 35 #[rv o, rv x, rv b, .unset] [(.ref x)])) rfl rfl (hb hby own_de_35)
  clear X2 e2
  refine own_st st3 ?_
  clear st3
  show own_Go p e below _ T3 (mkF m 38 #[rv o, rv x, rv b, .unset] [(.ref cc)])
  refine own_st (fun _ k => XS.astoreN X3.here hx rfl (hb hby own_de_38) rfl rfl (l' := #[rv o, rv x, rv b, rv cc]) rfl k) ?_
  show own_Go p e below _ T3 (mkF m 39 #[rv o, rv x, rv b, rv cc] [])
  refine own_st (fun _ k => XS.aloadN X3.here hx rfl (hb hby own_de_39) rfl rfl k) ?_
  show own_Go p e below _ T3 (mkF m 40 #[rv o, rv x, rv b, rv cc] [(.ref b)])
  refine own_st (fun _ k => XT.ifnonnullYes X3.here hx rfl (pc0 := 40) (pc' := 51) rfl (hb hby own_de_40) rfl (by decide) (by decide) k) ?_
  show own_Go p e below _ T3 (mkF m 51 #[rv o, rv x, rv b, rv cc] [])
  refine own_st (fun _ k => XS.aloadN X3.here hx rfl (hb hby own_de_51) rfl rfl k) ?_
  show own_Go p e below _ T3 (mkF m 52 #[rv o, rv x, rv b, rv cc] [(.ref b)])
  refine own_st (fun _ k => XS.aloadN X3.here hx rfl (hb hby own_de_52) rfl rfl k) ?_
  show own_Go p e below _ T3 (mkF m 53 #[rv o, rv x, rv b, rv cc] [(.ref cc), (.ref b)])
  obtain ⟨T4, h4, X4, e4, W4, st4⟩ := putF X3 hx hZ hown (host := "") (Or.inl (hw _ (List.mem_of_getElem? (i := 42) rfl))) Via.refl e3 F_next_b E_b (Or.inl (hw _ (List.mem_of_getElem? (i := 43) rfl))) (hw _ (List.mem_of_getElem? (i := 3) rfl)) (ty := .object "com/example/recency/recency/RecencyList$Link") (by decide) rfl rfl (g := (mkF m 53 #[rv o, rv x, rv b, rv cc] [(.ref cc), (.ref b)])) rfl rfl (hb hby own_de_53)
  have E4_o := E_o.wr W4
  have E4_x := E_x.wr W4
  have E4_b := E_b.wr W4
  have E4_cc := E_cc.wr W4
  have F4_first_o := F_first_o.other W4 (Or.inl ne_o_b)
  have F4_last_o := F_last_o.other W4 (Or.inl ne_o_b)
  have F4_previous_x := F_previous_x.other W4 (Or.inl ne_x_b)
  have F4_next_x := F_next_x.other W4 (Or.inl ne_x_b)
  have F4_previous_b := F_previous_b.other W4 (Or.inr (slot_ne (Or.inl (hw _ (List.mem_of_getElem? (i := 41) rfl))) (Or.inl (hw _ (List.mem_of_getElem? (i := 43) rfl))) (by decide) (t := .object "com/example/recency/recency/RecencyList$Link") (t' := .object "com/example/recency/recency/RecencyList$Link") (by decide) (by decide)))
  have F4_next_b := F_next_b.same W4
  have F4_previous_cc := F_previous_cc.other W4 (Or.inl ne_b_cc.symm)
  have F4_next_cc := F_next_cc.other W4 (Or.inl ne_b_cc.symm)
  have Z4 : n0 ≤ h4.size := by rw [W4.size]; exact Z0
  have K4 : Keep h0 h4 [o, x, b, cc] := K0.wr W4 (Or.inl (List.mem_of_getElem? (i := 2) rfl))
  clear Z0 K0 E_o E_x E_b E_cc F_first_o F_last_o F_previous_x F_next_x F_previous_b F_next_b F_previous_cc F_next_cc W4
  have N4 := Fr.snoc X4 N0 g_b
  obtain ⟨lc4, Y4, P4⟩ := own_hide X4 N4
  clear X4 N4
  clear X3 e3
  refine own_st st4 ?_
  clear st4
  show own_Go p e below _ T4 (mkF m 56 #[rv o, rv x, rv b, rv cc] [])
  refine own_st (fun _ k => XS.aloadN Y4.here hx rfl (hb hby own_de_56) rfl rfl k) ?_
  show own_Go p e below _ T4 (mkF m 57 #[rv o, rv x, rv b, rv cc] [(.ref cc)])
  refine own_st (fun _ k => XT.ifnonnullYes Y4.here hx rfl (pc0 := 57) (pc' := 68) rfl (hb hby own_de_57) rfl (by decide) (by decide) k) ?_
  show own_Go p e below _ T4 (mkF m 68 #[rv o, rv x, rv b, rv cc] [])
  refine own_st (fun _ k => XS.aloadN Y4.here hx rfl (hb hby own_de_68) rfl rfl k) ?_
  show own_Go p e below _ T4 (mkF m 69 #[rv o, rv x, rv b, rv cc] [(.ref cc)])
  refine own_st (fun _ k => XS.aloadN Y4.here hx rfl (hb hby own_de_69) rfl rfl k) ?_
  show own_Go p e below _ T4 (mkF m 70 #[rv o, rv x, rv b, rv cc] [(.ref b), (.ref cc)])
  obtain ⟨T5, h5, X5, e5, W5, st5⟩ := putF Y4 hx hZ hown (host := "") (Or.inl (hw _ (List.mem_of_getElem? (i := 40) rfl))) Via.refl e4 F4_previous_cc E4_cc (Or.inl (hw _ (List.mem_of_getElem? (i := 41) rfl))) (hw _ (List.mem_of_getElem? (i := 3) rfl)) (ty := .object "com/example/recency/recency/RecencyList$Link") (by decide) rfl rfl (g := (mkF m 70 #[rv o, rv x, rv b, rv cc] [(.ref b), (.ref cc)])) rfl rfl (hb hby own_de_70)
  have E5_o := E4_o.wr W5
  have E5_x := E4_x.wr W5
  have E5_b := E4_b.wr W5
  have E5_cc := E4_cc.wr W5
  have F5_first_o := F4_first_o.other W5 (Or.inl ne_o_cc)
  have F5_last_o := F4_last_o.other W5 (Or.inl ne_o_cc)
  have F5_previous_x := F4_previous_x.other W5 (Or.inl ne_x_cc)
  have F5_next_x := F4_next_x.other W5 (Or.inl ne_x_cc)
  have F5_previous_b := F4_previous_b.other W5 (Or.inl ne_b_cc)
  have F5_next_b := F4_next_b.other W5 (Or.inl ne_b_cc)
  have F5_previous_cc := F4_previous_cc.same W5
  have F5_next_cc := F4_next_cc.other W5 (Or.inr (slot_ne (Or.inl (hw _ (List.mem_of_getElem? (i := 43) rfl))) (Or.inl (hw _ (List.mem_of_getElem? (i := 41) rfl))) (by decide) (t := .object "com/example/recency/recency/RecencyList$Link") (t' := .object "com/example/recency/recency/RecencyList$Link") (by decide) (by decide)))
  have Z5 : n0 ≤ h5.size := by rw [W5.size]; exact Z4
  have K5 : Keep h0 h5 [o, x, b, cc] := K4.wr W5 (Or.inl (List.mem_of_getElem? (i := 3) rfl))
  clear Z4 K4 E4_o E4_x E4_b E4_cc F4_first_o F4_last_o F4_previous_x F4_next_x F4_previous_b F4_next_b F4_previous_cc F4_next_cc W5
  have N5 := Fr.snoc X5 P4 g_cc
  obtain ⟨lc5, Y5, P5⟩ := own_hide X5 N5
  clear X5 N5
  clear Y4 e4
  refine own_st st5 ?_
  clear st5
  show own_Go p e below _ T5 (mkF m 73 #[rv o, rv x, rv b, rv cc] [])
  refine own_st (fun _ k => XS.aloadN Y5.here hx rfl (hb hby own_de_73) rfl rfl k) ?_
  show own_Go p e below _ T5 (mkF m 74 #[rv o, rv x, rv b, rv cc] [(.ref x)])
  refine own_st (fun _ k => XS.aconstNull Y5.here hx rfl (hb hby own_de_74) k) ?_
  show own_Go p e below _ T5 (mkF m 75 #[rv o, rv x, rv b, rv cc] [.null, (.ref x)])
  obtain ⟨T6, h6, X6, e6, W6, st6⟩ := putF Y5 hx hZ hown (host := "") (Or.inl (hw _ (List.mem_of_getElem? (i := 40) rfl))) Via.refl e5 F5_previous_x E5_x (Or.inl (hw _ (List.mem_of_getElem? (i := 41) rfl))) (hw _ (List.mem_of_getElem? (i := 3) rfl)) (ty := .object "com/example/recency/recency/RecencyList$Link") (by decide) rfl rfl (g := (mkF m 75 #[rv o, rv x, rv b, rv cc] [.null, (.ref x)])) rfl rfl (hb hby own_de_75)
  have E6_o := E5_o.wr W6
  have E6_x := E5_x.wr W6
  have E6_b := E5_b.wr W6
  have E6_cc := E5_cc.wr W6
  have F6_first_o := F5_first_o.other W6 (Or.inl ne_o_x)
  have F6_last_o := F5_last_o.other W6 (Or.inl ne_o_x)
  have F6_previous_x := F5_previous_x.same W6
  have F6_next_x := F5_next_x.other W6 (Or.inr (slot_ne (Or.inl (hw _ (List.mem_of_getElem? (i := 43) rfl))) (Or.inl (hw _ (List.mem_of_getElem? (i := 41) rfl))) (by decide) (t := .object "com/example/recency/recency/RecencyList$Link") (t' := .object "com/example/recency/recency/RecencyList$Link") (by decide) (by decide)))
  have F6_previous_b := F5_previous_b.other W6 (Or.inl ne_x_b.symm)
  have F6_next_b := F5_next_b.other W6 (Or.inl ne_x_b.symm)
  have F6_previous_cc := F5_previous_cc.other W6 (Or.inl ne_x_cc.symm)
  have F6_next_cc := F5_next_cc.other W6 (Or.inl ne_x_cc.symm)
  have Z6 : n0 ≤ h6.size := by rw [W6.size]; exact Z5
  have K6 : Keep h0 h6 [o, x, b, cc] := K5.wr W6 (Or.inl (List.mem_of_getElem? (i := 1) rfl))
  clear Z5 K5 E5_o E5_x E5_b E5_cc F5_first_o F5_last_o F5_previous_x F5_next_x F5_previous_b F5_next_b F5_previous_cc F5_next_cc W6
  have N6 := Fr.snoc X6 P5 g_x
  obtain ⟨lc6, Y6, P6⟩ := own_hide X6 N6
  clear X6 N6
  clear Y5 e5
  refine own_st st6 ?_
  clear st6
  show own_Go p e below _ T6 (mkF m 78 #[rv o, rv x, rv b, rv cc] [])
  refine own_st (fun _ k => XS.aloadN Y6.here hx rfl (hb hby own_de_78) rfl rfl k) ?_
  show own_Go p e below _ T6 (mkF m 79 #[rv o, rv x, rv b, rv cc] [(.ref x)])
  refine own_st (fun _ k => XS.aconstNull Y6.here hx rfl (hb hby own_de_79) k) ?_
  show own_Go p e below _ T6 (mkF m 80 #[rv o, rv x, rv b, rv cc] [.null, (.ref x)])
  obtain ⟨T7, h7, X7, e7, W7, st7⟩ := putF Y6 hx hZ hown (host := "") (Or.inl (hw _ (List.mem_of_getElem? (i := 42) rfl))) Via.refl e6 F6_next_x E6_x (Or.inl (hw _ (List.mem_of_getElem? (i := 43) rfl))) (hw _ (List.mem_of_getElem? (i := 3) rfl)) (ty := .object "com/example/recency/recency/RecencyList$Link") (by decide) rfl rfl (g := (mkF m 80 #[rv o, rv x, rv b, rv cc] [.null, (.ref x)])) rfl rfl (hb hby own_de_80)
  have E7_o := E6_o.wr W7
  have E7_x := E6_x.wr W7
  have E7_b := E6_b.wr W7
  have E7_cc := E6_cc.wr W7
  have F7_first_o := F6_first_o.other W7 (Or.inl ne_o_x)
  have F7_last_o := F6_last_o.other W7 (Or.inl ne_o_x)
  have F7_previous_x := F6_previous_x.other W7 (Or.inr (slot_ne (Or.inl (hw _ (List.mem_of_getElem? (i := 41) rfl))) (Or.inl (hw _ (List.mem_of_getElem? (i := 43) rfl))) (by decide) (t := .object "com/example/recency/recency/RecencyList$Link") (t' := .object "com/example/recency/recency/RecencyList$Link") (by decide) (by decide)))
  have F7_next_x := F6_next_x.same W7
  have F7_previous_b := F6_previous_b.other W7 (Or.inl ne_x_b.symm)
  have F7_next_b := F6_next_b.other W7 (Or.inl ne_x_b.symm)
  have F7_previous_cc := F6_previous_cc.other W7 (Or.inl ne_x_cc.symm)
  have F7_next_cc := F6_next_cc.other W7 (Or.inl ne_x_cc.symm)
  have Z7 : n0 ≤ h7.size := by rw [W7.size]; exact Z6
  have K7 : Keep h0 h7 [o, x, b, cc] := K6.wr W7 (Or.inl (List.mem_of_getElem? (i := 1) rfl))
  clear Z6 K6 E6_o E6_x E6_b E6_cc F6_first_o F6_last_o F6_previous_x F6_next_x F6_previous_b F6_next_b F6_previous_cc F6_next_cc W7
  have N7 := Fr.snoc X7 P6 g_x
  obtain ⟨lc7, Y7, P7⟩ := own_hide X7 N7
  clear X7 N7
  clear Y6 e6
  refine own_st st7 ?_
  clear st7
  show own_Go p e below _ T7 (mkF m 83 #[rv o, rv x, rv b, rv cc] [])
  refine own_ret Y7 hx Bd.notSynchronized Bd.returns (hb hby own_de_83) (by decide) (by decide) ?_
  rw [e7]
  exact ⟨rfl, P7, K7, F7_first_o, F7_last_o, F7_previous_x, F7_next_x, F7_previous_b, F7_next_b, F7_previous_cc, F7_next_cc⟩
theorem own_ef_rem1110 (m : MethodId) (x0 : Addr) (x1 : Addr) : entryFrame m #[(.ref x0), (.ref x1)] 4 = mkF m 0 #[.val (.ref x0), .val (.ref x1), .unset, .unset] [] := by first | (simp [entryFrame, mkF, argsToLocals, Value.category]; done) | rfl
def own_Q_rem1110 (Z : State) (o : Addr) (x : Addr) (b : Addr) (cc : Addr) (f : Addr) (z : Addr) (d : Addr) (h0 : Heap) (n0 : Nat) (v : Option Value) (h : Heap) (L : List Loc) : Prop := v = none ∧ Fr n0 L ∧ Keep h0 h [o, x, b, cc] ∧ Fld Z h o "com/example/recency/recency/RecencyList" "first" "Lcom/example/recency/recency/RecencyList$Link;" (.ref f) ∧ Fld Z h o "com/example/recency/recency/RecencyList" "last" "Lcom/example/recency/recency/RecencyList$Link;" (.ref z) ∧ Fld Z h x "com/example/recency/recency/RecencyList$Link" "previous" "Lcom/example/recency/recency/RecencyList$Link;" .null ∧ Fld Z h x "com/example/recency/recency/RecencyList$Link" "next" "Lcom/example/recency/recency/RecencyList$Link;" .null ∧ Fld Z h b "com/example/recency/recency/RecencyList$Link" "previous" "Lcom/example/recency/recency/RecencyList$Link;" (.ref d) ∧ Fld Z h b "com/example/recency/recency/RecencyList$Link" "next" "Lcom/example/recency/recency/RecencyList$Link;" (.ref cc) ∧ Fld Z h cc "com/example/recency/recency/RecencyList$Link" "previous" "Lcom/example/recency/recency/RecencyList$Link;" (.ref b) ∧ Fld Z h cc "com/example/recency/recency/RecencyList$Link" "next" "Lcom/example/recency/recency/RecencyList$Link;" .null
set_option maxRecDepth 65536 in
set_option maxHeartbeats 40000000 in
theorem own_rm_rem1110 (l : Launch) (Z : State) (a0 : Array Value) (hw : ∀ d ∈ tables_1, d.before a0 Z = true) (ws : List Jvm.Cond) (o : Addr) (x : Addr) (b : Addr) (cc : Addr) (f : Addr) (z : Addr) (d : Addr) (h0 : Heap) (n0 : Nat) (Z0 : n0 ≤ h0.size) (S_A : Sta Z h0 "com/example/recency/recency/RecencyList" "$assertionsDisabled" "Z" (.int (1 : Int32))) (E_o : Exa Z h0 o "com/example/recency/recency/RecencyList") (E_x : Exa Z h0 x "com/example/recency/recency/RecencyListRemovePinLaw") (E_b : Exa Z h0 b "com/example/recency/recency/RecencyListRemovePinLaw") (E_cc : Exa Z h0 cc "com/example/recency/recency/RecencyListRemovePinLaw") (F_first_o : Fld Z h0 o "com/example/recency/recency/RecencyList" "first" "Lcom/example/recency/recency/RecencyList$Link;" (.ref f)) (F_last_o : Fld Z h0 o "com/example/recency/recency/RecencyList" "last" "Lcom/example/recency/recency/RecencyList$Link;" (.ref z)) (F_previous_x : Fld Z h0 x "com/example/recency/recency/RecencyList$Link" "previous" "Lcom/example/recency/recency/RecencyList$Link;" (.ref b)) (F_next_x : Fld Z h0 x "com/example/recency/recency/RecencyList$Link" "next" "Lcom/example/recency/recency/RecencyList$Link;" (.ref cc)) (F_previous_b : Fld Z h0 b "com/example/recency/recency/RecencyList$Link" "previous" "Lcom/example/recency/recency/RecencyList$Link;" (.ref d)) (F_next_b : Fld Z h0 b "com/example/recency/recency/RecencyList$Link" "next" "Lcom/example/recency/recency/RecencyList$Link;" (.ref x)) (F_previous_cc : Fld Z h0 cc "com/example/recency/recency/RecencyList$Link" "previous" "Lcom/example/recency/recency/RecencyList$Link;" (.ref x)) (F_next_cc : Fld Z h0 cc "com/example/recency/recency/RecencyList$Link" "next" "Lcom/example/recency/recency/RecencyList$Link;" .null) (g_o : n0 ≤ o) (g_x : n0 ≤ x) (g_b : n0 ≤ b) (g_cc : n0 ≤ cc) (ne_o_x : o ≠ x) (ne_o_b : o ≠ b) (ne_o_cc : o ≠ cc) (ne_x_b : x ≠ b) (ne_x_cc : x ≠ cc) (ne_b_cc : b ≠ cc) :
    MetFree l (⟨"com/example/recency/recency/RecencyList", "remove", "(Lcom/example/recency/recency/RecencyList$Link;)V"⟩ : MethodName) (head1 (Jvm.Cond.code (⟨"com/example/recency/recency/RecencyList", "remove", "(Lcom/example/recency/recency/RecencyList$Link;)V"⟩ : MethodName) prog_22_method_5_code 4 none :: ws) ({ frames := 0, cells := 0, slots := 0, locals := 0 } : Room)) (fun zz U => zz = #[(.ref o), (.ref x)] ∧ Z.Warmed39 U.vm ∧ U.heap = h0) (fun _ _ _ _ _ => True) (fun _ U zo U' => ∃ v L, zo = .returned v ∧ own_Q_rem1110 Z o x b cc f z d h0 n0 v U'.heap L ∧ FrameEnd U zo U' L ({ frames := 0, cells := 0, slots := 0, locals := 0 } : Room).cells ({ frames := 0, cells := 0, slots := 0, locals := 0 } : Room).slots) := by
  refine MetFree.of_bodySF (plainFor_of_name own_pn1) hisR ?_
  intro p e s m args below meth c s₁ Bd hml0 hP hK
  obtain ⟨rfl, hZ, hh⟩ := hP
  have hx := Bd.exec
  have hby := Bd.bytes
  have hml : c.maxLocals = 4 := hml0
  have hown : s.vm.findClass "com/example/recency/recency/RecencyList" = some m.cls := findClass_of_methodNamed Bd.named
  have hnm := (name_of_methodNamed Bd.named Bd.method).1
  have X0 : Stand p l e ({ frames := 0, cells := 0, slots := 0, locals := 0 } : Room) s m #[(.ref o), (.ref x)] below meth c s₁ [] 0 0 := Stand.of_body Bd
  have e0 : s₁.heap = h0 := by rw [← hh, Bd.state]; rfl
  have N0 := Fr.nil n0
  show own_Go p e below (own_K s (own_Q_rem1110 Z o x b cc f z d h0 n0) ({ frames := 0, cells := 0, slots := 0, locals := 0 } : Room).cells ({ frames := 0, cells := 0, slots := 0, locals := 0 } : Room).slots) s₁ (entryFrame m #[(.ref o), (.ref x)] 4)
  rw [own_ef_rem1110 m o x]
  show own_Go p e below _ s₁ (mkF m 0 #[rv o, rv x, .unset, .unset] [])
  have K0 : Keep h0 h0 [o, x, b, cc] := Keep.refl _ _
  obtain ⟨T1, X1, e1, st1⟩ := getS2 X0 hx hZ hown (host := "") (Or.inl (hw _ (List.mem_of_getElem? (i := 29) rfl))) Via.refl e0 S_A (g := (mkF m 0 #[rv o, rv x, .unset, .unset] [])) rfl (hb hby own_de_0)
  clear X0 e0
  refine own_st st1 ?_
  clear st1
  show own_Go p e below _ T1 (mkF m 3 #[rv o, rv x, .unset, .unset] [(.int 1)])
  refine own_st (fun _ k => XS.ifYes X1.here hx rfl (pc0 := 3) (pc' := 29) rfl (hb hby own_de_3) rfl (XT.i0_ne_t (by decide)) (by decide) (by decide) k) ?_
  show own_Go p e below _ T1 (mkF m 29 #[rv o, rv x, .unset, .unset] [])
  refine own_st (fun _ k => XS.aloadN X1.here hx rfl (hb hby own_de_29) rfl rfl k) ?_
  show own_Go p e below _ T1 (mkF m 30 #[rv o, rv x, .unset, .unset] [(.ref x)])
  obtain ⟨T2, X2, e2, st2⟩ := getF X1 hx hZ hown (host := "") (Or.inl (hw _ (List.mem_of_getElem? (i := 40) rfl))) Via.refl e1 F_previous_x (g := (mkF m 30 #[rv o, rv x, .unset, .unset] [(.ref x)])) rfl rfl (hb hby own_de_30)
  clear X1 e1
  refine own_st st2 ?_
  clear st2
  show own_Go p e below _ T2 (mkF m 33 #[rv o, rv x, .unset, .unset] [(.ref b)])
  refine own_st (fun _ k => XS.astoreN X2.here hx rfl (hb hby own_de_33) rfl rfl (l' := #[rv o, rv x, rv b, .unset]) rfl k) ?_
  show own_Go p e below _ T2 (mkF m 34 #[rv o, rv x, rv b, .unset] [])
  refine own_st (fun _ k => XS.aloadN X2.here hx rfl (hb hby own_de_34) rfl rfl k) ?_
  show own_Go p e below _ T2 (mkF m 35 #[rv o, rv x, rv b, .unset] [(.ref x)])
  obtain ⟨T3, X3, e3, st3⟩ := getF X2 hx hZ hown (host := "") (Or.inl (hw _ (List.mem_of_getElem? (i := 42) rfl))) Via.refl e2 F_next_x (g := (mkF m 35 #[rv o, rv x, rv b, .unset] [(.ref x)])) rfl rfl (hb hby own_de_35)
  clear X2 e2
  refine own_st st3 ?_
  clear st3
  show own_Go p e below _ T3 (mkF m 38 #[rv o, rv x, rv b, .unset] [(.ref cc)])
  refine own_st (fun _ k => XS.astoreN X3.here hx rfl (hb hby own_de_38) rfl rfl (l' := #[rv o, rv x, rv b, rv cc]) rfl k) ?_
  show own_Go p e below _ T3 (mkF m 39 #[rv o, rv x, rv b, rv cc] [])
  refine own_st (fun _ k => XS.aloadN X3.here hx rfl (hb hby own_de_39) rfl rfl k) ?_
  show own_Go p e below _ T3 (mkF m 40 #[rv o, rv x, rv b, rv cc] [(.ref b)])
  refine own_st (fun _ k => XT.ifnonnullYes X3.here hx rfl (pc0 := 40) (pc' := 51) rfl (hb hby own_de_40) rfl (by decide) (by decide) k) ?_
  show own_Go p e below _ T3 (mkF m 51 #[rv o, rv x, rv b, rv cc] [])
  refine own_st (fun _ k => XS.aloadN X3.here hx rfl (hb hby own_de_51) rfl rfl k) ?_
  show own_Go p e below _ T3 (mkF m 52 #[rv o, rv x, rv b, rv cc] [(.ref b)])
  refine own_st (fun _ k => XS.aloadN X3.here hx rfl (hb hby own_de_52) rfl rfl k) ?_
  show own_Go p e below _ T3 (mkF m 53 #[rv o, rv x, rv b, rv cc] [(.ref cc), (.ref b)])
  obtain ⟨T4, h4, X4, e4, W4, st4⟩ := putF X3 hx hZ hown (host := "") (Or.inl (hw _ (List.mem_of_getElem? (i := 42) rfl))) Via.refl e3 F_next_b E_b (Or.inl (hw _ (List.mem_of_getElem? (i := 43) rfl))) (hw _ (List.mem_of_getElem? (i := 3) rfl)) (ty := .object "com/example/recency/recency/RecencyList$Link") (by decide) rfl rfl (g := (mkF m 53 #[rv o, rv x, rv b, rv cc] [(.ref cc), (.ref b)])) rfl rfl (hb hby own_de_53)
  have E4_o := E_o.wr W4
  have E4_x := E_x.wr W4
  have E4_b := E_b.wr W4
  have E4_cc := E_cc.wr W4
  have F4_first_o := F_first_o.other W4 (Or.inl ne_o_b)
  have F4_last_o := F_last_o.other W4 (Or.inl ne_o_b)
  have F4_previous_x := F_previous_x.other W4 (Or.inl ne_x_b)
  have F4_next_x := F_next_x.other W4 (Or.inl ne_x_b)
  have F4_previous_b := F_previous_b.other W4 (Or.inr (slot_ne (Or.inl (hw _ (List.mem_of_getElem? (i := 41) rfl))) (Or.inl (hw _ (List.mem_of_getElem? (i := 43) rfl))) (by decide) (t := .object "com/example/recency/recency/RecencyList$Link") (t' := .object "com/example/recency/recency/RecencyList$Link") (by decide) (by decide)))
  have F4_next_b := F_next_b.same W4
  have F4_previous_cc := F_previous_cc.other W4 (Or.inl ne_b_cc.symm)
  have F4_next_cc := F_next_cc.other W4 (Or.inl ne_b_cc.symm)
  have Z4 : n0 ≤ h4.size := by rw [W4.size]; exact Z0
  have K4 : Keep h0 h4 [o, x, b, cc] := K0.wr W4 (Or.inl (List.mem_of_getElem? (i := 2) rfl))
  clear Z0 K0 E_o E_x E_b E_cc F_first_o F_last_o F_previous_x F_next_x F_previous_b F_next_b F_previous_cc F_next_cc W4
  have N4 := Fr.snoc X4 N0 g_b
  obtain ⟨lc4, Y4, P4⟩ := own_hide X4 N4
  clear X4 N4
  clear X3 e3
  refine own_st st4 ?_
  clear st4
  show own_Go p e below _ T4 (mkF m 56 #[rv o, rv x, rv b, rv cc] [])
  refine own_st (fun _ k => XS.aloadN Y4.here hx rfl (hb hby own_de_56) rfl rfl k) ?_
  show own_Go p e below _ T4 (mkF m 57 #[rv o, rv x, rv b, rv cc] [(.ref cc)])
  refine own_st (fun _ k => XT.ifnonnullYes Y4.here hx rfl (pc0 := 57) (pc' := 68) rfl (hb hby own_de_57) rfl (by decide) (by decide) k) ?_
  show own_Go p e below _ T4 (mkF m 68 #[rv o, rv x, rv b, rv cc] [])
  refine own_st (fun _ k => XS.aloadN Y4.here hx rfl (hb hby own_de_68) rfl rfl k) ?_
  show own_Go p e below _ T4 (mkF m 69 #[rv o, rv x, rv b, rv cc] [(.ref cc)])
  refine own_st (fun _ k => XS.aloadN Y4.here hx rfl (hb hby own_de_69) rfl rfl k) ?_
  show own_Go p e below _ T4 (mkF m 70 #[rv o, rv x, rv b, rv cc] [(.ref b), (.ref cc)])
  obtain ⟨T5, h5, X5, e5, W5, st5⟩ := putF Y4 hx hZ hown (host := "") (Or.inl (hw _ (List.mem_of_getElem? (i := 40) rfl))) Via.refl e4 F4_previous_cc E4_cc (Or.inl (hw _ (List.mem_of_getElem? (i := 41) rfl))) (hw _ (List.mem_of_getElem? (i := 3) rfl)) (ty := .object "com/example/recency/recency/RecencyList$Link") (by decide) rfl rfl (g := (mkF m 70 #[rv o, rv x, rv b, rv cc] [(.ref b), (.ref cc)])) rfl rfl (hb hby own_de_70)
  have E5_o := E4_o.wr W5
  have E5_x := E4_x.wr W5
  have E5_b := E4_b.wr W5
  have E5_cc := E4_cc.wr W5
  have F5_first_o := F4_first_o.other W5 (Or.inl ne_o_cc)
  have F5_last_o := F4_last_o.other W5 (Or.inl ne_o_cc)
  have F5_previous_x := F4_previous_x.other W5 (Or.inl ne_x_cc)
  have F5_next_x := F4_next_x.other W5 (Or.inl ne_x_cc)
  have F5_previous_b := F4_previous_b.other W5 (Or.inl ne_b_cc)
  have F5_next_b := F4_next_b.other W5 (Or.inl ne_b_cc)
  have F5_previous_cc := F4_previous_cc.same W5
  have F5_next_cc := F4_next_cc.other W5 (Or.inr (slot_ne (Or.inl (hw _ (List.mem_of_getElem? (i := 43) rfl))) (Or.inl (hw _ (List.mem_of_getElem? (i := 41) rfl))) (by decide) (t := .object "com/example/recency/recency/RecencyList$Link") (t' := .object "com/example/recency/recency/RecencyList$Link") (by decide) (by decide)))
  have Z5 : n0 ≤ h5.size := by rw [W5.size]; exact Z4
  have K5 : Keep h0 h5 [o, x, b, cc] := K4.wr W5 (Or.inl (List.mem_of_getElem? (i := 3) rfl))
  clear Z4 K4 E4_o E4_x E4_b E4_cc F4_first_o F4_last_o F4_previous_x F4_next_x F4_previous_b F4_next_b F4_previous_cc F4_next_cc W5
  have N5 := Fr.snoc X5 P4 g_cc
  obtain ⟨lc5, Y5, P5⟩ := own_hide X5 N5
  clear X5 N5
  clear Y4 e4
  refine own_st st5 ?_
  clear st5
  show own_Go p e below _ T5 (mkF m 73 #[rv o, rv x, rv b, rv cc] [])
  refine own_st (fun _ k => XS.aloadN Y5.here hx rfl (hb hby own_de_73) rfl rfl k) ?_
  show own_Go p e below _ T5 (mkF m 74 #[rv o, rv x, rv b, rv cc] [(.ref x)])
  refine own_st (fun _ k => XS.aconstNull Y5.here hx rfl (hb hby own_de_74) k) ?_
  show own_Go p e below _ T5 (mkF m 75 #[rv o, rv x, rv b, rv cc] [.null, (.ref x)])
  obtain ⟨T6, h6, X6, e6, W6, st6⟩ := putF Y5 hx hZ hown (host := "") (Or.inl (hw _ (List.mem_of_getElem? (i := 40) rfl))) Via.refl e5 F5_previous_x E5_x (Or.inl (hw _ (List.mem_of_getElem? (i := 41) rfl))) (hw _ (List.mem_of_getElem? (i := 3) rfl)) (ty := .object "com/example/recency/recency/RecencyList$Link") (by decide) rfl rfl (g := (mkF m 75 #[rv o, rv x, rv b, rv cc] [.null, (.ref x)])) rfl rfl (hb hby own_de_75)
  have E6_o := E5_o.wr W6
  have E6_x := E5_x.wr W6
  have E6_b := E5_b.wr W6
  have E6_cc := E5_cc.wr W6
  have F6_first_o := F5_first_o.other W6 (Or.inl ne_o_x)
  have F6_last_o := F5_last_o.other W6 (Or.inl ne_o_x)
  have F6_previous_x := F5_previous_x.same W6
  have F6_next_x := F5_next_x.other W6 (Or.inr (slot_ne (Or.inl (hw _ (List.mem_of_getElem? (i := 43) rfl))) (Or.inl (hw _ (List.mem_of_getElem? (i := 41) rfl))) (by decide) (t := .object "com/example/recency/recency/RecencyList$Link") (t' := .object "com/example/recency/recency/RecencyList$Link") (by decide) (by decide)))
  have F6_previous_b := F5_previous_b.other W6 (Or.inl ne_x_b.symm)
  have F6_next_b := F5_next_b.other W6 (Or.inl ne_x_b.symm)
  have F6_previous_cc := F5_previous_cc.other W6 (Or.inl ne_x_cc.symm)
  have F6_next_cc := F5_next_cc.other W6 (Or.inl ne_x_cc.symm)
  have Z6 : n0 ≤ h6.size := by rw [W6.size]; exact Z5
  have K6 : Keep h0 h6 [o, x, b, cc] := K5.wr W6 (Or.inl (List.mem_of_getElem? (i := 1) rfl))
  clear Z5 K5 E5_o E5_x E5_b E5_cc F5_first_o F5_last_o F5_previous_x F5_next_x F5_previous_b F5_next_b F5_previous_cc F5_next_cc W6
  have N6 := Fr.snoc X6 P5 g_x
  obtain ⟨lc6, Y6, P6⟩ := own_hide X6 N6
  clear X6 N6
  clear Y5 e5
  refine own_st st6 ?_
  clear st6
  show own_Go p e below _ T6 (mkF m 78 #[rv o, rv x, rv b, rv cc] [])
  refine own_st (fun _ k => XS.aloadN Y6.here hx rfl (hb hby own_de_78) rfl rfl k) ?_
  show own_Go p e below _ T6 (mkF m 79 #[rv o, rv x, rv b, rv cc] [(.ref x)])
  refine own_st (fun _ k => XS.aconstNull Y6.here hx rfl (hb hby own_de_79) k) ?_
  show own_Go p e below _ T6 (mkF m 80 #[rv o, rv x, rv b, rv cc] [.null, (.ref x)])
  obtain ⟨T7, h7, X7, e7, W7, st7⟩ := putF Y6 hx hZ hown (host := "") (Or.inl (hw _ (List.mem_of_getElem? (i := 42) rfl))) Via.refl e6 F6_next_x E6_x (Or.inl (hw _ (List.mem_of_getElem? (i := 43) rfl))) (hw _ (List.mem_of_getElem? (i := 3) rfl)) (ty := .object "com/example/recency/recency/RecencyList$Link") (by decide) rfl rfl (g := (mkF m 80 #[rv o, rv x, rv b, rv cc] [.null, (.ref x)])) rfl rfl (hb hby own_de_80)
  have E7_o := E6_o.wr W7
  have E7_x := E6_x.wr W7
  have E7_b := E6_b.wr W7
  have E7_cc := E6_cc.wr W7
  have F7_first_o := F6_first_o.other W7 (Or.inl ne_o_x)
  have F7_last_o := F6_last_o.other W7 (Or.inl ne_o_x)
  have F7_previous_x := F6_previous_x.other W7 (Or.inr (slot_ne (Or.inl (hw _ (List.mem_of_getElem? (i := 41) rfl))) (Or.inl (hw _ (List.mem_of_getElem? (i := 43) rfl))) (by decide) (t := .object "com/example/recency/recency/RecencyList$Link") (t' := .object "com/example/recency/recency/RecencyList$Link") (by decide) (by decide)))
  have F7_next_x := F6_next_x.same W7
  have F7_previous_b := F6_previous_b.other W7 (Or.inl ne_x_b.symm)
  have F7_next_b := F6_next_b.other W7 (Or.inl ne_x_b.symm)
  have F7_previous_cc := F6_previous_cc.other W7 (Or.inl ne_x_cc.symm)
  have F7_next_cc := F6_next_cc.other W7 (Or.inl ne_x_cc.symm)
  have Z7 : n0 ≤ h7.size := by rw [W7.size]; exact Z6
  have K7 : Keep h0 h7 [o, x, b, cc] := K6.wr W7 (Or.inl (List.mem_of_getElem? (i := 1) rfl))
  clear Z6 K6 E6_o E6_x E6_b E6_cc F6_first_o F6_last_o F6_previous_x F6_next_x F6_previous_b F6_next_b F6_previous_cc F6_next_cc W7
  have N7 := Fr.snoc X7 P6 g_x
  obtain ⟨lc7, Y7, P7⟩ := own_hide X7 N7
  clear X7 N7
  clear Y6 e6
  refine own_st st7 ?_
  clear st7
  show own_Go p e below _ T7 (mkF m 83 #[rv o, rv x, rv b, rv cc] [])
  refine own_ret Y7 hx Bd.notSynchronized Bd.returns (hb hby own_de_83) (by decide) (by decide) ?_
  rw [e7]
  exact ⟨rfl, P7, K7, F7_first_o, F7_last_o, F7_previous_x, F7_next_x, F7_previous_b, F7_next_b, F7_previous_cc, F7_next_cc⟩
theorem own_ef_rem1111 (m : MethodId) (x0 : Addr) (x1 : Addr) : entryFrame m #[(.ref x0), (.ref x1)] 4 = mkF m 0 #[.val (.ref x0), .val (.ref x1), .unset, .unset] [] := by first | (simp [entryFrame, mkF, argsToLocals, Value.category]; done) | rfl
def own_Q_rem1111 (Z : State) (o : Addr) (x : Addr) (b : Addr) (cc : Addr) (f : Addr) (z : Addr) (d : Addr) (y : Addr) (h0 : Heap) (n0 : Nat) (v : Option Value) (h : Heap) (L : List Loc) : Prop := v = none ∧ Fr n0 L ∧ Keep h0 h [o, x, b, cc] ∧ Fld Z h o "com/example/recency/recency/RecencyList" "first" "Lcom/example/recency/recency/RecencyList$Link;" (.ref f) ∧ Fld Z h o "com/example/recency/recency/RecencyList" "last" "Lcom/example/recency/recency/RecencyList$Link;" (.ref z) ∧ Fld Z h x "com/example/recency/recency/RecencyList$Link" "previous" "Lcom/example/recency/recency/RecencyList$Link;" .null ∧ Fld Z h x "com/example/recency/recency/RecencyList$Link" "next" "Lcom/example/recency/recency/RecencyList$Link;" .null ∧ Fld Z h b "com/example/recency/recency/RecencyList$Link" "previous" "Lcom/example/recency/recency/RecencyList$Link;" (.ref d) ∧ Fld Z h b "com/example/recency/recency/RecencyList$Link" "next" "Lcom/example/recency/recency/RecencyList$Link;" (.ref cc) ∧ Fld Z h cc "com/example/recency/recency/RecencyList$Link" "previous" "Lcom/example/recency/recency/RecencyList$Link;" (.ref b) ∧ Fld Z h cc "com/example/recency/recency/RecencyList$Link" "next" "Lcom/example/recency/recency/RecencyList$Link;" (.ref y)
set_option maxRecDepth 65536 in
set_option maxHeartbeats 40000000 in
theorem own_rm_rem1111 (l : Launch) (Z : State) (a0 : Array Value) (hw : ∀ d ∈ tables_1, d.before a0 Z = true) (ws : List Jvm.Cond) (o : Addr) (x : Addr) (b : Addr) (cc : Addr) (f : Addr) (z : Addr) (d : Addr) (y : Addr) (h0 : Heap) (n0 : Nat) (Z0 : n0 ≤ h0.size) (S_A : Sta Z h0 "com/example/recency/recency/RecencyList" "$assertionsDisabled" "Z" (.int (1 : Int32))) (E_o : Exa Z h0 o "com/example/recency/recency/RecencyList") (E_x : Exa Z h0 x "com/example/recency/recency/RecencyListRemovePinLaw") (E_b : Exa Z h0 b "com/example/recency/recency/RecencyListRemovePinLaw") (E_cc : Exa Z h0 cc "com/example/recency/recency/RecencyListRemovePinLaw") (F_first_o : Fld Z h0 o "com/example/recency/recency/RecencyList" "first" "Lcom/example/recency/recency/RecencyList$Link;" (.ref f)) (F_last_o : Fld Z h0 o "com/example/recency/recency/RecencyList" "last" "Lcom/example/recency/recency/RecencyList$Link;" (.ref z)) (F_previous_x : Fld Z h0 x "com/example/recency/recency/RecencyList$Link" "previous" "Lcom/example/recency/recency/RecencyList$Link;" (.ref b)) (F_next_x : Fld Z h0 x "com/example/recency/recency/RecencyList$Link" "next" "Lcom/example/recency/recency/RecencyList$Link;" (.ref cc)) (F_previous_b : Fld Z h0 b "com/example/recency/recency/RecencyList$Link" "previous" "Lcom/example/recency/recency/RecencyList$Link;" (.ref d)) (F_next_b : Fld Z h0 b "com/example/recency/recency/RecencyList$Link" "next" "Lcom/example/recency/recency/RecencyList$Link;" (.ref x)) (F_previous_cc : Fld Z h0 cc "com/example/recency/recency/RecencyList$Link" "previous" "Lcom/example/recency/recency/RecencyList$Link;" (.ref x)) (F_next_cc : Fld Z h0 cc "com/example/recency/recency/RecencyList$Link" "next" "Lcom/example/recency/recency/RecencyList$Link;" (.ref y)) (g_o : n0 ≤ o) (g_x : n0 ≤ x) (g_b : n0 ≤ b) (g_cc : n0 ≤ cc) (ne_o_x : o ≠ x) (ne_o_b : o ≠ b) (ne_o_cc : o ≠ cc) (ne_x_b : x ≠ b) (ne_x_cc : x ≠ cc) (ne_b_cc : b ≠ cc) :
    MetFree l (⟨"com/example/recency/recency/RecencyList", "remove", "(Lcom/example/recency/recency/RecencyList$Link;)V"⟩ : MethodName) (head1 (Jvm.Cond.code (⟨"com/example/recency/recency/RecencyList", "remove", "(Lcom/example/recency/recency/RecencyList$Link;)V"⟩ : MethodName) prog_22_method_5_code 4 none :: ws) ({ frames := 0, cells := 0, slots := 0, locals := 0 } : Room)) (fun zz U => zz = #[(.ref o), (.ref x)] ∧ Z.Warmed39 U.vm ∧ U.heap = h0) (fun _ _ _ _ _ => True) (fun _ U zo U' => ∃ v L, zo = .returned v ∧ own_Q_rem1111 Z o x b cc f z d y h0 n0 v U'.heap L ∧ FrameEnd U zo U' L ({ frames := 0, cells := 0, slots := 0, locals := 0 } : Room).cells ({ frames := 0, cells := 0, slots := 0, locals := 0 } : Room).slots) := by
  refine MetFree.of_bodySF (plainFor_of_name own_pn1) hisR ?_
  intro p e s m args below meth c s₁ Bd hml0 hP hK
  obtain ⟨rfl, hZ, hh⟩ := hP
  have hx := Bd.exec
  have hby := Bd.bytes
  have hml : c.maxLocals = 4 := hml0
  have hown : s.vm.findClass "com/example/recency/recency/RecencyList" = some m.cls := findClass_of_methodNamed Bd.named
  have hnm := (name_of_methodNamed Bd.named Bd.method).1
  have X0 : Stand p l e ({ frames := 0, cells := 0, slots := 0, locals := 0 } : Room) s m #[(.ref o), (.ref x)] below meth c s₁ [] 0 0 := Stand.of_body Bd
  have e0 : s₁.heap = h0 := by rw [← hh, Bd.state]; rfl
  have N0 := Fr.nil n0
  show own_Go p e below (own_K s (own_Q_rem1111 Z o x b cc f z d y h0 n0) ({ frames := 0, cells := 0, slots := 0, locals := 0 } : Room).cells ({ frames := 0, cells := 0, slots := 0, locals := 0 } : Room).slots) s₁ (entryFrame m #[(.ref o), (.ref x)] 4)
  rw [own_ef_rem1111 m o x]
  show own_Go p e below _ s₁ (mkF m 0 #[rv o, rv x, .unset, .unset] [])
  have K0 : Keep h0 h0 [o, x, b, cc] := Keep.refl _ _
  obtain ⟨T1, X1, e1, st1⟩ := getS2 X0 hx hZ hown (host := "") (Or.inl (hw _ (List.mem_of_getElem? (i := 29) rfl))) Via.refl e0 S_A (g := (mkF m 0 #[rv o, rv x, .unset, .unset] [])) rfl (hb hby own_de_0)
  clear X0 e0
  refine own_st st1 ?_
  clear st1
  show own_Go p e below _ T1 (mkF m 3 #[rv o, rv x, .unset, .unset] [(.int 1)])
  refine own_st (fun _ k => XS.ifYes X1.here hx rfl (pc0 := 3) (pc' := 29) rfl (hb hby own_de_3) rfl (XT.i0_ne_t (by decide)) (by decide) (by decide) k) ?_
  show own_Go p e below _ T1 (mkF m 29 #[rv o, rv x, .unset, .unset] [])
  refine own_st (fun _ k => XS.aloadN X1.here hx rfl (hb hby own_de_29) rfl rfl k) ?_
  show own_Go p e below _ T1 (mkF m 30 #[rv o, rv x, .unset, .unset] [(.ref x)])
  obtain ⟨T2, X2, e2, st2⟩ := getF X1 hx hZ hown (host := "") (Or.inl (hw _ (List.mem_of_getElem? (i := 40) rfl))) Via.refl e1 F_previous_x (g := (mkF m 30 #[rv o, rv x, .unset, .unset] [(.ref x)])) rfl rfl (hb hby own_de_30)
  clear X1 e1
  refine own_st st2 ?_
  clear st2
  show own_Go p e below _ T2 (mkF m 33 #[rv o, rv x, .unset, .unset] [(.ref b)])
  refine own_st (fun _ k => XS.astoreN X2.here hx rfl (hb hby own_de_33) rfl rfl (l' := #[rv o, rv x, rv b, .unset]) rfl k) ?_
  show own_Go p e below _ T2 (mkF m 34 #[rv o, rv x, rv b, .unset] [])
  refine own_st (fun _ k => XS.aloadN X2.here hx rfl (hb hby own_de_34) rfl rfl k) ?_
  show own_Go p e below _ T2 (mkF m 35 #[rv o, rv x, rv b, .unset] [(.ref x)])
  obtain ⟨T3, X3, e3, st3⟩ := getF X2 hx hZ hown (host := "") (Or.inl (hw _ (List.mem_of_getElem? (i := 42) rfl))) Via.refl e2 F_next_x (g := (mkF m 35 #[rv o, rv x, rv b, .unset] [(.ref x)])) rfl rfl (hb hby own_de_35)
  clear X2 e2
  refine own_st st3 ?_
  clear st3
  show own_Go p e below _ T3 (mkF m 38 #[rv o, rv x, rv b, .unset] [(.ref cc)])
  refine own_st (fun _ k => XS.astoreN X3.here hx rfl (hb hby own_de_38) rfl rfl (l' := #[rv o, rv x, rv b, rv cc]) rfl k) ?_
  show own_Go p e below _ T3 (mkF m 39 #[rv o, rv x, rv b, rv cc] [])
  refine own_st (fun _ k => XS.aloadN X3.here hx rfl (hb hby own_de_39) rfl rfl k) ?_
  show own_Go p e below _ T3 (mkF m 40 #[rv o, rv x, rv b, rv cc] [(.ref b)])
  refine own_st (fun _ k => XT.ifnonnullYes X3.here hx rfl (pc0 := 40) (pc' := 51) rfl (hb hby own_de_40) rfl (by decide) (by decide) k) ?_
  show own_Go p e below _ T3 (mkF m 51 #[rv o, rv x, rv b, rv cc] [])
  refine own_st (fun _ k => XS.aloadN X3.here hx rfl (hb hby own_de_51) rfl rfl k) ?_
  show own_Go p e below _ T3 (mkF m 52 #[rv o, rv x, rv b, rv cc] [(.ref b)])
  refine own_st (fun _ k => XS.aloadN X3.here hx rfl (hb hby own_de_52) rfl rfl k) ?_
  show own_Go p e below _ T3 (mkF m 53 #[rv o, rv x, rv b, rv cc] [(.ref cc), (.ref b)])
  obtain ⟨T4, h4, X4, e4, W4, st4⟩ := putF X3 hx hZ hown (host := "") (Or.inl (hw _ (List.mem_of_getElem? (i := 42) rfl))) Via.refl e3 F_next_b E_b (Or.inl (hw _ (List.mem_of_getElem? (i := 43) rfl))) (hw _ (List.mem_of_getElem? (i := 3) rfl)) (ty := .object "com/example/recency/recency/RecencyList$Link") (by decide) rfl rfl (g := (mkF m 53 #[rv o, rv x, rv b, rv cc] [(.ref cc), (.ref b)])) rfl rfl (hb hby own_de_53)
  have E4_o := E_o.wr W4
  have E4_x := E_x.wr W4
  have E4_b := E_b.wr W4
  have E4_cc := E_cc.wr W4
  have F4_first_o := F_first_o.other W4 (Or.inl ne_o_b)
  have F4_last_o := F_last_o.other W4 (Or.inl ne_o_b)
  have F4_previous_x := F_previous_x.other W4 (Or.inl ne_x_b)
  have F4_next_x := F_next_x.other W4 (Or.inl ne_x_b)
  have F4_previous_b := F_previous_b.other W4 (Or.inr (slot_ne (Or.inl (hw _ (List.mem_of_getElem? (i := 41) rfl))) (Or.inl (hw _ (List.mem_of_getElem? (i := 43) rfl))) (by decide) (t := .object "com/example/recency/recency/RecencyList$Link") (t' := .object "com/example/recency/recency/RecencyList$Link") (by decide) (by decide)))
  have F4_next_b := F_next_b.same W4
  have F4_previous_cc := F_previous_cc.other W4 (Or.inl ne_b_cc.symm)
  have F4_next_cc := F_next_cc.other W4 (Or.inl ne_b_cc.symm)
  have Z4 : n0 ≤ h4.size := by rw [W4.size]; exact Z0
  have K4 : Keep h0 h4 [o, x, b, cc] := K0.wr W4 (Or.inl (List.mem_of_getElem? (i := 2) rfl))
  clear Z0 K0 E_o E_x E_b E_cc F_first_o F_last_o F_previous_x F_next_x F_previous_b F_next_b F_previous_cc F_next_cc W4
  have N4 := Fr.snoc X4 N0 g_b
  obtain ⟨lc4, Y4, P4⟩ := own_hide X4 N4
  clear X4 N4
  clear X3 e3
  refine own_st st4 ?_
  clear st4
  show own_Go p e below _ T4 (mkF m 56 #[rv o, rv x, rv b, rv cc] [])
  refine own_st (fun _ k => XS.aloadN Y4.here hx rfl (hb hby own_de_56) rfl rfl k) ?_
  show own_Go p e below _ T4 (mkF m 57 #[rv o, rv x, rv b, rv cc] [(.ref cc)])
  refine own_st (fun _ k => XT.ifnonnullYes Y4.here hx rfl (pc0 := 57) (pc' := 68) rfl (hb hby own_de_57) rfl (by decide) (by decide) k) ?_
  show own_Go p e below _ T4 (mkF m 68 #[rv o, rv x, rv b, rv cc] [])
  refine own_st (fun _ k => XS.aloadN Y4.here hx rfl (hb hby own_de_68) rfl rfl k) ?_
  show own_Go p e below _ T4 (mkF m 69 #[rv o, rv x, rv b, rv cc] [(.ref cc)])
  refine own_st (fun _ k => XS.aloadN Y4.here hx rfl (hb hby own_de_69) rfl rfl k) ?_
  show own_Go p e below _ T4 (mkF m 70 #[rv o, rv x, rv b, rv cc] [(.ref b), (.ref cc)])
  obtain ⟨T5, h5, X5, e5, W5, st5⟩ := putF Y4 hx hZ hown (host := "") (Or.inl (hw _ (List.mem_of_getElem? (i := 40) rfl))) Via.refl e4 F4_previous_cc E4_cc (Or.inl (hw _ (List.mem_of_getElem? (i := 41) rfl))) (hw _ (List.mem_of_getElem? (i := 3) rfl)) (ty := .object "com/example/recency/recency/RecencyList$Link") (by decide) rfl rfl (g := (mkF m 70 #[rv o, rv x, rv b, rv cc] [(.ref b), (.ref cc)])) rfl rfl (hb hby own_de_70)
  have E5_o := E4_o.wr W5
  have E5_x := E4_x.wr W5
  have E5_b := E4_b.wr W5
  have E5_cc := E4_cc.wr W5
  have F5_first_o := F4_first_o.other W5 (Or.inl ne_o_cc)
  have F5_last_o := F4_last_o.other W5 (Or.inl ne_o_cc)
  have F5_previous_x := F4_previous_x.other W5 (Or.inl ne_x_cc)
  have F5_next_x := F4_next_x.other W5 (Or.inl ne_x_cc)
  have F5_previous_b := F4_previous_b.other W5 (Or.inl ne_b_cc)
  have F5_next_b := F4_next_b.other W5 (Or.inl ne_b_cc)
  have F5_previous_cc := F4_previous_cc.same W5
  have F5_next_cc := F4_next_cc.other W5 (Or.inr (slot_ne (Or.inl (hw _ (List.mem_of_getElem? (i := 43) rfl))) (Or.inl (hw _ (List.mem_of_getElem? (i := 41) rfl))) (by decide) (t := .object "com/example/recency/recency/RecencyList$Link") (t' := .object "com/example/recency/recency/RecencyList$Link") (by decide) (by decide)))
  have Z5 : n0 ≤ h5.size := by rw [W5.size]; exact Z4
  have K5 : Keep h0 h5 [o, x, b, cc] := K4.wr W5 (Or.inl (List.mem_of_getElem? (i := 3) rfl))
  clear Z4 K4 E4_o E4_x E4_b E4_cc F4_first_o F4_last_o F4_previous_x F4_next_x F4_previous_b F4_next_b F4_previous_cc F4_next_cc W5
  have N5 := Fr.snoc X5 P4 g_cc
  obtain ⟨lc5, Y5, P5⟩ := own_hide X5 N5
  clear X5 N5
  clear Y4 e4
  refine own_st st5 ?_
  clear st5
  show own_Go p e below _ T5 (mkF m 73 #[rv o, rv x, rv b, rv cc] [])
  refine own_st (fun _ k => XS.aloadN Y5.here hx rfl (hb hby own_de_73) rfl rfl k) ?_
  show own_Go p e below _ T5 (mkF m 74 #[rv o, rv x, rv b, rv cc] [(.ref x)])
  refine own_st (fun _ k => XS.aconstNull Y5.here hx rfl (hb hby own_de_74) k) ?_
  show own_Go p e below _ T5 (mkF m 75 #[rv o, rv x, rv b, rv cc] [.null, (.ref x)])
  obtain ⟨T6, h6, X6, e6, W6, st6⟩ := putF Y5 hx hZ hown (host := "") (Or.inl (hw _ (List.mem_of_getElem? (i := 40) rfl))) Via.refl e5 F5_previous_x E5_x (Or.inl (hw _ (List.mem_of_getElem? (i := 41) rfl))) (hw _ (List.mem_of_getElem? (i := 3) rfl)) (ty := .object "com/example/recency/recency/RecencyList$Link") (by decide) rfl rfl (g := (mkF m 75 #[rv o, rv x, rv b, rv cc] [.null, (.ref x)])) rfl rfl (hb hby own_de_75)
  have E6_o := E5_o.wr W6
  have E6_x := E5_x.wr W6
  have E6_b := E5_b.wr W6
  have E6_cc := E5_cc.wr W6
  have F6_first_o := F5_first_o.other W6 (Or.inl ne_o_x)
  have F6_last_o := F5_last_o.other W6 (Or.inl ne_o_x)
  have F6_previous_x := F5_previous_x.same W6
  have F6_next_x := F5_next_x.other W6 (Or.inr (slot_ne (Or.inl (hw _ (List.mem_of_getElem? (i := 43) rfl))) (Or.inl (hw _ (List.mem_of_getElem? (i := 41) rfl))) (by decide) (t := .object "com/example/recency/recency/RecencyList$Link") (t' := .object "com/example/recency/recency/RecencyList$Link") (by decide) (by decide)))
  have F6_previous_b := F5_previous_b.other W6 (Or.inl ne_x_b.symm)
  have F6_next_b := F5_next_b.other W6 (Or.inl ne_x_b.symm)
  have F6_previous_cc := F5_previous_cc.other W6 (Or.inl ne_x_cc.symm)
  have F6_next_cc := F5_next_cc.other W6 (Or.inl ne_x_cc.symm)
  have Z6 : n0 ≤ h6.size := by rw [W6.size]; exact Z5
  have K6 : Keep h0 h6 [o, x, b, cc] := K5.wr W6 (Or.inl (List.mem_of_getElem? (i := 1) rfl))
  clear Z5 K5 E5_o E5_x E5_b E5_cc F5_first_o F5_last_o F5_previous_x F5_next_x F5_previous_b F5_next_b F5_previous_cc F5_next_cc W6
  have N6 := Fr.snoc X6 P5 g_x
  obtain ⟨lc6, Y6, P6⟩ := own_hide X6 N6
  clear X6 N6
  clear Y5 e5
  refine own_st st6 ?_
  clear st6
  show own_Go p e below _ T6 (mkF m 78 #[rv o, rv x, rv b, rv cc] [])
  refine own_st (fun _ k => XS.aloadN Y6.here hx rfl (hb hby own_de_78) rfl rfl k) ?_
  show own_Go p e below _ T6 (mkF m 79 #[rv o, rv x, rv b, rv cc] [(.ref x)])
  refine own_st (fun _ k => XS.aconstNull Y6.here hx rfl (hb hby own_de_79) k) ?_
  show own_Go p e below _ T6 (mkF m 80 #[rv o, rv x, rv b, rv cc] [.null, (.ref x)])
  obtain ⟨T7, h7, X7, e7, W7, st7⟩ := putF Y6 hx hZ hown (host := "") (Or.inl (hw _ (List.mem_of_getElem? (i := 42) rfl))) Via.refl e6 F6_next_x E6_x (Or.inl (hw _ (List.mem_of_getElem? (i := 43) rfl))) (hw _ (List.mem_of_getElem? (i := 3) rfl)) (ty := .object "com/example/recency/recency/RecencyList$Link") (by decide) rfl rfl (g := (mkF m 80 #[rv o, rv x, rv b, rv cc] [.null, (.ref x)])) rfl rfl (hb hby own_de_80)
  have E7_o := E6_o.wr W7
  have E7_x := E6_x.wr W7
  have E7_b := E6_b.wr W7
  have E7_cc := E6_cc.wr W7
  have F7_first_o := F6_first_o.other W7 (Or.inl ne_o_x)
  have F7_last_o := F6_last_o.other W7 (Or.inl ne_o_x)
  have F7_previous_x := F6_previous_x.other W7 (Or.inr (slot_ne (Or.inl (hw _ (List.mem_of_getElem? (i := 41) rfl))) (Or.inl (hw _ (List.mem_of_getElem? (i := 43) rfl))) (by decide) (t := .object "com/example/recency/recency/RecencyList$Link") (t' := .object "com/example/recency/recency/RecencyList$Link") (by decide) (by decide)))
  have F7_next_x := F6_next_x.same W7
  have F7_previous_b := F6_previous_b.other W7 (Or.inl ne_x_b.symm)
  have F7_next_b := F6_next_b.other W7 (Or.inl ne_x_b.symm)
  have F7_previous_cc := F6_previous_cc.other W7 (Or.inl ne_x_cc.symm)
  have F7_next_cc := F6_next_cc.other W7 (Or.inl ne_x_cc.symm)
  have Z7 : n0 ≤ h7.size := by rw [W7.size]; exact Z6
  have K7 : Keep h0 h7 [o, x, b, cc] := K6.wr W7 (Or.inl (List.mem_of_getElem? (i := 1) rfl))
  clear Z6 K6 E6_o E6_x E6_b E6_cc F6_first_o F6_last_o F6_previous_x F6_next_x F6_previous_b F6_next_b F6_previous_cc F6_next_cc W7
  have N7 := Fr.snoc X7 P6 g_x
  obtain ⟨lc7, Y7, P7⟩ := own_hide X7 N7
  clear X7 N7
  clear Y6 e6
  refine own_st st7 ?_
  clear st7
  show own_Go p e below _ T7 (mkF m 83 #[rv o, rv x, rv b, rv cc] [])
  refine own_ret Y7 hx Bd.notSynchronized Bd.returns (hb hby own_de_83) (by decide) (by decide) ?_
  rw [e7]
  exact ⟨rfl, P7, K7, F7_first_o, F7_last_o, F7_previous_x, F7_next_x, F7_previous_b, F7_next_b, F7_previous_cc, F7_next_cc⟩
theorem own_ef_fst (m : MethodId) (x0 : Addr) : entryFrame m #[(.ref x0)] 1 = mkF m 0 #[.val (.ref x0)] [] := by first | (simp [entryFrame, mkF, argsToLocals, Value.category]; done) | rfl
def own_Q_fst (Z : State) (o : Addr) (f : Value) (h0 : Heap) (n0 : Nat) (v : Option Value) (h : Heap) (L : List Loc) : Prop := v = some f ∧ Fr n0 L ∧ h = h0
set_option maxRecDepth 65536 in
set_option maxHeartbeats 40000000 in
theorem own_rm_fst (l : Launch) (Z : State) (a0 : Array Value) (hw : ∀ d ∈ tables_1, d.before a0 Z = true) (ws : List Jvm.Cond) (o : Addr) (f : Value) (h0 : Heap) (n0 : Nat) (Z0 : n0 ≤ h0.size) (hf : f.isRef = true) (F : Fld Z h0 o "com/example/recency/recency/RecencyList" "first" "Lcom/example/recency/recency/RecencyList$Link;" f) :
    MetFree l (⟨"com/example/recency/recency/RecencyList", "first", "()Lcom/example/recency/recency/RecencyList$Link;"⟩ : MethodName) (head1 (Jvm.Cond.code (⟨"com/example/recency/recency/RecencyList", "first", "()Lcom/example/recency/recency/RecencyList$Link;"⟩ : MethodName) prog_22_method_2_code 1 (some (.object "com/example/recency/recency/RecencyList$Link")) :: ws) ({ frames := 0, cells := 0, slots := 0, locals := 0 } : Room)) (fun zz U => zz = #[(.ref o)] ∧ Z.Warmed39 U.vm ∧ U.heap = h0) (fun _ _ _ _ _ => True) (fun _ U zo U' => ∃ v L, zo = .returned v ∧ own_Q_fst Z o f h0 n0 v U'.heap L ∧ FrameEnd U zo U' L ({ frames := 0, cells := 0, slots := 0, locals := 0 } : Room).cells ({ frames := 0, cells := 0, slots := 0, locals := 0 } : Room).slots) := by
  refine MetFree.of_bodySF (plainFor_of_name own_pn1) hisR ?_
  intro p e s m args below meth c s₁ Bd hml0 hP hK
  obtain ⟨rfl, hZ, hh⟩ := hP
  have hx := Bd.exec
  have hby := Bd.bytes
  have hml : c.maxLocals = 1 := hml0
  have hown : s.vm.findClass "com/example/recency/recency/RecencyList" = some m.cls := findClass_of_methodNamed Bd.named
  have hnm := (name_of_methodNamed Bd.named Bd.method).1
  have X0 : Stand p l e ({ frames := 0, cells := 0, slots := 0, locals := 0 } : Room) s m #[(.ref o)] below meth c s₁ [] 0 0 := Stand.of_body Bd
  have e0 : s₁.heap = h0 := by rw [← hh, Bd.state]; rfl
  have N0 := Fr.nil n0
  show own_Go p e below (own_K s (own_Q_fst Z o f h0 n0) ({ frames := 0, cells := 0, slots := 0, locals := 0 } : Room).cells ({ frames := 0, cells := 0, slots := 0, locals := 0 } : Room).slots) s₁ (entryFrame m #[(.ref o)] 1)
  rw [own_ef_fst m o]
  show own_Go p e below _ s₁ (mkF m 0 #[rv o] [])
  refine own_st (fun _ k => XS.aloadN X0.here hx rfl (hb hby own_df_0) rfl rfl k) ?_
  show own_Go p e below _ s₁ (mkF m 1 #[rv o] [(.ref o)])
  obtain ⟨T1, X1, e1, st1⟩ := getF X0 hx hZ hown (host := "") (Or.inl (hw _ (List.mem_of_getElem? (i := 33) rfl))) Via.refl e0 F (g := (mkF m 1 #[rv o] [(.ref o)])) rfl rfl (hb hby own_df_1)
  clear X0 e0
  refine own_st st1 ?_
  clear st1
  show own_Go p e below _ T1 (mkF m 4 #[rv o] [f])
  refine own_retA X1 hx Bd.notSynchronized Bd.returns rfl hf (hb hby own_df_4) (by decide) (by decide) ?_
  rw [e1]
  exact ⟨rfl, N0, rfl⟩
theorem own_ef_lk (m : MethodId) (x0 : Addr) (x1 : Int32) (x2 : Int32) : entryFrame m #[(.ref x0), (.int x1), (.int x2)] 5 = mkF m 0 #[.val (.ref x0), .val (.int x1), .val (.int x2), .unset, .unset] [] := by first | (simp [entryFrame, mkF, argsToLocals, Value.category]; done) | rfl
def own_Q_lk (Z : State) (r : Addr) (j : Int32) (m1 : Int32) (h0 : Heap) (n0 : Nat) (v : Option Value) (h : Heap) (L : List Loc) : Prop := v = some (.int 1) ∧ Fr n0 L ∧ h = h0
set_option maxRecDepth 65536 in
set_option maxHeartbeats 40000000 in
theorem own_rm_lk (l : Launch) (Z : State) (a0 : Array Value) (hw : ∀ d ∈ tables_1, d.before a0 Z = true) (ws : List Jvm.Cond) (r : Addr) (j : Int32) (m1 : Int32) (h0 : Heap) (n0 : Nat) (Z0 : n0 ≤ h0.size) (hj : ¬ j < m1) :
    MetFree l (⟨"com/example/recency/recency/RecencyListRemovePinLaw", "linked", "([Lcom/example/recency/recency/RecencyListRemovePinLaw;II)Z"⟩ : MethodName) (head1 (Jvm.Cond.code (⟨"com/example/recency/recency/RecencyListRemovePinLaw", "linked", "([Lcom/example/recency/recency/RecencyListRemovePinLaw;II)Z"⟩ : MethodName) method_3_code 5 (some .boolean) :: ws) ({ frames := 0, cells := 0, slots := 0, locals := 0 } : Room)) (fun zz U => zz = #[(.ref r), (.int j), (.int m1)] ∧ Z.Warmed39 U.vm ∧ U.heap = h0) (fun _ _ _ _ _ => True) (fun _ U zo U' => ∃ v L, zo = .returned v ∧ own_Q_lk Z r j m1 h0 n0 v U'.heap L ∧ FrameEnd U zo U' L ({ frames := 0, cells := 0, slots := 0, locals := 0 } : Room).cells ({ frames := 0, cells := 0, slots := 0, locals := 0 } : Room).slots) := by
  refine MetFree.of_bodySF (plainFor_of_name own_pn2) hisR ?_
  intro p e s m args below meth c s₁ Bd hml0 hP hK
  obtain ⟨rfl, hZ, hh⟩ := hP
  have hx := Bd.exec
  have hby := Bd.bytes
  have hml : c.maxLocals = 5 := hml0
  have hown : s.vm.findClass "com/example/recency/recency/RecencyListRemovePinLaw" = some m.cls := findClass_of_methodNamed Bd.named
  have hnm := (name_of_methodNamed Bd.named Bd.method).1
  have X0 : Stand p l e ({ frames := 0, cells := 0, slots := 0, locals := 0 } : Room) s m #[(.ref r), (.int j), (.int m1)] below meth c s₁ [] 0 0 := Stand.of_body Bd
  have e0 : s₁.heap = h0 := by rw [← hh, Bd.state]; rfl
  have N0 := Fr.nil n0
  show own_Go p e below (own_K s (own_Q_lk Z r j m1 h0 n0) ({ frames := 0, cells := 0, slots := 0, locals := 0 } : Room).cells ({ frames := 0, cells := 0, slots := 0, locals := 0 } : Room).slots) s₁ (entryFrame m #[(.ref r), (.int j), (.int m1)] 5)
  rw [own_ef_lk m r j m1]
  show own_Go p e below _ s₁ (mkF m 0 #[rv r, iv j, iv m1, .unset, .unset] [])
  refine own_st (fun _ k => XS.iloadN X0.here hx rfl (hb hby own_dg_0) rfl k) ?_
  show own_Go p e below _ s₁ (mkF m 1 #[rv r, iv j, iv m1, .unset, .unset] [(.int j)])
  refine own_st (fun _ k => XS.iloadN X0.here hx rfl (hb hby own_dg_1) rfl k) ?_
  show own_Go p e below _ s₁ (mkF m 2 #[rv r, iv j, iv m1, .unset, .unset] [(.int m1), (.int j)])
  refine own_st (fun _ k => XS.icmpNo X0.here hx rfl (hb hby own_dg_2) rfl (XT.ii_lt_f hj) k) ?_
  show own_Go p e below _ s₁ (mkF m 5 #[rv r, iv j, iv m1, .unset, .unset] [])
  refine own_st (fun _ k => XT.iconstV X0.here hx rfl (1 : Int32) (hb hby own_dg_5) (by decide) k) ?_
  show own_Go p e below _ s₁ (mkF m 6 #[rv r, iv j, iv m1, .unset, .unset] [(.int 1)])
  refine own_retN X0 hx Bd.notSynchronized (t := .boolean) Bd.returns (by simp) (hb hby own_dg_6) (by decide) (by decide) ?_
  rw [e0]
  exact ⟨rfl, N0, rfl⟩
theorem own_ef_lk01 (m : MethodId) (x0 : Addr) (x1 : Int32) (x2 : Int32) : entryFrame m #[(.ref x0), (.int x1), (.int x2)] 5 = mkF m 0 #[.val (.ref x0), .val (.int x1), .val (.int x2), .unset, .unset] [] := by first | (simp [entryFrame, mkF, argsToLocals, Value.category]; done) | rfl
def own_Q_lk01 (Z : State) (r : Addr) (kr : ClassId) (cc : Addr) (u1 : Value) (u2 : Value) (h0 : Heap) (n0 : Nat) (v : Option Value) (h : Heap) (L : List Loc) : Prop := v = some (.int 1) ∧ Fr n0 L ∧ h = h0
set_option maxRecDepth 65536 in
set_option maxHeartbeats 40000000 in
theorem own_rm_lk01 (l : Launch) (Z : State) (a0 : Array Value) (hw : ∀ d ∈ tables_1, d.before a0 Z = true) (ws : List Jvm.Cond) (r : Addr) (kr : ClassId) (cc : Addr) (u1 : Value) (u2 : Value) (h0 : Heap) (n0 : Nat) (Z0 : n0 ≤ h0.size) (VR : Arv Z h0 r kr (.object "com/example/recency/recency/RecencyListRemovePinLaw") (3 : Int32) [(.ref cc), u1, u2] .null) (FP : Fld Z h0 cc "com/example/recency/recency/RecencyList$Link" "previous" "Lcom/example/recency/recency/RecencyList$Link;" .null) (FN : Fld Z h0 cc "com/example/recency/recency/RecencyList$Link" "next" "Lcom/example/recency/recency/RecencyList$Link;" .null) :
    MetFree l (⟨"com/example/recency/recency/RecencyListRemovePinLaw", "linked", "([Lcom/example/recency/recency/RecencyListRemovePinLaw;II)Z"⟩ : MethodName) (head1 (Jvm.Cond.code (⟨"com/example/recency/recency/RecencyListRemovePinLaw", "linked", "([Lcom/example/recency/recency/RecencyListRemovePinLaw;II)Z"⟩ : MethodName) method_3_code 5 (some .boolean) :: ws) ({ frames := 0, cells := 0, slots := 0, locals := 0 } : Room)) (fun zz U => zz = #[(.ref r), (.int (0 : Int32)), (.int (1 : Int32))] ∧ Z.Warmed39 U.vm ∧ U.heap = h0) (fun _ _ _ _ _ => True) (fun _ U zo U' => ∃ v L, zo = .returned v ∧ own_Q_lk01 Z r kr cc u1 u2 h0 n0 v U'.heap L ∧ FrameEnd U zo U' L ({ frames := 0, cells := 0, slots := 0, locals := 0 } : Room).cells ({ frames := 0, cells := 0, slots := 0, locals := 0 } : Room).slots) := by
  refine MetFree.of_bodySF (plainFor_of_name own_pn2) hisR ?_
  intro p e s m args below meth c s₁ Bd hml0 hP hK
  obtain ⟨rfl, hZ, hh⟩ := hP
  have hx := Bd.exec
  have hby := Bd.bytes
  have hml : c.maxLocals = 5 := hml0
  have hown : s.vm.findClass "com/example/recency/recency/RecencyListRemovePinLaw" = some m.cls := findClass_of_methodNamed Bd.named
  have hnm := (name_of_methodNamed Bd.named Bd.method).1
  have X0 : Stand p l e ({ frames := 0, cells := 0, slots := 0, locals := 0 } : Room) s m #[(.ref r), (.int (0 : Int32)), (.int (1 : Int32))] below meth c s₁ [] 0 0 := Stand.of_body Bd
  have e0 : s₁.heap = h0 := by rw [← hh, Bd.state]; rfl
  have N0 := Fr.nil n0
  show own_Go p e below (own_K s (own_Q_lk01 Z r kr cc u1 u2 h0 n0) ({ frames := 0, cells := 0, slots := 0, locals := 0 } : Room).cells ({ frames := 0, cells := 0, slots := 0, locals := 0 } : Room).slots) s₁ (entryFrame m #[(.ref r), (.int (0 : Int32)), (.int (1 : Int32))] 5)
  rw [own_ef_lk01 m r (0 : Int32) (1 : Int32)]
  show own_Go p e below _ s₁ (mkF m 0 #[rv r, iv 0, iv 1, .unset, .unset] [])
  refine own_st (fun _ k => XS.iloadN X0.here hx rfl (hb hby own_dg_0) rfl k) ?_
  show own_Go p e below _ s₁ (mkF m 1 #[rv r, iv 0, iv 1, .unset, .unset] [(.int 0)])
  refine own_st (fun _ k => XS.iloadN X0.here hx rfl (hb hby own_dg_1) rfl k) ?_
  show own_Go p e below _ s₁ (mkF m 2 #[rv r, iv 0, iv 1, .unset, .unset] [(.int 1), (.int 0)])
  refine own_st (fun _ k => XS.icmpYes X0.here hx rfl (pc0 := 2) (pc' := 7) rfl (hb hby own_dg_2) rfl (XT.ii_lt_t (by decide)) (by decide) (by decide) k) ?_
  show own_Go p e below _ s₁ (mkF m 7 #[rv r, iv 0, iv 1, .unset, .unset] [])
  refine own_st (fun _ k => XS.iloadN X0.here hx rfl (hb hby own_dg_7) rfl k) ?_
  show own_Go p e below _ s₁ (mkF m 8 #[rv r, iv 0, iv 1, .unset, .unset] [(.int 0)])
  refine own_st (fun _ k => XS.ifNo X0.here hx rfl (hb hby own_dg_8) rfl (XT.i0_ne_f (by decide)) k) ?_
  show own_Go p e below _ s₁ (mkF m 11 #[rv r, iv 0, iv 1, .unset, .unset] [])
  refine own_st (fun _ k => XS.aconstNull X0.here hx rfl (hb hby own_dg_11) k) ?_
  show own_Go p e below _ s₁ (mkF m 12 #[rv r, iv 0, iv 1, .unset, .unset] [.null])
  refine own_st (fun _ k => XS.goto X0.here hx rfl (pc0 := 12) (pc' := 20) rfl (hb hby own_dg_12) (by decide) (by decide) k) ?_
  show own_Go p e below _ s₁ (mkF m 20 #[rv r, iv 0, iv 1, .unset, .unset] [.null])
  refine own_st (fun _ k => XS.astoreN X0.here hx rfl (hb hby own_dg_20) rfl rfl (l' := #[rv r, iv 0, iv 1, .val .null, .unset]) rfl k) ?_
  show own_Go p e below _ s₁ (mkF m 21 #[rv r, iv 0, iv 1, .val .null, .unset] [])
  refine own_st (fun _ k => XS.iloadN X0.here hx rfl (hb hby own_dg_21) rfl k) ?_
  show own_Go p e below _ s₁ (mkF m 22 #[rv r, iv 0, iv 1, .val .null, .unset] [(.int 0)])
  refine own_st (fun _ k => XS.iloadN X0.here hx rfl (hb hby own_dg_22) rfl k) ?_
  show own_Go p e below _ s₁ (mkF m 23 #[rv r, iv 0, iv 1, .val .null, .unset] [(.int 1), (.int 0)])
  refine own_st (fun _ k => XT.iconstV X0.here hx rfl (1 : Int32) (hb hby own_dg_23) (by decide) k) ?_
  show own_Go p e below _ s₁ (mkF m 24 #[rv r, iv 0, iv 1, .val .null, .unset] [(.int 1), (.int 1), (.int 0)])
  refine own_st (fun _ k => XS.isub X0.here hx rfl (hb hby own_dg_24) rfl k) ?_
  show own_Go p e below _ s₁ (mkF m 25 #[rv r, iv 0, iv 1, .val .null, .unset] [(.int (1 - 1)), (.int 0)])
  refine own_st (fun _ k => XS.icmpNo X0.here hx rfl (hb hby own_dg_25) rfl (XT.ii_ne_f (by decide)) k) ?_
  show own_Go p e below _ s₁ (mkF m 28 #[rv r, iv 0, iv 1, .val .null, .unset] [])
  refine own_st (fun _ k => XS.aconstNull X0.here hx rfl (hb hby own_dg_28) k) ?_
  show own_Go p e below _ s₁ (mkF m 29 #[rv r, iv 0, iv 1, .val .null, .unset] [.null])
  refine own_st (fun _ k => XS.goto X0.here hx rfl (pc0 := 29) (pc' := 37) rfl (hb hby own_dg_29) (by decide) (by decide) k) ?_
  show own_Go p e below _ s₁ (mkF m 37 #[rv r, iv 0, iv 1, .val .null, .unset] [.null])
  refine own_st (fun _ k => XS.astore X0.here hx rfl (hb hby own_dg_37) rfl rfl (l' := #[rv r, iv 0, iv 1, .val .null, .val .null]) rfl k) ?_
  show own_Go p e below _ s₁ (mkF m 39 #[rv r, iv 0, iv 1, .val .null, .val .null] [])
  refine own_st (fun _ k => XS.aloadN X0.here hx rfl (hb hby own_dg_39) rfl rfl k) ?_
  show own_Go p e below _ s₁ (mkF m 40 #[rv r, iv 0, iv 1, .val .null, .val .null] [(.ref r)])
  refine own_st (fun _ k => XS.iloadN X0.here hx rfl (hb hby own_dg_40) rfl k) ?_
  show own_Go p e below _ s₁ (mkF m 41 #[rv r, iv 0, iv 1, .val .null, .val .null] [(.int 0), (.ref r)])
  refine own_st (fun _ k => own_ldR X0 hx hZ e0 VR rfl ⟨by decide, by decide⟩ (v := (.ref cc)) rfl rfl rfl (hb hby own_dg_41) k) ?_
  show own_Go p e below _ s₁ (mkF m 42 #[rv r, iv 0, iv 1, .val .null, .val .null] [(.ref cc)])
  obtain ⟨T1, X1, e1, st1⟩ := getF X0 hx hZ hown (host := "") (Or.inl (hw _ (List.mem_of_getElem? (i := 44) rfl))) (Via.of (hw _ (List.mem_of_getElem? (i := 45) rfl))) e0 FP (g := (mkF m 42 #[rv r, iv 0, iv 1, .val .null, .val .null] [(.ref cc)])) rfl rfl (hb hby own_dg_42)
  clear X0 e0
  refine own_st st1 ?_
  clear st1
  show own_Go p e below _ T1 (mkF m 45 #[rv r, iv 0, iv 1, .val .null, .val .null] [.null])
  refine own_st (fun _ k => XS.aloadN X1.here hx rfl (hb hby own_dg_45) rfl rfl k) ?_
  show own_Go p e below _ T1 (mkF m 46 #[rv r, iv 0, iv 1, .val .null, .val .null] [.null, .null])
  refine own_st (fun _ k => XT.acmpNo X1.here hx rfl (hb hby own_dg_46) rfl rfl rfl (XT.aa_ne_f rfl) k) ?_
  show own_Go p e below _ T1 (mkF m 49 #[rv r, iv 0, iv 1, .val .null, .val .null] [])
  refine own_st (fun _ k => XS.aloadN X1.here hx rfl (hb hby own_dg_49) rfl rfl k) ?_
  show own_Go p e below _ T1 (mkF m 50 #[rv r, iv 0, iv 1, .val .null, .val .null] [(.ref r)])
  refine own_st (fun _ k => XS.iloadN X1.here hx rfl (hb hby own_dg_50) rfl k) ?_
  show own_Go p e below _ T1 (mkF m 51 #[rv r, iv 0, iv 1, .val .null, .val .null] [(.int 0), (.ref r)])
  refine own_st (fun _ k => own_ldR X1 hx hZ e1 VR rfl ⟨by decide, by decide⟩ (v := (.ref cc)) rfl rfl rfl (hb hby own_dg_51) k) ?_
  show own_Go p e below _ T1 (mkF m 52 #[rv r, iv 0, iv 1, .val .null, .val .null] [(.ref cc)])
  obtain ⟨T2, X2, e2, st2⟩ := getF X1 hx hZ hown (host := "") (Or.inl (hw _ (List.mem_of_getElem? (i := 46) rfl))) (Via.of (hw _ (List.mem_of_getElem? (i := 47) rfl))) e1 FN (g := (mkF m 52 #[rv r, iv 0, iv 1, .val .null, .val .null] [(.ref cc)])) rfl rfl (hb hby own_dg_52)
  clear X1 e1
  refine own_st st2 ?_
  clear st2
  show own_Go p e below _ T2 (mkF m 55 #[rv r, iv 0, iv 1, .val .null, .val .null] [.null])
  refine own_st (fun _ k => XS.aload X2.here hx rfl (hb hby own_dg_55) rfl rfl k) ?_
  show own_Go p e below _ T2 (mkF m 57 #[rv r, iv 0, iv 1, .val .null, .val .null] [.null, .null])
  refine own_st (fun _ k => XT.acmpNo X2.here hx rfl (hb hby own_dg_57) rfl rfl rfl (XT.aa_ne_f rfl) k) ?_
  show own_Go p e below _ T2 (mkF m 60 #[rv r, iv 0, iv 1, .val .null, .val .null] [])
  refine own_st (fun _ k => XT.iconstV X2.here hx rfl (1 : Int32) (hb hby own_dg_60) (by decide) k) ?_
  show own_Go p e below _ T2 (mkF m 61 #[rv r, iv 0, iv 1, .val .null, .val .null] [(.int 1)])
  refine own_st (fun _ k => XS.goto X2.here hx rfl (pc0 := 61) (pc' := 65) rfl (hb hby own_dg_61) (by decide) (by decide) k) ?_
  show own_Go p e below _ T2 (mkF m 65 #[rv r, iv 0, iv 1, .val .null, .val .null] [(.int 1)])
  refine own_retN X2 hx Bd.notSynchronized (t := .boolean) Bd.returns (by simp) (hb hby own_dg_65) (by decide) (by decide) ?_
  rw [e2]
  exact ⟨rfl, N0, rfl⟩
theorem own_ef_lk02 (m : MethodId) (x0 : Addr) (x1 : Int32) (x2 : Int32) : entryFrame m #[(.ref x0), (.int x1), (.int x2)] 5 = mkF m 0 #[.val (.ref x0), .val (.int x1), .val (.int x2), .unset, .unset] [] := by first | (simp [entryFrame, mkF, argsToLocals, Value.category]; done) | rfl
def own_Q_lk02 (Z : State) (r : Addr) (kr : ClassId) (cc : Addr) (nx : Addr) (u2 : Value) (h0 : Heap) (n0 : Nat) (v : Option Value) (h : Heap) (L : List Loc) : Prop := v = some (.int 1) ∧ Fr n0 L ∧ h = h0
set_option maxRecDepth 65536 in
set_option maxHeartbeats 40000000 in
theorem own_rm_lk02 (l : Launch) (Z : State) (a0 : Array Value) (hw : ∀ d ∈ tables_1, d.before a0 Z = true) (ws : List Jvm.Cond) (r : Addr) (kr : ClassId) (cc : Addr) (nx : Addr) (u2 : Value) (h0 : Heap) (n0 : Nat) (Z0 : n0 ≤ h0.size) (VR : Arv Z h0 r kr (.object "com/example/recency/recency/RecencyListRemovePinLaw") (3 : Int32) [(.ref cc), (.ref nx), u2] .null) (FP : Fld Z h0 cc "com/example/recency/recency/RecencyList$Link" "previous" "Lcom/example/recency/recency/RecencyList$Link;" .null) (FN : Fld Z h0 cc "com/example/recency/recency/RecencyList$Link" "next" "Lcom/example/recency/recency/RecencyList$Link;" (.ref nx)) :
    MetFree l (⟨"com/example/recency/recency/RecencyListRemovePinLaw", "linked", "([Lcom/example/recency/recency/RecencyListRemovePinLaw;II)Z"⟩ : MethodName) (head1 (Jvm.Cond.code (⟨"com/example/recency/recency/RecencyListRemovePinLaw", "linked", "([Lcom/example/recency/recency/RecencyListRemovePinLaw;II)Z"⟩ : MethodName) method_3_code 5 (some .boolean) :: ws) ({ frames := 0, cells := 0, slots := 0, locals := 0 } : Room)) (fun zz U => zz = #[(.ref r), (.int (0 : Int32)), (.int (2 : Int32))] ∧ Z.Warmed39 U.vm ∧ U.heap = h0) (fun _ _ _ _ _ => True) (fun _ U zo U' => ∃ v L, zo = .returned v ∧ own_Q_lk02 Z r kr cc nx u2 h0 n0 v U'.heap L ∧ FrameEnd U zo U' L ({ frames := 0, cells := 0, slots := 0, locals := 0 } : Room).cells ({ frames := 0, cells := 0, slots := 0, locals := 0 } : Room).slots) := by
  refine MetFree.of_bodySF (plainFor_of_name own_pn2) hisR ?_
  intro p e s m args below meth c s₁ Bd hml0 hP hK
  obtain ⟨rfl, hZ, hh⟩ := hP
  have hx := Bd.exec
  have hby := Bd.bytes
  have hml : c.maxLocals = 5 := hml0
  have hown : s.vm.findClass "com/example/recency/recency/RecencyListRemovePinLaw" = some m.cls := findClass_of_methodNamed Bd.named
  have hnm := (name_of_methodNamed Bd.named Bd.method).1
  have X0 : Stand p l e ({ frames := 0, cells := 0, slots := 0, locals := 0 } : Room) s m #[(.ref r), (.int (0 : Int32)), (.int (2 : Int32))] below meth c s₁ [] 0 0 := Stand.of_body Bd
  have e0 : s₁.heap = h0 := by rw [← hh, Bd.state]; rfl
  have N0 := Fr.nil n0
  show own_Go p e below (own_K s (own_Q_lk02 Z r kr cc nx u2 h0 n0) ({ frames := 0, cells := 0, slots := 0, locals := 0 } : Room).cells ({ frames := 0, cells := 0, slots := 0, locals := 0 } : Room).slots) s₁ (entryFrame m #[(.ref r), (.int (0 : Int32)), (.int (2 : Int32))] 5)
  rw [own_ef_lk02 m r (0 : Int32) (2 : Int32)]
  show own_Go p e below _ s₁ (mkF m 0 #[rv r, iv 0, iv 2, .unset, .unset] [])
  refine own_st (fun _ k => XS.iloadN X0.here hx rfl (hb hby own_dg_0) rfl k) ?_
  show own_Go p e below _ s₁ (mkF m 1 #[rv r, iv 0, iv 2, .unset, .unset] [(.int 0)])
  refine own_st (fun _ k => XS.iloadN X0.here hx rfl (hb hby own_dg_1) rfl k) ?_
  show own_Go p e below _ s₁ (mkF m 2 #[rv r, iv 0, iv 2, .unset, .unset] [(.int 2), (.int 0)])
  refine own_st (fun _ k => XS.icmpYes X0.here hx rfl (pc0 := 2) (pc' := 7) rfl (hb hby own_dg_2) rfl (XT.ii_lt_t (by decide)) (by decide) (by decide) k) ?_
  show own_Go p e below _ s₁ (mkF m 7 #[rv r, iv 0, iv 2, .unset, .unset] [])
  refine own_st (fun _ k => XS.iloadN X0.here hx rfl (hb hby own_dg_7) rfl k) ?_
  show own_Go p e below _ s₁ (mkF m 8 #[rv r, iv 0, iv 2, .unset, .unset] [(.int 0)])
  refine own_st (fun _ k => XS.ifNo X0.here hx rfl (hb hby own_dg_8) rfl (XT.i0_ne_f (by decide)) k) ?_
  show own_Go p e below _ s₁ (mkF m 11 #[rv r, iv 0, iv 2, .unset, .unset] [])
  refine own_st (fun _ k => XS.aconstNull X0.here hx rfl (hb hby own_dg_11) k) ?_
  show own_Go p e below _ s₁ (mkF m 12 #[rv r, iv 0, iv 2, .unset, .unset] [.null])
  refine own_st (fun _ k => XS.goto X0.here hx rfl (pc0 := 12) (pc' := 20) rfl (hb hby own_dg_12) (by decide) (by decide) k) ?_
  show own_Go p e below _ s₁ (mkF m 20 #[rv r, iv 0, iv 2, .unset, .unset] [.null])
  refine own_st (fun _ k => XS.astoreN X0.here hx rfl (hb hby own_dg_20) rfl rfl (l' := #[rv r, iv 0, iv 2, .val .null, .unset]) rfl k) ?_
  show own_Go p e below _ s₁ (mkF m 21 #[rv r, iv 0, iv 2, .val .null, .unset] [])
  refine own_st (fun _ k => XS.iloadN X0.here hx rfl (hb hby own_dg_21) rfl k) ?_
  show own_Go p e below _ s₁ (mkF m 22 #[rv r, iv 0, iv 2, .val .null, .unset] [(.int 0)])
  refine own_st (fun _ k => XS.iloadN X0.here hx rfl (hb hby own_dg_22) rfl k) ?_
  show own_Go p e below _ s₁ (mkF m 23 #[rv r, iv 0, iv 2, .val .null, .unset] [(.int 2), (.int 0)])
  refine own_st (fun _ k => XT.iconstV X0.here hx rfl (1 : Int32) (hb hby own_dg_23) (by decide) k) ?_
  show own_Go p e below _ s₁ (mkF m 24 #[rv r, iv 0, iv 2, .val .null, .unset] [(.int 1), (.int 2), (.int 0)])
  refine own_st (fun _ k => XS.isub X0.here hx rfl (hb hby own_dg_24) rfl k) ?_
  show own_Go p e below _ s₁ (mkF m 25 #[rv r, iv 0, iv 2, .val .null, .unset] [(.int (2 - 1)), (.int 0)])
  refine own_st (fun _ k => XS.icmpYes X0.here hx rfl (pc0 := 25) (pc' := 32) rfl (hb hby own_dg_25) rfl (XT.ii_ne_t (by decide)) (by decide) (by decide) k) ?_
  show own_Go p e below _ s₁ (mkF m 32 #[rv r, iv 0, iv 2, .val .null, .unset] [])
  refine own_st (fun _ k => XS.aloadN X0.here hx rfl (hb hby own_dg_32) rfl rfl k) ?_
  show own_Go p e below _ s₁ (mkF m 33 #[rv r, iv 0, iv 2, .val .null, .unset] [(.ref r)])
  refine own_st (fun _ k => XS.iloadN X0.here hx rfl (hb hby own_dg_33) rfl k) ?_
  show own_Go p e below _ s₁ (mkF m 34 #[rv r, iv 0, iv 2, .val .null, .unset] [(.int 0), (.ref r)])
  refine own_st (fun _ k => XT.iconstV X0.here hx rfl (1 : Int32) (hb hby own_dg_34) (by decide) k) ?_
  show own_Go p e below _ s₁ (mkF m 35 #[rv r, iv 0, iv 2, .val .null, .unset] [(.int 1), (.int 0), (.ref r)])
  refine own_st (fun _ k => XS.iadd X0.here hx rfl (hb hby own_dg_35) rfl k) ?_
  show own_Go p e below _ s₁ (mkF m 36 #[rv r, iv 0, iv 2, .val .null, .unset] [(.int (0 + 1)), (.ref r)])
  show own_Go p e below _ s₁ (mkF m 36 #[rv r, iv 0, iv 2, .val .null, .unset] [(.int 1), (.ref r)])
  refine own_st (fun _ k => own_ldR X0 hx hZ e0 VR rfl ⟨by decide, by decide⟩ (v := (.ref nx)) rfl rfl rfl (hb hby own_dg_36) k) ?_
  show own_Go p e below _ s₁ (mkF m 37 #[rv r, iv 0, iv 2, .val .null, .unset] [(.ref nx)])
  refine own_st (fun _ k => XS.astore X0.here hx rfl (hb hby own_dg_37) rfl rfl (l' := #[rv r, iv 0, iv 2, .val .null, rv nx]) rfl k) ?_
  show own_Go p e below _ s₁ (mkF m 39 #[rv r, iv 0, iv 2, .val .null, rv nx] [])
  refine own_st (fun _ k => XS.aloadN X0.here hx rfl (hb hby own_dg_39) rfl rfl k) ?_
  show own_Go p e below _ s₁ (mkF m 40 #[rv r, iv 0, iv 2, .val .null, rv nx] [(.ref r)])
  refine own_st (fun _ k => XS.iloadN X0.here hx rfl (hb hby own_dg_40) rfl k) ?_
  show own_Go p e below _ s₁ (mkF m 41 #[rv r, iv 0, iv 2, .val .null, rv nx] [(.int 0), (.ref r)])
  refine own_st (fun _ k => own_ldR X0 hx hZ e0 VR rfl ⟨by decide, by decide⟩ (v := (.ref cc)) rfl rfl rfl (hb hby own_dg_41) k) ?_
  show own_Go p e below _ s₁ (mkF m 42 #[rv r, iv 0, iv 2, .val .null, rv nx] [(.ref cc)])
  obtain ⟨T1, X1, e1, st1⟩ := getF X0 hx hZ hown (host := "") (Or.inl (hw _ (List.mem_of_getElem? (i := 44) rfl))) (Via.of (hw _ (List.mem_of_getElem? (i := 45) rfl))) e0 FP (g := (mkF m 42 #[rv r, iv 0, iv 2, .val .null, rv nx] [(.ref cc)])) rfl rfl (hb hby own_dg_42)
  clear X0 e0
  refine own_st st1 ?_
  clear st1
  show own_Go p e below _ T1 (mkF m 45 #[rv r, iv 0, iv 2, .val .null, rv nx] [.null])
  refine own_st (fun _ k => XS.aloadN X1.here hx rfl (hb hby own_dg_45) rfl rfl k) ?_
  show own_Go p e below _ T1 (mkF m 46 #[rv r, iv 0, iv 2, .val .null, rv nx] [.null, .null])
  refine own_st (fun _ k => XT.acmpNo X1.here hx rfl (hb hby own_dg_46) rfl rfl rfl (XT.aa_ne_f rfl) k) ?_
  show own_Go p e below _ T1 (mkF m 49 #[rv r, iv 0, iv 2, .val .null, rv nx] [])
  refine own_st (fun _ k => XS.aloadN X1.here hx rfl (hb hby own_dg_49) rfl rfl k) ?_
  show own_Go p e below _ T1 (mkF m 50 #[rv r, iv 0, iv 2, .val .null, rv nx] [(.ref r)])
  refine own_st (fun _ k => XS.iloadN X1.here hx rfl (hb hby own_dg_50) rfl k) ?_
  show own_Go p e below _ T1 (mkF m 51 #[rv r, iv 0, iv 2, .val .null, rv nx] [(.int 0), (.ref r)])
  refine own_st (fun _ k => own_ldR X1 hx hZ e1 VR rfl ⟨by decide, by decide⟩ (v := (.ref cc)) rfl rfl rfl (hb hby own_dg_51) k) ?_
  show own_Go p e below _ T1 (mkF m 52 #[rv r, iv 0, iv 2, .val .null, rv nx] [(.ref cc)])
  obtain ⟨T2, X2, e2, st2⟩ := getF X1 hx hZ hown (host := "") (Or.inl (hw _ (List.mem_of_getElem? (i := 46) rfl))) (Via.of (hw _ (List.mem_of_getElem? (i := 47) rfl))) e1 FN (g := (mkF m 52 #[rv r, iv 0, iv 2, .val .null, rv nx] [(.ref cc)])) rfl rfl (hb hby own_dg_52)
  clear X1 e1
  refine own_st st2 ?_
  clear st2
  show own_Go p e below _ T2 (mkF m 55 #[rv r, iv 0, iv 2, .val .null, rv nx] [(.ref nx)])
  refine own_st (fun _ k => XS.aload X2.here hx rfl (hb hby own_dg_55) rfl rfl k) ?_
  show own_Go p e below _ T2 (mkF m 57 #[rv r, iv 0, iv 2, .val .null, rv nx] [(.ref nx), (.ref nx)])
  refine own_st (fun _ k => XT.acmpNo X2.here hx rfl (hb hby own_dg_57) rfl rfl rfl (XT.aa_ne_f rfl) k) ?_
  show own_Go p e below _ T2 (mkF m 60 #[rv r, iv 0, iv 2, .val .null, rv nx] [])
  refine own_st (fun _ k => XT.iconstV X2.here hx rfl (1 : Int32) (hb hby own_dg_60) (by decide) k) ?_
  show own_Go p e below _ T2 (mkF m 61 #[rv r, iv 0, iv 2, .val .null, rv nx] [(.int 1)])
  refine own_st (fun _ k => XS.goto X2.here hx rfl (pc0 := 61) (pc' := 65) rfl (hb hby own_dg_61) (by decide) (by decide) k) ?_
  show own_Go p e below _ T2 (mkF m 65 #[rv r, iv 0, iv 2, .val .null, rv nx] [(.int 1)])
  refine own_retN X2 hx Bd.notSynchronized (t := .boolean) Bd.returns (by simp) (hb hby own_dg_65) (by decide) (by decide) ?_
  rw [e2]
  exact ⟨rfl, N0, rfl⟩
theorem own_ef_lk12 (m : MethodId) (x0 : Addr) (x1 : Int32) (x2 : Int32) : entryFrame m #[(.ref x0), (.int x1), (.int x2)] 5 = mkF m 0 #[.val (.ref x0), .val (.int x1), .val (.int x2), .unset, .unset] [] := by first | (simp [entryFrame, mkF, argsToLocals, Value.category]; done) | rfl
def own_Q_lk12 (Z : State) (r : Addr) (kr : ClassId) (cc : Addr) (pv : Addr) (u2 : Value) (h0 : Heap) (n0 : Nat) (v : Option Value) (h : Heap) (L : List Loc) : Prop := v = some (.int 1) ∧ Fr n0 L ∧ h = h0
set_option maxRecDepth 65536 in
set_option maxHeartbeats 40000000 in
theorem own_rm_lk12 (l : Launch) (Z : State) (a0 : Array Value) (hw : ∀ d ∈ tables_1, d.before a0 Z = true) (ws : List Jvm.Cond) (r : Addr) (kr : ClassId) (cc : Addr) (pv : Addr) (u2 : Value) (h0 : Heap) (n0 : Nat) (Z0 : n0 ≤ h0.size) (VR : Arv Z h0 r kr (.object "com/example/recency/recency/RecencyListRemovePinLaw") (3 : Int32) [(.ref pv), (.ref cc), u2] .null) (FP : Fld Z h0 cc "com/example/recency/recency/RecencyList$Link" "previous" "Lcom/example/recency/recency/RecencyList$Link;" (.ref pv)) (FN : Fld Z h0 cc "com/example/recency/recency/RecencyList$Link" "next" "Lcom/example/recency/recency/RecencyList$Link;" .null) :
    MetFree l (⟨"com/example/recency/recency/RecencyListRemovePinLaw", "linked", "([Lcom/example/recency/recency/RecencyListRemovePinLaw;II)Z"⟩ : MethodName) (head1 (Jvm.Cond.code (⟨"com/example/recency/recency/RecencyListRemovePinLaw", "linked", "([Lcom/example/recency/recency/RecencyListRemovePinLaw;II)Z"⟩ : MethodName) method_3_code 5 (some .boolean) :: ws) ({ frames := 0, cells := 0, slots := 0, locals := 0 } : Room)) (fun zz U => zz = #[(.ref r), (.int (1 : Int32)), (.int (2 : Int32))] ∧ Z.Warmed39 U.vm ∧ U.heap = h0) (fun _ _ _ _ _ => True) (fun _ U zo U' => ∃ v L, zo = .returned v ∧ own_Q_lk12 Z r kr cc pv u2 h0 n0 v U'.heap L ∧ FrameEnd U zo U' L ({ frames := 0, cells := 0, slots := 0, locals := 0 } : Room).cells ({ frames := 0, cells := 0, slots := 0, locals := 0 } : Room).slots) := by
  refine MetFree.of_bodySF (plainFor_of_name own_pn2) hisR ?_
  intro p e s m args below meth c s₁ Bd hml0 hP hK
  obtain ⟨rfl, hZ, hh⟩ := hP
  have hx := Bd.exec
  have hby := Bd.bytes
  have hml : c.maxLocals = 5 := hml0
  have hown : s.vm.findClass "com/example/recency/recency/RecencyListRemovePinLaw" = some m.cls := findClass_of_methodNamed Bd.named
  have hnm := (name_of_methodNamed Bd.named Bd.method).1
  have X0 : Stand p l e ({ frames := 0, cells := 0, slots := 0, locals := 0 } : Room) s m #[(.ref r), (.int (1 : Int32)), (.int (2 : Int32))] below meth c s₁ [] 0 0 := Stand.of_body Bd
  have e0 : s₁.heap = h0 := by rw [← hh, Bd.state]; rfl
  have N0 := Fr.nil n0
  show own_Go p e below (own_K s (own_Q_lk12 Z r kr cc pv u2 h0 n0) ({ frames := 0, cells := 0, slots := 0, locals := 0 } : Room).cells ({ frames := 0, cells := 0, slots := 0, locals := 0 } : Room).slots) s₁ (entryFrame m #[(.ref r), (.int (1 : Int32)), (.int (2 : Int32))] 5)
  rw [own_ef_lk12 m r (1 : Int32) (2 : Int32)]
  show own_Go p e below _ s₁ (mkF m 0 #[rv r, iv 1, iv 2, .unset, .unset] [])
  refine own_st (fun _ k => XS.iloadN X0.here hx rfl (hb hby own_dg_0) rfl k) ?_
  show own_Go p e below _ s₁ (mkF m 1 #[rv r, iv 1, iv 2, .unset, .unset] [(.int 1)])
  refine own_st (fun _ k => XS.iloadN X0.here hx rfl (hb hby own_dg_1) rfl k) ?_
  show own_Go p e below _ s₁ (mkF m 2 #[rv r, iv 1, iv 2, .unset, .unset] [(.int 2), (.int 1)])
  refine own_st (fun _ k => XS.icmpYes X0.here hx rfl (pc0 := 2) (pc' := 7) rfl (hb hby own_dg_2) rfl (XT.ii_lt_t (by decide)) (by decide) (by decide) k) ?_
  show own_Go p e below _ s₁ (mkF m 7 #[rv r, iv 1, iv 2, .unset, .unset] [])
  refine own_st (fun _ k => XS.iloadN X0.here hx rfl (hb hby own_dg_7) rfl k) ?_
  show own_Go p e below _ s₁ (mkF m 8 #[rv r, iv 1, iv 2, .unset, .unset] [(.int 1)])
  refine own_st (fun _ k => XS.ifYes X0.here hx rfl (pc0 := 8) (pc' := 15) rfl (hb hby own_dg_8) rfl (XT.i0_ne_t (by decide)) (by decide) (by decide) k) ?_
  show own_Go p e below _ s₁ (mkF m 15 #[rv r, iv 1, iv 2, .unset, .unset] [])
  refine own_st (fun _ k => XS.aloadN X0.here hx rfl (hb hby own_dg_15) rfl rfl k) ?_
  show own_Go p e below _ s₁ (mkF m 16 #[rv r, iv 1, iv 2, .unset, .unset] [(.ref r)])
  refine own_st (fun _ k => XS.iloadN X0.here hx rfl (hb hby own_dg_16) rfl k) ?_
  show own_Go p e below _ s₁ (mkF m 17 #[rv r, iv 1, iv 2, .unset, .unset] [(.int 1), (.ref r)])
  refine own_st (fun _ k => XT.iconstV X0.here hx rfl (1 : Int32) (hb hby own_dg_17) (by decide) k) ?_
  show own_Go p e below _ s₁ (mkF m 18 #[rv r, iv 1, iv 2, .unset, .unset] [(.int 1), (.int 1), (.ref r)])
  refine own_st (fun _ k => XS.isub X0.here hx rfl (hb hby own_dg_18) rfl k) ?_
  show own_Go p e below _ s₁ (mkF m 19 #[rv r, iv 1, iv 2, .unset, .unset] [(.int (1 - 1)), (.ref r)])
  show own_Go p e below _ s₁ (mkF m 19 #[rv r, iv 1, iv 2, .unset, .unset] [(.int 0), (.ref r)])
  refine own_st (fun _ k => own_ldR X0 hx hZ e0 VR rfl ⟨by decide, by decide⟩ (v := (.ref pv)) rfl rfl rfl (hb hby own_dg_19) k) ?_
  show own_Go p e below _ s₁ (mkF m 20 #[rv r, iv 1, iv 2, .unset, .unset] [(.ref pv)])
  refine own_st (fun _ k => XS.astoreN X0.here hx rfl (hb hby own_dg_20) rfl rfl (l' := #[rv r, iv 1, iv 2, rv pv, .unset]) rfl k) ?_
  show own_Go p e below _ s₁ (mkF m 21 #[rv r, iv 1, iv 2, rv pv, .unset] [])
  refine own_st (fun _ k => XS.iloadN X0.here hx rfl (hb hby own_dg_21) rfl k) ?_
  show own_Go p e below _ s₁ (mkF m 22 #[rv r, iv 1, iv 2, rv pv, .unset] [(.int 1)])
  refine own_st (fun _ k => XS.iloadN X0.here hx rfl (hb hby own_dg_22) rfl k) ?_
  show own_Go p e below _ s₁ (mkF m 23 #[rv r, iv 1, iv 2, rv pv, .unset] [(.int 2), (.int 1)])
  refine own_st (fun _ k => XT.iconstV X0.here hx rfl (1 : Int32) (hb hby own_dg_23) (by decide) k) ?_
  show own_Go p e below _ s₁ (mkF m 24 #[rv r, iv 1, iv 2, rv pv, .unset] [(.int 1), (.int 2), (.int 1)])
  refine own_st (fun _ k => XS.isub X0.here hx rfl (hb hby own_dg_24) rfl k) ?_
  show own_Go p e below _ s₁ (mkF m 25 #[rv r, iv 1, iv 2, rv pv, .unset] [(.int (2 - 1)), (.int 1)])
  refine own_st (fun _ k => XS.icmpNo X0.here hx rfl (hb hby own_dg_25) rfl (XT.ii_ne_f (by decide)) k) ?_
  show own_Go p e below _ s₁ (mkF m 28 #[rv r, iv 1, iv 2, rv pv, .unset] [])
  refine own_st (fun _ k => XS.aconstNull X0.here hx rfl (hb hby own_dg_28) k) ?_
  show own_Go p e below _ s₁ (mkF m 29 #[rv r, iv 1, iv 2, rv pv, .unset] [.null])
  refine own_st (fun _ k => XS.goto X0.here hx rfl (pc0 := 29) (pc' := 37) rfl (hb hby own_dg_29) (by decide) (by decide) k) ?_
  show own_Go p e below _ s₁ (mkF m 37 #[rv r, iv 1, iv 2, rv pv, .unset] [.null])
  refine own_st (fun _ k => XS.astore X0.here hx rfl (hb hby own_dg_37) rfl rfl (l' := #[rv r, iv 1, iv 2, rv pv, .val .null]) rfl k) ?_
  show own_Go p e below _ s₁ (mkF m 39 #[rv r, iv 1, iv 2, rv pv, .val .null] [])
  refine own_st (fun _ k => XS.aloadN X0.here hx rfl (hb hby own_dg_39) rfl rfl k) ?_
  show own_Go p e below _ s₁ (mkF m 40 #[rv r, iv 1, iv 2, rv pv, .val .null] [(.ref r)])
  refine own_st (fun _ k => XS.iloadN X0.here hx rfl (hb hby own_dg_40) rfl k) ?_
  show own_Go p e below _ s₁ (mkF m 41 #[rv r, iv 1, iv 2, rv pv, .val .null] [(.int 1), (.ref r)])
  refine own_st (fun _ k => own_ldR X0 hx hZ e0 VR rfl ⟨by decide, by decide⟩ (v := (.ref cc)) rfl rfl rfl (hb hby own_dg_41) k) ?_
  show own_Go p e below _ s₁ (mkF m 42 #[rv r, iv 1, iv 2, rv pv, .val .null] [(.ref cc)])
  obtain ⟨T1, X1, e1, st1⟩ := getF X0 hx hZ hown (host := "") (Or.inl (hw _ (List.mem_of_getElem? (i := 44) rfl))) (Via.of (hw _ (List.mem_of_getElem? (i := 45) rfl))) e0 FP (g := (mkF m 42 #[rv r, iv 1, iv 2, rv pv, .val .null] [(.ref cc)])) rfl rfl (hb hby own_dg_42)
  clear X0 e0
  refine own_st st1 ?_
  clear st1
  show own_Go p e below _ T1 (mkF m 45 #[rv r, iv 1, iv 2, rv pv, .val .null] [(.ref pv)])
  refine own_st (fun _ k => XS.aloadN X1.here hx rfl (hb hby own_dg_45) rfl rfl k) ?_
  show own_Go p e below _ T1 (mkF m 46 #[rv r, iv 1, iv 2, rv pv, .val .null] [(.ref pv), (.ref pv)])
  refine own_st (fun _ k => XT.acmpNo X1.here hx rfl (hb hby own_dg_46) rfl rfl rfl (XT.aa_ne_f rfl) k) ?_
  show own_Go p e below _ T1 (mkF m 49 #[rv r, iv 1, iv 2, rv pv, .val .null] [])
  refine own_st (fun _ k => XS.aloadN X1.here hx rfl (hb hby own_dg_49) rfl rfl k) ?_
  show own_Go p e below _ T1 (mkF m 50 #[rv r, iv 1, iv 2, rv pv, .val .null] [(.ref r)])
  refine own_st (fun _ k => XS.iloadN X1.here hx rfl (hb hby own_dg_50) rfl k) ?_
  show own_Go p e below _ T1 (mkF m 51 #[rv r, iv 1, iv 2, rv pv, .val .null] [(.int 1), (.ref r)])
  refine own_st (fun _ k => own_ldR X1 hx hZ e1 VR rfl ⟨by decide, by decide⟩ (v := (.ref cc)) rfl rfl rfl (hb hby own_dg_51) k) ?_
  show own_Go p e below _ T1 (mkF m 52 #[rv r, iv 1, iv 2, rv pv, .val .null] [(.ref cc)])
  obtain ⟨T2, X2, e2, st2⟩ := getF X1 hx hZ hown (host := "") (Or.inl (hw _ (List.mem_of_getElem? (i := 46) rfl))) (Via.of (hw _ (List.mem_of_getElem? (i := 47) rfl))) e1 FN (g := (mkF m 52 #[rv r, iv 1, iv 2, rv pv, .val .null] [(.ref cc)])) rfl rfl (hb hby own_dg_52)
  clear X1 e1
  refine own_st st2 ?_
  clear st2
  show own_Go p e below _ T2 (mkF m 55 #[rv r, iv 1, iv 2, rv pv, .val .null] [.null])
  refine own_st (fun _ k => XS.aload X2.here hx rfl (hb hby own_dg_55) rfl rfl k) ?_
  show own_Go p e below _ T2 (mkF m 57 #[rv r, iv 1, iv 2, rv pv, .val .null] [.null, .null])
  refine own_st (fun _ k => XT.acmpNo X2.here hx rfl (hb hby own_dg_57) rfl rfl rfl (XT.aa_ne_f rfl) k) ?_
  show own_Go p e below _ T2 (mkF m 60 #[rv r, iv 1, iv 2, rv pv, .val .null] [])
  refine own_st (fun _ k => XT.iconstV X2.here hx rfl (1 : Int32) (hb hby own_dg_60) (by decide) k) ?_
  show own_Go p e below _ T2 (mkF m 61 #[rv r, iv 1, iv 2, rv pv, .val .null] [(.int 1)])
  refine own_st (fun _ k => XS.goto X2.here hx rfl (pc0 := 61) (pc' := 65) rfl (hb hby own_dg_61) (by decide) (by decide) k) ?_
  show own_Go p e below _ T2 (mkF m 65 #[rv r, iv 1, iv 2, rv pv, .val .null] [(.int 1)])
  refine own_retN X2 hx Bd.notSynchronized (t := .boolean) Bd.returns (by simp) (hb hby own_dg_65) (by decide) (by decide) ?_
  rw [e2]
  exact ⟨rfl, N0, rfl⟩
theorem own_ef_lk03 (m : MethodId) (x0 : Addr) (x1 : Int32) (x2 : Int32) : entryFrame m #[(.ref x0), (.int x1), (.int x2)] 5 = mkF m 0 #[.val (.ref x0), .val (.int x1), .val (.int x2), .unset, .unset] [] := by first | (simp [entryFrame, mkF, argsToLocals, Value.category]; done) | rfl
def own_Q_lk03 (Z : State) (r : Addr) (kr : ClassId) (cc : Addr) (nx : Addr) (u2 : Value) (h0 : Heap) (n0 : Nat) (v : Option Value) (h : Heap) (L : List Loc) : Prop := v = some (.int 1) ∧ Fr n0 L ∧ h = h0
set_option maxRecDepth 65536 in
set_option maxHeartbeats 40000000 in
theorem own_rm_lk03 (l : Launch) (Z : State) (a0 : Array Value) (hw : ∀ d ∈ tables_1, d.before a0 Z = true) (ws : List Jvm.Cond) (r : Addr) (kr : ClassId) (cc : Addr) (nx : Addr) (u2 : Value) (h0 : Heap) (n0 : Nat) (Z0 : n0 ≤ h0.size) (VR : Arv Z h0 r kr (.object "com/example/recency/recency/RecencyListRemovePinLaw") (3 : Int32) [(.ref cc), (.ref nx), u2] .null) (FP : Fld Z h0 cc "com/example/recency/recency/RecencyList$Link" "previous" "Lcom/example/recency/recency/RecencyList$Link;" .null) (FN : Fld Z h0 cc "com/example/recency/recency/RecencyList$Link" "next" "Lcom/example/recency/recency/RecencyList$Link;" (.ref nx)) :
    MetFree l (⟨"com/example/recency/recency/RecencyListRemovePinLaw", "linked", "([Lcom/example/recency/recency/RecencyListRemovePinLaw;II)Z"⟩ : MethodName) (head1 (Jvm.Cond.code (⟨"com/example/recency/recency/RecencyListRemovePinLaw", "linked", "([Lcom/example/recency/recency/RecencyListRemovePinLaw;II)Z"⟩ : MethodName) method_3_code 5 (some .boolean) :: ws) ({ frames := 0, cells := 0, slots := 0, locals := 0 } : Room)) (fun zz U => zz = #[(.ref r), (.int (0 : Int32)), (.int (3 : Int32))] ∧ Z.Warmed39 U.vm ∧ U.heap = h0) (fun _ _ _ _ _ => True) (fun _ U zo U' => ∃ v L, zo = .returned v ∧ own_Q_lk03 Z r kr cc nx u2 h0 n0 v U'.heap L ∧ FrameEnd U zo U' L ({ frames := 0, cells := 0, slots := 0, locals := 0 } : Room).cells ({ frames := 0, cells := 0, slots := 0, locals := 0 } : Room).slots) := by
  refine MetFree.of_bodySF (plainFor_of_name own_pn2) hisR ?_
  intro p e s m args below meth c s₁ Bd hml0 hP hK
  obtain ⟨rfl, hZ, hh⟩ := hP
  have hx := Bd.exec
  have hby := Bd.bytes
  have hml : c.maxLocals = 5 := hml0
  have hown : s.vm.findClass "com/example/recency/recency/RecencyListRemovePinLaw" = some m.cls := findClass_of_methodNamed Bd.named
  have hnm := (name_of_methodNamed Bd.named Bd.method).1
  have X0 : Stand p l e ({ frames := 0, cells := 0, slots := 0, locals := 0 } : Room) s m #[(.ref r), (.int (0 : Int32)), (.int (3 : Int32))] below meth c s₁ [] 0 0 := Stand.of_body Bd
  have e0 : s₁.heap = h0 := by rw [← hh, Bd.state]; rfl
  have N0 := Fr.nil n0
  show own_Go p e below (own_K s (own_Q_lk03 Z r kr cc nx u2 h0 n0) ({ frames := 0, cells := 0, slots := 0, locals := 0 } : Room).cells ({ frames := 0, cells := 0, slots := 0, locals := 0 } : Room).slots) s₁ (entryFrame m #[(.ref r), (.int (0 : Int32)), (.int (3 : Int32))] 5)
  rw [own_ef_lk03 m r (0 : Int32) (3 : Int32)]
  show own_Go p e below _ s₁ (mkF m 0 #[rv r, iv 0, iv 3, .unset, .unset] [])
  refine own_st (fun _ k => XS.iloadN X0.here hx rfl (hb hby own_dg_0) rfl k) ?_
  show own_Go p e below _ s₁ (mkF m 1 #[rv r, iv 0, iv 3, .unset, .unset] [(.int 0)])
  refine own_st (fun _ k => XS.iloadN X0.here hx rfl (hb hby own_dg_1) rfl k) ?_
  show own_Go p e below _ s₁ (mkF m 2 #[rv r, iv 0, iv 3, .unset, .unset] [(.int 3), (.int 0)])
  refine own_st (fun _ k => XS.icmpYes X0.here hx rfl (pc0 := 2) (pc' := 7) rfl (hb hby own_dg_2) rfl (XT.ii_lt_t (by decide)) (by decide) (by decide) k) ?_
  show own_Go p e below _ s₁ (mkF m 7 #[rv r, iv 0, iv 3, .unset, .unset] [])
  refine own_st (fun _ k => XS.iloadN X0.here hx rfl (hb hby own_dg_7) rfl k) ?_
  show own_Go p e below _ s₁ (mkF m 8 #[rv r, iv 0, iv 3, .unset, .unset] [(.int 0)])
  refine own_st (fun _ k => XS.ifNo X0.here hx rfl (hb hby own_dg_8) rfl (XT.i0_ne_f (by decide)) k) ?_
  show own_Go p e below _ s₁ (mkF m 11 #[rv r, iv 0, iv 3, .unset, .unset] [])
  refine own_st (fun _ k => XS.aconstNull X0.here hx rfl (hb hby own_dg_11) k) ?_
  show own_Go p e below _ s₁ (mkF m 12 #[rv r, iv 0, iv 3, .unset, .unset] [.null])
  refine own_st (fun _ k => XS.goto X0.here hx rfl (pc0 := 12) (pc' := 20) rfl (hb hby own_dg_12) (by decide) (by decide) k) ?_
  show own_Go p e below _ s₁ (mkF m 20 #[rv r, iv 0, iv 3, .unset, .unset] [.null])
  refine own_st (fun _ k => XS.astoreN X0.here hx rfl (hb hby own_dg_20) rfl rfl (l' := #[rv r, iv 0, iv 3, .val .null, .unset]) rfl k) ?_
  show own_Go p e below _ s₁ (mkF m 21 #[rv r, iv 0, iv 3, .val .null, .unset] [])
  refine own_st (fun _ k => XS.iloadN X0.here hx rfl (hb hby own_dg_21) rfl k) ?_
  show own_Go p e below _ s₁ (mkF m 22 #[rv r, iv 0, iv 3, .val .null, .unset] [(.int 0)])
  refine own_st (fun _ k => XS.iloadN X0.here hx rfl (hb hby own_dg_22) rfl k) ?_
  show own_Go p e below _ s₁ (mkF m 23 #[rv r, iv 0, iv 3, .val .null, .unset] [(.int 3), (.int 0)])
  refine own_st (fun _ k => XT.iconstV X0.here hx rfl (1 : Int32) (hb hby own_dg_23) (by decide) k) ?_
  show own_Go p e below _ s₁ (mkF m 24 #[rv r, iv 0, iv 3, .val .null, .unset] [(.int 1), (.int 3), (.int 0)])
  refine own_st (fun _ k => XS.isub X0.here hx rfl (hb hby own_dg_24) rfl k) ?_
  show own_Go p e below _ s₁ (mkF m 25 #[rv r, iv 0, iv 3, .val .null, .unset] [(.int (3 - 1)), (.int 0)])
  refine own_st (fun _ k => XS.icmpYes X0.here hx rfl (pc0 := 25) (pc' := 32) rfl (hb hby own_dg_25) rfl (XT.ii_ne_t (by decide)) (by decide) (by decide) k) ?_
  show own_Go p e below _ s₁ (mkF m 32 #[rv r, iv 0, iv 3, .val .null, .unset] [])
  refine own_st (fun _ k => XS.aloadN X0.here hx rfl (hb hby own_dg_32) rfl rfl k) ?_
  show own_Go p e below _ s₁ (mkF m 33 #[rv r, iv 0, iv 3, .val .null, .unset] [(.ref r)])
  refine own_st (fun _ k => XS.iloadN X0.here hx rfl (hb hby own_dg_33) rfl k) ?_
  show own_Go p e below _ s₁ (mkF m 34 #[rv r, iv 0, iv 3, .val .null, .unset] [(.int 0), (.ref r)])
  refine own_st (fun _ k => XT.iconstV X0.here hx rfl (1 : Int32) (hb hby own_dg_34) (by decide) k) ?_
  show own_Go p e below _ s₁ (mkF m 35 #[rv r, iv 0, iv 3, .val .null, .unset] [(.int 1), (.int 0), (.ref r)])
  refine own_st (fun _ k => XS.iadd X0.here hx rfl (hb hby own_dg_35) rfl k) ?_
  show own_Go p e below _ s₁ (mkF m 36 #[rv r, iv 0, iv 3, .val .null, .unset] [(.int (0 + 1)), (.ref r)])
  show own_Go p e below _ s₁ (mkF m 36 #[rv r, iv 0, iv 3, .val .null, .unset] [(.int 1), (.ref r)])
  refine own_st (fun _ k => own_ldR X0 hx hZ e0 VR rfl ⟨by decide, by decide⟩ (v := (.ref nx)) rfl rfl rfl (hb hby own_dg_36) k) ?_
  show own_Go p e below _ s₁ (mkF m 37 #[rv r, iv 0, iv 3, .val .null, .unset] [(.ref nx)])
  refine own_st (fun _ k => XS.astore X0.here hx rfl (hb hby own_dg_37) rfl rfl (l' := #[rv r, iv 0, iv 3, .val .null, rv nx]) rfl k) ?_
  show own_Go p e below _ s₁ (mkF m 39 #[rv r, iv 0, iv 3, .val .null, rv nx] [])
  refine own_st (fun _ k => XS.aloadN X0.here hx rfl (hb hby own_dg_39) rfl rfl k) ?_
  show own_Go p e below _ s₁ (mkF m 40 #[rv r, iv 0, iv 3, .val .null, rv nx] [(.ref r)])
  refine own_st (fun _ k => XS.iloadN X0.here hx rfl (hb hby own_dg_40) rfl k) ?_
  show own_Go p e below _ s₁ (mkF m 41 #[rv r, iv 0, iv 3, .val .null, rv nx] [(.int 0), (.ref r)])
  refine own_st (fun _ k => own_ldR X0 hx hZ e0 VR rfl ⟨by decide, by decide⟩ (v := (.ref cc)) rfl rfl rfl (hb hby own_dg_41) k) ?_
  show own_Go p e below _ s₁ (mkF m 42 #[rv r, iv 0, iv 3, .val .null, rv nx] [(.ref cc)])
  obtain ⟨T1, X1, e1, st1⟩ := getF X0 hx hZ hown (host := "") (Or.inl (hw _ (List.mem_of_getElem? (i := 44) rfl))) (Via.of (hw _ (List.mem_of_getElem? (i := 45) rfl))) e0 FP (g := (mkF m 42 #[rv r, iv 0, iv 3, .val .null, rv nx] [(.ref cc)])) rfl rfl (hb hby own_dg_42)
  clear X0 e0
  refine own_st st1 ?_
  clear st1
  show own_Go p e below _ T1 (mkF m 45 #[rv r, iv 0, iv 3, .val .null, rv nx] [.null])
  refine own_st (fun _ k => XS.aloadN X1.here hx rfl (hb hby own_dg_45) rfl rfl k) ?_
  show own_Go p e below _ T1 (mkF m 46 #[rv r, iv 0, iv 3, .val .null, rv nx] [.null, .null])
  refine own_st (fun _ k => XT.acmpNo X1.here hx rfl (hb hby own_dg_46) rfl rfl rfl (XT.aa_ne_f rfl) k) ?_
  show own_Go p e below _ T1 (mkF m 49 #[rv r, iv 0, iv 3, .val .null, rv nx] [])
  refine own_st (fun _ k => XS.aloadN X1.here hx rfl (hb hby own_dg_49) rfl rfl k) ?_
  show own_Go p e below _ T1 (mkF m 50 #[rv r, iv 0, iv 3, .val .null, rv nx] [(.ref r)])
  refine own_st (fun _ k => XS.iloadN X1.here hx rfl (hb hby own_dg_50) rfl k) ?_
  show own_Go p e below _ T1 (mkF m 51 #[rv r, iv 0, iv 3, .val .null, rv nx] [(.int 0), (.ref r)])
  refine own_st (fun _ k => own_ldR X1 hx hZ e1 VR rfl ⟨by decide, by decide⟩ (v := (.ref cc)) rfl rfl rfl (hb hby own_dg_51) k) ?_
  show own_Go p e below _ T1 (mkF m 52 #[rv r, iv 0, iv 3, .val .null, rv nx] [(.ref cc)])
  obtain ⟨T2, X2, e2, st2⟩ := getF X1 hx hZ hown (host := "") (Or.inl (hw _ (List.mem_of_getElem? (i := 46) rfl))) (Via.of (hw _ (List.mem_of_getElem? (i := 47) rfl))) e1 FN (g := (mkF m 52 #[rv r, iv 0, iv 3, .val .null, rv nx] [(.ref cc)])) rfl rfl (hb hby own_dg_52)
  clear X1 e1
  refine own_st st2 ?_
  clear st2
  show own_Go p e below _ T2 (mkF m 55 #[rv r, iv 0, iv 3, .val .null, rv nx] [(.ref nx)])
  refine own_st (fun _ k => XS.aload X2.here hx rfl (hb hby own_dg_55) rfl rfl k) ?_
  show own_Go p e below _ T2 (mkF m 57 #[rv r, iv 0, iv 3, .val .null, rv nx] [(.ref nx), (.ref nx)])
  refine own_st (fun _ k => XT.acmpNo X2.here hx rfl (hb hby own_dg_57) rfl rfl rfl (XT.aa_ne_f rfl) k) ?_
  show own_Go p e below _ T2 (mkF m 60 #[rv r, iv 0, iv 3, .val .null, rv nx] [])
  refine own_st (fun _ k => XT.iconstV X2.here hx rfl (1 : Int32) (hb hby own_dg_60) (by decide) k) ?_
  show own_Go p e below _ T2 (mkF m 61 #[rv r, iv 0, iv 3, .val .null, rv nx] [(.int 1)])
  refine own_st (fun _ k => XS.goto X2.here hx rfl (pc0 := 61) (pc' := 65) rfl (hb hby own_dg_61) (by decide) (by decide) k) ?_
  show own_Go p e below _ T2 (mkF m 65 #[rv r, iv 0, iv 3, .val .null, rv nx] [(.int 1)])
  refine own_retN X2 hx Bd.notSynchronized (t := .boolean) Bd.returns (by simp) (hb hby own_dg_65) (by decide) (by decide) ?_
  rw [e2]
  exact ⟨rfl, N0, rfl⟩
theorem own_ef_lk13 (m : MethodId) (x0 : Addr) (x1 : Int32) (x2 : Int32) : entryFrame m #[(.ref x0), (.int x1), (.int x2)] 5 = mkF m 0 #[.val (.ref x0), .val (.int x1), .val (.int x2), .unset, .unset] [] := by first | (simp [entryFrame, mkF, argsToLocals, Value.category]; done) | rfl
def own_Q_lk13 (Z : State) (r : Addr) (kr : ClassId) (cc : Addr) (pv : Addr) (nx : Addr) (h0 : Heap) (n0 : Nat) (v : Option Value) (h : Heap) (L : List Loc) : Prop := v = some (.int 1) ∧ Fr n0 L ∧ h = h0
set_option maxRecDepth 65536 in
set_option maxHeartbeats 40000000 in
theorem own_rm_lk13 (l : Launch) (Z : State) (a0 : Array Value) (hw : ∀ d ∈ tables_1, d.before a0 Z = true) (ws : List Jvm.Cond) (r : Addr) (kr : ClassId) (cc : Addr) (pv : Addr) (nx : Addr) (h0 : Heap) (n0 : Nat) (Z0 : n0 ≤ h0.size) (VR : Arv Z h0 r kr (.object "com/example/recency/recency/RecencyListRemovePinLaw") (3 : Int32) [(.ref pv), (.ref cc), (.ref nx)] .null) (FP : Fld Z h0 cc "com/example/recency/recency/RecencyList$Link" "previous" "Lcom/example/recency/recency/RecencyList$Link;" (.ref pv)) (FN : Fld Z h0 cc "com/example/recency/recency/RecencyList$Link" "next" "Lcom/example/recency/recency/RecencyList$Link;" (.ref nx)) :
    MetFree l (⟨"com/example/recency/recency/RecencyListRemovePinLaw", "linked", "([Lcom/example/recency/recency/RecencyListRemovePinLaw;II)Z"⟩ : MethodName) (head1 (Jvm.Cond.code (⟨"com/example/recency/recency/RecencyListRemovePinLaw", "linked", "([Lcom/example/recency/recency/RecencyListRemovePinLaw;II)Z"⟩ : MethodName) method_3_code 5 (some .boolean) :: ws) ({ frames := 0, cells := 0, slots := 0, locals := 0 } : Room)) (fun zz U => zz = #[(.ref r), (.int (1 : Int32)), (.int (3 : Int32))] ∧ Z.Warmed39 U.vm ∧ U.heap = h0) (fun _ _ _ _ _ => True) (fun _ U zo U' => ∃ v L, zo = .returned v ∧ own_Q_lk13 Z r kr cc pv nx h0 n0 v U'.heap L ∧ FrameEnd U zo U' L ({ frames := 0, cells := 0, slots := 0, locals := 0 } : Room).cells ({ frames := 0, cells := 0, slots := 0, locals := 0 } : Room).slots) := by
  refine MetFree.of_bodySF (plainFor_of_name own_pn2) hisR ?_
  intro p e s m args below meth c s₁ Bd hml0 hP hK
  obtain ⟨rfl, hZ, hh⟩ := hP
  have hx := Bd.exec
  have hby := Bd.bytes
  have hml : c.maxLocals = 5 := hml0
  have hown : s.vm.findClass "com/example/recency/recency/RecencyListRemovePinLaw" = some m.cls := findClass_of_methodNamed Bd.named
  have hnm := (name_of_methodNamed Bd.named Bd.method).1
  have X0 : Stand p l e ({ frames := 0, cells := 0, slots := 0, locals := 0 } : Room) s m #[(.ref r), (.int (1 : Int32)), (.int (3 : Int32))] below meth c s₁ [] 0 0 := Stand.of_body Bd
  have e0 : s₁.heap = h0 := by rw [← hh, Bd.state]; rfl
  have N0 := Fr.nil n0
  show own_Go p e below (own_K s (own_Q_lk13 Z r kr cc pv nx h0 n0) ({ frames := 0, cells := 0, slots := 0, locals := 0 } : Room).cells ({ frames := 0, cells := 0, slots := 0, locals := 0 } : Room).slots) s₁ (entryFrame m #[(.ref r), (.int (1 : Int32)), (.int (3 : Int32))] 5)
  rw [own_ef_lk13 m r (1 : Int32) (3 : Int32)]
  show own_Go p e below _ s₁ (mkF m 0 #[rv r, iv 1, iv 3, .unset, .unset] [])
  refine own_st (fun _ k => XS.iloadN X0.here hx rfl (hb hby own_dg_0) rfl k) ?_
  show own_Go p e below _ s₁ (mkF m 1 #[rv r, iv 1, iv 3, .unset, .unset] [(.int 1)])
  refine own_st (fun _ k => XS.iloadN X0.here hx rfl (hb hby own_dg_1) rfl k) ?_
  show own_Go p e below _ s₁ (mkF m 2 #[rv r, iv 1, iv 3, .unset, .unset] [(.int 3), (.int 1)])
  refine own_st (fun _ k => XS.icmpYes X0.here hx rfl (pc0 := 2) (pc' := 7) rfl (hb hby own_dg_2) rfl (XT.ii_lt_t (by decide)) (by decide) (by decide) k) ?_
  show own_Go p e below _ s₁ (mkF m 7 #[rv r, iv 1, iv 3, .unset, .unset] [])
  refine own_st (fun _ k => XS.iloadN X0.here hx rfl (hb hby own_dg_7) rfl k) ?_
  show own_Go p e below _ s₁ (mkF m 8 #[rv r, iv 1, iv 3, .unset, .unset] [(.int 1)])
  refine own_st (fun _ k => XS.ifYes X0.here hx rfl (pc0 := 8) (pc' := 15) rfl (hb hby own_dg_8) rfl (XT.i0_ne_t (by decide)) (by decide) (by decide) k) ?_
  show own_Go p e below _ s₁ (mkF m 15 #[rv r, iv 1, iv 3, .unset, .unset] [])
  refine own_st (fun _ k => XS.aloadN X0.here hx rfl (hb hby own_dg_15) rfl rfl k) ?_
  show own_Go p e below _ s₁ (mkF m 16 #[rv r, iv 1, iv 3, .unset, .unset] [(.ref r)])
  refine own_st (fun _ k => XS.iloadN X0.here hx rfl (hb hby own_dg_16) rfl k) ?_
  show own_Go p e below _ s₁ (mkF m 17 #[rv r, iv 1, iv 3, .unset, .unset] [(.int 1), (.ref r)])
  refine own_st (fun _ k => XT.iconstV X0.here hx rfl (1 : Int32) (hb hby own_dg_17) (by decide) k) ?_
  show own_Go p e below _ s₁ (mkF m 18 #[rv r, iv 1, iv 3, .unset, .unset] [(.int 1), (.int 1), (.ref r)])
  refine own_st (fun _ k => XS.isub X0.here hx rfl (hb hby own_dg_18) rfl k) ?_
  show own_Go p e below _ s₁ (mkF m 19 #[rv r, iv 1, iv 3, .unset, .unset] [(.int (1 - 1)), (.ref r)])
  show own_Go p e below _ s₁ (mkF m 19 #[rv r, iv 1, iv 3, .unset, .unset] [(.int 0), (.ref r)])
  refine own_st (fun _ k => own_ldR X0 hx hZ e0 VR rfl ⟨by decide, by decide⟩ (v := (.ref pv)) rfl rfl rfl (hb hby own_dg_19) k) ?_
  show own_Go p e below _ s₁ (mkF m 20 #[rv r, iv 1, iv 3, .unset, .unset] [(.ref pv)])
  refine own_st (fun _ k => XS.astoreN X0.here hx rfl (hb hby own_dg_20) rfl rfl (l' := #[rv r, iv 1, iv 3, rv pv, .unset]) rfl k) ?_
  show own_Go p e below _ s₁ (mkF m 21 #[rv r, iv 1, iv 3, rv pv, .unset] [])
  refine own_st (fun _ k => XS.iloadN X0.here hx rfl (hb hby own_dg_21) rfl k) ?_
  show own_Go p e below _ s₁ (mkF m 22 #[rv r, iv 1, iv 3, rv pv, .unset] [(.int 1)])
  refine own_st (fun _ k => XS.iloadN X0.here hx rfl (hb hby own_dg_22) rfl k) ?_
  show own_Go p e below _ s₁ (mkF m 23 #[rv r, iv 1, iv 3, rv pv, .unset] [(.int 3), (.int 1)])
  refine own_st (fun _ k => XT.iconstV X0.here hx rfl (1 : Int32) (hb hby own_dg_23) (by decide) k) ?_
  show own_Go p e below _ s₁ (mkF m 24 #[rv r, iv 1, iv 3, rv pv, .unset] [(.int 1), (.int 3), (.int 1)])
  refine own_st (fun _ k => XS.isub X0.here hx rfl (hb hby own_dg_24) rfl k) ?_
  show own_Go p e below _ s₁ (mkF m 25 #[rv r, iv 1, iv 3, rv pv, .unset] [(.int (3 - 1)), (.int 1)])
  refine own_st (fun _ k => XS.icmpYes X0.here hx rfl (pc0 := 25) (pc' := 32) rfl (hb hby own_dg_25) rfl (XT.ii_ne_t (by decide)) (by decide) (by decide) k) ?_
  show own_Go p e below _ s₁ (mkF m 32 #[rv r, iv 1, iv 3, rv pv, .unset] [])
  refine own_st (fun _ k => XS.aloadN X0.here hx rfl (hb hby own_dg_32) rfl rfl k) ?_
  show own_Go p e below _ s₁ (mkF m 33 #[rv r, iv 1, iv 3, rv pv, .unset] [(.ref r)])
  refine own_st (fun _ k => XS.iloadN X0.here hx rfl (hb hby own_dg_33) rfl k) ?_
  show own_Go p e below _ s₁ (mkF m 34 #[rv r, iv 1, iv 3, rv pv, .unset] [(.int 1), (.ref r)])
  refine own_st (fun _ k => XT.iconstV X0.here hx rfl (1 : Int32) (hb hby own_dg_34) (by decide) k) ?_
  show own_Go p e below _ s₁ (mkF m 35 #[rv r, iv 1, iv 3, rv pv, .unset] [(.int 1), (.int 1), (.ref r)])
  refine own_st (fun _ k => XS.iadd X0.here hx rfl (hb hby own_dg_35) rfl k) ?_
  show own_Go p e below _ s₁ (mkF m 36 #[rv r, iv 1, iv 3, rv pv, .unset] [(.int (1 + 1)), (.ref r)])
  show own_Go p e below _ s₁ (mkF m 36 #[rv r, iv 1, iv 3, rv pv, .unset] [(.int 2), (.ref r)])
  refine own_st (fun _ k => own_ldR X0 hx hZ e0 VR rfl ⟨by decide, by decide⟩ (v := (.ref nx)) rfl rfl rfl (hb hby own_dg_36) k) ?_
  show own_Go p e below _ s₁ (mkF m 37 #[rv r, iv 1, iv 3, rv pv, .unset] [(.ref nx)])
  refine own_st (fun _ k => XS.astore X0.here hx rfl (hb hby own_dg_37) rfl rfl (l' := #[rv r, iv 1, iv 3, rv pv, rv nx]) rfl k) ?_
  show own_Go p e below _ s₁ (mkF m 39 #[rv r, iv 1, iv 3, rv pv, rv nx] [])
  refine own_st (fun _ k => XS.aloadN X0.here hx rfl (hb hby own_dg_39) rfl rfl k) ?_
  show own_Go p e below _ s₁ (mkF m 40 #[rv r, iv 1, iv 3, rv pv, rv nx] [(.ref r)])
  refine own_st (fun _ k => XS.iloadN X0.here hx rfl (hb hby own_dg_40) rfl k) ?_
  show own_Go p e below _ s₁ (mkF m 41 #[rv r, iv 1, iv 3, rv pv, rv nx] [(.int 1), (.ref r)])
  refine own_st (fun _ k => own_ldR X0 hx hZ e0 VR rfl ⟨by decide, by decide⟩ (v := (.ref cc)) rfl rfl rfl (hb hby own_dg_41) k) ?_
  show own_Go p e below _ s₁ (mkF m 42 #[rv r, iv 1, iv 3, rv pv, rv nx] [(.ref cc)])
  obtain ⟨T1, X1, e1, st1⟩ := getF X0 hx hZ hown (host := "") (Or.inl (hw _ (List.mem_of_getElem? (i := 44) rfl))) (Via.of (hw _ (List.mem_of_getElem? (i := 45) rfl))) e0 FP (g := (mkF m 42 #[rv r, iv 1, iv 3, rv pv, rv nx] [(.ref cc)])) rfl rfl (hb hby own_dg_42)
  clear X0 e0
  refine own_st st1 ?_
  clear st1
  show own_Go p e below _ T1 (mkF m 45 #[rv r, iv 1, iv 3, rv pv, rv nx] [(.ref pv)])
  refine own_st (fun _ k => XS.aloadN X1.here hx rfl (hb hby own_dg_45) rfl rfl k) ?_
  show own_Go p e below _ T1 (mkF m 46 #[rv r, iv 1, iv 3, rv pv, rv nx] [(.ref pv), (.ref pv)])
  refine own_st (fun _ k => XT.acmpNo X1.here hx rfl (hb hby own_dg_46) rfl rfl rfl (XT.aa_ne_f rfl) k) ?_
  show own_Go p e below _ T1 (mkF m 49 #[rv r, iv 1, iv 3, rv pv, rv nx] [])
  refine own_st (fun _ k => XS.aloadN X1.here hx rfl (hb hby own_dg_49) rfl rfl k) ?_
  show own_Go p e below _ T1 (mkF m 50 #[rv r, iv 1, iv 3, rv pv, rv nx] [(.ref r)])
  refine own_st (fun _ k => XS.iloadN X1.here hx rfl (hb hby own_dg_50) rfl k) ?_
  show own_Go p e below _ T1 (mkF m 51 #[rv r, iv 1, iv 3, rv pv, rv nx] [(.int 1), (.ref r)])
  refine own_st (fun _ k => own_ldR X1 hx hZ e1 VR rfl ⟨by decide, by decide⟩ (v := (.ref cc)) rfl rfl rfl (hb hby own_dg_51) k) ?_
  show own_Go p e below _ T1 (mkF m 52 #[rv r, iv 1, iv 3, rv pv, rv nx] [(.ref cc)])
  obtain ⟨T2, X2, e2, st2⟩ := getF X1 hx hZ hown (host := "") (Or.inl (hw _ (List.mem_of_getElem? (i := 46) rfl))) (Via.of (hw _ (List.mem_of_getElem? (i := 47) rfl))) e1 FN (g := (mkF m 52 #[rv r, iv 1, iv 3, rv pv, rv nx] [(.ref cc)])) rfl rfl (hb hby own_dg_52)
  clear X1 e1
  refine own_st st2 ?_
  clear st2
  show own_Go p e below _ T2 (mkF m 55 #[rv r, iv 1, iv 3, rv pv, rv nx] [(.ref nx)])
  refine own_st (fun _ k => XS.aload X2.here hx rfl (hb hby own_dg_55) rfl rfl k) ?_
  show own_Go p e below _ T2 (mkF m 57 #[rv r, iv 1, iv 3, rv pv, rv nx] [(.ref nx), (.ref nx)])
  refine own_st (fun _ k => XT.acmpNo X2.here hx rfl (hb hby own_dg_57) rfl rfl rfl (XT.aa_ne_f rfl) k) ?_
  show own_Go p e below _ T2 (mkF m 60 #[rv r, iv 1, iv 3, rv pv, rv nx] [])
  refine own_st (fun _ k => XT.iconstV X2.here hx rfl (1 : Int32) (hb hby own_dg_60) (by decide) k) ?_
  show own_Go p e below _ T2 (mkF m 61 #[rv r, iv 1, iv 3, rv pv, rv nx] [(.int 1)])
  refine own_st (fun _ k => XS.goto X2.here hx rfl (pc0 := 61) (pc' := 65) rfl (hb hby own_dg_61) (by decide) (by decide) k) ?_
  show own_Go p e below _ T2 (mkF m 65 #[rv r, iv 1, iv 3, rv pv, rv nx] [(.int 1)])
  refine own_retN X2 hx Bd.notSynchronized (t := .boolean) Bd.returns (by simp) (hb hby own_dg_65) (by decide) (by decide) ?_
  rw [e2]
  exact ⟨rfl, N0, rfl⟩
theorem own_ef_lk23 (m : MethodId) (x0 : Addr) (x1 : Int32) (x2 : Int32) : entryFrame m #[(.ref x0), (.int x1), (.int x2)] 5 = mkF m 0 #[.val (.ref x0), .val (.int x1), .val (.int x2), .unset, .unset] [] := by first | (simp [entryFrame, mkF, argsToLocals, Value.category]; done) | rfl
def own_Q_lk23 (Z : State) (r : Addr) (kr : ClassId) (cc : Addr) (pv : Addr) (u0 : Value) (h0 : Heap) (n0 : Nat) (v : Option Value) (h : Heap) (L : List Loc) : Prop := v = some (.int 1) ∧ Fr n0 L ∧ h = h0
set_option maxRecDepth 65536 in
set_option maxHeartbeats 40000000 in
theorem own_rm_lk23 (l : Launch) (Z : State) (a0 : Array Value) (hw : ∀ d ∈ tables_1, d.before a0 Z = true) (ws : List Jvm.Cond) (r : Addr) (kr : ClassId) (cc : Addr) (pv : Addr) (u0 : Value) (h0 : Heap) (n0 : Nat) (Z0 : n0 ≤ h0.size) (VR : Arv Z h0 r kr (.object "com/example/recency/recency/RecencyListRemovePinLaw") (3 : Int32) [u0, (.ref pv), (.ref cc)] .null) (FP : Fld Z h0 cc "com/example/recency/recency/RecencyList$Link" "previous" "Lcom/example/recency/recency/RecencyList$Link;" (.ref pv)) (FN : Fld Z h0 cc "com/example/recency/recency/RecencyList$Link" "next" "Lcom/example/recency/recency/RecencyList$Link;" .null) :
    MetFree l (⟨"com/example/recency/recency/RecencyListRemovePinLaw", "linked", "([Lcom/example/recency/recency/RecencyListRemovePinLaw;II)Z"⟩ : MethodName) (head1 (Jvm.Cond.code (⟨"com/example/recency/recency/RecencyListRemovePinLaw", "linked", "([Lcom/example/recency/recency/RecencyListRemovePinLaw;II)Z"⟩ : MethodName) method_3_code 5 (some .boolean) :: ws) ({ frames := 0, cells := 0, slots := 0, locals := 0 } : Room)) (fun zz U => zz = #[(.ref r), (.int (2 : Int32)), (.int (3 : Int32))] ∧ Z.Warmed39 U.vm ∧ U.heap = h0) (fun _ _ _ _ _ => True) (fun _ U zo U' => ∃ v L, zo = .returned v ∧ own_Q_lk23 Z r kr cc pv u0 h0 n0 v U'.heap L ∧ FrameEnd U zo U' L ({ frames := 0, cells := 0, slots := 0, locals := 0 } : Room).cells ({ frames := 0, cells := 0, slots := 0, locals := 0 } : Room).slots) := by
  refine MetFree.of_bodySF (plainFor_of_name own_pn2) hisR ?_
  intro p e s m args below meth c s₁ Bd hml0 hP hK
  obtain ⟨rfl, hZ, hh⟩ := hP
  have hx := Bd.exec
  have hby := Bd.bytes
  have hml : c.maxLocals = 5 := hml0
  have hown : s.vm.findClass "com/example/recency/recency/RecencyListRemovePinLaw" = some m.cls := findClass_of_methodNamed Bd.named
  have hnm := (name_of_methodNamed Bd.named Bd.method).1
  have X0 : Stand p l e ({ frames := 0, cells := 0, slots := 0, locals := 0 } : Room) s m #[(.ref r), (.int (2 : Int32)), (.int (3 : Int32))] below meth c s₁ [] 0 0 := Stand.of_body Bd
  have e0 : s₁.heap = h0 := by rw [← hh, Bd.state]; rfl
  have N0 := Fr.nil n0
  show own_Go p e below (own_K s (own_Q_lk23 Z r kr cc pv u0 h0 n0) ({ frames := 0, cells := 0, slots := 0, locals := 0 } : Room).cells ({ frames := 0, cells := 0, slots := 0, locals := 0 } : Room).slots) s₁ (entryFrame m #[(.ref r), (.int (2 : Int32)), (.int (3 : Int32))] 5)
  rw [own_ef_lk23 m r (2 : Int32) (3 : Int32)]
  show own_Go p e below _ s₁ (mkF m 0 #[rv r, iv 2, iv 3, .unset, .unset] [])
  refine own_st (fun _ k => XS.iloadN X0.here hx rfl (hb hby own_dg_0) rfl k) ?_
  show own_Go p e below _ s₁ (mkF m 1 #[rv r, iv 2, iv 3, .unset, .unset] [(.int 2)])
  refine own_st (fun _ k => XS.iloadN X0.here hx rfl (hb hby own_dg_1) rfl k) ?_
  show own_Go p e below _ s₁ (mkF m 2 #[rv r, iv 2, iv 3, .unset, .unset] [(.int 3), (.int 2)])
  refine own_st (fun _ k => XS.icmpYes X0.here hx rfl (pc0 := 2) (pc' := 7) rfl (hb hby own_dg_2) rfl (XT.ii_lt_t (by decide)) (by decide) (by decide) k) ?_
  show own_Go p e below _ s₁ (mkF m 7 #[rv r, iv 2, iv 3, .unset, .unset] [])
  refine own_st (fun _ k => XS.iloadN X0.here hx rfl (hb hby own_dg_7) rfl k) ?_
  show own_Go p e below _ s₁ (mkF m 8 #[rv r, iv 2, iv 3, .unset, .unset] [(.int 2)])
  refine own_st (fun _ k => XS.ifYes X0.here hx rfl (pc0 := 8) (pc' := 15) rfl (hb hby own_dg_8) rfl (XT.i0_ne_t (by decide)) (by decide) (by decide) k) ?_
  show own_Go p e below _ s₁ (mkF m 15 #[rv r, iv 2, iv 3, .unset, .unset] [])
  refine own_st (fun _ k => XS.aloadN X0.here hx rfl (hb hby own_dg_15) rfl rfl k) ?_
  show own_Go p e below _ s₁ (mkF m 16 #[rv r, iv 2, iv 3, .unset, .unset] [(.ref r)])
  refine own_st (fun _ k => XS.iloadN X0.here hx rfl (hb hby own_dg_16) rfl k) ?_
  show own_Go p e below _ s₁ (mkF m 17 #[rv r, iv 2, iv 3, .unset, .unset] [(.int 2), (.ref r)])
  refine own_st (fun _ k => XT.iconstV X0.here hx rfl (1 : Int32) (hb hby own_dg_17) (by decide) k) ?_
  show own_Go p e below _ s₁ (mkF m 18 #[rv r, iv 2, iv 3, .unset, .unset] [(.int 1), (.int 2), (.ref r)])
  refine own_st (fun _ k => XS.isub X0.here hx rfl (hb hby own_dg_18) rfl k) ?_
  show own_Go p e below _ s₁ (mkF m 19 #[rv r, iv 2, iv 3, .unset, .unset] [(.int (2 - 1)), (.ref r)])
  show own_Go p e below _ s₁ (mkF m 19 #[rv r, iv 2, iv 3, .unset, .unset] [(.int 1), (.ref r)])
  refine own_st (fun _ k => own_ldR X0 hx hZ e0 VR rfl ⟨by decide, by decide⟩ (v := (.ref pv)) rfl rfl rfl (hb hby own_dg_19) k) ?_
  show own_Go p e below _ s₁ (mkF m 20 #[rv r, iv 2, iv 3, .unset, .unset] [(.ref pv)])
  refine own_st (fun _ k => XS.astoreN X0.here hx rfl (hb hby own_dg_20) rfl rfl (l' := #[rv r, iv 2, iv 3, rv pv, .unset]) rfl k) ?_
  show own_Go p e below _ s₁ (mkF m 21 #[rv r, iv 2, iv 3, rv pv, .unset] [])
  refine own_st (fun _ k => XS.iloadN X0.here hx rfl (hb hby own_dg_21) rfl k) ?_
  show own_Go p e below _ s₁ (mkF m 22 #[rv r, iv 2, iv 3, rv pv, .unset] [(.int 2)])
  refine own_st (fun _ k => XS.iloadN X0.here hx rfl (hb hby own_dg_22) rfl k) ?_
  show own_Go p e below _ s₁ (mkF m 23 #[rv r, iv 2, iv 3, rv pv, .unset] [(.int 3), (.int 2)])
  refine own_st (fun _ k => XT.iconstV X0.here hx rfl (1 : Int32) (hb hby own_dg_23) (by decide) k) ?_
  show own_Go p e below _ s₁ (mkF m 24 #[rv r, iv 2, iv 3, rv pv, .unset] [(.int 1), (.int 3), (.int 2)])
  refine own_st (fun _ k => XS.isub X0.here hx rfl (hb hby own_dg_24) rfl k) ?_
  show own_Go p e below _ s₁ (mkF m 25 #[rv r, iv 2, iv 3, rv pv, .unset] [(.int (3 - 1)), (.int 2)])
  refine own_st (fun _ k => XS.icmpNo X0.here hx rfl (hb hby own_dg_25) rfl (XT.ii_ne_f (by decide)) k) ?_
  show own_Go p e below _ s₁ (mkF m 28 #[rv r, iv 2, iv 3, rv pv, .unset] [])
  refine own_st (fun _ k => XS.aconstNull X0.here hx rfl (hb hby own_dg_28) k) ?_
  show own_Go p e below _ s₁ (mkF m 29 #[rv r, iv 2, iv 3, rv pv, .unset] [.null])
  refine own_st (fun _ k => XS.goto X0.here hx rfl (pc0 := 29) (pc' := 37) rfl (hb hby own_dg_29) (by decide) (by decide) k) ?_
  show own_Go p e below _ s₁ (mkF m 37 #[rv r, iv 2, iv 3, rv pv, .unset] [.null])
  refine own_st (fun _ k => XS.astore X0.here hx rfl (hb hby own_dg_37) rfl rfl (l' := #[rv r, iv 2, iv 3, rv pv, .val .null]) rfl k) ?_
  show own_Go p e below _ s₁ (mkF m 39 #[rv r, iv 2, iv 3, rv pv, .val .null] [])
  refine own_st (fun _ k => XS.aloadN X0.here hx rfl (hb hby own_dg_39) rfl rfl k) ?_
  show own_Go p e below _ s₁ (mkF m 40 #[rv r, iv 2, iv 3, rv pv, .val .null] [(.ref r)])
  refine own_st (fun _ k => XS.iloadN X0.here hx rfl (hb hby own_dg_40) rfl k) ?_
  show own_Go p e below _ s₁ (mkF m 41 #[rv r, iv 2, iv 3, rv pv, .val .null] [(.int 2), (.ref r)])
  refine own_st (fun _ k => own_ldR X0 hx hZ e0 VR rfl ⟨by decide, by decide⟩ (v := (.ref cc)) rfl rfl rfl (hb hby own_dg_41) k) ?_
  show own_Go p e below _ s₁ (mkF m 42 #[rv r, iv 2, iv 3, rv pv, .val .null] [(.ref cc)])
  obtain ⟨T1, X1, e1, st1⟩ := getF X0 hx hZ hown (host := "") (Or.inl (hw _ (List.mem_of_getElem? (i := 44) rfl))) (Via.of (hw _ (List.mem_of_getElem? (i := 45) rfl))) e0 FP (g := (mkF m 42 #[rv r, iv 2, iv 3, rv pv, .val .null] [(.ref cc)])) rfl rfl (hb hby own_dg_42)
  clear X0 e0
  refine own_st st1 ?_
  clear st1
  show own_Go p e below _ T1 (mkF m 45 #[rv r, iv 2, iv 3, rv pv, .val .null] [(.ref pv)])
  refine own_st (fun _ k => XS.aloadN X1.here hx rfl (hb hby own_dg_45) rfl rfl k) ?_
  show own_Go p e below _ T1 (mkF m 46 #[rv r, iv 2, iv 3, rv pv, .val .null] [(.ref pv), (.ref pv)])
  refine own_st (fun _ k => XT.acmpNo X1.here hx rfl (hb hby own_dg_46) rfl rfl rfl (XT.aa_ne_f rfl) k) ?_
  show own_Go p e below _ T1 (mkF m 49 #[rv r, iv 2, iv 3, rv pv, .val .null] [])
  refine own_st (fun _ k => XS.aloadN X1.here hx rfl (hb hby own_dg_49) rfl rfl k) ?_
  show own_Go p e below _ T1 (mkF m 50 #[rv r, iv 2, iv 3, rv pv, .val .null] [(.ref r)])
  refine own_st (fun _ k => XS.iloadN X1.here hx rfl (hb hby own_dg_50) rfl k) ?_
  show own_Go p e below _ T1 (mkF m 51 #[rv r, iv 2, iv 3, rv pv, .val .null] [(.int 2), (.ref r)])
  refine own_st (fun _ k => own_ldR X1 hx hZ e1 VR rfl ⟨by decide, by decide⟩ (v := (.ref cc)) rfl rfl rfl (hb hby own_dg_51) k) ?_
  show own_Go p e below _ T1 (mkF m 52 #[rv r, iv 2, iv 3, rv pv, .val .null] [(.ref cc)])
  obtain ⟨T2, X2, e2, st2⟩ := getF X1 hx hZ hown (host := "") (Or.inl (hw _ (List.mem_of_getElem? (i := 46) rfl))) (Via.of (hw _ (List.mem_of_getElem? (i := 47) rfl))) e1 FN (g := (mkF m 52 #[rv r, iv 2, iv 3, rv pv, .val .null] [(.ref cc)])) rfl rfl (hb hby own_dg_52)
  clear X1 e1
  refine own_st st2 ?_
  clear st2
  show own_Go p e below _ T2 (mkF m 55 #[rv r, iv 2, iv 3, rv pv, .val .null] [.null])
  refine own_st (fun _ k => XS.aload X2.here hx rfl (hb hby own_dg_55) rfl rfl k) ?_
  show own_Go p e below _ T2 (mkF m 57 #[rv r, iv 2, iv 3, rv pv, .val .null] [.null, .null])
  refine own_st (fun _ k => XT.acmpNo X2.here hx rfl (hb hby own_dg_57) rfl rfl rfl (XT.aa_ne_f rfl) k) ?_
  show own_Go p e below _ T2 (mkF m 60 #[rv r, iv 2, iv 3, rv pv, .val .null] [])
  refine own_st (fun _ k => XT.iconstV X2.here hx rfl (1 : Int32) (hb hby own_dg_60) (by decide) k) ?_
  show own_Go p e below _ T2 (mkF m 61 #[rv r, iv 2, iv 3, rv pv, .val .null] [(.int 1)])
  refine own_st (fun _ k => XS.goto X2.here hx rfl (pc0 := 61) (pc' := 65) rfl (hb hby own_dg_61) (by decide) (by decide) k) ?_
  show own_Go p e below _ T2 (mkF m 65 #[rv r, iv 2, iv 3, rv pv, .val .null] [(.int 1)])
  refine own_retN X2 hx Bd.notSynchronized (t := .boolean) Bd.returns (by simp) (hb hby own_dg_65) (by decide) (by decide) ?_
  rw [e2]
  exact ⟨rfl, N0, rfl⟩
theorem own_rem1 (x : Int32) : ∃ k : Nat, k < 1 ∧ (x &&& (2147483647 : Int32)) % (1 : Int32) = Int32.ofNat k := by
  have e1 : (x &&& (2147483647 : Int32)).toInt = x.toInt % 2 ^ 31 := Jvm.Kit.i32_mask x 2147483647 (k := 31) (by decide) (by decide)
  have e2 : ((x &&& (2147483647 : Int32)) % (1 : Int32)).toInt = (x &&& (2147483647 : Int32)).toInt.tmod 1 := by rw [Int32.toInt_mod]; rfl
  refine ⟨(x.toInt % 2 ^ 31 % 1).toNat, by omega, ?_⟩
  apply Int32.toInt_inj.mp
  rw [e2, e1, Int.tmod_eq_emod_of_nonneg (by omega), Int32.toInt_ofNat_of_lt (by omega)]
  omega
theorem own_cases1 (x : Int32) : ∃ i : Int32, (x &&& (2147483647 : Int32)) % (1 : Int32) = i ∧ (i = 0) := by
  obtain ⟨k, hk, e⟩ := own_rem1 x
  refine ⟨_, e, ?_⟩
  have hk' : k = 0 := by omega
  rcases hk' with rfl <;> decide
theorem own_rem2 (x : Int32) : ∃ k : Nat, k < 2 ∧ (x &&& (2147483647 : Int32)) % (2 : Int32) = Int32.ofNat k := by
  have e1 : (x &&& (2147483647 : Int32)).toInt = x.toInt % 2 ^ 31 := Jvm.Kit.i32_mask x 2147483647 (k := 31) (by decide) (by decide)
  have e2 : ((x &&& (2147483647 : Int32)) % (2 : Int32)).toInt = (x &&& (2147483647 : Int32)).toInt.tmod 2 := by rw [Int32.toInt_mod]; rfl
  refine ⟨(x.toInt % 2 ^ 31 % 2).toNat, by omega, ?_⟩
  apply Int32.toInt_inj.mp
  rw [e2, e1, Int.tmod_eq_emod_of_nonneg (by omega), Int32.toInt_ofNat_of_lt (by omega)]
  omega
theorem own_cases2 (x : Int32) : ∃ i : Int32, (x &&& (2147483647 : Int32)) % (2 : Int32) = i ∧ (i = 0 ∨ i = 1) := by
  obtain ⟨k, hk, e⟩ := own_rem2 x
  refine ⟨_, e, ?_⟩
  have hk' : k = 0 ∨ k = 1 := by omega
  rcases hk' with rfl | rfl <;> decide
theorem own_rem3 (x : Int32) : ∃ k : Nat, k < 3 ∧ (x &&& (2147483647 : Int32)) % (3 : Int32) = Int32.ofNat k := by
  have e1 : (x &&& (2147483647 : Int32)).toInt = x.toInt % 2 ^ 31 := Jvm.Kit.i32_mask x 2147483647 (k := 31) (by decide) (by decide)
  have e2 : ((x &&& (2147483647 : Int32)) % (3 : Int32)).toInt = (x &&& (2147483647 : Int32)).toInt.tmod 3 := by rw [Int32.toInt_mod]; rfl
  refine ⟨(x.toInt % 2 ^ 31 % 3).toNat, by omega, ?_⟩
  apply Int32.toInt_inj.mp
  rw [e2, e1, Int.tmod_eq_emod_of_nonneg (by omega), Int32.toInt_ofNat_of_lt (by omega)]
  omega
theorem own_cases3 (x : Int32) : ∃ i : Int32, (x &&& (2147483647 : Int32)) % (3 : Int32) = i ∧ (i = 0 ∨ i = 1 ∨ i = 2) := by
  obtain ⟨k, hk, e⟩ := own_rem3 x
  refine ⟨_, e, ?_⟩
  have hk' : k = 0 ∨ k = 1 ∨ k = 2 := by omega
  rcases hk' with rfl | rfl | rfl <;> decide
theorem own_rem4 (x : Int32) : ∃ k : Nat, k < 4 ∧ (x &&& (2147483647 : Int32)) % (4 : Int32) = Int32.ofNat k := by
  have e1 : (x &&& (2147483647 : Int32)).toInt = x.toInt % 2 ^ 31 := Jvm.Kit.i32_mask x 2147483647 (k := 31) (by decide) (by decide)
  have e2 : ((x &&& (2147483647 : Int32)) % (4 : Int32)).toInt = (x &&& (2147483647 : Int32)).toInt.tmod 4 := by rw [Int32.toInt_mod]; rfl
  refine ⟨(x.toInt % 2 ^ 31 % 4).toNat, by omega, ?_⟩
  apply Int32.toInt_inj.mp
  rw [e2, e1, Int.tmod_eq_emod_of_nonneg (by omega), Int32.toInt_ofNat_of_lt (by omega)]
  omega
theorem own_cases4 (x : Int32) : ∃ i : Int32, (x &&& (2147483647 : Int32)) % (4 : Int32) = i ∧ (i = 0 ∨ i = 1 ∨ i = 2 ∨ i = 3) := by
  obtain ⟨k, hk, e⟩ := own_rem4 x
  refine ⟨_, e, ?_⟩
  have hk' : k = 0 ∨ k = 1 ∨ k = 2 ∨ k = 3 := by omega
  rcases hk' with rfl | rfl | rfl | rfl <;> decide
theorem own_n (x : Int32) : ∃ i : Int32, ((1 : Int32) + (x &&& (3 : Int32))) = i ∧ (i = 1 ∨ i = 2 ∨ i = 3 ∨ i = 4) := by
  have e1 : (x &&& (3 : Int32)).toInt = x.toInt % 2 ^ 2 := Jvm.Kit.i32_mask x 3 (k := 2) (by decide) (by decide)
  have e2 : (x &&& (3 : Int32)) = Int32.ofNat (x.toInt % 2 ^ 2).toNat := by
    apply Int32.toInt_inj.mp
    rw [e1, Int32.toInt_ofNat_of_lt (by omega)]
    omega
  refine ⟨_, rfl, ?_⟩
  rw [e2]
  have hk' : (x.toInt % 2 ^ 2).toNat = 0 ∨ (x.toInt % 2 ^ 2).toNat = 1 ∨ (x.toInt % 2 ^ 2).toNat = 2 ∨ (x.toInt % 2 ^ 2).toNat = 3 := by omega
  rcases hk' with h | h | h | h <;> rw [h] <;> decide
theorem own_ef_law (m : MethodId) (x0 : Int32) (x1 : Int32) : entryFrame m #[(.int x0), (.int x1)] maxLocals = mkF m 0 #[.val (.int x0), .val (.int x1), .unset, .unset, .unset, .unset, .unset, .unset, .unset] [] := by first | (simp [entryFrame, mkF, argsToLocals, Value.category, maxLocals]; done) | rfl
def own_Q_law (Z : State) (p1 : Int32) (p2 : Int32) (h0 : Heap) (n0 : Nat) (v : Option Value) (h : Heap) (L : List Loc) : Prop := v = some (.int 1) ∧ Fr n0 L
set_option maxRecDepth 65536 in
set_option maxHeartbeats 40000000 in
theorem own_rm_law (l : Launch) (Z : State) (a0 : Array Value) (hw : ∀ d ∈ tables_1, d.before a0 Z = true) (ws : List Jvm.Cond) (p1 : Int32) (p2 : Int32) (h0 : Heap) (n0 : Nat) (Z0 : n0 ≤ h0.size) (O0 : Old Z n0 h0) (S_A : Sta Z Z.heap "com/example/recency/recency/RecencyList" "$assertionsDisabled" "Z" (.int (1 : Int32))) :
    MetFree l x (head1 (Jvm.Cond.code x code maxLocals ret :: ws) room_1) (fun zz U => zz = #[(.int p1), (.int p2)] ∧ Z.Warmed39 U.vm ∧ U.heap = h0) (fun _ _ _ _ _ => True) (fun _ U zo U' => ∃ v L, zo = .returned v ∧ own_Q_law Z p1 p2 h0 n0 v U'.heap L ∧ FrameEnd U zo U' L 24 128) := by
  refine MetFree.of_bodySF (plainFor_of_name own_pn2) hisR ?_
  intro p e s m args below meth c s₁ Bd hml0 hP hK
  obtain ⟨rfl, hZ, hh⟩ := hP
  have hx := Bd.exec
  have hby := Bd.bytes
  have hml : c.maxLocals = 9 := hml0
  have hown : s.vm.findClass "com/example/recency/recency/RecencyListRemovePinLaw" = some m.cls := findClass_of_methodNamed Bd.named
  have hnm := (name_of_methodNamed Bd.named Bd.method).1
  have X0 : Stand p l e room_1 s m #[(.int p1), (.int p2)] below meth c s₁ [] 0 0 := Stand.of_body Bd
  have e0 : s₁.heap = h0 := by rw [← hh, Bd.state]; rfl
  have N0 := Fr.nil n0
  show own_Go p e below (own_K s (own_Q_law Z p1 p2 h0 n0) 24 128) s₁ (entryFrame m #[(.int p1), (.int p2)] maxLocals)
  rw [own_ef_law m p1 p2]
  show own_Go p e below _ s₁ (mkF m 0 #[iv p1, iv p2, .unset, .unset, .unset, .unset, .unset, .unset, .unset] [])
  obtain ⟨nn, hnn, hn⟩ := own_n p1
  refine own_st (fun _ k => XT.iconstV X0.here hx rfl (1 : Int32) (hb hby at_0) (by decide) k) ?_
  show own_Go p e below _ s₁ (mkF m 1 #[iv p1, iv p2, .unset, .unset, .unset, .unset, .unset, .unset, .unset] [(.int 1)])
  refine own_st (fun _ k => XS.iloadN X0.here hx rfl (hb hby at_1) rfl k) ?_
  show own_Go p e below _ s₁ (mkF m 2 #[iv p1, iv p2, .unset, .unset, .unset, .unset, .unset, .unset, .unset] [(.int p1), (.int 1)])
  refine own_st (fun _ k => XT.iconstV X0.here hx rfl (3 : Int32) (hb hby at_2) (by decide) k) ?_
  show own_Go p e below _ s₁ (mkF m 3 #[iv p1, iv p2, .unset, .unset, .unset, .unset, .unset, .unset, .unset] [(.int 3), (.int p1), (.int 1)])
  refine own_st (fun _ k => XS.iand X0.here hx rfl (hb hby at_3) rfl k) ?_
  show own_Go p e below _ s₁ (mkF m 4 #[iv p1, iv p2, .unset, .unset, .unset, .unset, .unset, .unset, .unset] [(.int (p1 &&& 3)), (.int 1)])
  refine own_st (fun _ k => XS.iadd X0.here hx rfl (hb hby at_4) rfl k) ?_
  show own_Go p e below _ s₁ (mkF m 5 #[iv p1, iv p2, .unset, .unset, .unset, .unset, .unset, .unset, .unset] [(.int (1 + (p1 &&& 3)))])
  rw [hnn]
  show own_Go p e below _ s₁ (mkF m 5 #[iv p1, iv p2, .unset, .unset, .unset, .unset, .unset, .unset, .unset] [(.int nn)])
  refine own_st (fun _ k => XS.istoreN X0.here hx rfl (hb hby at_5) rfl (l' := #[iv p1, iv p2, iv nn, .unset, .unset, .unset, .unset, .unset, .unset]) rfl k) ?_
  show own_Go p e below _ s₁ (mkF m 6 #[iv p1, iv p2, iv nn, .unset, .unset, .unset, .unset, .unset, .unset] [])
  refine own_st (fun _ k => XS.iloadN X0.here hx rfl (hb hby at_6) rfl k) ?_
  show own_Go p e below _ s₁ (mkF m 7 #[iv p1, iv p2, iv nn, .unset, .unset, .unset, .unset, .unset, .unset] [(.int p2)])
  refine own_st (fun _ k => Jvm.Stand.ldcI X0 hx hown (mvT hZ (hw _ (List.mem_of_getElem? (i := 0) rfl))) rfl (hb hby at_7) k) ?_
  show own_Go p e below _ s₁ (mkF m 9 #[iv p1, iv p2, iv nn, .unset, .unset, .unset, .unset, .unset, .unset] [(.int 2147483647), (.int p2)])
  refine own_st (fun _ k => XS.iand X0.here hx rfl (hb hby at_9) rfl k) ?_
  show own_Go p e below _ s₁ (mkF m 10 #[iv p1, iv p2, iv nn, .unset, .unset, .unset, .unset, .unset, .unset] [(.int (p2 &&& 2147483647))])
  refine own_st (fun _ k => XS.iloadN X0.here hx rfl (hb hby at_10) rfl k) ?_
  show own_Go p e below _ s₁ (mkF m 11 #[iv p1, iv p2, iv nn, .unset, .unset, .unset, .unset, .unset, .unset] [(.int nn), (.int (p2 &&& 2147483647))])
  refine own_st (fun _ k => iremM X0 hx rfl (hb hby at_11) rfl (by rcases hn with rfl | rfl | rfl | rfl <;> decide) k) ?_
  show own_Go p e below _ s₁ (mkF m 12 #[iv p1, iv p2, iv nn, .unset, .unset, .unset, .unset, .unset, .unset] [(.int ((p2 &&& 2147483647) % nn))])
  refine own_st (fun _ k => XS.istoreN X0.here hx rfl (hb hby at_12) rfl (l' := #[iv p1, iv p2, iv nn, iv ((p2 &&& 2147483647) % nn), .unset, .unset, .unset, .unset, .unset]) rfl k) ?_
  show own_Go p e below _ s₁ (mkF m 13 #[iv p1, iv p2, iv nn, iv ((p2 &&& 2147483647) % nn), .unset, .unset, .unset, .unset, .unset] [])
  refine own_st (fun _ k => XT.iconstV X0.here hx rfl (4 : Int32) (hb hby at_13) (by decide) k) ?_
  show own_Go p e below _ s₁ (mkF m 14 #[iv p1, iv p2, iv nn, iv ((p2 &&& 2147483647) % nn), .unset, .unset, .unset, .unset, .unset] [(.int 4)])
  obtain ⟨T1, h1, k_aE, X1, e1, x1, A1, Ov_aE, st1⟩ := newR X0 hx hZ hown (hw _ (List.mem_of_getElem? (i := 1) rfl)) (hw _ (List.mem_of_getElem? (i := 2) rfl)) e0 (g := (mkF m 14 #[iv p1, iv p2, iv nn, iv ((p2 &&& 2147483647) % nn), .unset, .unset, .unset, .unset, .unset] [(.int 4)])) rfl (hb hby at_14) rfl (by decide) (cap := 4) (by decide) (by decide) (by decide) (by decide)
  obtain ⟨aE, g1⟩ : ∃ z, z = h0.size := ⟨_, rfl⟩
  rw [← g1] at A1 st1
  have g_aE : n0 ≤ aE := g1 ▸ Z0
  have O1 := O0.ext x1
  have Z1 : n0 ≤ h1.size := Nat.le_trans Z0 x1.1
  clear O0 Z0
  have V1_aE : Arv Z h1 aE k_aE (.object "com/example/recency/recency/RecencyListRemovePinLaw") (4 : Int32) [.null, .null, .null, .null] .null := (Arv.new A1 (by decide)).pad (pad_rep [] .null 4)
  clear X0 e0
  replace X1 := own_num X1 (k' := 1) (n' := 4) rfl rfl
  refine own_st st1 ?_
  clear st1
  show own_Go p e below _ T1 (mkF m 17 #[iv p1, iv p2, iv nn, iv ((p2 &&& 2147483647) % nn), .unset, .unset, .unset, .unset, .unset] [(.ref aE)])
  refine own_st (fun _ k => XS.astore X1.here hx rfl (hb hby at_17) rfl rfl (l' := #[iv p1, iv p2, iv nn, iv ((p2 &&& 2147483647) % nn), rv aE, .unset, .unset, .unset, .unset]) rfl k) ?_
  show own_Go p e below _ T1 (mkF m 19 #[iv p1, iv p2, iv nn, iv ((p2 &&& 2147483647) % nn), rv aE, .unset, .unset, .unset, .unset] [])
  refine own_st (fun _ k => XS.aload X1.here hx rfl (hb hby at_19) rfl rfl k) ?_
  show own_Go p e below _ T1 (mkF m 21 #[iv p1, iv p2, iv nn, iv ((p2 &&& 2147483647) % nn), rv aE, .unset, .unset, .unset, .unset] [(.ref aE)])
  refine own_st (fun _ k => XT.iconstV X1.here hx rfl (0 : Int32) (hb hby at_21) (by decide) k) ?_
  show own_Go p e below _ T1 (mkF m 22 #[iv p1, iv p2, iv nn, iv ((p2 &&& 2147483647) % nn), rv aE, .unset, .unset, .unset, .unset] [(.int 0), (.ref aE)])
  obtain ⟨T2, h2, X2, e2, x2, A2, D2, -, st2⟩ := newO X1 hx hZ hown (hw _ (List.mem_of_getElem? (i := 1) rfl)) (hw _ (List.mem_of_getElem? (i := 3) rfl)) (hw _ (List.mem_of_getElem? (i := 4) rfl)) e1 (g := (mkF m 22 #[iv p1, iv p2, iv nn, iv ((p2 &&& 2147483647) % nn), rv aE, .unset, .unset, .unset, .unset] [(.int 0), (.ref aE)])) rfl (hb hby at_22) (by decide) (by decide)
  obtain ⟨e0a, g2⟩ : ∃ z, z = h1.size := ⟨_, rfl⟩
  rw [← g2] at A2 D2 st2
  have ne_aE_e0a : aE ≠ e0a := g2 ▸ Nat.ne_of_lt V1_aE.lt
  have g_e0a : n0 ≤ e0a := g2 ▸ Z1
  have O2 := O1.ext x2
  have V2_aE := V1_aE.ext x2
  have Z2 : n0 ≤ h2.size := Nat.le_trans Z1 x2.1
  clear O1 Z1 V1_aE
  have F2_previous_e0a : Fld Z h2 e0a "com/example/recency/recency/RecencyList$Link" "previous" "Lcom/example/recency/recency/RecencyList$Link;" .null := D2 (Or.inl (hw _ (List.mem_of_getElem? (i := 41) rfl))) (ty := .object "com/example/recency/recency/RecencyList$Link") (by decide)
  have F2_next_e0a : Fld Z h2 e0a "com/example/recency/recency/RecencyList$Link" "next" "Lcom/example/recency/recency/RecencyList$Link;" .null := D2 (Or.inl (hw _ (List.mem_of_getElem? (i := 43) rfl))) (ty := .object "com/example/recency/recency/RecencyList$Link") (by decide)
  clear X1 e1
  replace X2 := own_num X2 (k' := 2) (n' := 6) rfl rfl
  refine own_st st2 ?_
  clear st2
  show own_Go p e below _ T2 (mkF m 25 #[iv p1, iv p2, iv nn, iv ((p2 &&& 2147483647) % nn), rv aE, .unset, .unset, .unset, .unset] [(.ref e0a), (.int 0), (.ref aE)])
  refine own_st (fun _ k => XS.dup X2.here hx rfl (hb hby at_25) rfl rfl k) ?_
  show own_Go p e below _ T2 (mkF m 26 #[iv p1, iv p2, iv nn, iv ((p2 &&& 2147483647) % nn), rv aE, .unset, .unset, .unset, .unset] [(.ref e0a), (.ref e0a), (.int 0), (.ref aE)])
  obtain ⟨_, T3, L3, X3, hQ3, st3⟩ := own_gotT (X2.specialBack hx (y := (⟨"com/example/recency/recency/RecencyListRemovePinLaw", "<init>", "()V"⟩ : MethodName)) rfl hown (mvT hZ (hw _ (List.mem_of_getElem? (i := 5) rfl))) (mvT hZ (hw _ (List.mem_of_getElem? (i := 6) rfl))) (mvT hZ (hw _ (List.mem_of_getElem? (i := 7) rfl))) (by decide) (backOf (W := 3) (own_rm_ini l Z a0 hw [] e0a h2 n0 Z2) hZ (hw _ (List.mem_of_getElem? (i := 7) rfl)) (hw _ (List.mem_of_getElem? (i := 4) rfl)) (by decide) (by decide)) (g := (mkF m 26 #[iv p1, iv p2, iv nn, iv ((p2 &&& 2147483647) % nn), rv aE, .unset, .unset, .unset, .unset] [(.ref e0a), (.ref e0a), (.int 0), (.ref aE)])) rfl (by rw [hml]; rfl) (Steps.refl _) (a := e0a) (argsL := []) (rest := [(.ref e0a), (.int (0 : Int32)), (.ref aE)]) (lenOf own_pd0 rfl) rfl (by show 2 * 0 + _ ≤ _; exact Nat.le_of_eq rfl) (hb hby at_26) (fun _ _ => ⟨rfl, e2, (by decide : 2 + 0 ≤ _), (by decide : 6 + 0 ≤ _)⟩))
  replace X3 := own_num X3 (k' := 2) (n' := 6) rfl rfl
  obtain ⟨rfl, N3, eh3⟩ := hQ3
  have M3 := Fr.app N0 N3
  obtain ⟨lc3, Y3, P3⟩ := own_hide X3 M3
  refine own_tr st3 ?_
  clear X2 N3 e2 X3 M3 st3
  show own_Go p e below _ T3 (mkF m 29 #[iv p1, iv p2, iv nn, iv ((p2 &&& 2147483647) % nn), rv aE, .unset, .unset, .unset, .unset] [(.ref e0a), (.int 0), (.ref aE)])
  obtain ⟨T4, h4, X4, e4, W4, V4, st4⟩ := own_stR Y3 hx hZ eh3 V2_aE Ov_aE (Ins.self A2) (j := (0 : Int32)) ⟨by decide, by decide⟩ 0 rfl (Nat.le_of_ble_eq_true rfl) (g := (mkF m 29 #[iv p1, iv p2, iv nn, iv ((p2 &&& 2147483647) % nn), rv aE, .unset, .unset, .unset, .unset] [(.ref e0a), (.int 0), (.ref aE)])) rfl rfl (hb hby at_29)
  have V4_aE : Arv Z h4 aE k_aE (.object "com/example/recency/recency/RecencyListRemovePinLaw") (4 : Int32) [(.ref e0a), .null, .null, .null] .null := V4
  have O4 := O2.wr W4 g_aE
  have E4_e0a := A2.wr W4
  have F4_previous_e0a := F2_previous_e0a.other W4 (Or.inl ne_aE_e0a.symm)
  have F4_next_e0a := F2_next_e0a.other W4 (Or.inl ne_aE_e0a.symm)
  have Z4 : n0 ≤ h4.size := by rw [W4.size]; exact Z2
  clear O2 Z2 A2 F2_previous_e0a F2_next_e0a V2_aE W4
  have N4 := Fr.snoc X4 P3 g_aE
  obtain ⟨lc4, Y4, P4⟩ := own_hide X4 N4
  clear X4 N4
  clear Y3 eh3
  refine own_st st4 ?_
  clear st4
  show own_Go p e below _ T4 (mkF m 30 #[iv p1, iv p2, iv nn, iv ((p2 &&& 2147483647) % nn), rv aE, .unset, .unset, .unset, .unset] [])
  refine own_st (fun _ k => XS.aload Y4.here hx rfl (hb hby at_30) rfl rfl k) ?_
  show own_Go p e below _ T4 (mkF m 32 #[iv p1, iv p2, iv nn, iv ((p2 &&& 2147483647) % nn), rv aE, .unset, .unset, .unset, .unset] [(.ref aE)])
  refine own_st (fun _ k => XT.iconstV Y4.here hx rfl (1 : Int32) (hb hby at_32) (by decide) k) ?_
  show own_Go p e below _ T4 (mkF m 33 #[iv p1, iv p2, iv nn, iv ((p2 &&& 2147483647) % nn), rv aE, .unset, .unset, .unset, .unset] [(.int 1), (.ref aE)])
  obtain ⟨T5, h5, X5, e5, x5, A5, D5, -, st5⟩ := newO Y4 hx hZ hown (hw _ (List.mem_of_getElem? (i := 1) rfl)) (hw _ (List.mem_of_getElem? (i := 3) rfl)) (hw _ (List.mem_of_getElem? (i := 4) rfl)) e4 (g := (mkF m 33 #[iv p1, iv p2, iv nn, iv ((p2 &&& 2147483647) % nn), rv aE, .unset, .unset, .unset, .unset] [(.int 1), (.ref aE)])) rfl (hb hby at_33) (by decide) (by decide)
  obtain ⟨e1a, g5⟩ : ∃ z, z = h4.size := ⟨_, rfl⟩
  rw [← g5] at A5 D5 st5
  have ne_aE_e1a : aE ≠ e1a := g5 ▸ Nat.ne_of_lt V4_aE.lt
  have ne_e0a_e1a : e0a ≠ e1a := g5 ▸ Nat.ne_of_lt E4_e0a.lt
  have g_e1a : n0 ≤ e1a := g5 ▸ Z4
  have O5 := O4.ext x5
  have V5_aE := V4_aE.ext x5
  have E5_e0a := E4_e0a.ext x5
  have F5_previous_e0a := F4_previous_e0a.ext x5
  have F5_next_e0a := F4_next_e0a.ext x5
  have Z5 : n0 ≤ h5.size := Nat.le_trans Z4 x5.1
  clear O4 Z4 V4_aE E4_e0a F4_previous_e0a F4_next_e0a
  have F5_previous_e1a : Fld Z h5 e1a "com/example/recency/recency/RecencyList$Link" "previous" "Lcom/example/recency/recency/RecencyList$Link;" .null := D5 (Or.inl (hw _ (List.mem_of_getElem? (i := 41) rfl))) (ty := .object "com/example/recency/recency/RecencyList$Link") (by decide)
  have F5_next_e1a : Fld Z h5 e1a "com/example/recency/recency/RecencyList$Link" "next" "Lcom/example/recency/recency/RecencyList$Link;" .null := D5 (Or.inl (hw _ (List.mem_of_getElem? (i := 43) rfl))) (ty := .object "com/example/recency/recency/RecencyList$Link") (by decide)
  clear Y4 e4
  replace X5 := own_num X5 (k' := 3) (n' := 8) rfl rfl
  refine own_st st5 ?_
  clear st5
  show own_Go p e below _ T5 (mkF m 36 #[iv p1, iv p2, iv nn, iv ((p2 &&& 2147483647) % nn), rv aE, .unset, .unset, .unset, .unset] [(.ref e1a), (.int 1), (.ref aE)])
  refine own_st (fun _ k => XS.dup X5.here hx rfl (hb hby at_36) rfl rfl k) ?_
  show own_Go p e below _ T5 (mkF m 37 #[iv p1, iv p2, iv nn, iv ((p2 &&& 2147483647) % nn), rv aE, .unset, .unset, .unset, .unset] [(.ref e1a), (.ref e1a), (.int 1), (.ref aE)])
  obtain ⟨_, T6, L6, X6, hQ6, st6⟩ := own_gotT (X5.specialBack hx (y := (⟨"com/example/recency/recency/RecencyListRemovePinLaw", "<init>", "()V"⟩ : MethodName)) rfl hown (mvT hZ (hw _ (List.mem_of_getElem? (i := 5) rfl))) (mvT hZ (hw _ (List.mem_of_getElem? (i := 6) rfl))) (mvT hZ (hw _ (List.mem_of_getElem? (i := 7) rfl))) (by decide) (backOf (W := 3) (own_rm_ini l Z a0 hw [] e1a h5 n0 Z5) hZ (hw _ (List.mem_of_getElem? (i := 7) rfl)) (hw _ (List.mem_of_getElem? (i := 4) rfl)) (by decide) (by decide)) (g := (mkF m 37 #[iv p1, iv p2, iv nn, iv ((p2 &&& 2147483647) % nn), rv aE, .unset, .unset, .unset, .unset] [(.ref e1a), (.ref e1a), (.int 1), (.ref aE)])) rfl (by rw [hml]; rfl) (Steps.refl _) (a := e1a) (argsL := []) (rest := [(.ref e1a), (.int (1 : Int32)), (.ref aE)]) (lenOf own_pd0 rfl) rfl (by show 2 * 0 + _ ≤ _; exact Nat.le_of_eq rfl) (hb hby at_37) (fun _ _ => ⟨rfl, e5, (by decide : 3 + 0 ≤ _), (by decide : 8 + 0 ≤ _)⟩))
  replace X6 := own_num X6 (k' := 3) (n' := 8) rfl rfl
  obtain ⟨rfl, N6, eh6⟩ := hQ6
  have M6 := Fr.app P4 N6
  obtain ⟨lc6, Y6, P6⟩ := own_hide X6 M6
  refine own_tr st6 ?_
  clear P4 X5 N6 e5 X6 M6 st6
  show own_Go p e below _ T6 (mkF m 40 #[iv p1, iv p2, iv nn, iv ((p2 &&& 2147483647) % nn), rv aE, .unset, .unset, .unset, .unset] [(.ref e1a), (.int 1), (.ref aE)])
  obtain ⟨T7, h7, X7, e7, W7, V7, st7⟩ := own_stR Y6 hx hZ eh6 V5_aE Ov_aE (Ins.self A5) (j := (1 : Int32)) ⟨by decide, by decide⟩ 1 rfl (Nat.le_of_ble_eq_true rfl) (g := (mkF m 40 #[iv p1, iv p2, iv nn, iv ((p2 &&& 2147483647) % nn), rv aE, .unset, .unset, .unset, .unset] [(.ref e1a), (.int 1), (.ref aE)])) rfl rfl (hb hby at_40)
  have V7_aE : Arv Z h7 aE k_aE (.object "com/example/recency/recency/RecencyListRemovePinLaw") (4 : Int32) [(.ref e0a), (.ref e1a), .null, .null] .null := V7
  have O7 := O5.wr W7 g_aE
  have E7_e0a := E5_e0a.wr W7
  have E7_e1a := A5.wr W7
  have F7_previous_e0a := F5_previous_e0a.other W7 (Or.inl ne_aE_e0a.symm)
  have F7_next_e0a := F5_next_e0a.other W7 (Or.inl ne_aE_e0a.symm)
  have F7_previous_e1a := F5_previous_e1a.other W7 (Or.inl ne_aE_e1a.symm)
  have F7_next_e1a := F5_next_e1a.other W7 (Or.inl ne_aE_e1a.symm)
  have Z7 : n0 ≤ h7.size := by rw [W7.size]; exact Z5
  clear O5 Z5 E5_e0a A5 F5_previous_e0a F5_next_e0a F5_previous_e1a F5_next_e1a V5_aE W7
  have N7 := Fr.snoc X7 P6 g_aE
  obtain ⟨lc7, Y7, P7⟩ := own_hide X7 N7
  clear X7 N7
  clear Y6 eh6
  refine own_st st7 ?_
  clear st7
  show own_Go p e below _ T7 (mkF m 41 #[iv p1, iv p2, iv nn, iv ((p2 &&& 2147483647) % nn), rv aE, .unset, .unset, .unset, .unset] [])
  refine own_st (fun _ k => XS.aload Y7.here hx rfl (hb hby at_41) rfl rfl k) ?_
  show own_Go p e below _ T7 (mkF m 43 #[iv p1, iv p2, iv nn, iv ((p2 &&& 2147483647) % nn), rv aE, .unset, .unset, .unset, .unset] [(.ref aE)])
  refine own_st (fun _ k => XT.iconstV Y7.here hx rfl (2 : Int32) (hb hby at_43) (by decide) k) ?_
  show own_Go p e below _ T7 (mkF m 44 #[iv p1, iv p2, iv nn, iv ((p2 &&& 2147483647) % nn), rv aE, .unset, .unset, .unset, .unset] [(.int 2), (.ref aE)])
  obtain ⟨T8, h8, X8, e8, x8, A8, D8, -, st8⟩ := newO Y7 hx hZ hown (hw _ (List.mem_of_getElem? (i := 1) rfl)) (hw _ (List.mem_of_getElem? (i := 3) rfl)) (hw _ (List.mem_of_getElem? (i := 4) rfl)) e7 (g := (mkF m 44 #[iv p1, iv p2, iv nn, iv ((p2 &&& 2147483647) % nn), rv aE, .unset, .unset, .unset, .unset] [(.int 2), (.ref aE)])) rfl (hb hby at_44) (by decide) (by decide)
  obtain ⟨e2a, g8⟩ : ∃ z, z = h7.size := ⟨_, rfl⟩
  rw [← g8] at A8 D8 st8
  have ne_aE_e2a : aE ≠ e2a := g8 ▸ Nat.ne_of_lt V7_aE.lt
  have ne_e0a_e2a : e0a ≠ e2a := g8 ▸ Nat.ne_of_lt E7_e0a.lt
  have ne_e1a_e2a : e1a ≠ e2a := g8 ▸ Nat.ne_of_lt E7_e1a.lt
  have g_e2a : n0 ≤ e2a := g8 ▸ Z7
  have O8 := O7.ext x8
  have V8_aE := V7_aE.ext x8
  have E8_e0a := E7_e0a.ext x8
  have E8_e1a := E7_e1a.ext x8
  have F8_previous_e0a := F7_previous_e0a.ext x8
  have F8_next_e0a := F7_next_e0a.ext x8
  have F8_previous_e1a := F7_previous_e1a.ext x8
  have F8_next_e1a := F7_next_e1a.ext x8
  have Z8 : n0 ≤ h8.size := Nat.le_trans Z7 x8.1
  clear O7 Z7 V7_aE E7_e0a E7_e1a F7_previous_e0a F7_next_e0a F7_previous_e1a F7_next_e1a
  have F8_previous_e2a : Fld Z h8 e2a "com/example/recency/recency/RecencyList$Link" "previous" "Lcom/example/recency/recency/RecencyList$Link;" .null := D8 (Or.inl (hw _ (List.mem_of_getElem? (i := 41) rfl))) (ty := .object "com/example/recency/recency/RecencyList$Link") (by decide)
  have F8_next_e2a : Fld Z h8 e2a "com/example/recency/recency/RecencyList$Link" "next" "Lcom/example/recency/recency/RecencyList$Link;" .null := D8 (Or.inl (hw _ (List.mem_of_getElem? (i := 43) rfl))) (ty := .object "com/example/recency/recency/RecencyList$Link") (by decide)
  clear Y7 e7
  replace X8 := own_num X8 (k' := 4) (n' := 10) rfl rfl
  refine own_st st8 ?_
  clear st8
  show own_Go p e below _ T8 (mkF m 47 #[iv p1, iv p2, iv nn, iv ((p2 &&& 2147483647) % nn), rv aE, .unset, .unset, .unset, .unset] [(.ref e2a), (.int 2), (.ref aE)])
  refine own_st (fun _ k => XS.dup X8.here hx rfl (hb hby at_47) rfl rfl k) ?_
  show own_Go p e below _ T8 (mkF m 48 #[iv p1, iv p2, iv nn, iv ((p2 &&& 2147483647) % nn), rv aE, .unset, .unset, .unset, .unset] [(.ref e2a), (.ref e2a), (.int 2), (.ref aE)])
  obtain ⟨_, T9, L9, X9, hQ9, st9⟩ := own_gotT (X8.specialBack hx (y := (⟨"com/example/recency/recency/RecencyListRemovePinLaw", "<init>", "()V"⟩ : MethodName)) rfl hown (mvT hZ (hw _ (List.mem_of_getElem? (i := 5) rfl))) (mvT hZ (hw _ (List.mem_of_getElem? (i := 6) rfl))) (mvT hZ (hw _ (List.mem_of_getElem? (i := 7) rfl))) (by decide) (backOf (W := 3) (own_rm_ini l Z a0 hw [] e2a h8 n0 Z8) hZ (hw _ (List.mem_of_getElem? (i := 7) rfl)) (hw _ (List.mem_of_getElem? (i := 4) rfl)) (by decide) (by decide)) (g := (mkF m 48 #[iv p1, iv p2, iv nn, iv ((p2 &&& 2147483647) % nn), rv aE, .unset, .unset, .unset, .unset] [(.ref e2a), (.ref e2a), (.int 2), (.ref aE)])) rfl (by rw [hml]; rfl) (Steps.refl _) (a := e2a) (argsL := []) (rest := [(.ref e2a), (.int (2 : Int32)), (.ref aE)]) (lenOf own_pd0 rfl) rfl (by show 2 * 0 + _ ≤ _; exact Nat.le_of_eq rfl) (hb hby at_48) (fun _ _ => ⟨rfl, e8, (by decide : 4 + 0 ≤ _), (by decide : 10 + 0 ≤ _)⟩))
  replace X9 := own_num X9 (k' := 4) (n' := 10) rfl rfl
  obtain ⟨rfl, N9, eh9⟩ := hQ9
  have M9 := Fr.app P7 N9
  obtain ⟨lc9, Y9, P9⟩ := own_hide X9 M9
  refine own_tr st9 ?_
  clear P7 X8 N9 e8 X9 M9 st9
  show own_Go p e below _ T9 (mkF m 51 #[iv p1, iv p2, iv nn, iv ((p2 &&& 2147483647) % nn), rv aE, .unset, .unset, .unset, .unset] [(.ref e2a), (.int 2), (.ref aE)])
  obtain ⟨T10, h10, X10, e10, W10, V10, st10⟩ := own_stR Y9 hx hZ eh9 V8_aE Ov_aE (Ins.self A8) (j := (2 : Int32)) ⟨by decide, by decide⟩ 2 rfl (Nat.le_of_ble_eq_true rfl) (g := (mkF m 51 #[iv p1, iv p2, iv nn, iv ((p2 &&& 2147483647) % nn), rv aE, .unset, .unset, .unset, .unset] [(.ref e2a), (.int 2), (.ref aE)])) rfl rfl (hb hby at_51)
  have V10_aE : Arv Z h10 aE k_aE (.object "com/example/recency/recency/RecencyListRemovePinLaw") (4 : Int32) [(.ref e0a), (.ref e1a), (.ref e2a), .null] .null := V10
  have O10 := O8.wr W10 g_aE
  have E10_e0a := E8_e0a.wr W10
  have E10_e1a := E8_e1a.wr W10
  have E10_e2a := A8.wr W10
  have F10_previous_e0a := F8_previous_e0a.other W10 (Or.inl ne_aE_e0a.symm)
  have F10_next_e0a := F8_next_e0a.other W10 (Or.inl ne_aE_e0a.symm)
  have F10_previous_e1a := F8_previous_e1a.other W10 (Or.inl ne_aE_e1a.symm)
  have F10_next_e1a := F8_next_e1a.other W10 (Or.inl ne_aE_e1a.symm)
  have F10_previous_e2a := F8_previous_e2a.other W10 (Or.inl ne_aE_e2a.symm)
  have F10_next_e2a := F8_next_e2a.other W10 (Or.inl ne_aE_e2a.symm)
  have Z10 : n0 ≤ h10.size := by rw [W10.size]; exact Z8
  clear O8 Z8 E8_e0a E8_e1a A8 F8_previous_e0a F8_next_e0a F8_previous_e1a F8_next_e1a F8_previous_e2a F8_next_e2a V8_aE W10
  have N10 := Fr.snoc X10 P9 g_aE
  obtain ⟨lc10, Y10, P10⟩ := own_hide X10 N10
  clear X10 N10
  clear Y9 eh9
  refine own_st st10 ?_
  clear st10
  show own_Go p e below _ T10 (mkF m 52 #[iv p1, iv p2, iv nn, iv ((p2 &&& 2147483647) % nn), rv aE, .unset, .unset, .unset, .unset] [])
  refine own_st (fun _ k => XS.aload Y10.here hx rfl (hb hby at_52) rfl rfl k) ?_
  show own_Go p e below _ T10 (mkF m 54 #[iv p1, iv p2, iv nn, iv ((p2 &&& 2147483647) % nn), rv aE, .unset, .unset, .unset, .unset] [(.ref aE)])
  refine own_st (fun _ k => XT.iconstV Y10.here hx rfl (3 : Int32) (hb hby at_54) (by decide) k) ?_
  show own_Go p e below _ T10 (mkF m 55 #[iv p1, iv p2, iv nn, iv ((p2 &&& 2147483647) % nn), rv aE, .unset, .unset, .unset, .unset] [(.int 3), (.ref aE)])
  obtain ⟨T11, h11, X11, e11, x11, A11, D11, -, st11⟩ := newO Y10 hx hZ hown (hw _ (List.mem_of_getElem? (i := 1) rfl)) (hw _ (List.mem_of_getElem? (i := 3) rfl)) (hw _ (List.mem_of_getElem? (i := 4) rfl)) e10 (g := (mkF m 55 #[iv p1, iv p2, iv nn, iv ((p2 &&& 2147483647) % nn), rv aE, .unset, .unset, .unset, .unset] [(.int 3), (.ref aE)])) rfl (hb hby at_55) (by decide) (by decide)
  obtain ⟨e3a, g11⟩ : ∃ z, z = h10.size := ⟨_, rfl⟩
  rw [← g11] at A11 D11 st11
  have ne_aE_e3a : aE ≠ e3a := g11 ▸ Nat.ne_of_lt V10_aE.lt
  have ne_e0a_e3a : e0a ≠ e3a := g11 ▸ Nat.ne_of_lt E10_e0a.lt
  have ne_e1a_e3a : e1a ≠ e3a := g11 ▸ Nat.ne_of_lt E10_e1a.lt
  have ne_e2a_e3a : e2a ≠ e3a := g11 ▸ Nat.ne_of_lt E10_e2a.lt
  have g_e3a : n0 ≤ e3a := g11 ▸ Z10
  have O11 := O10.ext x11
  have V11_aE := V10_aE.ext x11
  have E11_e0a := E10_e0a.ext x11
  have E11_e1a := E10_e1a.ext x11
  have E11_e2a := E10_e2a.ext x11
  have F11_previous_e0a := F10_previous_e0a.ext x11
  have F11_next_e0a := F10_next_e0a.ext x11
  have F11_previous_e1a := F10_previous_e1a.ext x11
  have F11_next_e1a := F10_next_e1a.ext x11
  have F11_previous_e2a := F10_previous_e2a.ext x11
  have F11_next_e2a := F10_next_e2a.ext x11
  have Z11 : n0 ≤ h11.size := Nat.le_trans Z10 x11.1
  clear O10 Z10 V10_aE E10_e0a E10_e1a E10_e2a F10_previous_e0a F10_next_e0a F10_previous_e1a F10_next_e1a F10_previous_e2a F10_next_e2a
  have F11_previous_e3a : Fld Z h11 e3a "com/example/recency/recency/RecencyList$Link" "previous" "Lcom/example/recency/recency/RecencyList$Link;" .null := D11 (Or.inl (hw _ (List.mem_of_getElem? (i := 41) rfl))) (ty := .object "com/example/recency/recency/RecencyList$Link") (by decide)
  have F11_next_e3a : Fld Z h11 e3a "com/example/recency/recency/RecencyList$Link" "next" "Lcom/example/recency/recency/RecencyList$Link;" .null := D11 (Or.inl (hw _ (List.mem_of_getElem? (i := 43) rfl))) (ty := .object "com/example/recency/recency/RecencyList$Link") (by decide)
  clear Y10 e10
  replace X11 := own_num X11 (k' := 5) (n' := 12) rfl rfl
  refine own_st st11 ?_
  clear st11
  show own_Go p e below _ T11 (mkF m 58 #[iv p1, iv p2, iv nn, iv ((p2 &&& 2147483647) % nn), rv aE, .unset, .unset, .unset, .unset] [(.ref e3a), (.int 3), (.ref aE)])
  refine own_st (fun _ k => XS.dup X11.here hx rfl (hb hby at_58) rfl rfl k) ?_
  show own_Go p e below _ T11 (mkF m 59 #[iv p1, iv p2, iv nn, iv ((p2 &&& 2147483647) % nn), rv aE, .unset, .unset, .unset, .unset] [(.ref e3a), (.ref e3a), (.int 3), (.ref aE)])
  obtain ⟨_, T12, L12, X12, hQ12, st12⟩ := own_gotT (X11.specialBack hx (y := (⟨"com/example/recency/recency/RecencyListRemovePinLaw", "<init>", "()V"⟩ : MethodName)) rfl hown (mvT hZ (hw _ (List.mem_of_getElem? (i := 5) rfl))) (mvT hZ (hw _ (List.mem_of_getElem? (i := 6) rfl))) (mvT hZ (hw _ (List.mem_of_getElem? (i := 7) rfl))) (by decide) (backOf (W := 3) (own_rm_ini l Z a0 hw [] e3a h11 n0 Z11) hZ (hw _ (List.mem_of_getElem? (i := 7) rfl)) (hw _ (List.mem_of_getElem? (i := 4) rfl)) (by decide) (by decide)) (g := (mkF m 59 #[iv p1, iv p2, iv nn, iv ((p2 &&& 2147483647) % nn), rv aE, .unset, .unset, .unset, .unset] [(.ref e3a), (.ref e3a), (.int 3), (.ref aE)])) rfl (by rw [hml]; rfl) (Steps.refl _) (a := e3a) (argsL := []) (rest := [(.ref e3a), (.int (3 : Int32)), (.ref aE)]) (lenOf own_pd0 rfl) rfl (by show 2 * 0 + _ ≤ _; exact Nat.le_of_eq rfl) (hb hby at_59) (fun _ _ => ⟨rfl, e11, (by decide : 5 + 0 ≤ _), (by decide : 12 + 0 ≤ _)⟩))
  replace X12 := own_num X12 (k' := 5) (n' := 12) rfl rfl
  obtain ⟨rfl, N12, eh12⟩ := hQ12
  have M12 := Fr.app P10 N12
  obtain ⟨lc12, Y12, P12⟩ := own_hide X12 M12
  refine own_tr st12 ?_
  clear P10 X11 N12 e11 X12 M12 st12
  show own_Go p e below _ T12 (mkF m 62 #[iv p1, iv p2, iv nn, iv ((p2 &&& 2147483647) % nn), rv aE, .unset, .unset, .unset, .unset] [(.ref e3a), (.int 3), (.ref aE)])
  obtain ⟨T13, h13, X13, e13, W13, V13, st13⟩ := own_stR Y12 hx hZ eh12 V11_aE Ov_aE (Ins.self A11) (j := (3 : Int32)) ⟨by decide, by decide⟩ 3 rfl (Nat.le_of_ble_eq_true rfl) (g := (mkF m 62 #[iv p1, iv p2, iv nn, iv ((p2 &&& 2147483647) % nn), rv aE, .unset, .unset, .unset, .unset] [(.ref e3a), (.int 3), (.ref aE)])) rfl rfl (hb hby at_62)
  have V13_aE : Arv Z h13 aE k_aE (.object "com/example/recency/recency/RecencyListRemovePinLaw") (4 : Int32) [(.ref e0a), (.ref e1a), (.ref e2a), (.ref e3a)] .null := V13
  have O13 := O11.wr W13 g_aE
  have E13_e0a := E11_e0a.wr W13
  have E13_e1a := E11_e1a.wr W13
  have E13_e2a := E11_e2a.wr W13
  have E13_e3a := A11.wr W13
  have F13_previous_e0a := F11_previous_e0a.other W13 (Or.inl ne_aE_e0a.symm)
  have F13_next_e0a := F11_next_e0a.other W13 (Or.inl ne_aE_e0a.symm)
  have F13_previous_e1a := F11_previous_e1a.other W13 (Or.inl ne_aE_e1a.symm)
  have F13_next_e1a := F11_next_e1a.other W13 (Or.inl ne_aE_e1a.symm)
  have F13_previous_e2a := F11_previous_e2a.other W13 (Or.inl ne_aE_e2a.symm)
  have F13_next_e2a := F11_next_e2a.other W13 (Or.inl ne_aE_e2a.symm)
  have F13_previous_e3a := F11_previous_e3a.other W13 (Or.inl ne_aE_e3a.symm)
  have F13_next_e3a := F11_next_e3a.other W13 (Or.inl ne_aE_e3a.symm)
  have Z13 : n0 ≤ h13.size := by rw [W13.size]; exact Z11
  clear O11 Z11 E11_e0a E11_e1a E11_e2a A11 F11_previous_e0a F11_next_e0a F11_previous_e1a F11_next_e1a F11_previous_e2a F11_next_e2a F11_previous_e3a F11_next_e3a V11_aE W13
  have N13 := Fr.snoc X13 P12 g_aE
  obtain ⟨lc13, Y13, P13⟩ := own_hide X13 N13
  clear X13 N13
  clear Y12 eh12
  refine own_st st13 ?_
  clear st13
  show own_Go p e below _ T13 (mkF m 63 #[iv p1, iv p2, iv nn, iv ((p2 &&& 2147483647) % nn), rv aE, .unset, .unset, .unset, .unset] [])
  refine own_st (fun _ k => XT.iconstV Y13.here hx rfl (3 : Int32) (hb hby at_63) (by decide) k) ?_
  show own_Go p e below _ T13 (mkF m 64 #[iv p1, iv p2, iv nn, iv ((p2 &&& 2147483647) % nn), rv aE, .unset, .unset, .unset, .unset] [(.int 3)])
  obtain ⟨T14, h14, k_aR, X14, e14, x14, A14, Ov_aR, st14⟩ := newR Y13 hx hZ hown (hw _ (List.mem_of_getElem? (i := 1) rfl)) (hw _ (List.mem_of_getElem? (i := 2) rfl)) e13 (g := (mkF m 64 #[iv p1, iv p2, iv nn, iv ((p2 &&& 2147483647) % nn), rv aE, .unset, .unset, .unset, .unset] [(.int 3)])) rfl (hb hby at_64) rfl (by decide) (cap := 3) (by decide) (by decide) (by decide) (by decide)
  obtain ⟨aR, g14⟩ : ∃ z, z = h13.size := ⟨_, rfl⟩
  rw [← g14] at A14 st14
  have ne_aE_aR : aE ≠ aR := g14 ▸ Nat.ne_of_lt V13_aE.lt
  have ne_e0a_aR : e0a ≠ aR := g14 ▸ Nat.ne_of_lt E13_e0a.lt
  have ne_e1a_aR : e1a ≠ aR := g14 ▸ Nat.ne_of_lt E13_e1a.lt
  have ne_e2a_aR : e2a ≠ aR := g14 ▸ Nat.ne_of_lt E13_e2a.lt
  have ne_e3a_aR : e3a ≠ aR := g14 ▸ Nat.ne_of_lt E13_e3a.lt
  have g_aR : n0 ≤ aR := g14 ▸ Z13
  have O14 := O13.ext x14
  have V14_aE := V13_aE.ext x14
  have E14_e0a := E13_e0a.ext x14
  have E14_e1a := E13_e1a.ext x14
  have E14_e2a := E13_e2a.ext x14
  have E14_e3a := E13_e3a.ext x14
  have F14_previous_e0a := F13_previous_e0a.ext x14
  have F14_next_e0a := F13_next_e0a.ext x14
  have F14_previous_e1a := F13_previous_e1a.ext x14
  have F14_next_e1a := F13_next_e1a.ext x14
  have F14_previous_e2a := F13_previous_e2a.ext x14
  have F14_next_e2a := F13_next_e2a.ext x14
  have F14_previous_e3a := F13_previous_e3a.ext x14
  have F14_next_e3a := F13_next_e3a.ext x14
  have Z14 : n0 ≤ h14.size := Nat.le_trans Z13 x14.1
  clear O13 Z13 V13_aE E13_e0a E13_e1a E13_e2a E13_e3a F13_previous_e0a F13_next_e0a F13_previous_e1a F13_next_e1a F13_previous_e2a F13_next_e2a F13_previous_e3a F13_next_e3a
  have V14_aR : Arv Z h14 aR k_aR (.object "com/example/recency/recency/RecencyListRemovePinLaw") (3 : Int32) [.null, .null, .null] .null := (Arv.new A14 (by decide)).pad (pad_rep [] .null 3)
  clear Y13 e13
  replace X14 := own_num X14 (k' := 6) (n' := 15) rfl rfl
  refine own_st st14 ?_
  clear st14
  show own_Go p e below _ T14 (mkF m 67 #[iv p1, iv p2, iv nn, iv ((p2 &&& 2147483647) % nn), rv aE, .unset, .unset, .unset, .unset] [(.ref aR)])
  refine own_st (fun _ k => XS.astore X14.here hx rfl (hb hby at_67) rfl rfl (l' := #[iv p1, iv p2, iv nn, iv ((p2 &&& 2147483647) % nn), rv aE, rv aR, .unset, .unset, .unset]) rfl k) ?_
  show own_Go p e below _ T14 (mkF m 69 #[iv p1, iv p2, iv nn, iv ((p2 &&& 2147483647) % nn), rv aE, rv aR, .unset, .unset, .unset] [])
  obtain ⟨T15, h15, X15, e15, x15, A15, D15, -, st15⟩ := newO X14 hx hZ hown (hw _ (List.mem_of_getElem? (i := 17) rfl)) (hw _ (List.mem_of_getElem? (i := 18) rfl)) (hw _ (List.mem_of_getElem? (i := 19) rfl)) e14 (g := (mkF m 69 #[iv p1, iv p2, iv nn, iv ((p2 &&& 2147483647) % nn), rv aE, rv aR, .unset, .unset, .unset] [])) rfl (hb hby at_69) (by decide) (by decide)
  obtain ⟨o1, g15⟩ : ∃ z, z = h14.size := ⟨_, rfl⟩
  rw [← g15] at A15 D15 st15
  have ne_aE_o1 : aE ≠ o1 := g15 ▸ Nat.ne_of_lt V14_aE.lt
  have ne_aR_o1 : aR ≠ o1 := g15 ▸ Nat.ne_of_lt V14_aR.lt
  have ne_e0a_o1 : e0a ≠ o1 := g15 ▸ Nat.ne_of_lt E14_e0a.lt
  have ne_e1a_o1 : e1a ≠ o1 := g15 ▸ Nat.ne_of_lt E14_e1a.lt
  have ne_e2a_o1 : e2a ≠ o1 := g15 ▸ Nat.ne_of_lt E14_e2a.lt
  have ne_e3a_o1 : e3a ≠ o1 := g15 ▸ Nat.ne_of_lt E14_e3a.lt
  have g_o1 : n0 ≤ o1 := g15 ▸ Z14
  have O15 := O14.ext x15
  have V15_aE := V14_aE.ext x15
  have V15_aR := V14_aR.ext x15
  have E15_e0a := E14_e0a.ext x15
  have E15_e1a := E14_e1a.ext x15
  have E15_e2a := E14_e2a.ext x15
  have E15_e3a := E14_e3a.ext x15
  have F15_previous_e0a := F14_previous_e0a.ext x15
  have F15_next_e0a := F14_next_e0a.ext x15
  have F15_previous_e1a := F14_previous_e1a.ext x15
  have F15_next_e1a := F14_next_e1a.ext x15
  have F15_previous_e2a := F14_previous_e2a.ext x15
  have F15_next_e2a := F14_next_e2a.ext x15
  have F15_previous_e3a := F14_previous_e3a.ext x15
  have F15_next_e3a := F14_next_e3a.ext x15
  have Z15 : n0 ≤ h15.size := Nat.le_trans Z14 x15.1
  clear O14 Z14 V14_aE V14_aR E14_e0a E14_e1a E14_e2a E14_e3a F14_previous_e0a F14_next_e0a F14_previous_e1a F14_next_e1a F14_previous_e2a F14_next_e2a F14_previous_e3a F14_next_e3a
  have F15_first_o1 : Fld Z h15 o1 "com/example/recency/recency/RecencyList" "first" "Lcom/example/recency/recency/RecencyList$Link;" .null := D15 (Or.inl (hw _ (List.mem_of_getElem? (i := 34) rfl))) (ty := .object "com/example/recency/recency/RecencyList$Link") (by decide)
  have F15_last_o1 : Fld Z h15 o1 "com/example/recency/recency/RecencyList" "last" "Lcom/example/recency/recency/RecencyList$Link;" .null := D15 (Or.inl (hw _ (List.mem_of_getElem? (i := 32) rfl))) (ty := .object "com/example/recency/recency/RecencyList$Link") (by decide)
  clear X14 e14
  replace X15 := own_num X15 (k' := 7) (n' := 17) rfl rfl
  refine own_st st15 ?_
  clear st15
  show own_Go p e below _ T15 (mkF m 72 #[iv p1, iv p2, iv nn, iv ((p2 &&& 2147483647) % nn), rv aE, rv aR, .unset, .unset, .unset] [(.ref o1)])
  refine own_st (fun _ k => XS.dup X15.here hx rfl (hb hby at_72) rfl rfl k) ?_
  show own_Go p e below _ T15 (mkF m 73 #[iv p1, iv p2, iv nn, iv ((p2 &&& 2147483647) % nn), rv aE, rv aR, .unset, .unset, .unset] [(.ref o1), (.ref o1)])
  obtain ⟨_, T16, L16, X16, hQ16, st16⟩ := own_gotT (X15.specialBack hx (y := (⟨"com/example/recency/recency/RecencyList", "<init>", "()V"⟩ : MethodName)) rfl hown (mvT hZ (hw _ (List.mem_of_getElem? (i := 20) rfl))) (mvT hZ (hw _ (List.mem_of_getElem? (i := 21) rfl))) (mvT hZ (hw _ (List.mem_of_getElem? (i := 22) rfl))) (by decide) (backOf (W := 1) (own_rm_rini l Z a0 hw [] o1 h15 n0 Z15) hZ (hw _ (List.mem_of_getElem? (i := 22) rfl)) (hw _ (List.mem_of_getElem? (i := 19) rfl)) (by decide) (by decide)) (g := (mkF m 73 #[iv p1, iv p2, iv nn, iv ((p2 &&& 2147483647) % nn), rv aE, rv aR, .unset, .unset, .unset] [(.ref o1), (.ref o1)])) rfl (by rw [hml]; rfl) (Steps.refl _) (a := o1) (argsL := []) (rest := [(.ref o1)]) (lenOf own_pd0 rfl) rfl (by show 2 * 0 + _ ≤ _; exact Nat.le_of_eq rfl) (hb hby at_73) (fun _ _ => ⟨rfl, e15, (by decide : 7 + 0 ≤ _), (by decide : 17 + 0 ≤ _)⟩))
  replace X16 := own_num X16 (k' := 7) (n' := 17) rfl rfl
  obtain ⟨rfl, N16, eh16⟩ := hQ16
  have M16 := Fr.app P13 N16
  obtain ⟨lc16, Y16, P16⟩ := own_hide X16 M16
  refine own_tr st16 ?_
  clear P13 X15 N16 e15 X16 M16 st16
  show own_Go p e below _ T16 (mkF m 76 #[iv p1, iv p2, iv nn, iv ((p2 &&& 2147483647) % nn), rv aE, rv aR, .unset, .unset, .unset] [(.ref o1)])
  refine own_st (fun _ k => XS.astore Y16.here hx rfl (hb hby at_76) rfl rfl (l' := #[iv p1, iv p2, iv nn, iv ((p2 &&& 2147483647) % nn), rv aE, rv aR, rv o1, .unset, .unset]) rfl k) ?_
  show own_Go p e below _ T16 (mkF m 78 #[iv p1, iv p2, iv nn, iv ((p2 &&& 2147483647) % nn), rv aE, rv aR, rv o1, .unset, .unset] [])
  refine own_st (fun _ k => XS.aload Y16.here hx rfl (hb hby at_78) rfl rfl k) ?_
  show own_Go p e below _ T16 (mkF m 80 #[iv p1, iv p2, iv nn, iv ((p2 &&& 2147483647) % nn), rv aE, rv aR, rv o1, .unset, .unset] [(.ref o1)])
  refine own_st (fun _ k => XS.aload Y16.here hx rfl (hb hby at_80) rfl rfl k) ?_
  show own_Go p e below _ T16 (mkF m 82 #[iv p1, iv p2, iv nn, iv ((p2 &&& 2147483647) % nn), rv aE, rv aR, rv o1, .unset, .unset] [(.ref aE), (.ref o1)])
  refine own_st (fun _ k => XT.iconstV Y16.here hx rfl (0 : Int32) (hb hby at_82) (by decide) k) ?_
  show own_Go p e below _ T16 (mkF m 83 #[iv p1, iv p2, iv nn, iv ((p2 &&& 2147483647) % nn), rv aE, rv aR, rv o1, .unset, .unset] [(.int 0), (.ref aE), (.ref o1)])
  refine own_st (fun _ k => own_ldR Y16 hx hZ eh16 V15_aE rfl ⟨by decide, by decide⟩ (v := (.ref e0a)) rfl rfl rfl (hb hby at_83) k) ?_
  show own_Go p e below _ T16 (mkF m 84 #[iv p1, iv p2, iv nn, iv ((p2 &&& 2147483647) % nn), rv aE, rv aR, rv o1, .unset, .unset] [(.ref e0a), (.ref o1)])
  obtain ⟨cq17, kq17, q17a, q17b, q17c⟩ := isOf hZ eh16 A15
  obtain ⟨_, T17, L17, X17, hQ17, st17⟩ := own_gotT (Y16.virtualBack hx (y := (⟨"com/example/recency/recency/RecencyList", "addLast", "(Lcom/example/recency/recency/RecencyList$Link;)V"⟩ : MethodName)) (z := (⟨"com/example/recency/recency/RecencyList", "addLast", "(Lcom/example/recency/recency/RecencyList$Link;)V"⟩ : MethodName)) hown (mvT hZ (hw _ (List.mem_of_getElem? (i := 24) rfl))) (mvT hZ (hw _ (List.mem_of_getElem? (i := 25) rfl))) (notFace_of_selects (args := #[]) (mvT hZ (hw _ (List.mem_of_getElem? (i := 27) rfl)))) (mvT hZ (hw _ (List.mem_of_getElem? (i := 27) rfl))) (mvT hZ (hw _ (List.mem_of_getElem? (i := 26) rfl))) (by decide) (backOf (W := 0) (own_rm_add0 l Z a0 hw [] o1 e0a h15 n0 Z15 (S_A.ext O15.2) A15 F15_first_o1 F15_last_o1 g_o1) hZ (hw _ (List.mem_of_getElem? (i := 28) rfl)) (hw _ (List.mem_of_getElem? (i := 19) rfl)) (by decide) (by decide)) q17a q17c (g := (mkF m 84 #[iv p1, iv p2, iv nn, iv ((p2 &&& 2147483647) % nn), rv aE, rv aR, rv o1, .unset, .unset] [(.ref e0a), (.ref o1)])) rfl (by rw [hml]; rfl) (Steps.refl _) (argsL := [(.ref e0a)]) (rest := []) (lenOf own_pd1 rfl) rfl (by show 2 * 0 + _ ≤ _; exact Nat.le_of_eq rfl) (hb hby at_84) (fun _ _ => ⟨rfl, eh16, (by decide : 7 + 0 ≤ _), (by decide : 17 + 0 ≤ _)⟩))
  replace X17 := own_num X17 (k' := 7) (n' := 17) rfl rfl
  obtain ⟨rfl, N17, KC17, FC17_first_o1, FC17_last_o1⟩ := hQ17
  have M17 := Fr.app P16 N17
  obtain ⟨lc17, Y17, P17⟩ := own_hide X17 M17
  refine own_tr st17 ?_
  clear P16 Y16 N17 eh16 X17 M17 st17
  show own_Go p e below _ T17 (mkF m 87 #[iv p1, iv p2, iv nn, iv ((p2 &&& 2147483647) % nn), rv aE, rv aR, rv o1, .unset, .unset] [])
  have O17 := O15.keep KC17 (allS g_o1 all0)
  have V17_aE := V15_aE.keep KC17 (ninS ne_aE_o1 nin0)
  have V17_aR := V15_aR.keep KC17 (ninS ne_aR_o1 nin0)
  have E17_e0a := E15_e0a.keep KC17
  have E17_e1a := E15_e1a.keep KC17
  have E17_e2a := E15_e2a.keep KC17
  have E17_e3a := E15_e3a.keep KC17
  have E17_o1 := A15.keep KC17
  have F17_previous_e0a := F15_previous_e0a.keep KC17 (ninS ne_e0a_o1 nin0)
  have F17_next_e0a := F15_next_e0a.keep KC17 (ninS ne_e0a_o1 nin0)
  have F17_previous_e1a := F15_previous_e1a.keep KC17 (ninS ne_e1a_o1 nin0)
  have F17_next_e1a := F15_next_e1a.keep KC17 (ninS ne_e1a_o1 nin0)
  have F17_previous_e2a := F15_previous_e2a.keep KC17 (ninS ne_e2a_o1 nin0)
  have F17_next_e2a := F15_next_e2a.keep KC17 (ninS ne_e2a_o1 nin0)
  have F17_previous_e3a := F15_previous_e3a.keep KC17 (ninS ne_e3a_o1 nin0)
  have F17_next_e3a := F15_next_e3a.keep KC17 (ninS ne_e3a_o1 nin0)
  have Z17 : n0 ≤ T17.heap.size := Nat.le_trans Z15 KC17.1
  clear O15 Z15 V15_aE V15_aR E15_e0a E15_e1a E15_e2a E15_e3a A15 F15_previous_e0a F15_next_e0a F15_previous_e1a F15_next_e1a F15_previous_e2a F15_next_e2a F15_previous_e3a F15_next_e3a F15_first_o1 F15_last_o1 KC17
  refine own_st (fun _ k => XS.iloadN Y17.here hx rfl (hb hby at_87) rfl k) ?_
  show own_Go p e below _ T17 (mkF m 88 #[iv p1, iv p2, iv nn, iv ((p2 &&& 2147483647) % nn), rv aE, rv aR, rv o1, .unset, .unset] [(.int nn)])
  refine own_st (fun _ k => XT.iconstV Y17.here hx rfl (1 : Int32) (hb hby at_88) (by decide) k) ?_
  show own_Go p e below _ T17 (mkF m 89 #[iv p1, iv p2, iv nn, iv ((p2 &&& 2147483647) % nn), rv aE, rv aR, rv o1, .unset, .unset] [(.int 1), (.int nn)])
  rcases hn with rfl | rfl | rfl | rfl
  · show own_Go p e below _ T17 (mkF m 89 #[iv p1, iv p2, iv 1, iv ((p2 &&& 2147483647) % 1), rv aE, rv aR, rv o1, .unset, .unset] [(.int 1), (.int 1)])
    refine own_st (fun _ k => XS.icmpYes Y17.here hx rfl (pc0 := 89) (pc' := 101) rfl (hb hby at_89) rfl (XT.ii_le_t (by decide)) (by decide) (by decide) k) ?_
    show own_Go p e below _ T17 (mkF m 101 #[iv p1, iv p2, iv 1, iv ((p2 &&& 2147483647) % 1), rv aE, rv aR, rv o1, .unset, .unset] [])
    refine own_st (fun _ k => XS.iloadN Y17.here hx rfl (hb hby at_101) rfl k) ?_
    show own_Go p e below _ T17 (mkF m 102 #[iv p1, iv p2, iv 1, iv ((p2 &&& 2147483647) % 1), rv aE, rv aR, rv o1, .unset, .unset] [(.int 1)])
    refine own_st (fun _ k => XT.iconstV Y17.here hx rfl (2 : Int32) (hb hby at_102) (by decide) k) ?_
    show own_Go p e below _ T17 (mkF m 103 #[iv p1, iv p2, iv 1, iv ((p2 &&& 2147483647) % 1), rv aE, rv aR, rv o1, .unset, .unset] [(.int 2), (.int 1)])
    refine own_st (fun _ k => XS.icmpYes Y17.here hx rfl (pc0 := 103) (pc' := 115) rfl (hb hby at_103) rfl (XT.ii_le_t (by decide)) (by decide) (by decide) k) ?_
    show own_Go p e below _ T17 (mkF m 115 #[iv p1, iv p2, iv 1, iv ((p2 &&& 2147483647) % 1), rv aE, rv aR, rv o1, .unset, .unset] [])
    refine own_st (fun _ k => XS.iloadN Y17.here hx rfl (hb hby at_115) rfl k) ?_
    show own_Go p e below _ T17 (mkF m 116 #[iv p1, iv p2, iv 1, iv ((p2 &&& 2147483647) % 1), rv aE, rv aR, rv o1, .unset, .unset] [(.int 1)])
    refine own_st (fun _ k => XT.iconstV Y17.here hx rfl (3 : Int32) (hb hby at_116) (by decide) k) ?_
    show own_Go p e below _ T17 (mkF m 117 #[iv p1, iv p2, iv 1, iv ((p2 &&& 2147483647) % 1), rv aE, rv aR, rv o1, .unset, .unset] [(.int 3), (.int 1)])
    refine own_st (fun _ k => XS.icmpYes Y17.here hx rfl (pc0 := 117) (pc' := 129) rfl (hb hby at_117) rfl (XT.ii_le_t (by decide)) (by decide) (by decide) k) ?_
    show own_Go p e below _ T17 (mkF m 129 #[iv p1, iv p2, iv 1, iv ((p2 &&& 2147483647) % 1), rv aE, rv aR, rv o1, .unset, .unset] [])
    refine own_st (fun _ k => XS.aload Y17.here hx rfl (hb hby at_129) rfl rfl k) ?_
    show own_Go p e below _ T17 (mkF m 131 #[iv p1, iv p2, iv 1, iv ((p2 &&& 2147483647) % 1), rv aE, rv aR, rv o1, .unset, .unset] [(.ref aE)])
    refine own_st (fun _ k => XS.iloadN Y17.here hx rfl (hb hby at_131) rfl k) ?_
    show own_Go p e below _ T17 (mkF m 132 #[iv p1, iv p2, iv 1, iv ((p2 &&& 2147483647) % 1), rv aE, rv aR, rv o1, .unset, .unset] [(.int ((p2 &&& 2147483647) % 1)), (.ref aE)])
    obtain ⟨kk, hkk, hk⟩ := own_cases1 p2
    rw [hkk]
    show own_Go p e below _ T17 (mkF m 132 #[iv p1, iv p2, iv 1, iv kk, rv aE, rv aR, rv o1, .unset, .unset] [(.int kk), (.ref aE)])
    rcases hk with rfl
    · show own_Go p e below _ T17 (mkF m 132 #[iv p1, iv p2, iv 1, iv 0, rv aE, rv aR, rv o1, .unset, .unset] [(.int 0), (.ref aE)])
      refine own_st (fun _ k => own_ldR Y17 hx hZ rfl V17_aE rfl ⟨by decide, by decide⟩ (v := (.ref e0a)) rfl rfl rfl (hb hby at_132) k) ?_
      show own_Go p e below _ T17 (mkF m 133 #[iv p1, iv p2, iv 1, iv 0, rv aE, rv aR, rv o1, .unset, .unset] [(.ref e0a)])
      refine own_st (fun _ k => XS.astore Y17.here hx rfl (hb hby at_133) rfl rfl (l' := #[iv p1, iv p2, iv 1, iv 0, rv aE, rv aR, rv o1, rv e0a, .unset]) rfl k) ?_
      show own_Go p e below _ T17 (mkF m 135 #[iv p1, iv p2, iv 1, iv 0, rv aE, rv aR, rv o1, rv e0a, .unset] [])
      refine own_st (fun _ k => XS.aload Y17.here hx rfl (hb hby at_135) rfl rfl k) ?_
      show own_Go p e below _ T17 (mkF m 137 #[iv p1, iv p2, iv 1, iv 0, rv aE, rv aR, rv o1, rv e0a, .unset] [(.ref o1)])
      refine own_st (fun _ k => XS.aload Y17.here hx rfl (hb hby at_137) rfl rfl k) ?_
      show own_Go p e below _ T17 (mkF m 139 #[iv p1, iv p2, iv 1, iv 0, rv aE, rv aR, rv o1, rv e0a, .unset] [(.ref e0a), (.ref o1)])
      obtain ⟨cq18, kq18, q18a, q18b, q18c⟩ := isOf hZ rfl E17_o1
      obtain ⟨_, T18, L18, X18, hQ18, st18⟩ := own_gotT (Y17.virtualBack hx (y := (⟨"com/example/recency/recency/RecencyList", "remove", "(Lcom/example/recency/recency/RecencyList$Link;)V"⟩ : MethodName)) (z := (⟨"com/example/recency/recency/RecencyList", "remove", "(Lcom/example/recency/recency/RecencyList$Link;)V"⟩ : MethodName)) hown (mvT hZ (hw _ (List.mem_of_getElem? (i := 35) rfl))) (mvT hZ (hw _ (List.mem_of_getElem? (i := 36) rfl))) (notFace_of_selects (args := #[]) (mvT hZ (hw _ (List.mem_of_getElem? (i := 38) rfl)))) (mvT hZ (hw _ (List.mem_of_getElem? (i := 38) rfl))) (mvT hZ (hw _ (List.mem_of_getElem? (i := 37) rfl))) (by decide) (backOf (W := 0) (own_rm_rem00 l Z a0 hw [] o1 e0a T17.heap n0 Z17 (S_A.ext O17.2) E17_o1 E17_e0a FC17_first_o1 FC17_last_o1 F17_previous_e0a F17_next_e0a g_o1 g_e0a ne_e0a_o1.symm) hZ (hw _ (List.mem_of_getElem? (i := 39) rfl)) (hw _ (List.mem_of_getElem? (i := 19) rfl)) (by decide) (by decide)) q18a q18c (g := (mkF m 139 #[iv p1, iv p2, iv 1, iv 0, rv aE, rv aR, rv o1, rv e0a, .unset] [(.ref e0a), (.ref o1)])) rfl (by rw [hml]; rfl) (Steps.refl _) (argsL := [(.ref e0a)]) (rest := []) (lenOf own_pd1 rfl) rfl (by show 2 * 0 + _ ≤ _; exact Nat.le_of_eq rfl) (hb hby at_139) (fun _ _ => ⟨rfl, rfl, (by decide : 7 + 0 ≤ _), (by decide : 17 + 0 ≤ _)⟩))
      replace X18 := own_num X18 (k' := 7) (n' := 17) rfl rfl
      obtain ⟨rfl, N18, KC18, FC18_first_o1, FC18_last_o1, FC18_previous_e0a, FC18_next_e0a⟩ := hQ18
      have M18 := Fr.app P17 N18
      obtain ⟨lc18, Y18, P18⟩ := own_hide X18 M18
      refine own_tr st18 ?_
      clear P17 Y17 N18 X18 M18 st18
      show own_Go p e below _ T18 (mkF m 142 #[iv p1, iv p2, iv 1, iv 0, rv aE, rv aR, rv o1, rv e0a, .unset] [])
      have O18 := O17.keep KC18 (allS g_o1 (allS g_e0a all0))
      have V18_aE := V17_aE.keep KC18 (ninS ne_aE_o1 (ninS ne_aE_e0a nin0))
      have V18_aR := V17_aR.keep KC18 (ninS ne_aR_o1 (ninS ne_e0a_aR.symm nin0))
      have E18_e0a := E17_e0a.keep KC18
      have E18_e1a := E17_e1a.keep KC18
      have E18_e2a := E17_e2a.keep KC18
      have E18_e3a := E17_e3a.keep KC18
      have E18_o1 := E17_o1.keep KC18
      have F18_previous_e1a := F17_previous_e1a.keep KC18 (ninS ne_e1a_o1 (ninS ne_e0a_e1a.symm nin0))
      have F18_next_e1a := F17_next_e1a.keep KC18 (ninS ne_e1a_o1 (ninS ne_e0a_e1a.symm nin0))
      have F18_previous_e2a := F17_previous_e2a.keep KC18 (ninS ne_e2a_o1 (ninS ne_e0a_e2a.symm nin0))
      have F18_next_e2a := F17_next_e2a.keep KC18 (ninS ne_e2a_o1 (ninS ne_e0a_e2a.symm nin0))
      have F18_previous_e3a := F17_previous_e3a.keep KC18 (ninS ne_e3a_o1 (ninS ne_e0a_e3a.symm nin0))
      have F18_next_e3a := F17_next_e3a.keep KC18 (ninS ne_e3a_o1 (ninS ne_e0a_e3a.symm nin0))
      have Z18 : n0 ≤ T18.heap.size := Nat.le_trans Z17 KC18.1
      clear O17 Z17 V17_aE V17_aR E17_e0a E17_e1a E17_e2a E17_e3a E17_o1 F17_previous_e0a F17_next_e0a F17_previous_e1a F17_next_e1a F17_previous_e2a F17_next_e2a F17_previous_e3a F17_next_e3a FC17_first_o1 FC17_last_o1 KC18
      refine own_st (fun _ k => XS.iloadN Y18.here hx rfl (hb hby at_142) rfl k) ?_
      show own_Go p e below _ T18 (mkF m 143 #[iv p1, iv p2, iv 1, iv 0, rv aE, rv aR, rv o1, rv e0a, .unset] [(.int 1)])
      refine own_st (fun _ k => XT.iconstV Y18.here hx rfl (1 : Int32) (hb hby at_143) (by decide) k) ?_
      show own_Go p e below _ T18 (mkF m 144 #[iv p1, iv p2, iv 1, iv 0, rv aE, rv aR, rv o1, rv e0a, .unset] [(.int 1), (.int 1)])
      refine own_st (fun _ k => XS.isub Y18.here hx rfl (hb hby at_144) rfl k) ?_
      show own_Go p e below _ T18 (mkF m 145 #[iv p1, iv p2, iv 1, iv 0, rv aE, rv aR, rv o1, rv e0a, .unset] [(.int (1 - 1))])
      refine own_st (fun _ k => XS.istore Y18.here hx rfl (hb hby at_145) rfl (l' := #[iv p1, iv p2, iv 1, iv 0, rv aE, rv aR, rv o1, rv e0a, iv (1 - 1)]) rfl k) ?_
      show own_Go p e below _ T18 (mkF m 147 #[iv p1, iv p2, iv 1, iv 0, rv aE, rv aR, rv o1, rv e0a, iv (1 - 1)] [])
      refine own_st (fun _ k => XS.iload Y18.here hx rfl (hb hby at_147) rfl k) ?_
      show own_Go p e below _ T18 (mkF m 149 #[iv p1, iv p2, iv 1, iv 0, rv aE, rv aR, rv o1, rv e0a, iv (1 - 1)] [(.int (1 - 1))])
      rw [show ((1 : Int32) - (1 : Int32)) = (0 : Int32) from by decide]
      show own_Go p e below _ T18 (mkF m 149 #[iv p1, iv p2, iv 1, iv 0, rv aE, rv aR, rv o1, rv e0a, iv 0] [(.int 0)])
      refine own_st (fun _ k => XS.ifYes Y18.here hx rfl (pc0 := 149) (pc' := 169) rfl (hb hby at_149) rfl (XT.i0_le_t (by decide)) (by decide) (by decide) k) ?_
      show own_Go p e below _ T18 (mkF m 169 #[iv p1, iv p2, iv 1, iv 0, rv aE, rv aR, rv o1, rv e0a, iv 0] [])
      refine own_st (fun _ k => XS.iload Y18.here hx rfl (hb hby at_169) rfl k) ?_
      show own_Go p e below _ T18 (mkF m 171 #[iv p1, iv p2, iv 1, iv 0, rv aE, rv aR, rv o1, rv e0a, iv 0] [(.int 0)])
      refine own_st (fun _ k => XT.iconstV Y18.here hx rfl (1 : Int32) (hb hby at_171) (by decide) k) ?_
      show own_Go p e below _ T18 (mkF m 172 #[iv p1, iv p2, iv 1, iv 0, rv aE, rv aR, rv o1, rv e0a, iv 0] [(.int 1), (.int 0)])
      refine own_st (fun _ k => XS.icmpYes Y18.here hx rfl (pc0 := 172) (pc' := 192) rfl (hb hby at_172) rfl (XT.ii_le_t (by decide)) (by decide) (by decide) k) ?_
      show own_Go p e below _ T18 (mkF m 192 #[iv p1, iv p2, iv 1, iv 0, rv aE, rv aR, rv o1, rv e0a, iv 0] [])
      refine own_st (fun _ k => XS.iload Y18.here hx rfl (hb hby at_192) rfl k) ?_
      show own_Go p e below _ T18 (mkF m 194 #[iv p1, iv p2, iv 1, iv 0, rv aE, rv aR, rv o1, rv e0a, iv 0] [(.int 0)])
      refine own_st (fun _ k => XT.iconstV Y18.here hx rfl (2 : Int32) (hb hby at_194) (by decide) k) ?_
      show own_Go p e below _ T18 (mkF m 195 #[iv p1, iv p2, iv 1, iv 0, rv aE, rv aR, rv o1, rv e0a, iv 0] [(.int 2), (.int 0)])
      refine own_st (fun _ k => XS.icmpYes Y18.here hx rfl (pc0 := 195) (pc' := 215) rfl (hb hby at_195) rfl (XT.ii_le_t (by decide)) (by decide) (by decide) k) ?_
      show own_Go p e below _ T18 (mkF m 215 #[iv p1, iv p2, iv 1, iv 0, rv aE, rv aR, rv o1, rv e0a, iv 0] [])
      refine own_st (fun _ k => XS.aload Y18.here hx rfl (hb hby at_215) rfl rfl k) ?_
      show own_Go p e below _ T18 (mkF m 217 #[iv p1, iv p2, iv 1, iv 0, rv aE, rv aR, rv o1, rv e0a, iv 0] [(.ref e0a)])
      obtain ⟨T19, X19, e19, st19⟩ := getF Y18 hx hZ hown (host := "") (Or.inl (hw _ (List.mem_of_getElem? (i := 44) rfl))) (Via.of (hw _ (List.mem_of_getElem? (i := 45) rfl))) rfl FC18_previous_e0a (g := (mkF m 217 #[iv p1, iv p2, iv 1, iv 0, rv aE, rv aR, rv o1, rv e0a, iv 0] [(.ref e0a)])) rfl rfl (hb hby at_217)
      clear Y18
      refine own_st st19 ?_
      clear st19
      show own_Go p e below _ T19 (mkF m 220 #[iv p1, iv p2, iv 1, iv 0, rv aE, rv aR, rv o1, rv e0a, iv 0] [.null])
      refine own_st (fun _ k => XT.ifnonnullNo X19.here hx rfl (hb hby at_220) rfl k) ?_
      show own_Go p e below _ T19 (mkF m 223 #[iv p1, iv p2, iv 1, iv 0, rv aE, rv aR, rv o1, rv e0a, iv 0] [])
      refine own_st (fun _ k => XS.aload X19.here hx rfl (hb hby at_223) rfl rfl k) ?_
      show own_Go p e below _ T19 (mkF m 225 #[iv p1, iv p2, iv 1, iv 0, rv aE, rv aR, rv o1, rv e0a, iv 0] [(.ref e0a)])
      obtain ⟨T20, X20, e20, st20⟩ := getF X19 hx hZ hown (host := "") (Or.inl (hw _ (List.mem_of_getElem? (i := 46) rfl))) (Via.of (hw _ (List.mem_of_getElem? (i := 47) rfl))) e19 FC18_next_e0a (g := (mkF m 225 #[iv p1, iv p2, iv 1, iv 0, rv aE, rv aR, rv o1, rv e0a, iv 0] [(.ref e0a)])) rfl rfl (hb hby at_225)
      clear X19 e19
      refine own_st st20 ?_
      clear st20
      show own_Go p e below _ T20 (mkF m 228 #[iv p1, iv p2, iv 1, iv 0, rv aE, rv aR, rv o1, rv e0a, iv 0] [.null])
      refine own_st (fun _ k => XS.ifnullYes X20.here hx rfl (pc0 := 228) (pc' := 233) rfl (hb hby at_228) rfl (by decide) (by decide) k) ?_
      show own_Go p e below _ T20 (mkF m 233 #[iv p1, iv p2, iv 1, iv 0, rv aE, rv aR, rv o1, rv e0a, iv 0] [])
      refine own_st (fun _ k => XS.aload X20.here hx rfl (hb hby at_233) rfl rfl k) ?_
      show own_Go p e below _ T20 (mkF m 235 #[iv p1, iv p2, iv 1, iv 0, rv aE, rv aR, rv o1, rv e0a, iv 0] [(.ref o1)])
      obtain ⟨cq21, kq21, q21a, q21b, q21c⟩ := isOf hZ e20 E18_o1
      obtain ⟨_, T21, L21, X21, hQ21, st21⟩ := own_gotT (X20.virtualBack hx (y := (⟨"com/example/recency/recency/RecencyList", "first", "()Lcom/example/recency/recency/RecencyList$Link;"⟩ : MethodName)) (z := (⟨"com/example/recency/recency/RecencyList", "first", "()Lcom/example/recency/recency/RecencyList$Link;"⟩ : MethodName)) hown (mvT hZ (hw _ (List.mem_of_getElem? (i := 48) rfl))) (mvT hZ (hw _ (List.mem_of_getElem? (i := 49) rfl))) (notFace_of_selects (args := #[]) (mvT hZ (hw _ (List.mem_of_getElem? (i := 51) rfl)))) (mvT hZ (hw _ (List.mem_of_getElem? (i := 51) rfl))) (mvT hZ (hw _ (List.mem_of_getElem? (i := 50) rfl))) (by decide) (backOf (W := 0) (own_rm_fst l Z a0 hw [] o1 .null T18.heap n0 Z18 rfl FC18_first_o1) hZ (hw _ (List.mem_of_getElem? (i := 52) rfl)) (hw _ (List.mem_of_getElem? (i := 19) rfl)) (by decide) (by decide)) q21a q21c (g := (mkF m 235 #[iv p1, iv p2, iv 1, iv 0, rv aE, rv aR, rv o1, rv e0a, iv 0] [(.ref o1)])) rfl (by rw [hml]; rfl) (Steps.refl _) (argsL := []) (rest := []) (lenOf own_pd2 rfl) rfl (by show 2 * 0 + _ ≤ _; exact Nat.le_of_eq rfl) (hb hby at_235) (fun _ _ => ⟨rfl, e20, (by decide : 7 + 0 ≤ _), (by decide : 17 + 0 ≤ _)⟩))
      replace X21 := own_num X21 (k' := 7) (n' := 17) rfl rfl
      obtain ⟨rfl, N21, eh21⟩ := hQ21
      have M21 := Fr.app P18 N21
      obtain ⟨lc21, Y21, P21⟩ := own_hide X21 M21
      refine own_tr st21 ?_
      clear P18 X20 N21 e20 X21 M21 st21
      show own_Go p e below _ T21 (mkF m 238 #[iv p1, iv p2, iv 1, iv 0, rv aE, rv aR, rv o1, rv e0a, iv 0] [.null])
      refine own_st (fun _ k => XS.iload Y21.here hx rfl (hb hby at_238) rfl k) ?_
      show own_Go p e below _ T21 (mkF m 240 #[iv p1, iv p2, iv 1, iv 0, rv aE, rv aR, rv o1, rv e0a, iv 0] [(.int 0), .null])
      refine own_st (fun _ k => XS.ifYes Y21.here hx rfl (pc0 := 240) (pc' := 250) rfl (hb hby at_240) rfl (XT.i0_le_t (by decide)) (by decide) (by decide) k) ?_
      show own_Go p e below _ T21 (mkF m 250 #[iv p1, iv p2, iv 1, iv 0, rv aE, rv aR, rv o1, rv e0a, iv 0] [.null])
      refine own_st (fun _ k => XS.aconstNull Y21.here hx rfl (hb hby at_250) k) ?_
      show own_Go p e below _ T21 (mkF m 251 #[iv p1, iv p2, iv 1, iv 0, rv aE, rv aR, rv o1, rv e0a, iv 0] [.null, .null])
      refine own_st (fun _ k => XT.acmpYes Y21.here hx rfl (pc0 := 251) (pc' := 256) rfl (hb hby at_251) rfl rfl rfl (XT.aa_eq_t rfl) (by decide) (by decide) k) ?_
      show own_Go p e below _ T21 (mkF m 256 #[iv p1, iv p2, iv 1, iv 0, rv aE, rv aR, rv o1, rv e0a, iv 0] [])
      refine own_st (fun _ k => XS.aload Y21.here hx rfl (hb hby at_256) rfl rfl k) ?_
      show own_Go p e below _ T21 (mkF m 258 #[iv p1, iv p2, iv 1, iv 0, rv aE, rv aR, rv o1, rv e0a, iv 0] [(.ref aR)])
      refine own_st (fun _ k => XT.iconstV Y21.here hx rfl (0 : Int32) (hb hby at_258) (by decide) k) ?_
      show own_Go p e below _ T21 (mkF m 259 #[iv p1, iv p2, iv 1, iv 0, rv aE, rv aR, rv o1, rv e0a, iv 0] [(.int 0), (.ref aR)])
      refine own_st (fun _ k => XS.iload Y21.here hx rfl (hb hby at_259) rfl k) ?_
      show own_Go p e below _ T21 (mkF m 261 #[iv p1, iv p2, iv 1, iv 0, rv aE, rv aR, rv o1, rv e0a, iv 0] [(.int 0), (.int 0), (.ref aR)])
      obtain ⟨_, T22, L22, X22, hQ22, st22⟩ := own_gotS (Jvm.LawKit.callS Y21 hx (y := (⟨"com/example/recency/recency/RecencyListRemovePinLaw", "linked", "([Lcom/example/recency/recency/RecencyListRemovePinLaw;II)Z"⟩ : MethodName)) hown (mvT hZ (hw _ (List.mem_of_getElem? (i := 53) rfl))) (mvT hZ (hw _ (List.mem_of_getElem? (i := 54) rfl))) (mvT hZ (hw _ (List.mem_of_getElem? (i := 4) rfl))) (mvT hZ (hw _ (List.mem_of_getElem? (i := 55) rfl))) (by decide) (backOf (W := 0) (own_rm_lk l Z a0 hw [] aR (0 : Int32) (0 : Int32) T18.heap n0 Z18 (by decide)) hZ (hw _ (List.mem_of_getElem? (i := 55) rfl)) (hw _ (List.mem_of_getElem? (i := 4) rfl)) (by decide) (by decide)) (g := (mkF m 261 #[iv p1, iv p2, iv 1, iv 0, rv aE, rv aR, rv o1, rv e0a, iv 0] [(.int 0), (.int 0), (.ref aR)])) rfl (by rw [hml]; rfl) (argsL := [(.ref aR), (.int (0 : Int32)), (.int (0 : Int32))]) (rest := []) (lenOf own_pd3 rfl) rfl (by show 2 * 0 + _ ≤ _; exact Nat.le_of_eq rfl) (hb hby at_261) (fun _ _ => ⟨rfl, eh21, (by decide : 7 + 0 ≤ _), (by decide : 17 + 0 ≤ _)⟩))
      replace X22 := own_num X22 (k' := 7) (n' := 17) rfl rfl
      obtain ⟨rfl, N22, eh22⟩ := hQ22
      have M22 := Fr.app P21 N22
      obtain ⟨lc22, Y22, P22⟩ := own_hide X22 M22
      refine own_st st22 ?_
      clear P21 Y21 N22 eh21 X22 M22 st22
      show own_Go p e below _ T22 (mkF m 264 #[iv p1, iv p2, iv 1, iv 0, rv aE, rv aR, rv o1, rv e0a, iv 0] [(.int 1)])
      refine own_st (fun _ k => XS.ifNo Y22.here hx rfl (hb hby at_264) rfl (XT.i0_eq_f (by decide)) k) ?_
      show own_Go p e below _ T22 (mkF m 267 #[iv p1, iv p2, iv 1, iv 0, rv aE, rv aR, rv o1, rv e0a, iv 0] [])
      refine own_st (fun _ k => XS.aload Y22.here hx rfl (hb hby at_267) rfl rfl k) ?_
      show own_Go p e below _ T22 (mkF m 269 #[iv p1, iv p2, iv 1, iv 0, rv aE, rv aR, rv o1, rv e0a, iv 0] [(.ref aR)])
      refine own_st (fun _ k => XT.iconstV Y22.here hx rfl (1 : Int32) (hb hby at_269) (by decide) k) ?_
      show own_Go p e below _ T22 (mkF m 270 #[iv p1, iv p2, iv 1, iv 0, rv aE, rv aR, rv o1, rv e0a, iv 0] [(.int 1), (.ref aR)])
      refine own_st (fun _ k => XS.iload Y22.here hx rfl (hb hby at_270) rfl k) ?_
      show own_Go p e below _ T22 (mkF m 272 #[iv p1, iv p2, iv 1, iv 0, rv aE, rv aR, rv o1, rv e0a, iv 0] [(.int 0), (.int 1), (.ref aR)])
      obtain ⟨_, T23, L23, X23, hQ23, st23⟩ := own_gotS (Jvm.LawKit.callS Y22 hx (y := (⟨"com/example/recency/recency/RecencyListRemovePinLaw", "linked", "([Lcom/example/recency/recency/RecencyListRemovePinLaw;II)Z"⟩ : MethodName)) hown (mvT hZ (hw _ (List.mem_of_getElem? (i := 53) rfl))) (mvT hZ (hw _ (List.mem_of_getElem? (i := 54) rfl))) (mvT hZ (hw _ (List.mem_of_getElem? (i := 4) rfl))) (mvT hZ (hw _ (List.mem_of_getElem? (i := 55) rfl))) (by decide) (backOf (W := 0) (own_rm_lk l Z a0 hw [] aR (1 : Int32) (0 : Int32) T18.heap n0 Z18 (by decide)) hZ (hw _ (List.mem_of_getElem? (i := 55) rfl)) (hw _ (List.mem_of_getElem? (i := 4) rfl)) (by decide) (by decide)) (g := (mkF m 272 #[iv p1, iv p2, iv 1, iv 0, rv aE, rv aR, rv o1, rv e0a, iv 0] [(.int 0), (.int 1), (.ref aR)])) rfl (by rw [hml]; rfl) (argsL := [(.ref aR), (.int (1 : Int32)), (.int (0 : Int32))]) (rest := []) (lenOf own_pd3 rfl) rfl (by show 2 * 0 + _ ≤ _; exact Nat.le_of_eq rfl) (hb hby at_272) (fun _ _ => ⟨rfl, eh22, (by decide : 7 + 0 ≤ _), (by decide : 17 + 0 ≤ _)⟩))
      replace X23 := own_num X23 (k' := 7) (n' := 17) rfl rfl
      obtain ⟨rfl, N23, eh23⟩ := hQ23
      have M23 := Fr.app P22 N23
      obtain ⟨lc23, Y23, P23⟩ := own_hide X23 M23
      refine own_st st23 ?_
      clear P22 Y22 N23 eh22 X23 M23 st23
      show own_Go p e below _ T23 (mkF m 275 #[iv p1, iv p2, iv 1, iv 0, rv aE, rv aR, rv o1, rv e0a, iv 0] [(.int 1)])
      refine own_st (fun _ k => XS.ifNo Y23.here hx rfl (hb hby at_275) rfl (XT.i0_eq_f (by decide)) k) ?_
      show own_Go p e below _ T23 (mkF m 278 #[iv p1, iv p2, iv 1, iv 0, rv aE, rv aR, rv o1, rv e0a, iv 0] [])
      refine own_st (fun _ k => XS.aload Y23.here hx rfl (hb hby at_278) rfl rfl k) ?_
      show own_Go p e below _ T23 (mkF m 280 #[iv p1, iv p2, iv 1, iv 0, rv aE, rv aR, rv o1, rv e0a, iv 0] [(.ref aR)])
      refine own_st (fun _ k => XT.iconstV Y23.here hx rfl (2 : Int32) (hb hby at_280) (by decide) k) ?_
      show own_Go p e below _ T23 (mkF m 281 #[iv p1, iv p2, iv 1, iv 0, rv aE, rv aR, rv o1, rv e0a, iv 0] [(.int 2), (.ref aR)])
      refine own_st (fun _ k => XS.iload Y23.here hx rfl (hb hby at_281) rfl k) ?_
      show own_Go p e below _ T23 (mkF m 283 #[iv p1, iv p2, iv 1, iv 0, rv aE, rv aR, rv o1, rv e0a, iv 0] [(.int 0), (.int 2), (.ref aR)])
      obtain ⟨_, T24, L24, X24, hQ24, st24⟩ := own_gotS (Jvm.LawKit.callS Y23 hx (y := (⟨"com/example/recency/recency/RecencyListRemovePinLaw", "linked", "([Lcom/example/recency/recency/RecencyListRemovePinLaw;II)Z"⟩ : MethodName)) hown (mvT hZ (hw _ (List.mem_of_getElem? (i := 53) rfl))) (mvT hZ (hw _ (List.mem_of_getElem? (i := 54) rfl))) (mvT hZ (hw _ (List.mem_of_getElem? (i := 4) rfl))) (mvT hZ (hw _ (List.mem_of_getElem? (i := 55) rfl))) (by decide) (backOf (W := 0) (own_rm_lk l Z a0 hw [] aR (2 : Int32) (0 : Int32) T18.heap n0 Z18 (by decide)) hZ (hw _ (List.mem_of_getElem? (i := 55) rfl)) (hw _ (List.mem_of_getElem? (i := 4) rfl)) (by decide) (by decide)) (g := (mkF m 283 #[iv p1, iv p2, iv 1, iv 0, rv aE, rv aR, rv o1, rv e0a, iv 0] [(.int 0), (.int 2), (.ref aR)])) rfl (by rw [hml]; rfl) (argsL := [(.ref aR), (.int (2 : Int32)), (.int (0 : Int32))]) (rest := []) (lenOf own_pd3 rfl) rfl (by show 2 * 0 + _ ≤ _; exact Nat.le_of_eq rfl) (hb hby at_283) (fun _ _ => ⟨rfl, eh23, (by decide : 7 + 0 ≤ _), (by decide : 17 + 0 ≤ _)⟩))
      replace X24 := own_num X24 (k' := 7) (n' := 17) rfl rfl
      obtain ⟨rfl, N24, eh24⟩ := hQ24
      have M24 := Fr.app P23 N24
      obtain ⟨lc24, Y24, P24⟩ := own_hide X24 M24
      refine own_st st24 ?_
      clear P23 Y23 N24 eh23 X24 M24 st24
      show own_Go p e below _ T24 (mkF m 286 #[iv p1, iv p2, iv 1, iv 0, rv aE, rv aR, rv o1, rv e0a, iv 0] [(.int 1)])
      refine own_st (fun _ k => XS.ifYes Y24.here hx rfl (pc0 := 286) (pc' := 291) rfl (hb hby at_286) rfl (XT.i0_ne_t (by decide)) (by decide) (by decide) k) ?_
      show own_Go p e below _ T24 (mkF m 291 #[iv p1, iv p2, iv 1, iv 0, rv aE, rv aR, rv o1, rv e0a, iv 0] [])
      refine own_st (fun _ k => XS.aload Y24.here hx rfl (hb hby at_291) rfl rfl k) ?_
      show own_Go p e below _ T24 (mkF m 293 #[iv p1, iv p2, iv 1, iv 0, rv aE, rv aR, rv o1, rv e0a, iv 0] [(.ref o1)])
      refine own_st (fun _ k => XS.aload Y24.here hx rfl (hb hby at_293) rfl rfl k) ?_
      show own_Go p e below _ T24 (mkF m 295 #[iv p1, iv p2, iv 1, iv 0, rv aE, rv aR, rv o1, rv e0a, iv 0] [(.ref e0a), (.ref o1)])
      obtain ⟨cq25, kq25, q25a, q25b, q25c⟩ := isOf hZ eh24 E18_o1
      obtain ⟨_, T25, L25, X25, hQ25, st25⟩ := own_gotT (Y24.virtualBack hx (y := (⟨"com/example/recency/recency/RecencyList", "addLast", "(Lcom/example/recency/recency/RecencyList$Link;)V"⟩ : MethodName)) (z := (⟨"com/example/recency/recency/RecencyList", "addLast", "(Lcom/example/recency/recency/RecencyList$Link;)V"⟩ : MethodName)) hown (mvT hZ (hw _ (List.mem_of_getElem? (i := 24) rfl))) (mvT hZ (hw _ (List.mem_of_getElem? (i := 25) rfl))) (notFace_of_selects (args := #[]) (mvT hZ (hw _ (List.mem_of_getElem? (i := 27) rfl)))) (mvT hZ (hw _ (List.mem_of_getElem? (i := 27) rfl))) (mvT hZ (hw _ (List.mem_of_getElem? (i := 26) rfl))) (by decide) (backOf (W := 0) (own_rm_add0 l Z a0 hw [] o1 e0a T18.heap n0 Z18 (S_A.ext O18.2) E18_o1 FC18_first_o1 FC18_last_o1 g_o1) hZ (hw _ (List.mem_of_getElem? (i := 28) rfl)) (hw _ (List.mem_of_getElem? (i := 19) rfl)) (by decide) (by decide)) q25a q25c (g := (mkF m 295 #[iv p1, iv p2, iv 1, iv 0, rv aE, rv aR, rv o1, rv e0a, iv 0] [(.ref e0a), (.ref o1)])) rfl (by rw [hml]; rfl) (Steps.refl _) (argsL := [(.ref e0a)]) (rest := []) (lenOf own_pd1 rfl) rfl (by show 2 * 0 + _ ≤ _; exact Nat.le_of_eq rfl) (hb hby at_295) (fun _ _ => ⟨rfl, eh24, (by decide : 7 + 0 ≤ _), (by decide : 17 + 0 ≤ _)⟩))
      replace X25 := own_num X25 (k' := 7) (n' := 17) rfl rfl
      obtain ⟨rfl, N25, KC25, FC25_first_o1, FC25_last_o1⟩ := hQ25
      have M25 := Fr.app P24 N25
      obtain ⟨lc25, Y25, P25⟩ := own_hide X25 M25
      refine own_tr st25 ?_
      clear P24 Y24 N25 eh24 X25 M25 st25
      show own_Go p e below _ T25 (mkF m 298 #[iv p1, iv p2, iv 1, iv 0, rv aE, rv aR, rv o1, rv e0a, iv 0] [])
      have O25 := O18.keep KC25 (allS g_o1 all0)
      have V25_aE := V18_aE.keep KC25 (ninS ne_aE_o1 nin0)
      have V25_aR := V18_aR.keep KC25 (ninS ne_aR_o1 nin0)
      have E25_e0a := E18_e0a.keep KC25
      have E25_e1a := E18_e1a.keep KC25
      have E25_e2a := E18_e2a.keep KC25
      have E25_e3a := E18_e3a.keep KC25
      have E25_o1 := E18_o1.keep KC25
      have F25_previous_e0a := FC18_previous_e0a.keep KC25 (ninS ne_e0a_o1 nin0)
      have F25_next_e0a := FC18_next_e0a.keep KC25 (ninS ne_e0a_o1 nin0)
      have F25_previous_e1a := F18_previous_e1a.keep KC25 (ninS ne_e1a_o1 nin0)
      have F25_next_e1a := F18_next_e1a.keep KC25 (ninS ne_e1a_o1 nin0)
      have F25_previous_e2a := F18_previous_e2a.keep KC25 (ninS ne_e2a_o1 nin0)
      have F25_next_e2a := F18_next_e2a.keep KC25 (ninS ne_e2a_o1 nin0)
      have F25_previous_e3a := F18_previous_e3a.keep KC25 (ninS ne_e3a_o1 nin0)
      have F25_next_e3a := F18_next_e3a.keep KC25 (ninS ne_e3a_o1 nin0)
      have Z25 : n0 ≤ T25.heap.size := Nat.le_trans Z18 KC25.1
      clear O18 Z18 V18_aE V18_aR E18_e0a E18_e1a E18_e2a E18_e3a E18_o1 FC18_previous_e0a FC18_next_e0a F18_previous_e1a F18_next_e1a F18_previous_e2a F18_next_e2a F18_previous_e3a F18_next_e3a FC18_first_o1 FC18_last_o1 KC25
      refine own_st (fun _ k => XS.iload Y25.here hx rfl (hb hby at_298) rfl k) ?_
      show own_Go p e below _ T25 (mkF m 300 #[iv p1, iv p2, iv 1, iv 0, rv aE, rv aR, rv o1, rv e0a, iv 0] [(.int 0)])
      refine own_st (fun _ k => XS.ifNo Y25.here hx rfl (hb hby at_300) rfl (XT.i0_ne_f (by decide)) k) ?_
      show own_Go p e below _ T25 (mkF m 303 #[iv p1, iv p2, iv 1, iv 0, rv aE, rv aR, rv o1, rv e0a, iv 0] [])
      refine own_st (fun _ k => XS.aload Y25.here hx rfl (hb hby at_303) rfl rfl k) ?_
      show own_Go p e below _ T25 (mkF m 305 #[iv p1, iv p2, iv 1, iv 0, rv aE, rv aR, rv o1, rv e0a, iv 0] [(.ref o1)])
      obtain ⟨cq26, kq26, q26a, q26b, q26c⟩ := isOf hZ rfl E25_o1
      obtain ⟨_, T26, L26, X26, hQ26, st26⟩ := own_gotT (Y25.virtualBack hx (y := (⟨"com/example/recency/recency/RecencyList", "first", "()Lcom/example/recency/recency/RecencyList$Link;"⟩ : MethodName)) (z := (⟨"com/example/recency/recency/RecencyList", "first", "()Lcom/example/recency/recency/RecencyList$Link;"⟩ : MethodName)) hown (mvT hZ (hw _ (List.mem_of_getElem? (i := 48) rfl))) (mvT hZ (hw _ (List.mem_of_getElem? (i := 49) rfl))) (notFace_of_selects (args := #[]) (mvT hZ (hw _ (List.mem_of_getElem? (i := 51) rfl)))) (mvT hZ (hw _ (List.mem_of_getElem? (i := 51) rfl))) (mvT hZ (hw _ (List.mem_of_getElem? (i := 50) rfl))) (by decide) (backOf (W := 0) (own_rm_fst l Z a0 hw [] o1 (.ref e0a) T25.heap n0 Z25 rfl FC25_first_o1) hZ (hw _ (List.mem_of_getElem? (i := 52) rfl)) (hw _ (List.mem_of_getElem? (i := 19) rfl)) (by decide) (by decide)) q26a q26c (g := (mkF m 305 #[iv p1, iv p2, iv 1, iv 0, rv aE, rv aR, rv o1, rv e0a, iv 0] [(.ref o1)])) rfl (by rw [hml]; rfl) (Steps.refl _) (argsL := []) (rest := []) (lenOf own_pd2 rfl) rfl (by show 2 * 0 + _ ≤ _; exact Nat.le_of_eq rfl) (hb hby at_305) (fun _ _ => ⟨rfl, rfl, (by decide : 7 + 0 ≤ _), (by decide : 17 + 0 ≤ _)⟩))
      replace X26 := own_num X26 (k' := 7) (n' := 17) rfl rfl
      obtain ⟨rfl, N26, eh26⟩ := hQ26
      have M26 := Fr.app P25 N26
      obtain ⟨lc26, Y26, P26⟩ := own_hide X26 M26
      refine own_tr st26 ?_
      clear P25 Y25 N26 X26 M26 st26
      show own_Go p e below _ T26 (mkF m 308 #[iv p1, iv p2, iv 1, iv 0, rv aE, rv aR, rv o1, rv e0a, iv 0] [(.ref e0a)])
      refine own_st (fun _ k => XS.aload Y26.here hx rfl (hb hby at_308) rfl rfl k) ?_
      show own_Go p e below _ T26 (mkF m 310 #[iv p1, iv p2, iv 1, iv 0, rv aE, rv aR, rv o1, rv e0a, iv 0] [(.ref e0a), (.ref e0a)])
      refine own_st (fun _ k => XT.acmpNo Y26.here hx rfl (hb hby at_310) rfl rfl rfl (XT.aa_ne_f rfl) k) ?_
      show own_Go p e below _ T26 (mkF m 313 #[iv p1, iv p2, iv 1, iv 0, rv aE, rv aR, rv o1, rv e0a, iv 0] [])
      refine own_st (fun _ k => XS.aload Y26.here hx rfl (hb hby at_313) rfl rfl k) ?_
      show own_Go p e below _ T26 (mkF m 315 #[iv p1, iv p2, iv 1, iv 0, rv aE, rv aR, rv o1, rv e0a, iv 0] [(.ref e0a)])
      obtain ⟨T27, X27, e27, st27⟩ := getF Y26 hx hZ hown (host := "") (Or.inl (hw _ (List.mem_of_getElem? (i := 44) rfl))) (Via.of (hw _ (List.mem_of_getElem? (i := 45) rfl))) eh26 F25_previous_e0a (g := (mkF m 315 #[iv p1, iv p2, iv 1, iv 0, rv aE, rv aR, rv o1, rv e0a, iv 0] [(.ref e0a)])) rfl rfl (hb hby at_315)
      clear Y26 eh26
      refine own_st st27 ?_
      clear st27
      show own_Go p e below _ T27 (mkF m 318 #[iv p1, iv p2, iv 1, iv 0, rv aE, rv aR, rv o1, rv e0a, iv 0] [.null])
      refine own_st (fun _ k => XT.ifnonnullNo X27.here hx rfl (hb hby at_318) rfl k) ?_
      show own_Go p e below _ T27 (mkF m 321 #[iv p1, iv p2, iv 1, iv 0, rv aE, rv aR, rv o1, rv e0a, iv 0] [])
      refine own_st (fun _ k => XS.aload X27.here hx rfl (hb hby at_321) rfl rfl k) ?_
      show own_Go p e below _ T27 (mkF m 323 #[iv p1, iv p2, iv 1, iv 0, rv aE, rv aR, rv o1, rv e0a, iv 0] [(.ref e0a)])
      obtain ⟨T28, X28, e28, st28⟩ := getF X27 hx hZ hown (host := "") (Or.inl (hw _ (List.mem_of_getElem? (i := 46) rfl))) (Via.of (hw _ (List.mem_of_getElem? (i := 47) rfl))) e27 F25_next_e0a (g := (mkF m 323 #[iv p1, iv p2, iv 1, iv 0, rv aE, rv aR, rv o1, rv e0a, iv 0] [(.ref e0a)])) rfl rfl (hb hby at_323)
      clear X27 e27
      refine own_st st28 ?_
      clear st28
      show own_Go p e below _ T28 (mkF m 326 #[iv p1, iv p2, iv 1, iv 0, rv aE, rv aR, rv o1, rv e0a, iv 0] [.null])
      refine own_st (fun _ k => XT.ifnonnullNo X28.here hx rfl (hb hby at_326) rfl k) ?_
      show own_Go p e below _ T28 (mkF m 329 #[iv p1, iv p2, iv 1, iv 0, rv aE, rv aR, rv o1, rv e0a, iv 0] [])
      refine own_st (fun _ k => XT.iconstV X28.here hx rfl (1 : Int32) (hb hby at_329) (by decide) k) ?_
      show own_Go p e below _ T28 (mkF m 330 #[iv p1, iv p2, iv 1, iv 0, rv aE, rv aR, rv o1, rv e0a, iv 0] [(.int 1)])
      refine own_st (fun _ k => XS.goto X28.here hx rfl (pc0 := 330) (pc' := 334) rfl (hb hby at_330) (by decide) (by decide) k) ?_
      show own_Go p e below _ T28 (mkF m 334 #[iv p1, iv p2, iv 1, iv 0, rv aE, rv aR, rv o1, rv e0a, iv 0] [(.int 1)])
      refine own_retN X28 hx Bd.notSynchronized (t := .boolean) Bd.returns (by simp) (hb hby at_334) (by decide) (by decide) ?_
      rw [e28]
      exact ⟨rfl, P26⟩
  · show own_Go p e below _ T17 (mkF m 89 #[iv p1, iv p2, iv 2, iv ((p2 &&& 2147483647) % 2), rv aE, rv aR, rv o1, .unset, .unset] [(.int 1), (.int 2)])
    refine own_st (fun _ k => XS.icmpNo Y17.here hx rfl (hb hby at_89) rfl (XT.ii_le_f (by decide)) k) ?_
    show own_Go p e below _ T17 (mkF m 92 #[iv p1, iv p2, iv 2, iv ((p2 &&& 2147483647) % 2), rv aE, rv aR, rv o1, .unset, .unset] [])
    refine own_st (fun _ k => XS.aload Y17.here hx rfl (hb hby at_92) rfl rfl k) ?_
    show own_Go p e below _ T17 (mkF m 94 #[iv p1, iv p2, iv 2, iv ((p2 &&& 2147483647) % 2), rv aE, rv aR, rv o1, .unset, .unset] [(.ref o1)])
    refine own_st (fun _ k => XS.aload Y17.here hx rfl (hb hby at_94) rfl rfl k) ?_
    show own_Go p e below _ T17 (mkF m 96 #[iv p1, iv p2, iv 2, iv ((p2 &&& 2147483647) % 2), rv aE, rv aR, rv o1, .unset, .unset] [(.ref aE), (.ref o1)])
    refine own_st (fun _ k => XT.iconstV Y17.here hx rfl (1 : Int32) (hb hby at_96) (by decide) k) ?_
    show own_Go p e below _ T17 (mkF m 97 #[iv p1, iv p2, iv 2, iv ((p2 &&& 2147483647) % 2), rv aE, rv aR, rv o1, .unset, .unset] [(.int 1), (.ref aE), (.ref o1)])
    refine own_st (fun _ k => own_ldR Y17 hx hZ rfl V17_aE rfl ⟨by decide, by decide⟩ (v := (.ref e1a)) rfl rfl rfl (hb hby at_97) k) ?_
    show own_Go p e below _ T17 (mkF m 98 #[iv p1, iv p2, iv 2, iv ((p2 &&& 2147483647) % 2), rv aE, rv aR, rv o1, .unset, .unset] [(.ref e1a), (.ref o1)])
    obtain ⟨cq30, kq30, q30a, q30b, q30c⟩ := isOf hZ rfl E17_o1
    obtain ⟨_, T30, L30, X30, hQ30, st30⟩ := own_gotT (Y17.virtualBack hx (y := (⟨"com/example/recency/recency/RecencyList", "addLast", "(Lcom/example/recency/recency/RecencyList$Link;)V"⟩ : MethodName)) (z := (⟨"com/example/recency/recency/RecencyList", "addLast", "(Lcom/example/recency/recency/RecencyList$Link;)V"⟩ : MethodName)) hown (mvT hZ (hw _ (List.mem_of_getElem? (i := 24) rfl))) (mvT hZ (hw _ (List.mem_of_getElem? (i := 25) rfl))) (notFace_of_selects (args := #[]) (mvT hZ (hw _ (List.mem_of_getElem? (i := 27) rfl)))) (mvT hZ (hw _ (List.mem_of_getElem? (i := 27) rfl))) (mvT hZ (hw _ (List.mem_of_getElem? (i := 26) rfl))) (by decide) (backOf (W := 0) (own_rm_addN l Z a0 hw [] o1 e1a e0a e0a T17.heap n0 Z17 (S_A.ext O17.2) E17_o1 E17_e0a E17_e1a FC17_first_o1 FC17_last_o1 F17_previous_e0a F17_next_e0a F17_previous_e1a F17_next_e1a g_o1 g_e0a g_e1a ne_e0a_o1.symm ne_e1a_o1.symm ne_e0a_e1a) hZ (hw _ (List.mem_of_getElem? (i := 28) rfl)) (hw _ (List.mem_of_getElem? (i := 19) rfl)) (by decide) (by decide)) q30a q30c (g := (mkF m 98 #[iv p1, iv p2, iv 2, iv ((p2 &&& 2147483647) % 2), rv aE, rv aR, rv o1, .unset, .unset] [(.ref e1a), (.ref o1)])) rfl (by rw [hml]; rfl) (Steps.refl _) (argsL := [(.ref e1a)]) (rest := []) (lenOf own_pd1 rfl) rfl (by show 2 * 0 + _ ≤ _; exact Nat.le_of_eq rfl) (hb hby at_98) (fun _ _ => ⟨rfl, rfl, (by decide : 7 + 0 ≤ _), (by decide : 17 + 0 ≤ _)⟩))
    replace X30 := own_num X30 (k' := 7) (n' := 17) rfl rfl
    obtain ⟨rfl, N30, KC30, FC30_first_o1, FC30_last_o1, FC30_previous_e0a, FC30_next_e0a, FC30_previous_e1a, FC30_next_e1a⟩ := hQ30
    have M30 := Fr.app P17 N30
    obtain ⟨lc30, Y30, P30⟩ := own_hide X30 M30
    refine own_tr st30 ?_
    clear P17 Y17 N30 X30 M30 st30
    show own_Go p e below _ T30 (mkF m 101 #[iv p1, iv p2, iv 2, iv ((p2 &&& 2147483647) % 2), rv aE, rv aR, rv o1, .unset, .unset] [])
    have O30 := O17.keep KC30 (allS g_o1 (allS g_e0a (allS g_e1a all0)))
    have V30_aE := V17_aE.keep KC30 (ninS ne_aE_o1 (ninS ne_aE_e0a (ninS ne_aE_e1a nin0)))
    have V30_aR := V17_aR.keep KC30 (ninS ne_aR_o1 (ninS ne_e0a_aR.symm (ninS ne_e1a_aR.symm nin0)))
    have E30_e0a := E17_e0a.keep KC30
    have E30_e1a := E17_e1a.keep KC30
    have E30_e2a := E17_e2a.keep KC30
    have E30_e3a := E17_e3a.keep KC30
    have E30_o1 := E17_o1.keep KC30
    have F30_previous_e2a := F17_previous_e2a.keep KC30 (ninS ne_e2a_o1 (ninS ne_e0a_e2a.symm (ninS ne_e1a_e2a.symm nin0)))
    have F30_next_e2a := F17_next_e2a.keep KC30 (ninS ne_e2a_o1 (ninS ne_e0a_e2a.symm (ninS ne_e1a_e2a.symm nin0)))
    have F30_previous_e3a := F17_previous_e3a.keep KC30 (ninS ne_e3a_o1 (ninS ne_e0a_e3a.symm (ninS ne_e1a_e3a.symm nin0)))
    have F30_next_e3a := F17_next_e3a.keep KC30 (ninS ne_e3a_o1 (ninS ne_e0a_e3a.symm (ninS ne_e1a_e3a.symm nin0)))
    have Z30 : n0 ≤ T30.heap.size := Nat.le_trans Z17 KC30.1
    clear O17 Z17 V17_aE V17_aR E17_e0a E17_e1a E17_e2a E17_e3a E17_o1 F17_previous_e0a F17_next_e0a F17_previous_e1a F17_next_e1a F17_previous_e2a F17_next_e2a F17_previous_e3a F17_next_e3a FC17_first_o1 FC17_last_o1 KC30
    refine own_st (fun _ k => XS.iloadN Y30.here hx rfl (hb hby at_101) rfl k) ?_
    show own_Go p e below _ T30 (mkF m 102 #[iv p1, iv p2, iv 2, iv ((p2 &&& 2147483647) % 2), rv aE, rv aR, rv o1, .unset, .unset] [(.int 2)])
    refine own_st (fun _ k => XT.iconstV Y30.here hx rfl (2 : Int32) (hb hby at_102) (by decide) k) ?_
    show own_Go p e below _ T30 (mkF m 103 #[iv p1, iv p2, iv 2, iv ((p2 &&& 2147483647) % 2), rv aE, rv aR, rv o1, .unset, .unset] [(.int 2), (.int 2)])
    refine own_st (fun _ k => XS.icmpYes Y30.here hx rfl (pc0 := 103) (pc' := 115) rfl (hb hby at_103) rfl (XT.ii_le_t (by decide)) (by decide) (by decide) k) ?_
    show own_Go p e below _ T30 (mkF m 115 #[iv p1, iv p2, iv 2, iv ((p2 &&& 2147483647) % 2), rv aE, rv aR, rv o1, .unset, .unset] [])
    refine own_st (fun _ k => XS.iloadN Y30.here hx rfl (hb hby at_115) rfl k) ?_
    show own_Go p e below _ T30 (mkF m 116 #[iv p1, iv p2, iv 2, iv ((p2 &&& 2147483647) % 2), rv aE, rv aR, rv o1, .unset, .unset] [(.int 2)])
    refine own_st (fun _ k => XT.iconstV Y30.here hx rfl (3 : Int32) (hb hby at_116) (by decide) k) ?_
    show own_Go p e below _ T30 (mkF m 117 #[iv p1, iv p2, iv 2, iv ((p2 &&& 2147483647) % 2), rv aE, rv aR, rv o1, .unset, .unset] [(.int 3), (.int 2)])
    refine own_st (fun _ k => XS.icmpYes Y30.here hx rfl (pc0 := 117) (pc' := 129) rfl (hb hby at_117) rfl (XT.ii_le_t (by decide)) (by decide) (by decide) k) ?_
    show own_Go p e below _ T30 (mkF m 129 #[iv p1, iv p2, iv 2, iv ((p2 &&& 2147483647) % 2), rv aE, rv aR, rv o1, .unset, .unset] [])
    refine own_st (fun _ k => XS.aload Y30.here hx rfl (hb hby at_129) rfl rfl k) ?_
    show own_Go p e below _ T30 (mkF m 131 #[iv p1, iv p2, iv 2, iv ((p2 &&& 2147483647) % 2), rv aE, rv aR, rv o1, .unset, .unset] [(.ref aE)])
    refine own_st (fun _ k => XS.iloadN Y30.here hx rfl (hb hby at_131) rfl k) ?_
    show own_Go p e below _ T30 (mkF m 132 #[iv p1, iv p2, iv 2, iv ((p2 &&& 2147483647) % 2), rv aE, rv aR, rv o1, .unset, .unset] [(.int ((p2 &&& 2147483647) % 2)), (.ref aE)])
    obtain ⟨kk, hkk, hk⟩ := own_cases2 p2
    rw [hkk]
    show own_Go p e below _ T30 (mkF m 132 #[iv p1, iv p2, iv 2, iv kk, rv aE, rv aR, rv o1, .unset, .unset] [(.int kk), (.ref aE)])
    rcases hk with rfl | rfl
    · show own_Go p e below _ T30 (mkF m 132 #[iv p1, iv p2, iv 2, iv 0, rv aE, rv aR, rv o1, .unset, .unset] [(.int 0), (.ref aE)])
      refine own_st (fun _ k => own_ldR Y30 hx hZ rfl V30_aE rfl ⟨by decide, by decide⟩ (v := (.ref e0a)) rfl rfl rfl (hb hby at_132) k) ?_
      show own_Go p e below _ T30 (mkF m 133 #[iv p1, iv p2, iv 2, iv 0, rv aE, rv aR, rv o1, .unset, .unset] [(.ref e0a)])
      refine own_st (fun _ k => XS.astore Y30.here hx rfl (hb hby at_133) rfl rfl (l' := #[iv p1, iv p2, iv 2, iv 0, rv aE, rv aR, rv o1, rv e0a, .unset]) rfl k) ?_
      show own_Go p e below _ T30 (mkF m 135 #[iv p1, iv p2, iv 2, iv 0, rv aE, rv aR, rv o1, rv e0a, .unset] [])
      refine own_st (fun _ k => XS.aload Y30.here hx rfl (hb hby at_135) rfl rfl k) ?_
      show own_Go p e below _ T30 (mkF m 137 #[iv p1, iv p2, iv 2, iv 0, rv aE, rv aR, rv o1, rv e0a, .unset] [(.ref o1)])
      refine own_st (fun _ k => XS.aload Y30.here hx rfl (hb hby at_137) rfl rfl k) ?_
      show own_Go p e below _ T30 (mkF m 139 #[iv p1, iv p2, iv 2, iv 0, rv aE, rv aR, rv o1, rv e0a, .unset] [(.ref e0a), (.ref o1)])
      obtain ⟨cq31, kq31, q31a, q31b, q31c⟩ := isOf hZ rfl E30_o1
      obtain ⟨_, T31, L31, X31, hQ31, st31⟩ := own_gotT (Y30.virtualBack hx (y := (⟨"com/example/recency/recency/RecencyList", "remove", "(Lcom/example/recency/recency/RecencyList$Link;)V"⟩ : MethodName)) (z := (⟨"com/example/recency/recency/RecencyList", "remove", "(Lcom/example/recency/recency/RecencyList$Link;)V"⟩ : MethodName)) hown (mvT hZ (hw _ (List.mem_of_getElem? (i := 35) rfl))) (mvT hZ (hw _ (List.mem_of_getElem? (i := 36) rfl))) (notFace_of_selects (args := #[]) (mvT hZ (hw _ (List.mem_of_getElem? (i := 38) rfl)))) (mvT hZ (hw _ (List.mem_of_getElem? (i := 38) rfl))) (mvT hZ (hw _ (List.mem_of_getElem? (i := 37) rfl))) (by decide) (backOf (W := 0) (own_rm_rem01N l Z a0 hw [] o1 e0a e1a e1a T30.heap n0 Z30 (S_A.ext O30.2) E30_o1 E30_e0a E30_e1a FC30_first_o1 FC30_last_o1 FC30_previous_e0a FC30_next_e0a FC30_previous_e1a FC30_next_e1a g_o1 g_e0a g_e1a ne_e0a_o1.symm ne_e1a_o1.symm ne_e0a_e1a) hZ (hw _ (List.mem_of_getElem? (i := 39) rfl)) (hw _ (List.mem_of_getElem? (i := 19) rfl)) (by decide) (by decide)) q31a q31c (g := (mkF m 139 #[iv p1, iv p2, iv 2, iv 0, rv aE, rv aR, rv o1, rv e0a, .unset] [(.ref e0a), (.ref o1)])) rfl (by rw [hml]; rfl) (Steps.refl _) (argsL := [(.ref e0a)]) (rest := []) (lenOf own_pd1 rfl) rfl (by show 2 * 0 + _ ≤ _; exact Nat.le_of_eq rfl) (hb hby at_139) (fun _ _ => ⟨rfl, rfl, (by decide : 7 + 0 ≤ _), (by decide : 17 + 0 ≤ _)⟩))
      replace X31 := own_num X31 (k' := 7) (n' := 17) rfl rfl
      obtain ⟨rfl, N31, KC31, FC31_first_o1, FC31_last_o1, FC31_previous_e0a, FC31_next_e0a, FC31_previous_e1a, FC31_next_e1a⟩ := hQ31
      have M31 := Fr.app P30 N31
      obtain ⟨lc31, Y31, P31⟩ := own_hide X31 M31
      refine own_tr st31 ?_
      clear P30 Y30 N31 X31 M31 st31
      show own_Go p e below _ T31 (mkF m 142 #[iv p1, iv p2, iv 2, iv 0, rv aE, rv aR, rv o1, rv e0a, .unset] [])
      have O31 := O30.keep KC31 (allS g_o1 (allS g_e0a (allS g_e1a all0)))
      have V31_aE := V30_aE.keep KC31 (ninS ne_aE_o1 (ninS ne_aE_e0a (ninS ne_aE_e1a nin0)))
      have V31_aR := V30_aR.keep KC31 (ninS ne_aR_o1 (ninS ne_e0a_aR.symm (ninS ne_e1a_aR.symm nin0)))
      have E31_e0a := E30_e0a.keep KC31
      have E31_e1a := E30_e1a.keep KC31
      have E31_e2a := E30_e2a.keep KC31
      have E31_e3a := E30_e3a.keep KC31
      have E31_o1 := E30_o1.keep KC31
      have F31_previous_e2a := F30_previous_e2a.keep KC31 (ninS ne_e2a_o1 (ninS ne_e0a_e2a.symm (ninS ne_e1a_e2a.symm nin0)))
      have F31_next_e2a := F30_next_e2a.keep KC31 (ninS ne_e2a_o1 (ninS ne_e0a_e2a.symm (ninS ne_e1a_e2a.symm nin0)))
      have F31_previous_e3a := F30_previous_e3a.keep KC31 (ninS ne_e3a_o1 (ninS ne_e0a_e3a.symm (ninS ne_e1a_e3a.symm nin0)))
      have F31_next_e3a := F30_next_e3a.keep KC31 (ninS ne_e3a_o1 (ninS ne_e0a_e3a.symm (ninS ne_e1a_e3a.symm nin0)))
      have Z31 : n0 ≤ T31.heap.size := Nat.le_trans Z30 KC31.1
      clear O30 Z30 V30_aE V30_aR E30_e0a E30_e1a E30_e2a E30_e3a E30_o1 FC30_previous_e0a FC30_next_e0a FC30_previous_e1a FC30_next_e1a F30_previous_e2a F30_next_e2a F30_previous_e3a F30_next_e3a FC30_first_o1 FC30_last_o1 KC31
      refine own_st (fun _ k => XS.iloadN Y31.here hx rfl (hb hby at_142) rfl k) ?_
      show own_Go p e below _ T31 (mkF m 143 #[iv p1, iv p2, iv 2, iv 0, rv aE, rv aR, rv o1, rv e0a, .unset] [(.int 2)])
      refine own_st (fun _ k => XT.iconstV Y31.here hx rfl (1 : Int32) (hb hby at_143) (by decide) k) ?_
      show own_Go p e below _ T31 (mkF m 144 #[iv p1, iv p2, iv 2, iv 0, rv aE, rv aR, rv o1, rv e0a, .unset] [(.int 1), (.int 2)])
      refine own_st (fun _ k => XS.isub Y31.here hx rfl (hb hby at_144) rfl k) ?_
      show own_Go p e below _ T31 (mkF m 145 #[iv p1, iv p2, iv 2, iv 0, rv aE, rv aR, rv o1, rv e0a, .unset] [(.int (2 - 1))])
      refine own_st (fun _ k => XS.istore Y31.here hx rfl (hb hby at_145) rfl (l' := #[iv p1, iv p2, iv 2, iv 0, rv aE, rv aR, rv o1, rv e0a, iv (2 - 1)]) rfl k) ?_
      show own_Go p e below _ T31 (mkF m 147 #[iv p1, iv p2, iv 2, iv 0, rv aE, rv aR, rv o1, rv e0a, iv (2 - 1)] [])
      refine own_st (fun _ k => XS.iload Y31.here hx rfl (hb hby at_147) rfl k) ?_
      show own_Go p e below _ T31 (mkF m 149 #[iv p1, iv p2, iv 2, iv 0, rv aE, rv aR, rv o1, rv e0a, iv (2 - 1)] [(.int (2 - 1))])
      rw [show ((2 : Int32) - (1 : Int32)) = (1 : Int32) from by decide]
      show own_Go p e below _ T31 (mkF m 149 #[iv p1, iv p2, iv 2, iv 0, rv aE, rv aR, rv o1, rv e0a, iv 1] [(.int 1)])
      refine own_st (fun _ k => XS.ifNo Y31.here hx rfl (hb hby at_149) rfl (XT.i0_le_f (by decide)) k) ?_
      show own_Go p e below _ T31 (mkF m 152 #[iv p1, iv p2, iv 2, iv 0, rv aE, rv aR, rv o1, rv e0a, iv 1] [])
      refine own_st (fun _ k => XS.aload Y31.here hx rfl (hb hby at_152) rfl rfl k) ?_
      show own_Go p e below _ T31 (mkF m 154 #[iv p1, iv p2, iv 2, iv 0, rv aE, rv aR, rv o1, rv e0a, iv 1] [(.ref aR)])
      refine own_st (fun _ k => XT.iconstV Y31.here hx rfl (0 : Int32) (hb hby at_154) (by decide) k) ?_
      show own_Go p e below _ T31 (mkF m 155 #[iv p1, iv p2, iv 2, iv 0, rv aE, rv aR, rv o1, rv e0a, iv 1] [(.int 0), (.ref aR)])
      refine own_st (fun _ k => XS.aload Y31.here hx rfl (hb hby at_155) rfl rfl k) ?_
      show own_Go p e below _ T31 (mkF m 157 #[iv p1, iv p2, iv 2, iv 0, rv aE, rv aR, rv o1, rv e0a, iv 1] [(.ref aE), (.int 0), (.ref aR)])
      refine own_st (fun _ k => XT.iconstV Y31.here hx rfl (0 : Int32) (hb hby at_157) (by decide) k) ?_
      show own_Go p e below _ T31 (mkF m 158 #[iv p1, iv p2, iv 2, iv 0, rv aE, rv aR, rv o1, rv e0a, iv 1] [(.int 0), (.ref aE), (.int 0), (.ref aR)])
      refine own_st (fun _ k => XS.iloadN Y31.here hx rfl (hb hby at_158) rfl k) ?_
      show own_Go p e below _ T31 (mkF m 159 #[iv p1, iv p2, iv 2, iv 0, rv aE, rv aR, rv o1, rv e0a, iv 1] [(.int 0), (.int 0), (.ref aE), (.int 0), (.ref aR)])
      refine own_st (fun _ k => XS.icmpYes Y31.here hx rfl (pc0 := 159) (pc' := 166) rfl (hb hby at_159) rfl (XT.ii_ge_t (by decide)) (by decide) (by decide) k) ?_
      show own_Go p e below _ T31 (mkF m 166 #[iv p1, iv p2, iv 2, iv 0, rv aE, rv aR, rv o1, rv e0a, iv 1] [(.ref aE), (.int 0), (.ref aR)])
      refine own_st (fun _ k => XT.iconstV Y31.here hx rfl (1 : Int32) (hb hby at_166) (by decide) k) ?_
      show own_Go p e below _ T31 (mkF m 167 #[iv p1, iv p2, iv 2, iv 0, rv aE, rv aR, rv o1, rv e0a, iv 1] [(.int 1), (.ref aE), (.int 0), (.ref aR)])
      refine own_st (fun _ k => own_ldR Y31 hx hZ rfl V31_aE rfl ⟨by decide, by decide⟩ (v := (.ref e1a)) rfl rfl rfl (hb hby at_167) k) ?_
      show own_Go p e below _ T31 (mkF m 168 #[iv p1, iv p2, iv 2, iv 0, rv aE, rv aR, rv o1, rv e0a, iv 1] [(.ref e1a), (.int 0), (.ref aR)])
      obtain ⟨T32, h32, X32, e32, W32, V32, st32⟩ := own_stR Y31 hx hZ rfl V31_aR Ov_aR (Ins.self E31_e1a) (j := (0 : Int32)) ⟨by decide, by decide⟩ 0 rfl (Nat.le_of_ble_eq_true rfl) (g := (mkF m 168 #[iv p1, iv p2, iv 2, iv 0, rv aE, rv aR, rv o1, rv e0a, iv 1] [(.ref e1a), (.int 0), (.ref aR)])) rfl rfl (hb hby at_168)
      have V32_aR : Arv Z h32 aR k_aR (.object "com/example/recency/recency/RecencyListRemovePinLaw") (3 : Int32) [(.ref e1a), .null, .null] .null := V32
      have O32 := O31.wr W32 g_aR
      have V32_aE := V31_aE.other W32 ne_aE_aR
      have E32_e0a := E31_e0a.wr W32
      have E32_e1a := E31_e1a.wr W32
      have E32_e2a := E31_e2a.wr W32
      have E32_e3a := E31_e3a.wr W32
      have E32_o1 := E31_o1.wr W32
      have F32_previous_e0a := FC31_previous_e0a.other W32 (Or.inl ne_e0a_aR)
      have F32_next_e0a := FC31_next_e0a.other W32 (Or.inl ne_e0a_aR)
      have F32_previous_e1a := FC31_previous_e1a.other W32 (Or.inl ne_e1a_aR)
      have F32_next_e1a := FC31_next_e1a.other W32 (Or.inl ne_e1a_aR)
      have F32_previous_e2a := F31_previous_e2a.other W32 (Or.inl ne_e2a_aR)
      have F32_next_e2a := F31_next_e2a.other W32 (Or.inl ne_e2a_aR)
      have F32_previous_e3a := F31_previous_e3a.other W32 (Or.inl ne_e3a_aR)
      have F32_next_e3a := F31_next_e3a.other W32 (Or.inl ne_e3a_aR)
      have F32_first_o1 := FC31_first_o1.other W32 (Or.inl ne_aR_o1.symm)
      have F32_last_o1 := FC31_last_o1.other W32 (Or.inl ne_aR_o1.symm)
      have Z32 : n0 ≤ h32.size := by rw [W32.size]; exact Z31
      clear O31 Z31 V31_aE E31_e0a E31_e1a E31_e2a E31_e3a E31_o1 FC31_previous_e0a FC31_next_e0a FC31_previous_e1a FC31_next_e1a F31_previous_e2a F31_next_e2a F31_previous_e3a F31_next_e3a FC31_first_o1 FC31_last_o1 V31_aR W32
      have N32 := Fr.snoc X32 P31 g_aR
      obtain ⟨lc32, Y32, P32⟩ := own_hide X32 N32
      clear X32 N32
      clear Y31
      refine own_st st32 ?_
      clear st32
      show own_Go p e below _ T32 (mkF m 169 #[iv p1, iv p2, iv 2, iv 0, rv aE, rv aR, rv o1, rv e0a, iv 1] [])
      refine own_st (fun _ k => XS.iload Y32.here hx rfl (hb hby at_169) rfl k) ?_
      show own_Go p e below _ T32 (mkF m 171 #[iv p1, iv p2, iv 2, iv 0, rv aE, rv aR, rv o1, rv e0a, iv 1] [(.int 1)])
      refine own_st (fun _ k => XT.iconstV Y32.here hx rfl (1 : Int32) (hb hby at_171) (by decide) k) ?_
      show own_Go p e below _ T32 (mkF m 172 #[iv p1, iv p2, iv 2, iv 0, rv aE, rv aR, rv o1, rv e0a, iv 1] [(.int 1), (.int 1)])
      refine own_st (fun _ k => XS.icmpYes Y32.here hx rfl (pc0 := 172) (pc' := 192) rfl (hb hby at_172) rfl (XT.ii_le_t (by decide)) (by decide) (by decide) k) ?_
      show own_Go p e below _ T32 (mkF m 192 #[iv p1, iv p2, iv 2, iv 0, rv aE, rv aR, rv o1, rv e0a, iv 1] [])
      refine own_st (fun _ k => XS.iload Y32.here hx rfl (hb hby at_192) rfl k) ?_
      show own_Go p e below _ T32 (mkF m 194 #[iv p1, iv p2, iv 2, iv 0, rv aE, rv aR, rv o1, rv e0a, iv 1] [(.int 1)])
      refine own_st (fun _ k => XT.iconstV Y32.here hx rfl (2 : Int32) (hb hby at_194) (by decide) k) ?_
      show own_Go p e below _ T32 (mkF m 195 #[iv p1, iv p2, iv 2, iv 0, rv aE, rv aR, rv o1, rv e0a, iv 1] [(.int 2), (.int 1)])
      refine own_st (fun _ k => XS.icmpYes Y32.here hx rfl (pc0 := 195) (pc' := 215) rfl (hb hby at_195) rfl (XT.ii_le_t (by decide)) (by decide) (by decide) k) ?_
      show own_Go p e below _ T32 (mkF m 215 #[iv p1, iv p2, iv 2, iv 0, rv aE, rv aR, rv o1, rv e0a, iv 1] [])
      refine own_st (fun _ k => XS.aload Y32.here hx rfl (hb hby at_215) rfl rfl k) ?_
      show own_Go p e below _ T32 (mkF m 217 #[iv p1, iv p2, iv 2, iv 0, rv aE, rv aR, rv o1, rv e0a, iv 1] [(.ref e0a)])
      obtain ⟨T33, X33, e33, st33⟩ := getF Y32 hx hZ hown (host := "") (Or.inl (hw _ (List.mem_of_getElem? (i := 44) rfl))) (Via.of (hw _ (List.mem_of_getElem? (i := 45) rfl))) e32 F32_previous_e0a (g := (mkF m 217 #[iv p1, iv p2, iv 2, iv 0, rv aE, rv aR, rv o1, rv e0a, iv 1] [(.ref e0a)])) rfl rfl (hb hby at_217)
      clear Y32 e32
      refine own_st st33 ?_
      clear st33
      show own_Go p e below _ T33 (mkF m 220 #[iv p1, iv p2, iv 2, iv 0, rv aE, rv aR, rv o1, rv e0a, iv 1] [.null])
      refine own_st (fun _ k => XT.ifnonnullNo X33.here hx rfl (hb hby at_220) rfl k) ?_
      show own_Go p e below _ T33 (mkF m 223 #[iv p1, iv p2, iv 2, iv 0, rv aE, rv aR, rv o1, rv e0a, iv 1] [])
      refine own_st (fun _ k => XS.aload X33.here hx rfl (hb hby at_223) rfl rfl k) ?_
      show own_Go p e below _ T33 (mkF m 225 #[iv p1, iv p2, iv 2, iv 0, rv aE, rv aR, rv o1, rv e0a, iv 1] [(.ref e0a)])
      obtain ⟨T34, X34, e34, st34⟩ := getF X33 hx hZ hown (host := "") (Or.inl (hw _ (List.mem_of_getElem? (i := 46) rfl))) (Via.of (hw _ (List.mem_of_getElem? (i := 47) rfl))) e33 F32_next_e0a (g := (mkF m 225 #[iv p1, iv p2, iv 2, iv 0, rv aE, rv aR, rv o1, rv e0a, iv 1] [(.ref e0a)])) rfl rfl (hb hby at_225)
      clear X33 e33
      refine own_st st34 ?_
      clear st34
      show own_Go p e below _ T34 (mkF m 228 #[iv p1, iv p2, iv 2, iv 0, rv aE, rv aR, rv o1, rv e0a, iv 1] [.null])
      refine own_st (fun _ k => XS.ifnullYes X34.here hx rfl (pc0 := 228) (pc' := 233) rfl (hb hby at_228) rfl (by decide) (by decide) k) ?_
      show own_Go p e below _ T34 (mkF m 233 #[iv p1, iv p2, iv 2, iv 0, rv aE, rv aR, rv o1, rv e0a, iv 1] [])
      refine own_st (fun _ k => XS.aload X34.here hx rfl (hb hby at_233) rfl rfl k) ?_
      show own_Go p e below _ T34 (mkF m 235 #[iv p1, iv p2, iv 2, iv 0, rv aE, rv aR, rv o1, rv e0a, iv 1] [(.ref o1)])
      obtain ⟨cq35, kq35, q35a, q35b, q35c⟩ := isOf hZ e34 E32_o1
      obtain ⟨_, T35, L35, X35, hQ35, st35⟩ := own_gotT (X34.virtualBack hx (y := (⟨"com/example/recency/recency/RecencyList", "first", "()Lcom/example/recency/recency/RecencyList$Link;"⟩ : MethodName)) (z := (⟨"com/example/recency/recency/RecencyList", "first", "()Lcom/example/recency/recency/RecencyList$Link;"⟩ : MethodName)) hown (mvT hZ (hw _ (List.mem_of_getElem? (i := 48) rfl))) (mvT hZ (hw _ (List.mem_of_getElem? (i := 49) rfl))) (notFace_of_selects (args := #[]) (mvT hZ (hw _ (List.mem_of_getElem? (i := 51) rfl)))) (mvT hZ (hw _ (List.mem_of_getElem? (i := 51) rfl))) (mvT hZ (hw _ (List.mem_of_getElem? (i := 50) rfl))) (by decide) (backOf (W := 0) (own_rm_fst l Z a0 hw [] o1 (.ref e1a) h32 n0 Z32 rfl F32_first_o1) hZ (hw _ (List.mem_of_getElem? (i := 52) rfl)) (hw _ (List.mem_of_getElem? (i := 19) rfl)) (by decide) (by decide)) q35a q35c (g := (mkF m 235 #[iv p1, iv p2, iv 2, iv 0, rv aE, rv aR, rv o1, rv e0a, iv 1] [(.ref o1)])) rfl (by rw [hml]; rfl) (Steps.refl _) (argsL := []) (rest := []) (lenOf own_pd2 rfl) rfl (by show 2 * 0 + _ ≤ _; exact Nat.le_of_eq rfl) (hb hby at_235) (fun _ _ => ⟨rfl, e34, (by decide : 7 + 0 ≤ _), (by decide : 17 + 0 ≤ _)⟩))
      replace X35 := own_num X35 (k' := 7) (n' := 17) rfl rfl
      obtain ⟨rfl, N35, eh35⟩ := hQ35
      have M35 := Fr.app P32 N35
      obtain ⟨lc35, Y35, P35⟩ := own_hide X35 M35
      refine own_tr st35 ?_
      clear P32 X34 N35 e34 X35 M35 st35
      show own_Go p e below _ T35 (mkF m 238 #[iv p1, iv p2, iv 2, iv 0, rv aE, rv aR, rv o1, rv e0a, iv 1] [(.ref e1a)])
      refine own_st (fun _ k => XS.iload Y35.here hx rfl (hb hby at_238) rfl k) ?_
      show own_Go p e below _ T35 (mkF m 240 #[iv p1, iv p2, iv 2, iv 0, rv aE, rv aR, rv o1, rv e0a, iv 1] [(.int 1), (.ref e1a)])
      refine own_st (fun _ k => XS.ifNo Y35.here hx rfl (hb hby at_240) rfl (XT.i0_le_f (by decide)) k) ?_
      show own_Go p e below _ T35 (mkF m 243 #[iv p1, iv p2, iv 2, iv 0, rv aE, rv aR, rv o1, rv e0a, iv 1] [(.ref e1a)])
      refine own_st (fun _ k => XS.aload Y35.here hx rfl (hb hby at_243) rfl rfl k) ?_
      show own_Go p e below _ T35 (mkF m 245 #[iv p1, iv p2, iv 2, iv 0, rv aE, rv aR, rv o1, rv e0a, iv 1] [(.ref aR), (.ref e1a)])
      refine own_st (fun _ k => XT.iconstV Y35.here hx rfl (0 : Int32) (hb hby at_245) (by decide) k) ?_
      show own_Go p e below _ T35 (mkF m 246 #[iv p1, iv p2, iv 2, iv 0, rv aE, rv aR, rv o1, rv e0a, iv 1] [(.int 0), (.ref aR), (.ref e1a)])
      refine own_st (fun _ k => own_ldR Y35 hx hZ eh35 V32_aR rfl ⟨by decide, by decide⟩ (v := (.ref e1a)) rfl rfl rfl (hb hby at_246) k) ?_
      show own_Go p e below _ T35 (mkF m 247 #[iv p1, iv p2, iv 2, iv 0, rv aE, rv aR, rv o1, rv e0a, iv 1] [(.ref e1a), (.ref e1a)])
      refine own_st (fun _ k => XS.goto Y35.here hx rfl (pc0 := 247) (pc' := 251) rfl (hb hby at_247) (by decide) (by decide) k) ?_
      show own_Go p e below _ T35 (mkF m 251 #[iv p1, iv p2, iv 2, iv 0, rv aE, rv aR, rv o1, rv e0a, iv 1] [(.ref e1a), (.ref e1a)])
      refine own_st (fun _ k => XT.acmpYes Y35.here hx rfl (pc0 := 251) (pc' := 256) rfl (hb hby at_251) rfl rfl rfl (XT.aa_eq_t rfl) (by decide) (by decide) k) ?_
      show own_Go p e below _ T35 (mkF m 256 #[iv p1, iv p2, iv 2, iv 0, rv aE, rv aR, rv o1, rv e0a, iv 1] [])
      refine own_st (fun _ k => XS.aload Y35.here hx rfl (hb hby at_256) rfl rfl k) ?_
      show own_Go p e below _ T35 (mkF m 258 #[iv p1, iv p2, iv 2, iv 0, rv aE, rv aR, rv o1, rv e0a, iv 1] [(.ref aR)])
      refine own_st (fun _ k => XT.iconstV Y35.here hx rfl (0 : Int32) (hb hby at_258) (by decide) k) ?_
      show own_Go p e below _ T35 (mkF m 259 #[iv p1, iv p2, iv 2, iv 0, rv aE, rv aR, rv o1, rv e0a, iv 1] [(.int 0), (.ref aR)])
      refine own_st (fun _ k => XS.iload Y35.here hx rfl (hb hby at_259) rfl k) ?_
      show own_Go p e below _ T35 (mkF m 261 #[iv p1, iv p2, iv 2, iv 0, rv aE, rv aR, rv o1, rv e0a, iv 1] [(.int 1), (.int 0), (.ref aR)])
      obtain ⟨_, T36, L36, X36, hQ36, st36⟩ := own_gotS (Jvm.LawKit.callS Y35 hx (y := (⟨"com/example/recency/recency/RecencyListRemovePinLaw", "linked", "([Lcom/example/recency/recency/RecencyListRemovePinLaw;II)Z"⟩ : MethodName)) hown (mvT hZ (hw _ (List.mem_of_getElem? (i := 53) rfl))) (mvT hZ (hw _ (List.mem_of_getElem? (i := 54) rfl))) (mvT hZ (hw _ (List.mem_of_getElem? (i := 4) rfl))) (mvT hZ (hw _ (List.mem_of_getElem? (i := 55) rfl))) (by decide) (backOf (W := 0) (own_rm_lk01 l Z a0 hw [] aR k_aR e1a .null .null h32 n0 Z32 V32_aR F32_previous_e1a F32_next_e1a) hZ (hw _ (List.mem_of_getElem? (i := 55) rfl)) (hw _ (List.mem_of_getElem? (i := 4) rfl)) (by decide) (by decide)) (g := (mkF m 261 #[iv p1, iv p2, iv 2, iv 0, rv aE, rv aR, rv o1, rv e0a, iv 1] [(.int 1), (.int 0), (.ref aR)])) rfl (by rw [hml]; rfl) (argsL := [(.ref aR), (.int (0 : Int32)), (.int (1 : Int32))]) (rest := []) (lenOf own_pd3 rfl) rfl (by show 2 * 0 + _ ≤ _; exact Nat.le_of_eq rfl) (hb hby at_261) (fun _ _ => ⟨rfl, eh35, (by decide : 7 + 0 ≤ _), (by decide : 17 + 0 ≤ _)⟩))
      replace X36 := own_num X36 (k' := 7) (n' := 17) rfl rfl
      obtain ⟨rfl, N36, eh36⟩ := hQ36
      have M36 := Fr.app P35 N36
      obtain ⟨lc36, Y36, P36⟩ := own_hide X36 M36
      refine own_st st36 ?_
      clear P35 Y35 N36 eh35 X36 M36 st36
      show own_Go p e below _ T36 (mkF m 264 #[iv p1, iv p2, iv 2, iv 0, rv aE, rv aR, rv o1, rv e0a, iv 1] [(.int 1)])
      refine own_st (fun _ k => XS.ifNo Y36.here hx rfl (hb hby at_264) rfl (XT.i0_eq_f (by decide)) k) ?_
      show own_Go p e below _ T36 (mkF m 267 #[iv p1, iv p2, iv 2, iv 0, rv aE, rv aR, rv o1, rv e0a, iv 1] [])
      refine own_st (fun _ k => XS.aload Y36.here hx rfl (hb hby at_267) rfl rfl k) ?_
      show own_Go p e below _ T36 (mkF m 269 #[iv p1, iv p2, iv 2, iv 0, rv aE, rv aR, rv o1, rv e0a, iv 1] [(.ref aR)])
      refine own_st (fun _ k => XT.iconstV Y36.here hx rfl (1 : Int32) (hb hby at_269) (by decide) k) ?_
      show own_Go p e below _ T36 (mkF m 270 #[iv p1, iv p2, iv 2, iv 0, rv aE, rv aR, rv o1, rv e0a, iv 1] [(.int 1), (.ref aR)])
      refine own_st (fun _ k => XS.iload Y36.here hx rfl (hb hby at_270) rfl k) ?_
      show own_Go p e below _ T36 (mkF m 272 #[iv p1, iv p2, iv 2, iv 0, rv aE, rv aR, rv o1, rv e0a, iv 1] [(.int 1), (.int 1), (.ref aR)])
      obtain ⟨_, T37, L37, X37, hQ37, st37⟩ := own_gotS (Jvm.LawKit.callS Y36 hx (y := (⟨"com/example/recency/recency/RecencyListRemovePinLaw", "linked", "([Lcom/example/recency/recency/RecencyListRemovePinLaw;II)Z"⟩ : MethodName)) hown (mvT hZ (hw _ (List.mem_of_getElem? (i := 53) rfl))) (mvT hZ (hw _ (List.mem_of_getElem? (i := 54) rfl))) (mvT hZ (hw _ (List.mem_of_getElem? (i := 4) rfl))) (mvT hZ (hw _ (List.mem_of_getElem? (i := 55) rfl))) (by decide) (backOf (W := 0) (own_rm_lk l Z a0 hw [] aR (1 : Int32) (1 : Int32) h32 n0 Z32 (by decide)) hZ (hw _ (List.mem_of_getElem? (i := 55) rfl)) (hw _ (List.mem_of_getElem? (i := 4) rfl)) (by decide) (by decide)) (g := (mkF m 272 #[iv p1, iv p2, iv 2, iv 0, rv aE, rv aR, rv o1, rv e0a, iv 1] [(.int 1), (.int 1), (.ref aR)])) rfl (by rw [hml]; rfl) (argsL := [(.ref aR), (.int (1 : Int32)), (.int (1 : Int32))]) (rest := []) (lenOf own_pd3 rfl) rfl (by show 2 * 0 + _ ≤ _; exact Nat.le_of_eq rfl) (hb hby at_272) (fun _ _ => ⟨rfl, eh36, (by decide : 7 + 0 ≤ _), (by decide : 17 + 0 ≤ _)⟩))
      replace X37 := own_num X37 (k' := 7) (n' := 17) rfl rfl
      obtain ⟨rfl, N37, eh37⟩ := hQ37
      have M37 := Fr.app P36 N37
      obtain ⟨lc37, Y37, P37⟩ := own_hide X37 M37
      refine own_st st37 ?_
      clear P36 Y36 N37 eh36 X37 M37 st37
      show own_Go p e below _ T37 (mkF m 275 #[iv p1, iv p2, iv 2, iv 0, rv aE, rv aR, rv o1, rv e0a, iv 1] [(.int 1)])
      refine own_st (fun _ k => XS.ifNo Y37.here hx rfl (hb hby at_275) rfl (XT.i0_eq_f (by decide)) k) ?_
      show own_Go p e below _ T37 (mkF m 278 #[iv p1, iv p2, iv 2, iv 0, rv aE, rv aR, rv o1, rv e0a, iv 1] [])
      refine own_st (fun _ k => XS.aload Y37.here hx rfl (hb hby at_278) rfl rfl k) ?_
      show own_Go p e below _ T37 (mkF m 280 #[iv p1, iv p2, iv 2, iv 0, rv aE, rv aR, rv o1, rv e0a, iv 1] [(.ref aR)])
      refine own_st (fun _ k => XT.iconstV Y37.here hx rfl (2 : Int32) (hb hby at_280) (by decide) k) ?_
      show own_Go p e below _ T37 (mkF m 281 #[iv p1, iv p2, iv 2, iv 0, rv aE, rv aR, rv o1, rv e0a, iv 1] [(.int 2), (.ref aR)])
      refine own_st (fun _ k => XS.iload Y37.here hx rfl (hb hby at_281) rfl k) ?_
      show own_Go p e below _ T37 (mkF m 283 #[iv p1, iv p2, iv 2, iv 0, rv aE, rv aR, rv o1, rv e0a, iv 1] [(.int 1), (.int 2), (.ref aR)])
      obtain ⟨_, T38, L38, X38, hQ38, st38⟩ := own_gotS (Jvm.LawKit.callS Y37 hx (y := (⟨"com/example/recency/recency/RecencyListRemovePinLaw", "linked", "([Lcom/example/recency/recency/RecencyListRemovePinLaw;II)Z"⟩ : MethodName)) hown (mvT hZ (hw _ (List.mem_of_getElem? (i := 53) rfl))) (mvT hZ (hw _ (List.mem_of_getElem? (i := 54) rfl))) (mvT hZ (hw _ (List.mem_of_getElem? (i := 4) rfl))) (mvT hZ (hw _ (List.mem_of_getElem? (i := 55) rfl))) (by decide) (backOf (W := 0) (own_rm_lk l Z a0 hw [] aR (2 : Int32) (1 : Int32) h32 n0 Z32 (by decide)) hZ (hw _ (List.mem_of_getElem? (i := 55) rfl)) (hw _ (List.mem_of_getElem? (i := 4) rfl)) (by decide) (by decide)) (g := (mkF m 283 #[iv p1, iv p2, iv 2, iv 0, rv aE, rv aR, rv o1, rv e0a, iv 1] [(.int 1), (.int 2), (.ref aR)])) rfl (by rw [hml]; rfl) (argsL := [(.ref aR), (.int (2 : Int32)), (.int (1 : Int32))]) (rest := []) (lenOf own_pd3 rfl) rfl (by show 2 * 0 + _ ≤ _; exact Nat.le_of_eq rfl) (hb hby at_283) (fun _ _ => ⟨rfl, eh37, (by decide : 7 + 0 ≤ _), (by decide : 17 + 0 ≤ _)⟩))
      replace X38 := own_num X38 (k' := 7) (n' := 17) rfl rfl
      obtain ⟨rfl, N38, eh38⟩ := hQ38
      have M38 := Fr.app P37 N38
      obtain ⟨lc38, Y38, P38⟩ := own_hide X38 M38
      refine own_st st38 ?_
      clear P37 Y37 N38 eh37 X38 M38 st38
      show own_Go p e below _ T38 (mkF m 286 #[iv p1, iv p2, iv 2, iv 0, rv aE, rv aR, rv o1, rv e0a, iv 1] [(.int 1)])
      refine own_st (fun _ k => XS.ifYes Y38.here hx rfl (pc0 := 286) (pc' := 291) rfl (hb hby at_286) rfl (XT.i0_ne_t (by decide)) (by decide) (by decide) k) ?_
      show own_Go p e below _ T38 (mkF m 291 #[iv p1, iv p2, iv 2, iv 0, rv aE, rv aR, rv o1, rv e0a, iv 1] [])
      refine own_st (fun _ k => XS.aload Y38.here hx rfl (hb hby at_291) rfl rfl k) ?_
      show own_Go p e below _ T38 (mkF m 293 #[iv p1, iv p2, iv 2, iv 0, rv aE, rv aR, rv o1, rv e0a, iv 1] [(.ref o1)])
      refine own_st (fun _ k => XS.aload Y38.here hx rfl (hb hby at_293) rfl rfl k) ?_
      show own_Go p e below _ T38 (mkF m 295 #[iv p1, iv p2, iv 2, iv 0, rv aE, rv aR, rv o1, rv e0a, iv 1] [(.ref e0a), (.ref o1)])
      obtain ⟨cq39, kq39, q39a, q39b, q39c⟩ := isOf hZ eh38 E32_o1
      obtain ⟨_, T39, L39, X39, hQ39, st39⟩ := own_gotT (Y38.virtualBack hx (y := (⟨"com/example/recency/recency/RecencyList", "addLast", "(Lcom/example/recency/recency/RecencyList$Link;)V"⟩ : MethodName)) (z := (⟨"com/example/recency/recency/RecencyList", "addLast", "(Lcom/example/recency/recency/RecencyList$Link;)V"⟩ : MethodName)) hown (mvT hZ (hw _ (List.mem_of_getElem? (i := 24) rfl))) (mvT hZ (hw _ (List.mem_of_getElem? (i := 25) rfl))) (notFace_of_selects (args := #[]) (mvT hZ (hw _ (List.mem_of_getElem? (i := 27) rfl)))) (mvT hZ (hw _ (List.mem_of_getElem? (i := 27) rfl))) (mvT hZ (hw _ (List.mem_of_getElem? (i := 26) rfl))) (by decide) (backOf (W := 0) (own_rm_addN l Z a0 hw [] o1 e0a e1a e1a h32 n0 Z32 (S_A.ext O32.2) E32_o1 E32_e1a E32_e0a F32_first_o1 F32_last_o1 F32_previous_e1a F32_next_e1a F32_previous_e0a F32_next_e0a g_o1 g_e1a g_e0a ne_e1a_o1.symm ne_e0a_o1.symm ne_e0a_e1a.symm) hZ (hw _ (List.mem_of_getElem? (i := 28) rfl)) (hw _ (List.mem_of_getElem? (i := 19) rfl)) (by decide) (by decide)) q39a q39c (g := (mkF m 295 #[iv p1, iv p2, iv 2, iv 0, rv aE, rv aR, rv o1, rv e0a, iv 1] [(.ref e0a), (.ref o1)])) rfl (by rw [hml]; rfl) (Steps.refl _) (argsL := [(.ref e0a)]) (rest := []) (lenOf own_pd1 rfl) rfl (by show 2 * 0 + _ ≤ _; exact Nat.le_of_eq rfl) (hb hby at_295) (fun _ _ => ⟨rfl, eh38, (by decide : 7 + 0 ≤ _), (by decide : 17 + 0 ≤ _)⟩))
      replace X39 := own_num X39 (k' := 7) (n' := 17) rfl rfl
      obtain ⟨rfl, N39, KC39, FC39_first_o1, FC39_last_o1, FC39_previous_e1a, FC39_next_e1a, FC39_previous_e0a, FC39_next_e0a⟩ := hQ39
      have M39 := Fr.app P38 N39
      obtain ⟨lc39, Y39, P39⟩ := own_hide X39 M39
      refine own_tr st39 ?_
      clear P38 Y38 N39 eh38 X39 M39 st39
      show own_Go p e below _ T39 (mkF m 298 #[iv p1, iv p2, iv 2, iv 0, rv aE, rv aR, rv o1, rv e0a, iv 1] [])
      have O39 := O32.keep KC39 (allS g_o1 (allS g_e1a (allS g_e0a all0)))
      have V39_aE := V32_aE.keep KC39 (ninS ne_aE_o1 (ninS ne_aE_e1a (ninS ne_aE_e0a nin0)))
      have V39_aR := V32_aR.keep KC39 (ninS ne_aR_o1 (ninS ne_e1a_aR.symm (ninS ne_e0a_aR.symm nin0)))
      have E39_e0a := E32_e0a.keep KC39
      have E39_e1a := E32_e1a.keep KC39
      have E39_e2a := E32_e2a.keep KC39
      have E39_e3a := E32_e3a.keep KC39
      have E39_o1 := E32_o1.keep KC39
      have F39_previous_e2a := F32_previous_e2a.keep KC39 (ninS ne_e2a_o1 (ninS ne_e1a_e2a.symm (ninS ne_e0a_e2a.symm nin0)))
      have F39_next_e2a := F32_next_e2a.keep KC39 (ninS ne_e2a_o1 (ninS ne_e1a_e2a.symm (ninS ne_e0a_e2a.symm nin0)))
      have F39_previous_e3a := F32_previous_e3a.keep KC39 (ninS ne_e3a_o1 (ninS ne_e1a_e3a.symm (ninS ne_e0a_e3a.symm nin0)))
      have F39_next_e3a := F32_next_e3a.keep KC39 (ninS ne_e3a_o1 (ninS ne_e1a_e3a.symm (ninS ne_e0a_e3a.symm nin0)))
      have Z39 : n0 ≤ T39.heap.size := Nat.le_trans Z32 KC39.1
      clear O32 Z32 V32_aE V32_aR E32_e0a E32_e1a E32_e2a E32_e3a E32_o1 F32_previous_e0a F32_next_e0a F32_previous_e1a F32_next_e1a F32_previous_e2a F32_next_e2a F32_previous_e3a F32_next_e3a F32_first_o1 F32_last_o1 KC39
      refine own_st (fun _ k => XS.iload Y39.here hx rfl (hb hby at_298) rfl k) ?_
      show own_Go p e below _ T39 (mkF m 300 #[iv p1, iv p2, iv 2, iv 0, rv aE, rv aR, rv o1, rv e0a, iv 1] [(.int 1)])
      refine own_st (fun _ k => XS.ifYes Y39.here hx rfl (pc0 := 300) (pc' := 335) rfl (hb hby at_300) rfl (XT.i0_ne_t (by decide)) (by decide) (by decide) k) ?_
      show own_Go p e below _ T39 (mkF m 335 #[iv p1, iv p2, iv 2, iv 0, rv aE, rv aR, rv o1, rv e0a, iv 1] [])
      refine own_st (fun _ k => XS.aload Y39.here hx rfl (hb hby at_335) rfl rfl k) ?_
      show own_Go p e below _ T39 (mkF m 337 #[iv p1, iv p2, iv 2, iv 0, rv aE, rv aR, rv o1, rv e0a, iv 1] [(.ref o1)])
      obtain ⟨cq40, kq40, q40a, q40b, q40c⟩ := isOf hZ rfl E39_o1
      obtain ⟨_, T40, L40, X40, hQ40, st40⟩ := own_gotT (Y39.virtualBack hx (y := (⟨"com/example/recency/recency/RecencyList", "first", "()Lcom/example/recency/recency/RecencyList$Link;"⟩ : MethodName)) (z := (⟨"com/example/recency/recency/RecencyList", "first", "()Lcom/example/recency/recency/RecencyList$Link;"⟩ : MethodName)) hown (mvT hZ (hw _ (List.mem_of_getElem? (i := 48) rfl))) (mvT hZ (hw _ (List.mem_of_getElem? (i := 49) rfl))) (notFace_of_selects (args := #[]) (mvT hZ (hw _ (List.mem_of_getElem? (i := 51) rfl)))) (mvT hZ (hw _ (List.mem_of_getElem? (i := 51) rfl))) (mvT hZ (hw _ (List.mem_of_getElem? (i := 50) rfl))) (by decide) (backOf (W := 0) (own_rm_fst l Z a0 hw [] o1 (.ref e1a) T39.heap n0 Z39 rfl FC39_first_o1) hZ (hw _ (List.mem_of_getElem? (i := 52) rfl)) (hw _ (List.mem_of_getElem? (i := 19) rfl)) (by decide) (by decide)) q40a q40c (g := (mkF m 337 #[iv p1, iv p2, iv 2, iv 0, rv aE, rv aR, rv o1, rv e0a, iv 1] [(.ref o1)])) rfl (by rw [hml]; rfl) (Steps.refl _) (argsL := []) (rest := []) (lenOf own_pd2 rfl) rfl (by show 2 * 0 + _ ≤ _; exact Nat.le_of_eq rfl) (hb hby at_337) (fun _ _ => ⟨rfl, rfl, (by decide : 7 + 0 ≤ _), (by decide : 17 + 0 ≤ _)⟩))
      replace X40 := own_num X40 (k' := 7) (n' := 17) rfl rfl
      obtain ⟨rfl, N40, eh40⟩ := hQ40
      have M40 := Fr.app P39 N40
      obtain ⟨lc40, Y40, P40⟩ := own_hide X40 M40
      refine own_tr st40 ?_
      clear P39 Y39 N40 X40 M40 st40
      show own_Go p e below _ T40 (mkF m 340 #[iv p1, iv p2, iv 2, iv 0, rv aE, rv aR, rv o1, rv e0a, iv 1] [(.ref e1a)])
      refine own_st (fun _ k => XS.aload Y40.here hx rfl (hb hby at_340) rfl rfl k) ?_
      show own_Go p e below _ T40 (mkF m 342 #[iv p1, iv p2, iv 2, iv 0, rv aE, rv aR, rv o1, rv e0a, iv 1] [(.ref aR), (.ref e1a)])
      refine own_st (fun _ k => XT.iconstV Y40.here hx rfl (0 : Int32) (hb hby at_342) (by decide) k) ?_
      show own_Go p e below _ T40 (mkF m 343 #[iv p1, iv p2, iv 2, iv 0, rv aE, rv aR, rv o1, rv e0a, iv 1] [(.int 0), (.ref aR), (.ref e1a)])
      refine own_st (fun _ k => own_ldR Y40 hx hZ eh40 V39_aR rfl ⟨by decide, by decide⟩ (v := (.ref e1a)) rfl rfl rfl (hb hby at_343) k) ?_
      show own_Go p e below _ T40 (mkF m 344 #[iv p1, iv p2, iv 2, iv 0, rv aE, rv aR, rv o1, rv e0a, iv 1] [(.ref e1a), (.ref e1a)])
      refine own_st (fun _ k => XT.acmpNo Y40.here hx rfl (hb hby at_344) rfl rfl rfl (XT.aa_ne_f rfl) k) ?_
      show own_Go p e below _ T40 (mkF m 347 #[iv p1, iv p2, iv 2, iv 0, rv aE, rv aR, rv o1, rv e0a, iv 1] [])
      refine own_st (fun _ k => XS.aload Y40.here hx rfl (hb hby at_347) rfl rfl k) ?_
      show own_Go p e below _ T40 (mkF m 349 #[iv p1, iv p2, iv 2, iv 0, rv aE, rv aR, rv o1, rv e0a, iv 1] [(.ref e0a)])
      obtain ⟨T41, X41, e41, st41⟩ := getF Y40 hx hZ hown (host := "") (Or.inl (hw _ (List.mem_of_getElem? (i := 44) rfl))) (Via.of (hw _ (List.mem_of_getElem? (i := 45) rfl))) eh40 FC39_previous_e0a (g := (mkF m 349 #[iv p1, iv p2, iv 2, iv 0, rv aE, rv aR, rv o1, rv e0a, iv 1] [(.ref e0a)])) rfl rfl (hb hby at_349)
      clear Y40 eh40
      refine own_st st41 ?_
      clear st41
      show own_Go p e below _ T41 (mkF m 352 #[iv p1, iv p2, iv 2, iv 0, rv aE, rv aR, rv o1, rv e0a, iv 1] [(.ref e1a)])
      refine own_st (fun _ k => XS.aload X41.here hx rfl (hb hby at_352) rfl rfl k) ?_
      show own_Go p e below _ T41 (mkF m 354 #[iv p1, iv p2, iv 2, iv 0, rv aE, rv aR, rv o1, rv e0a, iv 1] [(.ref aR), (.ref e1a)])
      refine own_st (fun _ k => XS.iload X41.here hx rfl (hb hby at_354) rfl k) ?_
      show own_Go p e below _ T41 (mkF m 356 #[iv p1, iv p2, iv 2, iv 0, rv aE, rv aR, rv o1, rv e0a, iv 1] [(.int 1), (.ref aR), (.ref e1a)])
      refine own_st (fun _ k => XT.iconstV X41.here hx rfl (1 : Int32) (hb hby at_356) (by decide) k) ?_
      show own_Go p e below _ T41 (mkF m 357 #[iv p1, iv p2, iv 2, iv 0, rv aE, rv aR, rv o1, rv e0a, iv 1] [(.int 1), (.int 1), (.ref aR), (.ref e1a)])
      refine own_st (fun _ k => XS.isub X41.here hx rfl (hb hby at_357) rfl k) ?_
      show own_Go p e below _ T41 (mkF m 358 #[iv p1, iv p2, iv 2, iv 0, rv aE, rv aR, rv o1, rv e0a, iv 1] [(.int (1 - 1)), (.ref aR), (.ref e1a)])
      rw [show ((1 : Int32) - (1 : Int32)) = (0 : Int32) from by decide]
      show own_Go p e below _ T41 (mkF m 358 #[iv p1, iv p2, iv 2, iv 0, rv aE, rv aR, rv o1, rv e0a, iv 1] [(.int 0), (.ref aR), (.ref e1a)])
      refine own_st (fun _ k => own_ldR X41 hx hZ e41 V39_aR rfl ⟨by decide, by decide⟩ (v := (.ref e1a)) rfl rfl rfl (hb hby at_358) k) ?_
      show own_Go p e below _ T41 (mkF m 359 #[iv p1, iv p2, iv 2, iv 0, rv aE, rv aR, rv o1, rv e0a, iv 1] [(.ref e1a), (.ref e1a)])
      refine own_st (fun _ k => XT.acmpNo X41.here hx rfl (hb hby at_359) rfl rfl rfl (XT.aa_ne_f rfl) k) ?_
      show own_Go p e below _ T41 (mkF m 362 #[iv p1, iv p2, iv 2, iv 0, rv aE, rv aR, rv o1, rv e0a, iv 1] [])
      refine own_st (fun _ k => XS.aload X41.here hx rfl (hb hby at_362) rfl rfl k) ?_
      show own_Go p e below _ T41 (mkF m 364 #[iv p1, iv p2, iv 2, iv 0, rv aE, rv aR, rv o1, rv e0a, iv 1] [(.ref aR)])
      refine own_st (fun _ k => XS.iload X41.here hx rfl (hb hby at_364) rfl k) ?_
      show own_Go p e below _ T41 (mkF m 366 #[iv p1, iv p2, iv 2, iv 0, rv aE, rv aR, rv o1, rv e0a, iv 1] [(.int 1), (.ref aR)])
      refine own_st (fun _ k => XT.iconstV X41.here hx rfl (1 : Int32) (hb hby at_366) (by decide) k) ?_
      show own_Go p e below _ T41 (mkF m 367 #[iv p1, iv p2, iv 2, iv 0, rv aE, rv aR, rv o1, rv e0a, iv 1] [(.int 1), (.int 1), (.ref aR)])
      refine own_st (fun _ k => XS.isub X41.here hx rfl (hb hby at_367) rfl k) ?_
      show own_Go p e below _ T41 (mkF m 368 #[iv p1, iv p2, iv 2, iv 0, rv aE, rv aR, rv o1, rv e0a, iv 1] [(.int (1 - 1)), (.ref aR)])
      rw [show ((1 : Int32) - (1 : Int32)) = (0 : Int32) from by decide]
      show own_Go p e below _ T41 (mkF m 368 #[iv p1, iv p2, iv 2, iv 0, rv aE, rv aR, rv o1, rv e0a, iv 1] [(.int 0), (.ref aR)])
      refine own_st (fun _ k => own_ldR X41 hx hZ e41 V39_aR rfl ⟨by decide, by decide⟩ (v := (.ref e1a)) rfl rfl rfl (hb hby at_368) k) ?_
      show own_Go p e below _ T41 (mkF m 369 #[iv p1, iv p2, iv 2, iv 0, rv aE, rv aR, rv o1, rv e0a, iv 1] [(.ref e1a)])
      obtain ⟨T42, X42, e42, st42⟩ := getF X41 hx hZ hown (host := "") (Or.inl (hw _ (List.mem_of_getElem? (i := 46) rfl))) (Via.of (hw _ (List.mem_of_getElem? (i := 47) rfl))) e41 FC39_next_e1a (g := (mkF m 369 #[iv p1, iv p2, iv 2, iv 0, rv aE, rv aR, rv o1, rv e0a, iv 1] [(.ref e1a)])) rfl rfl (hb hby at_369)
      clear X41 e41
      refine own_st st42 ?_
      clear st42
      show own_Go p e below _ T42 (mkF m 372 #[iv p1, iv p2, iv 2, iv 0, rv aE, rv aR, rv o1, rv e0a, iv 1] [(.ref e0a)])
      refine own_st (fun _ k => XS.aload X42.here hx rfl (hb hby at_372) rfl rfl k) ?_
      show own_Go p e below _ T42 (mkF m 374 #[iv p1, iv p2, iv 2, iv 0, rv aE, rv aR, rv o1, rv e0a, iv 1] [(.ref e0a), (.ref e0a)])
      refine own_st (fun _ k => XT.acmpNo X42.here hx rfl (hb hby at_374) rfl rfl rfl (XT.aa_ne_f rfl) k) ?_
      show own_Go p e below _ T42 (mkF m 377 #[iv p1, iv p2, iv 2, iv 0, rv aE, rv aR, rv o1, rv e0a, iv 1] [])
      refine own_st (fun _ k => XS.aload X42.here hx rfl (hb hby at_377) rfl rfl k) ?_
      show own_Go p e below _ T42 (mkF m 379 #[iv p1, iv p2, iv 2, iv 0, rv aE, rv aR, rv o1, rv e0a, iv 1] [(.ref e0a)])
      obtain ⟨T43, X43, e43, st43⟩ := getF X42 hx hZ hown (host := "") (Or.inl (hw _ (List.mem_of_getElem? (i := 46) rfl))) (Via.of (hw _ (List.mem_of_getElem? (i := 47) rfl))) e42 FC39_next_e0a (g := (mkF m 379 #[iv p1, iv p2, iv 2, iv 0, rv aE, rv aR, rv o1, rv e0a, iv 1] [(.ref e0a)])) rfl rfl (hb hby at_379)
      clear X42 e42
      refine own_st st43 ?_
      clear st43
      show own_Go p e below _ T43 (mkF m 382 #[iv p1, iv p2, iv 2, iv 0, rv aE, rv aR, rv o1, rv e0a, iv 1] [.null])
      refine own_st (fun _ k => XT.ifnonnullNo X43.here hx rfl (hb hby at_382) rfl k) ?_
      show own_Go p e below _ T43 (mkF m 385 #[iv p1, iv p2, iv 2, iv 0, rv aE, rv aR, rv o1, rv e0a, iv 1] [])
      refine own_st (fun _ k => XT.iconstV X43.here hx rfl (1 : Int32) (hb hby at_385) (by decide) k) ?_
      show own_Go p e below _ T43 (mkF m 386 #[iv p1, iv p2, iv 2, iv 0, rv aE, rv aR, rv o1, rv e0a, iv 1] [(.int 1)])
      refine own_st (fun _ k => XS.goto X43.here hx rfl (pc0 := 386) (pc' := 390) rfl (hb hby at_386) (by decide) (by decide) k) ?_
      show own_Go p e below _ T43 (mkF m 390 #[iv p1, iv p2, iv 2, iv 0, rv aE, rv aR, rv o1, rv e0a, iv 1] [(.int 1)])
      refine own_retN X43 hx Bd.notSynchronized (t := .boolean) Bd.returns (by simp) (hb hby at_390) (by decide) (by decide) ?_
      rw [e43]
      exact ⟨rfl, P40⟩
    · show own_Go p e below _ T30 (mkF m 132 #[iv p1, iv p2, iv 2, iv 1, rv aE, rv aR, rv o1, .unset, .unset] [(.int 1), (.ref aE)])
      refine own_st (fun _ k => own_ldR Y30 hx hZ rfl V30_aE rfl ⟨by decide, by decide⟩ (v := (.ref e1a)) rfl rfl rfl (hb hby at_132) k) ?_
      show own_Go p e below _ T30 (mkF m 133 #[iv p1, iv p2, iv 2, iv 1, rv aE, rv aR, rv o1, .unset, .unset] [(.ref e1a)])
      refine own_st (fun _ k => XS.astore Y30.here hx rfl (hb hby at_133) rfl rfl (l' := #[iv p1, iv p2, iv 2, iv 1, rv aE, rv aR, rv o1, rv e1a, .unset]) rfl k) ?_
      show own_Go p e below _ T30 (mkF m 135 #[iv p1, iv p2, iv 2, iv 1, rv aE, rv aR, rv o1, rv e1a, .unset] [])
      refine own_st (fun _ k => XS.aload Y30.here hx rfl (hb hby at_135) rfl rfl k) ?_
      show own_Go p e below _ T30 (mkF m 137 #[iv p1, iv p2, iv 2, iv 1, rv aE, rv aR, rv o1, rv e1a, .unset] [(.ref o1)])
      refine own_st (fun _ k => XS.aload Y30.here hx rfl (hb hby at_137) rfl rfl k) ?_
      show own_Go p e below _ T30 (mkF m 139 #[iv p1, iv p2, iv 2, iv 1, rv aE, rv aR, rv o1, rv e1a, .unset] [(.ref e1a), (.ref o1)])
      obtain ⟨cq45, kq45, q45a, q45b, q45c⟩ := isOf hZ rfl E30_o1
      obtain ⟨_, T45, L45, X45, hQ45, st45⟩ := own_gotT (Y30.virtualBack hx (y := (⟨"com/example/recency/recency/RecencyList", "remove", "(Lcom/example/recency/recency/RecencyList$Link;)V"⟩ : MethodName)) (z := (⟨"com/example/recency/recency/RecencyList", "remove", "(Lcom/example/recency/recency/RecencyList$Link;)V"⟩ : MethodName)) hown (mvT hZ (hw _ (List.mem_of_getElem? (i := 35) rfl))) (mvT hZ (hw _ (List.mem_of_getElem? (i := 36) rfl))) (notFace_of_selects (args := #[]) (mvT hZ (hw _ (List.mem_of_getElem? (i := 38) rfl)))) (mvT hZ (hw _ (List.mem_of_getElem? (i := 38) rfl))) (mvT hZ (hw _ (List.mem_of_getElem? (i := 37) rfl))) (by decide) (backOf (W := 0) (own_rm_rem10N l Z a0 hw [] o1 e1a e0a e0a T30.heap n0 Z30 (S_A.ext O30.2) E30_o1 E30_e1a E30_e0a FC30_first_o1 FC30_last_o1 FC30_previous_e1a FC30_next_e1a FC30_previous_e0a FC30_next_e0a g_o1 g_e1a g_e0a ne_e1a_o1.symm ne_e0a_o1.symm ne_e0a_e1a.symm) hZ (hw _ (List.mem_of_getElem? (i := 39) rfl)) (hw _ (List.mem_of_getElem? (i := 19) rfl)) (by decide) (by decide)) q45a q45c (g := (mkF m 139 #[iv p1, iv p2, iv 2, iv 1, rv aE, rv aR, rv o1, rv e1a, .unset] [(.ref e1a), (.ref o1)])) rfl (by rw [hml]; rfl) (Steps.refl _) (argsL := [(.ref e1a)]) (rest := []) (lenOf own_pd1 rfl) rfl (by show 2 * 0 + _ ≤ _; exact Nat.le_of_eq rfl) (hb hby at_139) (fun _ _ => ⟨rfl, rfl, (by decide : 7 + 0 ≤ _), (by decide : 17 + 0 ≤ _)⟩))
      replace X45 := own_num X45 (k' := 7) (n' := 17) rfl rfl
      obtain ⟨rfl, N45, KC45, FC45_first_o1, FC45_last_o1, FC45_previous_e1a, FC45_next_e1a, FC45_previous_e0a, FC45_next_e0a⟩ := hQ45
      have M45 := Fr.app P30 N45
      obtain ⟨lc45, Y45, P45⟩ := own_hide X45 M45
      refine own_tr st45 ?_
      clear P30 Y30 N45 X45 M45 st45
      show own_Go p e below _ T45 (mkF m 142 #[iv p1, iv p2, iv 2, iv 1, rv aE, rv aR, rv o1, rv e1a, .unset] [])
      have O45 := O30.keep KC45 (allS g_o1 (allS g_e1a (allS g_e0a all0)))
      have V45_aE := V30_aE.keep KC45 (ninS ne_aE_o1 (ninS ne_aE_e1a (ninS ne_aE_e0a nin0)))
      have V45_aR := V30_aR.keep KC45 (ninS ne_aR_o1 (ninS ne_e1a_aR.symm (ninS ne_e0a_aR.symm nin0)))
      have E45_e0a := E30_e0a.keep KC45
      have E45_e1a := E30_e1a.keep KC45
      have E45_e2a := E30_e2a.keep KC45
      have E45_e3a := E30_e3a.keep KC45
      have E45_o1 := E30_o1.keep KC45
      have F45_previous_e2a := F30_previous_e2a.keep KC45 (ninS ne_e2a_o1 (ninS ne_e1a_e2a.symm (ninS ne_e0a_e2a.symm nin0)))
      have F45_next_e2a := F30_next_e2a.keep KC45 (ninS ne_e2a_o1 (ninS ne_e1a_e2a.symm (ninS ne_e0a_e2a.symm nin0)))
      have F45_previous_e3a := F30_previous_e3a.keep KC45 (ninS ne_e3a_o1 (ninS ne_e1a_e3a.symm (ninS ne_e0a_e3a.symm nin0)))
      have F45_next_e3a := F30_next_e3a.keep KC45 (ninS ne_e3a_o1 (ninS ne_e1a_e3a.symm (ninS ne_e0a_e3a.symm nin0)))
      have Z45 : n0 ≤ T45.heap.size := Nat.le_trans Z30 KC45.1
      clear O30 Z30 V30_aE V30_aR E30_e0a E30_e1a E30_e2a E30_e3a E30_o1 FC30_previous_e0a FC30_next_e0a FC30_previous_e1a FC30_next_e1a F30_previous_e2a F30_next_e2a F30_previous_e3a F30_next_e3a FC30_first_o1 FC30_last_o1 KC45
      refine own_st (fun _ k => XS.iloadN Y45.here hx rfl (hb hby at_142) rfl k) ?_
      show own_Go p e below _ T45 (mkF m 143 #[iv p1, iv p2, iv 2, iv 1, rv aE, rv aR, rv o1, rv e1a, .unset] [(.int 2)])
      refine own_st (fun _ k => XT.iconstV Y45.here hx rfl (1 : Int32) (hb hby at_143) (by decide) k) ?_
      show own_Go p e below _ T45 (mkF m 144 #[iv p1, iv p2, iv 2, iv 1, rv aE, rv aR, rv o1, rv e1a, .unset] [(.int 1), (.int 2)])
      refine own_st (fun _ k => XS.isub Y45.here hx rfl (hb hby at_144) rfl k) ?_
      show own_Go p e below _ T45 (mkF m 145 #[iv p1, iv p2, iv 2, iv 1, rv aE, rv aR, rv o1, rv e1a, .unset] [(.int (2 - 1))])
      refine own_st (fun _ k => XS.istore Y45.here hx rfl (hb hby at_145) rfl (l' := #[iv p1, iv p2, iv 2, iv 1, rv aE, rv aR, rv o1, rv e1a, iv (2 - 1)]) rfl k) ?_
      show own_Go p e below _ T45 (mkF m 147 #[iv p1, iv p2, iv 2, iv 1, rv aE, rv aR, rv o1, rv e1a, iv (2 - 1)] [])
      refine own_st (fun _ k => XS.iload Y45.here hx rfl (hb hby at_147) rfl k) ?_
      show own_Go p e below _ T45 (mkF m 149 #[iv p1, iv p2, iv 2, iv 1, rv aE, rv aR, rv o1, rv e1a, iv (2 - 1)] [(.int (2 - 1))])
      rw [show ((2 : Int32) - (1 : Int32)) = (1 : Int32) from by decide]
      show own_Go p e below _ T45 (mkF m 149 #[iv p1, iv p2, iv 2, iv 1, rv aE, rv aR, rv o1, rv e1a, iv 1] [(.int 1)])
      refine own_st (fun _ k => XS.ifNo Y45.here hx rfl (hb hby at_149) rfl (XT.i0_le_f (by decide)) k) ?_
      show own_Go p e below _ T45 (mkF m 152 #[iv p1, iv p2, iv 2, iv 1, rv aE, rv aR, rv o1, rv e1a, iv 1] [])
      refine own_st (fun _ k => XS.aload Y45.here hx rfl (hb hby at_152) rfl rfl k) ?_
      show own_Go p e below _ T45 (mkF m 154 #[iv p1, iv p2, iv 2, iv 1, rv aE, rv aR, rv o1, rv e1a, iv 1] [(.ref aR)])
      refine own_st (fun _ k => XT.iconstV Y45.here hx rfl (0 : Int32) (hb hby at_154) (by decide) k) ?_
      show own_Go p e below _ T45 (mkF m 155 #[iv p1, iv p2, iv 2, iv 1, rv aE, rv aR, rv o1, rv e1a, iv 1] [(.int 0), (.ref aR)])
      refine own_st (fun _ k => XS.aload Y45.here hx rfl (hb hby at_155) rfl rfl k) ?_
      show own_Go p e below _ T45 (mkF m 157 #[iv p1, iv p2, iv 2, iv 1, rv aE, rv aR, rv o1, rv e1a, iv 1] [(.ref aE), (.int 0), (.ref aR)])
      refine own_st (fun _ k => XT.iconstV Y45.here hx rfl (0 : Int32) (hb hby at_157) (by decide) k) ?_
      show own_Go p e below _ T45 (mkF m 158 #[iv p1, iv p2, iv 2, iv 1, rv aE, rv aR, rv o1, rv e1a, iv 1] [(.int 0), (.ref aE), (.int 0), (.ref aR)])
      refine own_st (fun _ k => XS.iloadN Y45.here hx rfl (hb hby at_158) rfl k) ?_
      show own_Go p e below _ T45 (mkF m 159 #[iv p1, iv p2, iv 2, iv 1, rv aE, rv aR, rv o1, rv e1a, iv 1] [(.int 1), (.int 0), (.ref aE), (.int 0), (.ref aR)])
      refine own_st (fun _ k => XS.icmpNo Y45.here hx rfl (hb hby at_159) rfl (XT.ii_ge_f (by decide)) k) ?_
      show own_Go p e below _ T45 (mkF m 162 #[iv p1, iv p2, iv 2, iv 1, rv aE, rv aR, rv o1, rv e1a, iv 1] [(.ref aE), (.int 0), (.ref aR)])
      refine own_st (fun _ k => XT.iconstV Y45.here hx rfl (0 : Int32) (hb hby at_162) (by decide) k) ?_
      show own_Go p e below _ T45 (mkF m 163 #[iv p1, iv p2, iv 2, iv 1, rv aE, rv aR, rv o1, rv e1a, iv 1] [(.int 0), (.ref aE), (.int 0), (.ref aR)])
      refine own_st (fun _ k => XS.goto Y45.here hx rfl (pc0 := 163) (pc' := 167) rfl (hb hby at_163) (by decide) (by decide) k) ?_
      show own_Go p e below _ T45 (mkF m 167 #[iv p1, iv p2, iv 2, iv 1, rv aE, rv aR, rv o1, rv e1a, iv 1] [(.int 0), (.ref aE), (.int 0), (.ref aR)])
      refine own_st (fun _ k => own_ldR Y45 hx hZ rfl V45_aE rfl ⟨by decide, by decide⟩ (v := (.ref e0a)) rfl rfl rfl (hb hby at_167) k) ?_
      show own_Go p e below _ T45 (mkF m 168 #[iv p1, iv p2, iv 2, iv 1, rv aE, rv aR, rv o1, rv e1a, iv 1] [(.ref e0a), (.int 0), (.ref aR)])
      obtain ⟨T46, h46, X46, e46, W46, V46, st46⟩ := own_stR Y45 hx hZ rfl V45_aR Ov_aR (Ins.self E45_e0a) (j := (0 : Int32)) ⟨by decide, by decide⟩ 0 rfl (Nat.le_of_ble_eq_true rfl) (g := (mkF m 168 #[iv p1, iv p2, iv 2, iv 1, rv aE, rv aR, rv o1, rv e1a, iv 1] [(.ref e0a), (.int 0), (.ref aR)])) rfl rfl (hb hby at_168)
      have V46_aR : Arv Z h46 aR k_aR (.object "com/example/recency/recency/RecencyListRemovePinLaw") (3 : Int32) [(.ref e0a), .null, .null] .null := V46
      have O46 := O45.wr W46 g_aR
      have V46_aE := V45_aE.other W46 ne_aE_aR
      have E46_e0a := E45_e0a.wr W46
      have E46_e1a := E45_e1a.wr W46
      have E46_e2a := E45_e2a.wr W46
      have E46_e3a := E45_e3a.wr W46
      have E46_o1 := E45_o1.wr W46
      have F46_previous_e0a := FC45_previous_e0a.other W46 (Or.inl ne_e0a_aR)
      have F46_next_e0a := FC45_next_e0a.other W46 (Or.inl ne_e0a_aR)
      have F46_previous_e1a := FC45_previous_e1a.other W46 (Or.inl ne_e1a_aR)
      have F46_next_e1a := FC45_next_e1a.other W46 (Or.inl ne_e1a_aR)
      have F46_previous_e2a := F45_previous_e2a.other W46 (Or.inl ne_e2a_aR)
      have F46_next_e2a := F45_next_e2a.other W46 (Or.inl ne_e2a_aR)
      have F46_previous_e3a := F45_previous_e3a.other W46 (Or.inl ne_e3a_aR)
      have F46_next_e3a := F45_next_e3a.other W46 (Or.inl ne_e3a_aR)
      have F46_first_o1 := FC45_first_o1.other W46 (Or.inl ne_aR_o1.symm)
      have F46_last_o1 := FC45_last_o1.other W46 (Or.inl ne_aR_o1.symm)
      have Z46 : n0 ≤ h46.size := by rw [W46.size]; exact Z45
      clear O45 Z45 V45_aE E45_e0a E45_e1a E45_e2a E45_e3a E45_o1 FC45_previous_e0a FC45_next_e0a FC45_previous_e1a FC45_next_e1a F45_previous_e2a F45_next_e2a F45_previous_e3a F45_next_e3a FC45_first_o1 FC45_last_o1 V45_aR W46
      have N46 := Fr.snoc X46 P45 g_aR
      obtain ⟨lc46, Y46, P46⟩ := own_hide X46 N46
      clear X46 N46
      clear Y45
      refine own_st st46 ?_
      clear st46
      show own_Go p e below _ T46 (mkF m 169 #[iv p1, iv p2, iv 2, iv 1, rv aE, rv aR, rv o1, rv e1a, iv 1] [])
      refine own_st (fun _ k => XS.iload Y46.here hx rfl (hb hby at_169) rfl k) ?_
      show own_Go p e below _ T46 (mkF m 171 #[iv p1, iv p2, iv 2, iv 1, rv aE, rv aR, rv o1, rv e1a, iv 1] [(.int 1)])
      refine own_st (fun _ k => XT.iconstV Y46.here hx rfl (1 : Int32) (hb hby at_171) (by decide) k) ?_
      show own_Go p e below _ T46 (mkF m 172 #[iv p1, iv p2, iv 2, iv 1, rv aE, rv aR, rv o1, rv e1a, iv 1] [(.int 1), (.int 1)])
      refine own_st (fun _ k => XS.icmpYes Y46.here hx rfl (pc0 := 172) (pc' := 192) rfl (hb hby at_172) rfl (XT.ii_le_t (by decide)) (by decide) (by decide) k) ?_
      show own_Go p e below _ T46 (mkF m 192 #[iv p1, iv p2, iv 2, iv 1, rv aE, rv aR, rv o1, rv e1a, iv 1] [])
      refine own_st (fun _ k => XS.iload Y46.here hx rfl (hb hby at_192) rfl k) ?_
      show own_Go p e below _ T46 (mkF m 194 #[iv p1, iv p2, iv 2, iv 1, rv aE, rv aR, rv o1, rv e1a, iv 1] [(.int 1)])
      refine own_st (fun _ k => XT.iconstV Y46.here hx rfl (2 : Int32) (hb hby at_194) (by decide) k) ?_
      show own_Go p e below _ T46 (mkF m 195 #[iv p1, iv p2, iv 2, iv 1, rv aE, rv aR, rv o1, rv e1a, iv 1] [(.int 2), (.int 1)])
      refine own_st (fun _ k => XS.icmpYes Y46.here hx rfl (pc0 := 195) (pc' := 215) rfl (hb hby at_195) rfl (XT.ii_le_t (by decide)) (by decide) (by decide) k) ?_
      show own_Go p e below _ T46 (mkF m 215 #[iv p1, iv p2, iv 2, iv 1, rv aE, rv aR, rv o1, rv e1a, iv 1] [])
      refine own_st (fun _ k => XS.aload Y46.here hx rfl (hb hby at_215) rfl rfl k) ?_
      show own_Go p e below _ T46 (mkF m 217 #[iv p1, iv p2, iv 2, iv 1, rv aE, rv aR, rv o1, rv e1a, iv 1] [(.ref e1a)])
      obtain ⟨T47, X47, e47, st47⟩ := getF Y46 hx hZ hown (host := "") (Or.inl (hw _ (List.mem_of_getElem? (i := 44) rfl))) (Via.of (hw _ (List.mem_of_getElem? (i := 45) rfl))) e46 F46_previous_e1a (g := (mkF m 217 #[iv p1, iv p2, iv 2, iv 1, rv aE, rv aR, rv o1, rv e1a, iv 1] [(.ref e1a)])) rfl rfl (hb hby at_217)
      clear Y46 e46
      refine own_st st47 ?_
      clear st47
      show own_Go p e below _ T47 (mkF m 220 #[iv p1, iv p2, iv 2, iv 1, rv aE, rv aR, rv o1, rv e1a, iv 1] [.null])
      refine own_st (fun _ k => XT.ifnonnullNo X47.here hx rfl (hb hby at_220) rfl k) ?_
      show own_Go p e below _ T47 (mkF m 223 #[iv p1, iv p2, iv 2, iv 1, rv aE, rv aR, rv o1, rv e1a, iv 1] [])
      refine own_st (fun _ k => XS.aload X47.here hx rfl (hb hby at_223) rfl rfl k) ?_
      show own_Go p e below _ T47 (mkF m 225 #[iv p1, iv p2, iv 2, iv 1, rv aE, rv aR, rv o1, rv e1a, iv 1] [(.ref e1a)])
      obtain ⟨T48, X48, e48, st48⟩ := getF X47 hx hZ hown (host := "") (Or.inl (hw _ (List.mem_of_getElem? (i := 46) rfl))) (Via.of (hw _ (List.mem_of_getElem? (i := 47) rfl))) e47 F46_next_e1a (g := (mkF m 225 #[iv p1, iv p2, iv 2, iv 1, rv aE, rv aR, rv o1, rv e1a, iv 1] [(.ref e1a)])) rfl rfl (hb hby at_225)
      clear X47 e47
      refine own_st st48 ?_
      clear st48
      show own_Go p e below _ T48 (mkF m 228 #[iv p1, iv p2, iv 2, iv 1, rv aE, rv aR, rv o1, rv e1a, iv 1] [.null])
      refine own_st (fun _ k => XS.ifnullYes X48.here hx rfl (pc0 := 228) (pc' := 233) rfl (hb hby at_228) rfl (by decide) (by decide) k) ?_
      show own_Go p e below _ T48 (mkF m 233 #[iv p1, iv p2, iv 2, iv 1, rv aE, rv aR, rv o1, rv e1a, iv 1] [])
      refine own_st (fun _ k => XS.aload X48.here hx rfl (hb hby at_233) rfl rfl k) ?_
      show own_Go p e below _ T48 (mkF m 235 #[iv p1, iv p2, iv 2, iv 1, rv aE, rv aR, rv o1, rv e1a, iv 1] [(.ref o1)])
      obtain ⟨cq49, kq49, q49a, q49b, q49c⟩ := isOf hZ e48 E46_o1
      obtain ⟨_, T49, L49, X49, hQ49, st49⟩ := own_gotT (X48.virtualBack hx (y := (⟨"com/example/recency/recency/RecencyList", "first", "()Lcom/example/recency/recency/RecencyList$Link;"⟩ : MethodName)) (z := (⟨"com/example/recency/recency/RecencyList", "first", "()Lcom/example/recency/recency/RecencyList$Link;"⟩ : MethodName)) hown (mvT hZ (hw _ (List.mem_of_getElem? (i := 48) rfl))) (mvT hZ (hw _ (List.mem_of_getElem? (i := 49) rfl))) (notFace_of_selects (args := #[]) (mvT hZ (hw _ (List.mem_of_getElem? (i := 51) rfl)))) (mvT hZ (hw _ (List.mem_of_getElem? (i := 51) rfl))) (mvT hZ (hw _ (List.mem_of_getElem? (i := 50) rfl))) (by decide) (backOf (W := 0) (own_rm_fst l Z a0 hw [] o1 (.ref e0a) h46 n0 Z46 rfl F46_first_o1) hZ (hw _ (List.mem_of_getElem? (i := 52) rfl)) (hw _ (List.mem_of_getElem? (i := 19) rfl)) (by decide) (by decide)) q49a q49c (g := (mkF m 235 #[iv p1, iv p2, iv 2, iv 1, rv aE, rv aR, rv o1, rv e1a, iv 1] [(.ref o1)])) rfl (by rw [hml]; rfl) (Steps.refl _) (argsL := []) (rest := []) (lenOf own_pd2 rfl) rfl (by show 2 * 0 + _ ≤ _; exact Nat.le_of_eq rfl) (hb hby at_235) (fun _ _ => ⟨rfl, e48, (by decide : 7 + 0 ≤ _), (by decide : 17 + 0 ≤ _)⟩))
      replace X49 := own_num X49 (k' := 7) (n' := 17) rfl rfl
      obtain ⟨rfl, N49, eh49⟩ := hQ49
      have M49 := Fr.app P46 N49
      obtain ⟨lc49, Y49, P49⟩ := own_hide X49 M49
      refine own_tr st49 ?_
      clear P46 X48 N49 e48 X49 M49 st49
      show own_Go p e below _ T49 (mkF m 238 #[iv p1, iv p2, iv 2, iv 1, rv aE, rv aR, rv o1, rv e1a, iv 1] [(.ref e0a)])
      refine own_st (fun _ k => XS.iload Y49.here hx rfl (hb hby at_238) rfl k) ?_
      show own_Go p e below _ T49 (mkF m 240 #[iv p1, iv p2, iv 2, iv 1, rv aE, rv aR, rv o1, rv e1a, iv 1] [(.int 1), (.ref e0a)])
      refine own_st (fun _ k => XS.ifNo Y49.here hx rfl (hb hby at_240) rfl (XT.i0_le_f (by decide)) k) ?_
      show own_Go p e below _ T49 (mkF m 243 #[iv p1, iv p2, iv 2, iv 1, rv aE, rv aR, rv o1, rv e1a, iv 1] [(.ref e0a)])
      refine own_st (fun _ k => XS.aload Y49.here hx rfl (hb hby at_243) rfl rfl k) ?_
      show own_Go p e below _ T49 (mkF m 245 #[iv p1, iv p2, iv 2, iv 1, rv aE, rv aR, rv o1, rv e1a, iv 1] [(.ref aR), (.ref e0a)])
      refine own_st (fun _ k => XT.iconstV Y49.here hx rfl (0 : Int32) (hb hby at_245) (by decide) k) ?_
      show own_Go p e below _ T49 (mkF m 246 #[iv p1, iv p2, iv 2, iv 1, rv aE, rv aR, rv o1, rv e1a, iv 1] [(.int 0), (.ref aR), (.ref e0a)])
      refine own_st (fun _ k => own_ldR Y49 hx hZ eh49 V46_aR rfl ⟨by decide, by decide⟩ (v := (.ref e0a)) rfl rfl rfl (hb hby at_246) k) ?_
      show own_Go p e below _ T49 (mkF m 247 #[iv p1, iv p2, iv 2, iv 1, rv aE, rv aR, rv o1, rv e1a, iv 1] [(.ref e0a), (.ref e0a)])
      refine own_st (fun _ k => XS.goto Y49.here hx rfl (pc0 := 247) (pc' := 251) rfl (hb hby at_247) (by decide) (by decide) k) ?_
      show own_Go p e below _ T49 (mkF m 251 #[iv p1, iv p2, iv 2, iv 1, rv aE, rv aR, rv o1, rv e1a, iv 1] [(.ref e0a), (.ref e0a)])
      refine own_st (fun _ k => XT.acmpYes Y49.here hx rfl (pc0 := 251) (pc' := 256) rfl (hb hby at_251) rfl rfl rfl (XT.aa_eq_t rfl) (by decide) (by decide) k) ?_
      show own_Go p e below _ T49 (mkF m 256 #[iv p1, iv p2, iv 2, iv 1, rv aE, rv aR, rv o1, rv e1a, iv 1] [])
      refine own_st (fun _ k => XS.aload Y49.here hx rfl (hb hby at_256) rfl rfl k) ?_
      show own_Go p e below _ T49 (mkF m 258 #[iv p1, iv p2, iv 2, iv 1, rv aE, rv aR, rv o1, rv e1a, iv 1] [(.ref aR)])
      refine own_st (fun _ k => XT.iconstV Y49.here hx rfl (0 : Int32) (hb hby at_258) (by decide) k) ?_
      show own_Go p e below _ T49 (mkF m 259 #[iv p1, iv p2, iv 2, iv 1, rv aE, rv aR, rv o1, rv e1a, iv 1] [(.int 0), (.ref aR)])
      refine own_st (fun _ k => XS.iload Y49.here hx rfl (hb hby at_259) rfl k) ?_
      show own_Go p e below _ T49 (mkF m 261 #[iv p1, iv p2, iv 2, iv 1, rv aE, rv aR, rv o1, rv e1a, iv 1] [(.int 1), (.int 0), (.ref aR)])
      obtain ⟨_, T50, L50, X50, hQ50, st50⟩ := own_gotS (Jvm.LawKit.callS Y49 hx (y := (⟨"com/example/recency/recency/RecencyListRemovePinLaw", "linked", "([Lcom/example/recency/recency/RecencyListRemovePinLaw;II)Z"⟩ : MethodName)) hown (mvT hZ (hw _ (List.mem_of_getElem? (i := 53) rfl))) (mvT hZ (hw _ (List.mem_of_getElem? (i := 54) rfl))) (mvT hZ (hw _ (List.mem_of_getElem? (i := 4) rfl))) (mvT hZ (hw _ (List.mem_of_getElem? (i := 55) rfl))) (by decide) (backOf (W := 0) (own_rm_lk01 l Z a0 hw [] aR k_aR e0a .null .null h46 n0 Z46 V46_aR F46_previous_e0a F46_next_e0a) hZ (hw _ (List.mem_of_getElem? (i := 55) rfl)) (hw _ (List.mem_of_getElem? (i := 4) rfl)) (by decide) (by decide)) (g := (mkF m 261 #[iv p1, iv p2, iv 2, iv 1, rv aE, rv aR, rv o1, rv e1a, iv 1] [(.int 1), (.int 0), (.ref aR)])) rfl (by rw [hml]; rfl) (argsL := [(.ref aR), (.int (0 : Int32)), (.int (1 : Int32))]) (rest := []) (lenOf own_pd3 rfl) rfl (by show 2 * 0 + _ ≤ _; exact Nat.le_of_eq rfl) (hb hby at_261) (fun _ _ => ⟨rfl, eh49, (by decide : 7 + 0 ≤ _), (by decide : 17 + 0 ≤ _)⟩))
      replace X50 := own_num X50 (k' := 7) (n' := 17) rfl rfl
      obtain ⟨rfl, N50, eh50⟩ := hQ50
      have M50 := Fr.app P49 N50
      obtain ⟨lc50, Y50, P50⟩ := own_hide X50 M50
      refine own_st st50 ?_
      clear P49 Y49 N50 eh49 X50 M50 st50
      show own_Go p e below _ T50 (mkF m 264 #[iv p1, iv p2, iv 2, iv 1, rv aE, rv aR, rv o1, rv e1a, iv 1] [(.int 1)])
      refine own_st (fun _ k => XS.ifNo Y50.here hx rfl (hb hby at_264) rfl (XT.i0_eq_f (by decide)) k) ?_
      show own_Go p e below _ T50 (mkF m 267 #[iv p1, iv p2, iv 2, iv 1, rv aE, rv aR, rv o1, rv e1a, iv 1] [])
      refine own_st (fun _ k => XS.aload Y50.here hx rfl (hb hby at_267) rfl rfl k) ?_
      show own_Go p e below _ T50 (mkF m 269 #[iv p1, iv p2, iv 2, iv 1, rv aE, rv aR, rv o1, rv e1a, iv 1] [(.ref aR)])
      refine own_st (fun _ k => XT.iconstV Y50.here hx rfl (1 : Int32) (hb hby at_269) (by decide) k) ?_
      show own_Go p e below _ T50 (mkF m 270 #[iv p1, iv p2, iv 2, iv 1, rv aE, rv aR, rv o1, rv e1a, iv 1] [(.int 1), (.ref aR)])
      refine own_st (fun _ k => XS.iload Y50.here hx rfl (hb hby at_270) rfl k) ?_
      show own_Go p e below _ T50 (mkF m 272 #[iv p1, iv p2, iv 2, iv 1, rv aE, rv aR, rv o1, rv e1a, iv 1] [(.int 1), (.int 1), (.ref aR)])
      obtain ⟨_, T51, L51, X51, hQ51, st51⟩ := own_gotS (Jvm.LawKit.callS Y50 hx (y := (⟨"com/example/recency/recency/RecencyListRemovePinLaw", "linked", "([Lcom/example/recency/recency/RecencyListRemovePinLaw;II)Z"⟩ : MethodName)) hown (mvT hZ (hw _ (List.mem_of_getElem? (i := 53) rfl))) (mvT hZ (hw _ (List.mem_of_getElem? (i := 54) rfl))) (mvT hZ (hw _ (List.mem_of_getElem? (i := 4) rfl))) (mvT hZ (hw _ (List.mem_of_getElem? (i := 55) rfl))) (by decide) (backOf (W := 0) (own_rm_lk l Z a0 hw [] aR (1 : Int32) (1 : Int32) h46 n0 Z46 (by decide)) hZ (hw _ (List.mem_of_getElem? (i := 55) rfl)) (hw _ (List.mem_of_getElem? (i := 4) rfl)) (by decide) (by decide)) (g := (mkF m 272 #[iv p1, iv p2, iv 2, iv 1, rv aE, rv aR, rv o1, rv e1a, iv 1] [(.int 1), (.int 1), (.ref aR)])) rfl (by rw [hml]; rfl) (argsL := [(.ref aR), (.int (1 : Int32)), (.int (1 : Int32))]) (rest := []) (lenOf own_pd3 rfl) rfl (by show 2 * 0 + _ ≤ _; exact Nat.le_of_eq rfl) (hb hby at_272) (fun _ _ => ⟨rfl, eh50, (by decide : 7 + 0 ≤ _), (by decide : 17 + 0 ≤ _)⟩))
      replace X51 := own_num X51 (k' := 7) (n' := 17) rfl rfl
      obtain ⟨rfl, N51, eh51⟩ := hQ51
      have M51 := Fr.app P50 N51
      obtain ⟨lc51, Y51, P51⟩ := own_hide X51 M51
      refine own_st st51 ?_
      clear P50 Y50 N51 eh50 X51 M51 st51
      show own_Go p e below _ T51 (mkF m 275 #[iv p1, iv p2, iv 2, iv 1, rv aE, rv aR, rv o1, rv e1a, iv 1] [(.int 1)])
      refine own_st (fun _ k => XS.ifNo Y51.here hx rfl (hb hby at_275) rfl (XT.i0_eq_f (by decide)) k) ?_
      show own_Go p e below _ T51 (mkF m 278 #[iv p1, iv p2, iv 2, iv 1, rv aE, rv aR, rv o1, rv e1a, iv 1] [])
      refine own_st (fun _ k => XS.aload Y51.here hx rfl (hb hby at_278) rfl rfl k) ?_
      show own_Go p e below _ T51 (mkF m 280 #[iv p1, iv p2, iv 2, iv 1, rv aE, rv aR, rv o1, rv e1a, iv 1] [(.ref aR)])
      refine own_st (fun _ k => XT.iconstV Y51.here hx rfl (2 : Int32) (hb hby at_280) (by decide) k) ?_
      show own_Go p e below _ T51 (mkF m 281 #[iv p1, iv p2, iv 2, iv 1, rv aE, rv aR, rv o1, rv e1a, iv 1] [(.int 2), (.ref aR)])
      refine own_st (fun _ k => XS.iload Y51.here hx rfl (hb hby at_281) rfl k) ?_
      show own_Go p e below _ T51 (mkF m 283 #[iv p1, iv p2, iv 2, iv 1, rv aE, rv aR, rv o1, rv e1a, iv 1] [(.int 1), (.int 2), (.ref aR)])
      obtain ⟨_, T52, L52, X52, hQ52, st52⟩ := own_gotS (Jvm.LawKit.callS Y51 hx (y := (⟨"com/example/recency/recency/RecencyListRemovePinLaw", "linked", "([Lcom/example/recency/recency/RecencyListRemovePinLaw;II)Z"⟩ : MethodName)) hown (mvT hZ (hw _ (List.mem_of_getElem? (i := 53) rfl))) (mvT hZ (hw _ (List.mem_of_getElem? (i := 54) rfl))) (mvT hZ (hw _ (List.mem_of_getElem? (i := 4) rfl))) (mvT hZ (hw _ (List.mem_of_getElem? (i := 55) rfl))) (by decide) (backOf (W := 0) (own_rm_lk l Z a0 hw [] aR (2 : Int32) (1 : Int32) h46 n0 Z46 (by decide)) hZ (hw _ (List.mem_of_getElem? (i := 55) rfl)) (hw _ (List.mem_of_getElem? (i := 4) rfl)) (by decide) (by decide)) (g := (mkF m 283 #[iv p1, iv p2, iv 2, iv 1, rv aE, rv aR, rv o1, rv e1a, iv 1] [(.int 1), (.int 2), (.ref aR)])) rfl (by rw [hml]; rfl) (argsL := [(.ref aR), (.int (2 : Int32)), (.int (1 : Int32))]) (rest := []) (lenOf own_pd3 rfl) rfl (by show 2 * 0 + _ ≤ _; exact Nat.le_of_eq rfl) (hb hby at_283) (fun _ _ => ⟨rfl, eh51, (by decide : 7 + 0 ≤ _), (by decide : 17 + 0 ≤ _)⟩))
      replace X52 := own_num X52 (k' := 7) (n' := 17) rfl rfl
      obtain ⟨rfl, N52, eh52⟩ := hQ52
      have M52 := Fr.app P51 N52
      obtain ⟨lc52, Y52, P52⟩ := own_hide X52 M52
      refine own_st st52 ?_
      clear P51 Y51 N52 eh51 X52 M52 st52
      show own_Go p e below _ T52 (mkF m 286 #[iv p1, iv p2, iv 2, iv 1, rv aE, rv aR, rv o1, rv e1a, iv 1] [(.int 1)])
      refine own_st (fun _ k => XS.ifYes Y52.here hx rfl (pc0 := 286) (pc' := 291) rfl (hb hby at_286) rfl (XT.i0_ne_t (by decide)) (by decide) (by decide) k) ?_
      show own_Go p e below _ T52 (mkF m 291 #[iv p1, iv p2, iv 2, iv 1, rv aE, rv aR, rv o1, rv e1a, iv 1] [])
      refine own_st (fun _ k => XS.aload Y52.here hx rfl (hb hby at_291) rfl rfl k) ?_
      show own_Go p e below _ T52 (mkF m 293 #[iv p1, iv p2, iv 2, iv 1, rv aE, rv aR, rv o1, rv e1a, iv 1] [(.ref o1)])
      refine own_st (fun _ k => XS.aload Y52.here hx rfl (hb hby at_293) rfl rfl k) ?_
      show own_Go p e below _ T52 (mkF m 295 #[iv p1, iv p2, iv 2, iv 1, rv aE, rv aR, rv o1, rv e1a, iv 1] [(.ref e1a), (.ref o1)])
      obtain ⟨cq53, kq53, q53a, q53b, q53c⟩ := isOf hZ eh52 E46_o1
      obtain ⟨_, T53, L53, X53, hQ53, st53⟩ := own_gotT (Y52.virtualBack hx (y := (⟨"com/example/recency/recency/RecencyList", "addLast", "(Lcom/example/recency/recency/RecencyList$Link;)V"⟩ : MethodName)) (z := (⟨"com/example/recency/recency/RecencyList", "addLast", "(Lcom/example/recency/recency/RecencyList$Link;)V"⟩ : MethodName)) hown (mvT hZ (hw _ (List.mem_of_getElem? (i := 24) rfl))) (mvT hZ (hw _ (List.mem_of_getElem? (i := 25) rfl))) (notFace_of_selects (args := #[]) (mvT hZ (hw _ (List.mem_of_getElem? (i := 27) rfl)))) (mvT hZ (hw _ (List.mem_of_getElem? (i := 27) rfl))) (mvT hZ (hw _ (List.mem_of_getElem? (i := 26) rfl))) (by decide) (backOf (W := 0) (own_rm_addN l Z a0 hw [] o1 e1a e0a e0a h46 n0 Z46 (S_A.ext O46.2) E46_o1 E46_e0a E46_e1a F46_first_o1 F46_last_o1 F46_previous_e0a F46_next_e0a F46_previous_e1a F46_next_e1a g_o1 g_e0a g_e1a ne_e0a_o1.symm ne_e1a_o1.symm ne_e0a_e1a) hZ (hw _ (List.mem_of_getElem? (i := 28) rfl)) (hw _ (List.mem_of_getElem? (i := 19) rfl)) (by decide) (by decide)) q53a q53c (g := (mkF m 295 #[iv p1, iv p2, iv 2, iv 1, rv aE, rv aR, rv o1, rv e1a, iv 1] [(.ref e1a), (.ref o1)])) rfl (by rw [hml]; rfl) (Steps.refl _) (argsL := [(.ref e1a)]) (rest := []) (lenOf own_pd1 rfl) rfl (by show 2 * 0 + _ ≤ _; exact Nat.le_of_eq rfl) (hb hby at_295) (fun _ _ => ⟨rfl, eh52, (by decide : 7 + 0 ≤ _), (by decide : 17 + 0 ≤ _)⟩))
      replace X53 := own_num X53 (k' := 7) (n' := 17) rfl rfl
      obtain ⟨rfl, N53, KC53, FC53_first_o1, FC53_last_o1, FC53_previous_e0a, FC53_next_e0a, FC53_previous_e1a, FC53_next_e1a⟩ := hQ53
      have M53 := Fr.app P52 N53
      obtain ⟨lc53, Y53, P53⟩ := own_hide X53 M53
      refine own_tr st53 ?_
      clear P52 Y52 N53 eh52 X53 M53 st53
      show own_Go p e below _ T53 (mkF m 298 #[iv p1, iv p2, iv 2, iv 1, rv aE, rv aR, rv o1, rv e1a, iv 1] [])
      have O53 := O46.keep KC53 (allS g_o1 (allS g_e0a (allS g_e1a all0)))
      have V53_aE := V46_aE.keep KC53 (ninS ne_aE_o1 (ninS ne_aE_e0a (ninS ne_aE_e1a nin0)))
      have V53_aR := V46_aR.keep KC53 (ninS ne_aR_o1 (ninS ne_e0a_aR.symm (ninS ne_e1a_aR.symm nin0)))
      have E53_e0a := E46_e0a.keep KC53
      have E53_e1a := E46_e1a.keep KC53
      have E53_e2a := E46_e2a.keep KC53
      have E53_e3a := E46_e3a.keep KC53
      have E53_o1 := E46_o1.keep KC53
      have F53_previous_e2a := F46_previous_e2a.keep KC53 (ninS ne_e2a_o1 (ninS ne_e0a_e2a.symm (ninS ne_e1a_e2a.symm nin0)))
      have F53_next_e2a := F46_next_e2a.keep KC53 (ninS ne_e2a_o1 (ninS ne_e0a_e2a.symm (ninS ne_e1a_e2a.symm nin0)))
      have F53_previous_e3a := F46_previous_e3a.keep KC53 (ninS ne_e3a_o1 (ninS ne_e0a_e3a.symm (ninS ne_e1a_e3a.symm nin0)))
      have F53_next_e3a := F46_next_e3a.keep KC53 (ninS ne_e3a_o1 (ninS ne_e0a_e3a.symm (ninS ne_e1a_e3a.symm nin0)))
      have Z53 : n0 ≤ T53.heap.size := Nat.le_trans Z46 KC53.1
      clear O46 Z46 V46_aE V46_aR E46_e0a E46_e1a E46_e2a E46_e3a E46_o1 F46_previous_e0a F46_next_e0a F46_previous_e1a F46_next_e1a F46_previous_e2a F46_next_e2a F46_previous_e3a F46_next_e3a F46_first_o1 F46_last_o1 KC53
      refine own_st (fun _ k => XS.iload Y53.here hx rfl (hb hby at_298) rfl k) ?_
      show own_Go p e below _ T53 (mkF m 300 #[iv p1, iv p2, iv 2, iv 1, rv aE, rv aR, rv o1, rv e1a, iv 1] [(.int 1)])
      refine own_st (fun _ k => XS.ifYes Y53.here hx rfl (pc0 := 300) (pc' := 335) rfl (hb hby at_300) rfl (XT.i0_ne_t (by decide)) (by decide) (by decide) k) ?_
      show own_Go p e below _ T53 (mkF m 335 #[iv p1, iv p2, iv 2, iv 1, rv aE, rv aR, rv o1, rv e1a, iv 1] [])
      refine own_st (fun _ k => XS.aload Y53.here hx rfl (hb hby at_335) rfl rfl k) ?_
      show own_Go p e below _ T53 (mkF m 337 #[iv p1, iv p2, iv 2, iv 1, rv aE, rv aR, rv o1, rv e1a, iv 1] [(.ref o1)])
      obtain ⟨cq54, kq54, q54a, q54b, q54c⟩ := isOf hZ rfl E53_o1
      obtain ⟨_, T54, L54, X54, hQ54, st54⟩ := own_gotT (Y53.virtualBack hx (y := (⟨"com/example/recency/recency/RecencyList", "first", "()Lcom/example/recency/recency/RecencyList$Link;"⟩ : MethodName)) (z := (⟨"com/example/recency/recency/RecencyList", "first", "()Lcom/example/recency/recency/RecencyList$Link;"⟩ : MethodName)) hown (mvT hZ (hw _ (List.mem_of_getElem? (i := 48) rfl))) (mvT hZ (hw _ (List.mem_of_getElem? (i := 49) rfl))) (notFace_of_selects (args := #[]) (mvT hZ (hw _ (List.mem_of_getElem? (i := 51) rfl)))) (mvT hZ (hw _ (List.mem_of_getElem? (i := 51) rfl))) (mvT hZ (hw _ (List.mem_of_getElem? (i := 50) rfl))) (by decide) (backOf (W := 0) (own_rm_fst l Z a0 hw [] o1 (.ref e0a) T53.heap n0 Z53 rfl FC53_first_o1) hZ (hw _ (List.mem_of_getElem? (i := 52) rfl)) (hw _ (List.mem_of_getElem? (i := 19) rfl)) (by decide) (by decide)) q54a q54c (g := (mkF m 337 #[iv p1, iv p2, iv 2, iv 1, rv aE, rv aR, rv o1, rv e1a, iv 1] [(.ref o1)])) rfl (by rw [hml]; rfl) (Steps.refl _) (argsL := []) (rest := []) (lenOf own_pd2 rfl) rfl (by show 2 * 0 + _ ≤ _; exact Nat.le_of_eq rfl) (hb hby at_337) (fun _ _ => ⟨rfl, rfl, (by decide : 7 + 0 ≤ _), (by decide : 17 + 0 ≤ _)⟩))
      replace X54 := own_num X54 (k' := 7) (n' := 17) rfl rfl
      obtain ⟨rfl, N54, eh54⟩ := hQ54
      have M54 := Fr.app P53 N54
      obtain ⟨lc54, Y54, P54⟩ := own_hide X54 M54
      refine own_tr st54 ?_
      clear P53 Y53 N54 X54 M54 st54
      show own_Go p e below _ T54 (mkF m 340 #[iv p1, iv p2, iv 2, iv 1, rv aE, rv aR, rv o1, rv e1a, iv 1] [(.ref e0a)])
      refine own_st (fun _ k => XS.aload Y54.here hx rfl (hb hby at_340) rfl rfl k) ?_
      show own_Go p e below _ T54 (mkF m 342 #[iv p1, iv p2, iv 2, iv 1, rv aE, rv aR, rv o1, rv e1a, iv 1] [(.ref aR), (.ref e0a)])
      refine own_st (fun _ k => XT.iconstV Y54.here hx rfl (0 : Int32) (hb hby at_342) (by decide) k) ?_
      show own_Go p e below _ T54 (mkF m 343 #[iv p1, iv p2, iv 2, iv 1, rv aE, rv aR, rv o1, rv e1a, iv 1] [(.int 0), (.ref aR), (.ref e0a)])
      refine own_st (fun _ k => own_ldR Y54 hx hZ eh54 V53_aR rfl ⟨by decide, by decide⟩ (v := (.ref e0a)) rfl rfl rfl (hb hby at_343) k) ?_
      show own_Go p e below _ T54 (mkF m 344 #[iv p1, iv p2, iv 2, iv 1, rv aE, rv aR, rv o1, rv e1a, iv 1] [(.ref e0a), (.ref e0a)])
      refine own_st (fun _ k => XT.acmpNo Y54.here hx rfl (hb hby at_344) rfl rfl rfl (XT.aa_ne_f rfl) k) ?_
      show own_Go p e below _ T54 (mkF m 347 #[iv p1, iv p2, iv 2, iv 1, rv aE, rv aR, rv o1, rv e1a, iv 1] [])
      refine own_st (fun _ k => XS.aload Y54.here hx rfl (hb hby at_347) rfl rfl k) ?_
      show own_Go p e below _ T54 (mkF m 349 #[iv p1, iv p2, iv 2, iv 1, rv aE, rv aR, rv o1, rv e1a, iv 1] [(.ref e1a)])
      obtain ⟨T55, X55, e55, st55⟩ := getF Y54 hx hZ hown (host := "") (Or.inl (hw _ (List.mem_of_getElem? (i := 44) rfl))) (Via.of (hw _ (List.mem_of_getElem? (i := 45) rfl))) eh54 FC53_previous_e1a (g := (mkF m 349 #[iv p1, iv p2, iv 2, iv 1, rv aE, rv aR, rv o1, rv e1a, iv 1] [(.ref e1a)])) rfl rfl (hb hby at_349)
      clear Y54 eh54
      refine own_st st55 ?_
      clear st55
      show own_Go p e below _ T55 (mkF m 352 #[iv p1, iv p2, iv 2, iv 1, rv aE, rv aR, rv o1, rv e1a, iv 1] [(.ref e0a)])
      refine own_st (fun _ k => XS.aload X55.here hx rfl (hb hby at_352) rfl rfl k) ?_
      show own_Go p e below _ T55 (mkF m 354 #[iv p1, iv p2, iv 2, iv 1, rv aE, rv aR, rv o1, rv e1a, iv 1] [(.ref aR), (.ref e0a)])
      refine own_st (fun _ k => XS.iload X55.here hx rfl (hb hby at_354) rfl k) ?_
      show own_Go p e below _ T55 (mkF m 356 #[iv p1, iv p2, iv 2, iv 1, rv aE, rv aR, rv o1, rv e1a, iv 1] [(.int 1), (.ref aR), (.ref e0a)])
      refine own_st (fun _ k => XT.iconstV X55.here hx rfl (1 : Int32) (hb hby at_356) (by decide) k) ?_
      show own_Go p e below _ T55 (mkF m 357 #[iv p1, iv p2, iv 2, iv 1, rv aE, rv aR, rv o1, rv e1a, iv 1] [(.int 1), (.int 1), (.ref aR), (.ref e0a)])
      refine own_st (fun _ k => XS.isub X55.here hx rfl (hb hby at_357) rfl k) ?_
      show own_Go p e below _ T55 (mkF m 358 #[iv p1, iv p2, iv 2, iv 1, rv aE, rv aR, rv o1, rv e1a, iv 1] [(.int (1 - 1)), (.ref aR), (.ref e0a)])
      rw [show ((1 : Int32) - (1 : Int32)) = (0 : Int32) from by decide]
      show own_Go p e below _ T55 (mkF m 358 #[iv p1, iv p2, iv 2, iv 1, rv aE, rv aR, rv o1, rv e1a, iv 1] [(.int 0), (.ref aR), (.ref e0a)])
      refine own_st (fun _ k => own_ldR X55 hx hZ e55 V53_aR rfl ⟨by decide, by decide⟩ (v := (.ref e0a)) rfl rfl rfl (hb hby at_358) k) ?_
      show own_Go p e below _ T55 (mkF m 359 #[iv p1, iv p2, iv 2, iv 1, rv aE, rv aR, rv o1, rv e1a, iv 1] [(.ref e0a), (.ref e0a)])
      refine own_st (fun _ k => XT.acmpNo X55.here hx rfl (hb hby at_359) rfl rfl rfl (XT.aa_ne_f rfl) k) ?_
      show own_Go p e below _ T55 (mkF m 362 #[iv p1, iv p2, iv 2, iv 1, rv aE, rv aR, rv o1, rv e1a, iv 1] [])
      refine own_st (fun _ k => XS.aload X55.here hx rfl (hb hby at_362) rfl rfl k) ?_
      show own_Go p e below _ T55 (mkF m 364 #[iv p1, iv p2, iv 2, iv 1, rv aE, rv aR, rv o1, rv e1a, iv 1] [(.ref aR)])
      refine own_st (fun _ k => XS.iload X55.here hx rfl (hb hby at_364) rfl k) ?_
      show own_Go p e below _ T55 (mkF m 366 #[iv p1, iv p2, iv 2, iv 1, rv aE, rv aR, rv o1, rv e1a, iv 1] [(.int 1), (.ref aR)])
      refine own_st (fun _ k => XT.iconstV X55.here hx rfl (1 : Int32) (hb hby at_366) (by decide) k) ?_
      show own_Go p e below _ T55 (mkF m 367 #[iv p1, iv p2, iv 2, iv 1, rv aE, rv aR, rv o1, rv e1a, iv 1] [(.int 1), (.int 1), (.ref aR)])
      refine own_st (fun _ k => XS.isub X55.here hx rfl (hb hby at_367) rfl k) ?_
      show own_Go p e below _ T55 (mkF m 368 #[iv p1, iv p2, iv 2, iv 1, rv aE, rv aR, rv o1, rv e1a, iv 1] [(.int (1 - 1)), (.ref aR)])
      rw [show ((1 : Int32) - (1 : Int32)) = (0 : Int32) from by decide]
      show own_Go p e below _ T55 (mkF m 368 #[iv p1, iv p2, iv 2, iv 1, rv aE, rv aR, rv o1, rv e1a, iv 1] [(.int 0), (.ref aR)])
      refine own_st (fun _ k => own_ldR X55 hx hZ e55 V53_aR rfl ⟨by decide, by decide⟩ (v := (.ref e0a)) rfl rfl rfl (hb hby at_368) k) ?_
      show own_Go p e below _ T55 (mkF m 369 #[iv p1, iv p2, iv 2, iv 1, rv aE, rv aR, rv o1, rv e1a, iv 1] [(.ref e0a)])
      obtain ⟨T56, X56, e56, st56⟩ := getF X55 hx hZ hown (host := "") (Or.inl (hw _ (List.mem_of_getElem? (i := 46) rfl))) (Via.of (hw _ (List.mem_of_getElem? (i := 47) rfl))) e55 FC53_next_e0a (g := (mkF m 369 #[iv p1, iv p2, iv 2, iv 1, rv aE, rv aR, rv o1, rv e1a, iv 1] [(.ref e0a)])) rfl rfl (hb hby at_369)
      clear X55 e55
      refine own_st st56 ?_
      clear st56
      show own_Go p e below _ T56 (mkF m 372 #[iv p1, iv p2, iv 2, iv 1, rv aE, rv aR, rv o1, rv e1a, iv 1] [(.ref e1a)])
      refine own_st (fun _ k => XS.aload X56.here hx rfl (hb hby at_372) rfl rfl k) ?_
      show own_Go p e below _ T56 (mkF m 374 #[iv p1, iv p2, iv 2, iv 1, rv aE, rv aR, rv o1, rv e1a, iv 1] [(.ref e1a), (.ref e1a)])
      refine own_st (fun _ k => XT.acmpNo X56.here hx rfl (hb hby at_374) rfl rfl rfl (XT.aa_ne_f rfl) k) ?_
      show own_Go p e below _ T56 (mkF m 377 #[iv p1, iv p2, iv 2, iv 1, rv aE, rv aR, rv o1, rv e1a, iv 1] [])
      refine own_st (fun _ k => XS.aload X56.here hx rfl (hb hby at_377) rfl rfl k) ?_
      show own_Go p e below _ T56 (mkF m 379 #[iv p1, iv p2, iv 2, iv 1, rv aE, rv aR, rv o1, rv e1a, iv 1] [(.ref e1a)])
      obtain ⟨T57, X57, e57, st57⟩ := getF X56 hx hZ hown (host := "") (Or.inl (hw _ (List.mem_of_getElem? (i := 46) rfl))) (Via.of (hw _ (List.mem_of_getElem? (i := 47) rfl))) e56 FC53_next_e1a (g := (mkF m 379 #[iv p1, iv p2, iv 2, iv 1, rv aE, rv aR, rv o1, rv e1a, iv 1] [(.ref e1a)])) rfl rfl (hb hby at_379)
      clear X56 e56
      refine own_st st57 ?_
      clear st57
      show own_Go p e below _ T57 (mkF m 382 #[iv p1, iv p2, iv 2, iv 1, rv aE, rv aR, rv o1, rv e1a, iv 1] [.null])
      refine own_st (fun _ k => XT.ifnonnullNo X57.here hx rfl (hb hby at_382) rfl k) ?_
      show own_Go p e below _ T57 (mkF m 385 #[iv p1, iv p2, iv 2, iv 1, rv aE, rv aR, rv o1, rv e1a, iv 1] [])
      refine own_st (fun _ k => XT.iconstV X57.here hx rfl (1 : Int32) (hb hby at_385) (by decide) k) ?_
      show own_Go p e below _ T57 (mkF m 386 #[iv p1, iv p2, iv 2, iv 1, rv aE, rv aR, rv o1, rv e1a, iv 1] [(.int 1)])
      refine own_st (fun _ k => XS.goto X57.here hx rfl (pc0 := 386) (pc' := 390) rfl (hb hby at_386) (by decide) (by decide) k) ?_
      show own_Go p e below _ T57 (mkF m 390 #[iv p1, iv p2, iv 2, iv 1, rv aE, rv aR, rv o1, rv e1a, iv 1] [(.int 1)])
      refine own_retN X57 hx Bd.notSynchronized (t := .boolean) Bd.returns (by simp) (hb hby at_390) (by decide) (by decide) ?_
      rw [e57]
      exact ⟨rfl, P54⟩
  · show own_Go p e below _ T17 (mkF m 89 #[iv p1, iv p2, iv 3, iv ((p2 &&& 2147483647) % 3), rv aE, rv aR, rv o1, .unset, .unset] [(.int 1), (.int 3)])
    refine own_st (fun _ k => XS.icmpNo Y17.here hx rfl (hb hby at_89) rfl (XT.ii_le_f (by decide)) k) ?_
    show own_Go p e below _ T17 (mkF m 92 #[iv p1, iv p2, iv 3, iv ((p2 &&& 2147483647) % 3), rv aE, rv aR, rv o1, .unset, .unset] [])
    refine own_st (fun _ k => XS.aload Y17.here hx rfl (hb hby at_92) rfl rfl k) ?_
    show own_Go p e below _ T17 (mkF m 94 #[iv p1, iv p2, iv 3, iv ((p2 &&& 2147483647) % 3), rv aE, rv aR, rv o1, .unset, .unset] [(.ref o1)])
    refine own_st (fun _ k => XS.aload Y17.here hx rfl (hb hby at_94) rfl rfl k) ?_
    show own_Go p e below _ T17 (mkF m 96 #[iv p1, iv p2, iv 3, iv ((p2 &&& 2147483647) % 3), rv aE, rv aR, rv o1, .unset, .unset] [(.ref aE), (.ref o1)])
    refine own_st (fun _ k => XT.iconstV Y17.here hx rfl (1 : Int32) (hb hby at_96) (by decide) k) ?_
    show own_Go p e below _ T17 (mkF m 97 #[iv p1, iv p2, iv 3, iv ((p2 &&& 2147483647) % 3), rv aE, rv aR, rv o1, .unset, .unset] [(.int 1), (.ref aE), (.ref o1)])
    refine own_st (fun _ k => own_ldR Y17 hx hZ rfl V17_aE rfl ⟨by decide, by decide⟩ (v := (.ref e1a)) rfl rfl rfl (hb hby at_97) k) ?_
    show own_Go p e below _ T17 (mkF m 98 #[iv p1, iv p2, iv 3, iv ((p2 &&& 2147483647) % 3), rv aE, rv aR, rv o1, .unset, .unset] [(.ref e1a), (.ref o1)])
    obtain ⟨cq59, kq59, q59a, q59b, q59c⟩ := isOf hZ rfl E17_o1
    obtain ⟨_, T59, L59, X59, hQ59, st59⟩ := own_gotT (Y17.virtualBack hx (y := (⟨"com/example/recency/recency/RecencyList", "addLast", "(Lcom/example/recency/recency/RecencyList$Link;)V"⟩ : MethodName)) (z := (⟨"com/example/recency/recency/RecencyList", "addLast", "(Lcom/example/recency/recency/RecencyList$Link;)V"⟩ : MethodName)) hown (mvT hZ (hw _ (List.mem_of_getElem? (i := 24) rfl))) (mvT hZ (hw _ (List.mem_of_getElem? (i := 25) rfl))) (notFace_of_selects (args := #[]) (mvT hZ (hw _ (List.mem_of_getElem? (i := 27) rfl)))) (mvT hZ (hw _ (List.mem_of_getElem? (i := 27) rfl))) (mvT hZ (hw _ (List.mem_of_getElem? (i := 26) rfl))) (by decide) (backOf (W := 0) (own_rm_addN l Z a0 hw [] o1 e1a e0a e0a T17.heap n0 Z17 (S_A.ext O17.2) E17_o1 E17_e0a E17_e1a FC17_first_o1 FC17_last_o1 F17_previous_e0a F17_next_e0a F17_previous_e1a F17_next_e1a g_o1 g_e0a g_e1a ne_e0a_o1.symm ne_e1a_o1.symm ne_e0a_e1a) hZ (hw _ (List.mem_of_getElem? (i := 28) rfl)) (hw _ (List.mem_of_getElem? (i := 19) rfl)) (by decide) (by decide)) q59a q59c (g := (mkF m 98 #[iv p1, iv p2, iv 3, iv ((p2 &&& 2147483647) % 3), rv aE, rv aR, rv o1, .unset, .unset] [(.ref e1a), (.ref o1)])) rfl (by rw [hml]; rfl) (Steps.refl _) (argsL := [(.ref e1a)]) (rest := []) (lenOf own_pd1 rfl) rfl (by show 2 * 0 + _ ≤ _; exact Nat.le_of_eq rfl) (hb hby at_98) (fun _ _ => ⟨rfl, rfl, (by decide : 7 + 0 ≤ _), (by decide : 17 + 0 ≤ _)⟩))
    replace X59 := own_num X59 (k' := 7) (n' := 17) rfl rfl
    obtain ⟨rfl, N59, KC59, FC59_first_o1, FC59_last_o1, FC59_previous_e0a, FC59_next_e0a, FC59_previous_e1a, FC59_next_e1a⟩ := hQ59
    have M59 := Fr.app P17 N59
    obtain ⟨lc59, Y59, P59⟩ := own_hide X59 M59
    refine own_tr st59 ?_
    clear P17 Y17 N59 X59 M59 st59
    show own_Go p e below _ T59 (mkF m 101 #[iv p1, iv p2, iv 3, iv ((p2 &&& 2147483647) % 3), rv aE, rv aR, rv o1, .unset, .unset] [])
    have O59 := O17.keep KC59 (allS g_o1 (allS g_e0a (allS g_e1a all0)))
    have V59_aE := V17_aE.keep KC59 (ninS ne_aE_o1 (ninS ne_aE_e0a (ninS ne_aE_e1a nin0)))
    have V59_aR := V17_aR.keep KC59 (ninS ne_aR_o1 (ninS ne_e0a_aR.symm (ninS ne_e1a_aR.symm nin0)))
    have E59_e0a := E17_e0a.keep KC59
    have E59_e1a := E17_e1a.keep KC59
    have E59_e2a := E17_e2a.keep KC59
    have E59_e3a := E17_e3a.keep KC59
    have E59_o1 := E17_o1.keep KC59
    have F59_previous_e2a := F17_previous_e2a.keep KC59 (ninS ne_e2a_o1 (ninS ne_e0a_e2a.symm (ninS ne_e1a_e2a.symm nin0)))
    have F59_next_e2a := F17_next_e2a.keep KC59 (ninS ne_e2a_o1 (ninS ne_e0a_e2a.symm (ninS ne_e1a_e2a.symm nin0)))
    have F59_previous_e3a := F17_previous_e3a.keep KC59 (ninS ne_e3a_o1 (ninS ne_e0a_e3a.symm (ninS ne_e1a_e3a.symm nin0)))
    have F59_next_e3a := F17_next_e3a.keep KC59 (ninS ne_e3a_o1 (ninS ne_e0a_e3a.symm (ninS ne_e1a_e3a.symm nin0)))
    have Z59 : n0 ≤ T59.heap.size := Nat.le_trans Z17 KC59.1
    clear O17 Z17 V17_aE V17_aR E17_e0a E17_e1a E17_e2a E17_e3a E17_o1 F17_previous_e0a F17_next_e0a F17_previous_e1a F17_next_e1a F17_previous_e2a F17_next_e2a F17_previous_e3a F17_next_e3a FC17_first_o1 FC17_last_o1 KC59
    refine own_st (fun _ k => XS.iloadN Y59.here hx rfl (hb hby at_101) rfl k) ?_
    show own_Go p e below _ T59 (mkF m 102 #[iv p1, iv p2, iv 3, iv ((p2 &&& 2147483647) % 3), rv aE, rv aR, rv o1, .unset, .unset] [(.int 3)])
    refine own_st (fun _ k => XT.iconstV Y59.here hx rfl (2 : Int32) (hb hby at_102) (by decide) k) ?_
    show own_Go p e below _ T59 (mkF m 103 #[iv p1, iv p2, iv 3, iv ((p2 &&& 2147483647) % 3), rv aE, rv aR, rv o1, .unset, .unset] [(.int 2), (.int 3)])
    refine own_st (fun _ k => XS.icmpNo Y59.here hx rfl (hb hby at_103) rfl (XT.ii_le_f (by decide)) k) ?_
    show own_Go p e below _ T59 (mkF m 106 #[iv p1, iv p2, iv 3, iv ((p2 &&& 2147483647) % 3), rv aE, rv aR, rv o1, .unset, .unset] [])
    refine own_st (fun _ k => XS.aload Y59.here hx rfl (hb hby at_106) rfl rfl k) ?_
    show own_Go p e below _ T59 (mkF m 108 #[iv p1, iv p2, iv 3, iv ((p2 &&& 2147483647) % 3), rv aE, rv aR, rv o1, .unset, .unset] [(.ref o1)])
    refine own_st (fun _ k => XS.aload Y59.here hx rfl (hb hby at_108) rfl rfl k) ?_
    show own_Go p e below _ T59 (mkF m 110 #[iv p1, iv p2, iv 3, iv ((p2 &&& 2147483647) % 3), rv aE, rv aR, rv o1, .unset, .unset] [(.ref aE), (.ref o1)])
    refine own_st (fun _ k => XT.iconstV Y59.here hx rfl (2 : Int32) (hb hby at_110) (by decide) k) ?_
    show own_Go p e below _ T59 (mkF m 111 #[iv p1, iv p2, iv 3, iv ((p2 &&& 2147483647) % 3), rv aE, rv aR, rv o1, .unset, .unset] [(.int 2), (.ref aE), (.ref o1)])
    refine own_st (fun _ k => own_ldR Y59 hx hZ rfl V59_aE rfl ⟨by decide, by decide⟩ (v := (.ref e2a)) rfl rfl rfl (hb hby at_111) k) ?_
    show own_Go p e below _ T59 (mkF m 112 #[iv p1, iv p2, iv 3, iv ((p2 &&& 2147483647) % 3), rv aE, rv aR, rv o1, .unset, .unset] [(.ref e2a), (.ref o1)])
    obtain ⟨cq60, kq60, q60a, q60b, q60c⟩ := isOf hZ rfl E59_o1
    obtain ⟨_, T60, L60, X60, hQ60, st60⟩ := own_gotT (Y59.virtualBack hx (y := (⟨"com/example/recency/recency/RecencyList", "addLast", "(Lcom/example/recency/recency/RecencyList$Link;)V"⟩ : MethodName)) (z := (⟨"com/example/recency/recency/RecencyList", "addLast", "(Lcom/example/recency/recency/RecencyList$Link;)V"⟩ : MethodName)) hown (mvT hZ (hw _ (List.mem_of_getElem? (i := 24) rfl))) (mvT hZ (hw _ (List.mem_of_getElem? (i := 25) rfl))) (notFace_of_selects (args := #[]) (mvT hZ (hw _ (List.mem_of_getElem? (i := 27) rfl)))) (mvT hZ (hw _ (List.mem_of_getElem? (i := 27) rfl))) (mvT hZ (hw _ (List.mem_of_getElem? (i := 26) rfl))) (by decide) (backOf (W := 0) (own_rm_addP l Z a0 hw [] o1 e2a e1a e0a e0a T59.heap n0 Z59 (S_A.ext O59.2) E59_o1 E59_e1a E59_e2a FC59_first_o1 FC59_last_o1 FC59_previous_e1a FC59_next_e1a F59_previous_e2a F59_next_e2a g_o1 g_e1a g_e2a ne_e1a_o1.symm ne_e2a_o1.symm ne_e1a_e2a) hZ (hw _ (List.mem_of_getElem? (i := 28) rfl)) (hw _ (List.mem_of_getElem? (i := 19) rfl)) (by decide) (by decide)) q60a q60c (g := (mkF m 112 #[iv p1, iv p2, iv 3, iv ((p2 &&& 2147483647) % 3), rv aE, rv aR, rv o1, .unset, .unset] [(.ref e2a), (.ref o1)])) rfl (by rw [hml]; rfl) (Steps.refl _) (argsL := [(.ref e2a)]) (rest := []) (lenOf own_pd1 rfl) rfl (by show 2 * 0 + _ ≤ _; exact Nat.le_of_eq rfl) (hb hby at_112) (fun _ _ => ⟨rfl, rfl, (by decide : 7 + 0 ≤ _), (by decide : 17 + 0 ≤ _)⟩))
    replace X60 := own_num X60 (k' := 7) (n' := 17) rfl rfl
    obtain ⟨rfl, N60, KC60, FC60_first_o1, FC60_last_o1, FC60_previous_e1a, FC60_next_e1a, FC60_previous_e2a, FC60_next_e2a⟩ := hQ60
    have M60 := Fr.app P59 N60
    obtain ⟨lc60, Y60, P60⟩ := own_hide X60 M60
    refine own_tr st60 ?_
    clear P59 Y59 N60 X60 M60 st60
    show own_Go p e below _ T60 (mkF m 115 #[iv p1, iv p2, iv 3, iv ((p2 &&& 2147483647) % 3), rv aE, rv aR, rv o1, .unset, .unset] [])
    have O60 := O59.keep KC60 (allS g_o1 (allS g_e1a (allS g_e2a all0)))
    have V60_aE := V59_aE.keep KC60 (ninS ne_aE_o1 (ninS ne_aE_e1a (ninS ne_aE_e2a nin0)))
    have V60_aR := V59_aR.keep KC60 (ninS ne_aR_o1 (ninS ne_e1a_aR.symm (ninS ne_e2a_aR.symm nin0)))
    have E60_e0a := E59_e0a.keep KC60
    have E60_e1a := E59_e1a.keep KC60
    have E60_e2a := E59_e2a.keep KC60
    have E60_e3a := E59_e3a.keep KC60
    have E60_o1 := E59_o1.keep KC60
    have F60_previous_e0a := FC59_previous_e0a.keep KC60 (ninS ne_e0a_o1 (ninS ne_e0a_e1a (ninS ne_e0a_e2a nin0)))
    have F60_next_e0a := FC59_next_e0a.keep KC60 (ninS ne_e0a_o1 (ninS ne_e0a_e1a (ninS ne_e0a_e2a nin0)))
    have F60_previous_e3a := F59_previous_e3a.keep KC60 (ninS ne_e3a_o1 (ninS ne_e1a_e3a.symm (ninS ne_e2a_e3a.symm nin0)))
    have F60_next_e3a := F59_next_e3a.keep KC60 (ninS ne_e3a_o1 (ninS ne_e1a_e3a.symm (ninS ne_e2a_e3a.symm nin0)))
    have Z60 : n0 ≤ T60.heap.size := Nat.le_trans Z59 KC60.1
    clear O59 Z59 V59_aE V59_aR E59_e0a E59_e1a E59_e2a E59_e3a E59_o1 FC59_previous_e0a FC59_next_e0a FC59_previous_e1a FC59_next_e1a F59_previous_e2a F59_next_e2a F59_previous_e3a F59_next_e3a FC59_first_o1 FC59_last_o1 KC60
    refine own_st (fun _ k => XS.iloadN Y60.here hx rfl (hb hby at_115) rfl k) ?_
    show own_Go p e below _ T60 (mkF m 116 #[iv p1, iv p2, iv 3, iv ((p2 &&& 2147483647) % 3), rv aE, rv aR, rv o1, .unset, .unset] [(.int 3)])
    refine own_st (fun _ k => XT.iconstV Y60.here hx rfl (3 : Int32) (hb hby at_116) (by decide) k) ?_
    show own_Go p e below _ T60 (mkF m 117 #[iv p1, iv p2, iv 3, iv ((p2 &&& 2147483647) % 3), rv aE, rv aR, rv o1, .unset, .unset] [(.int 3), (.int 3)])
    refine own_st (fun _ k => XS.icmpYes Y60.here hx rfl (pc0 := 117) (pc' := 129) rfl (hb hby at_117) rfl (XT.ii_le_t (by decide)) (by decide) (by decide) k) ?_
    show own_Go p e below _ T60 (mkF m 129 #[iv p1, iv p2, iv 3, iv ((p2 &&& 2147483647) % 3), rv aE, rv aR, rv o1, .unset, .unset] [])
    refine own_st (fun _ k => XS.aload Y60.here hx rfl (hb hby at_129) rfl rfl k) ?_
    show own_Go p e below _ T60 (mkF m 131 #[iv p1, iv p2, iv 3, iv ((p2 &&& 2147483647) % 3), rv aE, rv aR, rv o1, .unset, .unset] [(.ref aE)])
    refine own_st (fun _ k => XS.iloadN Y60.here hx rfl (hb hby at_131) rfl k) ?_
    show own_Go p e below _ T60 (mkF m 132 #[iv p1, iv p2, iv 3, iv ((p2 &&& 2147483647) % 3), rv aE, rv aR, rv o1, .unset, .unset] [(.int ((p2 &&& 2147483647) % 3)), (.ref aE)])
    obtain ⟨kk, hkk, hk⟩ := own_cases3 p2
    rw [hkk]
    show own_Go p e below _ T60 (mkF m 132 #[iv p1, iv p2, iv 3, iv kk, rv aE, rv aR, rv o1, .unset, .unset] [(.int kk), (.ref aE)])
    rcases hk with rfl | rfl | rfl
    · show own_Go p e below _ T60 (mkF m 132 #[iv p1, iv p2, iv 3, iv 0, rv aE, rv aR, rv o1, .unset, .unset] [(.int 0), (.ref aE)])
      refine own_st (fun _ k => own_ldR Y60 hx hZ rfl V60_aE rfl ⟨by decide, by decide⟩ (v := (.ref e0a)) rfl rfl rfl (hb hby at_132) k) ?_
      show own_Go p e below _ T60 (mkF m 133 #[iv p1, iv p2, iv 3, iv 0, rv aE, rv aR, rv o1, .unset, .unset] [(.ref e0a)])
      refine own_st (fun _ k => XS.astore Y60.here hx rfl (hb hby at_133) rfl rfl (l' := #[iv p1, iv p2, iv 3, iv 0, rv aE, rv aR, rv o1, rv e0a, .unset]) rfl k) ?_
      show own_Go p e below _ T60 (mkF m 135 #[iv p1, iv p2, iv 3, iv 0, rv aE, rv aR, rv o1, rv e0a, .unset] [])
      refine own_st (fun _ k => XS.aload Y60.here hx rfl (hb hby at_135) rfl rfl k) ?_
      show own_Go p e below _ T60 (mkF m 137 #[iv p1, iv p2, iv 3, iv 0, rv aE, rv aR, rv o1, rv e0a, .unset] [(.ref o1)])
      refine own_st (fun _ k => XS.aload Y60.here hx rfl (hb hby at_137) rfl rfl k) ?_
      show own_Go p e below _ T60 (mkF m 139 #[iv p1, iv p2, iv 3, iv 0, rv aE, rv aR, rv o1, rv e0a, .unset] [(.ref e0a), (.ref o1)])
      obtain ⟨cq61, kq61, q61a, q61b, q61c⟩ := isOf hZ rfl E60_o1
      obtain ⟨_, T61, L61, X61, hQ61, st61⟩ := own_gotT (Y60.virtualBack hx (y := (⟨"com/example/recency/recency/RecencyList", "remove", "(Lcom/example/recency/recency/RecencyList$Link;)V"⟩ : MethodName)) (z := (⟨"com/example/recency/recency/RecencyList", "remove", "(Lcom/example/recency/recency/RecencyList$Link;)V"⟩ : MethodName)) hown (mvT hZ (hw _ (List.mem_of_getElem? (i := 35) rfl))) (mvT hZ (hw _ (List.mem_of_getElem? (i := 36) rfl))) (notFace_of_selects (args := #[]) (mvT hZ (hw _ (List.mem_of_getElem? (i := 38) rfl)))) (mvT hZ (hw _ (List.mem_of_getElem? (i := 38) rfl))) (mvT hZ (hw _ (List.mem_of_getElem? (i := 37) rfl))) (by decide) (backOf (W := 0) (own_rm_rem01D l Z a0 hw [] o1 e0a e1a e2a e2a T60.heap n0 Z60 (S_A.ext O60.2) E60_o1 E60_e0a E60_e1a FC60_first_o1 FC60_last_o1 F60_previous_e0a F60_next_e0a FC60_previous_e1a FC60_next_e1a g_o1 g_e0a g_e1a ne_e0a_o1.symm ne_e1a_o1.symm ne_e0a_e1a) hZ (hw _ (List.mem_of_getElem? (i := 39) rfl)) (hw _ (List.mem_of_getElem? (i := 19) rfl)) (by decide) (by decide)) q61a q61c (g := (mkF m 139 #[iv p1, iv p2, iv 3, iv 0, rv aE, rv aR, rv o1, rv e0a, .unset] [(.ref e0a), (.ref o1)])) rfl (by rw [hml]; rfl) (Steps.refl _) (argsL := [(.ref e0a)]) (rest := []) (lenOf own_pd1 rfl) rfl (by show 2 * 0 + _ ≤ _; exact Nat.le_of_eq rfl) (hb hby at_139) (fun _ _ => ⟨rfl, rfl, (by decide : 7 + 0 ≤ _), (by decide : 17 + 0 ≤ _)⟩))
      replace X61 := own_num X61 (k' := 7) (n' := 17) rfl rfl
      obtain ⟨rfl, N61, KC61, FC61_first_o1, FC61_last_o1, FC61_previous_e0a, FC61_next_e0a, FC61_previous_e1a, FC61_next_e1a⟩ := hQ61
      have M61 := Fr.app P60 N61
      obtain ⟨lc61, Y61, P61⟩ := own_hide X61 M61
      refine own_tr st61 ?_
      clear P60 Y60 N61 X61 M61 st61
      show own_Go p e below _ T61 (mkF m 142 #[iv p1, iv p2, iv 3, iv 0, rv aE, rv aR, rv o1, rv e0a, .unset] [])
      have O61 := O60.keep KC61 (allS g_o1 (allS g_e0a (allS g_e1a all0)))
      have V61_aE := V60_aE.keep KC61 (ninS ne_aE_o1 (ninS ne_aE_e0a (ninS ne_aE_e1a nin0)))
      have V61_aR := V60_aR.keep KC61 (ninS ne_aR_o1 (ninS ne_e0a_aR.symm (ninS ne_e1a_aR.symm nin0)))
      have E61_e0a := E60_e0a.keep KC61
      have E61_e1a := E60_e1a.keep KC61
      have E61_e2a := E60_e2a.keep KC61
      have E61_e3a := E60_e3a.keep KC61
      have E61_o1 := E60_o1.keep KC61
      have F61_previous_e2a := FC60_previous_e2a.keep KC61 (ninS ne_e2a_o1 (ninS ne_e0a_e2a.symm (ninS ne_e1a_e2a.symm nin0)))
      have F61_next_e2a := FC60_next_e2a.keep KC61 (ninS ne_e2a_o1 (ninS ne_e0a_e2a.symm (ninS ne_e1a_e2a.symm nin0)))
      have F61_previous_e3a := F60_previous_e3a.keep KC61 (ninS ne_e3a_o1 (ninS ne_e0a_e3a.symm (ninS ne_e1a_e3a.symm nin0)))
      have F61_next_e3a := F60_next_e3a.keep KC61 (ninS ne_e3a_o1 (ninS ne_e0a_e3a.symm (ninS ne_e1a_e3a.symm nin0)))
      have Z61 : n0 ≤ T61.heap.size := Nat.le_trans Z60 KC61.1
      clear O60 Z60 V60_aE V60_aR E60_e0a E60_e1a E60_e2a E60_e3a E60_o1 F60_previous_e0a F60_next_e0a FC60_previous_e1a FC60_next_e1a FC60_previous_e2a FC60_next_e2a F60_previous_e3a F60_next_e3a FC60_first_o1 FC60_last_o1 KC61
      refine own_st (fun _ k => XS.iloadN Y61.here hx rfl (hb hby at_142) rfl k) ?_
      show own_Go p e below _ T61 (mkF m 143 #[iv p1, iv p2, iv 3, iv 0, rv aE, rv aR, rv o1, rv e0a, .unset] [(.int 3)])
      refine own_st (fun _ k => XT.iconstV Y61.here hx rfl (1 : Int32) (hb hby at_143) (by decide) k) ?_
      show own_Go p e below _ T61 (mkF m 144 #[iv p1, iv p2, iv 3, iv 0, rv aE, rv aR, rv o1, rv e0a, .unset] [(.int 1), (.int 3)])
      refine own_st (fun _ k => XS.isub Y61.here hx rfl (hb hby at_144) rfl k) ?_
      show own_Go p e below _ T61 (mkF m 145 #[iv p1, iv p2, iv 3, iv 0, rv aE, rv aR, rv o1, rv e0a, .unset] [(.int (3 - 1))])
      refine own_st (fun _ k => XS.istore Y61.here hx rfl (hb hby at_145) rfl (l' := #[iv p1, iv p2, iv 3, iv 0, rv aE, rv aR, rv o1, rv e0a, iv (3 - 1)]) rfl k) ?_
      show own_Go p e below _ T61 (mkF m 147 #[iv p1, iv p2, iv 3, iv 0, rv aE, rv aR, rv o1, rv e0a, iv (3 - 1)] [])
      refine own_st (fun _ k => XS.iload Y61.here hx rfl (hb hby at_147) rfl k) ?_
      show own_Go p e below _ T61 (mkF m 149 #[iv p1, iv p2, iv 3, iv 0, rv aE, rv aR, rv o1, rv e0a, iv (3 - 1)] [(.int (3 - 1))])
      rw [show ((3 : Int32) - (1 : Int32)) = (2 : Int32) from by decide]
      show own_Go p e below _ T61 (mkF m 149 #[iv p1, iv p2, iv 3, iv 0, rv aE, rv aR, rv o1, rv e0a, iv 2] [(.int 2)])
      refine own_st (fun _ k => XS.ifNo Y61.here hx rfl (hb hby at_149) rfl (XT.i0_le_f (by decide)) k) ?_
      show own_Go p e below _ T61 (mkF m 152 #[iv p1, iv p2, iv 3, iv 0, rv aE, rv aR, rv o1, rv e0a, iv 2] [])
      refine own_st (fun _ k => XS.aload Y61.here hx rfl (hb hby at_152) rfl rfl k) ?_
      show own_Go p e below _ T61 (mkF m 154 #[iv p1, iv p2, iv 3, iv 0, rv aE, rv aR, rv o1, rv e0a, iv 2] [(.ref aR)])
      refine own_st (fun _ k => XT.iconstV Y61.here hx rfl (0 : Int32) (hb hby at_154) (by decide) k) ?_
      show own_Go p e below _ T61 (mkF m 155 #[iv p1, iv p2, iv 3, iv 0, rv aE, rv aR, rv o1, rv e0a, iv 2] [(.int 0), (.ref aR)])
      refine own_st (fun _ k => XS.aload Y61.here hx rfl (hb hby at_155) rfl rfl k) ?_
      show own_Go p e below _ T61 (mkF m 157 #[iv p1, iv p2, iv 3, iv 0, rv aE, rv aR, rv o1, rv e0a, iv 2] [(.ref aE), (.int 0), (.ref aR)])
      refine own_st (fun _ k => XT.iconstV Y61.here hx rfl (0 : Int32) (hb hby at_157) (by decide) k) ?_
      show own_Go p e below _ T61 (mkF m 158 #[iv p1, iv p2, iv 3, iv 0, rv aE, rv aR, rv o1, rv e0a, iv 2] [(.int 0), (.ref aE), (.int 0), (.ref aR)])
      refine own_st (fun _ k => XS.iloadN Y61.here hx rfl (hb hby at_158) rfl k) ?_
      show own_Go p e below _ T61 (mkF m 159 #[iv p1, iv p2, iv 3, iv 0, rv aE, rv aR, rv o1, rv e0a, iv 2] [(.int 0), (.int 0), (.ref aE), (.int 0), (.ref aR)])
      refine own_st (fun _ k => XS.icmpYes Y61.here hx rfl (pc0 := 159) (pc' := 166) rfl (hb hby at_159) rfl (XT.ii_ge_t (by decide)) (by decide) (by decide) k) ?_
      show own_Go p e below _ T61 (mkF m 166 #[iv p1, iv p2, iv 3, iv 0, rv aE, rv aR, rv o1, rv e0a, iv 2] [(.ref aE), (.int 0), (.ref aR)])
      refine own_st (fun _ k => XT.iconstV Y61.here hx rfl (1 : Int32) (hb hby at_166) (by decide) k) ?_
      show own_Go p e below _ T61 (mkF m 167 #[iv p1, iv p2, iv 3, iv 0, rv aE, rv aR, rv o1, rv e0a, iv 2] [(.int 1), (.ref aE), (.int 0), (.ref aR)])
      refine own_st (fun _ k => own_ldR Y61 hx hZ rfl V61_aE rfl ⟨by decide, by decide⟩ (v := (.ref e1a)) rfl rfl rfl (hb hby at_167) k) ?_
      show own_Go p e below _ T61 (mkF m 168 #[iv p1, iv p2, iv 3, iv 0, rv aE, rv aR, rv o1, rv e0a, iv 2] [(.ref e1a), (.int 0), (.ref aR)])
      obtain ⟨T62, h62, X62, e62, W62, V62, st62⟩ := own_stR Y61 hx hZ rfl V61_aR Ov_aR (Ins.self E61_e1a) (j := (0 : Int32)) ⟨by decide, by decide⟩ 0 rfl (Nat.le_of_ble_eq_true rfl) (g := (mkF m 168 #[iv p1, iv p2, iv 3, iv 0, rv aE, rv aR, rv o1, rv e0a, iv 2] [(.ref e1a), (.int 0), (.ref aR)])) rfl rfl (hb hby at_168)
      have V62_aR : Arv Z h62 aR k_aR (.object "com/example/recency/recency/RecencyListRemovePinLaw") (3 : Int32) [(.ref e1a), .null, .null] .null := V62
      have O62 := O61.wr W62 g_aR
      have V62_aE := V61_aE.other W62 ne_aE_aR
      have E62_e0a := E61_e0a.wr W62
      have E62_e1a := E61_e1a.wr W62
      have E62_e2a := E61_e2a.wr W62
      have E62_e3a := E61_e3a.wr W62
      have E62_o1 := E61_o1.wr W62
      have F62_previous_e0a := FC61_previous_e0a.other W62 (Or.inl ne_e0a_aR)
      have F62_next_e0a := FC61_next_e0a.other W62 (Or.inl ne_e0a_aR)
      have F62_previous_e1a := FC61_previous_e1a.other W62 (Or.inl ne_e1a_aR)
      have F62_next_e1a := FC61_next_e1a.other W62 (Or.inl ne_e1a_aR)
      have F62_previous_e2a := F61_previous_e2a.other W62 (Or.inl ne_e2a_aR)
      have F62_next_e2a := F61_next_e2a.other W62 (Or.inl ne_e2a_aR)
      have F62_previous_e3a := F61_previous_e3a.other W62 (Or.inl ne_e3a_aR)
      have F62_next_e3a := F61_next_e3a.other W62 (Or.inl ne_e3a_aR)
      have F62_first_o1 := FC61_first_o1.other W62 (Or.inl ne_aR_o1.symm)
      have F62_last_o1 := FC61_last_o1.other W62 (Or.inl ne_aR_o1.symm)
      have Z62 : n0 ≤ h62.size := by rw [W62.size]; exact Z61
      clear O61 Z61 V61_aE E61_e0a E61_e1a E61_e2a E61_e3a E61_o1 FC61_previous_e0a FC61_next_e0a FC61_previous_e1a FC61_next_e1a F61_previous_e2a F61_next_e2a F61_previous_e3a F61_next_e3a FC61_first_o1 FC61_last_o1 V61_aR W62
      have N62 := Fr.snoc X62 P61 g_aR
      obtain ⟨lc62, Y62, P62⟩ := own_hide X62 N62
      clear X62 N62
      clear Y61
      refine own_st st62 ?_
      clear st62
      show own_Go p e below _ T62 (mkF m 169 #[iv p1, iv p2, iv 3, iv 0, rv aE, rv aR, rv o1, rv e0a, iv 2] [])
      refine own_st (fun _ k => XS.iload Y62.here hx rfl (hb hby at_169) rfl k) ?_
      show own_Go p e below _ T62 (mkF m 171 #[iv p1, iv p2, iv 3, iv 0, rv aE, rv aR, rv o1, rv e0a, iv 2] [(.int 2)])
      refine own_st (fun _ k => XT.iconstV Y62.here hx rfl (1 : Int32) (hb hby at_171) (by decide) k) ?_
      show own_Go p e below _ T62 (mkF m 172 #[iv p1, iv p2, iv 3, iv 0, rv aE, rv aR, rv o1, rv e0a, iv 2] [(.int 1), (.int 2)])
      refine own_st (fun _ k => XS.icmpNo Y62.here hx rfl (hb hby at_172) rfl (XT.ii_le_f (by decide)) k) ?_
      show own_Go p e below _ T62 (mkF m 175 #[iv p1, iv p2, iv 3, iv 0, rv aE, rv aR, rv o1, rv e0a, iv 2] [])
      refine own_st (fun _ k => XS.aload Y62.here hx rfl (hb hby at_175) rfl rfl k) ?_
      show own_Go p e below _ T62 (mkF m 177 #[iv p1, iv p2, iv 3, iv 0, rv aE, rv aR, rv o1, rv e0a, iv 2] [(.ref aR)])
      refine own_st (fun _ k => XT.iconstV Y62.here hx rfl (1 : Int32) (hb hby at_177) (by decide) k) ?_
      show own_Go p e below _ T62 (mkF m 178 #[iv p1, iv p2, iv 3, iv 0, rv aE, rv aR, rv o1, rv e0a, iv 2] [(.int 1), (.ref aR)])
      refine own_st (fun _ k => XS.aload Y62.here hx rfl (hb hby at_178) rfl rfl k) ?_
      show own_Go p e below _ T62 (mkF m 180 #[iv p1, iv p2, iv 3, iv 0, rv aE, rv aR, rv o1, rv e0a, iv 2] [(.ref aE), (.int 1), (.ref aR)])
      refine own_st (fun _ k => XT.iconstV Y62.here hx rfl (1 : Int32) (hb hby at_180) (by decide) k) ?_
      show own_Go p e below _ T62 (mkF m 181 #[iv p1, iv p2, iv 3, iv 0, rv aE, rv aR, rv o1, rv e0a, iv 2] [(.int 1), (.ref aE), (.int 1), (.ref aR)])
      refine own_st (fun _ k => XS.iloadN Y62.here hx rfl (hb hby at_181) rfl k) ?_
      show own_Go p e below _ T62 (mkF m 182 #[iv p1, iv p2, iv 3, iv 0, rv aE, rv aR, rv o1, rv e0a, iv 2] [(.int 0), (.int 1), (.ref aE), (.int 1), (.ref aR)])
      refine own_st (fun _ k => XS.icmpYes Y62.here hx rfl (pc0 := 182) (pc' := 189) rfl (hb hby at_182) rfl (XT.ii_ge_t (by decide)) (by decide) (by decide) k) ?_
      show own_Go p e below _ T62 (mkF m 189 #[iv p1, iv p2, iv 3, iv 0, rv aE, rv aR, rv o1, rv e0a, iv 2] [(.ref aE), (.int 1), (.ref aR)])
      refine own_st (fun _ k => XT.iconstV Y62.here hx rfl (2 : Int32) (hb hby at_189) (by decide) k) ?_
      show own_Go p e below _ T62 (mkF m 190 #[iv p1, iv p2, iv 3, iv 0, rv aE, rv aR, rv o1, rv e0a, iv 2] [(.int 2), (.ref aE), (.int 1), (.ref aR)])
      refine own_st (fun _ k => own_ldR Y62 hx hZ e62 V62_aE rfl ⟨by decide, by decide⟩ (v := (.ref e2a)) rfl rfl rfl (hb hby at_190) k) ?_
      show own_Go p e below _ T62 (mkF m 191 #[iv p1, iv p2, iv 3, iv 0, rv aE, rv aR, rv o1, rv e0a, iv 2] [(.ref e2a), (.int 1), (.ref aR)])
      obtain ⟨T63, h63, X63, e63, W63, V63, st63⟩ := own_stR Y62 hx hZ e62 V62_aR Ov_aR (Ins.self E62_e2a) (j := (1 : Int32)) ⟨by decide, by decide⟩ 1 rfl (Nat.le_of_ble_eq_true rfl) (g := (mkF m 191 #[iv p1, iv p2, iv 3, iv 0, rv aE, rv aR, rv o1, rv e0a, iv 2] [(.ref e2a), (.int 1), (.ref aR)])) rfl rfl (hb hby at_191)
      have V63_aR : Arv Z h63 aR k_aR (.object "com/example/recency/recency/RecencyListRemovePinLaw") (3 : Int32) [(.ref e1a), (.ref e2a), .null] .null := V63
      have O63 := O62.wr W63 g_aR
      have V63_aE := V62_aE.other W63 ne_aE_aR
      have E63_e0a := E62_e0a.wr W63
      have E63_e1a := E62_e1a.wr W63
      have E63_e2a := E62_e2a.wr W63
      have E63_e3a := E62_e3a.wr W63
      have E63_o1 := E62_o1.wr W63
      have F63_previous_e0a := F62_previous_e0a.other W63 (Or.inl ne_e0a_aR)
      have F63_next_e0a := F62_next_e0a.other W63 (Or.inl ne_e0a_aR)
      have F63_previous_e1a := F62_previous_e1a.other W63 (Or.inl ne_e1a_aR)
      have F63_next_e1a := F62_next_e1a.other W63 (Or.inl ne_e1a_aR)
      have F63_previous_e2a := F62_previous_e2a.other W63 (Or.inl ne_e2a_aR)
      have F63_next_e2a := F62_next_e2a.other W63 (Or.inl ne_e2a_aR)
      have F63_previous_e3a := F62_previous_e3a.other W63 (Or.inl ne_e3a_aR)
      have F63_next_e3a := F62_next_e3a.other W63 (Or.inl ne_e3a_aR)
      have F63_first_o1 := F62_first_o1.other W63 (Or.inl ne_aR_o1.symm)
      have F63_last_o1 := F62_last_o1.other W63 (Or.inl ne_aR_o1.symm)
      have Z63 : n0 ≤ h63.size := by rw [W63.size]; exact Z62
      clear O62 Z62 V62_aE E62_e0a E62_e1a E62_e2a E62_e3a E62_o1 F62_previous_e0a F62_next_e0a F62_previous_e1a F62_next_e1a F62_previous_e2a F62_next_e2a F62_previous_e3a F62_next_e3a F62_first_o1 F62_last_o1 V62_aR W63
      have N63 := Fr.snoc X63 P62 g_aR
      obtain ⟨lc63, Y63, P63⟩ := own_hide X63 N63
      clear X63 N63
      clear Y62 e62
      refine own_st st63 ?_
      clear st63
      show own_Go p e below _ T63 (mkF m 192 #[iv p1, iv p2, iv 3, iv 0, rv aE, rv aR, rv o1, rv e0a, iv 2] [])
      refine own_st (fun _ k => XS.iload Y63.here hx rfl (hb hby at_192) rfl k) ?_
      show own_Go p e below _ T63 (mkF m 194 #[iv p1, iv p2, iv 3, iv 0, rv aE, rv aR, rv o1, rv e0a, iv 2] [(.int 2)])
      refine own_st (fun _ k => XT.iconstV Y63.here hx rfl (2 : Int32) (hb hby at_194) (by decide) k) ?_
      show own_Go p e below _ T63 (mkF m 195 #[iv p1, iv p2, iv 3, iv 0, rv aE, rv aR, rv o1, rv e0a, iv 2] [(.int 2), (.int 2)])
      refine own_st (fun _ k => XS.icmpYes Y63.here hx rfl (pc0 := 195) (pc' := 215) rfl (hb hby at_195) rfl (XT.ii_le_t (by decide)) (by decide) (by decide) k) ?_
      show own_Go p e below _ T63 (mkF m 215 #[iv p1, iv p2, iv 3, iv 0, rv aE, rv aR, rv o1, rv e0a, iv 2] [])
      refine own_st (fun _ k => XS.aload Y63.here hx rfl (hb hby at_215) rfl rfl k) ?_
      show own_Go p e below _ T63 (mkF m 217 #[iv p1, iv p2, iv 3, iv 0, rv aE, rv aR, rv o1, rv e0a, iv 2] [(.ref e0a)])
      obtain ⟨T64, X64, e64, st64⟩ := getF Y63 hx hZ hown (host := "") (Or.inl (hw _ (List.mem_of_getElem? (i := 44) rfl))) (Via.of (hw _ (List.mem_of_getElem? (i := 45) rfl))) e63 F63_previous_e0a (g := (mkF m 217 #[iv p1, iv p2, iv 3, iv 0, rv aE, rv aR, rv o1, rv e0a, iv 2] [(.ref e0a)])) rfl rfl (hb hby at_217)
      clear Y63 e63
      refine own_st st64 ?_
      clear st64
      show own_Go p e below _ T64 (mkF m 220 #[iv p1, iv p2, iv 3, iv 0, rv aE, rv aR, rv o1, rv e0a, iv 2] [.null])
      refine own_st (fun _ k => XT.ifnonnullNo X64.here hx rfl (hb hby at_220) rfl k) ?_
      show own_Go p e below _ T64 (mkF m 223 #[iv p1, iv p2, iv 3, iv 0, rv aE, rv aR, rv o1, rv e0a, iv 2] [])
      refine own_st (fun _ k => XS.aload X64.here hx rfl (hb hby at_223) rfl rfl k) ?_
      show own_Go p e below _ T64 (mkF m 225 #[iv p1, iv p2, iv 3, iv 0, rv aE, rv aR, rv o1, rv e0a, iv 2] [(.ref e0a)])
      obtain ⟨T65, X65, e65, st65⟩ := getF X64 hx hZ hown (host := "") (Or.inl (hw _ (List.mem_of_getElem? (i := 46) rfl))) (Via.of (hw _ (List.mem_of_getElem? (i := 47) rfl))) e64 F63_next_e0a (g := (mkF m 225 #[iv p1, iv p2, iv 3, iv 0, rv aE, rv aR, rv o1, rv e0a, iv 2] [(.ref e0a)])) rfl rfl (hb hby at_225)
      clear X64 e64
      refine own_st st65 ?_
      clear st65
      show own_Go p e below _ T65 (mkF m 228 #[iv p1, iv p2, iv 3, iv 0, rv aE, rv aR, rv o1, rv e0a, iv 2] [.null])
      refine own_st (fun _ k => XS.ifnullYes X65.here hx rfl (pc0 := 228) (pc' := 233) rfl (hb hby at_228) rfl (by decide) (by decide) k) ?_
      show own_Go p e below _ T65 (mkF m 233 #[iv p1, iv p2, iv 3, iv 0, rv aE, rv aR, rv o1, rv e0a, iv 2] [])
      refine own_st (fun _ k => XS.aload X65.here hx rfl (hb hby at_233) rfl rfl k) ?_
      show own_Go p e below _ T65 (mkF m 235 #[iv p1, iv p2, iv 3, iv 0, rv aE, rv aR, rv o1, rv e0a, iv 2] [(.ref o1)])
      obtain ⟨cq66, kq66, q66a, q66b, q66c⟩ := isOf hZ e65 E63_o1
      obtain ⟨_, T66, L66, X66, hQ66, st66⟩ := own_gotT (X65.virtualBack hx (y := (⟨"com/example/recency/recency/RecencyList", "first", "()Lcom/example/recency/recency/RecencyList$Link;"⟩ : MethodName)) (z := (⟨"com/example/recency/recency/RecencyList", "first", "()Lcom/example/recency/recency/RecencyList$Link;"⟩ : MethodName)) hown (mvT hZ (hw _ (List.mem_of_getElem? (i := 48) rfl))) (mvT hZ (hw _ (List.mem_of_getElem? (i := 49) rfl))) (notFace_of_selects (args := #[]) (mvT hZ (hw _ (List.mem_of_getElem? (i := 51) rfl)))) (mvT hZ (hw _ (List.mem_of_getElem? (i := 51) rfl))) (mvT hZ (hw _ (List.mem_of_getElem? (i := 50) rfl))) (by decide) (backOf (W := 0) (own_rm_fst l Z a0 hw [] o1 (.ref e1a) h63 n0 Z63 rfl F63_first_o1) hZ (hw _ (List.mem_of_getElem? (i := 52) rfl)) (hw _ (List.mem_of_getElem? (i := 19) rfl)) (by decide) (by decide)) q66a q66c (g := (mkF m 235 #[iv p1, iv p2, iv 3, iv 0, rv aE, rv aR, rv o1, rv e0a, iv 2] [(.ref o1)])) rfl (by rw [hml]; rfl) (Steps.refl _) (argsL := []) (rest := []) (lenOf own_pd2 rfl) rfl (by show 2 * 0 + _ ≤ _; exact Nat.le_of_eq rfl) (hb hby at_235) (fun _ _ => ⟨rfl, e65, (by decide : 7 + 0 ≤ _), (by decide : 17 + 0 ≤ _)⟩))
      replace X66 := own_num X66 (k' := 7) (n' := 17) rfl rfl
      obtain ⟨rfl, N66, eh66⟩ := hQ66
      have M66 := Fr.app P63 N66
      obtain ⟨lc66, Y66, P66⟩ := own_hide X66 M66
      refine own_tr st66 ?_
      clear P63 X65 N66 e65 X66 M66 st66
      show own_Go p e below _ T66 (mkF m 238 #[iv p1, iv p2, iv 3, iv 0, rv aE, rv aR, rv o1, rv e0a, iv 2] [(.ref e1a)])
      refine own_st (fun _ k => XS.iload Y66.here hx rfl (hb hby at_238) rfl k) ?_
      show own_Go p e below _ T66 (mkF m 240 #[iv p1, iv p2, iv 3, iv 0, rv aE, rv aR, rv o1, rv e0a, iv 2] [(.int 2), (.ref e1a)])
      refine own_st (fun _ k => XS.ifNo Y66.here hx rfl (hb hby at_240) rfl (XT.i0_le_f (by decide)) k) ?_
      show own_Go p e below _ T66 (mkF m 243 #[iv p1, iv p2, iv 3, iv 0, rv aE, rv aR, rv o1, rv e0a, iv 2] [(.ref e1a)])
      refine own_st (fun _ k => XS.aload Y66.here hx rfl (hb hby at_243) rfl rfl k) ?_
      show own_Go p e below _ T66 (mkF m 245 #[iv p1, iv p2, iv 3, iv 0, rv aE, rv aR, rv o1, rv e0a, iv 2] [(.ref aR), (.ref e1a)])
      refine own_st (fun _ k => XT.iconstV Y66.here hx rfl (0 : Int32) (hb hby at_245) (by decide) k) ?_
      show own_Go p e below _ T66 (mkF m 246 #[iv p1, iv p2, iv 3, iv 0, rv aE, rv aR, rv o1, rv e0a, iv 2] [(.int 0), (.ref aR), (.ref e1a)])
      refine own_st (fun _ k => own_ldR Y66 hx hZ eh66 V63_aR rfl ⟨by decide, by decide⟩ (v := (.ref e1a)) rfl rfl rfl (hb hby at_246) k) ?_
      show own_Go p e below _ T66 (mkF m 247 #[iv p1, iv p2, iv 3, iv 0, rv aE, rv aR, rv o1, rv e0a, iv 2] [(.ref e1a), (.ref e1a)])
      refine own_st (fun _ k => XS.goto Y66.here hx rfl (pc0 := 247) (pc' := 251) rfl (hb hby at_247) (by decide) (by decide) k) ?_
      show own_Go p e below _ T66 (mkF m 251 #[iv p1, iv p2, iv 3, iv 0, rv aE, rv aR, rv o1, rv e0a, iv 2] [(.ref e1a), (.ref e1a)])
      refine own_st (fun _ k => XT.acmpYes Y66.here hx rfl (pc0 := 251) (pc' := 256) rfl (hb hby at_251) rfl rfl rfl (XT.aa_eq_t rfl) (by decide) (by decide) k) ?_
      show own_Go p e below _ T66 (mkF m 256 #[iv p1, iv p2, iv 3, iv 0, rv aE, rv aR, rv o1, rv e0a, iv 2] [])
      refine own_st (fun _ k => XS.aload Y66.here hx rfl (hb hby at_256) rfl rfl k) ?_
      show own_Go p e below _ T66 (mkF m 258 #[iv p1, iv p2, iv 3, iv 0, rv aE, rv aR, rv o1, rv e0a, iv 2] [(.ref aR)])
      refine own_st (fun _ k => XT.iconstV Y66.here hx rfl (0 : Int32) (hb hby at_258) (by decide) k) ?_
      show own_Go p e below _ T66 (mkF m 259 #[iv p1, iv p2, iv 3, iv 0, rv aE, rv aR, rv o1, rv e0a, iv 2] [(.int 0), (.ref aR)])
      refine own_st (fun _ k => XS.iload Y66.here hx rfl (hb hby at_259) rfl k) ?_
      show own_Go p e below _ T66 (mkF m 261 #[iv p1, iv p2, iv 3, iv 0, rv aE, rv aR, rv o1, rv e0a, iv 2] [(.int 2), (.int 0), (.ref aR)])
      obtain ⟨_, T67, L67, X67, hQ67, st67⟩ := own_gotS (Jvm.LawKit.callS Y66 hx (y := (⟨"com/example/recency/recency/RecencyListRemovePinLaw", "linked", "([Lcom/example/recency/recency/RecencyListRemovePinLaw;II)Z"⟩ : MethodName)) hown (mvT hZ (hw _ (List.mem_of_getElem? (i := 53) rfl))) (mvT hZ (hw _ (List.mem_of_getElem? (i := 54) rfl))) (mvT hZ (hw _ (List.mem_of_getElem? (i := 4) rfl))) (mvT hZ (hw _ (List.mem_of_getElem? (i := 55) rfl))) (by decide) (backOf (W := 0) (own_rm_lk02 l Z a0 hw [] aR k_aR e1a e2a .null h63 n0 Z63 V63_aR F63_previous_e1a F63_next_e1a) hZ (hw _ (List.mem_of_getElem? (i := 55) rfl)) (hw _ (List.mem_of_getElem? (i := 4) rfl)) (by decide) (by decide)) (g := (mkF m 261 #[iv p1, iv p2, iv 3, iv 0, rv aE, rv aR, rv o1, rv e0a, iv 2] [(.int 2), (.int 0), (.ref aR)])) rfl (by rw [hml]; rfl) (argsL := [(.ref aR), (.int (0 : Int32)), (.int (2 : Int32))]) (rest := []) (lenOf own_pd3 rfl) rfl (by show 2 * 0 + _ ≤ _; exact Nat.le_of_eq rfl) (hb hby at_261) (fun _ _ => ⟨rfl, eh66, (by decide : 7 + 0 ≤ _), (by decide : 17 + 0 ≤ _)⟩))
      replace X67 := own_num X67 (k' := 7) (n' := 17) rfl rfl
      obtain ⟨rfl, N67, eh67⟩ := hQ67
      have M67 := Fr.app P66 N67
      obtain ⟨lc67, Y67, P67⟩ := own_hide X67 M67
      refine own_st st67 ?_
      clear P66 Y66 N67 eh66 X67 M67 st67
      show own_Go p e below _ T67 (mkF m 264 #[iv p1, iv p2, iv 3, iv 0, rv aE, rv aR, rv o1, rv e0a, iv 2] [(.int 1)])
      refine own_st (fun _ k => XS.ifNo Y67.here hx rfl (hb hby at_264) rfl (XT.i0_eq_f (by decide)) k) ?_
      show own_Go p e below _ T67 (mkF m 267 #[iv p1, iv p2, iv 3, iv 0, rv aE, rv aR, rv o1, rv e0a, iv 2] [])
      refine own_st (fun _ k => XS.aload Y67.here hx rfl (hb hby at_267) rfl rfl k) ?_
      show own_Go p e below _ T67 (mkF m 269 #[iv p1, iv p2, iv 3, iv 0, rv aE, rv aR, rv o1, rv e0a, iv 2] [(.ref aR)])
      refine own_st (fun _ k => XT.iconstV Y67.here hx rfl (1 : Int32) (hb hby at_269) (by decide) k) ?_
      show own_Go p e below _ T67 (mkF m 270 #[iv p1, iv p2, iv 3, iv 0, rv aE, rv aR, rv o1, rv e0a, iv 2] [(.int 1), (.ref aR)])
      refine own_st (fun _ k => XS.iload Y67.here hx rfl (hb hby at_270) rfl k) ?_
      show own_Go p e below _ T67 (mkF m 272 #[iv p1, iv p2, iv 3, iv 0, rv aE, rv aR, rv o1, rv e0a, iv 2] [(.int 2), (.int 1), (.ref aR)])
      obtain ⟨_, T68, L68, X68, hQ68, st68⟩ := own_gotS (Jvm.LawKit.callS Y67 hx (y := (⟨"com/example/recency/recency/RecencyListRemovePinLaw", "linked", "([Lcom/example/recency/recency/RecencyListRemovePinLaw;II)Z"⟩ : MethodName)) hown (mvT hZ (hw _ (List.mem_of_getElem? (i := 53) rfl))) (mvT hZ (hw _ (List.mem_of_getElem? (i := 54) rfl))) (mvT hZ (hw _ (List.mem_of_getElem? (i := 4) rfl))) (mvT hZ (hw _ (List.mem_of_getElem? (i := 55) rfl))) (by decide) (backOf (W := 0) (own_rm_lk12 l Z a0 hw [] aR k_aR e2a e1a .null h63 n0 Z63 V63_aR F63_previous_e2a F63_next_e2a) hZ (hw _ (List.mem_of_getElem? (i := 55) rfl)) (hw _ (List.mem_of_getElem? (i := 4) rfl)) (by decide) (by decide)) (g := (mkF m 272 #[iv p1, iv p2, iv 3, iv 0, rv aE, rv aR, rv o1, rv e0a, iv 2] [(.int 2), (.int 1), (.ref aR)])) rfl (by rw [hml]; rfl) (argsL := [(.ref aR), (.int (1 : Int32)), (.int (2 : Int32))]) (rest := []) (lenOf own_pd3 rfl) rfl (by show 2 * 0 + _ ≤ _; exact Nat.le_of_eq rfl) (hb hby at_272) (fun _ _ => ⟨rfl, eh67, (by decide : 7 + 0 ≤ _), (by decide : 17 + 0 ≤ _)⟩))
      replace X68 := own_num X68 (k' := 7) (n' := 17) rfl rfl
      obtain ⟨rfl, N68, eh68⟩ := hQ68
      have M68 := Fr.app P67 N68
      obtain ⟨lc68, Y68, P68⟩ := own_hide X68 M68
      refine own_st st68 ?_
      clear P67 Y67 N68 eh67 X68 M68 st68
      show own_Go p e below _ T68 (mkF m 275 #[iv p1, iv p2, iv 3, iv 0, rv aE, rv aR, rv o1, rv e0a, iv 2] [(.int 1)])
      refine own_st (fun _ k => XS.ifNo Y68.here hx rfl (hb hby at_275) rfl (XT.i0_eq_f (by decide)) k) ?_
      show own_Go p e below _ T68 (mkF m 278 #[iv p1, iv p2, iv 3, iv 0, rv aE, rv aR, rv o1, rv e0a, iv 2] [])
      refine own_st (fun _ k => XS.aload Y68.here hx rfl (hb hby at_278) rfl rfl k) ?_
      show own_Go p e below _ T68 (mkF m 280 #[iv p1, iv p2, iv 3, iv 0, rv aE, rv aR, rv o1, rv e0a, iv 2] [(.ref aR)])
      refine own_st (fun _ k => XT.iconstV Y68.here hx rfl (2 : Int32) (hb hby at_280) (by decide) k) ?_
      show own_Go p e below _ T68 (mkF m 281 #[iv p1, iv p2, iv 3, iv 0, rv aE, rv aR, rv o1, rv e0a, iv 2] [(.int 2), (.ref aR)])
      refine own_st (fun _ k => XS.iload Y68.here hx rfl (hb hby at_281) rfl k) ?_
      show own_Go p e below _ T68 (mkF m 283 #[iv p1, iv p2, iv 3, iv 0, rv aE, rv aR, rv o1, rv e0a, iv 2] [(.int 2), (.int 2), (.ref aR)])
      obtain ⟨_, T69, L69, X69, hQ69, st69⟩ := own_gotS (Jvm.LawKit.callS Y68 hx (y := (⟨"com/example/recency/recency/RecencyListRemovePinLaw", "linked", "([Lcom/example/recency/recency/RecencyListRemovePinLaw;II)Z"⟩ : MethodName)) hown (mvT hZ (hw _ (List.mem_of_getElem? (i := 53) rfl))) (mvT hZ (hw _ (List.mem_of_getElem? (i := 54) rfl))) (mvT hZ (hw _ (List.mem_of_getElem? (i := 4) rfl))) (mvT hZ (hw _ (List.mem_of_getElem? (i := 55) rfl))) (by decide) (backOf (W := 0) (own_rm_lk l Z a0 hw [] aR (2 : Int32) (2 : Int32) h63 n0 Z63 (by decide)) hZ (hw _ (List.mem_of_getElem? (i := 55) rfl)) (hw _ (List.mem_of_getElem? (i := 4) rfl)) (by decide) (by decide)) (g := (mkF m 283 #[iv p1, iv p2, iv 3, iv 0, rv aE, rv aR, rv o1, rv e0a, iv 2] [(.int 2), (.int 2), (.ref aR)])) rfl (by rw [hml]; rfl) (argsL := [(.ref aR), (.int (2 : Int32)), (.int (2 : Int32))]) (rest := []) (lenOf own_pd3 rfl) rfl (by show 2 * 0 + _ ≤ _; exact Nat.le_of_eq rfl) (hb hby at_283) (fun _ _ => ⟨rfl, eh68, (by decide : 7 + 0 ≤ _), (by decide : 17 + 0 ≤ _)⟩))
      replace X69 := own_num X69 (k' := 7) (n' := 17) rfl rfl
      obtain ⟨rfl, N69, eh69⟩ := hQ69
      have M69 := Fr.app P68 N69
      obtain ⟨lc69, Y69, P69⟩ := own_hide X69 M69
      refine own_st st69 ?_
      clear P68 Y68 N69 eh68 X69 M69 st69
      show own_Go p e below _ T69 (mkF m 286 #[iv p1, iv p2, iv 3, iv 0, rv aE, rv aR, rv o1, rv e0a, iv 2] [(.int 1)])
      refine own_st (fun _ k => XS.ifYes Y69.here hx rfl (pc0 := 286) (pc' := 291) rfl (hb hby at_286) rfl (XT.i0_ne_t (by decide)) (by decide) (by decide) k) ?_
      show own_Go p e below _ T69 (mkF m 291 #[iv p1, iv p2, iv 3, iv 0, rv aE, rv aR, rv o1, rv e0a, iv 2] [])
      refine own_st (fun _ k => XS.aload Y69.here hx rfl (hb hby at_291) rfl rfl k) ?_
      show own_Go p e below _ T69 (mkF m 293 #[iv p1, iv p2, iv 3, iv 0, rv aE, rv aR, rv o1, rv e0a, iv 2] [(.ref o1)])
      refine own_st (fun _ k => XS.aload Y69.here hx rfl (hb hby at_293) rfl rfl k) ?_
      show own_Go p e below _ T69 (mkF m 295 #[iv p1, iv p2, iv 3, iv 0, rv aE, rv aR, rv o1, rv e0a, iv 2] [(.ref e0a), (.ref o1)])
      obtain ⟨cq70, kq70, q70a, q70b, q70c⟩ := isOf hZ eh69 E63_o1
      obtain ⟨_, T70, L70, X70, hQ70, st70⟩ := own_gotT (Y69.virtualBack hx (y := (⟨"com/example/recency/recency/RecencyList", "addLast", "(Lcom/example/recency/recency/RecencyList$Link;)V"⟩ : MethodName)) (z := (⟨"com/example/recency/recency/RecencyList", "addLast", "(Lcom/example/recency/recency/RecencyList$Link;)V"⟩ : MethodName)) hown (mvT hZ (hw _ (List.mem_of_getElem? (i := 24) rfl))) (mvT hZ (hw _ (List.mem_of_getElem? (i := 25) rfl))) (notFace_of_selects (args := #[]) (mvT hZ (hw _ (List.mem_of_getElem? (i := 27) rfl)))) (mvT hZ (hw _ (List.mem_of_getElem? (i := 27) rfl))) (mvT hZ (hw _ (List.mem_of_getElem? (i := 26) rfl))) (by decide) (backOf (W := 0) (own_rm_addP l Z a0 hw [] o1 e0a e2a e1a e1a h63 n0 Z63 (S_A.ext O63.2) E63_o1 E63_e2a E63_e0a F63_first_o1 F63_last_o1 F63_previous_e2a F63_next_e2a F63_previous_e0a F63_next_e0a g_o1 g_e2a g_e0a ne_e2a_o1.symm ne_e0a_o1.symm ne_e0a_e2a.symm) hZ (hw _ (List.mem_of_getElem? (i := 28) rfl)) (hw _ (List.mem_of_getElem? (i := 19) rfl)) (by decide) (by decide)) q70a q70c (g := (mkF m 295 #[iv p1, iv p2, iv 3, iv 0, rv aE, rv aR, rv o1, rv e0a, iv 2] [(.ref e0a), (.ref o1)])) rfl (by rw [hml]; rfl) (Steps.refl _) (argsL := [(.ref e0a)]) (rest := []) (lenOf own_pd1 rfl) rfl (by show 2 * 0 + _ ≤ _; exact Nat.le_of_eq rfl) (hb hby at_295) (fun _ _ => ⟨rfl, eh69, (by decide : 7 + 0 ≤ _), (by decide : 17 + 0 ≤ _)⟩))
      replace X70 := own_num X70 (k' := 7) (n' := 17) rfl rfl
      obtain ⟨rfl, N70, KC70, FC70_first_o1, FC70_last_o1, FC70_previous_e2a, FC70_next_e2a, FC70_previous_e0a, FC70_next_e0a⟩ := hQ70
      have M70 := Fr.app P69 N70
      obtain ⟨lc70, Y70, P70⟩ := own_hide X70 M70
      refine own_tr st70 ?_
      clear P69 Y69 N70 eh69 X70 M70 st70
      show own_Go p e below _ T70 (mkF m 298 #[iv p1, iv p2, iv 3, iv 0, rv aE, rv aR, rv o1, rv e0a, iv 2] [])
      have O70 := O63.keep KC70 (allS g_o1 (allS g_e2a (allS g_e0a all0)))
      have V70_aE := V63_aE.keep KC70 (ninS ne_aE_o1 (ninS ne_aE_e2a (ninS ne_aE_e0a nin0)))
      have V70_aR := V63_aR.keep KC70 (ninS ne_aR_o1 (ninS ne_e2a_aR.symm (ninS ne_e0a_aR.symm nin0)))
      have E70_e0a := E63_e0a.keep KC70
      have E70_e1a := E63_e1a.keep KC70
      have E70_e2a := E63_e2a.keep KC70
      have E70_e3a := E63_e3a.keep KC70
      have E70_o1 := E63_o1.keep KC70
      have F70_previous_e1a := F63_previous_e1a.keep KC70 (ninS ne_e1a_o1 (ninS ne_e1a_e2a (ninS ne_e0a_e1a.symm nin0)))
      have F70_next_e1a := F63_next_e1a.keep KC70 (ninS ne_e1a_o1 (ninS ne_e1a_e2a (ninS ne_e0a_e1a.symm nin0)))
      have F70_previous_e3a := F63_previous_e3a.keep KC70 (ninS ne_e3a_o1 (ninS ne_e2a_e3a.symm (ninS ne_e0a_e3a.symm nin0)))
      have F70_next_e3a := F63_next_e3a.keep KC70 (ninS ne_e3a_o1 (ninS ne_e2a_e3a.symm (ninS ne_e0a_e3a.symm nin0)))
      have Z70 : n0 ≤ T70.heap.size := Nat.le_trans Z63 KC70.1
      clear O63 Z63 V63_aE V63_aR E63_e0a E63_e1a E63_e2a E63_e3a E63_o1 F63_previous_e0a F63_next_e0a F63_previous_e1a F63_next_e1a F63_previous_e2a F63_next_e2a F63_previous_e3a F63_next_e3a F63_first_o1 F63_last_o1 KC70
      refine own_st (fun _ k => XS.iload Y70.here hx rfl (hb hby at_298) rfl k) ?_
      show own_Go p e below _ T70 (mkF m 300 #[iv p1, iv p2, iv 3, iv 0, rv aE, rv aR, rv o1, rv e0a, iv 2] [(.int 2)])
      refine own_st (fun _ k => XS.ifYes Y70.here hx rfl (pc0 := 300) (pc' := 335) rfl (hb hby at_300) rfl (XT.i0_ne_t (by decide)) (by decide) (by decide) k) ?_
      show own_Go p e below _ T70 (mkF m 335 #[iv p1, iv p2, iv 3, iv 0, rv aE, rv aR, rv o1, rv e0a, iv 2] [])
      refine own_st (fun _ k => XS.aload Y70.here hx rfl (hb hby at_335) rfl rfl k) ?_
      show own_Go p e below _ T70 (mkF m 337 #[iv p1, iv p2, iv 3, iv 0, rv aE, rv aR, rv o1, rv e0a, iv 2] [(.ref o1)])
      obtain ⟨cq71, kq71, q71a, q71b, q71c⟩ := isOf hZ rfl E70_o1
      obtain ⟨_, T71, L71, X71, hQ71, st71⟩ := own_gotT (Y70.virtualBack hx (y := (⟨"com/example/recency/recency/RecencyList", "first", "()Lcom/example/recency/recency/RecencyList$Link;"⟩ : MethodName)) (z := (⟨"com/example/recency/recency/RecencyList", "first", "()Lcom/example/recency/recency/RecencyList$Link;"⟩ : MethodName)) hown (mvT hZ (hw _ (List.mem_of_getElem? (i := 48) rfl))) (mvT hZ (hw _ (List.mem_of_getElem? (i := 49) rfl))) (notFace_of_selects (args := #[]) (mvT hZ (hw _ (List.mem_of_getElem? (i := 51) rfl)))) (mvT hZ (hw _ (List.mem_of_getElem? (i := 51) rfl))) (mvT hZ (hw _ (List.mem_of_getElem? (i := 50) rfl))) (by decide) (backOf (W := 0) (own_rm_fst l Z a0 hw [] o1 (.ref e1a) T70.heap n0 Z70 rfl FC70_first_o1) hZ (hw _ (List.mem_of_getElem? (i := 52) rfl)) (hw _ (List.mem_of_getElem? (i := 19) rfl)) (by decide) (by decide)) q71a q71c (g := (mkF m 337 #[iv p1, iv p2, iv 3, iv 0, rv aE, rv aR, rv o1, rv e0a, iv 2] [(.ref o1)])) rfl (by rw [hml]; rfl) (Steps.refl _) (argsL := []) (rest := []) (lenOf own_pd2 rfl) rfl (by show 2 * 0 + _ ≤ _; exact Nat.le_of_eq rfl) (hb hby at_337) (fun _ _ => ⟨rfl, rfl, (by decide : 7 + 0 ≤ _), (by decide : 17 + 0 ≤ _)⟩))
      replace X71 := own_num X71 (k' := 7) (n' := 17) rfl rfl
      obtain ⟨rfl, N71, eh71⟩ := hQ71
      have M71 := Fr.app P70 N71
      obtain ⟨lc71, Y71, P71⟩ := own_hide X71 M71
      refine own_tr st71 ?_
      clear P70 Y70 N71 X71 M71 st71
      show own_Go p e below _ T71 (mkF m 340 #[iv p1, iv p2, iv 3, iv 0, rv aE, rv aR, rv o1, rv e0a, iv 2] [(.ref e1a)])
      refine own_st (fun _ k => XS.aload Y71.here hx rfl (hb hby at_340) rfl rfl k) ?_
      show own_Go p e below _ T71 (mkF m 342 #[iv p1, iv p2, iv 3, iv 0, rv aE, rv aR, rv o1, rv e0a, iv 2] [(.ref aR), (.ref e1a)])
      refine own_st (fun _ k => XT.iconstV Y71.here hx rfl (0 : Int32) (hb hby at_342) (by decide) k) ?_
      show own_Go p e below _ T71 (mkF m 343 #[iv p1, iv p2, iv 3, iv 0, rv aE, rv aR, rv o1, rv e0a, iv 2] [(.int 0), (.ref aR), (.ref e1a)])
      refine own_st (fun _ k => own_ldR Y71 hx hZ eh71 V70_aR rfl ⟨by decide, by decide⟩ (v := (.ref e1a)) rfl rfl rfl (hb hby at_343) k) ?_
      show own_Go p e below _ T71 (mkF m 344 #[iv p1, iv p2, iv 3, iv 0, rv aE, rv aR, rv o1, rv e0a, iv 2] [(.ref e1a), (.ref e1a)])
      refine own_st (fun _ k => XT.acmpNo Y71.here hx rfl (hb hby at_344) rfl rfl rfl (XT.aa_ne_f rfl) k) ?_
      show own_Go p e below _ T71 (mkF m 347 #[iv p1, iv p2, iv 3, iv 0, rv aE, rv aR, rv o1, rv e0a, iv 2] [])
      refine own_st (fun _ k => XS.aload Y71.here hx rfl (hb hby at_347) rfl rfl k) ?_
      show own_Go p e below _ T71 (mkF m 349 #[iv p1, iv p2, iv 3, iv 0, rv aE, rv aR, rv o1, rv e0a, iv 2] [(.ref e0a)])
      obtain ⟨T72, X72, e72, st72⟩ := getF Y71 hx hZ hown (host := "") (Or.inl (hw _ (List.mem_of_getElem? (i := 44) rfl))) (Via.of (hw _ (List.mem_of_getElem? (i := 45) rfl))) eh71 FC70_previous_e0a (g := (mkF m 349 #[iv p1, iv p2, iv 3, iv 0, rv aE, rv aR, rv o1, rv e0a, iv 2] [(.ref e0a)])) rfl rfl (hb hby at_349)
      clear Y71 eh71
      refine own_st st72 ?_
      clear st72
      show own_Go p e below _ T72 (mkF m 352 #[iv p1, iv p2, iv 3, iv 0, rv aE, rv aR, rv o1, rv e0a, iv 2] [(.ref e2a)])
      refine own_st (fun _ k => XS.aload X72.here hx rfl (hb hby at_352) rfl rfl k) ?_
      show own_Go p e below _ T72 (mkF m 354 #[iv p1, iv p2, iv 3, iv 0, rv aE, rv aR, rv o1, rv e0a, iv 2] [(.ref aR), (.ref e2a)])
      refine own_st (fun _ k => XS.iload X72.here hx rfl (hb hby at_354) rfl k) ?_
      show own_Go p e below _ T72 (mkF m 356 #[iv p1, iv p2, iv 3, iv 0, rv aE, rv aR, rv o1, rv e0a, iv 2] [(.int 2), (.ref aR), (.ref e2a)])
      refine own_st (fun _ k => XT.iconstV X72.here hx rfl (1 : Int32) (hb hby at_356) (by decide) k) ?_
      show own_Go p e below _ T72 (mkF m 357 #[iv p1, iv p2, iv 3, iv 0, rv aE, rv aR, rv o1, rv e0a, iv 2] [(.int 1), (.int 2), (.ref aR), (.ref e2a)])
      refine own_st (fun _ k => XS.isub X72.here hx rfl (hb hby at_357) rfl k) ?_
      show own_Go p e below _ T72 (mkF m 358 #[iv p1, iv p2, iv 3, iv 0, rv aE, rv aR, rv o1, rv e0a, iv 2] [(.int (2 - 1)), (.ref aR), (.ref e2a)])
      rw [show ((2 : Int32) - (1 : Int32)) = (1 : Int32) from by decide]
      show own_Go p e below _ T72 (mkF m 358 #[iv p1, iv p2, iv 3, iv 0, rv aE, rv aR, rv o1, rv e0a, iv 2] [(.int 1), (.ref aR), (.ref e2a)])
      refine own_st (fun _ k => own_ldR X72 hx hZ e72 V70_aR rfl ⟨by decide, by decide⟩ (v := (.ref e2a)) rfl rfl rfl (hb hby at_358) k) ?_
      show own_Go p e below _ T72 (mkF m 359 #[iv p1, iv p2, iv 3, iv 0, rv aE, rv aR, rv o1, rv e0a, iv 2] [(.ref e2a), (.ref e2a)])
      refine own_st (fun _ k => XT.acmpNo X72.here hx rfl (hb hby at_359) rfl rfl rfl (XT.aa_ne_f rfl) k) ?_
      show own_Go p e below _ T72 (mkF m 362 #[iv p1, iv p2, iv 3, iv 0, rv aE, rv aR, rv o1, rv e0a, iv 2] [])
      refine own_st (fun _ k => XS.aload X72.here hx rfl (hb hby at_362) rfl rfl k) ?_
      show own_Go p e below _ T72 (mkF m 364 #[iv p1, iv p2, iv 3, iv 0, rv aE, rv aR, rv o1, rv e0a, iv 2] [(.ref aR)])
      refine own_st (fun _ k => XS.iload X72.here hx rfl (hb hby at_364) rfl k) ?_
      show own_Go p e below _ T72 (mkF m 366 #[iv p1, iv p2, iv 3, iv 0, rv aE, rv aR, rv o1, rv e0a, iv 2] [(.int 2), (.ref aR)])
      refine own_st (fun _ k => XT.iconstV X72.here hx rfl (1 : Int32) (hb hby at_366) (by decide) k) ?_
      show own_Go p e below _ T72 (mkF m 367 #[iv p1, iv p2, iv 3, iv 0, rv aE, rv aR, rv o1, rv e0a, iv 2] [(.int 1), (.int 2), (.ref aR)])
      refine own_st (fun _ k => XS.isub X72.here hx rfl (hb hby at_367) rfl k) ?_
      show own_Go p e below _ T72 (mkF m 368 #[iv p1, iv p2, iv 3, iv 0, rv aE, rv aR, rv o1, rv e0a, iv 2] [(.int (2 - 1)), (.ref aR)])
      rw [show ((2 : Int32) - (1 : Int32)) = (1 : Int32) from by decide]
      show own_Go p e below _ T72 (mkF m 368 #[iv p1, iv p2, iv 3, iv 0, rv aE, rv aR, rv o1, rv e0a, iv 2] [(.int 1), (.ref aR)])
      refine own_st (fun _ k => own_ldR X72 hx hZ e72 V70_aR rfl ⟨by decide, by decide⟩ (v := (.ref e2a)) rfl rfl rfl (hb hby at_368) k) ?_
      show own_Go p e below _ T72 (mkF m 369 #[iv p1, iv p2, iv 3, iv 0, rv aE, rv aR, rv o1, rv e0a, iv 2] [(.ref e2a)])
      obtain ⟨T73, X73, e73, st73⟩ := getF X72 hx hZ hown (host := "") (Or.inl (hw _ (List.mem_of_getElem? (i := 46) rfl))) (Via.of (hw _ (List.mem_of_getElem? (i := 47) rfl))) e72 FC70_next_e2a (g := (mkF m 369 #[iv p1, iv p2, iv 3, iv 0, rv aE, rv aR, rv o1, rv e0a, iv 2] [(.ref e2a)])) rfl rfl (hb hby at_369)
      clear X72 e72
      refine own_st st73 ?_
      clear st73
      show own_Go p e below _ T73 (mkF m 372 #[iv p1, iv p2, iv 3, iv 0, rv aE, rv aR, rv o1, rv e0a, iv 2] [(.ref e0a)])
      refine own_st (fun _ k => XS.aload X73.here hx rfl (hb hby at_372) rfl rfl k) ?_
      show own_Go p e below _ T73 (mkF m 374 #[iv p1, iv p2, iv 3, iv 0, rv aE, rv aR, rv o1, rv e0a, iv 2] [(.ref e0a), (.ref e0a)])
      refine own_st (fun _ k => XT.acmpNo X73.here hx rfl (hb hby at_374) rfl rfl rfl (XT.aa_ne_f rfl) k) ?_
      show own_Go p e below _ T73 (mkF m 377 #[iv p1, iv p2, iv 3, iv 0, rv aE, rv aR, rv o1, rv e0a, iv 2] [])
      refine own_st (fun _ k => XS.aload X73.here hx rfl (hb hby at_377) rfl rfl k) ?_
      show own_Go p e below _ T73 (mkF m 379 #[iv p1, iv p2, iv 3, iv 0, rv aE, rv aR, rv o1, rv e0a, iv 2] [(.ref e0a)])
      obtain ⟨T74, X74, e74, st74⟩ := getF X73 hx hZ hown (host := "") (Or.inl (hw _ (List.mem_of_getElem? (i := 46) rfl))) (Via.of (hw _ (List.mem_of_getElem? (i := 47) rfl))) e73 FC70_next_e0a (g := (mkF m 379 #[iv p1, iv p2, iv 3, iv 0, rv aE, rv aR, rv o1, rv e0a, iv 2] [(.ref e0a)])) rfl rfl (hb hby at_379)
      clear X73 e73
      refine own_st st74 ?_
      clear st74
      show own_Go p e below _ T74 (mkF m 382 #[iv p1, iv p2, iv 3, iv 0, rv aE, rv aR, rv o1, rv e0a, iv 2] [.null])
      refine own_st (fun _ k => XT.ifnonnullNo X74.here hx rfl (hb hby at_382) rfl k) ?_
      show own_Go p e below _ T74 (mkF m 385 #[iv p1, iv p2, iv 3, iv 0, rv aE, rv aR, rv o1, rv e0a, iv 2] [])
      refine own_st (fun _ k => XT.iconstV X74.here hx rfl (1 : Int32) (hb hby at_385) (by decide) k) ?_
      show own_Go p e below _ T74 (mkF m 386 #[iv p1, iv p2, iv 3, iv 0, rv aE, rv aR, rv o1, rv e0a, iv 2] [(.int 1)])
      refine own_st (fun _ k => XS.goto X74.here hx rfl (pc0 := 386) (pc' := 390) rfl (hb hby at_386) (by decide) (by decide) k) ?_
      show own_Go p e below _ T74 (mkF m 390 #[iv p1, iv p2, iv 3, iv 0, rv aE, rv aR, rv o1, rv e0a, iv 2] [(.int 1)])
      refine own_retN X74 hx Bd.notSynchronized (t := .boolean) Bd.returns (by simp) (hb hby at_390) (by decide) (by decide) ?_
      rw [e74]
      exact ⟨rfl, P71⟩
    · show own_Go p e below _ T60 (mkF m 132 #[iv p1, iv p2, iv 3, iv 1, rv aE, rv aR, rv o1, .unset, .unset] [(.int 1), (.ref aE)])
      refine own_st (fun _ k => own_ldR Y60 hx hZ rfl V60_aE rfl ⟨by decide, by decide⟩ (v := (.ref e1a)) rfl rfl rfl (hb hby at_132) k) ?_
      show own_Go p e below _ T60 (mkF m 133 #[iv p1, iv p2, iv 3, iv 1, rv aE, rv aR, rv o1, .unset, .unset] [(.ref e1a)])
      refine own_st (fun _ k => XS.astore Y60.here hx rfl (hb hby at_133) rfl rfl (l' := #[iv p1, iv p2, iv 3, iv 1, rv aE, rv aR, rv o1, rv e1a, .unset]) rfl k) ?_
      show own_Go p e below _ T60 (mkF m 135 #[iv p1, iv p2, iv 3, iv 1, rv aE, rv aR, rv o1, rv e1a, .unset] [])
      refine own_st (fun _ k => XS.aload Y60.here hx rfl (hb hby at_135) rfl rfl k) ?_
      show own_Go p e below _ T60 (mkF m 137 #[iv p1, iv p2, iv 3, iv 1, rv aE, rv aR, rv o1, rv e1a, .unset] [(.ref o1)])
      refine own_st (fun _ k => XS.aload Y60.here hx rfl (hb hby at_137) rfl rfl k) ?_
      show own_Go p e below _ T60 (mkF m 139 #[iv p1, iv p2, iv 3, iv 1, rv aE, rv aR, rv o1, rv e1a, .unset] [(.ref e1a), (.ref o1)])
      obtain ⟨cq76, kq76, q76a, q76b, q76c⟩ := isOf hZ rfl E60_o1
      obtain ⟨_, T76, L76, X76, hQ76, st76⟩ := own_gotT (Y60.virtualBack hx (y := (⟨"com/example/recency/recency/RecencyList", "remove", "(Lcom/example/recency/recency/RecencyList$Link;)V"⟩ : MethodName)) (z := (⟨"com/example/recency/recency/RecencyList", "remove", "(Lcom/example/recency/recency/RecencyList$Link;)V"⟩ : MethodName)) hown (mvT hZ (hw _ (List.mem_of_getElem? (i := 35) rfl))) (mvT hZ (hw _ (List.mem_of_getElem? (i := 36) rfl))) (notFace_of_selects (args := #[]) (mvT hZ (hw _ (List.mem_of_getElem? (i := 38) rfl)))) (mvT hZ (hw _ (List.mem_of_getElem? (i := 38) rfl))) (mvT hZ (hw _ (List.mem_of_getElem? (i := 37) rfl))) (by decide) (backOf (W := 0) (own_rm_rem1100 l Z a0 hw [] o1 e1a e0a e2a e0a e2a T60.heap n0 Z60 (S_A.ext O60.2) E60_o1 E60_e1a E60_e0a E60_e2a FC60_first_o1 FC60_last_o1 FC60_previous_e1a FC60_next_e1a F60_previous_e0a F60_next_e0a FC60_previous_e2a FC60_next_e2a g_o1 g_e1a g_e0a g_e2a ne_e1a_o1.symm ne_e0a_o1.symm ne_e2a_o1.symm ne_e0a_e1a.symm ne_e1a_e2a ne_e0a_e2a) hZ (hw _ (List.mem_of_getElem? (i := 39) rfl)) (hw _ (List.mem_of_getElem? (i := 19) rfl)) (by decide) (by decide)) q76a q76c (g := (mkF m 139 #[iv p1, iv p2, iv 3, iv 1, rv aE, rv aR, rv o1, rv e1a, .unset] [(.ref e1a), (.ref o1)])) rfl (by rw [hml]; rfl) (Steps.refl _) (argsL := [(.ref e1a)]) (rest := []) (lenOf own_pd1 rfl) rfl (by show 2 * 0 + _ ≤ _; exact Nat.le_of_eq rfl) (hb hby at_139) (fun _ _ => ⟨rfl, rfl, (by decide : 7 + 0 ≤ _), (by decide : 17 + 0 ≤ _)⟩))
      replace X76 := own_num X76 (k' := 7) (n' := 17) rfl rfl
      obtain ⟨rfl, N76, KC76, FC76_first_o1, FC76_last_o1, FC76_previous_e1a, FC76_next_e1a, FC76_previous_e0a, FC76_next_e0a, FC76_previous_e2a, FC76_next_e2a⟩ := hQ76
      have M76 := Fr.app P60 N76
      obtain ⟨lc76, Y76, P76⟩ := own_hide X76 M76
      refine own_tr st76 ?_
      clear P60 Y60 N76 X76 M76 st76
      show own_Go p e below _ T76 (mkF m 142 #[iv p1, iv p2, iv 3, iv 1, rv aE, rv aR, rv o1, rv e1a, .unset] [])
      have O76 := O60.keep KC76 (allS g_o1 (allS g_e1a (allS g_e0a (allS g_e2a all0))))
      have V76_aE := V60_aE.keep KC76 (ninS ne_aE_o1 (ninS ne_aE_e1a (ninS ne_aE_e0a (ninS ne_aE_e2a nin0))))
      have V76_aR := V60_aR.keep KC76 (ninS ne_aR_o1 (ninS ne_e1a_aR.symm (ninS ne_e0a_aR.symm (ninS ne_e2a_aR.symm nin0))))
      have E76_e0a := E60_e0a.keep KC76
      have E76_e1a := E60_e1a.keep KC76
      have E76_e2a := E60_e2a.keep KC76
      have E76_e3a := E60_e3a.keep KC76
      have E76_o1 := E60_o1.keep KC76
      have F76_previous_e3a := F60_previous_e3a.keep KC76 (ninS ne_e3a_o1 (ninS ne_e1a_e3a.symm (ninS ne_e0a_e3a.symm (ninS ne_e2a_e3a.symm nin0))))
      have F76_next_e3a := F60_next_e3a.keep KC76 (ninS ne_e3a_o1 (ninS ne_e1a_e3a.symm (ninS ne_e0a_e3a.symm (ninS ne_e2a_e3a.symm nin0))))
      have Z76 : n0 ≤ T76.heap.size := Nat.le_trans Z60 KC76.1
      clear O60 Z60 V60_aE V60_aR E60_e0a E60_e1a E60_e2a E60_e3a E60_o1 F60_previous_e0a F60_next_e0a FC60_previous_e1a FC60_next_e1a FC60_previous_e2a FC60_next_e2a F60_previous_e3a F60_next_e3a FC60_first_o1 FC60_last_o1 KC76
      refine own_st (fun _ k => XS.iloadN Y76.here hx rfl (hb hby at_142) rfl k) ?_
      show own_Go p e below _ T76 (mkF m 143 #[iv p1, iv p2, iv 3, iv 1, rv aE, rv aR, rv o1, rv e1a, .unset] [(.int 3)])
      refine own_st (fun _ k => XT.iconstV Y76.here hx rfl (1 : Int32) (hb hby at_143) (by decide) k) ?_
      show own_Go p e below _ T76 (mkF m 144 #[iv p1, iv p2, iv 3, iv 1, rv aE, rv aR, rv o1, rv e1a, .unset] [(.int 1), (.int 3)])
      refine own_st (fun _ k => XS.isub Y76.here hx rfl (hb hby at_144) rfl k) ?_
      show own_Go p e below _ T76 (mkF m 145 #[iv p1, iv p2, iv 3, iv 1, rv aE, rv aR, rv o1, rv e1a, .unset] [(.int (3 - 1))])
      refine own_st (fun _ k => XS.istore Y76.here hx rfl (hb hby at_145) rfl (l' := #[iv p1, iv p2, iv 3, iv 1, rv aE, rv aR, rv o1, rv e1a, iv (3 - 1)]) rfl k) ?_
      show own_Go p e below _ T76 (mkF m 147 #[iv p1, iv p2, iv 3, iv 1, rv aE, rv aR, rv o1, rv e1a, iv (3 - 1)] [])
      refine own_st (fun _ k => XS.iload Y76.here hx rfl (hb hby at_147) rfl k) ?_
      show own_Go p e below _ T76 (mkF m 149 #[iv p1, iv p2, iv 3, iv 1, rv aE, rv aR, rv o1, rv e1a, iv (3 - 1)] [(.int (3 - 1))])
      rw [show ((3 : Int32) - (1 : Int32)) = (2 : Int32) from by decide]
      show own_Go p e below _ T76 (mkF m 149 #[iv p1, iv p2, iv 3, iv 1, rv aE, rv aR, rv o1, rv e1a, iv 2] [(.int 2)])
      refine own_st (fun _ k => XS.ifNo Y76.here hx rfl (hb hby at_149) rfl (XT.i0_le_f (by decide)) k) ?_
      show own_Go p e below _ T76 (mkF m 152 #[iv p1, iv p2, iv 3, iv 1, rv aE, rv aR, rv o1, rv e1a, iv 2] [])
      refine own_st (fun _ k => XS.aload Y76.here hx rfl (hb hby at_152) rfl rfl k) ?_
      show own_Go p e below _ T76 (mkF m 154 #[iv p1, iv p2, iv 3, iv 1, rv aE, rv aR, rv o1, rv e1a, iv 2] [(.ref aR)])
      refine own_st (fun _ k => XT.iconstV Y76.here hx rfl (0 : Int32) (hb hby at_154) (by decide) k) ?_
      show own_Go p e below _ T76 (mkF m 155 #[iv p1, iv p2, iv 3, iv 1, rv aE, rv aR, rv o1, rv e1a, iv 2] [(.int 0), (.ref aR)])
      refine own_st (fun _ k => XS.aload Y76.here hx rfl (hb hby at_155) rfl rfl k) ?_
      show own_Go p e below _ T76 (mkF m 157 #[iv p1, iv p2, iv 3, iv 1, rv aE, rv aR, rv o1, rv e1a, iv 2] [(.ref aE), (.int 0), (.ref aR)])
      refine own_st (fun _ k => XT.iconstV Y76.here hx rfl (0 : Int32) (hb hby at_157) (by decide) k) ?_
      show own_Go p e below _ T76 (mkF m 158 #[iv p1, iv p2, iv 3, iv 1, rv aE, rv aR, rv o1, rv e1a, iv 2] [(.int 0), (.ref aE), (.int 0), (.ref aR)])
      refine own_st (fun _ k => XS.iloadN Y76.here hx rfl (hb hby at_158) rfl k) ?_
      show own_Go p e below _ T76 (mkF m 159 #[iv p1, iv p2, iv 3, iv 1, rv aE, rv aR, rv o1, rv e1a, iv 2] [(.int 1), (.int 0), (.ref aE), (.int 0), (.ref aR)])
      refine own_st (fun _ k => XS.icmpNo Y76.here hx rfl (hb hby at_159) rfl (XT.ii_ge_f (by decide)) k) ?_
      show own_Go p e below _ T76 (mkF m 162 #[iv p1, iv p2, iv 3, iv 1, rv aE, rv aR, rv o1, rv e1a, iv 2] [(.ref aE), (.int 0), (.ref aR)])
      refine own_st (fun _ k => XT.iconstV Y76.here hx rfl (0 : Int32) (hb hby at_162) (by decide) k) ?_
      show own_Go p e below _ T76 (mkF m 163 #[iv p1, iv p2, iv 3, iv 1, rv aE, rv aR, rv o1, rv e1a, iv 2] [(.int 0), (.ref aE), (.int 0), (.ref aR)])
      refine own_st (fun _ k => XS.goto Y76.here hx rfl (pc0 := 163) (pc' := 167) rfl (hb hby at_163) (by decide) (by decide) k) ?_
      show own_Go p e below _ T76 (mkF m 167 #[iv p1, iv p2, iv 3, iv 1, rv aE, rv aR, rv o1, rv e1a, iv 2] [(.int 0), (.ref aE), (.int 0), (.ref aR)])
      refine own_st (fun _ k => own_ldR Y76 hx hZ rfl V76_aE rfl ⟨by decide, by decide⟩ (v := (.ref e0a)) rfl rfl rfl (hb hby at_167) k) ?_
      show own_Go p e below _ T76 (mkF m 168 #[iv p1, iv p2, iv 3, iv 1, rv aE, rv aR, rv o1, rv e1a, iv 2] [(.ref e0a), (.int 0), (.ref aR)])
      obtain ⟨T77, h77, X77, e77, W77, V77, st77⟩ := own_stR Y76 hx hZ rfl V76_aR Ov_aR (Ins.self E76_e0a) (j := (0 : Int32)) ⟨by decide, by decide⟩ 0 rfl (Nat.le_of_ble_eq_true rfl) (g := (mkF m 168 #[iv p1, iv p2, iv 3, iv 1, rv aE, rv aR, rv o1, rv e1a, iv 2] [(.ref e0a), (.int 0), (.ref aR)])) rfl rfl (hb hby at_168)
      have V77_aR : Arv Z h77 aR k_aR (.object "com/example/recency/recency/RecencyListRemovePinLaw") (3 : Int32) [(.ref e0a), .null, .null] .null := V77
      have O77 := O76.wr W77 g_aR
      have V77_aE := V76_aE.other W77 ne_aE_aR
      have E77_e0a := E76_e0a.wr W77
      have E77_e1a := E76_e1a.wr W77
      have E77_e2a := E76_e2a.wr W77
      have E77_e3a := E76_e3a.wr W77
      have E77_o1 := E76_o1.wr W77
      have F77_previous_e0a := FC76_previous_e0a.other W77 (Or.inl ne_e0a_aR)
      have F77_next_e0a := FC76_next_e0a.other W77 (Or.inl ne_e0a_aR)
      have F77_previous_e1a := FC76_previous_e1a.other W77 (Or.inl ne_e1a_aR)
      have F77_next_e1a := FC76_next_e1a.other W77 (Or.inl ne_e1a_aR)
      have F77_previous_e2a := FC76_previous_e2a.other W77 (Or.inl ne_e2a_aR)
      have F77_next_e2a := FC76_next_e2a.other W77 (Or.inl ne_e2a_aR)
      have F77_previous_e3a := F76_previous_e3a.other W77 (Or.inl ne_e3a_aR)
      have F77_next_e3a := F76_next_e3a.other W77 (Or.inl ne_e3a_aR)
      have F77_first_o1 := FC76_first_o1.other W77 (Or.inl ne_aR_o1.symm)
      have F77_last_o1 := FC76_last_o1.other W77 (Or.inl ne_aR_o1.symm)
      have Z77 : n0 ≤ h77.size := by rw [W77.size]; exact Z76
      clear O76 Z76 V76_aE E76_e0a E76_e1a E76_e2a E76_e3a E76_o1 FC76_previous_e0a FC76_next_e0a FC76_previous_e1a FC76_next_e1a FC76_previous_e2a FC76_next_e2a F76_previous_e3a F76_next_e3a FC76_first_o1 FC76_last_o1 V76_aR W77
      have N77 := Fr.snoc X77 P76 g_aR
      obtain ⟨lc77, Y77, P77⟩ := own_hide X77 N77
      clear X77 N77
      clear Y76
      refine own_st st77 ?_
      clear st77
      show own_Go p e below _ T77 (mkF m 169 #[iv p1, iv p2, iv 3, iv 1, rv aE, rv aR, rv o1, rv e1a, iv 2] [])
      refine own_st (fun _ k => XS.iload Y77.here hx rfl (hb hby at_169) rfl k) ?_
      show own_Go p e below _ T77 (mkF m 171 #[iv p1, iv p2, iv 3, iv 1, rv aE, rv aR, rv o1, rv e1a, iv 2] [(.int 2)])
      refine own_st (fun _ k => XT.iconstV Y77.here hx rfl (1 : Int32) (hb hby at_171) (by decide) k) ?_
      show own_Go p e below _ T77 (mkF m 172 #[iv p1, iv p2, iv 3, iv 1, rv aE, rv aR, rv o1, rv e1a, iv 2] [(.int 1), (.int 2)])
      refine own_st (fun _ k => XS.icmpNo Y77.here hx rfl (hb hby at_172) rfl (XT.ii_le_f (by decide)) k) ?_
      show own_Go p e below _ T77 (mkF m 175 #[iv p1, iv p2, iv 3, iv 1, rv aE, rv aR, rv o1, rv e1a, iv 2] [])
      refine own_st (fun _ k => XS.aload Y77.here hx rfl (hb hby at_175) rfl rfl k) ?_
      show own_Go p e below _ T77 (mkF m 177 #[iv p1, iv p2, iv 3, iv 1, rv aE, rv aR, rv o1, rv e1a, iv 2] [(.ref aR)])
      refine own_st (fun _ k => XT.iconstV Y77.here hx rfl (1 : Int32) (hb hby at_177) (by decide) k) ?_
      show own_Go p e below _ T77 (mkF m 178 #[iv p1, iv p2, iv 3, iv 1, rv aE, rv aR, rv o1, rv e1a, iv 2] [(.int 1), (.ref aR)])
      refine own_st (fun _ k => XS.aload Y77.here hx rfl (hb hby at_178) rfl rfl k) ?_
      show own_Go p e below _ T77 (mkF m 180 #[iv p1, iv p2, iv 3, iv 1, rv aE, rv aR, rv o1, rv e1a, iv 2] [(.ref aE), (.int 1), (.ref aR)])
      refine own_st (fun _ k => XT.iconstV Y77.here hx rfl (1 : Int32) (hb hby at_180) (by decide) k) ?_
      show own_Go p e below _ T77 (mkF m 181 #[iv p1, iv p2, iv 3, iv 1, rv aE, rv aR, rv o1, rv e1a, iv 2] [(.int 1), (.ref aE), (.int 1), (.ref aR)])
      refine own_st (fun _ k => XS.iloadN Y77.here hx rfl (hb hby at_181) rfl k) ?_
      show own_Go p e below _ T77 (mkF m 182 #[iv p1, iv p2, iv 3, iv 1, rv aE, rv aR, rv o1, rv e1a, iv 2] [(.int 1), (.int 1), (.ref aE), (.int 1), (.ref aR)])
      refine own_st (fun _ k => XS.icmpYes Y77.here hx rfl (pc0 := 182) (pc' := 189) rfl (hb hby at_182) rfl (XT.ii_ge_t (by decide)) (by decide) (by decide) k) ?_
      show own_Go p e below _ T77 (mkF m 189 #[iv p1, iv p2, iv 3, iv 1, rv aE, rv aR, rv o1, rv e1a, iv 2] [(.ref aE), (.int 1), (.ref aR)])
      refine own_st (fun _ k => XT.iconstV Y77.here hx rfl (2 : Int32) (hb hby at_189) (by decide) k) ?_
      show own_Go p e below _ T77 (mkF m 190 #[iv p1, iv p2, iv 3, iv 1, rv aE, rv aR, rv o1, rv e1a, iv 2] [(.int 2), (.ref aE), (.int 1), (.ref aR)])
      refine own_st (fun _ k => own_ldR Y77 hx hZ e77 V77_aE rfl ⟨by decide, by decide⟩ (v := (.ref e2a)) rfl rfl rfl (hb hby at_190) k) ?_
      show own_Go p e below _ T77 (mkF m 191 #[iv p1, iv p2, iv 3, iv 1, rv aE, rv aR, rv o1, rv e1a, iv 2] [(.ref e2a), (.int 1), (.ref aR)])
      obtain ⟨T78, h78, X78, e78, W78, V78, st78⟩ := own_stR Y77 hx hZ e77 V77_aR Ov_aR (Ins.self E77_e2a) (j := (1 : Int32)) ⟨by decide, by decide⟩ 1 rfl (Nat.le_of_ble_eq_true rfl) (g := (mkF m 191 #[iv p1, iv p2, iv 3, iv 1, rv aE, rv aR, rv o1, rv e1a, iv 2] [(.ref e2a), (.int 1), (.ref aR)])) rfl rfl (hb hby at_191)
      have V78_aR : Arv Z h78 aR k_aR (.object "com/example/recency/recency/RecencyListRemovePinLaw") (3 : Int32) [(.ref e0a), (.ref e2a), .null] .null := V78
      have O78 := O77.wr W78 g_aR
      have V78_aE := V77_aE.other W78 ne_aE_aR
      have E78_e0a := E77_e0a.wr W78
      have E78_e1a := E77_e1a.wr W78
      have E78_e2a := E77_e2a.wr W78
      have E78_e3a := E77_e3a.wr W78
      have E78_o1 := E77_o1.wr W78
      have F78_previous_e0a := F77_previous_e0a.other W78 (Or.inl ne_e0a_aR)
      have F78_next_e0a := F77_next_e0a.other W78 (Or.inl ne_e0a_aR)
      have F78_previous_e1a := F77_previous_e1a.other W78 (Or.inl ne_e1a_aR)
      have F78_next_e1a := F77_next_e1a.other W78 (Or.inl ne_e1a_aR)
      have F78_previous_e2a := F77_previous_e2a.other W78 (Or.inl ne_e2a_aR)
      have F78_next_e2a := F77_next_e2a.other W78 (Or.inl ne_e2a_aR)
      have F78_previous_e3a := F77_previous_e3a.other W78 (Or.inl ne_e3a_aR)
      have F78_next_e3a := F77_next_e3a.other W78 (Or.inl ne_e3a_aR)
      have F78_first_o1 := F77_first_o1.other W78 (Or.inl ne_aR_o1.symm)
      have F78_last_o1 := F77_last_o1.other W78 (Or.inl ne_aR_o1.symm)
      have Z78 : n0 ≤ h78.size := by rw [W78.size]; exact Z77
      clear O77 Z77 V77_aE E77_e0a E77_e1a E77_e2a E77_e3a E77_o1 F77_previous_e0a F77_next_e0a F77_previous_e1a F77_next_e1a F77_previous_e2a F77_next_e2a F77_previous_e3a F77_next_e3a F77_first_o1 F77_last_o1 V77_aR W78
      have N78 := Fr.snoc X78 P77 g_aR
      obtain ⟨lc78, Y78, P78⟩ := own_hide X78 N78
      clear X78 N78
      clear Y77 e77
      refine own_st st78 ?_
      clear st78
      show own_Go p e below _ T78 (mkF m 192 #[iv p1, iv p2, iv 3, iv 1, rv aE, rv aR, rv o1, rv e1a, iv 2] [])
      refine own_st (fun _ k => XS.iload Y78.here hx rfl (hb hby at_192) rfl k) ?_
      show own_Go p e below _ T78 (mkF m 194 #[iv p1, iv p2, iv 3, iv 1, rv aE, rv aR, rv o1, rv e1a, iv 2] [(.int 2)])
      refine own_st (fun _ k => XT.iconstV Y78.here hx rfl (2 : Int32) (hb hby at_194) (by decide) k) ?_
      show own_Go p e below _ T78 (mkF m 195 #[iv p1, iv p2, iv 3, iv 1, rv aE, rv aR, rv o1, rv e1a, iv 2] [(.int 2), (.int 2)])
      refine own_st (fun _ k => XS.icmpYes Y78.here hx rfl (pc0 := 195) (pc' := 215) rfl (hb hby at_195) rfl (XT.ii_le_t (by decide)) (by decide) (by decide) k) ?_
      show own_Go p e below _ T78 (mkF m 215 #[iv p1, iv p2, iv 3, iv 1, rv aE, rv aR, rv o1, rv e1a, iv 2] [])
      refine own_st (fun _ k => XS.aload Y78.here hx rfl (hb hby at_215) rfl rfl k) ?_
      show own_Go p e below _ T78 (mkF m 217 #[iv p1, iv p2, iv 3, iv 1, rv aE, rv aR, rv o1, rv e1a, iv 2] [(.ref e1a)])
      obtain ⟨T79, X79, e79, st79⟩ := getF Y78 hx hZ hown (host := "") (Or.inl (hw _ (List.mem_of_getElem? (i := 44) rfl))) (Via.of (hw _ (List.mem_of_getElem? (i := 45) rfl))) e78 F78_previous_e1a (g := (mkF m 217 #[iv p1, iv p2, iv 3, iv 1, rv aE, rv aR, rv o1, rv e1a, iv 2] [(.ref e1a)])) rfl rfl (hb hby at_217)
      clear Y78 e78
      refine own_st st79 ?_
      clear st79
      show own_Go p e below _ T79 (mkF m 220 #[iv p1, iv p2, iv 3, iv 1, rv aE, rv aR, rv o1, rv e1a, iv 2] [.null])
      refine own_st (fun _ k => XT.ifnonnullNo X79.here hx rfl (hb hby at_220) rfl k) ?_
      show own_Go p e below _ T79 (mkF m 223 #[iv p1, iv p2, iv 3, iv 1, rv aE, rv aR, rv o1, rv e1a, iv 2] [])
      refine own_st (fun _ k => XS.aload X79.here hx rfl (hb hby at_223) rfl rfl k) ?_
      show own_Go p e below _ T79 (mkF m 225 #[iv p1, iv p2, iv 3, iv 1, rv aE, rv aR, rv o1, rv e1a, iv 2] [(.ref e1a)])
      obtain ⟨T80, X80, e80, st80⟩ := getF X79 hx hZ hown (host := "") (Or.inl (hw _ (List.mem_of_getElem? (i := 46) rfl))) (Via.of (hw _ (List.mem_of_getElem? (i := 47) rfl))) e79 F78_next_e1a (g := (mkF m 225 #[iv p1, iv p2, iv 3, iv 1, rv aE, rv aR, rv o1, rv e1a, iv 2] [(.ref e1a)])) rfl rfl (hb hby at_225)
      clear X79 e79
      refine own_st st80 ?_
      clear st80
      show own_Go p e below _ T80 (mkF m 228 #[iv p1, iv p2, iv 3, iv 1, rv aE, rv aR, rv o1, rv e1a, iv 2] [.null])
      refine own_st (fun _ k => XS.ifnullYes X80.here hx rfl (pc0 := 228) (pc' := 233) rfl (hb hby at_228) rfl (by decide) (by decide) k) ?_
      show own_Go p e below _ T80 (mkF m 233 #[iv p1, iv p2, iv 3, iv 1, rv aE, rv aR, rv o1, rv e1a, iv 2] [])
      refine own_st (fun _ k => XS.aload X80.here hx rfl (hb hby at_233) rfl rfl k) ?_
      show own_Go p e below _ T80 (mkF m 235 #[iv p1, iv p2, iv 3, iv 1, rv aE, rv aR, rv o1, rv e1a, iv 2] [(.ref o1)])
      obtain ⟨cq81, kq81, q81a, q81b, q81c⟩ := isOf hZ e80 E78_o1
      obtain ⟨_, T81, L81, X81, hQ81, st81⟩ := own_gotT (X80.virtualBack hx (y := (⟨"com/example/recency/recency/RecencyList", "first", "()Lcom/example/recency/recency/RecencyList$Link;"⟩ : MethodName)) (z := (⟨"com/example/recency/recency/RecencyList", "first", "()Lcom/example/recency/recency/RecencyList$Link;"⟩ : MethodName)) hown (mvT hZ (hw _ (List.mem_of_getElem? (i := 48) rfl))) (mvT hZ (hw _ (List.mem_of_getElem? (i := 49) rfl))) (notFace_of_selects (args := #[]) (mvT hZ (hw _ (List.mem_of_getElem? (i := 51) rfl)))) (mvT hZ (hw _ (List.mem_of_getElem? (i := 51) rfl))) (mvT hZ (hw _ (List.mem_of_getElem? (i := 50) rfl))) (by decide) (backOf (W := 0) (own_rm_fst l Z a0 hw [] o1 (.ref e0a) h78 n0 Z78 rfl F78_first_o1) hZ (hw _ (List.mem_of_getElem? (i := 52) rfl)) (hw _ (List.mem_of_getElem? (i := 19) rfl)) (by decide) (by decide)) q81a q81c (g := (mkF m 235 #[iv p1, iv p2, iv 3, iv 1, rv aE, rv aR, rv o1, rv e1a, iv 2] [(.ref o1)])) rfl (by rw [hml]; rfl) (Steps.refl _) (argsL := []) (rest := []) (lenOf own_pd2 rfl) rfl (by show 2 * 0 + _ ≤ _; exact Nat.le_of_eq rfl) (hb hby at_235) (fun _ _ => ⟨rfl, e80, (by decide : 7 + 0 ≤ _), (by decide : 17 + 0 ≤ _)⟩))
      replace X81 := own_num X81 (k' := 7) (n' := 17) rfl rfl
      obtain ⟨rfl, N81, eh81⟩ := hQ81
      have M81 := Fr.app P78 N81
      obtain ⟨lc81, Y81, P81⟩ := own_hide X81 M81
      refine own_tr st81 ?_
      clear P78 X80 N81 e80 X81 M81 st81
      show own_Go p e below _ T81 (mkF m 238 #[iv p1, iv p2, iv 3, iv 1, rv aE, rv aR, rv o1, rv e1a, iv 2] [(.ref e0a)])
      refine own_st (fun _ k => XS.iload Y81.here hx rfl (hb hby at_238) rfl k) ?_
      show own_Go p e below _ T81 (mkF m 240 #[iv p1, iv p2, iv 3, iv 1, rv aE, rv aR, rv o1, rv e1a, iv 2] [(.int 2), (.ref e0a)])
      refine own_st (fun _ k => XS.ifNo Y81.here hx rfl (hb hby at_240) rfl (XT.i0_le_f (by decide)) k) ?_
      show own_Go p e below _ T81 (mkF m 243 #[iv p1, iv p2, iv 3, iv 1, rv aE, rv aR, rv o1, rv e1a, iv 2] [(.ref e0a)])
      refine own_st (fun _ k => XS.aload Y81.here hx rfl (hb hby at_243) rfl rfl k) ?_
      show own_Go p e below _ T81 (mkF m 245 #[iv p1, iv p2, iv 3, iv 1, rv aE, rv aR, rv o1, rv e1a, iv 2] [(.ref aR), (.ref e0a)])
      refine own_st (fun _ k => XT.iconstV Y81.here hx rfl (0 : Int32) (hb hby at_245) (by decide) k) ?_
      show own_Go p e below _ T81 (mkF m 246 #[iv p1, iv p2, iv 3, iv 1, rv aE, rv aR, rv o1, rv e1a, iv 2] [(.int 0), (.ref aR), (.ref e0a)])
      refine own_st (fun _ k => own_ldR Y81 hx hZ eh81 V78_aR rfl ⟨by decide, by decide⟩ (v := (.ref e0a)) rfl rfl rfl (hb hby at_246) k) ?_
      show own_Go p e below _ T81 (mkF m 247 #[iv p1, iv p2, iv 3, iv 1, rv aE, rv aR, rv o1, rv e1a, iv 2] [(.ref e0a), (.ref e0a)])
      refine own_st (fun _ k => XS.goto Y81.here hx rfl (pc0 := 247) (pc' := 251) rfl (hb hby at_247) (by decide) (by decide) k) ?_
      show own_Go p e below _ T81 (mkF m 251 #[iv p1, iv p2, iv 3, iv 1, rv aE, rv aR, rv o1, rv e1a, iv 2] [(.ref e0a), (.ref e0a)])
      refine own_st (fun _ k => XT.acmpYes Y81.here hx rfl (pc0 := 251) (pc' := 256) rfl (hb hby at_251) rfl rfl rfl (XT.aa_eq_t rfl) (by decide) (by decide) k) ?_
      show own_Go p e below _ T81 (mkF m 256 #[iv p1, iv p2, iv 3, iv 1, rv aE, rv aR, rv o1, rv e1a, iv 2] [])
      refine own_st (fun _ k => XS.aload Y81.here hx rfl (hb hby at_256) rfl rfl k) ?_
      show own_Go p e below _ T81 (mkF m 258 #[iv p1, iv p2, iv 3, iv 1, rv aE, rv aR, rv o1, rv e1a, iv 2] [(.ref aR)])
      refine own_st (fun _ k => XT.iconstV Y81.here hx rfl (0 : Int32) (hb hby at_258) (by decide) k) ?_
      show own_Go p e below _ T81 (mkF m 259 #[iv p1, iv p2, iv 3, iv 1, rv aE, rv aR, rv o1, rv e1a, iv 2] [(.int 0), (.ref aR)])
      refine own_st (fun _ k => XS.iload Y81.here hx rfl (hb hby at_259) rfl k) ?_
      show own_Go p e below _ T81 (mkF m 261 #[iv p1, iv p2, iv 3, iv 1, rv aE, rv aR, rv o1, rv e1a, iv 2] [(.int 2), (.int 0), (.ref aR)])
      obtain ⟨_, T82, L82, X82, hQ82, st82⟩ := own_gotS (Jvm.LawKit.callS Y81 hx (y := (⟨"com/example/recency/recency/RecencyListRemovePinLaw", "linked", "([Lcom/example/recency/recency/RecencyListRemovePinLaw;II)Z"⟩ : MethodName)) hown (mvT hZ (hw _ (List.mem_of_getElem? (i := 53) rfl))) (mvT hZ (hw _ (List.mem_of_getElem? (i := 54) rfl))) (mvT hZ (hw _ (List.mem_of_getElem? (i := 4) rfl))) (mvT hZ (hw _ (List.mem_of_getElem? (i := 55) rfl))) (by decide) (backOf (W := 0) (own_rm_lk02 l Z a0 hw [] aR k_aR e0a e2a .null h78 n0 Z78 V78_aR F78_previous_e0a F78_next_e0a) hZ (hw _ (List.mem_of_getElem? (i := 55) rfl)) (hw _ (List.mem_of_getElem? (i := 4) rfl)) (by decide) (by decide)) (g := (mkF m 261 #[iv p1, iv p2, iv 3, iv 1, rv aE, rv aR, rv o1, rv e1a, iv 2] [(.int 2), (.int 0), (.ref aR)])) rfl (by rw [hml]; rfl) (argsL := [(.ref aR), (.int (0 : Int32)), (.int (2 : Int32))]) (rest := []) (lenOf own_pd3 rfl) rfl (by show 2 * 0 + _ ≤ _; exact Nat.le_of_eq rfl) (hb hby at_261) (fun _ _ => ⟨rfl, eh81, (by decide : 7 + 0 ≤ _), (by decide : 17 + 0 ≤ _)⟩))
      replace X82 := own_num X82 (k' := 7) (n' := 17) rfl rfl
      obtain ⟨rfl, N82, eh82⟩ := hQ82
      have M82 := Fr.app P81 N82
      obtain ⟨lc82, Y82, P82⟩ := own_hide X82 M82
      refine own_st st82 ?_
      clear P81 Y81 N82 eh81 X82 M82 st82
      show own_Go p e below _ T82 (mkF m 264 #[iv p1, iv p2, iv 3, iv 1, rv aE, rv aR, rv o1, rv e1a, iv 2] [(.int 1)])
      refine own_st (fun _ k => XS.ifNo Y82.here hx rfl (hb hby at_264) rfl (XT.i0_eq_f (by decide)) k) ?_
      show own_Go p e below _ T82 (mkF m 267 #[iv p1, iv p2, iv 3, iv 1, rv aE, rv aR, rv o1, rv e1a, iv 2] [])
      refine own_st (fun _ k => XS.aload Y82.here hx rfl (hb hby at_267) rfl rfl k) ?_
      show own_Go p e below _ T82 (mkF m 269 #[iv p1, iv p2, iv 3, iv 1, rv aE, rv aR, rv o1, rv e1a, iv 2] [(.ref aR)])
      refine own_st (fun _ k => XT.iconstV Y82.here hx rfl (1 : Int32) (hb hby at_269) (by decide) k) ?_
      show own_Go p e below _ T82 (mkF m 270 #[iv p1, iv p2, iv 3, iv 1, rv aE, rv aR, rv o1, rv e1a, iv 2] [(.int 1), (.ref aR)])
      refine own_st (fun _ k => XS.iload Y82.here hx rfl (hb hby at_270) rfl k) ?_
      show own_Go p e below _ T82 (mkF m 272 #[iv p1, iv p2, iv 3, iv 1, rv aE, rv aR, rv o1, rv e1a, iv 2] [(.int 2), (.int 1), (.ref aR)])
      obtain ⟨_, T83, L83, X83, hQ83, st83⟩ := own_gotS (Jvm.LawKit.callS Y82 hx (y := (⟨"com/example/recency/recency/RecencyListRemovePinLaw", "linked", "([Lcom/example/recency/recency/RecencyListRemovePinLaw;II)Z"⟩ : MethodName)) hown (mvT hZ (hw _ (List.mem_of_getElem? (i := 53) rfl))) (mvT hZ (hw _ (List.mem_of_getElem? (i := 54) rfl))) (mvT hZ (hw _ (List.mem_of_getElem? (i := 4) rfl))) (mvT hZ (hw _ (List.mem_of_getElem? (i := 55) rfl))) (by decide) (backOf (W := 0) (own_rm_lk12 l Z a0 hw [] aR k_aR e2a e0a .null h78 n0 Z78 V78_aR F78_previous_e2a F78_next_e2a) hZ (hw _ (List.mem_of_getElem? (i := 55) rfl)) (hw _ (List.mem_of_getElem? (i := 4) rfl)) (by decide) (by decide)) (g := (mkF m 272 #[iv p1, iv p2, iv 3, iv 1, rv aE, rv aR, rv o1, rv e1a, iv 2] [(.int 2), (.int 1), (.ref aR)])) rfl (by rw [hml]; rfl) (argsL := [(.ref aR), (.int (1 : Int32)), (.int (2 : Int32))]) (rest := []) (lenOf own_pd3 rfl) rfl (by show 2 * 0 + _ ≤ _; exact Nat.le_of_eq rfl) (hb hby at_272) (fun _ _ => ⟨rfl, eh82, (by decide : 7 + 0 ≤ _), (by decide : 17 + 0 ≤ _)⟩))
      replace X83 := own_num X83 (k' := 7) (n' := 17) rfl rfl
      obtain ⟨rfl, N83, eh83⟩ := hQ83
      have M83 := Fr.app P82 N83
      obtain ⟨lc83, Y83, P83⟩ := own_hide X83 M83
      refine own_st st83 ?_
      clear P82 Y82 N83 eh82 X83 M83 st83
      show own_Go p e below _ T83 (mkF m 275 #[iv p1, iv p2, iv 3, iv 1, rv aE, rv aR, rv o1, rv e1a, iv 2] [(.int 1)])
      refine own_st (fun _ k => XS.ifNo Y83.here hx rfl (hb hby at_275) rfl (XT.i0_eq_f (by decide)) k) ?_
      show own_Go p e below _ T83 (mkF m 278 #[iv p1, iv p2, iv 3, iv 1, rv aE, rv aR, rv o1, rv e1a, iv 2] [])
      refine own_st (fun _ k => XS.aload Y83.here hx rfl (hb hby at_278) rfl rfl k) ?_
      show own_Go p e below _ T83 (mkF m 280 #[iv p1, iv p2, iv 3, iv 1, rv aE, rv aR, rv o1, rv e1a, iv 2] [(.ref aR)])
      refine own_st (fun _ k => XT.iconstV Y83.here hx rfl (2 : Int32) (hb hby at_280) (by decide) k) ?_
      show own_Go p e below _ T83 (mkF m 281 #[iv p1, iv p2, iv 3, iv 1, rv aE, rv aR, rv o1, rv e1a, iv 2] [(.int 2), (.ref aR)])
      refine own_st (fun _ k => XS.iload Y83.here hx rfl (hb hby at_281) rfl k) ?_
      show own_Go p e below _ T83 (mkF m 283 #[iv p1, iv p2, iv 3, iv 1, rv aE, rv aR, rv o1, rv e1a, iv 2] [(.int 2), (.int 2), (.ref aR)])
      obtain ⟨_, T84, L84, X84, hQ84, st84⟩ := own_gotS (Jvm.LawKit.callS Y83 hx (y := (⟨"com/example/recency/recency/RecencyListRemovePinLaw", "linked", "([Lcom/example/recency/recency/RecencyListRemovePinLaw;II)Z"⟩ : MethodName)) hown (mvT hZ (hw _ (List.mem_of_getElem? (i := 53) rfl))) (mvT hZ (hw _ (List.mem_of_getElem? (i := 54) rfl))) (mvT hZ (hw _ (List.mem_of_getElem? (i := 4) rfl))) (mvT hZ (hw _ (List.mem_of_getElem? (i := 55) rfl))) (by decide) (backOf (W := 0) (own_rm_lk l Z a0 hw [] aR (2 : Int32) (2 : Int32) h78 n0 Z78 (by decide)) hZ (hw _ (List.mem_of_getElem? (i := 55) rfl)) (hw _ (List.mem_of_getElem? (i := 4) rfl)) (by decide) (by decide)) (g := (mkF m 283 #[iv p1, iv p2, iv 3, iv 1, rv aE, rv aR, rv o1, rv e1a, iv 2] [(.int 2), (.int 2), (.ref aR)])) rfl (by rw [hml]; rfl) (argsL := [(.ref aR), (.int (2 : Int32)), (.int (2 : Int32))]) (rest := []) (lenOf own_pd3 rfl) rfl (by show 2 * 0 + _ ≤ _; exact Nat.le_of_eq rfl) (hb hby at_283) (fun _ _ => ⟨rfl, eh83, (by decide : 7 + 0 ≤ _), (by decide : 17 + 0 ≤ _)⟩))
      replace X84 := own_num X84 (k' := 7) (n' := 17) rfl rfl
      obtain ⟨rfl, N84, eh84⟩ := hQ84
      have M84 := Fr.app P83 N84
      obtain ⟨lc84, Y84, P84⟩ := own_hide X84 M84
      refine own_st st84 ?_
      clear P83 Y83 N84 eh83 X84 M84 st84
      show own_Go p e below _ T84 (mkF m 286 #[iv p1, iv p2, iv 3, iv 1, rv aE, rv aR, rv o1, rv e1a, iv 2] [(.int 1)])
      refine own_st (fun _ k => XS.ifYes Y84.here hx rfl (pc0 := 286) (pc' := 291) rfl (hb hby at_286) rfl (XT.i0_ne_t (by decide)) (by decide) (by decide) k) ?_
      show own_Go p e below _ T84 (mkF m 291 #[iv p1, iv p2, iv 3, iv 1, rv aE, rv aR, rv o1, rv e1a, iv 2] [])
      refine own_st (fun _ k => XS.aload Y84.here hx rfl (hb hby at_291) rfl rfl k) ?_
      show own_Go p e below _ T84 (mkF m 293 #[iv p1, iv p2, iv 3, iv 1, rv aE, rv aR, rv o1, rv e1a, iv 2] [(.ref o1)])
      refine own_st (fun _ k => XS.aload Y84.here hx rfl (hb hby at_293) rfl rfl k) ?_
      show own_Go p e below _ T84 (mkF m 295 #[iv p1, iv p2, iv 3, iv 1, rv aE, rv aR, rv o1, rv e1a, iv 2] [(.ref e1a), (.ref o1)])
      obtain ⟨cq85, kq85, q85a, q85b, q85c⟩ := isOf hZ eh84 E78_o1
      obtain ⟨_, T85, L85, X85, hQ85, st85⟩ := own_gotT (Y84.virtualBack hx (y := (⟨"com/example/recency/recency/RecencyList", "addLast", "(Lcom/example/recency/recency/RecencyList$Link;)V"⟩ : MethodName)) (z := (⟨"com/example/recency/recency/RecencyList", "addLast", "(Lcom/example/recency/recency/RecencyList$Link;)V"⟩ : MethodName)) hown (mvT hZ (hw _ (List.mem_of_getElem? (i := 24) rfl))) (mvT hZ (hw _ (List.mem_of_getElem? (i := 25) rfl))) (notFace_of_selects (args := #[]) (mvT hZ (hw _ (List.mem_of_getElem? (i := 27) rfl)))) (mvT hZ (hw _ (List.mem_of_getElem? (i := 27) rfl))) (mvT hZ (hw _ (List.mem_of_getElem? (i := 26) rfl))) (by decide) (backOf (W := 0) (own_rm_addP l Z a0 hw [] o1 e1a e2a e0a e0a h78 n0 Z78 (S_A.ext O78.2) E78_o1 E78_e2a E78_e1a F78_first_o1 F78_last_o1 F78_previous_e2a F78_next_e2a F78_previous_e1a F78_next_e1a g_o1 g_e2a g_e1a ne_e2a_o1.symm ne_e1a_o1.symm ne_e1a_e2a.symm) hZ (hw _ (List.mem_of_getElem? (i := 28) rfl)) (hw _ (List.mem_of_getElem? (i := 19) rfl)) (by decide) (by decide)) q85a q85c (g := (mkF m 295 #[iv p1, iv p2, iv 3, iv 1, rv aE, rv aR, rv o1, rv e1a, iv 2] [(.ref e1a), (.ref o1)])) rfl (by rw [hml]; rfl) (Steps.refl _) (argsL := [(.ref e1a)]) (rest := []) (lenOf own_pd1 rfl) rfl (by show 2 * 0 + _ ≤ _; exact Nat.le_of_eq rfl) (hb hby at_295) (fun _ _ => ⟨rfl, eh84, (by decide : 7 + 0 ≤ _), (by decide : 17 + 0 ≤ _)⟩))
      replace X85 := own_num X85 (k' := 7) (n' := 17) rfl rfl
      obtain ⟨rfl, N85, KC85, FC85_first_o1, FC85_last_o1, FC85_previous_e2a, FC85_next_e2a, FC85_previous_e1a, FC85_next_e1a⟩ := hQ85
      have M85 := Fr.app P84 N85
      obtain ⟨lc85, Y85, P85⟩ := own_hide X85 M85
      refine own_tr st85 ?_
      clear P84 Y84 N85 eh84 X85 M85 st85
      show own_Go p e below _ T85 (mkF m 298 #[iv p1, iv p2, iv 3, iv 1, rv aE, rv aR, rv o1, rv e1a, iv 2] [])
      have O85 := O78.keep KC85 (allS g_o1 (allS g_e2a (allS g_e1a all0)))
      have V85_aE := V78_aE.keep KC85 (ninS ne_aE_o1 (ninS ne_aE_e2a (ninS ne_aE_e1a nin0)))
      have V85_aR := V78_aR.keep KC85 (ninS ne_aR_o1 (ninS ne_e2a_aR.symm (ninS ne_e1a_aR.symm nin0)))
      have E85_e0a := E78_e0a.keep KC85
      have E85_e1a := E78_e1a.keep KC85
      have E85_e2a := E78_e2a.keep KC85
      have E85_e3a := E78_e3a.keep KC85
      have E85_o1 := E78_o1.keep KC85
      have F85_previous_e0a := F78_previous_e0a.keep KC85 (ninS ne_e0a_o1 (ninS ne_e0a_e2a (ninS ne_e0a_e1a nin0)))
      have F85_next_e0a := F78_next_e0a.keep KC85 (ninS ne_e0a_o1 (ninS ne_e0a_e2a (ninS ne_e0a_e1a nin0)))
      have F85_previous_e3a := F78_previous_e3a.keep KC85 (ninS ne_e3a_o1 (ninS ne_e2a_e3a.symm (ninS ne_e1a_e3a.symm nin0)))
      have F85_next_e3a := F78_next_e3a.keep KC85 (ninS ne_e3a_o1 (ninS ne_e2a_e3a.symm (ninS ne_e1a_e3a.symm nin0)))
      have Z85 : n0 ≤ T85.heap.size := Nat.le_trans Z78 KC85.1
      clear O78 Z78 V78_aE V78_aR E78_e0a E78_e1a E78_e2a E78_e3a E78_o1 F78_previous_e0a F78_next_e0a F78_previous_e1a F78_next_e1a F78_previous_e2a F78_next_e2a F78_previous_e3a F78_next_e3a F78_first_o1 F78_last_o1 KC85
      refine own_st (fun _ k => XS.iload Y85.here hx rfl (hb hby at_298) rfl k) ?_
      show own_Go p e below _ T85 (mkF m 300 #[iv p1, iv p2, iv 3, iv 1, rv aE, rv aR, rv o1, rv e1a, iv 2] [(.int 2)])
      refine own_st (fun _ k => XS.ifYes Y85.here hx rfl (pc0 := 300) (pc' := 335) rfl (hb hby at_300) rfl (XT.i0_ne_t (by decide)) (by decide) (by decide) k) ?_
      show own_Go p e below _ T85 (mkF m 335 #[iv p1, iv p2, iv 3, iv 1, rv aE, rv aR, rv o1, rv e1a, iv 2] [])
      refine own_st (fun _ k => XS.aload Y85.here hx rfl (hb hby at_335) rfl rfl k) ?_
      show own_Go p e below _ T85 (mkF m 337 #[iv p1, iv p2, iv 3, iv 1, rv aE, rv aR, rv o1, rv e1a, iv 2] [(.ref o1)])
      obtain ⟨cq86, kq86, q86a, q86b, q86c⟩ := isOf hZ rfl E85_o1
      obtain ⟨_, T86, L86, X86, hQ86, st86⟩ := own_gotT (Y85.virtualBack hx (y := (⟨"com/example/recency/recency/RecencyList", "first", "()Lcom/example/recency/recency/RecencyList$Link;"⟩ : MethodName)) (z := (⟨"com/example/recency/recency/RecencyList", "first", "()Lcom/example/recency/recency/RecencyList$Link;"⟩ : MethodName)) hown (mvT hZ (hw _ (List.mem_of_getElem? (i := 48) rfl))) (mvT hZ (hw _ (List.mem_of_getElem? (i := 49) rfl))) (notFace_of_selects (args := #[]) (mvT hZ (hw _ (List.mem_of_getElem? (i := 51) rfl)))) (mvT hZ (hw _ (List.mem_of_getElem? (i := 51) rfl))) (mvT hZ (hw _ (List.mem_of_getElem? (i := 50) rfl))) (by decide) (backOf (W := 0) (own_rm_fst l Z a0 hw [] o1 (.ref e0a) T85.heap n0 Z85 rfl FC85_first_o1) hZ (hw _ (List.mem_of_getElem? (i := 52) rfl)) (hw _ (List.mem_of_getElem? (i := 19) rfl)) (by decide) (by decide)) q86a q86c (g := (mkF m 337 #[iv p1, iv p2, iv 3, iv 1, rv aE, rv aR, rv o1, rv e1a, iv 2] [(.ref o1)])) rfl (by rw [hml]; rfl) (Steps.refl _) (argsL := []) (rest := []) (lenOf own_pd2 rfl) rfl (by show 2 * 0 + _ ≤ _; exact Nat.le_of_eq rfl) (hb hby at_337) (fun _ _ => ⟨rfl, rfl, (by decide : 7 + 0 ≤ _), (by decide : 17 + 0 ≤ _)⟩))
      replace X86 := own_num X86 (k' := 7) (n' := 17) rfl rfl
      obtain ⟨rfl, N86, eh86⟩ := hQ86
      have M86 := Fr.app P85 N86
      obtain ⟨lc86, Y86, P86⟩ := own_hide X86 M86
      refine own_tr st86 ?_
      clear P85 Y85 N86 X86 M86 st86
      show own_Go p e below _ T86 (mkF m 340 #[iv p1, iv p2, iv 3, iv 1, rv aE, rv aR, rv o1, rv e1a, iv 2] [(.ref e0a)])
      refine own_st (fun _ k => XS.aload Y86.here hx rfl (hb hby at_340) rfl rfl k) ?_
      show own_Go p e below _ T86 (mkF m 342 #[iv p1, iv p2, iv 3, iv 1, rv aE, rv aR, rv o1, rv e1a, iv 2] [(.ref aR), (.ref e0a)])
      refine own_st (fun _ k => XT.iconstV Y86.here hx rfl (0 : Int32) (hb hby at_342) (by decide) k) ?_
      show own_Go p e below _ T86 (mkF m 343 #[iv p1, iv p2, iv 3, iv 1, rv aE, rv aR, rv o1, rv e1a, iv 2] [(.int 0), (.ref aR), (.ref e0a)])
      refine own_st (fun _ k => own_ldR Y86 hx hZ eh86 V85_aR rfl ⟨by decide, by decide⟩ (v := (.ref e0a)) rfl rfl rfl (hb hby at_343) k) ?_
      show own_Go p e below _ T86 (mkF m 344 #[iv p1, iv p2, iv 3, iv 1, rv aE, rv aR, rv o1, rv e1a, iv 2] [(.ref e0a), (.ref e0a)])
      refine own_st (fun _ k => XT.acmpNo Y86.here hx rfl (hb hby at_344) rfl rfl rfl (XT.aa_ne_f rfl) k) ?_
      show own_Go p e below _ T86 (mkF m 347 #[iv p1, iv p2, iv 3, iv 1, rv aE, rv aR, rv o1, rv e1a, iv 2] [])
      refine own_st (fun _ k => XS.aload Y86.here hx rfl (hb hby at_347) rfl rfl k) ?_
      show own_Go p e below _ T86 (mkF m 349 #[iv p1, iv p2, iv 3, iv 1, rv aE, rv aR, rv o1, rv e1a, iv 2] [(.ref e1a)])
      obtain ⟨T87, X87, e87, st87⟩ := getF Y86 hx hZ hown (host := "") (Or.inl (hw _ (List.mem_of_getElem? (i := 44) rfl))) (Via.of (hw _ (List.mem_of_getElem? (i := 45) rfl))) eh86 FC85_previous_e1a (g := (mkF m 349 #[iv p1, iv p2, iv 3, iv 1, rv aE, rv aR, rv o1, rv e1a, iv 2] [(.ref e1a)])) rfl rfl (hb hby at_349)
      clear Y86 eh86
      refine own_st st87 ?_
      clear st87
      show own_Go p e below _ T87 (mkF m 352 #[iv p1, iv p2, iv 3, iv 1, rv aE, rv aR, rv o1, rv e1a, iv 2] [(.ref e2a)])
      refine own_st (fun _ k => XS.aload X87.here hx rfl (hb hby at_352) rfl rfl k) ?_
      show own_Go p e below _ T87 (mkF m 354 #[iv p1, iv p2, iv 3, iv 1, rv aE, rv aR, rv o1, rv e1a, iv 2] [(.ref aR), (.ref e2a)])
      refine own_st (fun _ k => XS.iload X87.here hx rfl (hb hby at_354) rfl k) ?_
      show own_Go p e below _ T87 (mkF m 356 #[iv p1, iv p2, iv 3, iv 1, rv aE, rv aR, rv o1, rv e1a, iv 2] [(.int 2), (.ref aR), (.ref e2a)])
      refine own_st (fun _ k => XT.iconstV X87.here hx rfl (1 : Int32) (hb hby at_356) (by decide) k) ?_
      show own_Go p e below _ T87 (mkF m 357 #[iv p1, iv p2, iv 3, iv 1, rv aE, rv aR, rv o1, rv e1a, iv 2] [(.int 1), (.int 2), (.ref aR), (.ref e2a)])
      refine own_st (fun _ k => XS.isub X87.here hx rfl (hb hby at_357) rfl k) ?_
      show own_Go p e below _ T87 (mkF m 358 #[iv p1, iv p2, iv 3, iv 1, rv aE, rv aR, rv o1, rv e1a, iv 2] [(.int (2 - 1)), (.ref aR), (.ref e2a)])
      rw [show ((2 : Int32) - (1 : Int32)) = (1 : Int32) from by decide]
      show own_Go p e below _ T87 (mkF m 358 #[iv p1, iv p2, iv 3, iv 1, rv aE, rv aR, rv o1, rv e1a, iv 2] [(.int 1), (.ref aR), (.ref e2a)])
      refine own_st (fun _ k => own_ldR X87 hx hZ e87 V85_aR rfl ⟨by decide, by decide⟩ (v := (.ref e2a)) rfl rfl rfl (hb hby at_358) k) ?_
      show own_Go p e below _ T87 (mkF m 359 #[iv p1, iv p2, iv 3, iv 1, rv aE, rv aR, rv o1, rv e1a, iv 2] [(.ref e2a), (.ref e2a)])
      refine own_st (fun _ k => XT.acmpNo X87.here hx rfl (hb hby at_359) rfl rfl rfl (XT.aa_ne_f rfl) k) ?_
      show own_Go p e below _ T87 (mkF m 362 #[iv p1, iv p2, iv 3, iv 1, rv aE, rv aR, rv o1, rv e1a, iv 2] [])
      refine own_st (fun _ k => XS.aload X87.here hx rfl (hb hby at_362) rfl rfl k) ?_
      show own_Go p e below _ T87 (mkF m 364 #[iv p1, iv p2, iv 3, iv 1, rv aE, rv aR, rv o1, rv e1a, iv 2] [(.ref aR)])
      refine own_st (fun _ k => XS.iload X87.here hx rfl (hb hby at_364) rfl k) ?_
      show own_Go p e below _ T87 (mkF m 366 #[iv p1, iv p2, iv 3, iv 1, rv aE, rv aR, rv o1, rv e1a, iv 2] [(.int 2), (.ref aR)])
      refine own_st (fun _ k => XT.iconstV X87.here hx rfl (1 : Int32) (hb hby at_366) (by decide) k) ?_
      show own_Go p e below _ T87 (mkF m 367 #[iv p1, iv p2, iv 3, iv 1, rv aE, rv aR, rv o1, rv e1a, iv 2] [(.int 1), (.int 2), (.ref aR)])
      refine own_st (fun _ k => XS.isub X87.here hx rfl (hb hby at_367) rfl k) ?_
      show own_Go p e below _ T87 (mkF m 368 #[iv p1, iv p2, iv 3, iv 1, rv aE, rv aR, rv o1, rv e1a, iv 2] [(.int (2 - 1)), (.ref aR)])
      rw [show ((2 : Int32) - (1 : Int32)) = (1 : Int32) from by decide]
      show own_Go p e below _ T87 (mkF m 368 #[iv p1, iv p2, iv 3, iv 1, rv aE, rv aR, rv o1, rv e1a, iv 2] [(.int 1), (.ref aR)])
      refine own_st (fun _ k => own_ldR X87 hx hZ e87 V85_aR rfl ⟨by decide, by decide⟩ (v := (.ref e2a)) rfl rfl rfl (hb hby at_368) k) ?_
      show own_Go p e below _ T87 (mkF m 369 #[iv p1, iv p2, iv 3, iv 1, rv aE, rv aR, rv o1, rv e1a, iv 2] [(.ref e2a)])
      obtain ⟨T88, X88, e88, st88⟩ := getF X87 hx hZ hown (host := "") (Or.inl (hw _ (List.mem_of_getElem? (i := 46) rfl))) (Via.of (hw _ (List.mem_of_getElem? (i := 47) rfl))) e87 FC85_next_e2a (g := (mkF m 369 #[iv p1, iv p2, iv 3, iv 1, rv aE, rv aR, rv o1, rv e1a, iv 2] [(.ref e2a)])) rfl rfl (hb hby at_369)
      clear X87 e87
      refine own_st st88 ?_
      clear st88
      show own_Go p e below _ T88 (mkF m 372 #[iv p1, iv p2, iv 3, iv 1, rv aE, rv aR, rv o1, rv e1a, iv 2] [(.ref e1a)])
      refine own_st (fun _ k => XS.aload X88.here hx rfl (hb hby at_372) rfl rfl k) ?_
      show own_Go p e below _ T88 (mkF m 374 #[iv p1, iv p2, iv 3, iv 1, rv aE, rv aR, rv o1, rv e1a, iv 2] [(.ref e1a), (.ref e1a)])
      refine own_st (fun _ k => XT.acmpNo X88.here hx rfl (hb hby at_374) rfl rfl rfl (XT.aa_ne_f rfl) k) ?_
      show own_Go p e below _ T88 (mkF m 377 #[iv p1, iv p2, iv 3, iv 1, rv aE, rv aR, rv o1, rv e1a, iv 2] [])
      refine own_st (fun _ k => XS.aload X88.here hx rfl (hb hby at_377) rfl rfl k) ?_
      show own_Go p e below _ T88 (mkF m 379 #[iv p1, iv p2, iv 3, iv 1, rv aE, rv aR, rv o1, rv e1a, iv 2] [(.ref e1a)])
      obtain ⟨T89, X89, e89, st89⟩ := getF X88 hx hZ hown (host := "") (Or.inl (hw _ (List.mem_of_getElem? (i := 46) rfl))) (Via.of (hw _ (List.mem_of_getElem? (i := 47) rfl))) e88 FC85_next_e1a (g := (mkF m 379 #[iv p1, iv p2, iv 3, iv 1, rv aE, rv aR, rv o1, rv e1a, iv 2] [(.ref e1a)])) rfl rfl (hb hby at_379)
      clear X88 e88
      refine own_st st89 ?_
      clear st89
      show own_Go p e below _ T89 (mkF m 382 #[iv p1, iv p2, iv 3, iv 1, rv aE, rv aR, rv o1, rv e1a, iv 2] [.null])
      refine own_st (fun _ k => XT.ifnonnullNo X89.here hx rfl (hb hby at_382) rfl k) ?_
      show own_Go p e below _ T89 (mkF m 385 #[iv p1, iv p2, iv 3, iv 1, rv aE, rv aR, rv o1, rv e1a, iv 2] [])
      refine own_st (fun _ k => XT.iconstV X89.here hx rfl (1 : Int32) (hb hby at_385) (by decide) k) ?_
      show own_Go p e below _ T89 (mkF m 386 #[iv p1, iv p2, iv 3, iv 1, rv aE, rv aR, rv o1, rv e1a, iv 2] [(.int 1)])
      refine own_st (fun _ k => XS.goto X89.here hx rfl (pc0 := 386) (pc' := 390) rfl (hb hby at_386) (by decide) (by decide) k) ?_
      show own_Go p e below _ T89 (mkF m 390 #[iv p1, iv p2, iv 3, iv 1, rv aE, rv aR, rv o1, rv e1a, iv 2] [(.int 1)])
      refine own_retN X89 hx Bd.notSynchronized (t := .boolean) Bd.returns (by simp) (hb hby at_390) (by decide) (by decide) ?_
      rw [e89]
      exact ⟨rfl, P86⟩
    · show own_Go p e below _ T60 (mkF m 132 #[iv p1, iv p2, iv 3, iv 2, rv aE, rv aR, rv o1, .unset, .unset] [(.int 2), (.ref aE)])
      refine own_st (fun _ k => own_ldR Y60 hx hZ rfl V60_aE rfl ⟨by decide, by decide⟩ (v := (.ref e2a)) rfl rfl rfl (hb hby at_132) k) ?_
      show own_Go p e below _ T60 (mkF m 133 #[iv p1, iv p2, iv 3, iv 2, rv aE, rv aR, rv o1, .unset, .unset] [(.ref e2a)])
      refine own_st (fun _ k => XS.astore Y60.here hx rfl (hb hby at_133) rfl rfl (l' := #[iv p1, iv p2, iv 3, iv 2, rv aE, rv aR, rv o1, rv e2a, .unset]) rfl k) ?_
      show own_Go p e below _ T60 (mkF m 135 #[iv p1, iv p2, iv 3, iv 2, rv aE, rv aR, rv o1, rv e2a, .unset] [])
      refine own_st (fun _ k => XS.aload Y60.here hx rfl (hb hby at_135) rfl rfl k) ?_
      show own_Go p e below _ T60 (mkF m 137 #[iv p1, iv p2, iv 3, iv 2, rv aE, rv aR, rv o1, rv e2a, .unset] [(.ref o1)])
      refine own_st (fun _ k => XS.aload Y60.here hx rfl (hb hby at_137) rfl rfl k) ?_
      show own_Go p e below _ T60 (mkF m 139 #[iv p1, iv p2, iv 3, iv 2, rv aE, rv aR, rv o1, rv e2a, .unset] [(.ref e2a), (.ref o1)])
      obtain ⟨cq91, kq91, q91a, q91b, q91c⟩ := isOf hZ rfl E60_o1
      obtain ⟨_, T91, L91, X91, hQ91, st91⟩ := own_gotT (Y60.virtualBack hx (y := (⟨"com/example/recency/recency/RecencyList", "remove", "(Lcom/example/recency/recency/RecencyList$Link;)V"⟩ : MethodName)) (z := (⟨"com/example/recency/recency/RecencyList", "remove", "(Lcom/example/recency/recency/RecencyList$Link;)V"⟩ : MethodName)) hown (mvT hZ (hw _ (List.mem_of_getElem? (i := 35) rfl))) (mvT hZ (hw _ (List.mem_of_getElem? (i := 36) rfl))) (notFace_of_selects (args := #[]) (mvT hZ (hw _ (List.mem_of_getElem? (i := 38) rfl)))) (mvT hZ (hw _ (List.mem_of_getElem? (i := 38) rfl))) (mvT hZ (hw _ (List.mem_of_getElem? (i := 37) rfl))) (by decide) (backOf (W := 0) (own_rm_rem10D l Z a0 hw [] o1 e2a e1a e0a e0a T60.heap n0 Z60 (S_A.ext O60.2) E60_o1 E60_e2a E60_e1a FC60_first_o1 FC60_last_o1 FC60_previous_e2a FC60_next_e2a FC60_previous_e1a FC60_next_e1a g_o1 g_e2a g_e1a ne_e2a_o1.symm ne_e1a_o1.symm ne_e1a_e2a.symm) hZ (hw _ (List.mem_of_getElem? (i := 39) rfl)) (hw _ (List.mem_of_getElem? (i := 19) rfl)) (by decide) (by decide)) q91a q91c (g := (mkF m 139 #[iv p1, iv p2, iv 3, iv 2, rv aE, rv aR, rv o1, rv e2a, .unset] [(.ref e2a), (.ref o1)])) rfl (by rw [hml]; rfl) (Steps.refl _) (argsL := [(.ref e2a)]) (rest := []) (lenOf own_pd1 rfl) rfl (by show 2 * 0 + _ ≤ _; exact Nat.le_of_eq rfl) (hb hby at_139) (fun _ _ => ⟨rfl, rfl, (by decide : 7 + 0 ≤ _), (by decide : 17 + 0 ≤ _)⟩))
      replace X91 := own_num X91 (k' := 7) (n' := 17) rfl rfl
      obtain ⟨rfl, N91, KC91, FC91_first_o1, FC91_last_o1, FC91_previous_e2a, FC91_next_e2a, FC91_previous_e1a, FC91_next_e1a⟩ := hQ91
      have M91 := Fr.app P60 N91
      obtain ⟨lc91, Y91, P91⟩ := own_hide X91 M91
      refine own_tr st91 ?_
      clear P60 Y60 N91 X91 M91 st91
      show own_Go p e below _ T91 (mkF m 142 #[iv p1, iv p2, iv 3, iv 2, rv aE, rv aR, rv o1, rv e2a, .unset] [])
      have O91 := O60.keep KC91 (allS g_o1 (allS g_e2a (allS g_e1a all0)))
      have V91_aE := V60_aE.keep KC91 (ninS ne_aE_o1 (ninS ne_aE_e2a (ninS ne_aE_e1a nin0)))
      have V91_aR := V60_aR.keep KC91 (ninS ne_aR_o1 (ninS ne_e2a_aR.symm (ninS ne_e1a_aR.symm nin0)))
      have E91_e0a := E60_e0a.keep KC91
      have E91_e1a := E60_e1a.keep KC91
      have E91_e2a := E60_e2a.keep KC91
      have E91_e3a := E60_e3a.keep KC91
      have E91_o1 := E60_o1.keep KC91
      have F91_previous_e0a := F60_previous_e0a.keep KC91 (ninS ne_e0a_o1 (ninS ne_e0a_e2a (ninS ne_e0a_e1a nin0)))
      have F91_next_e0a := F60_next_e0a.keep KC91 (ninS ne_e0a_o1 (ninS ne_e0a_e2a (ninS ne_e0a_e1a nin0)))
      have F91_previous_e3a := F60_previous_e3a.keep KC91 (ninS ne_e3a_o1 (ninS ne_e2a_e3a.symm (ninS ne_e1a_e3a.symm nin0)))
      have F91_next_e3a := F60_next_e3a.keep KC91 (ninS ne_e3a_o1 (ninS ne_e2a_e3a.symm (ninS ne_e1a_e3a.symm nin0)))
      have Z91 : n0 ≤ T91.heap.size := Nat.le_trans Z60 KC91.1
      clear O60 Z60 V60_aE V60_aR E60_e0a E60_e1a E60_e2a E60_e3a E60_o1 F60_previous_e0a F60_next_e0a FC60_previous_e1a FC60_next_e1a FC60_previous_e2a FC60_next_e2a F60_previous_e3a F60_next_e3a FC60_first_o1 FC60_last_o1 KC91
      refine own_st (fun _ k => XS.iloadN Y91.here hx rfl (hb hby at_142) rfl k) ?_
      show own_Go p e below _ T91 (mkF m 143 #[iv p1, iv p2, iv 3, iv 2, rv aE, rv aR, rv o1, rv e2a, .unset] [(.int 3)])
      refine own_st (fun _ k => XT.iconstV Y91.here hx rfl (1 : Int32) (hb hby at_143) (by decide) k) ?_
      show own_Go p e below _ T91 (mkF m 144 #[iv p1, iv p2, iv 3, iv 2, rv aE, rv aR, rv o1, rv e2a, .unset] [(.int 1), (.int 3)])
      refine own_st (fun _ k => XS.isub Y91.here hx rfl (hb hby at_144) rfl k) ?_
      show own_Go p e below _ T91 (mkF m 145 #[iv p1, iv p2, iv 3, iv 2, rv aE, rv aR, rv o1, rv e2a, .unset] [(.int (3 - 1))])
      refine own_st (fun _ k => XS.istore Y91.here hx rfl (hb hby at_145) rfl (l' := #[iv p1, iv p2, iv 3, iv 2, rv aE, rv aR, rv o1, rv e2a, iv (3 - 1)]) rfl k) ?_
      show own_Go p e below _ T91 (mkF m 147 #[iv p1, iv p2, iv 3, iv 2, rv aE, rv aR, rv o1, rv e2a, iv (3 - 1)] [])
      refine own_st (fun _ k => XS.iload Y91.here hx rfl (hb hby at_147) rfl k) ?_
      show own_Go p e below _ T91 (mkF m 149 #[iv p1, iv p2, iv 3, iv 2, rv aE, rv aR, rv o1, rv e2a, iv (3 - 1)] [(.int (3 - 1))])
      rw [show ((3 : Int32) - (1 : Int32)) = (2 : Int32) from by decide]
      show own_Go p e below _ T91 (mkF m 149 #[iv p1, iv p2, iv 3, iv 2, rv aE, rv aR, rv o1, rv e2a, iv 2] [(.int 2)])
      refine own_st (fun _ k => XS.ifNo Y91.here hx rfl (hb hby at_149) rfl (XT.i0_le_f (by decide)) k) ?_
      show own_Go p e below _ T91 (mkF m 152 #[iv p1, iv p2, iv 3, iv 2, rv aE, rv aR, rv o1, rv e2a, iv 2] [])
      refine own_st (fun _ k => XS.aload Y91.here hx rfl (hb hby at_152) rfl rfl k) ?_
      show own_Go p e below _ T91 (mkF m 154 #[iv p1, iv p2, iv 3, iv 2, rv aE, rv aR, rv o1, rv e2a, iv 2] [(.ref aR)])
      refine own_st (fun _ k => XT.iconstV Y91.here hx rfl (0 : Int32) (hb hby at_154) (by decide) k) ?_
      show own_Go p e below _ T91 (mkF m 155 #[iv p1, iv p2, iv 3, iv 2, rv aE, rv aR, rv o1, rv e2a, iv 2] [(.int 0), (.ref aR)])
      refine own_st (fun _ k => XS.aload Y91.here hx rfl (hb hby at_155) rfl rfl k) ?_
      show own_Go p e below _ T91 (mkF m 157 #[iv p1, iv p2, iv 3, iv 2, rv aE, rv aR, rv o1, rv e2a, iv 2] [(.ref aE), (.int 0), (.ref aR)])
      refine own_st (fun _ k => XT.iconstV Y91.here hx rfl (0 : Int32) (hb hby at_157) (by decide) k) ?_
      show own_Go p e below _ T91 (mkF m 158 #[iv p1, iv p2, iv 3, iv 2, rv aE, rv aR, rv o1, rv e2a, iv 2] [(.int 0), (.ref aE), (.int 0), (.ref aR)])
      refine own_st (fun _ k => XS.iloadN Y91.here hx rfl (hb hby at_158) rfl k) ?_
      show own_Go p e below _ T91 (mkF m 159 #[iv p1, iv p2, iv 3, iv 2, rv aE, rv aR, rv o1, rv e2a, iv 2] [(.int 2), (.int 0), (.ref aE), (.int 0), (.ref aR)])
      refine own_st (fun _ k => XS.icmpNo Y91.here hx rfl (hb hby at_159) rfl (XT.ii_ge_f (by decide)) k) ?_
      show own_Go p e below _ T91 (mkF m 162 #[iv p1, iv p2, iv 3, iv 2, rv aE, rv aR, rv o1, rv e2a, iv 2] [(.ref aE), (.int 0), (.ref aR)])
      refine own_st (fun _ k => XT.iconstV Y91.here hx rfl (0 : Int32) (hb hby at_162) (by decide) k) ?_
      show own_Go p e below _ T91 (mkF m 163 #[iv p1, iv p2, iv 3, iv 2, rv aE, rv aR, rv o1, rv e2a, iv 2] [(.int 0), (.ref aE), (.int 0), (.ref aR)])
      refine own_st (fun _ k => XS.goto Y91.here hx rfl (pc0 := 163) (pc' := 167) rfl (hb hby at_163) (by decide) (by decide) k) ?_
      show own_Go p e below _ T91 (mkF m 167 #[iv p1, iv p2, iv 3, iv 2, rv aE, rv aR, rv o1, rv e2a, iv 2] [(.int 0), (.ref aE), (.int 0), (.ref aR)])
      refine own_st (fun _ k => own_ldR Y91 hx hZ rfl V91_aE rfl ⟨by decide, by decide⟩ (v := (.ref e0a)) rfl rfl rfl (hb hby at_167) k) ?_
      show own_Go p e below _ T91 (mkF m 168 #[iv p1, iv p2, iv 3, iv 2, rv aE, rv aR, rv o1, rv e2a, iv 2] [(.ref e0a), (.int 0), (.ref aR)])
      obtain ⟨T92, h92, X92, e92, W92, V92, st92⟩ := own_stR Y91 hx hZ rfl V91_aR Ov_aR (Ins.self E91_e0a) (j := (0 : Int32)) ⟨by decide, by decide⟩ 0 rfl (Nat.le_of_ble_eq_true rfl) (g := (mkF m 168 #[iv p1, iv p2, iv 3, iv 2, rv aE, rv aR, rv o1, rv e2a, iv 2] [(.ref e0a), (.int 0), (.ref aR)])) rfl rfl (hb hby at_168)
      have V92_aR : Arv Z h92 aR k_aR (.object "com/example/recency/recency/RecencyListRemovePinLaw") (3 : Int32) [(.ref e0a), .null, .null] .null := V92
      have O92 := O91.wr W92 g_aR
      have V92_aE := V91_aE.other W92 ne_aE_aR
      have E92_e0a := E91_e0a.wr W92
      have E92_e1a := E91_e1a.wr W92
      have E92_e2a := E91_e2a.wr W92
      have E92_e3a := E91_e3a.wr W92
      have E92_o1 := E91_o1.wr W92
      have F92_previous_e0a := F91_previous_e0a.other W92 (Or.inl ne_e0a_aR)
      have F92_next_e0a := F91_next_e0a.other W92 (Or.inl ne_e0a_aR)
      have F92_previous_e1a := FC91_previous_e1a.other W92 (Or.inl ne_e1a_aR)
      have F92_next_e1a := FC91_next_e1a.other W92 (Or.inl ne_e1a_aR)
      have F92_previous_e2a := FC91_previous_e2a.other W92 (Or.inl ne_e2a_aR)
      have F92_next_e2a := FC91_next_e2a.other W92 (Or.inl ne_e2a_aR)
      have F92_previous_e3a := F91_previous_e3a.other W92 (Or.inl ne_e3a_aR)
      have F92_next_e3a := F91_next_e3a.other W92 (Or.inl ne_e3a_aR)
      have F92_first_o1 := FC91_first_o1.other W92 (Or.inl ne_aR_o1.symm)
      have F92_last_o1 := FC91_last_o1.other W92 (Or.inl ne_aR_o1.symm)
      have Z92 : n0 ≤ h92.size := by rw [W92.size]; exact Z91
      clear O91 Z91 V91_aE E91_e0a E91_e1a E91_e2a E91_e3a E91_o1 F91_previous_e0a F91_next_e0a FC91_previous_e1a FC91_next_e1a FC91_previous_e2a FC91_next_e2a F91_previous_e3a F91_next_e3a FC91_first_o1 FC91_last_o1 V91_aR W92
      have N92 := Fr.snoc X92 P91 g_aR
      obtain ⟨lc92, Y92, P92⟩ := own_hide X92 N92
      clear X92 N92
      clear Y91
      refine own_st st92 ?_
      clear st92
      show own_Go p e below _ T92 (mkF m 169 #[iv p1, iv p2, iv 3, iv 2, rv aE, rv aR, rv o1, rv e2a, iv 2] [])
      refine own_st (fun _ k => XS.iload Y92.here hx rfl (hb hby at_169) rfl k) ?_
      show own_Go p e below _ T92 (mkF m 171 #[iv p1, iv p2, iv 3, iv 2, rv aE, rv aR, rv o1, rv e2a, iv 2] [(.int 2)])
      refine own_st (fun _ k => XT.iconstV Y92.here hx rfl (1 : Int32) (hb hby at_171) (by decide) k) ?_
      show own_Go p e below _ T92 (mkF m 172 #[iv p1, iv p2, iv 3, iv 2, rv aE, rv aR, rv o1, rv e2a, iv 2] [(.int 1), (.int 2)])
      refine own_st (fun _ k => XS.icmpNo Y92.here hx rfl (hb hby at_172) rfl (XT.ii_le_f (by decide)) k) ?_
      show own_Go p e below _ T92 (mkF m 175 #[iv p1, iv p2, iv 3, iv 2, rv aE, rv aR, rv o1, rv e2a, iv 2] [])
      refine own_st (fun _ k => XS.aload Y92.here hx rfl (hb hby at_175) rfl rfl k) ?_
      show own_Go p e below _ T92 (mkF m 177 #[iv p1, iv p2, iv 3, iv 2, rv aE, rv aR, rv o1, rv e2a, iv 2] [(.ref aR)])
      refine own_st (fun _ k => XT.iconstV Y92.here hx rfl (1 : Int32) (hb hby at_177) (by decide) k) ?_
      show own_Go p e below _ T92 (mkF m 178 #[iv p1, iv p2, iv 3, iv 2, rv aE, rv aR, rv o1, rv e2a, iv 2] [(.int 1), (.ref aR)])
      refine own_st (fun _ k => XS.aload Y92.here hx rfl (hb hby at_178) rfl rfl k) ?_
      show own_Go p e below _ T92 (mkF m 180 #[iv p1, iv p2, iv 3, iv 2, rv aE, rv aR, rv o1, rv e2a, iv 2] [(.ref aE), (.int 1), (.ref aR)])
      refine own_st (fun _ k => XT.iconstV Y92.here hx rfl (1 : Int32) (hb hby at_180) (by decide) k) ?_
      show own_Go p e below _ T92 (mkF m 181 #[iv p1, iv p2, iv 3, iv 2, rv aE, rv aR, rv o1, rv e2a, iv 2] [(.int 1), (.ref aE), (.int 1), (.ref aR)])
      refine own_st (fun _ k => XS.iloadN Y92.here hx rfl (hb hby at_181) rfl k) ?_
      show own_Go p e below _ T92 (mkF m 182 #[iv p1, iv p2, iv 3, iv 2, rv aE, rv aR, rv o1, rv e2a, iv 2] [(.int 2), (.int 1), (.ref aE), (.int 1), (.ref aR)])
      refine own_st (fun _ k => XS.icmpNo Y92.here hx rfl (hb hby at_182) rfl (XT.ii_ge_f (by decide)) k) ?_
      show own_Go p e below _ T92 (mkF m 185 #[iv p1, iv p2, iv 3, iv 2, rv aE, rv aR, rv o1, rv e2a, iv 2] [(.ref aE), (.int 1), (.ref aR)])
      refine own_st (fun _ k => XT.iconstV Y92.here hx rfl (1 : Int32) (hb hby at_185) (by decide) k) ?_
      show own_Go p e below _ T92 (mkF m 186 #[iv p1, iv p2, iv 3, iv 2, rv aE, rv aR, rv o1, rv e2a, iv 2] [(.int 1), (.ref aE), (.int 1), (.ref aR)])
      refine own_st (fun _ k => XS.goto Y92.here hx rfl (pc0 := 186) (pc' := 190) rfl (hb hby at_186) (by decide) (by decide) k) ?_
      show own_Go p e below _ T92 (mkF m 190 #[iv p1, iv p2, iv 3, iv 2, rv aE, rv aR, rv o1, rv e2a, iv 2] [(.int 1), (.ref aE), (.int 1), (.ref aR)])
      refine own_st (fun _ k => own_ldR Y92 hx hZ e92 V92_aE rfl ⟨by decide, by decide⟩ (v := (.ref e1a)) rfl rfl rfl (hb hby at_190) k) ?_
      show own_Go p e below _ T92 (mkF m 191 #[iv p1, iv p2, iv 3, iv 2, rv aE, rv aR, rv o1, rv e2a, iv 2] [(.ref e1a), (.int 1), (.ref aR)])
      obtain ⟨T93, h93, X93, e93, W93, V93, st93⟩ := own_stR Y92 hx hZ e92 V92_aR Ov_aR (Ins.self E92_e1a) (j := (1 : Int32)) ⟨by decide, by decide⟩ 1 rfl (Nat.le_of_ble_eq_true rfl) (g := (mkF m 191 #[iv p1, iv p2, iv 3, iv 2, rv aE, rv aR, rv o1, rv e2a, iv 2] [(.ref e1a), (.int 1), (.ref aR)])) rfl rfl (hb hby at_191)
      have V93_aR : Arv Z h93 aR k_aR (.object "com/example/recency/recency/RecencyListRemovePinLaw") (3 : Int32) [(.ref e0a), (.ref e1a), .null] .null := V93
      have O93 := O92.wr W93 g_aR
      have V93_aE := V92_aE.other W93 ne_aE_aR
      have E93_e0a := E92_e0a.wr W93
      have E93_e1a := E92_e1a.wr W93
      have E93_e2a := E92_e2a.wr W93
      have E93_e3a := E92_e3a.wr W93
      have E93_o1 := E92_o1.wr W93
      have F93_previous_e0a := F92_previous_e0a.other W93 (Or.inl ne_e0a_aR)
      have F93_next_e0a := F92_next_e0a.other W93 (Or.inl ne_e0a_aR)
      have F93_previous_e1a := F92_previous_e1a.other W93 (Or.inl ne_e1a_aR)
      have F93_next_e1a := F92_next_e1a.other W93 (Or.inl ne_e1a_aR)
      have F93_previous_e2a := F92_previous_e2a.other W93 (Or.inl ne_e2a_aR)
      have F93_next_e2a := F92_next_e2a.other W93 (Or.inl ne_e2a_aR)
      have F93_previous_e3a := F92_previous_e3a.other W93 (Or.inl ne_e3a_aR)
      have F93_next_e3a := F92_next_e3a.other W93 (Or.inl ne_e3a_aR)
      have F93_first_o1 := F92_first_o1.other W93 (Or.inl ne_aR_o1.symm)
      have F93_last_o1 := F92_last_o1.other W93 (Or.inl ne_aR_o1.symm)
      have Z93 : n0 ≤ h93.size := by rw [W93.size]; exact Z92
      clear O92 Z92 V92_aE E92_e0a E92_e1a E92_e2a E92_e3a E92_o1 F92_previous_e0a F92_next_e0a F92_previous_e1a F92_next_e1a F92_previous_e2a F92_next_e2a F92_previous_e3a F92_next_e3a F92_first_o1 F92_last_o1 V92_aR W93
      have N93 := Fr.snoc X93 P92 g_aR
      obtain ⟨lc93, Y93, P93⟩ := own_hide X93 N93
      clear X93 N93
      clear Y92 e92
      refine own_st st93 ?_
      clear st93
      show own_Go p e below _ T93 (mkF m 192 #[iv p1, iv p2, iv 3, iv 2, rv aE, rv aR, rv o1, rv e2a, iv 2] [])
      refine own_st (fun _ k => XS.iload Y93.here hx rfl (hb hby at_192) rfl k) ?_
      show own_Go p e below _ T93 (mkF m 194 #[iv p1, iv p2, iv 3, iv 2, rv aE, rv aR, rv o1, rv e2a, iv 2] [(.int 2)])
      refine own_st (fun _ k => XT.iconstV Y93.here hx rfl (2 : Int32) (hb hby at_194) (by decide) k) ?_
      show own_Go p e below _ T93 (mkF m 195 #[iv p1, iv p2, iv 3, iv 2, rv aE, rv aR, rv o1, rv e2a, iv 2] [(.int 2), (.int 2)])
      refine own_st (fun _ k => XS.icmpYes Y93.here hx rfl (pc0 := 195) (pc' := 215) rfl (hb hby at_195) rfl (XT.ii_le_t (by decide)) (by decide) (by decide) k) ?_
      show own_Go p e below _ T93 (mkF m 215 #[iv p1, iv p2, iv 3, iv 2, rv aE, rv aR, rv o1, rv e2a, iv 2] [])
      refine own_st (fun _ k => XS.aload Y93.here hx rfl (hb hby at_215) rfl rfl k) ?_
      show own_Go p e below _ T93 (mkF m 217 #[iv p1, iv p2, iv 3, iv 2, rv aE, rv aR, rv o1, rv e2a, iv 2] [(.ref e2a)])
      obtain ⟨T94, X94, e94, st94⟩ := getF Y93 hx hZ hown (host := "") (Or.inl (hw _ (List.mem_of_getElem? (i := 44) rfl))) (Via.of (hw _ (List.mem_of_getElem? (i := 45) rfl))) e93 F93_previous_e2a (g := (mkF m 217 #[iv p1, iv p2, iv 3, iv 2, rv aE, rv aR, rv o1, rv e2a, iv 2] [(.ref e2a)])) rfl rfl (hb hby at_217)
      clear Y93 e93
      refine own_st st94 ?_
      clear st94
      show own_Go p e below _ T94 (mkF m 220 #[iv p1, iv p2, iv 3, iv 2, rv aE, rv aR, rv o1, rv e2a, iv 2] [.null])
      refine own_st (fun _ k => XT.ifnonnullNo X94.here hx rfl (hb hby at_220) rfl k) ?_
      show own_Go p e below _ T94 (mkF m 223 #[iv p1, iv p2, iv 3, iv 2, rv aE, rv aR, rv o1, rv e2a, iv 2] [])
      refine own_st (fun _ k => XS.aload X94.here hx rfl (hb hby at_223) rfl rfl k) ?_
      show own_Go p e below _ T94 (mkF m 225 #[iv p1, iv p2, iv 3, iv 2, rv aE, rv aR, rv o1, rv e2a, iv 2] [(.ref e2a)])
      obtain ⟨T95, X95, e95, st95⟩ := getF X94 hx hZ hown (host := "") (Or.inl (hw _ (List.mem_of_getElem? (i := 46) rfl))) (Via.of (hw _ (List.mem_of_getElem? (i := 47) rfl))) e94 F93_next_e2a (g := (mkF m 225 #[iv p1, iv p2, iv 3, iv 2, rv aE, rv aR, rv o1, rv e2a, iv 2] [(.ref e2a)])) rfl rfl (hb hby at_225)
      clear X94 e94
      refine own_st st95 ?_
      clear st95
      show own_Go p e below _ T95 (mkF m 228 #[iv p1, iv p2, iv 3, iv 2, rv aE, rv aR, rv o1, rv e2a, iv 2] [.null])
      refine own_st (fun _ k => XS.ifnullYes X95.here hx rfl (pc0 := 228) (pc' := 233) rfl (hb hby at_228) rfl (by decide) (by decide) k) ?_
      show own_Go p e below _ T95 (mkF m 233 #[iv p1, iv p2, iv 3, iv 2, rv aE, rv aR, rv o1, rv e2a, iv 2] [])
      refine own_st (fun _ k => XS.aload X95.here hx rfl (hb hby at_233) rfl rfl k) ?_
      show own_Go p e below _ T95 (mkF m 235 #[iv p1, iv p2, iv 3, iv 2, rv aE, rv aR, rv o1, rv e2a, iv 2] [(.ref o1)])
      obtain ⟨cq96, kq96, q96a, q96b, q96c⟩ := isOf hZ e95 E93_o1
      obtain ⟨_, T96, L96, X96, hQ96, st96⟩ := own_gotT (X95.virtualBack hx (y := (⟨"com/example/recency/recency/RecencyList", "first", "()Lcom/example/recency/recency/RecencyList$Link;"⟩ : MethodName)) (z := (⟨"com/example/recency/recency/RecencyList", "first", "()Lcom/example/recency/recency/RecencyList$Link;"⟩ : MethodName)) hown (mvT hZ (hw _ (List.mem_of_getElem? (i := 48) rfl))) (mvT hZ (hw _ (List.mem_of_getElem? (i := 49) rfl))) (notFace_of_selects (args := #[]) (mvT hZ (hw _ (List.mem_of_getElem? (i := 51) rfl)))) (mvT hZ (hw _ (List.mem_of_getElem? (i := 51) rfl))) (mvT hZ (hw _ (List.mem_of_getElem? (i := 50) rfl))) (by decide) (backOf (W := 0) (own_rm_fst l Z a0 hw [] o1 (.ref e0a) h93 n0 Z93 rfl F93_first_o1) hZ (hw _ (List.mem_of_getElem? (i := 52) rfl)) (hw _ (List.mem_of_getElem? (i := 19) rfl)) (by decide) (by decide)) q96a q96c (g := (mkF m 235 #[iv p1, iv p2, iv 3, iv 2, rv aE, rv aR, rv o1, rv e2a, iv 2] [(.ref o1)])) rfl (by rw [hml]; rfl) (Steps.refl _) (argsL := []) (rest := []) (lenOf own_pd2 rfl) rfl (by show 2 * 0 + _ ≤ _; exact Nat.le_of_eq rfl) (hb hby at_235) (fun _ _ => ⟨rfl, e95, (by decide : 7 + 0 ≤ _), (by decide : 17 + 0 ≤ _)⟩))
      replace X96 := own_num X96 (k' := 7) (n' := 17) rfl rfl
      obtain ⟨rfl, N96, eh96⟩ := hQ96
      have M96 := Fr.app P93 N96
      obtain ⟨lc96, Y96, P96⟩ := own_hide X96 M96
      refine own_tr st96 ?_
      clear P93 X95 N96 e95 X96 M96 st96
      show own_Go p e below _ T96 (mkF m 238 #[iv p1, iv p2, iv 3, iv 2, rv aE, rv aR, rv o1, rv e2a, iv 2] [(.ref e0a)])
      refine own_st (fun _ k => XS.iload Y96.here hx rfl (hb hby at_238) rfl k) ?_
      show own_Go p e below _ T96 (mkF m 240 #[iv p1, iv p2, iv 3, iv 2, rv aE, rv aR, rv o1, rv e2a, iv 2] [(.int 2), (.ref e0a)])
      refine own_st (fun _ k => XS.ifNo Y96.here hx rfl (hb hby at_240) rfl (XT.i0_le_f (by decide)) k) ?_
      show own_Go p e below _ T96 (mkF m 243 #[iv p1, iv p2, iv 3, iv 2, rv aE, rv aR, rv o1, rv e2a, iv 2] [(.ref e0a)])
      refine own_st (fun _ k => XS.aload Y96.here hx rfl (hb hby at_243) rfl rfl k) ?_
      show own_Go p e below _ T96 (mkF m 245 #[iv p1, iv p2, iv 3, iv 2, rv aE, rv aR, rv o1, rv e2a, iv 2] [(.ref aR), (.ref e0a)])
      refine own_st (fun _ k => XT.iconstV Y96.here hx rfl (0 : Int32) (hb hby at_245) (by decide) k) ?_
      show own_Go p e below _ T96 (mkF m 246 #[iv p1, iv p2, iv 3, iv 2, rv aE, rv aR, rv o1, rv e2a, iv 2] [(.int 0), (.ref aR), (.ref e0a)])
      refine own_st (fun _ k => own_ldR Y96 hx hZ eh96 V93_aR rfl ⟨by decide, by decide⟩ (v := (.ref e0a)) rfl rfl rfl (hb hby at_246) k) ?_
      show own_Go p e below _ T96 (mkF m 247 #[iv p1, iv p2, iv 3, iv 2, rv aE, rv aR, rv o1, rv e2a, iv 2] [(.ref e0a), (.ref e0a)])
      refine own_st (fun _ k => XS.goto Y96.here hx rfl (pc0 := 247) (pc' := 251) rfl (hb hby at_247) (by decide) (by decide) k) ?_
      show own_Go p e below _ T96 (mkF m 251 #[iv p1, iv p2, iv 3, iv 2, rv aE, rv aR, rv o1, rv e2a, iv 2] [(.ref e0a), (.ref e0a)])
      refine own_st (fun _ k => XT.acmpYes Y96.here hx rfl (pc0 := 251) (pc' := 256) rfl (hb hby at_251) rfl rfl rfl (XT.aa_eq_t rfl) (by decide) (by decide) k) ?_
      show own_Go p e below _ T96 (mkF m 256 #[iv p1, iv p2, iv 3, iv 2, rv aE, rv aR, rv o1, rv e2a, iv 2] [])
      refine own_st (fun _ k => XS.aload Y96.here hx rfl (hb hby at_256) rfl rfl k) ?_
      show own_Go p e below _ T96 (mkF m 258 #[iv p1, iv p2, iv 3, iv 2, rv aE, rv aR, rv o1, rv e2a, iv 2] [(.ref aR)])
      refine own_st (fun _ k => XT.iconstV Y96.here hx rfl (0 : Int32) (hb hby at_258) (by decide) k) ?_
      show own_Go p e below _ T96 (mkF m 259 #[iv p1, iv p2, iv 3, iv 2, rv aE, rv aR, rv o1, rv e2a, iv 2] [(.int 0), (.ref aR)])
      refine own_st (fun _ k => XS.iload Y96.here hx rfl (hb hby at_259) rfl k) ?_
      show own_Go p e below _ T96 (mkF m 261 #[iv p1, iv p2, iv 3, iv 2, rv aE, rv aR, rv o1, rv e2a, iv 2] [(.int 2), (.int 0), (.ref aR)])
      obtain ⟨_, T97, L97, X97, hQ97, st97⟩ := own_gotS (Jvm.LawKit.callS Y96 hx (y := (⟨"com/example/recency/recency/RecencyListRemovePinLaw", "linked", "([Lcom/example/recency/recency/RecencyListRemovePinLaw;II)Z"⟩ : MethodName)) hown (mvT hZ (hw _ (List.mem_of_getElem? (i := 53) rfl))) (mvT hZ (hw _ (List.mem_of_getElem? (i := 54) rfl))) (mvT hZ (hw _ (List.mem_of_getElem? (i := 4) rfl))) (mvT hZ (hw _ (List.mem_of_getElem? (i := 55) rfl))) (by decide) (backOf (W := 0) (own_rm_lk02 l Z a0 hw [] aR k_aR e0a e1a .null h93 n0 Z93 V93_aR F93_previous_e0a F93_next_e0a) hZ (hw _ (List.mem_of_getElem? (i := 55) rfl)) (hw _ (List.mem_of_getElem? (i := 4) rfl)) (by decide) (by decide)) (g := (mkF m 261 #[iv p1, iv p2, iv 3, iv 2, rv aE, rv aR, rv o1, rv e2a, iv 2] [(.int 2), (.int 0), (.ref aR)])) rfl (by rw [hml]; rfl) (argsL := [(.ref aR), (.int (0 : Int32)), (.int (2 : Int32))]) (rest := []) (lenOf own_pd3 rfl) rfl (by show 2 * 0 + _ ≤ _; exact Nat.le_of_eq rfl) (hb hby at_261) (fun _ _ => ⟨rfl, eh96, (by decide : 7 + 0 ≤ _), (by decide : 17 + 0 ≤ _)⟩))
      replace X97 := own_num X97 (k' := 7) (n' := 17) rfl rfl
      obtain ⟨rfl, N97, eh97⟩ := hQ97
      have M97 := Fr.app P96 N97
      obtain ⟨lc97, Y97, P97⟩ := own_hide X97 M97
      refine own_st st97 ?_
      clear P96 Y96 N97 eh96 X97 M97 st97
      show own_Go p e below _ T97 (mkF m 264 #[iv p1, iv p2, iv 3, iv 2, rv aE, rv aR, rv o1, rv e2a, iv 2] [(.int 1)])
      refine own_st (fun _ k => XS.ifNo Y97.here hx rfl (hb hby at_264) rfl (XT.i0_eq_f (by decide)) k) ?_
      show own_Go p e below _ T97 (mkF m 267 #[iv p1, iv p2, iv 3, iv 2, rv aE, rv aR, rv o1, rv e2a, iv 2] [])
      refine own_st (fun _ k => XS.aload Y97.here hx rfl (hb hby at_267) rfl rfl k) ?_
      show own_Go p e below _ T97 (mkF m 269 #[iv p1, iv p2, iv 3, iv 2, rv aE, rv aR, rv o1, rv e2a, iv 2] [(.ref aR)])
      refine own_st (fun _ k => XT.iconstV Y97.here hx rfl (1 : Int32) (hb hby at_269) (by decide) k) ?_
      show own_Go p e below _ T97 (mkF m 270 #[iv p1, iv p2, iv 3, iv 2, rv aE, rv aR, rv o1, rv e2a, iv 2] [(.int 1), (.ref aR)])
      refine own_st (fun _ k => XS.iload Y97.here hx rfl (hb hby at_270) rfl k) ?_
      show own_Go p e below _ T97 (mkF m 272 #[iv p1, iv p2, iv 3, iv 2, rv aE, rv aR, rv o1, rv e2a, iv 2] [(.int 2), (.int 1), (.ref aR)])
      obtain ⟨_, T98, L98, X98, hQ98, st98⟩ := own_gotS (Jvm.LawKit.callS Y97 hx (y := (⟨"com/example/recency/recency/RecencyListRemovePinLaw", "linked", "([Lcom/example/recency/recency/RecencyListRemovePinLaw;II)Z"⟩ : MethodName)) hown (mvT hZ (hw _ (List.mem_of_getElem? (i := 53) rfl))) (mvT hZ (hw _ (List.mem_of_getElem? (i := 54) rfl))) (mvT hZ (hw _ (List.mem_of_getElem? (i := 4) rfl))) (mvT hZ (hw _ (List.mem_of_getElem? (i := 55) rfl))) (by decide) (backOf (W := 0) (own_rm_lk12 l Z a0 hw [] aR k_aR e1a e0a .null h93 n0 Z93 V93_aR F93_previous_e1a F93_next_e1a) hZ (hw _ (List.mem_of_getElem? (i := 55) rfl)) (hw _ (List.mem_of_getElem? (i := 4) rfl)) (by decide) (by decide)) (g := (mkF m 272 #[iv p1, iv p2, iv 3, iv 2, rv aE, rv aR, rv o1, rv e2a, iv 2] [(.int 2), (.int 1), (.ref aR)])) rfl (by rw [hml]; rfl) (argsL := [(.ref aR), (.int (1 : Int32)), (.int (2 : Int32))]) (rest := []) (lenOf own_pd3 rfl) rfl (by show 2 * 0 + _ ≤ _; exact Nat.le_of_eq rfl) (hb hby at_272) (fun _ _ => ⟨rfl, eh97, (by decide : 7 + 0 ≤ _), (by decide : 17 + 0 ≤ _)⟩))
      replace X98 := own_num X98 (k' := 7) (n' := 17) rfl rfl
      obtain ⟨rfl, N98, eh98⟩ := hQ98
      have M98 := Fr.app P97 N98
      obtain ⟨lc98, Y98, P98⟩ := own_hide X98 M98
      refine own_st st98 ?_
      clear P97 Y97 N98 eh97 X98 M98 st98
      show own_Go p e below _ T98 (mkF m 275 #[iv p1, iv p2, iv 3, iv 2, rv aE, rv aR, rv o1, rv e2a, iv 2] [(.int 1)])
      refine own_st (fun _ k => XS.ifNo Y98.here hx rfl (hb hby at_275) rfl (XT.i0_eq_f (by decide)) k) ?_
      show own_Go p e below _ T98 (mkF m 278 #[iv p1, iv p2, iv 3, iv 2, rv aE, rv aR, rv o1, rv e2a, iv 2] [])
      refine own_st (fun _ k => XS.aload Y98.here hx rfl (hb hby at_278) rfl rfl k) ?_
      show own_Go p e below _ T98 (mkF m 280 #[iv p1, iv p2, iv 3, iv 2, rv aE, rv aR, rv o1, rv e2a, iv 2] [(.ref aR)])
      refine own_st (fun _ k => XT.iconstV Y98.here hx rfl (2 : Int32) (hb hby at_280) (by decide) k) ?_
      show own_Go p e below _ T98 (mkF m 281 #[iv p1, iv p2, iv 3, iv 2, rv aE, rv aR, rv o1, rv e2a, iv 2] [(.int 2), (.ref aR)])
      refine own_st (fun _ k => XS.iload Y98.here hx rfl (hb hby at_281) rfl k) ?_
      show own_Go p e below _ T98 (mkF m 283 #[iv p1, iv p2, iv 3, iv 2, rv aE, rv aR, rv o1, rv e2a, iv 2] [(.int 2), (.int 2), (.ref aR)])
      obtain ⟨_, T99, L99, X99, hQ99, st99⟩ := own_gotS (Jvm.LawKit.callS Y98 hx (y := (⟨"com/example/recency/recency/RecencyListRemovePinLaw", "linked", "([Lcom/example/recency/recency/RecencyListRemovePinLaw;II)Z"⟩ : MethodName)) hown (mvT hZ (hw _ (List.mem_of_getElem? (i := 53) rfl))) (mvT hZ (hw _ (List.mem_of_getElem? (i := 54) rfl))) (mvT hZ (hw _ (List.mem_of_getElem? (i := 4) rfl))) (mvT hZ (hw _ (List.mem_of_getElem? (i := 55) rfl))) (by decide) (backOf (W := 0) (own_rm_lk l Z a0 hw [] aR (2 : Int32) (2 : Int32) h93 n0 Z93 (by decide)) hZ (hw _ (List.mem_of_getElem? (i := 55) rfl)) (hw _ (List.mem_of_getElem? (i := 4) rfl)) (by decide) (by decide)) (g := (mkF m 283 #[iv p1, iv p2, iv 3, iv 2, rv aE, rv aR, rv o1, rv e2a, iv 2] [(.int 2), (.int 2), (.ref aR)])) rfl (by rw [hml]; rfl) (argsL := [(.ref aR), (.int (2 : Int32)), (.int (2 : Int32))]) (rest := []) (lenOf own_pd3 rfl) rfl (by show 2 * 0 + _ ≤ _; exact Nat.le_of_eq rfl) (hb hby at_283) (fun _ _ => ⟨rfl, eh98, (by decide : 7 + 0 ≤ _), (by decide : 17 + 0 ≤ _)⟩))
      replace X99 := own_num X99 (k' := 7) (n' := 17) rfl rfl
      obtain ⟨rfl, N99, eh99⟩ := hQ99
      have M99 := Fr.app P98 N99
      obtain ⟨lc99, Y99, P99⟩ := own_hide X99 M99
      refine own_st st99 ?_
      clear P98 Y98 N99 eh98 X99 M99 st99
      show own_Go p e below _ T99 (mkF m 286 #[iv p1, iv p2, iv 3, iv 2, rv aE, rv aR, rv o1, rv e2a, iv 2] [(.int 1)])
      refine own_st (fun _ k => XS.ifYes Y99.here hx rfl (pc0 := 286) (pc' := 291) rfl (hb hby at_286) rfl (XT.i0_ne_t (by decide)) (by decide) (by decide) k) ?_
      show own_Go p e below _ T99 (mkF m 291 #[iv p1, iv p2, iv 3, iv 2, rv aE, rv aR, rv o1, rv e2a, iv 2] [])
      refine own_st (fun _ k => XS.aload Y99.here hx rfl (hb hby at_291) rfl rfl k) ?_
      show own_Go p e below _ T99 (mkF m 293 #[iv p1, iv p2, iv 3, iv 2, rv aE, rv aR, rv o1, rv e2a, iv 2] [(.ref o1)])
      refine own_st (fun _ k => XS.aload Y99.here hx rfl (hb hby at_293) rfl rfl k) ?_
      show own_Go p e below _ T99 (mkF m 295 #[iv p1, iv p2, iv 3, iv 2, rv aE, rv aR, rv o1, rv e2a, iv 2] [(.ref e2a), (.ref o1)])
      obtain ⟨cq100, kq100, q100a, q100b, q100c⟩ := isOf hZ eh99 E93_o1
      obtain ⟨_, T100, L100, X100, hQ100, st100⟩ := own_gotT (Y99.virtualBack hx (y := (⟨"com/example/recency/recency/RecencyList", "addLast", "(Lcom/example/recency/recency/RecencyList$Link;)V"⟩ : MethodName)) (z := (⟨"com/example/recency/recency/RecencyList", "addLast", "(Lcom/example/recency/recency/RecencyList$Link;)V"⟩ : MethodName)) hown (mvT hZ (hw _ (List.mem_of_getElem? (i := 24) rfl))) (mvT hZ (hw _ (List.mem_of_getElem? (i := 25) rfl))) (notFace_of_selects (args := #[]) (mvT hZ (hw _ (List.mem_of_getElem? (i := 27) rfl)))) (mvT hZ (hw _ (List.mem_of_getElem? (i := 27) rfl))) (mvT hZ (hw _ (List.mem_of_getElem? (i := 26) rfl))) (by decide) (backOf (W := 0) (own_rm_addP l Z a0 hw [] o1 e2a e1a e0a e0a h93 n0 Z93 (S_A.ext O93.2) E93_o1 E93_e1a E93_e2a F93_first_o1 F93_last_o1 F93_previous_e1a F93_next_e1a F93_previous_e2a F93_next_e2a g_o1 g_e1a g_e2a ne_e1a_o1.symm ne_e2a_o1.symm ne_e1a_e2a) hZ (hw _ (List.mem_of_getElem? (i := 28) rfl)) (hw _ (List.mem_of_getElem? (i := 19) rfl)) (by decide) (by decide)) q100a q100c (g := (mkF m 295 #[iv p1, iv p2, iv 3, iv 2, rv aE, rv aR, rv o1, rv e2a, iv 2] [(.ref e2a), (.ref o1)])) rfl (by rw [hml]; rfl) (Steps.refl _) (argsL := [(.ref e2a)]) (rest := []) (lenOf own_pd1 rfl) rfl (by show 2 * 0 + _ ≤ _; exact Nat.le_of_eq rfl) (hb hby at_295) (fun _ _ => ⟨rfl, eh99, (by decide : 7 + 0 ≤ _), (by decide : 17 + 0 ≤ _)⟩))
      replace X100 := own_num X100 (k' := 7) (n' := 17) rfl rfl
      obtain ⟨rfl, N100, KC100, FC100_first_o1, FC100_last_o1, FC100_previous_e1a, FC100_next_e1a, FC100_previous_e2a, FC100_next_e2a⟩ := hQ100
      have M100 := Fr.app P99 N100
      obtain ⟨lc100, Y100, P100⟩ := own_hide X100 M100
      refine own_tr st100 ?_
      clear P99 Y99 N100 eh99 X100 M100 st100
      show own_Go p e below _ T100 (mkF m 298 #[iv p1, iv p2, iv 3, iv 2, rv aE, rv aR, rv o1, rv e2a, iv 2] [])
      have O100 := O93.keep KC100 (allS g_o1 (allS g_e1a (allS g_e2a all0)))
      have V100_aE := V93_aE.keep KC100 (ninS ne_aE_o1 (ninS ne_aE_e1a (ninS ne_aE_e2a nin0)))
      have V100_aR := V93_aR.keep KC100 (ninS ne_aR_o1 (ninS ne_e1a_aR.symm (ninS ne_e2a_aR.symm nin0)))
      have E100_e0a := E93_e0a.keep KC100
      have E100_e1a := E93_e1a.keep KC100
      have E100_e2a := E93_e2a.keep KC100
      have E100_e3a := E93_e3a.keep KC100
      have E100_o1 := E93_o1.keep KC100
      have F100_previous_e0a := F93_previous_e0a.keep KC100 (ninS ne_e0a_o1 (ninS ne_e0a_e1a (ninS ne_e0a_e2a nin0)))
      have F100_next_e0a := F93_next_e0a.keep KC100 (ninS ne_e0a_o1 (ninS ne_e0a_e1a (ninS ne_e0a_e2a nin0)))
      have F100_previous_e3a := F93_previous_e3a.keep KC100 (ninS ne_e3a_o1 (ninS ne_e1a_e3a.symm (ninS ne_e2a_e3a.symm nin0)))
      have F100_next_e3a := F93_next_e3a.keep KC100 (ninS ne_e3a_o1 (ninS ne_e1a_e3a.symm (ninS ne_e2a_e3a.symm nin0)))
      have Z100 : n0 ≤ T100.heap.size := Nat.le_trans Z93 KC100.1
      clear O93 Z93 V93_aE V93_aR E93_e0a E93_e1a E93_e2a E93_e3a E93_o1 F93_previous_e0a F93_next_e0a F93_previous_e1a F93_next_e1a F93_previous_e2a F93_next_e2a F93_previous_e3a F93_next_e3a F93_first_o1 F93_last_o1 KC100
      refine own_st (fun _ k => XS.iload Y100.here hx rfl (hb hby at_298) rfl k) ?_
      show own_Go p e below _ T100 (mkF m 300 #[iv p1, iv p2, iv 3, iv 2, rv aE, rv aR, rv o1, rv e2a, iv 2] [(.int 2)])
      refine own_st (fun _ k => XS.ifYes Y100.here hx rfl (pc0 := 300) (pc' := 335) rfl (hb hby at_300) rfl (XT.i0_ne_t (by decide)) (by decide) (by decide) k) ?_
      show own_Go p e below _ T100 (mkF m 335 #[iv p1, iv p2, iv 3, iv 2, rv aE, rv aR, rv o1, rv e2a, iv 2] [])
      refine own_st (fun _ k => XS.aload Y100.here hx rfl (hb hby at_335) rfl rfl k) ?_
      show own_Go p e below _ T100 (mkF m 337 #[iv p1, iv p2, iv 3, iv 2, rv aE, rv aR, rv o1, rv e2a, iv 2] [(.ref o1)])
      obtain ⟨cq101, kq101, q101a, q101b, q101c⟩ := isOf hZ rfl E100_o1
      obtain ⟨_, T101, L101, X101, hQ101, st101⟩ := own_gotT (Y100.virtualBack hx (y := (⟨"com/example/recency/recency/RecencyList", "first", "()Lcom/example/recency/recency/RecencyList$Link;"⟩ : MethodName)) (z := (⟨"com/example/recency/recency/RecencyList", "first", "()Lcom/example/recency/recency/RecencyList$Link;"⟩ : MethodName)) hown (mvT hZ (hw _ (List.mem_of_getElem? (i := 48) rfl))) (mvT hZ (hw _ (List.mem_of_getElem? (i := 49) rfl))) (notFace_of_selects (args := #[]) (mvT hZ (hw _ (List.mem_of_getElem? (i := 51) rfl)))) (mvT hZ (hw _ (List.mem_of_getElem? (i := 51) rfl))) (mvT hZ (hw _ (List.mem_of_getElem? (i := 50) rfl))) (by decide) (backOf (W := 0) (own_rm_fst l Z a0 hw [] o1 (.ref e0a) T100.heap n0 Z100 rfl FC100_first_o1) hZ (hw _ (List.mem_of_getElem? (i := 52) rfl)) (hw _ (List.mem_of_getElem? (i := 19) rfl)) (by decide) (by decide)) q101a q101c (g := (mkF m 337 #[iv p1, iv p2, iv 3, iv 2, rv aE, rv aR, rv o1, rv e2a, iv 2] [(.ref o1)])) rfl (by rw [hml]; rfl) (Steps.refl _) (argsL := []) (rest := []) (lenOf own_pd2 rfl) rfl (by show 2 * 0 + _ ≤ _; exact Nat.le_of_eq rfl) (hb hby at_337) (fun _ _ => ⟨rfl, rfl, (by decide : 7 + 0 ≤ _), (by decide : 17 + 0 ≤ _)⟩))
      replace X101 := own_num X101 (k' := 7) (n' := 17) rfl rfl
      obtain ⟨rfl, N101, eh101⟩ := hQ101
      have M101 := Fr.app P100 N101
      obtain ⟨lc101, Y101, P101⟩ := own_hide X101 M101
      refine own_tr st101 ?_
      clear P100 Y100 N101 X101 M101 st101
      show own_Go p e below _ T101 (mkF m 340 #[iv p1, iv p2, iv 3, iv 2, rv aE, rv aR, rv o1, rv e2a, iv 2] [(.ref e0a)])
      refine own_st (fun _ k => XS.aload Y101.here hx rfl (hb hby at_340) rfl rfl k) ?_
      show own_Go p e below _ T101 (mkF m 342 #[iv p1, iv p2, iv 3, iv 2, rv aE, rv aR, rv o1, rv e2a, iv 2] [(.ref aR), (.ref e0a)])
      refine own_st (fun _ k => XT.iconstV Y101.here hx rfl (0 : Int32) (hb hby at_342) (by decide) k) ?_
      show own_Go p e below _ T101 (mkF m 343 #[iv p1, iv p2, iv 3, iv 2, rv aE, rv aR, rv o1, rv e2a, iv 2] [(.int 0), (.ref aR), (.ref e0a)])
      refine own_st (fun _ k => own_ldR Y101 hx hZ eh101 V100_aR rfl ⟨by decide, by decide⟩ (v := (.ref e0a)) rfl rfl rfl (hb hby at_343) k) ?_
      show own_Go p e below _ T101 (mkF m 344 #[iv p1, iv p2, iv 3, iv 2, rv aE, rv aR, rv o1, rv e2a, iv 2] [(.ref e0a), (.ref e0a)])
      refine own_st (fun _ k => XT.acmpNo Y101.here hx rfl (hb hby at_344) rfl rfl rfl (XT.aa_ne_f rfl) k) ?_
      show own_Go p e below _ T101 (mkF m 347 #[iv p1, iv p2, iv 3, iv 2, rv aE, rv aR, rv o1, rv e2a, iv 2] [])
      refine own_st (fun _ k => XS.aload Y101.here hx rfl (hb hby at_347) rfl rfl k) ?_
      show own_Go p e below _ T101 (mkF m 349 #[iv p1, iv p2, iv 3, iv 2, rv aE, rv aR, rv o1, rv e2a, iv 2] [(.ref e2a)])
      obtain ⟨T102, X102, e102, st102⟩ := getF Y101 hx hZ hown (host := "") (Or.inl (hw _ (List.mem_of_getElem? (i := 44) rfl))) (Via.of (hw _ (List.mem_of_getElem? (i := 45) rfl))) eh101 FC100_previous_e2a (g := (mkF m 349 #[iv p1, iv p2, iv 3, iv 2, rv aE, rv aR, rv o1, rv e2a, iv 2] [(.ref e2a)])) rfl rfl (hb hby at_349)
      clear Y101 eh101
      refine own_st st102 ?_
      clear st102
      show own_Go p e below _ T102 (mkF m 352 #[iv p1, iv p2, iv 3, iv 2, rv aE, rv aR, rv o1, rv e2a, iv 2] [(.ref e1a)])
      refine own_st (fun _ k => XS.aload X102.here hx rfl (hb hby at_352) rfl rfl k) ?_
      show own_Go p e below _ T102 (mkF m 354 #[iv p1, iv p2, iv 3, iv 2, rv aE, rv aR, rv o1, rv e2a, iv 2] [(.ref aR), (.ref e1a)])
      refine own_st (fun _ k => XS.iload X102.here hx rfl (hb hby at_354) rfl k) ?_
      show own_Go p e below _ T102 (mkF m 356 #[iv p1, iv p2, iv 3, iv 2, rv aE, rv aR, rv o1, rv e2a, iv 2] [(.int 2), (.ref aR), (.ref e1a)])
      refine own_st (fun _ k => XT.iconstV X102.here hx rfl (1 : Int32) (hb hby at_356) (by decide) k) ?_
      show own_Go p e below _ T102 (mkF m 357 #[iv p1, iv p2, iv 3, iv 2, rv aE, rv aR, rv o1, rv e2a, iv 2] [(.int 1), (.int 2), (.ref aR), (.ref e1a)])
      refine own_st (fun _ k => XS.isub X102.here hx rfl (hb hby at_357) rfl k) ?_
      show own_Go p e below _ T102 (mkF m 358 #[iv p1, iv p2, iv 3, iv 2, rv aE, rv aR, rv o1, rv e2a, iv 2] [(.int (2 - 1)), (.ref aR), (.ref e1a)])
      rw [show ((2 : Int32) - (1 : Int32)) = (1 : Int32) from by decide]
      show own_Go p e below _ T102 (mkF m 358 #[iv p1, iv p2, iv 3, iv 2, rv aE, rv aR, rv o1, rv e2a, iv 2] [(.int 1), (.ref aR), (.ref e1a)])
      refine own_st (fun _ k => own_ldR X102 hx hZ e102 V100_aR rfl ⟨by decide, by decide⟩ (v := (.ref e1a)) rfl rfl rfl (hb hby at_358) k) ?_
      show own_Go p e below _ T102 (mkF m 359 #[iv p1, iv p2, iv 3, iv 2, rv aE, rv aR, rv o1, rv e2a, iv 2] [(.ref e1a), (.ref e1a)])
      refine own_st (fun _ k => XT.acmpNo X102.here hx rfl (hb hby at_359) rfl rfl rfl (XT.aa_ne_f rfl) k) ?_
      show own_Go p e below _ T102 (mkF m 362 #[iv p1, iv p2, iv 3, iv 2, rv aE, rv aR, rv o1, rv e2a, iv 2] [])
      refine own_st (fun _ k => XS.aload X102.here hx rfl (hb hby at_362) rfl rfl k) ?_
      show own_Go p e below _ T102 (mkF m 364 #[iv p1, iv p2, iv 3, iv 2, rv aE, rv aR, rv o1, rv e2a, iv 2] [(.ref aR)])
      refine own_st (fun _ k => XS.iload X102.here hx rfl (hb hby at_364) rfl k) ?_
      show own_Go p e below _ T102 (mkF m 366 #[iv p1, iv p2, iv 3, iv 2, rv aE, rv aR, rv o1, rv e2a, iv 2] [(.int 2), (.ref aR)])
      refine own_st (fun _ k => XT.iconstV X102.here hx rfl (1 : Int32) (hb hby at_366) (by decide) k) ?_
      show own_Go p e below _ T102 (mkF m 367 #[iv p1, iv p2, iv 3, iv 2, rv aE, rv aR, rv o1, rv e2a, iv 2] [(.int 1), (.int 2), (.ref aR)])
      refine own_st (fun _ k => XS.isub X102.here hx rfl (hb hby at_367) rfl k) ?_
      show own_Go p e below _ T102 (mkF m 368 #[iv p1, iv p2, iv 3, iv 2, rv aE, rv aR, rv o1, rv e2a, iv 2] [(.int (2 - 1)), (.ref aR)])
      rw [show ((2 : Int32) - (1 : Int32)) = (1 : Int32) from by decide]
      show own_Go p e below _ T102 (mkF m 368 #[iv p1, iv p2, iv 3, iv 2, rv aE, rv aR, rv o1, rv e2a, iv 2] [(.int 1), (.ref aR)])
      refine own_st (fun _ k => own_ldR X102 hx hZ e102 V100_aR rfl ⟨by decide, by decide⟩ (v := (.ref e1a)) rfl rfl rfl (hb hby at_368) k) ?_
      show own_Go p e below _ T102 (mkF m 369 #[iv p1, iv p2, iv 3, iv 2, rv aE, rv aR, rv o1, rv e2a, iv 2] [(.ref e1a)])
      obtain ⟨T103, X103, e103, st103⟩ := getF X102 hx hZ hown (host := "") (Or.inl (hw _ (List.mem_of_getElem? (i := 46) rfl))) (Via.of (hw _ (List.mem_of_getElem? (i := 47) rfl))) e102 FC100_next_e1a (g := (mkF m 369 #[iv p1, iv p2, iv 3, iv 2, rv aE, rv aR, rv o1, rv e2a, iv 2] [(.ref e1a)])) rfl rfl (hb hby at_369)
      clear X102 e102
      refine own_st st103 ?_
      clear st103
      show own_Go p e below _ T103 (mkF m 372 #[iv p1, iv p2, iv 3, iv 2, rv aE, rv aR, rv o1, rv e2a, iv 2] [(.ref e2a)])
      refine own_st (fun _ k => XS.aload X103.here hx rfl (hb hby at_372) rfl rfl k) ?_
      show own_Go p e below _ T103 (mkF m 374 #[iv p1, iv p2, iv 3, iv 2, rv aE, rv aR, rv o1, rv e2a, iv 2] [(.ref e2a), (.ref e2a)])
      refine own_st (fun _ k => XT.acmpNo X103.here hx rfl (hb hby at_374) rfl rfl rfl (XT.aa_ne_f rfl) k) ?_
      show own_Go p e below _ T103 (mkF m 377 #[iv p1, iv p2, iv 3, iv 2, rv aE, rv aR, rv o1, rv e2a, iv 2] [])
      refine own_st (fun _ k => XS.aload X103.here hx rfl (hb hby at_377) rfl rfl k) ?_
      show own_Go p e below _ T103 (mkF m 379 #[iv p1, iv p2, iv 3, iv 2, rv aE, rv aR, rv o1, rv e2a, iv 2] [(.ref e2a)])
      obtain ⟨T104, X104, e104, st104⟩ := getF X103 hx hZ hown (host := "") (Or.inl (hw _ (List.mem_of_getElem? (i := 46) rfl))) (Via.of (hw _ (List.mem_of_getElem? (i := 47) rfl))) e103 FC100_next_e2a (g := (mkF m 379 #[iv p1, iv p2, iv 3, iv 2, rv aE, rv aR, rv o1, rv e2a, iv 2] [(.ref e2a)])) rfl rfl (hb hby at_379)
      clear X103 e103
      refine own_st st104 ?_
      clear st104
      show own_Go p e below _ T104 (mkF m 382 #[iv p1, iv p2, iv 3, iv 2, rv aE, rv aR, rv o1, rv e2a, iv 2] [.null])
      refine own_st (fun _ k => XT.ifnonnullNo X104.here hx rfl (hb hby at_382) rfl k) ?_
      show own_Go p e below _ T104 (mkF m 385 #[iv p1, iv p2, iv 3, iv 2, rv aE, rv aR, rv o1, rv e2a, iv 2] [])
      refine own_st (fun _ k => XT.iconstV X104.here hx rfl (1 : Int32) (hb hby at_385) (by decide) k) ?_
      show own_Go p e below _ T104 (mkF m 386 #[iv p1, iv p2, iv 3, iv 2, rv aE, rv aR, rv o1, rv e2a, iv 2] [(.int 1)])
      refine own_st (fun _ k => XS.goto X104.here hx rfl (pc0 := 386) (pc' := 390) rfl (hb hby at_386) (by decide) (by decide) k) ?_
      show own_Go p e below _ T104 (mkF m 390 #[iv p1, iv p2, iv 3, iv 2, rv aE, rv aR, rv o1, rv e2a, iv 2] [(.int 1)])
      refine own_retN X104 hx Bd.notSynchronized (t := .boolean) Bd.returns (by simp) (hb hby at_390) (by decide) (by decide) ?_
      rw [e104]
      exact ⟨rfl, P101⟩
  · show own_Go p e below _ T17 (mkF m 89 #[iv p1, iv p2, iv 4, iv ((p2 &&& 2147483647) % 4), rv aE, rv aR, rv o1, .unset, .unset] [(.int 1), (.int 4)])
    refine own_st (fun _ k => XS.icmpNo Y17.here hx rfl (hb hby at_89) rfl (XT.ii_le_f (by decide)) k) ?_
    show own_Go p e below _ T17 (mkF m 92 #[iv p1, iv p2, iv 4, iv ((p2 &&& 2147483647) % 4), rv aE, rv aR, rv o1, .unset, .unset] [])
    refine own_st (fun _ k => XS.aload Y17.here hx rfl (hb hby at_92) rfl rfl k) ?_
    show own_Go p e below _ T17 (mkF m 94 #[iv p1, iv p2, iv 4, iv ((p2 &&& 2147483647) % 4), rv aE, rv aR, rv o1, .unset, .unset] [(.ref o1)])
    refine own_st (fun _ k => XS.aload Y17.here hx rfl (hb hby at_94) rfl rfl k) ?_
    show own_Go p e below _ T17 (mkF m 96 #[iv p1, iv p2, iv 4, iv ((p2 &&& 2147483647) % 4), rv aE, rv aR, rv o1, .unset, .unset] [(.ref aE), (.ref o1)])
    refine own_st (fun _ k => XT.iconstV Y17.here hx rfl (1 : Int32) (hb hby at_96) (by decide) k) ?_
    show own_Go p e below _ T17 (mkF m 97 #[iv p1, iv p2, iv 4, iv ((p2 &&& 2147483647) % 4), rv aE, rv aR, rv o1, .unset, .unset] [(.int 1), (.ref aE), (.ref o1)])
    refine own_st (fun _ k => own_ldR Y17 hx hZ rfl V17_aE rfl ⟨by decide, by decide⟩ (v := (.ref e1a)) rfl rfl rfl (hb hby at_97) k) ?_
    show own_Go p e below _ T17 (mkF m 98 #[iv p1, iv p2, iv 4, iv ((p2 &&& 2147483647) % 4), rv aE, rv aR, rv o1, .unset, .unset] [(.ref e1a), (.ref o1)])
    obtain ⟨cq106, kq106, q106a, q106b, q106c⟩ := isOf hZ rfl E17_o1
    obtain ⟨_, T106, L106, X106, hQ106, st106⟩ := own_gotT (Y17.virtualBack hx (y := (⟨"com/example/recency/recency/RecencyList", "addLast", "(Lcom/example/recency/recency/RecencyList$Link;)V"⟩ : MethodName)) (z := (⟨"com/example/recency/recency/RecencyList", "addLast", "(Lcom/example/recency/recency/RecencyList$Link;)V"⟩ : MethodName)) hown (mvT hZ (hw _ (List.mem_of_getElem? (i := 24) rfl))) (mvT hZ (hw _ (List.mem_of_getElem? (i := 25) rfl))) (notFace_of_selects (args := #[]) (mvT hZ (hw _ (List.mem_of_getElem? (i := 27) rfl)))) (mvT hZ (hw _ (List.mem_of_getElem? (i := 27) rfl))) (mvT hZ (hw _ (List.mem_of_getElem? (i := 26) rfl))) (by decide) (backOf (W := 0) (own_rm_addN l Z a0 hw [] o1 e1a e0a e0a T17.heap n0 Z17 (S_A.ext O17.2) E17_o1 E17_e0a E17_e1a FC17_first_o1 FC17_last_o1 F17_previous_e0a F17_next_e0a F17_previous_e1a F17_next_e1a g_o1 g_e0a g_e1a ne_e0a_o1.symm ne_e1a_o1.symm ne_e0a_e1a) hZ (hw _ (List.mem_of_getElem? (i := 28) rfl)) (hw _ (List.mem_of_getElem? (i := 19) rfl)) (by decide) (by decide)) q106a q106c (g := (mkF m 98 #[iv p1, iv p2, iv 4, iv ((p2 &&& 2147483647) % 4), rv aE, rv aR, rv o1, .unset, .unset] [(.ref e1a), (.ref o1)])) rfl (by rw [hml]; rfl) (Steps.refl _) (argsL := [(.ref e1a)]) (rest := []) (lenOf own_pd1 rfl) rfl (by show 2 * 0 + _ ≤ _; exact Nat.le_of_eq rfl) (hb hby at_98) (fun _ _ => ⟨rfl, rfl, (by decide : 7 + 0 ≤ _), (by decide : 17 + 0 ≤ _)⟩))
    replace X106 := own_num X106 (k' := 7) (n' := 17) rfl rfl
    obtain ⟨rfl, N106, KC106, FC106_first_o1, FC106_last_o1, FC106_previous_e0a, FC106_next_e0a, FC106_previous_e1a, FC106_next_e1a⟩ := hQ106
    have M106 := Fr.app P17 N106
    obtain ⟨lc106, Y106, P106⟩ := own_hide X106 M106
    refine own_tr st106 ?_
    clear P17 Y17 N106 X106 M106 st106
    show own_Go p e below _ T106 (mkF m 101 #[iv p1, iv p2, iv 4, iv ((p2 &&& 2147483647) % 4), rv aE, rv aR, rv o1, .unset, .unset] [])
    have O106 := O17.keep KC106 (allS g_o1 (allS g_e0a (allS g_e1a all0)))
    have V106_aE := V17_aE.keep KC106 (ninS ne_aE_o1 (ninS ne_aE_e0a (ninS ne_aE_e1a nin0)))
    have V106_aR := V17_aR.keep KC106 (ninS ne_aR_o1 (ninS ne_e0a_aR.symm (ninS ne_e1a_aR.symm nin0)))
    have E106_e0a := E17_e0a.keep KC106
    have E106_e1a := E17_e1a.keep KC106
    have E106_e2a := E17_e2a.keep KC106
    have E106_e3a := E17_e3a.keep KC106
    have E106_o1 := E17_o1.keep KC106
    have F106_previous_e2a := F17_previous_e2a.keep KC106 (ninS ne_e2a_o1 (ninS ne_e0a_e2a.symm (ninS ne_e1a_e2a.symm nin0)))
    have F106_next_e2a := F17_next_e2a.keep KC106 (ninS ne_e2a_o1 (ninS ne_e0a_e2a.symm (ninS ne_e1a_e2a.symm nin0)))
    have F106_previous_e3a := F17_previous_e3a.keep KC106 (ninS ne_e3a_o1 (ninS ne_e0a_e3a.symm (ninS ne_e1a_e3a.symm nin0)))
    have F106_next_e3a := F17_next_e3a.keep KC106 (ninS ne_e3a_o1 (ninS ne_e0a_e3a.symm (ninS ne_e1a_e3a.symm nin0)))
    have Z106 : n0 ≤ T106.heap.size := Nat.le_trans Z17 KC106.1
    clear O17 Z17 V17_aE V17_aR E17_e0a E17_e1a E17_e2a E17_e3a E17_o1 F17_previous_e0a F17_next_e0a F17_previous_e1a F17_next_e1a F17_previous_e2a F17_next_e2a F17_previous_e3a F17_next_e3a FC17_first_o1 FC17_last_o1 KC106
    refine own_st (fun _ k => XS.iloadN Y106.here hx rfl (hb hby at_101) rfl k) ?_
    show own_Go p e below _ T106 (mkF m 102 #[iv p1, iv p2, iv 4, iv ((p2 &&& 2147483647) % 4), rv aE, rv aR, rv o1, .unset, .unset] [(.int 4)])
    refine own_st (fun _ k => XT.iconstV Y106.here hx rfl (2 : Int32) (hb hby at_102) (by decide) k) ?_
    show own_Go p e below _ T106 (mkF m 103 #[iv p1, iv p2, iv 4, iv ((p2 &&& 2147483647) % 4), rv aE, rv aR, rv o1, .unset, .unset] [(.int 2), (.int 4)])
    refine own_st (fun _ k => XS.icmpNo Y106.here hx rfl (hb hby at_103) rfl (XT.ii_le_f (by decide)) k) ?_
    show own_Go p e below _ T106 (mkF m 106 #[iv p1, iv p2, iv 4, iv ((p2 &&& 2147483647) % 4), rv aE, rv aR, rv o1, .unset, .unset] [])
    refine own_st (fun _ k => XS.aload Y106.here hx rfl (hb hby at_106) rfl rfl k) ?_
    show own_Go p e below _ T106 (mkF m 108 #[iv p1, iv p2, iv 4, iv ((p2 &&& 2147483647) % 4), rv aE, rv aR, rv o1, .unset, .unset] [(.ref o1)])
    refine own_st (fun _ k => XS.aload Y106.here hx rfl (hb hby at_108) rfl rfl k) ?_
    show own_Go p e below _ T106 (mkF m 110 #[iv p1, iv p2, iv 4, iv ((p2 &&& 2147483647) % 4), rv aE, rv aR, rv o1, .unset, .unset] [(.ref aE), (.ref o1)])
    refine own_st (fun _ k => XT.iconstV Y106.here hx rfl (2 : Int32) (hb hby at_110) (by decide) k) ?_
    show own_Go p e below _ T106 (mkF m 111 #[iv p1, iv p2, iv 4, iv ((p2 &&& 2147483647) % 4), rv aE, rv aR, rv o1, .unset, .unset] [(.int 2), (.ref aE), (.ref o1)])
    refine own_st (fun _ k => own_ldR Y106 hx hZ rfl V106_aE rfl ⟨by decide, by decide⟩ (v := (.ref e2a)) rfl rfl rfl (hb hby at_111) k) ?_
    show own_Go p e below _ T106 (mkF m 112 #[iv p1, iv p2, iv 4, iv ((p2 &&& 2147483647) % 4), rv aE, rv aR, rv o1, .unset, .unset] [(.ref e2a), (.ref o1)])
    obtain ⟨cq107, kq107, q107a, q107b, q107c⟩ := isOf hZ rfl E106_o1
    obtain ⟨_, T107, L107, X107, hQ107, st107⟩ := own_gotT (Y106.virtualBack hx (y := (⟨"com/example/recency/recency/RecencyList", "addLast", "(Lcom/example/recency/recency/RecencyList$Link;)V"⟩ : MethodName)) (z := (⟨"com/example/recency/recency/RecencyList", "addLast", "(Lcom/example/recency/recency/RecencyList$Link;)V"⟩ : MethodName)) hown (mvT hZ (hw _ (List.mem_of_getElem? (i := 24) rfl))) (mvT hZ (hw _ (List.mem_of_getElem? (i := 25) rfl))) (notFace_of_selects (args := #[]) (mvT hZ (hw _ (List.mem_of_getElem? (i := 27) rfl)))) (mvT hZ (hw _ (List.mem_of_getElem? (i := 27) rfl))) (mvT hZ (hw _ (List.mem_of_getElem? (i := 26) rfl))) (by decide) (backOf (W := 0) (own_rm_addP l Z a0 hw [] o1 e2a e1a e0a e0a T106.heap n0 Z106 (S_A.ext O106.2) E106_o1 E106_e1a E106_e2a FC106_first_o1 FC106_last_o1 FC106_previous_e1a FC106_next_e1a F106_previous_e2a F106_next_e2a g_o1 g_e1a g_e2a ne_e1a_o1.symm ne_e2a_o1.symm ne_e1a_e2a) hZ (hw _ (List.mem_of_getElem? (i := 28) rfl)) (hw _ (List.mem_of_getElem? (i := 19) rfl)) (by decide) (by decide)) q107a q107c (g := (mkF m 112 #[iv p1, iv p2, iv 4, iv ((p2 &&& 2147483647) % 4), rv aE, rv aR, rv o1, .unset, .unset] [(.ref e2a), (.ref o1)])) rfl (by rw [hml]; rfl) (Steps.refl _) (argsL := [(.ref e2a)]) (rest := []) (lenOf own_pd1 rfl) rfl (by show 2 * 0 + _ ≤ _; exact Nat.le_of_eq rfl) (hb hby at_112) (fun _ _ => ⟨rfl, rfl, (by decide : 7 + 0 ≤ _), (by decide : 17 + 0 ≤ _)⟩))
    replace X107 := own_num X107 (k' := 7) (n' := 17) rfl rfl
    obtain ⟨rfl, N107, KC107, FC107_first_o1, FC107_last_o1, FC107_previous_e1a, FC107_next_e1a, FC107_previous_e2a, FC107_next_e2a⟩ := hQ107
    have M107 := Fr.app P106 N107
    obtain ⟨lc107, Y107, P107⟩ := own_hide X107 M107
    refine own_tr st107 ?_
    clear P106 Y106 N107 X107 M107 st107
    show own_Go p e below _ T107 (mkF m 115 #[iv p1, iv p2, iv 4, iv ((p2 &&& 2147483647) % 4), rv aE, rv aR, rv o1, .unset, .unset] [])
    have O107 := O106.keep KC107 (allS g_o1 (allS g_e1a (allS g_e2a all0)))
    have V107_aE := V106_aE.keep KC107 (ninS ne_aE_o1 (ninS ne_aE_e1a (ninS ne_aE_e2a nin0)))
    have V107_aR := V106_aR.keep KC107 (ninS ne_aR_o1 (ninS ne_e1a_aR.symm (ninS ne_e2a_aR.symm nin0)))
    have E107_e0a := E106_e0a.keep KC107
    have E107_e1a := E106_e1a.keep KC107
    have E107_e2a := E106_e2a.keep KC107
    have E107_e3a := E106_e3a.keep KC107
    have E107_o1 := E106_o1.keep KC107
    have F107_previous_e0a := FC106_previous_e0a.keep KC107 (ninS ne_e0a_o1 (ninS ne_e0a_e1a (ninS ne_e0a_e2a nin0)))
    have F107_next_e0a := FC106_next_e0a.keep KC107 (ninS ne_e0a_o1 (ninS ne_e0a_e1a (ninS ne_e0a_e2a nin0)))
    have F107_previous_e3a := F106_previous_e3a.keep KC107 (ninS ne_e3a_o1 (ninS ne_e1a_e3a.symm (ninS ne_e2a_e3a.symm nin0)))
    have F107_next_e3a := F106_next_e3a.keep KC107 (ninS ne_e3a_o1 (ninS ne_e1a_e3a.symm (ninS ne_e2a_e3a.symm nin0)))
    have Z107 : n0 ≤ T107.heap.size := Nat.le_trans Z106 KC107.1
    clear O106 Z106 V106_aE V106_aR E106_e0a E106_e1a E106_e2a E106_e3a E106_o1 FC106_previous_e0a FC106_next_e0a FC106_previous_e1a FC106_next_e1a F106_previous_e2a F106_next_e2a F106_previous_e3a F106_next_e3a FC106_first_o1 FC106_last_o1 KC107
    refine own_st (fun _ k => XS.iloadN Y107.here hx rfl (hb hby at_115) rfl k) ?_
    show own_Go p e below _ T107 (mkF m 116 #[iv p1, iv p2, iv 4, iv ((p2 &&& 2147483647) % 4), rv aE, rv aR, rv o1, .unset, .unset] [(.int 4)])
    refine own_st (fun _ k => XT.iconstV Y107.here hx rfl (3 : Int32) (hb hby at_116) (by decide) k) ?_
    show own_Go p e below _ T107 (mkF m 117 #[iv p1, iv p2, iv 4, iv ((p2 &&& 2147483647) % 4), rv aE, rv aR, rv o1, .unset, .unset] [(.int 3), (.int 4)])
    refine own_st (fun _ k => XS.icmpNo Y107.here hx rfl (hb hby at_117) rfl (XT.ii_le_f (by decide)) k) ?_
    show own_Go p e below _ T107 (mkF m 120 #[iv p1, iv p2, iv 4, iv ((p2 &&& 2147483647) % 4), rv aE, rv aR, rv o1, .unset, .unset] [])
    refine own_st (fun _ k => XS.aload Y107.here hx rfl (hb hby at_120) rfl rfl k) ?_
    show own_Go p e below _ T107 (mkF m 122 #[iv p1, iv p2, iv 4, iv ((p2 &&& 2147483647) % 4), rv aE, rv aR, rv o1, .unset, .unset] [(.ref o1)])
    refine own_st (fun _ k => XS.aload Y107.here hx rfl (hb hby at_122) rfl rfl k) ?_
    show own_Go p e below _ T107 (mkF m 124 #[iv p1, iv p2, iv 4, iv ((p2 &&& 2147483647) % 4), rv aE, rv aR, rv o1, .unset, .unset] [(.ref aE), (.ref o1)])
    refine own_st (fun _ k => XT.iconstV Y107.here hx rfl (3 : Int32) (hb hby at_124) (by decide) k) ?_
    show own_Go p e below _ T107 (mkF m 125 #[iv p1, iv p2, iv 4, iv ((p2 &&& 2147483647) % 4), rv aE, rv aR, rv o1, .unset, .unset] [(.int 3), (.ref aE), (.ref o1)])
    refine own_st (fun _ k => own_ldR Y107 hx hZ rfl V107_aE rfl ⟨by decide, by decide⟩ (v := (.ref e3a)) rfl rfl rfl (hb hby at_125) k) ?_
    show own_Go p e below _ T107 (mkF m 126 #[iv p1, iv p2, iv 4, iv ((p2 &&& 2147483647) % 4), rv aE, rv aR, rv o1, .unset, .unset] [(.ref e3a), (.ref o1)])
    obtain ⟨cq108, kq108, q108a, q108b, q108c⟩ := isOf hZ rfl E107_o1
    obtain ⟨_, T108, L108, X108, hQ108, st108⟩ := own_gotT (Y107.virtualBack hx (y := (⟨"com/example/recency/recency/RecencyList", "addLast", "(Lcom/example/recency/recency/RecencyList$Link;)V"⟩ : MethodName)) (z := (⟨"com/example/recency/recency/RecencyList", "addLast", "(Lcom/example/recency/recency/RecencyList$Link;)V"⟩ : MethodName)) hown (mvT hZ (hw _ (List.mem_of_getElem? (i := 24) rfl))) (mvT hZ (hw _ (List.mem_of_getElem? (i := 25) rfl))) (notFace_of_selects (args := #[]) (mvT hZ (hw _ (List.mem_of_getElem? (i := 27) rfl)))) (mvT hZ (hw _ (List.mem_of_getElem? (i := 27) rfl))) (mvT hZ (hw _ (List.mem_of_getElem? (i := 26) rfl))) (by decide) (backOf (W := 0) (own_rm_addP l Z a0 hw [] o1 e3a e2a e0a e1a T107.heap n0 Z107 (S_A.ext O107.2) E107_o1 E107_e2a E107_e3a FC107_first_o1 FC107_last_o1 FC107_previous_e2a FC107_next_e2a F107_previous_e3a F107_next_e3a g_o1 g_e2a g_e3a ne_e2a_o1.symm ne_e3a_o1.symm ne_e2a_e3a) hZ (hw _ (List.mem_of_getElem? (i := 28) rfl)) (hw _ (List.mem_of_getElem? (i := 19) rfl)) (by decide) (by decide)) q108a q108c (g := (mkF m 126 #[iv p1, iv p2, iv 4, iv ((p2 &&& 2147483647) % 4), rv aE, rv aR, rv o1, .unset, .unset] [(.ref e3a), (.ref o1)])) rfl (by rw [hml]; rfl) (Steps.refl _) (argsL := [(.ref e3a)]) (rest := []) (lenOf own_pd1 rfl) rfl (by show 2 * 0 + _ ≤ _; exact Nat.le_of_eq rfl) (hb hby at_126) (fun _ _ => ⟨rfl, rfl, (by decide : 7 + 0 ≤ _), (by decide : 17 + 0 ≤ _)⟩))
    replace X108 := own_num X108 (k' := 7) (n' := 17) rfl rfl
    obtain ⟨rfl, N108, KC108, FC108_first_o1, FC108_last_o1, FC108_previous_e2a, FC108_next_e2a, FC108_previous_e3a, FC108_next_e3a⟩ := hQ108
    have M108 := Fr.app P107 N108
    obtain ⟨lc108, Y108, P108⟩ := own_hide X108 M108
    refine own_tr st108 ?_
    clear P107 Y107 N108 X108 M108 st108
    show own_Go p e below _ T108 (mkF m 129 #[iv p1, iv p2, iv 4, iv ((p2 &&& 2147483647) % 4), rv aE, rv aR, rv o1, .unset, .unset] [])
    have O108 := O107.keep KC108 (allS g_o1 (allS g_e2a (allS g_e3a all0)))
    have V108_aE := V107_aE.keep KC108 (ninS ne_aE_o1 (ninS ne_aE_e2a (ninS ne_aE_e3a nin0)))
    have V108_aR := V107_aR.keep KC108 (ninS ne_aR_o1 (ninS ne_e2a_aR.symm (ninS ne_e3a_aR.symm nin0)))
    have E108_e0a := E107_e0a.keep KC108
    have E108_e1a := E107_e1a.keep KC108
    have E108_e2a := E107_e2a.keep KC108
    have E108_e3a := E107_e3a.keep KC108
    have E108_o1 := E107_o1.keep KC108
    have F108_previous_e0a := F107_previous_e0a.keep KC108 (ninS ne_e0a_o1 (ninS ne_e0a_e2a (ninS ne_e0a_e3a nin0)))
    have F108_next_e0a := F107_next_e0a.keep KC108 (ninS ne_e0a_o1 (ninS ne_e0a_e2a (ninS ne_e0a_e3a nin0)))
    have F108_previous_e1a := FC107_previous_e1a.keep KC108 (ninS ne_e1a_o1 (ninS ne_e1a_e2a (ninS ne_e1a_e3a nin0)))
    have F108_next_e1a := FC107_next_e1a.keep KC108 (ninS ne_e1a_o1 (ninS ne_e1a_e2a (ninS ne_e1a_e3a nin0)))
    have Z108 : n0 ≤ T108.heap.size := Nat.le_trans Z107 KC108.1
    clear O107 Z107 V107_aE V107_aR E107_e0a E107_e1a E107_e2a E107_e3a E107_o1 F107_previous_e0a F107_next_e0a FC107_previous_e1a FC107_next_e1a FC107_previous_e2a FC107_next_e2a F107_previous_e3a F107_next_e3a FC107_first_o1 FC107_last_o1 KC108
    refine own_st (fun _ k => XS.aload Y108.here hx rfl (hb hby at_129) rfl rfl k) ?_
    show own_Go p e below _ T108 (mkF m 131 #[iv p1, iv p2, iv 4, iv ((p2 &&& 2147483647) % 4), rv aE, rv aR, rv o1, .unset, .unset] [(.ref aE)])
    refine own_st (fun _ k => XS.iloadN Y108.here hx rfl (hb hby at_131) rfl k) ?_
    show own_Go p e below _ T108 (mkF m 132 #[iv p1, iv p2, iv 4, iv ((p2 &&& 2147483647) % 4), rv aE, rv aR, rv o1, .unset, .unset] [(.int ((p2 &&& 2147483647) % 4)), (.ref aE)])
    obtain ⟨kk, hkk, hk⟩ := own_cases4 p2
    rw [hkk]
    show own_Go p e below _ T108 (mkF m 132 #[iv p1, iv p2, iv 4, iv kk, rv aE, rv aR, rv o1, .unset, .unset] [(.int kk), (.ref aE)])
    rcases hk with rfl | rfl | rfl | rfl
    · show own_Go p e below _ T108 (mkF m 132 #[iv p1, iv p2, iv 4, iv 0, rv aE, rv aR, rv o1, .unset, .unset] [(.int 0), (.ref aE)])
      refine own_st (fun _ k => own_ldR Y108 hx hZ rfl V108_aE rfl ⟨by decide, by decide⟩ (v := (.ref e0a)) rfl rfl rfl (hb hby at_132) k) ?_
      show own_Go p e below _ T108 (mkF m 133 #[iv p1, iv p2, iv 4, iv 0, rv aE, rv aR, rv o1, .unset, .unset] [(.ref e0a)])
      refine own_st (fun _ k => XS.astore Y108.here hx rfl (hb hby at_133) rfl rfl (l' := #[iv p1, iv p2, iv 4, iv 0, rv aE, rv aR, rv o1, rv e0a, .unset]) rfl k) ?_
      show own_Go p e below _ T108 (mkF m 135 #[iv p1, iv p2, iv 4, iv 0, rv aE, rv aR, rv o1, rv e0a, .unset] [])
      refine own_st (fun _ k => XS.aload Y108.here hx rfl (hb hby at_135) rfl rfl k) ?_
      show own_Go p e below _ T108 (mkF m 137 #[iv p1, iv p2, iv 4, iv 0, rv aE, rv aR, rv o1, rv e0a, .unset] [(.ref o1)])
      refine own_st (fun _ k => XS.aload Y108.here hx rfl (hb hby at_137) rfl rfl k) ?_
      show own_Go p e below _ T108 (mkF m 139 #[iv p1, iv p2, iv 4, iv 0, rv aE, rv aR, rv o1, rv e0a, .unset] [(.ref e0a), (.ref o1)])
      obtain ⟨cq109, kq109, q109a, q109b, q109c⟩ := isOf hZ rfl E108_o1
      obtain ⟨_, T109, L109, X109, hQ109, st109⟩ := own_gotT (Y108.virtualBack hx (y := (⟨"com/example/recency/recency/RecencyList", "remove", "(Lcom/example/recency/recency/RecencyList$Link;)V"⟩ : MethodName)) (z := (⟨"com/example/recency/recency/RecencyList", "remove", "(Lcom/example/recency/recency/RecencyList$Link;)V"⟩ : MethodName)) hown (mvT hZ (hw _ (List.mem_of_getElem? (i := 35) rfl))) (mvT hZ (hw _ (List.mem_of_getElem? (i := 36) rfl))) (notFace_of_selects (args := #[]) (mvT hZ (hw _ (List.mem_of_getElem? (i := 38) rfl)))) (mvT hZ (hw _ (List.mem_of_getElem? (i := 38) rfl))) (mvT hZ (hw _ (List.mem_of_getElem? (i := 37) rfl))) (by decide) (backOf (W := 0) (own_rm_rem01D l Z a0 hw [] o1 e0a e1a e3a e2a T108.heap n0 Z108 (S_A.ext O108.2) E108_o1 E108_e0a E108_e1a FC108_first_o1 FC108_last_o1 F108_previous_e0a F108_next_e0a F108_previous_e1a F108_next_e1a g_o1 g_e0a g_e1a ne_e0a_o1.symm ne_e1a_o1.symm ne_e0a_e1a) hZ (hw _ (List.mem_of_getElem? (i := 39) rfl)) (hw _ (List.mem_of_getElem? (i := 19) rfl)) (by decide) (by decide)) q109a q109c (g := (mkF m 139 #[iv p1, iv p2, iv 4, iv 0, rv aE, rv aR, rv o1, rv e0a, .unset] [(.ref e0a), (.ref o1)])) rfl (by rw [hml]; rfl) (Steps.refl _) (argsL := [(.ref e0a)]) (rest := []) (lenOf own_pd1 rfl) rfl (by show 2 * 0 + _ ≤ _; exact Nat.le_of_eq rfl) (hb hby at_139) (fun _ _ => ⟨rfl, rfl, (by decide : 7 + 0 ≤ _), (by decide : 17 + 0 ≤ _)⟩))
      replace X109 := own_num X109 (k' := 7) (n' := 17) rfl rfl
      obtain ⟨rfl, N109, KC109, FC109_first_o1, FC109_last_o1, FC109_previous_e0a, FC109_next_e0a, FC109_previous_e1a, FC109_next_e1a⟩ := hQ109
      have M109 := Fr.app P108 N109
      obtain ⟨lc109, Y109, P109⟩ := own_hide X109 M109
      refine own_tr st109 ?_
      clear P108 Y108 N109 X109 M109 st109
      show own_Go p e below _ T109 (mkF m 142 #[iv p1, iv p2, iv 4, iv 0, rv aE, rv aR, rv o1, rv e0a, .unset] [])
      have O109 := O108.keep KC109 (allS g_o1 (allS g_e0a (allS g_e1a all0)))
      have V109_aE := V108_aE.keep KC109 (ninS ne_aE_o1 (ninS ne_aE_e0a (ninS ne_aE_e1a nin0)))
      have V109_aR := V108_aR.keep KC109 (ninS ne_aR_o1 (ninS ne_e0a_aR.symm (ninS ne_e1a_aR.symm nin0)))
      have E109_e0a := E108_e0a.keep KC109
      have E109_e1a := E108_e1a.keep KC109
      have E109_e2a := E108_e2a.keep KC109
      have E109_e3a := E108_e3a.keep KC109
      have E109_o1 := E108_o1.keep KC109
      have F109_previous_e2a := FC108_previous_e2a.keep KC109 (ninS ne_e2a_o1 (ninS ne_e0a_e2a.symm (ninS ne_e1a_e2a.symm nin0)))
      have F109_next_e2a := FC108_next_e2a.keep KC109 (ninS ne_e2a_o1 (ninS ne_e0a_e2a.symm (ninS ne_e1a_e2a.symm nin0)))
      have F109_previous_e3a := FC108_previous_e3a.keep KC109 (ninS ne_e3a_o1 (ninS ne_e0a_e3a.symm (ninS ne_e1a_e3a.symm nin0)))
      have F109_next_e3a := FC108_next_e3a.keep KC109 (ninS ne_e3a_o1 (ninS ne_e0a_e3a.symm (ninS ne_e1a_e3a.symm nin0)))
      have Z109 : n0 ≤ T109.heap.size := Nat.le_trans Z108 KC109.1
      clear O108 Z108 V108_aE V108_aR E108_e0a E108_e1a E108_e2a E108_e3a E108_o1 F108_previous_e0a F108_next_e0a F108_previous_e1a F108_next_e1a FC108_previous_e2a FC108_next_e2a FC108_previous_e3a FC108_next_e3a FC108_first_o1 FC108_last_o1 KC109
      refine own_st (fun _ k => XS.iloadN Y109.here hx rfl (hb hby at_142) rfl k) ?_
      show own_Go p e below _ T109 (mkF m 143 #[iv p1, iv p2, iv 4, iv 0, rv aE, rv aR, rv o1, rv e0a, .unset] [(.int 4)])
      refine own_st (fun _ k => XT.iconstV Y109.here hx rfl (1 : Int32) (hb hby at_143) (by decide) k) ?_
      show own_Go p e below _ T109 (mkF m 144 #[iv p1, iv p2, iv 4, iv 0, rv aE, rv aR, rv o1, rv e0a, .unset] [(.int 1), (.int 4)])
      refine own_st (fun _ k => XS.isub Y109.here hx rfl (hb hby at_144) rfl k) ?_
      show own_Go p e below _ T109 (mkF m 145 #[iv p1, iv p2, iv 4, iv 0, rv aE, rv aR, rv o1, rv e0a, .unset] [(.int (4 - 1))])
      refine own_st (fun _ k => XS.istore Y109.here hx rfl (hb hby at_145) rfl (l' := #[iv p1, iv p2, iv 4, iv 0, rv aE, rv aR, rv o1, rv e0a, iv (4 - 1)]) rfl k) ?_
      show own_Go p e below _ T109 (mkF m 147 #[iv p1, iv p2, iv 4, iv 0, rv aE, rv aR, rv o1, rv e0a, iv (4 - 1)] [])
      refine own_st (fun _ k => XS.iload Y109.here hx rfl (hb hby at_147) rfl k) ?_
      show own_Go p e below _ T109 (mkF m 149 #[iv p1, iv p2, iv 4, iv 0, rv aE, rv aR, rv o1, rv e0a, iv (4 - 1)] [(.int (4 - 1))])
      rw [show ((4 : Int32) - (1 : Int32)) = (3 : Int32) from by decide]
      show own_Go p e below _ T109 (mkF m 149 #[iv p1, iv p2, iv 4, iv 0, rv aE, rv aR, rv o1, rv e0a, iv 3] [(.int 3)])
      refine own_st (fun _ k => XS.ifNo Y109.here hx rfl (hb hby at_149) rfl (XT.i0_le_f (by decide)) k) ?_
      show own_Go p e below _ T109 (mkF m 152 #[iv p1, iv p2, iv 4, iv 0, rv aE, rv aR, rv o1, rv e0a, iv 3] [])
      refine own_st (fun _ k => XS.aload Y109.here hx rfl (hb hby at_152) rfl rfl k) ?_
      show own_Go p e below _ T109 (mkF m 154 #[iv p1, iv p2, iv 4, iv 0, rv aE, rv aR, rv o1, rv e0a, iv 3] [(.ref aR)])
      refine own_st (fun _ k => XT.iconstV Y109.here hx rfl (0 : Int32) (hb hby at_154) (by decide) k) ?_
      show own_Go p e below _ T109 (mkF m 155 #[iv p1, iv p2, iv 4, iv 0, rv aE, rv aR, rv o1, rv e0a, iv 3] [(.int 0), (.ref aR)])
      refine own_st (fun _ k => XS.aload Y109.here hx rfl (hb hby at_155) rfl rfl k) ?_
      show own_Go p e below _ T109 (mkF m 157 #[iv p1, iv p2, iv 4, iv 0, rv aE, rv aR, rv o1, rv e0a, iv 3] [(.ref aE), (.int 0), (.ref aR)])
      refine own_st (fun _ k => XT.iconstV Y109.here hx rfl (0 : Int32) (hb hby at_157) (by decide) k) ?_
      show own_Go p e below _ T109 (mkF m 158 #[iv p1, iv p2, iv 4, iv 0, rv aE, rv aR, rv o1, rv e0a, iv 3] [(.int 0), (.ref aE), (.int 0), (.ref aR)])
      refine own_st (fun _ k => XS.iloadN Y109.here hx rfl (hb hby at_158) rfl k) ?_
      show own_Go p e below _ T109 (mkF m 159 #[iv p1, iv p2, iv 4, iv 0, rv aE, rv aR, rv o1, rv e0a, iv 3] [(.int 0), (.int 0), (.ref aE), (.int 0), (.ref aR)])
      refine own_st (fun _ k => XS.icmpYes Y109.here hx rfl (pc0 := 159) (pc' := 166) rfl (hb hby at_159) rfl (XT.ii_ge_t (by decide)) (by decide) (by decide) k) ?_
      show own_Go p e below _ T109 (mkF m 166 #[iv p1, iv p2, iv 4, iv 0, rv aE, rv aR, rv o1, rv e0a, iv 3] [(.ref aE), (.int 0), (.ref aR)])
      refine own_st (fun _ k => XT.iconstV Y109.here hx rfl (1 : Int32) (hb hby at_166) (by decide) k) ?_
      show own_Go p e below _ T109 (mkF m 167 #[iv p1, iv p2, iv 4, iv 0, rv aE, rv aR, rv o1, rv e0a, iv 3] [(.int 1), (.ref aE), (.int 0), (.ref aR)])
      refine own_st (fun _ k => own_ldR Y109 hx hZ rfl V109_aE rfl ⟨by decide, by decide⟩ (v := (.ref e1a)) rfl rfl rfl (hb hby at_167) k) ?_
      show own_Go p e below _ T109 (mkF m 168 #[iv p1, iv p2, iv 4, iv 0, rv aE, rv aR, rv o1, rv e0a, iv 3] [(.ref e1a), (.int 0), (.ref aR)])
      obtain ⟨T110, h110, X110, e110, W110, V110, st110⟩ := own_stR Y109 hx hZ rfl V109_aR Ov_aR (Ins.self E109_e1a) (j := (0 : Int32)) ⟨by decide, by decide⟩ 0 rfl (Nat.le_of_ble_eq_true rfl) (g := (mkF m 168 #[iv p1, iv p2, iv 4, iv 0, rv aE, rv aR, rv o1, rv e0a, iv 3] [(.ref e1a), (.int 0), (.ref aR)])) rfl rfl (hb hby at_168)
      have V110_aR : Arv Z h110 aR k_aR (.object "com/example/recency/recency/RecencyListRemovePinLaw") (3 : Int32) [(.ref e1a), .null, .null] .null := V110
      have O110 := O109.wr W110 g_aR
      have V110_aE := V109_aE.other W110 ne_aE_aR
      have E110_e0a := E109_e0a.wr W110
      have E110_e1a := E109_e1a.wr W110
      have E110_e2a := E109_e2a.wr W110
      have E110_e3a := E109_e3a.wr W110
      have E110_o1 := E109_o1.wr W110
      have F110_previous_e0a := FC109_previous_e0a.other W110 (Or.inl ne_e0a_aR)
      have F110_next_e0a := FC109_next_e0a.other W110 (Or.inl ne_e0a_aR)
      have F110_previous_e1a := FC109_previous_e1a.other W110 (Or.inl ne_e1a_aR)
      have F110_next_e1a := FC109_next_e1a.other W110 (Or.inl ne_e1a_aR)
      have F110_previous_e2a := F109_previous_e2a.other W110 (Or.inl ne_e2a_aR)
      have F110_next_e2a := F109_next_e2a.other W110 (Or.inl ne_e2a_aR)
      have F110_previous_e3a := F109_previous_e3a.other W110 (Or.inl ne_e3a_aR)
      have F110_next_e3a := F109_next_e3a.other W110 (Or.inl ne_e3a_aR)
      have F110_first_o1 := FC109_first_o1.other W110 (Or.inl ne_aR_o1.symm)
      have F110_last_o1 := FC109_last_o1.other W110 (Or.inl ne_aR_o1.symm)
      have Z110 : n0 ≤ h110.size := by rw [W110.size]; exact Z109
      clear O109 Z109 V109_aE E109_e0a E109_e1a E109_e2a E109_e3a E109_o1 FC109_previous_e0a FC109_next_e0a FC109_previous_e1a FC109_next_e1a F109_previous_e2a F109_next_e2a F109_previous_e3a F109_next_e3a FC109_first_o1 FC109_last_o1 V109_aR W110
      have N110 := Fr.snoc X110 P109 g_aR
      obtain ⟨lc110, Y110, P110⟩ := own_hide X110 N110
      clear X110 N110
      clear Y109
      refine own_st st110 ?_
      clear st110
      show own_Go p e below _ T110 (mkF m 169 #[iv p1, iv p2, iv 4, iv 0, rv aE, rv aR, rv o1, rv e0a, iv 3] [])
      refine own_st (fun _ k => XS.iload Y110.here hx rfl (hb hby at_169) rfl k) ?_
      show own_Go p e below _ T110 (mkF m 171 #[iv p1, iv p2, iv 4, iv 0, rv aE, rv aR, rv o1, rv e0a, iv 3] [(.int 3)])
      refine own_st (fun _ k => XT.iconstV Y110.here hx rfl (1 : Int32) (hb hby at_171) (by decide) k) ?_
      show own_Go p e below _ T110 (mkF m 172 #[iv p1, iv p2, iv 4, iv 0, rv aE, rv aR, rv o1, rv e0a, iv 3] [(.int 1), (.int 3)])
      refine own_st (fun _ k => XS.icmpNo Y110.here hx rfl (hb hby at_172) rfl (XT.ii_le_f (by decide)) k) ?_
      show own_Go p e below _ T110 (mkF m 175 #[iv p1, iv p2, iv 4, iv 0, rv aE, rv aR, rv o1, rv e0a, iv 3] [])
      refine own_st (fun _ k => XS.aload Y110.here hx rfl (hb hby at_175) rfl rfl k) ?_
      show own_Go p e below _ T110 (mkF m 177 #[iv p1, iv p2, iv 4, iv 0, rv aE, rv aR, rv o1, rv e0a, iv 3] [(.ref aR)])
      refine own_st (fun _ k => XT.iconstV Y110.here hx rfl (1 : Int32) (hb hby at_177) (by decide) k) ?_
      show own_Go p e below _ T110 (mkF m 178 #[iv p1, iv p2, iv 4, iv 0, rv aE, rv aR, rv o1, rv e0a, iv 3] [(.int 1), (.ref aR)])
      refine own_st (fun _ k => XS.aload Y110.here hx rfl (hb hby at_178) rfl rfl k) ?_
      show own_Go p e below _ T110 (mkF m 180 #[iv p1, iv p2, iv 4, iv 0, rv aE, rv aR, rv o1, rv e0a, iv 3] [(.ref aE), (.int 1), (.ref aR)])
      refine own_st (fun _ k => XT.iconstV Y110.here hx rfl (1 : Int32) (hb hby at_180) (by decide) k) ?_
      show own_Go p e below _ T110 (mkF m 181 #[iv p1, iv p2, iv 4, iv 0, rv aE, rv aR, rv o1, rv e0a, iv 3] [(.int 1), (.ref aE), (.int 1), (.ref aR)])
      refine own_st (fun _ k => XS.iloadN Y110.here hx rfl (hb hby at_181) rfl k) ?_
      show own_Go p e below _ T110 (mkF m 182 #[iv p1, iv p2, iv 4, iv 0, rv aE, rv aR, rv o1, rv e0a, iv 3] [(.int 0), (.int 1), (.ref aE), (.int 1), (.ref aR)])
      refine own_st (fun _ k => XS.icmpYes Y110.here hx rfl (pc0 := 182) (pc' := 189) rfl (hb hby at_182) rfl (XT.ii_ge_t (by decide)) (by decide) (by decide) k) ?_
      show own_Go p e below _ T110 (mkF m 189 #[iv p1, iv p2, iv 4, iv 0, rv aE, rv aR, rv o1, rv e0a, iv 3] [(.ref aE), (.int 1), (.ref aR)])
      refine own_st (fun _ k => XT.iconstV Y110.here hx rfl (2 : Int32) (hb hby at_189) (by decide) k) ?_
      show own_Go p e below _ T110 (mkF m 190 #[iv p1, iv p2, iv 4, iv 0, rv aE, rv aR, rv o1, rv e0a, iv 3] [(.int 2), (.ref aE), (.int 1), (.ref aR)])
      refine own_st (fun _ k => own_ldR Y110 hx hZ e110 V110_aE rfl ⟨by decide, by decide⟩ (v := (.ref e2a)) rfl rfl rfl (hb hby at_190) k) ?_
      show own_Go p e below _ T110 (mkF m 191 #[iv p1, iv p2, iv 4, iv 0, rv aE, rv aR, rv o1, rv e0a, iv 3] [(.ref e2a), (.int 1), (.ref aR)])
      obtain ⟨T111, h111, X111, e111, W111, V111, st111⟩ := own_stR Y110 hx hZ e110 V110_aR Ov_aR (Ins.self E110_e2a) (j := (1 : Int32)) ⟨by decide, by decide⟩ 1 rfl (Nat.le_of_ble_eq_true rfl) (g := (mkF m 191 #[iv p1, iv p2, iv 4, iv 0, rv aE, rv aR, rv o1, rv e0a, iv 3] [(.ref e2a), (.int 1), (.ref aR)])) rfl rfl (hb hby at_191)
      have V111_aR : Arv Z h111 aR k_aR (.object "com/example/recency/recency/RecencyListRemovePinLaw") (3 : Int32) [(.ref e1a), (.ref e2a), .null] .null := V111
      have O111 := O110.wr W111 g_aR
      have V111_aE := V110_aE.other W111 ne_aE_aR
      have E111_e0a := E110_e0a.wr W111
      have E111_e1a := E110_e1a.wr W111
      have E111_e2a := E110_e2a.wr W111
      have E111_e3a := E110_e3a.wr W111
      have E111_o1 := E110_o1.wr W111
      have F111_previous_e0a := F110_previous_e0a.other W111 (Or.inl ne_e0a_aR)
      have F111_next_e0a := F110_next_e0a.other W111 (Or.inl ne_e0a_aR)
      have F111_previous_e1a := F110_previous_e1a.other W111 (Or.inl ne_e1a_aR)
      have F111_next_e1a := F110_next_e1a.other W111 (Or.inl ne_e1a_aR)
      have F111_previous_e2a := F110_previous_e2a.other W111 (Or.inl ne_e2a_aR)
      have F111_next_e2a := F110_next_e2a.other W111 (Or.inl ne_e2a_aR)
      have F111_previous_e3a := F110_previous_e3a.other W111 (Or.inl ne_e3a_aR)
      have F111_next_e3a := F110_next_e3a.other W111 (Or.inl ne_e3a_aR)
      have F111_first_o1 := F110_first_o1.other W111 (Or.inl ne_aR_o1.symm)
      have F111_last_o1 := F110_last_o1.other W111 (Or.inl ne_aR_o1.symm)
      have Z111 : n0 ≤ h111.size := by rw [W111.size]; exact Z110
      clear O110 Z110 V110_aE E110_e0a E110_e1a E110_e2a E110_e3a E110_o1 F110_previous_e0a F110_next_e0a F110_previous_e1a F110_next_e1a F110_previous_e2a F110_next_e2a F110_previous_e3a F110_next_e3a F110_first_o1 F110_last_o1 V110_aR W111
      have N111 := Fr.snoc X111 P110 g_aR
      obtain ⟨lc111, Y111, P111⟩ := own_hide X111 N111
      clear X111 N111
      clear Y110 e110
      refine own_st st111 ?_
      clear st111
      show own_Go p e below _ T111 (mkF m 192 #[iv p1, iv p2, iv 4, iv 0, rv aE, rv aR, rv o1, rv e0a, iv 3] [])
      refine own_st (fun _ k => XS.iload Y111.here hx rfl (hb hby at_192) rfl k) ?_
      show own_Go p e below _ T111 (mkF m 194 #[iv p1, iv p2, iv 4, iv 0, rv aE, rv aR, rv o1, rv e0a, iv 3] [(.int 3)])
      refine own_st (fun _ k => XT.iconstV Y111.here hx rfl (2 : Int32) (hb hby at_194) (by decide) k) ?_
      show own_Go p e below _ T111 (mkF m 195 #[iv p1, iv p2, iv 4, iv 0, rv aE, rv aR, rv o1, rv e0a, iv 3] [(.int 2), (.int 3)])
      refine own_st (fun _ k => XS.icmpNo Y111.here hx rfl (hb hby at_195) rfl (XT.ii_le_f (by decide)) k) ?_
      show own_Go p e below _ T111 (mkF m 198 #[iv p1, iv p2, iv 4, iv 0, rv aE, rv aR, rv o1, rv e0a, iv 3] [])
      refine own_st (fun _ k => XS.aload Y111.here hx rfl (hb hby at_198) rfl rfl k) ?_
      show own_Go p e below _ T111 (mkF m 200 #[iv p1, iv p2, iv 4, iv 0, rv aE, rv aR, rv o1, rv e0a, iv 3] [(.ref aR)])
      refine own_st (fun _ k => XT.iconstV Y111.here hx rfl (2 : Int32) (hb hby at_200) (by decide) k) ?_
      show own_Go p e below _ T111 (mkF m 201 #[iv p1, iv p2, iv 4, iv 0, rv aE, rv aR, rv o1, rv e0a, iv 3] [(.int 2), (.ref aR)])
      refine own_st (fun _ k => XS.aload Y111.here hx rfl (hb hby at_201) rfl rfl k) ?_
      show own_Go p e below _ T111 (mkF m 203 #[iv p1, iv p2, iv 4, iv 0, rv aE, rv aR, rv o1, rv e0a, iv 3] [(.ref aE), (.int 2), (.ref aR)])
      refine own_st (fun _ k => XT.iconstV Y111.here hx rfl (2 : Int32) (hb hby at_203) (by decide) k) ?_
      show own_Go p e below _ T111 (mkF m 204 #[iv p1, iv p2, iv 4, iv 0, rv aE, rv aR, rv o1, rv e0a, iv 3] [(.int 2), (.ref aE), (.int 2), (.ref aR)])
      refine own_st (fun _ k => XS.iloadN Y111.here hx rfl (hb hby at_204) rfl k) ?_
      show own_Go p e below _ T111 (mkF m 205 #[iv p1, iv p2, iv 4, iv 0, rv aE, rv aR, rv o1, rv e0a, iv 3] [(.int 0), (.int 2), (.ref aE), (.int 2), (.ref aR)])
      refine own_st (fun _ k => XS.icmpYes Y111.here hx rfl (pc0 := 205) (pc' := 212) rfl (hb hby at_205) rfl (XT.ii_ge_t (by decide)) (by decide) (by decide) k) ?_
      show own_Go p e below _ T111 (mkF m 212 #[iv p1, iv p2, iv 4, iv 0, rv aE, rv aR, rv o1, rv e0a, iv 3] [(.ref aE), (.int 2), (.ref aR)])
      refine own_st (fun _ k => XT.iconstV Y111.here hx rfl (3 : Int32) (hb hby at_212) (by decide) k) ?_
      show own_Go p e below _ T111 (mkF m 213 #[iv p1, iv p2, iv 4, iv 0, rv aE, rv aR, rv o1, rv e0a, iv 3] [(.int 3), (.ref aE), (.int 2), (.ref aR)])
      refine own_st (fun _ k => own_ldR Y111 hx hZ e111 V111_aE rfl ⟨by decide, by decide⟩ (v := (.ref e3a)) rfl rfl rfl (hb hby at_213) k) ?_
      show own_Go p e below _ T111 (mkF m 214 #[iv p1, iv p2, iv 4, iv 0, rv aE, rv aR, rv o1, rv e0a, iv 3] [(.ref e3a), (.int 2), (.ref aR)])
      obtain ⟨T112, h112, X112, e112, W112, V112, st112⟩ := own_stR Y111 hx hZ e111 V111_aR Ov_aR (Ins.self E111_e3a) (j := (2 : Int32)) ⟨by decide, by decide⟩ 2 rfl (Nat.le_of_ble_eq_true rfl) (g := (mkF m 214 #[iv p1, iv p2, iv 4, iv 0, rv aE, rv aR, rv o1, rv e0a, iv 3] [(.ref e3a), (.int 2), (.ref aR)])) rfl rfl (hb hby at_214)
      have V112_aR : Arv Z h112 aR k_aR (.object "com/example/recency/recency/RecencyListRemovePinLaw") (3 : Int32) [(.ref e1a), (.ref e2a), (.ref e3a)] .null := V112
      have O112 := O111.wr W112 g_aR
      have V112_aE := V111_aE.other W112 ne_aE_aR
      have E112_e0a := E111_e0a.wr W112
      have E112_e1a := E111_e1a.wr W112
      have E112_e2a := E111_e2a.wr W112
      have E112_e3a := E111_e3a.wr W112
      have E112_o1 := E111_o1.wr W112
      have F112_previous_e0a := F111_previous_e0a.other W112 (Or.inl ne_e0a_aR)
      have F112_next_e0a := F111_next_e0a.other W112 (Or.inl ne_e0a_aR)
      have F112_previous_e1a := F111_previous_e1a.other W112 (Or.inl ne_e1a_aR)
      have F112_next_e1a := F111_next_e1a.other W112 (Or.inl ne_e1a_aR)
      have F112_previous_e2a := F111_previous_e2a.other W112 (Or.inl ne_e2a_aR)
      have F112_next_e2a := F111_next_e2a.other W112 (Or.inl ne_e2a_aR)
      have F112_previous_e3a := F111_previous_e3a.other W112 (Or.inl ne_e3a_aR)
      have F112_next_e3a := F111_next_e3a.other W112 (Or.inl ne_e3a_aR)
      have F112_first_o1 := F111_first_o1.other W112 (Or.inl ne_aR_o1.symm)
      have F112_last_o1 := F111_last_o1.other W112 (Or.inl ne_aR_o1.symm)
      have Z112 : n0 ≤ h112.size := by rw [W112.size]; exact Z111
      clear O111 Z111 V111_aE E111_e0a E111_e1a E111_e2a E111_e3a E111_o1 F111_previous_e0a F111_next_e0a F111_previous_e1a F111_next_e1a F111_previous_e2a F111_next_e2a F111_previous_e3a F111_next_e3a F111_first_o1 F111_last_o1 V111_aR W112
      have N112 := Fr.snoc X112 P111 g_aR
      obtain ⟨lc112, Y112, P112⟩ := own_hide X112 N112
      clear X112 N112
      clear Y111 e111
      refine own_st st112 ?_
      clear st112
      show own_Go p e below _ T112 (mkF m 215 #[iv p1, iv p2, iv 4, iv 0, rv aE, rv aR, rv o1, rv e0a, iv 3] [])
      refine own_st (fun _ k => XS.aload Y112.here hx rfl (hb hby at_215) rfl rfl k) ?_
      show own_Go p e below _ T112 (mkF m 217 #[iv p1, iv p2, iv 4, iv 0, rv aE, rv aR, rv o1, rv e0a, iv 3] [(.ref e0a)])
      obtain ⟨T113, X113, e113, st113⟩ := getF Y112 hx hZ hown (host := "") (Or.inl (hw _ (List.mem_of_getElem? (i := 44) rfl))) (Via.of (hw _ (List.mem_of_getElem? (i := 45) rfl))) e112 F112_previous_e0a (g := (mkF m 217 #[iv p1, iv p2, iv 4, iv 0, rv aE, rv aR, rv o1, rv e0a, iv 3] [(.ref e0a)])) rfl rfl (hb hby at_217)
      clear Y112 e112
      refine own_st st113 ?_
      clear st113
      show own_Go p e below _ T113 (mkF m 220 #[iv p1, iv p2, iv 4, iv 0, rv aE, rv aR, rv o1, rv e0a, iv 3] [.null])
      refine own_st (fun _ k => XT.ifnonnullNo X113.here hx rfl (hb hby at_220) rfl k) ?_
      show own_Go p e below _ T113 (mkF m 223 #[iv p1, iv p2, iv 4, iv 0, rv aE, rv aR, rv o1, rv e0a, iv 3] [])
      refine own_st (fun _ k => XS.aload X113.here hx rfl (hb hby at_223) rfl rfl k) ?_
      show own_Go p e below _ T113 (mkF m 225 #[iv p1, iv p2, iv 4, iv 0, rv aE, rv aR, rv o1, rv e0a, iv 3] [(.ref e0a)])
      obtain ⟨T114, X114, e114, st114⟩ := getF X113 hx hZ hown (host := "") (Or.inl (hw _ (List.mem_of_getElem? (i := 46) rfl))) (Via.of (hw _ (List.mem_of_getElem? (i := 47) rfl))) e113 F112_next_e0a (g := (mkF m 225 #[iv p1, iv p2, iv 4, iv 0, rv aE, rv aR, rv o1, rv e0a, iv 3] [(.ref e0a)])) rfl rfl (hb hby at_225)
      clear X113 e113
      refine own_st st114 ?_
      clear st114
      show own_Go p e below _ T114 (mkF m 228 #[iv p1, iv p2, iv 4, iv 0, rv aE, rv aR, rv o1, rv e0a, iv 3] [.null])
      refine own_st (fun _ k => XS.ifnullYes X114.here hx rfl (pc0 := 228) (pc' := 233) rfl (hb hby at_228) rfl (by decide) (by decide) k) ?_
      show own_Go p e below _ T114 (mkF m 233 #[iv p1, iv p2, iv 4, iv 0, rv aE, rv aR, rv o1, rv e0a, iv 3] [])
      refine own_st (fun _ k => XS.aload X114.here hx rfl (hb hby at_233) rfl rfl k) ?_
      show own_Go p e below _ T114 (mkF m 235 #[iv p1, iv p2, iv 4, iv 0, rv aE, rv aR, rv o1, rv e0a, iv 3] [(.ref o1)])
      obtain ⟨cq115, kq115, q115a, q115b, q115c⟩ := isOf hZ e114 E112_o1
      obtain ⟨_, T115, L115, X115, hQ115, st115⟩ := own_gotT (X114.virtualBack hx (y := (⟨"com/example/recency/recency/RecencyList", "first", "()Lcom/example/recency/recency/RecencyList$Link;"⟩ : MethodName)) (z := (⟨"com/example/recency/recency/RecencyList", "first", "()Lcom/example/recency/recency/RecencyList$Link;"⟩ : MethodName)) hown (mvT hZ (hw _ (List.mem_of_getElem? (i := 48) rfl))) (mvT hZ (hw _ (List.mem_of_getElem? (i := 49) rfl))) (notFace_of_selects (args := #[]) (mvT hZ (hw _ (List.mem_of_getElem? (i := 51) rfl)))) (mvT hZ (hw _ (List.mem_of_getElem? (i := 51) rfl))) (mvT hZ (hw _ (List.mem_of_getElem? (i := 50) rfl))) (by decide) (backOf (W := 0) (own_rm_fst l Z a0 hw [] o1 (.ref e1a) h112 n0 Z112 rfl F112_first_o1) hZ (hw _ (List.mem_of_getElem? (i := 52) rfl)) (hw _ (List.mem_of_getElem? (i := 19) rfl)) (by decide) (by decide)) q115a q115c (g := (mkF m 235 #[iv p1, iv p2, iv 4, iv 0, rv aE, rv aR, rv o1, rv e0a, iv 3] [(.ref o1)])) rfl (by rw [hml]; rfl) (Steps.refl _) (argsL := []) (rest := []) (lenOf own_pd2 rfl) rfl (by show 2 * 0 + _ ≤ _; exact Nat.le_of_eq rfl) (hb hby at_235) (fun _ _ => ⟨rfl, e114, (by decide : 7 + 0 ≤ _), (by decide : 17 + 0 ≤ _)⟩))
      replace X115 := own_num X115 (k' := 7) (n' := 17) rfl rfl
      obtain ⟨rfl, N115, eh115⟩ := hQ115
      have M115 := Fr.app P112 N115
      obtain ⟨lc115, Y115, P115⟩ := own_hide X115 M115
      refine own_tr st115 ?_
      clear P112 X114 N115 e114 X115 M115 st115
      show own_Go p e below _ T115 (mkF m 238 #[iv p1, iv p2, iv 4, iv 0, rv aE, rv aR, rv o1, rv e0a, iv 3] [(.ref e1a)])
      refine own_st (fun _ k => XS.iload Y115.here hx rfl (hb hby at_238) rfl k) ?_
      show own_Go p e below _ T115 (mkF m 240 #[iv p1, iv p2, iv 4, iv 0, rv aE, rv aR, rv o1, rv e0a, iv 3] [(.int 3), (.ref e1a)])
      refine own_st (fun _ k => XS.ifNo Y115.here hx rfl (hb hby at_240) rfl (XT.i0_le_f (by decide)) k) ?_
      show own_Go p e below _ T115 (mkF m 243 #[iv p1, iv p2, iv 4, iv 0, rv aE, rv aR, rv o1, rv e0a, iv 3] [(.ref e1a)])
      refine own_st (fun _ k => XS.aload Y115.here hx rfl (hb hby at_243) rfl rfl k) ?_
      show own_Go p e below _ T115 (mkF m 245 #[iv p1, iv p2, iv 4, iv 0, rv aE, rv aR, rv o1, rv e0a, iv 3] [(.ref aR), (.ref e1a)])
      refine own_st (fun _ k => XT.iconstV Y115.here hx rfl (0 : Int32) (hb hby at_245) (by decide) k) ?_
      show own_Go p e below _ T115 (mkF m 246 #[iv p1, iv p2, iv 4, iv 0, rv aE, rv aR, rv o1, rv e0a, iv 3] [(.int 0), (.ref aR), (.ref e1a)])
      refine own_st (fun _ k => own_ldR Y115 hx hZ eh115 V112_aR rfl ⟨by decide, by decide⟩ (v := (.ref e1a)) rfl rfl rfl (hb hby at_246) k) ?_
      show own_Go p e below _ T115 (mkF m 247 #[iv p1, iv p2, iv 4, iv 0, rv aE, rv aR, rv o1, rv e0a, iv 3] [(.ref e1a), (.ref e1a)])
      refine own_st (fun _ k => XS.goto Y115.here hx rfl (pc0 := 247) (pc' := 251) rfl (hb hby at_247) (by decide) (by decide) k) ?_
      show own_Go p e below _ T115 (mkF m 251 #[iv p1, iv p2, iv 4, iv 0, rv aE, rv aR, rv o1, rv e0a, iv 3] [(.ref e1a), (.ref e1a)])
      refine own_st (fun _ k => XT.acmpYes Y115.here hx rfl (pc0 := 251) (pc' := 256) rfl (hb hby at_251) rfl rfl rfl (XT.aa_eq_t rfl) (by decide) (by decide) k) ?_
      show own_Go p e below _ T115 (mkF m 256 #[iv p1, iv p2, iv 4, iv 0, rv aE, rv aR, rv o1, rv e0a, iv 3] [])
      refine own_st (fun _ k => XS.aload Y115.here hx rfl (hb hby at_256) rfl rfl k) ?_
      show own_Go p e below _ T115 (mkF m 258 #[iv p1, iv p2, iv 4, iv 0, rv aE, rv aR, rv o1, rv e0a, iv 3] [(.ref aR)])
      refine own_st (fun _ k => XT.iconstV Y115.here hx rfl (0 : Int32) (hb hby at_258) (by decide) k) ?_
      show own_Go p e below _ T115 (mkF m 259 #[iv p1, iv p2, iv 4, iv 0, rv aE, rv aR, rv o1, rv e0a, iv 3] [(.int 0), (.ref aR)])
      refine own_st (fun _ k => XS.iload Y115.here hx rfl (hb hby at_259) rfl k) ?_
      show own_Go p e below _ T115 (mkF m 261 #[iv p1, iv p2, iv 4, iv 0, rv aE, rv aR, rv o1, rv e0a, iv 3] [(.int 3), (.int 0), (.ref aR)])
      obtain ⟨_, T116, L116, X116, hQ116, st116⟩ := own_gotS (Jvm.LawKit.callS Y115 hx (y := (⟨"com/example/recency/recency/RecencyListRemovePinLaw", "linked", "([Lcom/example/recency/recency/RecencyListRemovePinLaw;II)Z"⟩ : MethodName)) hown (mvT hZ (hw _ (List.mem_of_getElem? (i := 53) rfl))) (mvT hZ (hw _ (List.mem_of_getElem? (i := 54) rfl))) (mvT hZ (hw _ (List.mem_of_getElem? (i := 4) rfl))) (mvT hZ (hw _ (List.mem_of_getElem? (i := 55) rfl))) (by decide) (backOf (W := 0) (own_rm_lk03 l Z a0 hw [] aR k_aR e1a e2a (.ref e3a) h112 n0 Z112 V112_aR F112_previous_e1a F112_next_e1a) hZ (hw _ (List.mem_of_getElem? (i := 55) rfl)) (hw _ (List.mem_of_getElem? (i := 4) rfl)) (by decide) (by decide)) (g := (mkF m 261 #[iv p1, iv p2, iv 4, iv 0, rv aE, rv aR, rv o1, rv e0a, iv 3] [(.int 3), (.int 0), (.ref aR)])) rfl (by rw [hml]; rfl) (argsL := [(.ref aR), (.int (0 : Int32)), (.int (3 : Int32))]) (rest := []) (lenOf own_pd3 rfl) rfl (by show 2 * 0 + _ ≤ _; exact Nat.le_of_eq rfl) (hb hby at_261) (fun _ _ => ⟨rfl, eh115, (by decide : 7 + 0 ≤ _), (by decide : 17 + 0 ≤ _)⟩))
      replace X116 := own_num X116 (k' := 7) (n' := 17) rfl rfl
      obtain ⟨rfl, N116, eh116⟩ := hQ116
      have M116 := Fr.app P115 N116
      obtain ⟨lc116, Y116, P116⟩ := own_hide X116 M116
      refine own_st st116 ?_
      clear P115 Y115 N116 eh115 X116 M116 st116
      show own_Go p e below _ T116 (mkF m 264 #[iv p1, iv p2, iv 4, iv 0, rv aE, rv aR, rv o1, rv e0a, iv 3] [(.int 1)])
      refine own_st (fun _ k => XS.ifNo Y116.here hx rfl (hb hby at_264) rfl (XT.i0_eq_f (by decide)) k) ?_
      show own_Go p e below _ T116 (mkF m 267 #[iv p1, iv p2, iv 4, iv 0, rv aE, rv aR, rv o1, rv e0a, iv 3] [])
      refine own_st (fun _ k => XS.aload Y116.here hx rfl (hb hby at_267) rfl rfl k) ?_
      show own_Go p e below _ T116 (mkF m 269 #[iv p1, iv p2, iv 4, iv 0, rv aE, rv aR, rv o1, rv e0a, iv 3] [(.ref aR)])
      refine own_st (fun _ k => XT.iconstV Y116.here hx rfl (1 : Int32) (hb hby at_269) (by decide) k) ?_
      show own_Go p e below _ T116 (mkF m 270 #[iv p1, iv p2, iv 4, iv 0, rv aE, rv aR, rv o1, rv e0a, iv 3] [(.int 1), (.ref aR)])
      refine own_st (fun _ k => XS.iload Y116.here hx rfl (hb hby at_270) rfl k) ?_
      show own_Go p e below _ T116 (mkF m 272 #[iv p1, iv p2, iv 4, iv 0, rv aE, rv aR, rv o1, rv e0a, iv 3] [(.int 3), (.int 1), (.ref aR)])
      obtain ⟨_, T117, L117, X117, hQ117, st117⟩ := own_gotS (Jvm.LawKit.callS Y116 hx (y := (⟨"com/example/recency/recency/RecencyListRemovePinLaw", "linked", "([Lcom/example/recency/recency/RecencyListRemovePinLaw;II)Z"⟩ : MethodName)) hown (mvT hZ (hw _ (List.mem_of_getElem? (i := 53) rfl))) (mvT hZ (hw _ (List.mem_of_getElem? (i := 54) rfl))) (mvT hZ (hw _ (List.mem_of_getElem? (i := 4) rfl))) (mvT hZ (hw _ (List.mem_of_getElem? (i := 55) rfl))) (by decide) (backOf (W := 0) (own_rm_lk13 l Z a0 hw [] aR k_aR e2a e1a e3a h112 n0 Z112 V112_aR F112_previous_e2a F112_next_e2a) hZ (hw _ (List.mem_of_getElem? (i := 55) rfl)) (hw _ (List.mem_of_getElem? (i := 4) rfl)) (by decide) (by decide)) (g := (mkF m 272 #[iv p1, iv p2, iv 4, iv 0, rv aE, rv aR, rv o1, rv e0a, iv 3] [(.int 3), (.int 1), (.ref aR)])) rfl (by rw [hml]; rfl) (argsL := [(.ref aR), (.int (1 : Int32)), (.int (3 : Int32))]) (rest := []) (lenOf own_pd3 rfl) rfl (by show 2 * 0 + _ ≤ _; exact Nat.le_of_eq rfl) (hb hby at_272) (fun _ _ => ⟨rfl, eh116, (by decide : 7 + 0 ≤ _), (by decide : 17 + 0 ≤ _)⟩))
      replace X117 := own_num X117 (k' := 7) (n' := 17) rfl rfl
      obtain ⟨rfl, N117, eh117⟩ := hQ117
      have M117 := Fr.app P116 N117
      obtain ⟨lc117, Y117, P117⟩ := own_hide X117 M117
      refine own_st st117 ?_
      clear P116 Y116 N117 eh116 X117 M117 st117
      show own_Go p e below _ T117 (mkF m 275 #[iv p1, iv p2, iv 4, iv 0, rv aE, rv aR, rv o1, rv e0a, iv 3] [(.int 1)])
      refine own_st (fun _ k => XS.ifNo Y117.here hx rfl (hb hby at_275) rfl (XT.i0_eq_f (by decide)) k) ?_
      show own_Go p e below _ T117 (mkF m 278 #[iv p1, iv p2, iv 4, iv 0, rv aE, rv aR, rv o1, rv e0a, iv 3] [])
      refine own_st (fun _ k => XS.aload Y117.here hx rfl (hb hby at_278) rfl rfl k) ?_
      show own_Go p e below _ T117 (mkF m 280 #[iv p1, iv p2, iv 4, iv 0, rv aE, rv aR, rv o1, rv e0a, iv 3] [(.ref aR)])
      refine own_st (fun _ k => XT.iconstV Y117.here hx rfl (2 : Int32) (hb hby at_280) (by decide) k) ?_
      show own_Go p e below _ T117 (mkF m 281 #[iv p1, iv p2, iv 4, iv 0, rv aE, rv aR, rv o1, rv e0a, iv 3] [(.int 2), (.ref aR)])
      refine own_st (fun _ k => XS.iload Y117.here hx rfl (hb hby at_281) rfl k) ?_
      show own_Go p e below _ T117 (mkF m 283 #[iv p1, iv p2, iv 4, iv 0, rv aE, rv aR, rv o1, rv e0a, iv 3] [(.int 3), (.int 2), (.ref aR)])
      obtain ⟨_, T118, L118, X118, hQ118, st118⟩ := own_gotS (Jvm.LawKit.callS Y117 hx (y := (⟨"com/example/recency/recency/RecencyListRemovePinLaw", "linked", "([Lcom/example/recency/recency/RecencyListRemovePinLaw;II)Z"⟩ : MethodName)) hown (mvT hZ (hw _ (List.mem_of_getElem? (i := 53) rfl))) (mvT hZ (hw _ (List.mem_of_getElem? (i := 54) rfl))) (mvT hZ (hw _ (List.mem_of_getElem? (i := 4) rfl))) (mvT hZ (hw _ (List.mem_of_getElem? (i := 55) rfl))) (by decide) (backOf (W := 0) (own_rm_lk23 l Z a0 hw [] aR k_aR e3a e2a (.ref e1a) h112 n0 Z112 V112_aR F112_previous_e3a F112_next_e3a) hZ (hw _ (List.mem_of_getElem? (i := 55) rfl)) (hw _ (List.mem_of_getElem? (i := 4) rfl)) (by decide) (by decide)) (g := (mkF m 283 #[iv p1, iv p2, iv 4, iv 0, rv aE, rv aR, rv o1, rv e0a, iv 3] [(.int 3), (.int 2), (.ref aR)])) rfl (by rw [hml]; rfl) (argsL := [(.ref aR), (.int (2 : Int32)), (.int (3 : Int32))]) (rest := []) (lenOf own_pd3 rfl) rfl (by show 2 * 0 + _ ≤ _; exact Nat.le_of_eq rfl) (hb hby at_283) (fun _ _ => ⟨rfl, eh117, (by decide : 7 + 0 ≤ _), (by decide : 17 + 0 ≤ _)⟩))
      replace X118 := own_num X118 (k' := 7) (n' := 17) rfl rfl
      obtain ⟨rfl, N118, eh118⟩ := hQ118
      have M118 := Fr.app P117 N118
      obtain ⟨lc118, Y118, P118⟩ := own_hide X118 M118
      refine own_st st118 ?_
      clear P117 Y117 N118 eh117 X118 M118 st118
      show own_Go p e below _ T118 (mkF m 286 #[iv p1, iv p2, iv 4, iv 0, rv aE, rv aR, rv o1, rv e0a, iv 3] [(.int 1)])
      refine own_st (fun _ k => XS.ifYes Y118.here hx rfl (pc0 := 286) (pc' := 291) rfl (hb hby at_286) rfl (XT.i0_ne_t (by decide)) (by decide) (by decide) k) ?_
      show own_Go p e below _ T118 (mkF m 291 #[iv p1, iv p2, iv 4, iv 0, rv aE, rv aR, rv o1, rv e0a, iv 3] [])
      refine own_st (fun _ k => XS.aload Y118.here hx rfl (hb hby at_291) rfl rfl k) ?_
      show own_Go p e below _ T118 (mkF m 293 #[iv p1, iv p2, iv 4, iv 0, rv aE, rv aR, rv o1, rv e0a, iv 3] [(.ref o1)])
      refine own_st (fun _ k => XS.aload Y118.here hx rfl (hb hby at_293) rfl rfl k) ?_
      show own_Go p e below _ T118 (mkF m 295 #[iv p1, iv p2, iv 4, iv 0, rv aE, rv aR, rv o1, rv e0a, iv 3] [(.ref e0a), (.ref o1)])
      obtain ⟨cq119, kq119, q119a, q119b, q119c⟩ := isOf hZ eh118 E112_o1
      obtain ⟨_, T119, L119, X119, hQ119, st119⟩ := own_gotT (Y118.virtualBack hx (y := (⟨"com/example/recency/recency/RecencyList", "addLast", "(Lcom/example/recency/recency/RecencyList$Link;)V"⟩ : MethodName)) (z := (⟨"com/example/recency/recency/RecencyList", "addLast", "(Lcom/example/recency/recency/RecencyList$Link;)V"⟩ : MethodName)) hown (mvT hZ (hw _ (List.mem_of_getElem? (i := 24) rfl))) (mvT hZ (hw _ (List.mem_of_getElem? (i := 25) rfl))) (notFace_of_selects (args := #[]) (mvT hZ (hw _ (List.mem_of_getElem? (i := 27) rfl)))) (mvT hZ (hw _ (List.mem_of_getElem? (i := 27) rfl))) (mvT hZ (hw _ (List.mem_of_getElem? (i := 26) rfl))) (by decide) (backOf (W := 0) (own_rm_addP l Z a0 hw [] o1 e0a e3a e1a e2a h112 n0 Z112 (S_A.ext O112.2) E112_o1 E112_e3a E112_e0a F112_first_o1 F112_last_o1 F112_previous_e3a F112_next_e3a F112_previous_e0a F112_next_e0a g_o1 g_e3a g_e0a ne_e3a_o1.symm ne_e0a_o1.symm ne_e0a_e3a.symm) hZ (hw _ (List.mem_of_getElem? (i := 28) rfl)) (hw _ (List.mem_of_getElem? (i := 19) rfl)) (by decide) (by decide)) q119a q119c (g := (mkF m 295 #[iv p1, iv p2, iv 4, iv 0, rv aE, rv aR, rv o1, rv e0a, iv 3] [(.ref e0a), (.ref o1)])) rfl (by rw [hml]; rfl) (Steps.refl _) (argsL := [(.ref e0a)]) (rest := []) (lenOf own_pd1 rfl) rfl (by show 2 * 0 + _ ≤ _; exact Nat.le_of_eq rfl) (hb hby at_295) (fun _ _ => ⟨rfl, eh118, (by decide : 7 + 0 ≤ _), (by decide : 17 + 0 ≤ _)⟩))
      replace X119 := own_num X119 (k' := 7) (n' := 17) rfl rfl
      obtain ⟨rfl, N119, KC119, FC119_first_o1, FC119_last_o1, FC119_previous_e3a, FC119_next_e3a, FC119_previous_e0a, FC119_next_e0a⟩ := hQ119
      have M119 := Fr.app P118 N119
      obtain ⟨lc119, Y119, P119⟩ := own_hide X119 M119
      refine own_tr st119 ?_
      clear P118 Y118 N119 eh118 X119 M119 st119
      show own_Go p e below _ T119 (mkF m 298 #[iv p1, iv p2, iv 4, iv 0, rv aE, rv aR, rv o1, rv e0a, iv 3] [])
      have O119 := O112.keep KC119 (allS g_o1 (allS g_e3a (allS g_e0a all0)))
      have V119_aE := V112_aE.keep KC119 (ninS ne_aE_o1 (ninS ne_aE_e3a (ninS ne_aE_e0a nin0)))
      have V119_aR := V112_aR.keep KC119 (ninS ne_aR_o1 (ninS ne_e3a_aR.symm (ninS ne_e0a_aR.symm nin0)))
      have E119_e0a := E112_e0a.keep KC119
      have E119_e1a := E112_e1a.keep KC119
      have E119_e2a := E112_e2a.keep KC119
      have E119_e3a := E112_e3a.keep KC119
      have E119_o1 := E112_o1.keep KC119
      have F119_previous_e1a := F112_previous_e1a.keep KC119 (ninS ne_e1a_o1 (ninS ne_e1a_e3a (ninS ne_e0a_e1a.symm nin0)))
      have F119_next_e1a := F112_next_e1a.keep KC119 (ninS ne_e1a_o1 (ninS ne_e1a_e3a (ninS ne_e0a_e1a.symm nin0)))
      have F119_previous_e2a := F112_previous_e2a.keep KC119 (ninS ne_e2a_o1 (ninS ne_e2a_e3a (ninS ne_e0a_e2a.symm nin0)))
      have F119_next_e2a := F112_next_e2a.keep KC119 (ninS ne_e2a_o1 (ninS ne_e2a_e3a (ninS ne_e0a_e2a.symm nin0)))
      have Z119 : n0 ≤ T119.heap.size := Nat.le_trans Z112 KC119.1
      clear O112 Z112 V112_aE V112_aR E112_e0a E112_e1a E112_e2a E112_e3a E112_o1 F112_previous_e0a F112_next_e0a F112_previous_e1a F112_next_e1a F112_previous_e2a F112_next_e2a F112_previous_e3a F112_next_e3a F112_first_o1 F112_last_o1 KC119
      refine own_st (fun _ k => XS.iload Y119.here hx rfl (hb hby at_298) rfl k) ?_
      show own_Go p e below _ T119 (mkF m 300 #[iv p1, iv p2, iv 4, iv 0, rv aE, rv aR, rv o1, rv e0a, iv 3] [(.int 3)])
      refine own_st (fun _ k => XS.ifYes Y119.here hx rfl (pc0 := 300) (pc' := 335) rfl (hb hby at_300) rfl (XT.i0_ne_t (by decide)) (by decide) (by decide) k) ?_
      show own_Go p e below _ T119 (mkF m 335 #[iv p1, iv p2, iv 4, iv 0, rv aE, rv aR, rv o1, rv e0a, iv 3] [])
      refine own_st (fun _ k => XS.aload Y119.here hx rfl (hb hby at_335) rfl rfl k) ?_
      show own_Go p e below _ T119 (mkF m 337 #[iv p1, iv p2, iv 4, iv 0, rv aE, rv aR, rv o1, rv e0a, iv 3] [(.ref o1)])
      obtain ⟨cq120, kq120, q120a, q120b, q120c⟩ := isOf hZ rfl E119_o1
      obtain ⟨_, T120, L120, X120, hQ120, st120⟩ := own_gotT (Y119.virtualBack hx (y := (⟨"com/example/recency/recency/RecencyList", "first", "()Lcom/example/recency/recency/RecencyList$Link;"⟩ : MethodName)) (z := (⟨"com/example/recency/recency/RecencyList", "first", "()Lcom/example/recency/recency/RecencyList$Link;"⟩ : MethodName)) hown (mvT hZ (hw _ (List.mem_of_getElem? (i := 48) rfl))) (mvT hZ (hw _ (List.mem_of_getElem? (i := 49) rfl))) (notFace_of_selects (args := #[]) (mvT hZ (hw _ (List.mem_of_getElem? (i := 51) rfl)))) (mvT hZ (hw _ (List.mem_of_getElem? (i := 51) rfl))) (mvT hZ (hw _ (List.mem_of_getElem? (i := 50) rfl))) (by decide) (backOf (W := 0) (own_rm_fst l Z a0 hw [] o1 (.ref e1a) T119.heap n0 Z119 rfl FC119_first_o1) hZ (hw _ (List.mem_of_getElem? (i := 52) rfl)) (hw _ (List.mem_of_getElem? (i := 19) rfl)) (by decide) (by decide)) q120a q120c (g := (mkF m 337 #[iv p1, iv p2, iv 4, iv 0, rv aE, rv aR, rv o1, rv e0a, iv 3] [(.ref o1)])) rfl (by rw [hml]; rfl) (Steps.refl _) (argsL := []) (rest := []) (lenOf own_pd2 rfl) rfl (by show 2 * 0 + _ ≤ _; exact Nat.le_of_eq rfl) (hb hby at_337) (fun _ _ => ⟨rfl, rfl, (by decide : 7 + 0 ≤ _), (by decide : 17 + 0 ≤ _)⟩))
      replace X120 := own_num X120 (k' := 7) (n' := 17) rfl rfl
      obtain ⟨rfl, N120, eh120⟩ := hQ120
      have M120 := Fr.app P119 N120
      obtain ⟨lc120, Y120, P120⟩ := own_hide X120 M120
      refine own_tr st120 ?_
      clear P119 Y119 N120 X120 M120 st120
      show own_Go p e below _ T120 (mkF m 340 #[iv p1, iv p2, iv 4, iv 0, rv aE, rv aR, rv o1, rv e0a, iv 3] [(.ref e1a)])
      refine own_st (fun _ k => XS.aload Y120.here hx rfl (hb hby at_340) rfl rfl k) ?_
      show own_Go p e below _ T120 (mkF m 342 #[iv p1, iv p2, iv 4, iv 0, rv aE, rv aR, rv o1, rv e0a, iv 3] [(.ref aR), (.ref e1a)])
      refine own_st (fun _ k => XT.iconstV Y120.here hx rfl (0 : Int32) (hb hby at_342) (by decide) k) ?_
      show own_Go p e below _ T120 (mkF m 343 #[iv p1, iv p2, iv 4, iv 0, rv aE, rv aR, rv o1, rv e0a, iv 3] [(.int 0), (.ref aR), (.ref e1a)])
      refine own_st (fun _ k => own_ldR Y120 hx hZ eh120 V119_aR rfl ⟨by decide, by decide⟩ (v := (.ref e1a)) rfl rfl rfl (hb hby at_343) k) ?_
      show own_Go p e below _ T120 (mkF m 344 #[iv p1, iv p2, iv 4, iv 0, rv aE, rv aR, rv o1, rv e0a, iv 3] [(.ref e1a), (.ref e1a)])
      refine own_st (fun _ k => XT.acmpNo Y120.here hx rfl (hb hby at_344) rfl rfl rfl (XT.aa_ne_f rfl) k) ?_
      show own_Go p e below _ T120 (mkF m 347 #[iv p1, iv p2, iv 4, iv 0, rv aE, rv aR, rv o1, rv e0a, iv 3] [])
      refine own_st (fun _ k => XS.aload Y120.here hx rfl (hb hby at_347) rfl rfl k) ?_
      show own_Go p e below _ T120 (mkF m 349 #[iv p1, iv p2, iv 4, iv 0, rv aE, rv aR, rv o1, rv e0a, iv 3] [(.ref e0a)])
      obtain ⟨T121, X121, e121, st121⟩ := getF Y120 hx hZ hown (host := "") (Or.inl (hw _ (List.mem_of_getElem? (i := 44) rfl))) (Via.of (hw _ (List.mem_of_getElem? (i := 45) rfl))) eh120 FC119_previous_e0a (g := (mkF m 349 #[iv p1, iv p2, iv 4, iv 0, rv aE, rv aR, rv o1, rv e0a, iv 3] [(.ref e0a)])) rfl rfl (hb hby at_349)
      clear Y120 eh120
      refine own_st st121 ?_
      clear st121
      show own_Go p e below _ T121 (mkF m 352 #[iv p1, iv p2, iv 4, iv 0, rv aE, rv aR, rv o1, rv e0a, iv 3] [(.ref e3a)])
      refine own_st (fun _ k => XS.aload X121.here hx rfl (hb hby at_352) rfl rfl k) ?_
      show own_Go p e below _ T121 (mkF m 354 #[iv p1, iv p2, iv 4, iv 0, rv aE, rv aR, rv o1, rv e0a, iv 3] [(.ref aR), (.ref e3a)])
      refine own_st (fun _ k => XS.iload X121.here hx rfl (hb hby at_354) rfl k) ?_
      show own_Go p e below _ T121 (mkF m 356 #[iv p1, iv p2, iv 4, iv 0, rv aE, rv aR, rv o1, rv e0a, iv 3] [(.int 3), (.ref aR), (.ref e3a)])
      refine own_st (fun _ k => XT.iconstV X121.here hx rfl (1 : Int32) (hb hby at_356) (by decide) k) ?_
      show own_Go p e below _ T121 (mkF m 357 #[iv p1, iv p2, iv 4, iv 0, rv aE, rv aR, rv o1, rv e0a, iv 3] [(.int 1), (.int 3), (.ref aR), (.ref e3a)])
      refine own_st (fun _ k => XS.isub X121.here hx rfl (hb hby at_357) rfl k) ?_
      show own_Go p e below _ T121 (mkF m 358 #[iv p1, iv p2, iv 4, iv 0, rv aE, rv aR, rv o1, rv e0a, iv 3] [(.int (3 - 1)), (.ref aR), (.ref e3a)])
      rw [show ((3 : Int32) - (1 : Int32)) = (2 : Int32) from by decide]
      show own_Go p e below _ T121 (mkF m 358 #[iv p1, iv p2, iv 4, iv 0, rv aE, rv aR, rv o1, rv e0a, iv 3] [(.int 2), (.ref aR), (.ref e3a)])
      refine own_st (fun _ k => own_ldR X121 hx hZ e121 V119_aR rfl ⟨by decide, by decide⟩ (v := (.ref e3a)) rfl rfl rfl (hb hby at_358) k) ?_
      show own_Go p e below _ T121 (mkF m 359 #[iv p1, iv p2, iv 4, iv 0, rv aE, rv aR, rv o1, rv e0a, iv 3] [(.ref e3a), (.ref e3a)])
      refine own_st (fun _ k => XT.acmpNo X121.here hx rfl (hb hby at_359) rfl rfl rfl (XT.aa_ne_f rfl) k) ?_
      show own_Go p e below _ T121 (mkF m 362 #[iv p1, iv p2, iv 4, iv 0, rv aE, rv aR, rv o1, rv e0a, iv 3] [])
      refine own_st (fun _ k => XS.aload X121.here hx rfl (hb hby at_362) rfl rfl k) ?_
      show own_Go p e below _ T121 (mkF m 364 #[iv p1, iv p2, iv 4, iv 0, rv aE, rv aR, rv o1, rv e0a, iv 3] [(.ref aR)])
      refine own_st (fun _ k => XS.iload X121.here hx rfl (hb hby at_364) rfl k) ?_
      show own_Go p e below _ T121 (mkF m 366 #[iv p1, iv p2, iv 4, iv 0, rv aE, rv aR, rv o1, rv e0a, iv 3] [(.int 3), (.ref aR)])
      refine own_st (fun _ k => XT.iconstV X121.here hx rfl (1 : Int32) (hb hby at_366) (by decide) k) ?_
      show own_Go p e below _ T121 (mkF m 367 #[iv p1, iv p2, iv 4, iv 0, rv aE, rv aR, rv o1, rv e0a, iv 3] [(.int 1), (.int 3), (.ref aR)])
      refine own_st (fun _ k => XS.isub X121.here hx rfl (hb hby at_367) rfl k) ?_
      show own_Go p e below _ T121 (mkF m 368 #[iv p1, iv p2, iv 4, iv 0, rv aE, rv aR, rv o1, rv e0a, iv 3] [(.int (3 - 1)), (.ref aR)])
      rw [show ((3 : Int32) - (1 : Int32)) = (2 : Int32) from by decide]
      show own_Go p e below _ T121 (mkF m 368 #[iv p1, iv p2, iv 4, iv 0, rv aE, rv aR, rv o1, rv e0a, iv 3] [(.int 2), (.ref aR)])
      refine own_st (fun _ k => own_ldR X121 hx hZ e121 V119_aR rfl ⟨by decide, by decide⟩ (v := (.ref e3a)) rfl rfl rfl (hb hby at_368) k) ?_
      show own_Go p e below _ T121 (mkF m 369 #[iv p1, iv p2, iv 4, iv 0, rv aE, rv aR, rv o1, rv e0a, iv 3] [(.ref e3a)])
      obtain ⟨T122, X122, e122, st122⟩ := getF X121 hx hZ hown (host := "") (Or.inl (hw _ (List.mem_of_getElem? (i := 46) rfl))) (Via.of (hw _ (List.mem_of_getElem? (i := 47) rfl))) e121 FC119_next_e3a (g := (mkF m 369 #[iv p1, iv p2, iv 4, iv 0, rv aE, rv aR, rv o1, rv e0a, iv 3] [(.ref e3a)])) rfl rfl (hb hby at_369)
      clear X121 e121
      refine own_st st122 ?_
      clear st122
      show own_Go p e below _ T122 (mkF m 372 #[iv p1, iv p2, iv 4, iv 0, rv aE, rv aR, rv o1, rv e0a, iv 3] [(.ref e0a)])
      refine own_st (fun _ k => XS.aload X122.here hx rfl (hb hby at_372) rfl rfl k) ?_
      show own_Go p e below _ T122 (mkF m 374 #[iv p1, iv p2, iv 4, iv 0, rv aE, rv aR, rv o1, rv e0a, iv 3] [(.ref e0a), (.ref e0a)])
      refine own_st (fun _ k => XT.acmpNo X122.here hx rfl (hb hby at_374) rfl rfl rfl (XT.aa_ne_f rfl) k) ?_
      show own_Go p e below _ T122 (mkF m 377 #[iv p1, iv p2, iv 4, iv 0, rv aE, rv aR, rv o1, rv e0a, iv 3] [])
      refine own_st (fun _ k => XS.aload X122.here hx rfl (hb hby at_377) rfl rfl k) ?_
      show own_Go p e below _ T122 (mkF m 379 #[iv p1, iv p2, iv 4, iv 0, rv aE, rv aR, rv o1, rv e0a, iv 3] [(.ref e0a)])
      obtain ⟨T123, X123, e123, st123⟩ := getF X122 hx hZ hown (host := "") (Or.inl (hw _ (List.mem_of_getElem? (i := 46) rfl))) (Via.of (hw _ (List.mem_of_getElem? (i := 47) rfl))) e122 FC119_next_e0a (g := (mkF m 379 #[iv p1, iv p2, iv 4, iv 0, rv aE, rv aR, rv o1, rv e0a, iv 3] [(.ref e0a)])) rfl rfl (hb hby at_379)
      clear X122 e122
      refine own_st st123 ?_
      clear st123
      show own_Go p e below _ T123 (mkF m 382 #[iv p1, iv p2, iv 4, iv 0, rv aE, rv aR, rv o1, rv e0a, iv 3] [.null])
      refine own_st (fun _ k => XT.ifnonnullNo X123.here hx rfl (hb hby at_382) rfl k) ?_
      show own_Go p e below _ T123 (mkF m 385 #[iv p1, iv p2, iv 4, iv 0, rv aE, rv aR, rv o1, rv e0a, iv 3] [])
      refine own_st (fun _ k => XT.iconstV X123.here hx rfl (1 : Int32) (hb hby at_385) (by decide) k) ?_
      show own_Go p e below _ T123 (mkF m 386 #[iv p1, iv p2, iv 4, iv 0, rv aE, rv aR, rv o1, rv e0a, iv 3] [(.int 1)])
      refine own_st (fun _ k => XS.goto X123.here hx rfl (pc0 := 386) (pc' := 390) rfl (hb hby at_386) (by decide) (by decide) k) ?_
      show own_Go p e below _ T123 (mkF m 390 #[iv p1, iv p2, iv 4, iv 0, rv aE, rv aR, rv o1, rv e0a, iv 3] [(.int 1)])
      refine own_retN X123 hx Bd.notSynchronized (t := .boolean) Bd.returns (by simp) (hb hby at_390) (by decide) (by decide) ?_
      rw [e123]
      exact ⟨rfl, P120⟩
    · show own_Go p e below _ T108 (mkF m 132 #[iv p1, iv p2, iv 4, iv 1, rv aE, rv aR, rv o1, .unset, .unset] [(.int 1), (.ref aE)])
      refine own_st (fun _ k => own_ldR Y108 hx hZ rfl V108_aE rfl ⟨by decide, by decide⟩ (v := (.ref e1a)) rfl rfl rfl (hb hby at_132) k) ?_
      show own_Go p e below _ T108 (mkF m 133 #[iv p1, iv p2, iv 4, iv 1, rv aE, rv aR, rv o1, .unset, .unset] [(.ref e1a)])
      refine own_st (fun _ k => XS.astore Y108.here hx rfl (hb hby at_133) rfl rfl (l' := #[iv p1, iv p2, iv 4, iv 1, rv aE, rv aR, rv o1, rv e1a, .unset]) rfl k) ?_
      show own_Go p e below _ T108 (mkF m 135 #[iv p1, iv p2, iv 4, iv 1, rv aE, rv aR, rv o1, rv e1a, .unset] [])
      refine own_st (fun _ k => XS.aload Y108.here hx rfl (hb hby at_135) rfl rfl k) ?_
      show own_Go p e below _ T108 (mkF m 137 #[iv p1, iv p2, iv 4, iv 1, rv aE, rv aR, rv o1, rv e1a, .unset] [(.ref o1)])
      refine own_st (fun _ k => XS.aload Y108.here hx rfl (hb hby at_137) rfl rfl k) ?_
      show own_Go p e below _ T108 (mkF m 139 #[iv p1, iv p2, iv 4, iv 1, rv aE, rv aR, rv o1, rv e1a, .unset] [(.ref e1a), (.ref o1)])
      obtain ⟨cq125, kq125, q125a, q125b, q125c⟩ := isOf hZ rfl E108_o1
      obtain ⟨_, T125, L125, X125, hQ125, st125⟩ := own_gotT (Y108.virtualBack hx (y := (⟨"com/example/recency/recency/RecencyList", "remove", "(Lcom/example/recency/recency/RecencyList$Link;)V"⟩ : MethodName)) (z := (⟨"com/example/recency/recency/RecencyList", "remove", "(Lcom/example/recency/recency/RecencyList$Link;)V"⟩ : MethodName)) hown (mvT hZ (hw _ (List.mem_of_getElem? (i := 35) rfl))) (mvT hZ (hw _ (List.mem_of_getElem? (i := 36) rfl))) (notFace_of_selects (args := #[]) (mvT hZ (hw _ (List.mem_of_getElem? (i := 38) rfl)))) (mvT hZ (hw _ (List.mem_of_getElem? (i := 38) rfl))) (mvT hZ (hw _ (List.mem_of_getElem? (i := 37) rfl))) (by decide) (backOf (W := 0) (own_rm_rem1101 l Z a0 hw [] o1 e1a e0a e2a e0a e3a e3a T108.heap n0 Z108 (S_A.ext O108.2) E108_o1 E108_e1a E108_e0a E108_e2a FC108_first_o1 FC108_last_o1 F108_previous_e1a F108_next_e1a F108_previous_e0a F108_next_e0a FC108_previous_e2a FC108_next_e2a g_o1 g_e1a g_e0a g_e2a ne_e1a_o1.symm ne_e0a_o1.symm ne_e2a_o1.symm ne_e0a_e1a.symm ne_e1a_e2a ne_e0a_e2a) hZ (hw _ (List.mem_of_getElem? (i := 39) rfl)) (hw _ (List.mem_of_getElem? (i := 19) rfl)) (by decide) (by decide)) q125a q125c (g := (mkF m 139 #[iv p1, iv p2, iv 4, iv 1, rv aE, rv aR, rv o1, rv e1a, .unset] [(.ref e1a), (.ref o1)])) rfl (by rw [hml]; rfl) (Steps.refl _) (argsL := [(.ref e1a)]) (rest := []) (lenOf own_pd1 rfl) rfl (by show 2 * 0 + _ ≤ _; exact Nat.le_of_eq rfl) (hb hby at_139) (fun _ _ => ⟨rfl, rfl, (by decide : 7 + 0 ≤ _), (by decide : 17 + 0 ≤ _)⟩))
      replace X125 := own_num X125 (k' := 7) (n' := 17) rfl rfl
      obtain ⟨rfl, N125, KC125, FC125_first_o1, FC125_last_o1, FC125_previous_e1a, FC125_next_e1a, FC125_previous_e0a, FC125_next_e0a, FC125_previous_e2a, FC125_next_e2a⟩ := hQ125
      have M125 := Fr.app P108 N125
      obtain ⟨lc125, Y125, P125⟩ := own_hide X125 M125
      refine own_tr st125 ?_
      clear P108 Y108 N125 X125 M125 st125
      show own_Go p e below _ T125 (mkF m 142 #[iv p1, iv p2, iv 4, iv 1, rv aE, rv aR, rv o1, rv e1a, .unset] [])
      have O125 := O108.keep KC125 (allS g_o1 (allS g_e1a (allS g_e0a (allS g_e2a all0))))
      have V125_aE := V108_aE.keep KC125 (ninS ne_aE_o1 (ninS ne_aE_e1a (ninS ne_aE_e0a (ninS ne_aE_e2a nin0))))
      have V125_aR := V108_aR.keep KC125 (ninS ne_aR_o1 (ninS ne_e1a_aR.symm (ninS ne_e0a_aR.symm (ninS ne_e2a_aR.symm nin0))))
      have E125_e0a := E108_e0a.keep KC125
      have E125_e1a := E108_e1a.keep KC125
      have E125_e2a := E108_e2a.keep KC125
      have E125_e3a := E108_e3a.keep KC125
      have E125_o1 := E108_o1.keep KC125
      have F125_previous_e3a := FC108_previous_e3a.keep KC125 (ninS ne_e3a_o1 (ninS ne_e1a_e3a.symm (ninS ne_e0a_e3a.symm (ninS ne_e2a_e3a.symm nin0))))
      have F125_next_e3a := FC108_next_e3a.keep KC125 (ninS ne_e3a_o1 (ninS ne_e1a_e3a.symm (ninS ne_e0a_e3a.symm (ninS ne_e2a_e3a.symm nin0))))
      have Z125 : n0 ≤ T125.heap.size := Nat.le_trans Z108 KC125.1
      clear O108 Z108 V108_aE V108_aR E108_e0a E108_e1a E108_e2a E108_e3a E108_o1 F108_previous_e0a F108_next_e0a F108_previous_e1a F108_next_e1a FC108_previous_e2a FC108_next_e2a FC108_previous_e3a FC108_next_e3a FC108_first_o1 FC108_last_o1 KC125
      refine own_st (fun _ k => XS.iloadN Y125.here hx rfl (hb hby at_142) rfl k) ?_
      show own_Go p e below _ T125 (mkF m 143 #[iv p1, iv p2, iv 4, iv 1, rv aE, rv aR, rv o1, rv e1a, .unset] [(.int 4)])
      refine own_st (fun _ k => XT.iconstV Y125.here hx rfl (1 : Int32) (hb hby at_143) (by decide) k) ?_
      show own_Go p e below _ T125 (mkF m 144 #[iv p1, iv p2, iv 4, iv 1, rv aE, rv aR, rv o1, rv e1a, .unset] [(.int 1), (.int 4)])
      refine own_st (fun _ k => XS.isub Y125.here hx rfl (hb hby at_144) rfl k) ?_
      show own_Go p e below _ T125 (mkF m 145 #[iv p1, iv p2, iv 4, iv 1, rv aE, rv aR, rv o1, rv e1a, .unset] [(.int (4 - 1))])
      refine own_st (fun _ k => XS.istore Y125.here hx rfl (hb hby at_145) rfl (l' := #[iv p1, iv p2, iv 4, iv 1, rv aE, rv aR, rv o1, rv e1a, iv (4 - 1)]) rfl k) ?_
      show own_Go p e below _ T125 (mkF m 147 #[iv p1, iv p2, iv 4, iv 1, rv aE, rv aR, rv o1, rv e1a, iv (4 - 1)] [])
      refine own_st (fun _ k => XS.iload Y125.here hx rfl (hb hby at_147) rfl k) ?_
      show own_Go p e below _ T125 (mkF m 149 #[iv p1, iv p2, iv 4, iv 1, rv aE, rv aR, rv o1, rv e1a, iv (4 - 1)] [(.int (4 - 1))])
      rw [show ((4 : Int32) - (1 : Int32)) = (3 : Int32) from by decide]
      show own_Go p e below _ T125 (mkF m 149 #[iv p1, iv p2, iv 4, iv 1, rv aE, rv aR, rv o1, rv e1a, iv 3] [(.int 3)])
      refine own_st (fun _ k => XS.ifNo Y125.here hx rfl (hb hby at_149) rfl (XT.i0_le_f (by decide)) k) ?_
      show own_Go p e below _ T125 (mkF m 152 #[iv p1, iv p2, iv 4, iv 1, rv aE, rv aR, rv o1, rv e1a, iv 3] [])
      refine own_st (fun _ k => XS.aload Y125.here hx rfl (hb hby at_152) rfl rfl k) ?_
      show own_Go p e below _ T125 (mkF m 154 #[iv p1, iv p2, iv 4, iv 1, rv aE, rv aR, rv o1, rv e1a, iv 3] [(.ref aR)])
      refine own_st (fun _ k => XT.iconstV Y125.here hx rfl (0 : Int32) (hb hby at_154) (by decide) k) ?_
      show own_Go p e below _ T125 (mkF m 155 #[iv p1, iv p2, iv 4, iv 1, rv aE, rv aR, rv o1, rv e1a, iv 3] [(.int 0), (.ref aR)])
      refine own_st (fun _ k => XS.aload Y125.here hx rfl (hb hby at_155) rfl rfl k) ?_
      show own_Go p e below _ T125 (mkF m 157 #[iv p1, iv p2, iv 4, iv 1, rv aE, rv aR, rv o1, rv e1a, iv 3] [(.ref aE), (.int 0), (.ref aR)])
      refine own_st (fun _ k => XT.iconstV Y125.here hx rfl (0 : Int32) (hb hby at_157) (by decide) k) ?_
      show own_Go p e below _ T125 (mkF m 158 #[iv p1, iv p2, iv 4, iv 1, rv aE, rv aR, rv o1, rv e1a, iv 3] [(.int 0), (.ref aE), (.int 0), (.ref aR)])
      refine own_st (fun _ k => XS.iloadN Y125.here hx rfl (hb hby at_158) rfl k) ?_
      show own_Go p e below _ T125 (mkF m 159 #[iv p1, iv p2, iv 4, iv 1, rv aE, rv aR, rv o1, rv e1a, iv 3] [(.int 1), (.int 0), (.ref aE), (.int 0), (.ref aR)])
      refine own_st (fun _ k => XS.icmpNo Y125.here hx rfl (hb hby at_159) rfl (XT.ii_ge_f (by decide)) k) ?_
      show own_Go p e below _ T125 (mkF m 162 #[iv p1, iv p2, iv 4, iv 1, rv aE, rv aR, rv o1, rv e1a, iv 3] [(.ref aE), (.int 0), (.ref aR)])
      refine own_st (fun _ k => XT.iconstV Y125.here hx rfl (0 : Int32) (hb hby at_162) (by decide) k) ?_
      show own_Go p e below _ T125 (mkF m 163 #[iv p1, iv p2, iv 4, iv 1, rv aE, rv aR, rv o1, rv e1a, iv 3] [(.int 0), (.ref aE), (.int 0), (.ref aR)])
      refine own_st (fun _ k => XS.goto Y125.here hx rfl (pc0 := 163) (pc' := 167) rfl (hb hby at_163) (by decide) (by decide) k) ?_
      show own_Go p e below _ T125 (mkF m 167 #[iv p1, iv p2, iv 4, iv 1, rv aE, rv aR, rv o1, rv e1a, iv 3] [(.int 0), (.ref aE), (.int 0), (.ref aR)])
      refine own_st (fun _ k => own_ldR Y125 hx hZ rfl V125_aE rfl ⟨by decide, by decide⟩ (v := (.ref e0a)) rfl rfl rfl (hb hby at_167) k) ?_
      show own_Go p e below _ T125 (mkF m 168 #[iv p1, iv p2, iv 4, iv 1, rv aE, rv aR, rv o1, rv e1a, iv 3] [(.ref e0a), (.int 0), (.ref aR)])
      obtain ⟨T126, h126, X126, e126, W126, V126, st126⟩ := own_stR Y125 hx hZ rfl V125_aR Ov_aR (Ins.self E125_e0a) (j := (0 : Int32)) ⟨by decide, by decide⟩ 0 rfl (Nat.le_of_ble_eq_true rfl) (g := (mkF m 168 #[iv p1, iv p2, iv 4, iv 1, rv aE, rv aR, rv o1, rv e1a, iv 3] [(.ref e0a), (.int 0), (.ref aR)])) rfl rfl (hb hby at_168)
      have V126_aR : Arv Z h126 aR k_aR (.object "com/example/recency/recency/RecencyListRemovePinLaw") (3 : Int32) [(.ref e0a), .null, .null] .null := V126
      have O126 := O125.wr W126 g_aR
      have V126_aE := V125_aE.other W126 ne_aE_aR
      have E126_e0a := E125_e0a.wr W126
      have E126_e1a := E125_e1a.wr W126
      have E126_e2a := E125_e2a.wr W126
      have E126_e3a := E125_e3a.wr W126
      have E126_o1 := E125_o1.wr W126
      have F126_previous_e0a := FC125_previous_e0a.other W126 (Or.inl ne_e0a_aR)
      have F126_next_e0a := FC125_next_e0a.other W126 (Or.inl ne_e0a_aR)
      have F126_previous_e1a := FC125_previous_e1a.other W126 (Or.inl ne_e1a_aR)
      have F126_next_e1a := FC125_next_e1a.other W126 (Or.inl ne_e1a_aR)
      have F126_previous_e2a := FC125_previous_e2a.other W126 (Or.inl ne_e2a_aR)
      have F126_next_e2a := FC125_next_e2a.other W126 (Or.inl ne_e2a_aR)
      have F126_previous_e3a := F125_previous_e3a.other W126 (Or.inl ne_e3a_aR)
      have F126_next_e3a := F125_next_e3a.other W126 (Or.inl ne_e3a_aR)
      have F126_first_o1 := FC125_first_o1.other W126 (Or.inl ne_aR_o1.symm)
      have F126_last_o1 := FC125_last_o1.other W126 (Or.inl ne_aR_o1.symm)
      have Z126 : n0 ≤ h126.size := by rw [W126.size]; exact Z125
      clear O125 Z125 V125_aE E125_e0a E125_e1a E125_e2a E125_e3a E125_o1 FC125_previous_e0a FC125_next_e0a FC125_previous_e1a FC125_next_e1a FC125_previous_e2a FC125_next_e2a F125_previous_e3a F125_next_e3a FC125_first_o1 FC125_last_o1 V125_aR W126
      have N126 := Fr.snoc X126 P125 g_aR
      obtain ⟨lc126, Y126, P126⟩ := own_hide X126 N126
      clear X126 N126
      clear Y125
      refine own_st st126 ?_
      clear st126
      show own_Go p e below _ T126 (mkF m 169 #[iv p1, iv p2, iv 4, iv 1, rv aE, rv aR, rv o1, rv e1a, iv 3] [])
      refine own_st (fun _ k => XS.iload Y126.here hx rfl (hb hby at_169) rfl k) ?_
      show own_Go p e below _ T126 (mkF m 171 #[iv p1, iv p2, iv 4, iv 1, rv aE, rv aR, rv o1, rv e1a, iv 3] [(.int 3)])
      refine own_st (fun _ k => XT.iconstV Y126.here hx rfl (1 : Int32) (hb hby at_171) (by decide) k) ?_
      show own_Go p e below _ T126 (mkF m 172 #[iv p1, iv p2, iv 4, iv 1, rv aE, rv aR, rv o1, rv e1a, iv 3] [(.int 1), (.int 3)])
      refine own_st (fun _ k => XS.icmpNo Y126.here hx rfl (hb hby at_172) rfl (XT.ii_le_f (by decide)) k) ?_
      show own_Go p e below _ T126 (mkF m 175 #[iv p1, iv p2, iv 4, iv 1, rv aE, rv aR, rv o1, rv e1a, iv 3] [])
      refine own_st (fun _ k => XS.aload Y126.here hx rfl (hb hby at_175) rfl rfl k) ?_
      show own_Go p e below _ T126 (mkF m 177 #[iv p1, iv p2, iv 4, iv 1, rv aE, rv aR, rv o1, rv e1a, iv 3] [(.ref aR)])
      refine own_st (fun _ k => XT.iconstV Y126.here hx rfl (1 : Int32) (hb hby at_177) (by decide) k) ?_
      show own_Go p e below _ T126 (mkF m 178 #[iv p1, iv p2, iv 4, iv 1, rv aE, rv aR, rv o1, rv e1a, iv 3] [(.int 1), (.ref aR)])
      refine own_st (fun _ k => XS.aload Y126.here hx rfl (hb hby at_178) rfl rfl k) ?_
      show own_Go p e below _ T126 (mkF m 180 #[iv p1, iv p2, iv 4, iv 1, rv aE, rv aR, rv o1, rv e1a, iv 3] [(.ref aE), (.int 1), (.ref aR)])
      refine own_st (fun _ k => XT.iconstV Y126.here hx rfl (1 : Int32) (hb hby at_180) (by decide) k) ?_
      show own_Go p e below _ T126 (mkF m 181 #[iv p1, iv p2, iv 4, iv 1, rv aE, rv aR, rv o1, rv e1a, iv 3] [(.int 1), (.ref aE), (.int 1), (.ref aR)])
      refine own_st (fun _ k => XS.iloadN Y126.here hx rfl (hb hby at_181) rfl k) ?_
      show own_Go p e below _ T126 (mkF m 182 #[iv p1, iv p2, iv 4, iv 1, rv aE, rv aR, rv o1, rv e1a, iv 3] [(.int 1), (.int 1), (.ref aE), (.int 1), (.ref aR)])
      refine own_st (fun _ k => XS.icmpYes Y126.here hx rfl (pc0 := 182) (pc' := 189) rfl (hb hby at_182) rfl (XT.ii_ge_t (by decide)) (by decide) (by decide) k) ?_
      show own_Go p e below _ T126 (mkF m 189 #[iv p1, iv p2, iv 4, iv 1, rv aE, rv aR, rv o1, rv e1a, iv 3] [(.ref aE), (.int 1), (.ref aR)])
      refine own_st (fun _ k => XT.iconstV Y126.here hx rfl (2 : Int32) (hb hby at_189) (by decide) k) ?_
      show own_Go p e below _ T126 (mkF m 190 #[iv p1, iv p2, iv 4, iv 1, rv aE, rv aR, rv o1, rv e1a, iv 3] [(.int 2), (.ref aE), (.int 1), (.ref aR)])
      refine own_st (fun _ k => own_ldR Y126 hx hZ e126 V126_aE rfl ⟨by decide, by decide⟩ (v := (.ref e2a)) rfl rfl rfl (hb hby at_190) k) ?_
      show own_Go p e below _ T126 (mkF m 191 #[iv p1, iv p2, iv 4, iv 1, rv aE, rv aR, rv o1, rv e1a, iv 3] [(.ref e2a), (.int 1), (.ref aR)])
      obtain ⟨T127, h127, X127, e127, W127, V127, st127⟩ := own_stR Y126 hx hZ e126 V126_aR Ov_aR (Ins.self E126_e2a) (j := (1 : Int32)) ⟨by decide, by decide⟩ 1 rfl (Nat.le_of_ble_eq_true rfl) (g := (mkF m 191 #[iv p1, iv p2, iv 4, iv 1, rv aE, rv aR, rv o1, rv e1a, iv 3] [(.ref e2a), (.int 1), (.ref aR)])) rfl rfl (hb hby at_191)
      have V127_aR : Arv Z h127 aR k_aR (.object "com/example/recency/recency/RecencyListRemovePinLaw") (3 : Int32) [(.ref e0a), (.ref e2a), .null] .null := V127
      have O127 := O126.wr W127 g_aR
      have V127_aE := V126_aE.other W127 ne_aE_aR
      have E127_e0a := E126_e0a.wr W127
      have E127_e1a := E126_e1a.wr W127
      have E127_e2a := E126_e2a.wr W127
      have E127_e3a := E126_e3a.wr W127
      have E127_o1 := E126_o1.wr W127
      have F127_previous_e0a := F126_previous_e0a.other W127 (Or.inl ne_e0a_aR)
      have F127_next_e0a := F126_next_e0a.other W127 (Or.inl ne_e0a_aR)
      have F127_previous_e1a := F126_previous_e1a.other W127 (Or.inl ne_e1a_aR)
      have F127_next_e1a := F126_next_e1a.other W127 (Or.inl ne_e1a_aR)
      have F127_previous_e2a := F126_previous_e2a.other W127 (Or.inl ne_e2a_aR)
      have F127_next_e2a := F126_next_e2a.other W127 (Or.inl ne_e2a_aR)
      have F127_previous_e3a := F126_previous_e3a.other W127 (Or.inl ne_e3a_aR)
      have F127_next_e3a := F126_next_e3a.other W127 (Or.inl ne_e3a_aR)
      have F127_first_o1 := F126_first_o1.other W127 (Or.inl ne_aR_o1.symm)
      have F127_last_o1 := F126_last_o1.other W127 (Or.inl ne_aR_o1.symm)
      have Z127 : n0 ≤ h127.size := by rw [W127.size]; exact Z126
      clear O126 Z126 V126_aE E126_e0a E126_e1a E126_e2a E126_e3a E126_o1 F126_previous_e0a F126_next_e0a F126_previous_e1a F126_next_e1a F126_previous_e2a F126_next_e2a F126_previous_e3a F126_next_e3a F126_first_o1 F126_last_o1 V126_aR W127
      have N127 := Fr.snoc X127 P126 g_aR
      obtain ⟨lc127, Y127, P127⟩ := own_hide X127 N127
      clear X127 N127
      clear Y126 e126
      refine own_st st127 ?_
      clear st127
      show own_Go p e below _ T127 (mkF m 192 #[iv p1, iv p2, iv 4, iv 1, rv aE, rv aR, rv o1, rv e1a, iv 3] [])
      refine own_st (fun _ k => XS.iload Y127.here hx rfl (hb hby at_192) rfl k) ?_
      show own_Go p e below _ T127 (mkF m 194 #[iv p1, iv p2, iv 4, iv 1, rv aE, rv aR, rv o1, rv e1a, iv 3] [(.int 3)])
      refine own_st (fun _ k => XT.iconstV Y127.here hx rfl (2 : Int32) (hb hby at_194) (by decide) k) ?_
      show own_Go p e below _ T127 (mkF m 195 #[iv p1, iv p2, iv 4, iv 1, rv aE, rv aR, rv o1, rv e1a, iv 3] [(.int 2), (.int 3)])
      refine own_st (fun _ k => XS.icmpNo Y127.here hx rfl (hb hby at_195) rfl (XT.ii_le_f (by decide)) k) ?_
      show own_Go p e below _ T127 (mkF m 198 #[iv p1, iv p2, iv 4, iv 1, rv aE, rv aR, rv o1, rv e1a, iv 3] [])
      refine own_st (fun _ k => XS.aload Y127.here hx rfl (hb hby at_198) rfl rfl k) ?_
      show own_Go p e below _ T127 (mkF m 200 #[iv p1, iv p2, iv 4, iv 1, rv aE, rv aR, rv o1, rv e1a, iv 3] [(.ref aR)])
      refine own_st (fun _ k => XT.iconstV Y127.here hx rfl (2 : Int32) (hb hby at_200) (by decide) k) ?_
      show own_Go p e below _ T127 (mkF m 201 #[iv p1, iv p2, iv 4, iv 1, rv aE, rv aR, rv o1, rv e1a, iv 3] [(.int 2), (.ref aR)])
      refine own_st (fun _ k => XS.aload Y127.here hx rfl (hb hby at_201) rfl rfl k) ?_
      show own_Go p e below _ T127 (mkF m 203 #[iv p1, iv p2, iv 4, iv 1, rv aE, rv aR, rv o1, rv e1a, iv 3] [(.ref aE), (.int 2), (.ref aR)])
      refine own_st (fun _ k => XT.iconstV Y127.here hx rfl (2 : Int32) (hb hby at_203) (by decide) k) ?_
      show own_Go p e below _ T127 (mkF m 204 #[iv p1, iv p2, iv 4, iv 1, rv aE, rv aR, rv o1, rv e1a, iv 3] [(.int 2), (.ref aE), (.int 2), (.ref aR)])
      refine own_st (fun _ k => XS.iloadN Y127.here hx rfl (hb hby at_204) rfl k) ?_
      show own_Go p e below _ T127 (mkF m 205 #[iv p1, iv p2, iv 4, iv 1, rv aE, rv aR, rv o1, rv e1a, iv 3] [(.int 1), (.int 2), (.ref aE), (.int 2), (.ref aR)])
      refine own_st (fun _ k => XS.icmpYes Y127.here hx rfl (pc0 := 205) (pc' := 212) rfl (hb hby at_205) rfl (XT.ii_ge_t (by decide)) (by decide) (by decide) k) ?_
      show own_Go p e below _ T127 (mkF m 212 #[iv p1, iv p2, iv 4, iv 1, rv aE, rv aR, rv o1, rv e1a, iv 3] [(.ref aE), (.int 2), (.ref aR)])
      refine own_st (fun _ k => XT.iconstV Y127.here hx rfl (3 : Int32) (hb hby at_212) (by decide) k) ?_
      show own_Go p e below _ T127 (mkF m 213 #[iv p1, iv p2, iv 4, iv 1, rv aE, rv aR, rv o1, rv e1a, iv 3] [(.int 3), (.ref aE), (.int 2), (.ref aR)])
      refine own_st (fun _ k => own_ldR Y127 hx hZ e127 V127_aE rfl ⟨by decide, by decide⟩ (v := (.ref e3a)) rfl rfl rfl (hb hby at_213) k) ?_
      show own_Go p e below _ T127 (mkF m 214 #[iv p1, iv p2, iv 4, iv 1, rv aE, rv aR, rv o1, rv e1a, iv 3] [(.ref e3a), (.int 2), (.ref aR)])
      obtain ⟨T128, h128, X128, e128, W128, V128, st128⟩ := own_stR Y127 hx hZ e127 V127_aR Ov_aR (Ins.self E127_e3a) (j := (2 : Int32)) ⟨by decide, by decide⟩ 2 rfl (Nat.le_of_ble_eq_true rfl) (g := (mkF m 214 #[iv p1, iv p2, iv 4, iv 1, rv aE, rv aR, rv o1, rv e1a, iv 3] [(.ref e3a), (.int 2), (.ref aR)])) rfl rfl (hb hby at_214)
      have V128_aR : Arv Z h128 aR k_aR (.object "com/example/recency/recency/RecencyListRemovePinLaw") (3 : Int32) [(.ref e0a), (.ref e2a), (.ref e3a)] .null := V128
      have O128 := O127.wr W128 g_aR
      have V128_aE := V127_aE.other W128 ne_aE_aR
      have E128_e0a := E127_e0a.wr W128
      have E128_e1a := E127_e1a.wr W128
      have E128_e2a := E127_e2a.wr W128
      have E128_e3a := E127_e3a.wr W128
      have E128_o1 := E127_o1.wr W128
      have F128_previous_e0a := F127_previous_e0a.other W128 (Or.inl ne_e0a_aR)
      have F128_next_e0a := F127_next_e0a.other W128 (Or.inl ne_e0a_aR)
      have F128_previous_e1a := F127_previous_e1a.other W128 (Or.inl ne_e1a_aR)
      have F128_next_e1a := F127_next_e1a.other W128 (Or.inl ne_e1a_aR)
      have F128_previous_e2a := F127_previous_e2a.other W128 (Or.inl ne_e2a_aR)
      have F128_next_e2a := F127_next_e2a.other W128 (Or.inl ne_e2a_aR)
      have F128_previous_e3a := F127_previous_e3a.other W128 (Or.inl ne_e3a_aR)
      have F128_next_e3a := F127_next_e3a.other W128 (Or.inl ne_e3a_aR)
      have F128_first_o1 := F127_first_o1.other W128 (Or.inl ne_aR_o1.symm)
      have F128_last_o1 := F127_last_o1.other W128 (Or.inl ne_aR_o1.symm)
      have Z128 : n0 ≤ h128.size := by rw [W128.size]; exact Z127
      clear O127 Z127 V127_aE E127_e0a E127_e1a E127_e2a E127_e3a E127_o1 F127_previous_e0a F127_next_e0a F127_previous_e1a F127_next_e1a F127_previous_e2a F127_next_e2a F127_previous_e3a F127_next_e3a F127_first_o1 F127_last_o1 V127_aR W128
      have N128 := Fr.snoc X128 P127 g_aR
      obtain ⟨lc128, Y128, P128⟩ := own_hide X128 N128
      clear X128 N128
      clear Y127 e127
      refine own_st st128 ?_
      clear st128
      show own_Go p e below _ T128 (mkF m 215 #[iv p1, iv p2, iv 4, iv 1, rv aE, rv aR, rv o1, rv e1a, iv 3] [])
      refine own_st (fun _ k => XS.aload Y128.here hx rfl (hb hby at_215) rfl rfl k) ?_
      show own_Go p e below _ T128 (mkF m 217 #[iv p1, iv p2, iv 4, iv 1, rv aE, rv aR, rv o1, rv e1a, iv 3] [(.ref e1a)])
      obtain ⟨T129, X129, e129, st129⟩ := getF Y128 hx hZ hown (host := "") (Or.inl (hw _ (List.mem_of_getElem? (i := 44) rfl))) (Via.of (hw _ (List.mem_of_getElem? (i := 45) rfl))) e128 F128_previous_e1a (g := (mkF m 217 #[iv p1, iv p2, iv 4, iv 1, rv aE, rv aR, rv o1, rv e1a, iv 3] [(.ref e1a)])) rfl rfl (hb hby at_217)
      clear Y128 e128
      refine own_st st129 ?_
      clear st129
      show own_Go p e below _ T129 (mkF m 220 #[iv p1, iv p2, iv 4, iv 1, rv aE, rv aR, rv o1, rv e1a, iv 3] [.null])
      refine own_st (fun _ k => XT.ifnonnullNo X129.here hx rfl (hb hby at_220) rfl k) ?_
      show own_Go p e below _ T129 (mkF m 223 #[iv p1, iv p2, iv 4, iv 1, rv aE, rv aR, rv o1, rv e1a, iv 3] [])
      refine own_st (fun _ k => XS.aload X129.here hx rfl (hb hby at_223) rfl rfl k) ?_
      show own_Go p e below _ T129 (mkF m 225 #[iv p1, iv p2, iv 4, iv 1, rv aE, rv aR, rv o1, rv e1a, iv 3] [(.ref e1a)])
      obtain ⟨T130, X130, e130, st130⟩ := getF X129 hx hZ hown (host := "") (Or.inl (hw _ (List.mem_of_getElem? (i := 46) rfl))) (Via.of (hw _ (List.mem_of_getElem? (i := 47) rfl))) e129 F128_next_e1a (g := (mkF m 225 #[iv p1, iv p2, iv 4, iv 1, rv aE, rv aR, rv o1, rv e1a, iv 3] [(.ref e1a)])) rfl rfl (hb hby at_225)
      clear X129 e129
      refine own_st st130 ?_
      clear st130
      show own_Go p e below _ T130 (mkF m 228 #[iv p1, iv p2, iv 4, iv 1, rv aE, rv aR, rv o1, rv e1a, iv 3] [.null])
      refine own_st (fun _ k => XS.ifnullYes X130.here hx rfl (pc0 := 228) (pc' := 233) rfl (hb hby at_228) rfl (by decide) (by decide) k) ?_
      show own_Go p e below _ T130 (mkF m 233 #[iv p1, iv p2, iv 4, iv 1, rv aE, rv aR, rv o1, rv e1a, iv 3] [])
      refine own_st (fun _ k => XS.aload X130.here hx rfl (hb hby at_233) rfl rfl k) ?_
      show own_Go p e below _ T130 (mkF m 235 #[iv p1, iv p2, iv 4, iv 1, rv aE, rv aR, rv o1, rv e1a, iv 3] [(.ref o1)])
      obtain ⟨cq131, kq131, q131a, q131b, q131c⟩ := isOf hZ e130 E128_o1
      obtain ⟨_, T131, L131, X131, hQ131, st131⟩ := own_gotT (X130.virtualBack hx (y := (⟨"com/example/recency/recency/RecencyList", "first", "()Lcom/example/recency/recency/RecencyList$Link;"⟩ : MethodName)) (z := (⟨"com/example/recency/recency/RecencyList", "first", "()Lcom/example/recency/recency/RecencyList$Link;"⟩ : MethodName)) hown (mvT hZ (hw _ (List.mem_of_getElem? (i := 48) rfl))) (mvT hZ (hw _ (List.mem_of_getElem? (i := 49) rfl))) (notFace_of_selects (args := #[]) (mvT hZ (hw _ (List.mem_of_getElem? (i := 51) rfl)))) (mvT hZ (hw _ (List.mem_of_getElem? (i := 51) rfl))) (mvT hZ (hw _ (List.mem_of_getElem? (i := 50) rfl))) (by decide) (backOf (W := 0) (own_rm_fst l Z a0 hw [] o1 (.ref e0a) h128 n0 Z128 rfl F128_first_o1) hZ (hw _ (List.mem_of_getElem? (i := 52) rfl)) (hw _ (List.mem_of_getElem? (i := 19) rfl)) (by decide) (by decide)) q131a q131c (g := (mkF m 235 #[iv p1, iv p2, iv 4, iv 1, rv aE, rv aR, rv o1, rv e1a, iv 3] [(.ref o1)])) rfl (by rw [hml]; rfl) (Steps.refl _) (argsL := []) (rest := []) (lenOf own_pd2 rfl) rfl (by show 2 * 0 + _ ≤ _; exact Nat.le_of_eq rfl) (hb hby at_235) (fun _ _ => ⟨rfl, e130, (by decide : 7 + 0 ≤ _), (by decide : 17 + 0 ≤ _)⟩))
      replace X131 := own_num X131 (k' := 7) (n' := 17) rfl rfl
      obtain ⟨rfl, N131, eh131⟩ := hQ131
      have M131 := Fr.app P128 N131
      obtain ⟨lc131, Y131, P131⟩ := own_hide X131 M131
      refine own_tr st131 ?_
      clear P128 X130 N131 e130 X131 M131 st131
      show own_Go p e below _ T131 (mkF m 238 #[iv p1, iv p2, iv 4, iv 1, rv aE, rv aR, rv o1, rv e1a, iv 3] [(.ref e0a)])
      refine own_st (fun _ k => XS.iload Y131.here hx rfl (hb hby at_238) rfl k) ?_
      show own_Go p e below _ T131 (mkF m 240 #[iv p1, iv p2, iv 4, iv 1, rv aE, rv aR, rv o1, rv e1a, iv 3] [(.int 3), (.ref e0a)])
      refine own_st (fun _ k => XS.ifNo Y131.here hx rfl (hb hby at_240) rfl (XT.i0_le_f (by decide)) k) ?_
      show own_Go p e below _ T131 (mkF m 243 #[iv p1, iv p2, iv 4, iv 1, rv aE, rv aR, rv o1, rv e1a, iv 3] [(.ref e0a)])
      refine own_st (fun _ k => XS.aload Y131.here hx rfl (hb hby at_243) rfl rfl k) ?_
      show own_Go p e below _ T131 (mkF m 245 #[iv p1, iv p2, iv 4, iv 1, rv aE, rv aR, rv o1, rv e1a, iv 3] [(.ref aR), (.ref e0a)])
      refine own_st (fun _ k => XT.iconstV Y131.here hx rfl (0 : Int32) (hb hby at_245) (by decide) k) ?_
      show own_Go p e below _ T131 (mkF m 246 #[iv p1, iv p2, iv 4, iv 1, rv aE, rv aR, rv o1, rv e1a, iv 3] [(.int 0), (.ref aR), (.ref e0a)])
      refine own_st (fun _ k => own_ldR Y131 hx hZ eh131 V128_aR rfl ⟨by decide, by decide⟩ (v := (.ref e0a)) rfl rfl rfl (hb hby at_246) k) ?_
      show own_Go p e below _ T131 (mkF m 247 #[iv p1, iv p2, iv 4, iv 1, rv aE, rv aR, rv o1, rv e1a, iv 3] [(.ref e0a), (.ref e0a)])
      refine own_st (fun _ k => XS.goto Y131.here hx rfl (pc0 := 247) (pc' := 251) rfl (hb hby at_247) (by decide) (by decide) k) ?_
      show own_Go p e below _ T131 (mkF m 251 #[iv p1, iv p2, iv 4, iv 1, rv aE, rv aR, rv o1, rv e1a, iv 3] [(.ref e0a), (.ref e0a)])
      refine own_st (fun _ k => XT.acmpYes Y131.here hx rfl (pc0 := 251) (pc' := 256) rfl (hb hby at_251) rfl rfl rfl (XT.aa_eq_t rfl) (by decide) (by decide) k) ?_
      show own_Go p e below _ T131 (mkF m 256 #[iv p1, iv p2, iv 4, iv 1, rv aE, rv aR, rv o1, rv e1a, iv 3] [])
      refine own_st (fun _ k => XS.aload Y131.here hx rfl (hb hby at_256) rfl rfl k) ?_
      show own_Go p e below _ T131 (mkF m 258 #[iv p1, iv p2, iv 4, iv 1, rv aE, rv aR, rv o1, rv e1a, iv 3] [(.ref aR)])
      refine own_st (fun _ k => XT.iconstV Y131.here hx rfl (0 : Int32) (hb hby at_258) (by decide) k) ?_
      show own_Go p e below _ T131 (mkF m 259 #[iv p1, iv p2, iv 4, iv 1, rv aE, rv aR, rv o1, rv e1a, iv 3] [(.int 0), (.ref aR)])
      refine own_st (fun _ k => XS.iload Y131.here hx rfl (hb hby at_259) rfl k) ?_
      show own_Go p e below _ T131 (mkF m 261 #[iv p1, iv p2, iv 4, iv 1, rv aE, rv aR, rv o1, rv e1a, iv 3] [(.int 3), (.int 0), (.ref aR)])
      obtain ⟨_, T132, L132, X132, hQ132, st132⟩ := own_gotS (Jvm.LawKit.callS Y131 hx (y := (⟨"com/example/recency/recency/RecencyListRemovePinLaw", "linked", "([Lcom/example/recency/recency/RecencyListRemovePinLaw;II)Z"⟩ : MethodName)) hown (mvT hZ (hw _ (List.mem_of_getElem? (i := 53) rfl))) (mvT hZ (hw _ (List.mem_of_getElem? (i := 54) rfl))) (mvT hZ (hw _ (List.mem_of_getElem? (i := 4) rfl))) (mvT hZ (hw _ (List.mem_of_getElem? (i := 55) rfl))) (by decide) (backOf (W := 0) (own_rm_lk03 l Z a0 hw [] aR k_aR e0a e2a (.ref e3a) h128 n0 Z128 V128_aR F128_previous_e0a F128_next_e0a) hZ (hw _ (List.mem_of_getElem? (i := 55) rfl)) (hw _ (List.mem_of_getElem? (i := 4) rfl)) (by decide) (by decide)) (g := (mkF m 261 #[iv p1, iv p2, iv 4, iv 1, rv aE, rv aR, rv o1, rv e1a, iv 3] [(.int 3), (.int 0), (.ref aR)])) rfl (by rw [hml]; rfl) (argsL := [(.ref aR), (.int (0 : Int32)), (.int (3 : Int32))]) (rest := []) (lenOf own_pd3 rfl) rfl (by show 2 * 0 + _ ≤ _; exact Nat.le_of_eq rfl) (hb hby at_261) (fun _ _ => ⟨rfl, eh131, (by decide : 7 + 0 ≤ _), (by decide : 17 + 0 ≤ _)⟩))
      replace X132 := own_num X132 (k' := 7) (n' := 17) rfl rfl
      obtain ⟨rfl, N132, eh132⟩ := hQ132
      have M132 := Fr.app P131 N132
      obtain ⟨lc132, Y132, P132⟩ := own_hide X132 M132
      refine own_st st132 ?_
      clear P131 Y131 N132 eh131 X132 M132 st132
      show own_Go p e below _ T132 (mkF m 264 #[iv p1, iv p2, iv 4, iv 1, rv aE, rv aR, rv o1, rv e1a, iv 3] [(.int 1)])
      refine own_st (fun _ k => XS.ifNo Y132.here hx rfl (hb hby at_264) rfl (XT.i0_eq_f (by decide)) k) ?_
      show own_Go p e below _ T132 (mkF m 267 #[iv p1, iv p2, iv 4, iv 1, rv aE, rv aR, rv o1, rv e1a, iv 3] [])
      refine own_st (fun _ k => XS.aload Y132.here hx rfl (hb hby at_267) rfl rfl k) ?_
      show own_Go p e below _ T132 (mkF m 269 #[iv p1, iv p2, iv 4, iv 1, rv aE, rv aR, rv o1, rv e1a, iv 3] [(.ref aR)])
      refine own_st (fun _ k => XT.iconstV Y132.here hx rfl (1 : Int32) (hb hby at_269) (by decide) k) ?_
      show own_Go p e below _ T132 (mkF m 270 #[iv p1, iv p2, iv 4, iv 1, rv aE, rv aR, rv o1, rv e1a, iv 3] [(.int 1), (.ref aR)])
      refine own_st (fun _ k => XS.iload Y132.here hx rfl (hb hby at_270) rfl k) ?_
      show own_Go p e below _ T132 (mkF m 272 #[iv p1, iv p2, iv 4, iv 1, rv aE, rv aR, rv o1, rv e1a, iv 3] [(.int 3), (.int 1), (.ref aR)])
      obtain ⟨_, T133, L133, X133, hQ133, st133⟩ := own_gotS (Jvm.LawKit.callS Y132 hx (y := (⟨"com/example/recency/recency/RecencyListRemovePinLaw", "linked", "([Lcom/example/recency/recency/RecencyListRemovePinLaw;II)Z"⟩ : MethodName)) hown (mvT hZ (hw _ (List.mem_of_getElem? (i := 53) rfl))) (mvT hZ (hw _ (List.mem_of_getElem? (i := 54) rfl))) (mvT hZ (hw _ (List.mem_of_getElem? (i := 4) rfl))) (mvT hZ (hw _ (List.mem_of_getElem? (i := 55) rfl))) (by decide) (backOf (W := 0) (own_rm_lk13 l Z a0 hw [] aR k_aR e2a e0a e3a h128 n0 Z128 V128_aR F128_previous_e2a F128_next_e2a) hZ (hw _ (List.mem_of_getElem? (i := 55) rfl)) (hw _ (List.mem_of_getElem? (i := 4) rfl)) (by decide) (by decide)) (g := (mkF m 272 #[iv p1, iv p2, iv 4, iv 1, rv aE, rv aR, rv o1, rv e1a, iv 3] [(.int 3), (.int 1), (.ref aR)])) rfl (by rw [hml]; rfl) (argsL := [(.ref aR), (.int (1 : Int32)), (.int (3 : Int32))]) (rest := []) (lenOf own_pd3 rfl) rfl (by show 2 * 0 + _ ≤ _; exact Nat.le_of_eq rfl) (hb hby at_272) (fun _ _ => ⟨rfl, eh132, (by decide : 7 + 0 ≤ _), (by decide : 17 + 0 ≤ _)⟩))
      replace X133 := own_num X133 (k' := 7) (n' := 17) rfl rfl
      obtain ⟨rfl, N133, eh133⟩ := hQ133
      have M133 := Fr.app P132 N133
      obtain ⟨lc133, Y133, P133⟩ := own_hide X133 M133
      refine own_st st133 ?_
      clear P132 Y132 N133 eh132 X133 M133 st133
      show own_Go p e below _ T133 (mkF m 275 #[iv p1, iv p2, iv 4, iv 1, rv aE, rv aR, rv o1, rv e1a, iv 3] [(.int 1)])
      refine own_st (fun _ k => XS.ifNo Y133.here hx rfl (hb hby at_275) rfl (XT.i0_eq_f (by decide)) k) ?_
      show own_Go p e below _ T133 (mkF m 278 #[iv p1, iv p2, iv 4, iv 1, rv aE, rv aR, rv o1, rv e1a, iv 3] [])
      refine own_st (fun _ k => XS.aload Y133.here hx rfl (hb hby at_278) rfl rfl k) ?_
      show own_Go p e below _ T133 (mkF m 280 #[iv p1, iv p2, iv 4, iv 1, rv aE, rv aR, rv o1, rv e1a, iv 3] [(.ref aR)])
      refine own_st (fun _ k => XT.iconstV Y133.here hx rfl (2 : Int32) (hb hby at_280) (by decide) k) ?_
      show own_Go p e below _ T133 (mkF m 281 #[iv p1, iv p2, iv 4, iv 1, rv aE, rv aR, rv o1, rv e1a, iv 3] [(.int 2), (.ref aR)])
      refine own_st (fun _ k => XS.iload Y133.here hx rfl (hb hby at_281) rfl k) ?_
      show own_Go p e below _ T133 (mkF m 283 #[iv p1, iv p2, iv 4, iv 1, rv aE, rv aR, rv o1, rv e1a, iv 3] [(.int 3), (.int 2), (.ref aR)])
      obtain ⟨_, T134, L134, X134, hQ134, st134⟩ := own_gotS (Jvm.LawKit.callS Y133 hx (y := (⟨"com/example/recency/recency/RecencyListRemovePinLaw", "linked", "([Lcom/example/recency/recency/RecencyListRemovePinLaw;II)Z"⟩ : MethodName)) hown (mvT hZ (hw _ (List.mem_of_getElem? (i := 53) rfl))) (mvT hZ (hw _ (List.mem_of_getElem? (i := 54) rfl))) (mvT hZ (hw _ (List.mem_of_getElem? (i := 4) rfl))) (mvT hZ (hw _ (List.mem_of_getElem? (i := 55) rfl))) (by decide) (backOf (W := 0) (own_rm_lk23 l Z a0 hw [] aR k_aR e3a e2a (.ref e0a) h128 n0 Z128 V128_aR F128_previous_e3a F128_next_e3a) hZ (hw _ (List.mem_of_getElem? (i := 55) rfl)) (hw _ (List.mem_of_getElem? (i := 4) rfl)) (by decide) (by decide)) (g := (mkF m 283 #[iv p1, iv p2, iv 4, iv 1, rv aE, rv aR, rv o1, rv e1a, iv 3] [(.int 3), (.int 2), (.ref aR)])) rfl (by rw [hml]; rfl) (argsL := [(.ref aR), (.int (2 : Int32)), (.int (3 : Int32))]) (rest := []) (lenOf own_pd3 rfl) rfl (by show 2 * 0 + _ ≤ _; exact Nat.le_of_eq rfl) (hb hby at_283) (fun _ _ => ⟨rfl, eh133, (by decide : 7 + 0 ≤ _), (by decide : 17 + 0 ≤ _)⟩))
      replace X134 := own_num X134 (k' := 7) (n' := 17) rfl rfl
      obtain ⟨rfl, N134, eh134⟩ := hQ134
      have M134 := Fr.app P133 N134
      obtain ⟨lc134, Y134, P134⟩ := own_hide X134 M134
      refine own_st st134 ?_
      clear P133 Y133 N134 eh133 X134 M134 st134
      show own_Go p e below _ T134 (mkF m 286 #[iv p1, iv p2, iv 4, iv 1, rv aE, rv aR, rv o1, rv e1a, iv 3] [(.int 1)])
      refine own_st (fun _ k => XS.ifYes Y134.here hx rfl (pc0 := 286) (pc' := 291) rfl (hb hby at_286) rfl (XT.i0_ne_t (by decide)) (by decide) (by decide) k) ?_
      show own_Go p e below _ T134 (mkF m 291 #[iv p1, iv p2, iv 4, iv 1, rv aE, rv aR, rv o1, rv e1a, iv 3] [])
      refine own_st (fun _ k => XS.aload Y134.here hx rfl (hb hby at_291) rfl rfl k) ?_
      show own_Go p e below _ T134 (mkF m 293 #[iv p1, iv p2, iv 4, iv 1, rv aE, rv aR, rv o1, rv e1a, iv 3] [(.ref o1)])
      refine own_st (fun _ k => XS.aload Y134.here hx rfl (hb hby at_293) rfl rfl k) ?_
      show own_Go p e below _ T134 (mkF m 295 #[iv p1, iv p2, iv 4, iv 1, rv aE, rv aR, rv o1, rv e1a, iv 3] [(.ref e1a), (.ref o1)])
      obtain ⟨cq135, kq135, q135a, q135b, q135c⟩ := isOf hZ eh134 E128_o1
      obtain ⟨_, T135, L135, X135, hQ135, st135⟩ := own_gotT (Y134.virtualBack hx (y := (⟨"com/example/recency/recency/RecencyList", "addLast", "(Lcom/example/recency/recency/RecencyList$Link;)V"⟩ : MethodName)) (z := (⟨"com/example/recency/recency/RecencyList", "addLast", "(Lcom/example/recency/recency/RecencyList$Link;)V"⟩ : MethodName)) hown (mvT hZ (hw _ (List.mem_of_getElem? (i := 24) rfl))) (mvT hZ (hw _ (List.mem_of_getElem? (i := 25) rfl))) (notFace_of_selects (args := #[]) (mvT hZ (hw _ (List.mem_of_getElem? (i := 27) rfl)))) (mvT hZ (hw _ (List.mem_of_getElem? (i := 27) rfl))) (mvT hZ (hw _ (List.mem_of_getElem? (i := 26) rfl))) (by decide) (backOf (W := 0) (own_rm_addP l Z a0 hw [] o1 e1a e3a e0a e2a h128 n0 Z128 (S_A.ext O128.2) E128_o1 E128_e3a E128_e1a F128_first_o1 F128_last_o1 F128_previous_e3a F128_next_e3a F128_previous_e1a F128_next_e1a g_o1 g_e3a g_e1a ne_e3a_o1.symm ne_e1a_o1.symm ne_e1a_e3a.symm) hZ (hw _ (List.mem_of_getElem? (i := 28) rfl)) (hw _ (List.mem_of_getElem? (i := 19) rfl)) (by decide) (by decide)) q135a q135c (g := (mkF m 295 #[iv p1, iv p2, iv 4, iv 1, rv aE, rv aR, rv o1, rv e1a, iv 3] [(.ref e1a), (.ref o1)])) rfl (by rw [hml]; rfl) (Steps.refl _) (argsL := [(.ref e1a)]) (rest := []) (lenOf own_pd1 rfl) rfl (by show 2 * 0 + _ ≤ _; exact Nat.le_of_eq rfl) (hb hby at_295) (fun _ _ => ⟨rfl, eh134, (by decide : 7 + 0 ≤ _), (by decide : 17 + 0 ≤ _)⟩))
      replace X135 := own_num X135 (k' := 7) (n' := 17) rfl rfl
      obtain ⟨rfl, N135, KC135, FC135_first_o1, FC135_last_o1, FC135_previous_e3a, FC135_next_e3a, FC135_previous_e1a, FC135_next_e1a⟩ := hQ135
      have M135 := Fr.app P134 N135
      obtain ⟨lc135, Y135, P135⟩ := own_hide X135 M135
      refine own_tr st135 ?_
      clear P134 Y134 N135 eh134 X135 M135 st135
      show own_Go p e below _ T135 (mkF m 298 #[iv p1, iv p2, iv 4, iv 1, rv aE, rv aR, rv o1, rv e1a, iv 3] [])
      have O135 := O128.keep KC135 (allS g_o1 (allS g_e3a (allS g_e1a all0)))
      have V135_aE := V128_aE.keep KC135 (ninS ne_aE_o1 (ninS ne_aE_e3a (ninS ne_aE_e1a nin0)))
      have V135_aR := V128_aR.keep KC135 (ninS ne_aR_o1 (ninS ne_e3a_aR.symm (ninS ne_e1a_aR.symm nin0)))
      have E135_e0a := E128_e0a.keep KC135
      have E135_e1a := E128_e1a.keep KC135
      have E135_e2a := E128_e2a.keep KC135
      have E135_e3a := E128_e3a.keep KC135
      have E135_o1 := E128_o1.keep KC135
      have F135_previous_e0a := F128_previous_e0a.keep KC135 (ninS ne_e0a_o1 (ninS ne_e0a_e3a (ninS ne_e0a_e1a nin0)))
      have F135_next_e0a := F128_next_e0a.keep KC135 (ninS ne_e0a_o1 (ninS ne_e0a_e3a (ninS ne_e0a_e1a nin0)))
      have F135_previous_e2a := F128_previous_e2a.keep KC135 (ninS ne_e2a_o1 (ninS ne_e2a_e3a (ninS ne_e1a_e2a.symm nin0)))
      have F135_next_e2a := F128_next_e2a.keep KC135 (ninS ne_e2a_o1 (ninS ne_e2a_e3a (ninS ne_e1a_e2a.symm nin0)))
      have Z135 : n0 ≤ T135.heap.size := Nat.le_trans Z128 KC135.1
      clear O128 Z128 V128_aE V128_aR E128_e0a E128_e1a E128_e2a E128_e3a E128_o1 F128_previous_e0a F128_next_e0a F128_previous_e1a F128_next_e1a F128_previous_e2a F128_next_e2a F128_previous_e3a F128_next_e3a F128_first_o1 F128_last_o1 KC135
      refine own_st (fun _ k => XS.iload Y135.here hx rfl (hb hby at_298) rfl k) ?_
      show own_Go p e below _ T135 (mkF m 300 #[iv p1, iv p2, iv 4, iv 1, rv aE, rv aR, rv o1, rv e1a, iv 3] [(.int 3)])
      refine own_st (fun _ k => XS.ifYes Y135.here hx rfl (pc0 := 300) (pc' := 335) rfl (hb hby at_300) rfl (XT.i0_ne_t (by decide)) (by decide) (by decide) k) ?_
      show own_Go p e below _ T135 (mkF m 335 #[iv p1, iv p2, iv 4, iv 1, rv aE, rv aR, rv o1, rv e1a, iv 3] [])
      refine own_st (fun _ k => XS.aload Y135.here hx rfl (hb hby at_335) rfl rfl k) ?_
      show own_Go p e below _ T135 (mkF m 337 #[iv p1, iv p2, iv 4, iv 1, rv aE, rv aR, rv o1, rv e1a, iv 3] [(.ref o1)])
      obtain ⟨cq136, kq136, q136a, q136b, q136c⟩ := isOf hZ rfl E135_o1
      obtain ⟨_, T136, L136, X136, hQ136, st136⟩ := own_gotT (Y135.virtualBack hx (y := (⟨"com/example/recency/recency/RecencyList", "first", "()Lcom/example/recency/recency/RecencyList$Link;"⟩ : MethodName)) (z := (⟨"com/example/recency/recency/RecencyList", "first", "()Lcom/example/recency/recency/RecencyList$Link;"⟩ : MethodName)) hown (mvT hZ (hw _ (List.mem_of_getElem? (i := 48) rfl))) (mvT hZ (hw _ (List.mem_of_getElem? (i := 49) rfl))) (notFace_of_selects (args := #[]) (mvT hZ (hw _ (List.mem_of_getElem? (i := 51) rfl)))) (mvT hZ (hw _ (List.mem_of_getElem? (i := 51) rfl))) (mvT hZ (hw _ (List.mem_of_getElem? (i := 50) rfl))) (by decide) (backOf (W := 0) (own_rm_fst l Z a0 hw [] o1 (.ref e0a) T135.heap n0 Z135 rfl FC135_first_o1) hZ (hw _ (List.mem_of_getElem? (i := 52) rfl)) (hw _ (List.mem_of_getElem? (i := 19) rfl)) (by decide) (by decide)) q136a q136c (g := (mkF m 337 #[iv p1, iv p2, iv 4, iv 1, rv aE, rv aR, rv o1, rv e1a, iv 3] [(.ref o1)])) rfl (by rw [hml]; rfl) (Steps.refl _) (argsL := []) (rest := []) (lenOf own_pd2 rfl) rfl (by show 2 * 0 + _ ≤ _; exact Nat.le_of_eq rfl) (hb hby at_337) (fun _ _ => ⟨rfl, rfl, (by decide : 7 + 0 ≤ _), (by decide : 17 + 0 ≤ _)⟩))
      replace X136 := own_num X136 (k' := 7) (n' := 17) rfl rfl
      obtain ⟨rfl, N136, eh136⟩ := hQ136
      have M136 := Fr.app P135 N136
      obtain ⟨lc136, Y136, P136⟩ := own_hide X136 M136
      refine own_tr st136 ?_
      clear P135 Y135 N136 X136 M136 st136
      show own_Go p e below _ T136 (mkF m 340 #[iv p1, iv p2, iv 4, iv 1, rv aE, rv aR, rv o1, rv e1a, iv 3] [(.ref e0a)])
      refine own_st (fun _ k => XS.aload Y136.here hx rfl (hb hby at_340) rfl rfl k) ?_
      show own_Go p e below _ T136 (mkF m 342 #[iv p1, iv p2, iv 4, iv 1, rv aE, rv aR, rv o1, rv e1a, iv 3] [(.ref aR), (.ref e0a)])
      refine own_st (fun _ k => XT.iconstV Y136.here hx rfl (0 : Int32) (hb hby at_342) (by decide) k) ?_
      show own_Go p e below _ T136 (mkF m 343 #[iv p1, iv p2, iv 4, iv 1, rv aE, rv aR, rv o1, rv e1a, iv 3] [(.int 0), (.ref aR), (.ref e0a)])
      refine own_st (fun _ k => own_ldR Y136 hx hZ eh136 V135_aR rfl ⟨by decide, by decide⟩ (v := (.ref e0a)) rfl rfl rfl (hb hby at_343) k) ?_
      show own_Go p e below _ T136 (mkF m 344 #[iv p1, iv p2, iv 4, iv 1, rv aE, rv aR, rv o1, rv e1a, iv 3] [(.ref e0a), (.ref e0a)])
      refine own_st (fun _ k => XT.acmpNo Y136.here hx rfl (hb hby at_344) rfl rfl rfl (XT.aa_ne_f rfl) k) ?_
      show own_Go p e below _ T136 (mkF m 347 #[iv p1, iv p2, iv 4, iv 1, rv aE, rv aR, rv o1, rv e1a, iv 3] [])
      refine own_st (fun _ k => XS.aload Y136.here hx rfl (hb hby at_347) rfl rfl k) ?_
      show own_Go p e below _ T136 (mkF m 349 #[iv p1, iv p2, iv 4, iv 1, rv aE, rv aR, rv o1, rv e1a, iv 3] [(.ref e1a)])
      obtain ⟨T137, X137, e137, st137⟩ := getF Y136 hx hZ hown (host := "") (Or.inl (hw _ (List.mem_of_getElem? (i := 44) rfl))) (Via.of (hw _ (List.mem_of_getElem? (i := 45) rfl))) eh136 FC135_previous_e1a (g := (mkF m 349 #[iv p1, iv p2, iv 4, iv 1, rv aE, rv aR, rv o1, rv e1a, iv 3] [(.ref e1a)])) rfl rfl (hb hby at_349)
      clear Y136 eh136
      refine own_st st137 ?_
      clear st137
      show own_Go p e below _ T137 (mkF m 352 #[iv p1, iv p2, iv 4, iv 1, rv aE, rv aR, rv o1, rv e1a, iv 3] [(.ref e3a)])
      refine own_st (fun _ k => XS.aload X137.here hx rfl (hb hby at_352) rfl rfl k) ?_
      show own_Go p e below _ T137 (mkF m 354 #[iv p1, iv p2, iv 4, iv 1, rv aE, rv aR, rv o1, rv e1a, iv 3] [(.ref aR), (.ref e3a)])
      refine own_st (fun _ k => XS.iload X137.here hx rfl (hb hby at_354) rfl k) ?_
      show own_Go p e below _ T137 (mkF m 356 #[iv p1, iv p2, iv 4, iv 1, rv aE, rv aR, rv o1, rv e1a, iv 3] [(.int 3), (.ref aR), (.ref e3a)])
      refine own_st (fun _ k => XT.iconstV X137.here hx rfl (1 : Int32) (hb hby at_356) (by decide) k) ?_
      show own_Go p e below _ T137 (mkF m 357 #[iv p1, iv p2, iv 4, iv 1, rv aE, rv aR, rv o1, rv e1a, iv 3] [(.int 1), (.int 3), (.ref aR), (.ref e3a)])
      refine own_st (fun _ k => XS.isub X137.here hx rfl (hb hby at_357) rfl k) ?_
      show own_Go p e below _ T137 (mkF m 358 #[iv p1, iv p2, iv 4, iv 1, rv aE, rv aR, rv o1, rv e1a, iv 3] [(.int (3 - 1)), (.ref aR), (.ref e3a)])
      rw [show ((3 : Int32) - (1 : Int32)) = (2 : Int32) from by decide]
      show own_Go p e below _ T137 (mkF m 358 #[iv p1, iv p2, iv 4, iv 1, rv aE, rv aR, rv o1, rv e1a, iv 3] [(.int 2), (.ref aR), (.ref e3a)])
      refine own_st (fun _ k => own_ldR X137 hx hZ e137 V135_aR rfl ⟨by decide, by decide⟩ (v := (.ref e3a)) rfl rfl rfl (hb hby at_358) k) ?_
      show own_Go p e below _ T137 (mkF m 359 #[iv p1, iv p2, iv 4, iv 1, rv aE, rv aR, rv o1, rv e1a, iv 3] [(.ref e3a), (.ref e3a)])
      refine own_st (fun _ k => XT.acmpNo X137.here hx rfl (hb hby at_359) rfl rfl rfl (XT.aa_ne_f rfl) k) ?_
      show own_Go p e below _ T137 (mkF m 362 #[iv p1, iv p2, iv 4, iv 1, rv aE, rv aR, rv o1, rv e1a, iv 3] [])
      refine own_st (fun _ k => XS.aload X137.here hx rfl (hb hby at_362) rfl rfl k) ?_
      show own_Go p e below _ T137 (mkF m 364 #[iv p1, iv p2, iv 4, iv 1, rv aE, rv aR, rv o1, rv e1a, iv 3] [(.ref aR)])
      refine own_st (fun _ k => XS.iload X137.here hx rfl (hb hby at_364) rfl k) ?_
      show own_Go p e below _ T137 (mkF m 366 #[iv p1, iv p2, iv 4, iv 1, rv aE, rv aR, rv o1, rv e1a, iv 3] [(.int 3), (.ref aR)])
      refine own_st (fun _ k => XT.iconstV X137.here hx rfl (1 : Int32) (hb hby at_366) (by decide) k) ?_
      show own_Go p e below _ T137 (mkF m 367 #[iv p1, iv p2, iv 4, iv 1, rv aE, rv aR, rv o1, rv e1a, iv 3] [(.int 1), (.int 3), (.ref aR)])
      refine own_st (fun _ k => XS.isub X137.here hx rfl (hb hby at_367) rfl k) ?_
      show own_Go p e below _ T137 (mkF m 368 #[iv p1, iv p2, iv 4, iv 1, rv aE, rv aR, rv o1, rv e1a, iv 3] [(.int (3 - 1)), (.ref aR)])
      rw [show ((3 : Int32) - (1 : Int32)) = (2 : Int32) from by decide]
      show own_Go p e below _ T137 (mkF m 368 #[iv p1, iv p2, iv 4, iv 1, rv aE, rv aR, rv o1, rv e1a, iv 3] [(.int 2), (.ref aR)])
      refine own_st (fun _ k => own_ldR X137 hx hZ e137 V135_aR rfl ⟨by decide, by decide⟩ (v := (.ref e3a)) rfl rfl rfl (hb hby at_368) k) ?_
      show own_Go p e below _ T137 (mkF m 369 #[iv p1, iv p2, iv 4, iv 1, rv aE, rv aR, rv o1, rv e1a, iv 3] [(.ref e3a)])
      obtain ⟨T138, X138, e138, st138⟩ := getF X137 hx hZ hown (host := "") (Or.inl (hw _ (List.mem_of_getElem? (i := 46) rfl))) (Via.of (hw _ (List.mem_of_getElem? (i := 47) rfl))) e137 FC135_next_e3a (g := (mkF m 369 #[iv p1, iv p2, iv 4, iv 1, rv aE, rv aR, rv o1, rv e1a, iv 3] [(.ref e3a)])) rfl rfl (hb hby at_369)
      clear X137 e137
      refine own_st st138 ?_
      clear st138
      show own_Go p e below _ T138 (mkF m 372 #[iv p1, iv p2, iv 4, iv 1, rv aE, rv aR, rv o1, rv e1a, iv 3] [(.ref e1a)])
      refine own_st (fun _ k => XS.aload X138.here hx rfl (hb hby at_372) rfl rfl k) ?_
      show own_Go p e below _ T138 (mkF m 374 #[iv p1, iv p2, iv 4, iv 1, rv aE, rv aR, rv o1, rv e1a, iv 3] [(.ref e1a), (.ref e1a)])
      refine own_st (fun _ k => XT.acmpNo X138.here hx rfl (hb hby at_374) rfl rfl rfl (XT.aa_ne_f rfl) k) ?_
      show own_Go p e below _ T138 (mkF m 377 #[iv p1, iv p2, iv 4, iv 1, rv aE, rv aR, rv o1, rv e1a, iv 3] [])
      refine own_st (fun _ k => XS.aload X138.here hx rfl (hb hby at_377) rfl rfl k) ?_
      show own_Go p e below _ T138 (mkF m 379 #[iv p1, iv p2, iv 4, iv 1, rv aE, rv aR, rv o1, rv e1a, iv 3] [(.ref e1a)])
      obtain ⟨T139, X139, e139, st139⟩ := getF X138 hx hZ hown (host := "") (Or.inl (hw _ (List.mem_of_getElem? (i := 46) rfl))) (Via.of (hw _ (List.mem_of_getElem? (i := 47) rfl))) e138 FC135_next_e1a (g := (mkF m 379 #[iv p1, iv p2, iv 4, iv 1, rv aE, rv aR, rv o1, rv e1a, iv 3] [(.ref e1a)])) rfl rfl (hb hby at_379)
      clear X138 e138
      refine own_st st139 ?_
      clear st139
      show own_Go p e below _ T139 (mkF m 382 #[iv p1, iv p2, iv 4, iv 1, rv aE, rv aR, rv o1, rv e1a, iv 3] [.null])
      refine own_st (fun _ k => XT.ifnonnullNo X139.here hx rfl (hb hby at_382) rfl k) ?_
      show own_Go p e below _ T139 (mkF m 385 #[iv p1, iv p2, iv 4, iv 1, rv aE, rv aR, rv o1, rv e1a, iv 3] [])
      refine own_st (fun _ k => XT.iconstV X139.here hx rfl (1 : Int32) (hb hby at_385) (by decide) k) ?_
      show own_Go p e below _ T139 (mkF m 386 #[iv p1, iv p2, iv 4, iv 1, rv aE, rv aR, rv o1, rv e1a, iv 3] [(.int 1)])
      refine own_st (fun _ k => XS.goto X139.here hx rfl (pc0 := 386) (pc' := 390) rfl (hb hby at_386) (by decide) (by decide) k) ?_
      show own_Go p e below _ T139 (mkF m 390 #[iv p1, iv p2, iv 4, iv 1, rv aE, rv aR, rv o1, rv e1a, iv 3] [(.int 1)])
      refine own_retN X139 hx Bd.notSynchronized (t := .boolean) Bd.returns (by simp) (hb hby at_390) (by decide) (by decide) ?_
      rw [e139]
      exact ⟨rfl, P136⟩
    · show own_Go p e below _ T108 (mkF m 132 #[iv p1, iv p2, iv 4, iv 2, rv aE, rv aR, rv o1, .unset, .unset] [(.int 2), (.ref aE)])
      refine own_st (fun _ k => own_ldR Y108 hx hZ rfl V108_aE rfl ⟨by decide, by decide⟩ (v := (.ref e2a)) rfl rfl rfl (hb hby at_132) k) ?_
      show own_Go p e below _ T108 (mkF m 133 #[iv p1, iv p2, iv 4, iv 2, rv aE, rv aR, rv o1, .unset, .unset] [(.ref e2a)])
      refine own_st (fun _ k => XS.astore Y108.here hx rfl (hb hby at_133) rfl rfl (l' := #[iv p1, iv p2, iv 4, iv 2, rv aE, rv aR, rv o1, rv e2a, .unset]) rfl k) ?_
      show own_Go p e below _ T108 (mkF m 135 #[iv p1, iv p2, iv 4, iv 2, rv aE, rv aR, rv o1, rv e2a, .unset] [])
      refine own_st (fun _ k => XS.aload Y108.here hx rfl (hb hby at_135) rfl rfl k) ?_
      show own_Go p e below _ T108 (mkF m 137 #[iv p1, iv p2, iv 4, iv 2, rv aE, rv aR, rv o1, rv e2a, .unset] [(.ref o1)])
      refine own_st (fun _ k => XS.aload Y108.here hx rfl (hb hby at_137) rfl rfl k) ?_
      show own_Go p e below _ T108 (mkF m 139 #[iv p1, iv p2, iv 4, iv 2, rv aE, rv aR, rv o1, rv e2a, .unset] [(.ref e2a), (.ref o1)])
      obtain ⟨cq141, kq141, q141a, q141b, q141c⟩ := isOf hZ rfl E108_o1
      obtain ⟨_, T141, L141, X141, hQ141, st141⟩ := own_gotT (Y108.virtualBack hx (y := (⟨"com/example/recency/recency/RecencyList", "remove", "(Lcom/example/recency/recency/RecencyList$Link;)V"⟩ : MethodName)) (z := (⟨"com/example/recency/recency/RecencyList", "remove", "(Lcom/example/recency/recency/RecencyList$Link;)V"⟩ : MethodName)) hown (mvT hZ (hw _ (List.mem_of_getElem? (i := 35) rfl))) (mvT hZ (hw _ (List.mem_of_getElem? (i := 36) rfl))) (notFace_of_selects (args := #[]) (mvT hZ (hw _ (List.mem_of_getElem? (i := 38) rfl)))) (mvT hZ (hw _ (List.mem_of_getElem? (i := 38) rfl))) (mvT hZ (hw _ (List.mem_of_getElem? (i := 37) rfl))) (by decide) (backOf (W := 0) (own_rm_rem1110 l Z a0 hw [] o1 e2a e1a e3a e0a e3a e0a T108.heap n0 Z108 (S_A.ext O108.2) E108_o1 E108_e2a E108_e1a E108_e3a FC108_first_o1 FC108_last_o1 FC108_previous_e2a FC108_next_e2a F108_previous_e1a F108_next_e1a FC108_previous_e3a FC108_next_e3a g_o1 g_e2a g_e1a g_e3a ne_e2a_o1.symm ne_e1a_o1.symm ne_e3a_o1.symm ne_e1a_e2a.symm ne_e2a_e3a ne_e1a_e3a) hZ (hw _ (List.mem_of_getElem? (i := 39) rfl)) (hw _ (List.mem_of_getElem? (i := 19) rfl)) (by decide) (by decide)) q141a q141c (g := (mkF m 139 #[iv p1, iv p2, iv 4, iv 2, rv aE, rv aR, rv o1, rv e2a, .unset] [(.ref e2a), (.ref o1)])) rfl (by rw [hml]; rfl) (Steps.refl _) (argsL := [(.ref e2a)]) (rest := []) (lenOf own_pd1 rfl) rfl (by show 2 * 0 + _ ≤ _; exact Nat.le_of_eq rfl) (hb hby at_139) (fun _ _ => ⟨rfl, rfl, (by decide : 7 + 0 ≤ _), (by decide : 17 + 0 ≤ _)⟩))
      replace X141 := own_num X141 (k' := 7) (n' := 17) rfl rfl
      obtain ⟨rfl, N141, KC141, FC141_first_o1, FC141_last_o1, FC141_previous_e2a, FC141_next_e2a, FC141_previous_e1a, FC141_next_e1a, FC141_previous_e3a, FC141_next_e3a⟩ := hQ141
      have M141 := Fr.app P108 N141
      obtain ⟨lc141, Y141, P141⟩ := own_hide X141 M141
      refine own_tr st141 ?_
      clear P108 Y108 N141 X141 M141 st141
      show own_Go p e below _ T141 (mkF m 142 #[iv p1, iv p2, iv 4, iv 2, rv aE, rv aR, rv o1, rv e2a, .unset] [])
      have O141 := O108.keep KC141 (allS g_o1 (allS g_e2a (allS g_e1a (allS g_e3a all0))))
      have V141_aE := V108_aE.keep KC141 (ninS ne_aE_o1 (ninS ne_aE_e2a (ninS ne_aE_e1a (ninS ne_aE_e3a nin0))))
      have V141_aR := V108_aR.keep KC141 (ninS ne_aR_o1 (ninS ne_e2a_aR.symm (ninS ne_e1a_aR.symm (ninS ne_e3a_aR.symm nin0))))
      have E141_e0a := E108_e0a.keep KC141
      have E141_e1a := E108_e1a.keep KC141
      have E141_e2a := E108_e2a.keep KC141
      have E141_e3a := E108_e3a.keep KC141
      have E141_o1 := E108_o1.keep KC141
      have F141_previous_e0a := F108_previous_e0a.keep KC141 (ninS ne_e0a_o1 (ninS ne_e0a_e2a (ninS ne_e0a_e1a (ninS ne_e0a_e3a nin0))))
      have F141_next_e0a := F108_next_e0a.keep KC141 (ninS ne_e0a_o1 (ninS ne_e0a_e2a (ninS ne_e0a_e1a (ninS ne_e0a_e3a nin0))))
      have Z141 : n0 ≤ T141.heap.size := Nat.le_trans Z108 KC141.1
      clear O108 Z108 V108_aE V108_aR E108_e0a E108_e1a E108_e2a E108_e3a E108_o1 F108_previous_e0a F108_next_e0a F108_previous_e1a F108_next_e1a FC108_previous_e2a FC108_next_e2a FC108_previous_e3a FC108_next_e3a FC108_first_o1 FC108_last_o1 KC141
      refine own_st (fun _ k => XS.iloadN Y141.here hx rfl (hb hby at_142) rfl k) ?_
      show own_Go p e below _ T141 (mkF m 143 #[iv p1, iv p2, iv 4, iv 2, rv aE, rv aR, rv o1, rv e2a, .unset] [(.int 4)])
      refine own_st (fun _ k => XT.iconstV Y141.here hx rfl (1 : Int32) (hb hby at_143) (by decide) k) ?_
      show own_Go p e below _ T141 (mkF m 144 #[iv p1, iv p2, iv 4, iv 2, rv aE, rv aR, rv o1, rv e2a, .unset] [(.int 1), (.int 4)])
      refine own_st (fun _ k => XS.isub Y141.here hx rfl (hb hby at_144) rfl k) ?_
      show own_Go p e below _ T141 (mkF m 145 #[iv p1, iv p2, iv 4, iv 2, rv aE, rv aR, rv o1, rv e2a, .unset] [(.int (4 - 1))])
      refine own_st (fun _ k => XS.istore Y141.here hx rfl (hb hby at_145) rfl (l' := #[iv p1, iv p2, iv 4, iv 2, rv aE, rv aR, rv o1, rv e2a, iv (4 - 1)]) rfl k) ?_
      show own_Go p e below _ T141 (mkF m 147 #[iv p1, iv p2, iv 4, iv 2, rv aE, rv aR, rv o1, rv e2a, iv (4 - 1)] [])
      refine own_st (fun _ k => XS.iload Y141.here hx rfl (hb hby at_147) rfl k) ?_
      show own_Go p e below _ T141 (mkF m 149 #[iv p1, iv p2, iv 4, iv 2, rv aE, rv aR, rv o1, rv e2a, iv (4 - 1)] [(.int (4 - 1))])
      rw [show ((4 : Int32) - (1 : Int32)) = (3 : Int32) from by decide]
      show own_Go p e below _ T141 (mkF m 149 #[iv p1, iv p2, iv 4, iv 2, rv aE, rv aR, rv o1, rv e2a, iv 3] [(.int 3)])
      refine own_st (fun _ k => XS.ifNo Y141.here hx rfl (hb hby at_149) rfl (XT.i0_le_f (by decide)) k) ?_
      show own_Go p e below _ T141 (mkF m 152 #[iv p1, iv p2, iv 4, iv 2, rv aE, rv aR, rv o1, rv e2a, iv 3] [])
      refine own_st (fun _ k => XS.aload Y141.here hx rfl (hb hby at_152) rfl rfl k) ?_
      show own_Go p e below _ T141 (mkF m 154 #[iv p1, iv p2, iv 4, iv 2, rv aE, rv aR, rv o1, rv e2a, iv 3] [(.ref aR)])
      refine own_st (fun _ k => XT.iconstV Y141.here hx rfl (0 : Int32) (hb hby at_154) (by decide) k) ?_
      show own_Go p e below _ T141 (mkF m 155 #[iv p1, iv p2, iv 4, iv 2, rv aE, rv aR, rv o1, rv e2a, iv 3] [(.int 0), (.ref aR)])
      refine own_st (fun _ k => XS.aload Y141.here hx rfl (hb hby at_155) rfl rfl k) ?_
      show own_Go p e below _ T141 (mkF m 157 #[iv p1, iv p2, iv 4, iv 2, rv aE, rv aR, rv o1, rv e2a, iv 3] [(.ref aE), (.int 0), (.ref aR)])
      refine own_st (fun _ k => XT.iconstV Y141.here hx rfl (0 : Int32) (hb hby at_157) (by decide) k) ?_
      show own_Go p e below _ T141 (mkF m 158 #[iv p1, iv p2, iv 4, iv 2, rv aE, rv aR, rv o1, rv e2a, iv 3] [(.int 0), (.ref aE), (.int 0), (.ref aR)])
      refine own_st (fun _ k => XS.iloadN Y141.here hx rfl (hb hby at_158) rfl k) ?_
      show own_Go p e below _ T141 (mkF m 159 #[iv p1, iv p2, iv 4, iv 2, rv aE, rv aR, rv o1, rv e2a, iv 3] [(.int 2), (.int 0), (.ref aE), (.int 0), (.ref aR)])
      refine own_st (fun _ k => XS.icmpNo Y141.here hx rfl (hb hby at_159) rfl (XT.ii_ge_f (by decide)) k) ?_
      show own_Go p e below _ T141 (mkF m 162 #[iv p1, iv p2, iv 4, iv 2, rv aE, rv aR, rv o1, rv e2a, iv 3] [(.ref aE), (.int 0), (.ref aR)])
      refine own_st (fun _ k => XT.iconstV Y141.here hx rfl (0 : Int32) (hb hby at_162) (by decide) k) ?_
      show own_Go p e below _ T141 (mkF m 163 #[iv p1, iv p2, iv 4, iv 2, rv aE, rv aR, rv o1, rv e2a, iv 3] [(.int 0), (.ref aE), (.int 0), (.ref aR)])
      refine own_st (fun _ k => XS.goto Y141.here hx rfl (pc0 := 163) (pc' := 167) rfl (hb hby at_163) (by decide) (by decide) k) ?_
      show own_Go p e below _ T141 (mkF m 167 #[iv p1, iv p2, iv 4, iv 2, rv aE, rv aR, rv o1, rv e2a, iv 3] [(.int 0), (.ref aE), (.int 0), (.ref aR)])
      refine own_st (fun _ k => own_ldR Y141 hx hZ rfl V141_aE rfl ⟨by decide, by decide⟩ (v := (.ref e0a)) rfl rfl rfl (hb hby at_167) k) ?_
      show own_Go p e below _ T141 (mkF m 168 #[iv p1, iv p2, iv 4, iv 2, rv aE, rv aR, rv o1, rv e2a, iv 3] [(.ref e0a), (.int 0), (.ref aR)])
      obtain ⟨T142, h142, X142, e142, W142, V142, st142⟩ := own_stR Y141 hx hZ rfl V141_aR Ov_aR (Ins.self E141_e0a) (j := (0 : Int32)) ⟨by decide, by decide⟩ 0 rfl (Nat.le_of_ble_eq_true rfl) (g := (mkF m 168 #[iv p1, iv p2, iv 4, iv 2, rv aE, rv aR, rv o1, rv e2a, iv 3] [(.ref e0a), (.int 0), (.ref aR)])) rfl rfl (hb hby at_168)
      have V142_aR : Arv Z h142 aR k_aR (.object "com/example/recency/recency/RecencyListRemovePinLaw") (3 : Int32) [(.ref e0a), .null, .null] .null := V142
      have O142 := O141.wr W142 g_aR
      have V142_aE := V141_aE.other W142 ne_aE_aR
      have E142_e0a := E141_e0a.wr W142
      have E142_e1a := E141_e1a.wr W142
      have E142_e2a := E141_e2a.wr W142
      have E142_e3a := E141_e3a.wr W142
      have E142_o1 := E141_o1.wr W142
      have F142_previous_e0a := F141_previous_e0a.other W142 (Or.inl ne_e0a_aR)
      have F142_next_e0a := F141_next_e0a.other W142 (Or.inl ne_e0a_aR)
      have F142_previous_e1a := FC141_previous_e1a.other W142 (Or.inl ne_e1a_aR)
      have F142_next_e1a := FC141_next_e1a.other W142 (Or.inl ne_e1a_aR)
      have F142_previous_e2a := FC141_previous_e2a.other W142 (Or.inl ne_e2a_aR)
      have F142_next_e2a := FC141_next_e2a.other W142 (Or.inl ne_e2a_aR)
      have F142_previous_e3a := FC141_previous_e3a.other W142 (Or.inl ne_e3a_aR)
      have F142_next_e3a := FC141_next_e3a.other W142 (Or.inl ne_e3a_aR)
      have F142_first_o1 := FC141_first_o1.other W142 (Or.inl ne_aR_o1.symm)
      have F142_last_o1 := FC141_last_o1.other W142 (Or.inl ne_aR_o1.symm)
      have Z142 : n0 ≤ h142.size := by rw [W142.size]; exact Z141
      clear O141 Z141 V141_aE E141_e0a E141_e1a E141_e2a E141_e3a E141_o1 F141_previous_e0a F141_next_e0a FC141_previous_e1a FC141_next_e1a FC141_previous_e2a FC141_next_e2a FC141_previous_e3a FC141_next_e3a FC141_first_o1 FC141_last_o1 V141_aR W142
      have N142 := Fr.snoc X142 P141 g_aR
      obtain ⟨lc142, Y142, P142⟩ := own_hide X142 N142
      clear X142 N142
      clear Y141
      refine own_st st142 ?_
      clear st142
      show own_Go p e below _ T142 (mkF m 169 #[iv p1, iv p2, iv 4, iv 2, rv aE, rv aR, rv o1, rv e2a, iv 3] [])
      refine own_st (fun _ k => XS.iload Y142.here hx rfl (hb hby at_169) rfl k) ?_
      show own_Go p e below _ T142 (mkF m 171 #[iv p1, iv p2, iv 4, iv 2, rv aE, rv aR, rv o1, rv e2a, iv 3] [(.int 3)])
      refine own_st (fun _ k => XT.iconstV Y142.here hx rfl (1 : Int32) (hb hby at_171) (by decide) k) ?_
      show own_Go p e below _ T142 (mkF m 172 #[iv p1, iv p2, iv 4, iv 2, rv aE, rv aR, rv o1, rv e2a, iv 3] [(.int 1), (.int 3)])
      refine own_st (fun _ k => XS.icmpNo Y142.here hx rfl (hb hby at_172) rfl (XT.ii_le_f (by decide)) k) ?_
      show own_Go p e below _ T142 (mkF m 175 #[iv p1, iv p2, iv 4, iv 2, rv aE, rv aR, rv o1, rv e2a, iv 3] [])
      refine own_st (fun _ k => XS.aload Y142.here hx rfl (hb hby at_175) rfl rfl k) ?_
      show own_Go p e below _ T142 (mkF m 177 #[iv p1, iv p2, iv 4, iv 2, rv aE, rv aR, rv o1, rv e2a, iv 3] [(.ref aR)])
      refine own_st (fun _ k => XT.iconstV Y142.here hx rfl (1 : Int32) (hb hby at_177) (by decide) k) ?_
      show own_Go p e below _ T142 (mkF m 178 #[iv p1, iv p2, iv 4, iv 2, rv aE, rv aR, rv o1, rv e2a, iv 3] [(.int 1), (.ref aR)])
      refine own_st (fun _ k => XS.aload Y142.here hx rfl (hb hby at_178) rfl rfl k) ?_
      show own_Go p e below _ T142 (mkF m 180 #[iv p1, iv p2, iv 4, iv 2, rv aE, rv aR, rv o1, rv e2a, iv 3] [(.ref aE), (.int 1), (.ref aR)])
      refine own_st (fun _ k => XT.iconstV Y142.here hx rfl (1 : Int32) (hb hby at_180) (by decide) k) ?_
      show own_Go p e below _ T142 (mkF m 181 #[iv p1, iv p2, iv 4, iv 2, rv aE, rv aR, rv o1, rv e2a, iv 3] [(.int 1), (.ref aE), (.int 1), (.ref aR)])
      refine own_st (fun _ k => XS.iloadN Y142.here hx rfl (hb hby at_181) rfl k) ?_
      show own_Go p e below _ T142 (mkF m 182 #[iv p1, iv p2, iv 4, iv 2, rv aE, rv aR, rv o1, rv e2a, iv 3] [(.int 2), (.int 1), (.ref aE), (.int 1), (.ref aR)])
      refine own_st (fun _ k => XS.icmpNo Y142.here hx rfl (hb hby at_182) rfl (XT.ii_ge_f (by decide)) k) ?_
      show own_Go p e below _ T142 (mkF m 185 #[iv p1, iv p2, iv 4, iv 2, rv aE, rv aR, rv o1, rv e2a, iv 3] [(.ref aE), (.int 1), (.ref aR)])
      refine own_st (fun _ k => XT.iconstV Y142.here hx rfl (1 : Int32) (hb hby at_185) (by decide) k) ?_
      show own_Go p e below _ T142 (mkF m 186 #[iv p1, iv p2, iv 4, iv 2, rv aE, rv aR, rv o1, rv e2a, iv 3] [(.int 1), (.ref aE), (.int 1), (.ref aR)])
      refine own_st (fun _ k => XS.goto Y142.here hx rfl (pc0 := 186) (pc' := 190) rfl (hb hby at_186) (by decide) (by decide) k) ?_
      show own_Go p e below _ T142 (mkF m 190 #[iv p1, iv p2, iv 4, iv 2, rv aE, rv aR, rv o1, rv e2a, iv 3] [(.int 1), (.ref aE), (.int 1), (.ref aR)])
      refine own_st (fun _ k => own_ldR Y142 hx hZ e142 V142_aE rfl ⟨by decide, by decide⟩ (v := (.ref e1a)) rfl rfl rfl (hb hby at_190) k) ?_
      show own_Go p e below _ T142 (mkF m 191 #[iv p1, iv p2, iv 4, iv 2, rv aE, rv aR, rv o1, rv e2a, iv 3] [(.ref e1a), (.int 1), (.ref aR)])
      obtain ⟨T143, h143, X143, e143, W143, V143, st143⟩ := own_stR Y142 hx hZ e142 V142_aR Ov_aR (Ins.self E142_e1a) (j := (1 : Int32)) ⟨by decide, by decide⟩ 1 rfl (Nat.le_of_ble_eq_true rfl) (g := (mkF m 191 #[iv p1, iv p2, iv 4, iv 2, rv aE, rv aR, rv o1, rv e2a, iv 3] [(.ref e1a), (.int 1), (.ref aR)])) rfl rfl (hb hby at_191)
      have V143_aR : Arv Z h143 aR k_aR (.object "com/example/recency/recency/RecencyListRemovePinLaw") (3 : Int32) [(.ref e0a), (.ref e1a), .null] .null := V143
      have O143 := O142.wr W143 g_aR
      have V143_aE := V142_aE.other W143 ne_aE_aR
      have E143_e0a := E142_e0a.wr W143
      have E143_e1a := E142_e1a.wr W143
      have E143_e2a := E142_e2a.wr W143
      have E143_e3a := E142_e3a.wr W143
      have E143_o1 := E142_o1.wr W143
      have F143_previous_e0a := F142_previous_e0a.other W143 (Or.inl ne_e0a_aR)
      have F143_next_e0a := F142_next_e0a.other W143 (Or.inl ne_e0a_aR)
      have F143_previous_e1a := F142_previous_e1a.other W143 (Or.inl ne_e1a_aR)
      have F143_next_e1a := F142_next_e1a.other W143 (Or.inl ne_e1a_aR)
      have F143_previous_e2a := F142_previous_e2a.other W143 (Or.inl ne_e2a_aR)
      have F143_next_e2a := F142_next_e2a.other W143 (Or.inl ne_e2a_aR)
      have F143_previous_e3a := F142_previous_e3a.other W143 (Or.inl ne_e3a_aR)
      have F143_next_e3a := F142_next_e3a.other W143 (Or.inl ne_e3a_aR)
      have F143_first_o1 := F142_first_o1.other W143 (Or.inl ne_aR_o1.symm)
      have F143_last_o1 := F142_last_o1.other W143 (Or.inl ne_aR_o1.symm)
      have Z143 : n0 ≤ h143.size := by rw [W143.size]; exact Z142
      clear O142 Z142 V142_aE E142_e0a E142_e1a E142_e2a E142_e3a E142_o1 F142_previous_e0a F142_next_e0a F142_previous_e1a F142_next_e1a F142_previous_e2a F142_next_e2a F142_previous_e3a F142_next_e3a F142_first_o1 F142_last_o1 V142_aR W143
      have N143 := Fr.snoc X143 P142 g_aR
      obtain ⟨lc143, Y143, P143⟩ := own_hide X143 N143
      clear X143 N143
      clear Y142 e142
      refine own_st st143 ?_
      clear st143
      show own_Go p e below _ T143 (mkF m 192 #[iv p1, iv p2, iv 4, iv 2, rv aE, rv aR, rv o1, rv e2a, iv 3] [])
      refine own_st (fun _ k => XS.iload Y143.here hx rfl (hb hby at_192) rfl k) ?_
      show own_Go p e below _ T143 (mkF m 194 #[iv p1, iv p2, iv 4, iv 2, rv aE, rv aR, rv o1, rv e2a, iv 3] [(.int 3)])
      refine own_st (fun _ k => XT.iconstV Y143.here hx rfl (2 : Int32) (hb hby at_194) (by decide) k) ?_
      show own_Go p e below _ T143 (mkF m 195 #[iv p1, iv p2, iv 4, iv 2, rv aE, rv aR, rv o1, rv e2a, iv 3] [(.int 2), (.int 3)])
      refine own_st (fun _ k => XS.icmpNo Y143.here hx rfl (hb hby at_195) rfl (XT.ii_le_f (by decide)) k) ?_
      show own_Go p e below _ T143 (mkF m 198 #[iv p1, iv p2, iv 4, iv 2, rv aE, rv aR, rv o1, rv e2a, iv 3] [])
      refine own_st (fun _ k => XS.aload Y143.here hx rfl (hb hby at_198) rfl rfl k) ?_
      show own_Go p e below _ T143 (mkF m 200 #[iv p1, iv p2, iv 4, iv 2, rv aE, rv aR, rv o1, rv e2a, iv 3] [(.ref aR)])
      refine own_st (fun _ k => XT.iconstV Y143.here hx rfl (2 : Int32) (hb hby at_200) (by decide) k) ?_
      show own_Go p e below _ T143 (mkF m 201 #[iv p1, iv p2, iv 4, iv 2, rv aE, rv aR, rv o1, rv e2a, iv 3] [(.int 2), (.ref aR)])
      refine own_st (fun _ k => XS.aload Y143.here hx rfl (hb hby at_201) rfl rfl k) ?_
      show own_Go p e below _ T143 (mkF m 203 #[iv p1, iv p2, iv 4, iv 2, rv aE, rv aR, rv o1, rv e2a, iv 3] [(.ref aE), (.int 2), (.ref aR)])
      refine own_st (fun _ k => XT.iconstV Y143.here hx rfl (2 : Int32) (hb hby at_203) (by decide) k) ?_
      show own_Go p e below _ T143 (mkF m 204 #[iv p1, iv p2, iv 4, iv 2, rv aE, rv aR, rv o1, rv e2a, iv 3] [(.int 2), (.ref aE), (.int 2), (.ref aR)])
      refine own_st (fun _ k => XS.iloadN Y143.here hx rfl (hb hby at_204) rfl k) ?_
      show own_Go p e below _ T143 (mkF m 205 #[iv p1, iv p2, iv 4, iv 2, rv aE, rv aR, rv o1, rv e2a, iv 3] [(.int 2), (.int 2), (.ref aE), (.int 2), (.ref aR)])
      refine own_st (fun _ k => XS.icmpYes Y143.here hx rfl (pc0 := 205) (pc' := 212) rfl (hb hby at_205) rfl (XT.ii_ge_t (by decide)) (by decide) (by decide) k) ?_
      show own_Go p e below _ T143 (mkF m 212 #[iv p1, iv p2, iv 4, iv 2, rv aE, rv aR, rv o1, rv e2a, iv 3] [(.ref aE), (.int 2), (.ref aR)])
      refine own_st (fun _ k => XT.iconstV Y143.here hx rfl (3 : Int32) (hb hby at_212) (by decide) k) ?_
      show own_Go p e below _ T143 (mkF m 213 #[iv p1, iv p2, iv 4, iv 2, rv aE, rv aR, rv o1, rv e2a, iv 3] [(.int 3), (.ref aE), (.int 2), (.ref aR)])
      refine own_st (fun _ k => own_ldR Y143 hx hZ e143 V143_aE rfl ⟨by decide, by decide⟩ (v := (.ref e3a)) rfl rfl rfl (hb hby at_213) k) ?_
      show own_Go p e below _ T143 (mkF m 214 #[iv p1, iv p2, iv 4, iv 2, rv aE, rv aR, rv o1, rv e2a, iv 3] [(.ref e3a), (.int 2), (.ref aR)])
      obtain ⟨T144, h144, X144, e144, W144, V144, st144⟩ := own_stR Y143 hx hZ e143 V143_aR Ov_aR (Ins.self E143_e3a) (j := (2 : Int32)) ⟨by decide, by decide⟩ 2 rfl (Nat.le_of_ble_eq_true rfl) (g := (mkF m 214 #[iv p1, iv p2, iv 4, iv 2, rv aE, rv aR, rv o1, rv e2a, iv 3] [(.ref e3a), (.int 2), (.ref aR)])) rfl rfl (hb hby at_214)
      have V144_aR : Arv Z h144 aR k_aR (.object "com/example/recency/recency/RecencyListRemovePinLaw") (3 : Int32) [(.ref e0a), (.ref e1a), (.ref e3a)] .null := V144
      have O144 := O143.wr W144 g_aR
      have V144_aE := V143_aE.other W144 ne_aE_aR
      have E144_e0a := E143_e0a.wr W144
      have E144_e1a := E143_e1a.wr W144
      have E144_e2a := E143_e2a.wr W144
      have E144_e3a := E143_e3a.wr W144
      have E144_o1 := E143_o1.wr W144
      have F144_previous_e0a := F143_previous_e0a.other W144 (Or.inl ne_e0a_aR)
      have F144_next_e0a := F143_next_e0a.other W144 (Or.inl ne_e0a_aR)
      have F144_previous_e1a := F143_previous_e1a.other W144 (Or.inl ne_e1a_aR)
      have F144_next_e1a := F143_next_e1a.other W144 (Or.inl ne_e1a_aR)
      have F144_previous_e2a := F143_previous_e2a.other W144 (Or.inl ne_e2a_aR)
      have F144_next_e2a := F143_next_e2a.other W144 (Or.inl ne_e2a_aR)
      have F144_previous_e3a := F143_previous_e3a.other W144 (Or.inl ne_e3a_aR)
      have F144_next_e3a := F143_next_e3a.other W144 (Or.inl ne_e3a_aR)
      have F144_first_o1 := F143_first_o1.other W144 (Or.inl ne_aR_o1.symm)
      have F144_last_o1 := F143_last_o1.other W144 (Or.inl ne_aR_o1.symm)
      have Z144 : n0 ≤ h144.size := by rw [W144.size]; exact Z143
      clear O143 Z143 V143_aE E143_e0a E143_e1a E143_e2a E143_e3a E143_o1 F143_previous_e0a F143_next_e0a F143_previous_e1a F143_next_e1a F143_previous_e2a F143_next_e2a F143_previous_e3a F143_next_e3a F143_first_o1 F143_last_o1 V143_aR W144
      have N144 := Fr.snoc X144 P143 g_aR
      obtain ⟨lc144, Y144, P144⟩ := own_hide X144 N144
      clear X144 N144
      clear Y143 e143
      refine own_st st144 ?_
      clear st144
      show own_Go p e below _ T144 (mkF m 215 #[iv p1, iv p2, iv 4, iv 2, rv aE, rv aR, rv o1, rv e2a, iv 3] [])
      refine own_st (fun _ k => XS.aload Y144.here hx rfl (hb hby at_215) rfl rfl k) ?_
      show own_Go p e below _ T144 (mkF m 217 #[iv p1, iv p2, iv 4, iv 2, rv aE, rv aR, rv o1, rv e2a, iv 3] [(.ref e2a)])
      obtain ⟨T145, X145, e145, st145⟩ := getF Y144 hx hZ hown (host := "") (Or.inl (hw _ (List.mem_of_getElem? (i := 44) rfl))) (Via.of (hw _ (List.mem_of_getElem? (i := 45) rfl))) e144 F144_previous_e2a (g := (mkF m 217 #[iv p1, iv p2, iv 4, iv 2, rv aE, rv aR, rv o1, rv e2a, iv 3] [(.ref e2a)])) rfl rfl (hb hby at_217)
      clear Y144 e144
      refine own_st st145 ?_
      clear st145
      show own_Go p e below _ T145 (mkF m 220 #[iv p1, iv p2, iv 4, iv 2, rv aE, rv aR, rv o1, rv e2a, iv 3] [.null])
      refine own_st (fun _ k => XT.ifnonnullNo X145.here hx rfl (hb hby at_220) rfl k) ?_
      show own_Go p e below _ T145 (mkF m 223 #[iv p1, iv p2, iv 4, iv 2, rv aE, rv aR, rv o1, rv e2a, iv 3] [])
      refine own_st (fun _ k => XS.aload X145.here hx rfl (hb hby at_223) rfl rfl k) ?_
      show own_Go p e below _ T145 (mkF m 225 #[iv p1, iv p2, iv 4, iv 2, rv aE, rv aR, rv o1, rv e2a, iv 3] [(.ref e2a)])
      obtain ⟨T146, X146, e146, st146⟩ := getF X145 hx hZ hown (host := "") (Or.inl (hw _ (List.mem_of_getElem? (i := 46) rfl))) (Via.of (hw _ (List.mem_of_getElem? (i := 47) rfl))) e145 F144_next_e2a (g := (mkF m 225 #[iv p1, iv p2, iv 4, iv 2, rv aE, rv aR, rv o1, rv e2a, iv 3] [(.ref e2a)])) rfl rfl (hb hby at_225)
      clear X145 e145
      refine own_st st146 ?_
      clear st146
      show own_Go p e below _ T146 (mkF m 228 #[iv p1, iv p2, iv 4, iv 2, rv aE, rv aR, rv o1, rv e2a, iv 3] [.null])
      refine own_st (fun _ k => XS.ifnullYes X146.here hx rfl (pc0 := 228) (pc' := 233) rfl (hb hby at_228) rfl (by decide) (by decide) k) ?_
      show own_Go p e below _ T146 (mkF m 233 #[iv p1, iv p2, iv 4, iv 2, rv aE, rv aR, rv o1, rv e2a, iv 3] [])
      refine own_st (fun _ k => XS.aload X146.here hx rfl (hb hby at_233) rfl rfl k) ?_
      show own_Go p e below _ T146 (mkF m 235 #[iv p1, iv p2, iv 4, iv 2, rv aE, rv aR, rv o1, rv e2a, iv 3] [(.ref o1)])
      obtain ⟨cq147, kq147, q147a, q147b, q147c⟩ := isOf hZ e146 E144_o1
      obtain ⟨_, T147, L147, X147, hQ147, st147⟩ := own_gotT (X146.virtualBack hx (y := (⟨"com/example/recency/recency/RecencyList", "first", "()Lcom/example/recency/recency/RecencyList$Link;"⟩ : MethodName)) (z := (⟨"com/example/recency/recency/RecencyList", "first", "()Lcom/example/recency/recency/RecencyList$Link;"⟩ : MethodName)) hown (mvT hZ (hw _ (List.mem_of_getElem? (i := 48) rfl))) (mvT hZ (hw _ (List.mem_of_getElem? (i := 49) rfl))) (notFace_of_selects (args := #[]) (mvT hZ (hw _ (List.mem_of_getElem? (i := 51) rfl)))) (mvT hZ (hw _ (List.mem_of_getElem? (i := 51) rfl))) (mvT hZ (hw _ (List.mem_of_getElem? (i := 50) rfl))) (by decide) (backOf (W := 0) (own_rm_fst l Z a0 hw [] o1 (.ref e0a) h144 n0 Z144 rfl F144_first_o1) hZ (hw _ (List.mem_of_getElem? (i := 52) rfl)) (hw _ (List.mem_of_getElem? (i := 19) rfl)) (by decide) (by decide)) q147a q147c (g := (mkF m 235 #[iv p1, iv p2, iv 4, iv 2, rv aE, rv aR, rv o1, rv e2a, iv 3] [(.ref o1)])) rfl (by rw [hml]; rfl) (Steps.refl _) (argsL := []) (rest := []) (lenOf own_pd2 rfl) rfl (by show 2 * 0 + _ ≤ _; exact Nat.le_of_eq rfl) (hb hby at_235) (fun _ _ => ⟨rfl, e146, (by decide : 7 + 0 ≤ _), (by decide : 17 + 0 ≤ _)⟩))
      replace X147 := own_num X147 (k' := 7) (n' := 17) rfl rfl
      obtain ⟨rfl, N147, eh147⟩ := hQ147
      have M147 := Fr.app P144 N147
      obtain ⟨lc147, Y147, P147⟩ := own_hide X147 M147
      refine own_tr st147 ?_
      clear P144 X146 N147 e146 X147 M147 st147
      show own_Go p e below _ T147 (mkF m 238 #[iv p1, iv p2, iv 4, iv 2, rv aE, rv aR, rv o1, rv e2a, iv 3] [(.ref e0a)])
      refine own_st (fun _ k => XS.iload Y147.here hx rfl (hb hby at_238) rfl k) ?_
      show own_Go p e below _ T147 (mkF m 240 #[iv p1, iv p2, iv 4, iv 2, rv aE, rv aR, rv o1, rv e2a, iv 3] [(.int 3), (.ref e0a)])
      refine own_st (fun _ k => XS.ifNo Y147.here hx rfl (hb hby at_240) rfl (XT.i0_le_f (by decide)) k) ?_
      show own_Go p e below _ T147 (mkF m 243 #[iv p1, iv p2, iv 4, iv 2, rv aE, rv aR, rv o1, rv e2a, iv 3] [(.ref e0a)])
      refine own_st (fun _ k => XS.aload Y147.here hx rfl (hb hby at_243) rfl rfl k) ?_
      show own_Go p e below _ T147 (mkF m 245 #[iv p1, iv p2, iv 4, iv 2, rv aE, rv aR, rv o1, rv e2a, iv 3] [(.ref aR), (.ref e0a)])
      refine own_st (fun _ k => XT.iconstV Y147.here hx rfl (0 : Int32) (hb hby at_245) (by decide) k) ?_
      show own_Go p e below _ T147 (mkF m 246 #[iv p1, iv p2, iv 4, iv 2, rv aE, rv aR, rv o1, rv e2a, iv 3] [(.int 0), (.ref aR), (.ref e0a)])
      refine own_st (fun _ k => own_ldR Y147 hx hZ eh147 V144_aR rfl ⟨by decide, by decide⟩ (v := (.ref e0a)) rfl rfl rfl (hb hby at_246) k) ?_
      show own_Go p e below _ T147 (mkF m 247 #[iv p1, iv p2, iv 4, iv 2, rv aE, rv aR, rv o1, rv e2a, iv 3] [(.ref e0a), (.ref e0a)])
      refine own_st (fun _ k => XS.goto Y147.here hx rfl (pc0 := 247) (pc' := 251) rfl (hb hby at_247) (by decide) (by decide) k) ?_
      show own_Go p e below _ T147 (mkF m 251 #[iv p1, iv p2, iv 4, iv 2, rv aE, rv aR, rv o1, rv e2a, iv 3] [(.ref e0a), (.ref e0a)])
      refine own_st (fun _ k => XT.acmpYes Y147.here hx rfl (pc0 := 251) (pc' := 256) rfl (hb hby at_251) rfl rfl rfl (XT.aa_eq_t rfl) (by decide) (by decide) k) ?_
      show own_Go p e below _ T147 (mkF m 256 #[iv p1, iv p2, iv 4, iv 2, rv aE, rv aR, rv o1, rv e2a, iv 3] [])
      refine own_st (fun _ k => XS.aload Y147.here hx rfl (hb hby at_256) rfl rfl k) ?_
      show own_Go p e below _ T147 (mkF m 258 #[iv p1, iv p2, iv 4, iv 2, rv aE, rv aR, rv o1, rv e2a, iv 3] [(.ref aR)])
      refine own_st (fun _ k => XT.iconstV Y147.here hx rfl (0 : Int32) (hb hby at_258) (by decide) k) ?_
      show own_Go p e below _ T147 (mkF m 259 #[iv p1, iv p2, iv 4, iv 2, rv aE, rv aR, rv o1, rv e2a, iv 3] [(.int 0), (.ref aR)])
      refine own_st (fun _ k => XS.iload Y147.here hx rfl (hb hby at_259) rfl k) ?_
      show own_Go p e below _ T147 (mkF m 261 #[iv p1, iv p2, iv 4, iv 2, rv aE, rv aR, rv o1, rv e2a, iv 3] [(.int 3), (.int 0), (.ref aR)])
      obtain ⟨_, T148, L148, X148, hQ148, st148⟩ := own_gotS (Jvm.LawKit.callS Y147 hx (y := (⟨"com/example/recency/recency/RecencyListRemovePinLaw", "linked", "([Lcom/example/recency/recency/RecencyListRemovePinLaw;II)Z"⟩ : MethodName)) hown (mvT hZ (hw _ (List.mem_of_getElem? (i := 53) rfl))) (mvT hZ (hw _ (List.mem_of_getElem? (i := 54) rfl))) (mvT hZ (hw _ (List.mem_of_getElem? (i := 4) rfl))) (mvT hZ (hw _ (List.mem_of_getElem? (i := 55) rfl))) (by decide) (backOf (W := 0) (own_rm_lk03 l Z a0 hw [] aR k_aR e0a e1a (.ref e3a) h144 n0 Z144 V144_aR F144_previous_e0a F144_next_e0a) hZ (hw _ (List.mem_of_getElem? (i := 55) rfl)) (hw _ (List.mem_of_getElem? (i := 4) rfl)) (by decide) (by decide)) (g := (mkF m 261 #[iv p1, iv p2, iv 4, iv 2, rv aE, rv aR, rv o1, rv e2a, iv 3] [(.int 3), (.int 0), (.ref aR)])) rfl (by rw [hml]; rfl) (argsL := [(.ref aR), (.int (0 : Int32)), (.int (3 : Int32))]) (rest := []) (lenOf own_pd3 rfl) rfl (by show 2 * 0 + _ ≤ _; exact Nat.le_of_eq rfl) (hb hby at_261) (fun _ _ => ⟨rfl, eh147, (by decide : 7 + 0 ≤ _), (by decide : 17 + 0 ≤ _)⟩))
      replace X148 := own_num X148 (k' := 7) (n' := 17) rfl rfl
      obtain ⟨rfl, N148, eh148⟩ := hQ148
      have M148 := Fr.app P147 N148
      obtain ⟨lc148, Y148, P148⟩ := own_hide X148 M148
      refine own_st st148 ?_
      clear P147 Y147 N148 eh147 X148 M148 st148
      show own_Go p e below _ T148 (mkF m 264 #[iv p1, iv p2, iv 4, iv 2, rv aE, rv aR, rv o1, rv e2a, iv 3] [(.int 1)])
      refine own_st (fun _ k => XS.ifNo Y148.here hx rfl (hb hby at_264) rfl (XT.i0_eq_f (by decide)) k) ?_
      show own_Go p e below _ T148 (mkF m 267 #[iv p1, iv p2, iv 4, iv 2, rv aE, rv aR, rv o1, rv e2a, iv 3] [])
      refine own_st (fun _ k => XS.aload Y148.here hx rfl (hb hby at_267) rfl rfl k) ?_
      show own_Go p e below _ T148 (mkF m 269 #[iv p1, iv p2, iv 4, iv 2, rv aE, rv aR, rv o1, rv e2a, iv 3] [(.ref aR)])
      refine own_st (fun _ k => XT.iconstV Y148.here hx rfl (1 : Int32) (hb hby at_269) (by decide) k) ?_
      show own_Go p e below _ T148 (mkF m 270 #[iv p1, iv p2, iv 4, iv 2, rv aE, rv aR, rv o1, rv e2a, iv 3] [(.int 1), (.ref aR)])
      refine own_st (fun _ k => XS.iload Y148.here hx rfl (hb hby at_270) rfl k) ?_
      show own_Go p e below _ T148 (mkF m 272 #[iv p1, iv p2, iv 4, iv 2, rv aE, rv aR, rv o1, rv e2a, iv 3] [(.int 3), (.int 1), (.ref aR)])
      obtain ⟨_, T149, L149, X149, hQ149, st149⟩ := own_gotS (Jvm.LawKit.callS Y148 hx (y := (⟨"com/example/recency/recency/RecencyListRemovePinLaw", "linked", "([Lcom/example/recency/recency/RecencyListRemovePinLaw;II)Z"⟩ : MethodName)) hown (mvT hZ (hw _ (List.mem_of_getElem? (i := 53) rfl))) (mvT hZ (hw _ (List.mem_of_getElem? (i := 54) rfl))) (mvT hZ (hw _ (List.mem_of_getElem? (i := 4) rfl))) (mvT hZ (hw _ (List.mem_of_getElem? (i := 55) rfl))) (by decide) (backOf (W := 0) (own_rm_lk13 l Z a0 hw [] aR k_aR e1a e0a e3a h144 n0 Z144 V144_aR F144_previous_e1a F144_next_e1a) hZ (hw _ (List.mem_of_getElem? (i := 55) rfl)) (hw _ (List.mem_of_getElem? (i := 4) rfl)) (by decide) (by decide)) (g := (mkF m 272 #[iv p1, iv p2, iv 4, iv 2, rv aE, rv aR, rv o1, rv e2a, iv 3] [(.int 3), (.int 1), (.ref aR)])) rfl (by rw [hml]; rfl) (argsL := [(.ref aR), (.int (1 : Int32)), (.int (3 : Int32))]) (rest := []) (lenOf own_pd3 rfl) rfl (by show 2 * 0 + _ ≤ _; exact Nat.le_of_eq rfl) (hb hby at_272) (fun _ _ => ⟨rfl, eh148, (by decide : 7 + 0 ≤ _), (by decide : 17 + 0 ≤ _)⟩))
      replace X149 := own_num X149 (k' := 7) (n' := 17) rfl rfl
      obtain ⟨rfl, N149, eh149⟩ := hQ149
      have M149 := Fr.app P148 N149
      obtain ⟨lc149, Y149, P149⟩ := own_hide X149 M149
      refine own_st st149 ?_
      clear P148 Y148 N149 eh148 X149 M149 st149
      show own_Go p e below _ T149 (mkF m 275 #[iv p1, iv p2, iv 4, iv 2, rv aE, rv aR, rv o1, rv e2a, iv 3] [(.int 1)])
      refine own_st (fun _ k => XS.ifNo Y149.here hx rfl (hb hby at_275) rfl (XT.i0_eq_f (by decide)) k) ?_
      show own_Go p e below _ T149 (mkF m 278 #[iv p1, iv p2, iv 4, iv 2, rv aE, rv aR, rv o1, rv e2a, iv 3] [])
      refine own_st (fun _ k => XS.aload Y149.here hx rfl (hb hby at_278) rfl rfl k) ?_
      show own_Go p e below _ T149 (mkF m 280 #[iv p1, iv p2, iv 4, iv 2, rv aE, rv aR, rv o1, rv e2a, iv 3] [(.ref aR)])
      refine own_st (fun _ k => XT.iconstV Y149.here hx rfl (2 : Int32) (hb hby at_280) (by decide) k) ?_
      show own_Go p e below _ T149 (mkF m 281 #[iv p1, iv p2, iv 4, iv 2, rv aE, rv aR, rv o1, rv e2a, iv 3] [(.int 2), (.ref aR)])
      refine own_st (fun _ k => XS.iload Y149.here hx rfl (hb hby at_281) rfl k) ?_
      show own_Go p e below _ T149 (mkF m 283 #[iv p1, iv p2, iv 4, iv 2, rv aE, rv aR, rv o1, rv e2a, iv 3] [(.int 3), (.int 2), (.ref aR)])
      obtain ⟨_, T150, L150, X150, hQ150, st150⟩ := own_gotS (Jvm.LawKit.callS Y149 hx (y := (⟨"com/example/recency/recency/RecencyListRemovePinLaw", "linked", "([Lcom/example/recency/recency/RecencyListRemovePinLaw;II)Z"⟩ : MethodName)) hown (mvT hZ (hw _ (List.mem_of_getElem? (i := 53) rfl))) (mvT hZ (hw _ (List.mem_of_getElem? (i := 54) rfl))) (mvT hZ (hw _ (List.mem_of_getElem? (i := 4) rfl))) (mvT hZ (hw _ (List.mem_of_getElem? (i := 55) rfl))) (by decide) (backOf (W := 0) (own_rm_lk23 l Z a0 hw [] aR k_aR e3a e1a (.ref e0a) h144 n0 Z144 V144_aR F144_previous_e3a F144_next_e3a) hZ (hw _ (List.mem_of_getElem? (i := 55) rfl)) (hw _ (List.mem_of_getElem? (i := 4) rfl)) (by decide) (by decide)) (g := (mkF m 283 #[iv p1, iv p2, iv 4, iv 2, rv aE, rv aR, rv o1, rv e2a, iv 3] [(.int 3), (.int 2), (.ref aR)])) rfl (by rw [hml]; rfl) (argsL := [(.ref aR), (.int (2 : Int32)), (.int (3 : Int32))]) (rest := []) (lenOf own_pd3 rfl) rfl (by show 2 * 0 + _ ≤ _; exact Nat.le_of_eq rfl) (hb hby at_283) (fun _ _ => ⟨rfl, eh149, (by decide : 7 + 0 ≤ _), (by decide : 17 + 0 ≤ _)⟩))
      replace X150 := own_num X150 (k' := 7) (n' := 17) rfl rfl
      obtain ⟨rfl, N150, eh150⟩ := hQ150
      have M150 := Fr.app P149 N150
      obtain ⟨lc150, Y150, P150⟩ := own_hide X150 M150
      refine own_st st150 ?_
      clear P149 Y149 N150 eh149 X150 M150 st150
      show own_Go p e below _ T150 (mkF m 286 #[iv p1, iv p2, iv 4, iv 2, rv aE, rv aR, rv o1, rv e2a, iv 3] [(.int 1)])
      refine own_st (fun _ k => XS.ifYes Y150.here hx rfl (pc0 := 286) (pc' := 291) rfl (hb hby at_286) rfl (XT.i0_ne_t (by decide)) (by decide) (by decide) k) ?_
      show own_Go p e below _ T150 (mkF m 291 #[iv p1, iv p2, iv 4, iv 2, rv aE, rv aR, rv o1, rv e2a, iv 3] [])
      refine own_st (fun _ k => XS.aload Y150.here hx rfl (hb hby at_291) rfl rfl k) ?_
      show own_Go p e below _ T150 (mkF m 293 #[iv p1, iv p2, iv 4, iv 2, rv aE, rv aR, rv o1, rv e2a, iv 3] [(.ref o1)])
      refine own_st (fun _ k => XS.aload Y150.here hx rfl (hb hby at_293) rfl rfl k) ?_
      show own_Go p e below _ T150 (mkF m 295 #[iv p1, iv p2, iv 4, iv 2, rv aE, rv aR, rv o1, rv e2a, iv 3] [(.ref e2a), (.ref o1)])
      obtain ⟨cq151, kq151, q151a, q151b, q151c⟩ := isOf hZ eh150 E144_o1
      obtain ⟨_, T151, L151, X151, hQ151, st151⟩ := own_gotT (Y150.virtualBack hx (y := (⟨"com/example/recency/recency/RecencyList", "addLast", "(Lcom/example/recency/recency/RecencyList$Link;)V"⟩ : MethodName)) (z := (⟨"com/example/recency/recency/RecencyList", "addLast", "(Lcom/example/recency/recency/RecencyList$Link;)V"⟩ : MethodName)) hown (mvT hZ (hw _ (List.mem_of_getElem? (i := 24) rfl))) (mvT hZ (hw _ (List.mem_of_getElem? (i := 25) rfl))) (notFace_of_selects (args := #[]) (mvT hZ (hw _ (List.mem_of_getElem? (i := 27) rfl)))) (mvT hZ (hw _ (List.mem_of_getElem? (i := 27) rfl))) (mvT hZ (hw _ (List.mem_of_getElem? (i := 26) rfl))) (by decide) (backOf (W := 0) (own_rm_addP l Z a0 hw [] o1 e2a e3a e0a e1a h144 n0 Z144 (S_A.ext O144.2) E144_o1 E144_e3a E144_e2a F144_first_o1 F144_last_o1 F144_previous_e3a F144_next_e3a F144_previous_e2a F144_next_e2a g_o1 g_e3a g_e2a ne_e3a_o1.symm ne_e2a_o1.symm ne_e2a_e3a.symm) hZ (hw _ (List.mem_of_getElem? (i := 28) rfl)) (hw _ (List.mem_of_getElem? (i := 19) rfl)) (by decide) (by decide)) q151a q151c (g := (mkF m 295 #[iv p1, iv p2, iv 4, iv 2, rv aE, rv aR, rv o1, rv e2a, iv 3] [(.ref e2a), (.ref o1)])) rfl (by rw [hml]; rfl) (Steps.refl _) (argsL := [(.ref e2a)]) (rest := []) (lenOf own_pd1 rfl) rfl (by show 2 * 0 + _ ≤ _; exact Nat.le_of_eq rfl) (hb hby at_295) (fun _ _ => ⟨rfl, eh150, (by decide : 7 + 0 ≤ _), (by decide : 17 + 0 ≤ _)⟩))
      replace X151 := own_num X151 (k' := 7) (n' := 17) rfl rfl
      obtain ⟨rfl, N151, KC151, FC151_first_o1, FC151_last_o1, FC151_previous_e3a, FC151_next_e3a, FC151_previous_e2a, FC151_next_e2a⟩ := hQ151
      have M151 := Fr.app P150 N151
      obtain ⟨lc151, Y151, P151⟩ := own_hide X151 M151
      refine own_tr st151 ?_
      clear P150 Y150 N151 eh150 X151 M151 st151
      show own_Go p e below _ T151 (mkF m 298 #[iv p1, iv p2, iv 4, iv 2, rv aE, rv aR, rv o1, rv e2a, iv 3] [])
      have O151 := O144.keep KC151 (allS g_o1 (allS g_e3a (allS g_e2a all0)))
      have V151_aE := V144_aE.keep KC151 (ninS ne_aE_o1 (ninS ne_aE_e3a (ninS ne_aE_e2a nin0)))
      have V151_aR := V144_aR.keep KC151 (ninS ne_aR_o1 (ninS ne_e3a_aR.symm (ninS ne_e2a_aR.symm nin0)))
      have E151_e0a := E144_e0a.keep KC151
      have E151_e1a := E144_e1a.keep KC151
      have E151_e2a := E144_e2a.keep KC151
      have E151_e3a := E144_e3a.keep KC151
      have E151_o1 := E144_o1.keep KC151
      have F151_previous_e0a := F144_previous_e0a.keep KC151 (ninS ne_e0a_o1 (ninS ne_e0a_e3a (ninS ne_e0a_e2a nin0)))
      have F151_next_e0a := F144_next_e0a.keep KC151 (ninS ne_e0a_o1 (ninS ne_e0a_e3a (ninS ne_e0a_e2a nin0)))
      have F151_previous_e1a := F144_previous_e1a.keep KC151 (ninS ne_e1a_o1 (ninS ne_e1a_e3a (ninS ne_e1a_e2a nin0)))
      have F151_next_e1a := F144_next_e1a.keep KC151 (ninS ne_e1a_o1 (ninS ne_e1a_e3a (ninS ne_e1a_e2a nin0)))
      have Z151 : n0 ≤ T151.heap.size := Nat.le_trans Z144 KC151.1
      clear O144 Z144 V144_aE V144_aR E144_e0a E144_e1a E144_e2a E144_e3a E144_o1 F144_previous_e0a F144_next_e0a F144_previous_e1a F144_next_e1a F144_previous_e2a F144_next_e2a F144_previous_e3a F144_next_e3a F144_first_o1 F144_last_o1 KC151
      refine own_st (fun _ k => XS.iload Y151.here hx rfl (hb hby at_298) rfl k) ?_
      show own_Go p e below _ T151 (mkF m 300 #[iv p1, iv p2, iv 4, iv 2, rv aE, rv aR, rv o1, rv e2a, iv 3] [(.int 3)])
      refine own_st (fun _ k => XS.ifYes Y151.here hx rfl (pc0 := 300) (pc' := 335) rfl (hb hby at_300) rfl (XT.i0_ne_t (by decide)) (by decide) (by decide) k) ?_
      show own_Go p e below _ T151 (mkF m 335 #[iv p1, iv p2, iv 4, iv 2, rv aE, rv aR, rv o1, rv e2a, iv 3] [])
      refine own_st (fun _ k => XS.aload Y151.here hx rfl (hb hby at_335) rfl rfl k) ?_
      show own_Go p e below _ T151 (mkF m 337 #[iv p1, iv p2, iv 4, iv 2, rv aE, rv aR, rv o1, rv e2a, iv 3] [(.ref o1)])
      obtain ⟨cq152, kq152, q152a, q152b, q152c⟩ := isOf hZ rfl E151_o1
      obtain ⟨_, T152, L152, X152, hQ152, st152⟩ := own_gotT (Y151.virtualBack hx (y := (⟨"com/example/recency/recency/RecencyList", "first", "()Lcom/example/recency/recency/RecencyList$Link;"⟩ : MethodName)) (z := (⟨"com/example/recency/recency/RecencyList", "first", "()Lcom/example/recency/recency/RecencyList$Link;"⟩ : MethodName)) hown (mvT hZ (hw _ (List.mem_of_getElem? (i := 48) rfl))) (mvT hZ (hw _ (List.mem_of_getElem? (i := 49) rfl))) (notFace_of_selects (args := #[]) (mvT hZ (hw _ (List.mem_of_getElem? (i := 51) rfl)))) (mvT hZ (hw _ (List.mem_of_getElem? (i := 51) rfl))) (mvT hZ (hw _ (List.mem_of_getElem? (i := 50) rfl))) (by decide) (backOf (W := 0) (own_rm_fst l Z a0 hw [] o1 (.ref e0a) T151.heap n0 Z151 rfl FC151_first_o1) hZ (hw _ (List.mem_of_getElem? (i := 52) rfl)) (hw _ (List.mem_of_getElem? (i := 19) rfl)) (by decide) (by decide)) q152a q152c (g := (mkF m 337 #[iv p1, iv p2, iv 4, iv 2, rv aE, rv aR, rv o1, rv e2a, iv 3] [(.ref o1)])) rfl (by rw [hml]; rfl) (Steps.refl _) (argsL := []) (rest := []) (lenOf own_pd2 rfl) rfl (by show 2 * 0 + _ ≤ _; exact Nat.le_of_eq rfl) (hb hby at_337) (fun _ _ => ⟨rfl, rfl, (by decide : 7 + 0 ≤ _), (by decide : 17 + 0 ≤ _)⟩))
      replace X152 := own_num X152 (k' := 7) (n' := 17) rfl rfl
      obtain ⟨rfl, N152, eh152⟩ := hQ152
      have M152 := Fr.app P151 N152
      obtain ⟨lc152, Y152, P152⟩ := own_hide X152 M152
      refine own_tr st152 ?_
      clear P151 Y151 N152 X152 M152 st152
      show own_Go p e below _ T152 (mkF m 340 #[iv p1, iv p2, iv 4, iv 2, rv aE, rv aR, rv o1, rv e2a, iv 3] [(.ref e0a)])
      refine own_st (fun _ k => XS.aload Y152.here hx rfl (hb hby at_340) rfl rfl k) ?_
      show own_Go p e below _ T152 (mkF m 342 #[iv p1, iv p2, iv 4, iv 2, rv aE, rv aR, rv o1, rv e2a, iv 3] [(.ref aR), (.ref e0a)])
      refine own_st (fun _ k => XT.iconstV Y152.here hx rfl (0 : Int32) (hb hby at_342) (by decide) k) ?_
      show own_Go p e below _ T152 (mkF m 343 #[iv p1, iv p2, iv 4, iv 2, rv aE, rv aR, rv o1, rv e2a, iv 3] [(.int 0), (.ref aR), (.ref e0a)])
      refine own_st (fun _ k => own_ldR Y152 hx hZ eh152 V151_aR rfl ⟨by decide, by decide⟩ (v := (.ref e0a)) rfl rfl rfl (hb hby at_343) k) ?_
      show own_Go p e below _ T152 (mkF m 344 #[iv p1, iv p2, iv 4, iv 2, rv aE, rv aR, rv o1, rv e2a, iv 3] [(.ref e0a), (.ref e0a)])
      refine own_st (fun _ k => XT.acmpNo Y152.here hx rfl (hb hby at_344) rfl rfl rfl (XT.aa_ne_f rfl) k) ?_
      show own_Go p e below _ T152 (mkF m 347 #[iv p1, iv p2, iv 4, iv 2, rv aE, rv aR, rv o1, rv e2a, iv 3] [])
      refine own_st (fun _ k => XS.aload Y152.here hx rfl (hb hby at_347) rfl rfl k) ?_
      show own_Go p e below _ T152 (mkF m 349 #[iv p1, iv p2, iv 4, iv 2, rv aE, rv aR, rv o1, rv e2a, iv 3] [(.ref e2a)])
      obtain ⟨T153, X153, e153, st153⟩ := getF Y152 hx hZ hown (host := "") (Or.inl (hw _ (List.mem_of_getElem? (i := 44) rfl))) (Via.of (hw _ (List.mem_of_getElem? (i := 45) rfl))) eh152 FC151_previous_e2a (g := (mkF m 349 #[iv p1, iv p2, iv 4, iv 2, rv aE, rv aR, rv o1, rv e2a, iv 3] [(.ref e2a)])) rfl rfl (hb hby at_349)
      clear Y152 eh152
      refine own_st st153 ?_
      clear st153
      show own_Go p e below _ T153 (mkF m 352 #[iv p1, iv p2, iv 4, iv 2, rv aE, rv aR, rv o1, rv e2a, iv 3] [(.ref e3a)])
      refine own_st (fun _ k => XS.aload X153.here hx rfl (hb hby at_352) rfl rfl k) ?_
      show own_Go p e below _ T153 (mkF m 354 #[iv p1, iv p2, iv 4, iv 2, rv aE, rv aR, rv o1, rv e2a, iv 3] [(.ref aR), (.ref e3a)])
      refine own_st (fun _ k => XS.iload X153.here hx rfl (hb hby at_354) rfl k) ?_
      show own_Go p e below _ T153 (mkF m 356 #[iv p1, iv p2, iv 4, iv 2, rv aE, rv aR, rv o1, rv e2a, iv 3] [(.int 3), (.ref aR), (.ref e3a)])
      refine own_st (fun _ k => XT.iconstV X153.here hx rfl (1 : Int32) (hb hby at_356) (by decide) k) ?_
      show own_Go p e below _ T153 (mkF m 357 #[iv p1, iv p2, iv 4, iv 2, rv aE, rv aR, rv o1, rv e2a, iv 3] [(.int 1), (.int 3), (.ref aR), (.ref e3a)])
      refine own_st (fun _ k => XS.isub X153.here hx rfl (hb hby at_357) rfl k) ?_
      show own_Go p e below _ T153 (mkF m 358 #[iv p1, iv p2, iv 4, iv 2, rv aE, rv aR, rv o1, rv e2a, iv 3] [(.int (3 - 1)), (.ref aR), (.ref e3a)])
      rw [show ((3 : Int32) - (1 : Int32)) = (2 : Int32) from by decide]
      show own_Go p e below _ T153 (mkF m 358 #[iv p1, iv p2, iv 4, iv 2, rv aE, rv aR, rv o1, rv e2a, iv 3] [(.int 2), (.ref aR), (.ref e3a)])
      refine own_st (fun _ k => own_ldR X153 hx hZ e153 V151_aR rfl ⟨by decide, by decide⟩ (v := (.ref e3a)) rfl rfl rfl (hb hby at_358) k) ?_
      show own_Go p e below _ T153 (mkF m 359 #[iv p1, iv p2, iv 4, iv 2, rv aE, rv aR, rv o1, rv e2a, iv 3] [(.ref e3a), (.ref e3a)])
      refine own_st (fun _ k => XT.acmpNo X153.here hx rfl (hb hby at_359) rfl rfl rfl (XT.aa_ne_f rfl) k) ?_
      show own_Go p e below _ T153 (mkF m 362 #[iv p1, iv p2, iv 4, iv 2, rv aE, rv aR, rv o1, rv e2a, iv 3] [])
      refine own_st (fun _ k => XS.aload X153.here hx rfl (hb hby at_362) rfl rfl k) ?_
      show own_Go p e below _ T153 (mkF m 364 #[iv p1, iv p2, iv 4, iv 2, rv aE, rv aR, rv o1, rv e2a, iv 3] [(.ref aR)])
      refine own_st (fun _ k => XS.iload X153.here hx rfl (hb hby at_364) rfl k) ?_
      show own_Go p e below _ T153 (mkF m 366 #[iv p1, iv p2, iv 4, iv 2, rv aE, rv aR, rv o1, rv e2a, iv 3] [(.int 3), (.ref aR)])
      refine own_st (fun _ k => XT.iconstV X153.here hx rfl (1 : Int32) (hb hby at_366) (by decide) k) ?_
      show own_Go p e below _ T153 (mkF m 367 #[iv p1, iv p2, iv 4, iv 2, rv aE, rv aR, rv o1, rv e2a, iv 3] [(.int 1), (.int 3), (.ref aR)])
      refine own_st (fun _ k => XS.isub X153.here hx rfl (hb hby at_367) rfl k) ?_
      show own_Go p e below _ T153 (mkF m 368 #[iv p1, iv p2, iv 4, iv 2, rv aE, rv aR, rv o1, rv e2a, iv 3] [(.int (3 - 1)), (.ref aR)])
      rw [show ((3 : Int32) - (1 : Int32)) = (2 : Int32) from by decide]
      show own_Go p e below _ T153 (mkF m 368 #[iv p1, iv p2, iv 4, iv 2, rv aE, rv aR, rv o1, rv e2a, iv 3] [(.int 2), (.ref aR)])
      refine own_st (fun _ k => own_ldR X153 hx hZ e153 V151_aR rfl ⟨by decide, by decide⟩ (v := (.ref e3a)) rfl rfl rfl (hb hby at_368) k) ?_
      show own_Go p e below _ T153 (mkF m 369 #[iv p1, iv p2, iv 4, iv 2, rv aE, rv aR, rv o1, rv e2a, iv 3] [(.ref e3a)])
      obtain ⟨T154, X154, e154, st154⟩ := getF X153 hx hZ hown (host := "") (Or.inl (hw _ (List.mem_of_getElem? (i := 46) rfl))) (Via.of (hw _ (List.mem_of_getElem? (i := 47) rfl))) e153 FC151_next_e3a (g := (mkF m 369 #[iv p1, iv p2, iv 4, iv 2, rv aE, rv aR, rv o1, rv e2a, iv 3] [(.ref e3a)])) rfl rfl (hb hby at_369)
      clear X153 e153
      refine own_st st154 ?_
      clear st154
      show own_Go p e below _ T154 (mkF m 372 #[iv p1, iv p2, iv 4, iv 2, rv aE, rv aR, rv o1, rv e2a, iv 3] [(.ref e2a)])
      refine own_st (fun _ k => XS.aload X154.here hx rfl (hb hby at_372) rfl rfl k) ?_
      show own_Go p e below _ T154 (mkF m 374 #[iv p1, iv p2, iv 4, iv 2, rv aE, rv aR, rv o1, rv e2a, iv 3] [(.ref e2a), (.ref e2a)])
      refine own_st (fun _ k => XT.acmpNo X154.here hx rfl (hb hby at_374) rfl rfl rfl (XT.aa_ne_f rfl) k) ?_
      show own_Go p e below _ T154 (mkF m 377 #[iv p1, iv p2, iv 4, iv 2, rv aE, rv aR, rv o1, rv e2a, iv 3] [])
      refine own_st (fun _ k => XS.aload X154.here hx rfl (hb hby at_377) rfl rfl k) ?_
      show own_Go p e below _ T154 (mkF m 379 #[iv p1, iv p2, iv 4, iv 2, rv aE, rv aR, rv o1, rv e2a, iv 3] [(.ref e2a)])
      obtain ⟨T155, X155, e155, st155⟩ := getF X154 hx hZ hown (host := "") (Or.inl (hw _ (List.mem_of_getElem? (i := 46) rfl))) (Via.of (hw _ (List.mem_of_getElem? (i := 47) rfl))) e154 FC151_next_e2a (g := (mkF m 379 #[iv p1, iv p2, iv 4, iv 2, rv aE, rv aR, rv o1, rv e2a, iv 3] [(.ref e2a)])) rfl rfl (hb hby at_379)
      clear X154 e154
      refine own_st st155 ?_
      clear st155
      show own_Go p e below _ T155 (mkF m 382 #[iv p1, iv p2, iv 4, iv 2, rv aE, rv aR, rv o1, rv e2a, iv 3] [.null])
      refine own_st (fun _ k => XT.ifnonnullNo X155.here hx rfl (hb hby at_382) rfl k) ?_
      show own_Go p e below _ T155 (mkF m 385 #[iv p1, iv p2, iv 4, iv 2, rv aE, rv aR, rv o1, rv e2a, iv 3] [])
      refine own_st (fun _ k => XT.iconstV X155.here hx rfl (1 : Int32) (hb hby at_385) (by decide) k) ?_
      show own_Go p e below _ T155 (mkF m 386 #[iv p1, iv p2, iv 4, iv 2, rv aE, rv aR, rv o1, rv e2a, iv 3] [(.int 1)])
      refine own_st (fun _ k => XS.goto X155.here hx rfl (pc0 := 386) (pc' := 390) rfl (hb hby at_386) (by decide) (by decide) k) ?_
      show own_Go p e below _ T155 (mkF m 390 #[iv p1, iv p2, iv 4, iv 2, rv aE, rv aR, rv o1, rv e2a, iv 3] [(.int 1)])
      refine own_retN X155 hx Bd.notSynchronized (t := .boolean) Bd.returns (by simp) (hb hby at_390) (by decide) (by decide) ?_
      rw [e155]
      exact ⟨rfl, P152⟩
    · show own_Go p e below _ T108 (mkF m 132 #[iv p1, iv p2, iv 4, iv 3, rv aE, rv aR, rv o1, .unset, .unset] [(.int 3), (.ref aE)])
      refine own_st (fun _ k => own_ldR Y108 hx hZ rfl V108_aE rfl ⟨by decide, by decide⟩ (v := (.ref e3a)) rfl rfl rfl (hb hby at_132) k) ?_
      show own_Go p e below _ T108 (mkF m 133 #[iv p1, iv p2, iv 4, iv 3, rv aE, rv aR, rv o1, .unset, .unset] [(.ref e3a)])
      refine own_st (fun _ k => XS.astore Y108.here hx rfl (hb hby at_133) rfl rfl (l' := #[iv p1, iv p2, iv 4, iv 3, rv aE, rv aR, rv o1, rv e3a, .unset]) rfl k) ?_
      show own_Go p e below _ T108 (mkF m 135 #[iv p1, iv p2, iv 4, iv 3, rv aE, rv aR, rv o1, rv e3a, .unset] [])
      refine own_st (fun _ k => XS.aload Y108.here hx rfl (hb hby at_135) rfl rfl k) ?_
      show own_Go p e below _ T108 (mkF m 137 #[iv p1, iv p2, iv 4, iv 3, rv aE, rv aR, rv o1, rv e3a, .unset] [(.ref o1)])
      refine own_st (fun _ k => XS.aload Y108.here hx rfl (hb hby at_137) rfl rfl k) ?_
      show own_Go p e below _ T108 (mkF m 139 #[iv p1, iv p2, iv 4, iv 3, rv aE, rv aR, rv o1, rv e3a, .unset] [(.ref e3a), (.ref o1)])
      obtain ⟨cq157, kq157, q157a, q157b, q157c⟩ := isOf hZ rfl E108_o1
      obtain ⟨_, T157, L157, X157, hQ157, st157⟩ := own_gotT (Y108.virtualBack hx (y := (⟨"com/example/recency/recency/RecencyList", "remove", "(Lcom/example/recency/recency/RecencyList$Link;)V"⟩ : MethodName)) (z := (⟨"com/example/recency/recency/RecencyList", "remove", "(Lcom/example/recency/recency/RecencyList$Link;)V"⟩ : MethodName)) hown (mvT hZ (hw _ (List.mem_of_getElem? (i := 35) rfl))) (mvT hZ (hw _ (List.mem_of_getElem? (i := 36) rfl))) (notFace_of_selects (args := #[]) (mvT hZ (hw _ (List.mem_of_getElem? (i := 38) rfl)))) (mvT hZ (hw _ (List.mem_of_getElem? (i := 38) rfl))) (mvT hZ (hw _ (List.mem_of_getElem? (i := 37) rfl))) (by decide) (backOf (W := 0) (own_rm_rem10D l Z a0 hw [] o1 e3a e2a e0a e1a T108.heap n0 Z108 (S_A.ext O108.2) E108_o1 E108_e3a E108_e2a FC108_first_o1 FC108_last_o1 FC108_previous_e3a FC108_next_e3a FC108_previous_e2a FC108_next_e2a g_o1 g_e3a g_e2a ne_e3a_o1.symm ne_e2a_o1.symm ne_e2a_e3a.symm) hZ (hw _ (List.mem_of_getElem? (i := 39) rfl)) (hw _ (List.mem_of_getElem? (i := 19) rfl)) (by decide) (by decide)) q157a q157c (g := (mkF m 139 #[iv p1, iv p2, iv 4, iv 3, rv aE, rv aR, rv o1, rv e3a, .unset] [(.ref e3a), (.ref o1)])) rfl (by rw [hml]; rfl) (Steps.refl _) (argsL := [(.ref e3a)]) (rest := []) (lenOf own_pd1 rfl) rfl (by show 2 * 0 + _ ≤ _; exact Nat.le_of_eq rfl) (hb hby at_139) (fun _ _ => ⟨rfl, rfl, (by decide : 7 + 0 ≤ _), (by decide : 17 + 0 ≤ _)⟩))
      replace X157 := own_num X157 (k' := 7) (n' := 17) rfl rfl
      obtain ⟨rfl, N157, KC157, FC157_first_o1, FC157_last_o1, FC157_previous_e3a, FC157_next_e3a, FC157_previous_e2a, FC157_next_e2a⟩ := hQ157
      have M157 := Fr.app P108 N157
      obtain ⟨lc157, Y157, P157⟩ := own_hide X157 M157
      refine own_tr st157 ?_
      clear P108 Y108 N157 X157 M157 st157
      show own_Go p e below _ T157 (mkF m 142 #[iv p1, iv p2, iv 4, iv 3, rv aE, rv aR, rv o1, rv e3a, .unset] [])
      have O157 := O108.keep KC157 (allS g_o1 (allS g_e3a (allS g_e2a all0)))
      have V157_aE := V108_aE.keep KC157 (ninS ne_aE_o1 (ninS ne_aE_e3a (ninS ne_aE_e2a nin0)))
      have V157_aR := V108_aR.keep KC157 (ninS ne_aR_o1 (ninS ne_e3a_aR.symm (ninS ne_e2a_aR.symm nin0)))
      have E157_e0a := E108_e0a.keep KC157
      have E157_e1a := E108_e1a.keep KC157
      have E157_e2a := E108_e2a.keep KC157
      have E157_e3a := E108_e3a.keep KC157
      have E157_o1 := E108_o1.keep KC157
      have F157_previous_e0a := F108_previous_e0a.keep KC157 (ninS ne_e0a_o1 (ninS ne_e0a_e3a (ninS ne_e0a_e2a nin0)))
      have F157_next_e0a := F108_next_e0a.keep KC157 (ninS ne_e0a_o1 (ninS ne_e0a_e3a (ninS ne_e0a_e2a nin0)))
      have F157_previous_e1a := F108_previous_e1a.keep KC157 (ninS ne_e1a_o1 (ninS ne_e1a_e3a (ninS ne_e1a_e2a nin0)))
      have F157_next_e1a := F108_next_e1a.keep KC157 (ninS ne_e1a_o1 (ninS ne_e1a_e3a (ninS ne_e1a_e2a nin0)))
      have Z157 : n0 ≤ T157.heap.size := Nat.le_trans Z108 KC157.1
      clear O108 Z108 V108_aE V108_aR E108_e0a E108_e1a E108_e2a E108_e3a E108_o1 F108_previous_e0a F108_next_e0a F108_previous_e1a F108_next_e1a FC108_previous_e2a FC108_next_e2a FC108_previous_e3a FC108_next_e3a FC108_first_o1 FC108_last_o1 KC157
      refine own_st (fun _ k => XS.iloadN Y157.here hx rfl (hb hby at_142) rfl k) ?_
      show own_Go p e below _ T157 (mkF m 143 #[iv p1, iv p2, iv 4, iv 3, rv aE, rv aR, rv o1, rv e3a, .unset] [(.int 4)])
      refine own_st (fun _ k => XT.iconstV Y157.here hx rfl (1 : Int32) (hb hby at_143) (by decide) k) ?_
      show own_Go p e below _ T157 (mkF m 144 #[iv p1, iv p2, iv 4, iv 3, rv aE, rv aR, rv o1, rv e3a, .unset] [(.int 1), (.int 4)])
      refine own_st (fun _ k => XS.isub Y157.here hx rfl (hb hby at_144) rfl k) ?_
      show own_Go p e below _ T157 (mkF m 145 #[iv p1, iv p2, iv 4, iv 3, rv aE, rv aR, rv o1, rv e3a, .unset] [(.int (4 - 1))])
      refine own_st (fun _ k => XS.istore Y157.here hx rfl (hb hby at_145) rfl (l' := #[iv p1, iv p2, iv 4, iv 3, rv aE, rv aR, rv o1, rv e3a, iv (4 - 1)]) rfl k) ?_
      show own_Go p e below _ T157 (mkF m 147 #[iv p1, iv p2, iv 4, iv 3, rv aE, rv aR, rv o1, rv e3a, iv (4 - 1)] [])
      refine own_st (fun _ k => XS.iload Y157.here hx rfl (hb hby at_147) rfl k) ?_
      show own_Go p e below _ T157 (mkF m 149 #[iv p1, iv p2, iv 4, iv 3, rv aE, rv aR, rv o1, rv e3a, iv (4 - 1)] [(.int (4 - 1))])
      rw [show ((4 : Int32) - (1 : Int32)) = (3 : Int32) from by decide]
      show own_Go p e below _ T157 (mkF m 149 #[iv p1, iv p2, iv 4, iv 3, rv aE, rv aR, rv o1, rv e3a, iv 3] [(.int 3)])
      refine own_st (fun _ k => XS.ifNo Y157.here hx rfl (hb hby at_149) rfl (XT.i0_le_f (by decide)) k) ?_
      show own_Go p e below _ T157 (mkF m 152 #[iv p1, iv p2, iv 4, iv 3, rv aE, rv aR, rv o1, rv e3a, iv 3] [])
      refine own_st (fun _ k => XS.aload Y157.here hx rfl (hb hby at_152) rfl rfl k) ?_
      show own_Go p e below _ T157 (mkF m 154 #[iv p1, iv p2, iv 4, iv 3, rv aE, rv aR, rv o1, rv e3a, iv 3] [(.ref aR)])
      refine own_st (fun _ k => XT.iconstV Y157.here hx rfl (0 : Int32) (hb hby at_154) (by decide) k) ?_
      show own_Go p e below _ T157 (mkF m 155 #[iv p1, iv p2, iv 4, iv 3, rv aE, rv aR, rv o1, rv e3a, iv 3] [(.int 0), (.ref aR)])
      refine own_st (fun _ k => XS.aload Y157.here hx rfl (hb hby at_155) rfl rfl k) ?_
      show own_Go p e below _ T157 (mkF m 157 #[iv p1, iv p2, iv 4, iv 3, rv aE, rv aR, rv o1, rv e3a, iv 3] [(.ref aE), (.int 0), (.ref aR)])
      refine own_st (fun _ k => XT.iconstV Y157.here hx rfl (0 : Int32) (hb hby at_157) (by decide) k) ?_
      show own_Go p e below _ T157 (mkF m 158 #[iv p1, iv p2, iv 4, iv 3, rv aE, rv aR, rv o1, rv e3a, iv 3] [(.int 0), (.ref aE), (.int 0), (.ref aR)])
      refine own_st (fun _ k => XS.iloadN Y157.here hx rfl (hb hby at_158) rfl k) ?_
      show own_Go p e below _ T157 (mkF m 159 #[iv p1, iv p2, iv 4, iv 3, rv aE, rv aR, rv o1, rv e3a, iv 3] [(.int 3), (.int 0), (.ref aE), (.int 0), (.ref aR)])
      refine own_st (fun _ k => XS.icmpNo Y157.here hx rfl (hb hby at_159) rfl (XT.ii_ge_f (by decide)) k) ?_
      show own_Go p e below _ T157 (mkF m 162 #[iv p1, iv p2, iv 4, iv 3, rv aE, rv aR, rv o1, rv e3a, iv 3] [(.ref aE), (.int 0), (.ref aR)])
      refine own_st (fun _ k => XT.iconstV Y157.here hx rfl (0 : Int32) (hb hby at_162) (by decide) k) ?_
      show own_Go p e below _ T157 (mkF m 163 #[iv p1, iv p2, iv 4, iv 3, rv aE, rv aR, rv o1, rv e3a, iv 3] [(.int 0), (.ref aE), (.int 0), (.ref aR)])
      refine own_st (fun _ k => XS.goto Y157.here hx rfl (pc0 := 163) (pc' := 167) rfl (hb hby at_163) (by decide) (by decide) k) ?_
      show own_Go p e below _ T157 (mkF m 167 #[iv p1, iv p2, iv 4, iv 3, rv aE, rv aR, rv o1, rv e3a, iv 3] [(.int 0), (.ref aE), (.int 0), (.ref aR)])
      refine own_st (fun _ k => own_ldR Y157 hx hZ rfl V157_aE rfl ⟨by decide, by decide⟩ (v := (.ref e0a)) rfl rfl rfl (hb hby at_167) k) ?_
      show own_Go p e below _ T157 (mkF m 168 #[iv p1, iv p2, iv 4, iv 3, rv aE, rv aR, rv o1, rv e3a, iv 3] [(.ref e0a), (.int 0), (.ref aR)])
      obtain ⟨T158, h158, X158, e158, W158, V158, st158⟩ := own_stR Y157 hx hZ rfl V157_aR Ov_aR (Ins.self E157_e0a) (j := (0 : Int32)) ⟨by decide, by decide⟩ 0 rfl (Nat.le_of_ble_eq_true rfl) (g := (mkF m 168 #[iv p1, iv p2, iv 4, iv 3, rv aE, rv aR, rv o1, rv e3a, iv 3] [(.ref e0a), (.int 0), (.ref aR)])) rfl rfl (hb hby at_168)
      have V158_aR : Arv Z h158 aR k_aR (.object "com/example/recency/recency/RecencyListRemovePinLaw") (3 : Int32) [(.ref e0a), .null, .null] .null := V158
      have O158 := O157.wr W158 g_aR
      have V158_aE := V157_aE.other W158 ne_aE_aR
      have E158_e0a := E157_e0a.wr W158
      have E158_e1a := E157_e1a.wr W158
      have E158_e2a := E157_e2a.wr W158
      have E158_e3a := E157_e3a.wr W158
      have E158_o1 := E157_o1.wr W158
      have F158_previous_e0a := F157_previous_e0a.other W158 (Or.inl ne_e0a_aR)
      have F158_next_e0a := F157_next_e0a.other W158 (Or.inl ne_e0a_aR)
      have F158_previous_e1a := F157_previous_e1a.other W158 (Or.inl ne_e1a_aR)
      have F158_next_e1a := F157_next_e1a.other W158 (Or.inl ne_e1a_aR)
      have F158_previous_e2a := FC157_previous_e2a.other W158 (Or.inl ne_e2a_aR)
      have F158_next_e2a := FC157_next_e2a.other W158 (Or.inl ne_e2a_aR)
      have F158_previous_e3a := FC157_previous_e3a.other W158 (Or.inl ne_e3a_aR)
      have F158_next_e3a := FC157_next_e3a.other W158 (Or.inl ne_e3a_aR)
      have F158_first_o1 := FC157_first_o1.other W158 (Or.inl ne_aR_o1.symm)
      have F158_last_o1 := FC157_last_o1.other W158 (Or.inl ne_aR_o1.symm)
      have Z158 : n0 ≤ h158.size := by rw [W158.size]; exact Z157
      clear O157 Z157 V157_aE E157_e0a E157_e1a E157_e2a E157_e3a E157_o1 F157_previous_e0a F157_next_e0a F157_previous_e1a F157_next_e1a FC157_previous_e2a FC157_next_e2a FC157_previous_e3a FC157_next_e3a FC157_first_o1 FC157_last_o1 V157_aR W158
      have N158 := Fr.snoc X158 P157 g_aR
      obtain ⟨lc158, Y158, P158⟩ := own_hide X158 N158
      clear X158 N158
      clear Y157
      refine own_st st158 ?_
      clear st158
      show own_Go p e below _ T158 (mkF m 169 #[iv p1, iv p2, iv 4, iv 3, rv aE, rv aR, rv o1, rv e3a, iv 3] [])
      refine own_st (fun _ k => XS.iload Y158.here hx rfl (hb hby at_169) rfl k) ?_
      show own_Go p e below _ T158 (mkF m 171 #[iv p1, iv p2, iv 4, iv 3, rv aE, rv aR, rv o1, rv e3a, iv 3] [(.int 3)])
      refine own_st (fun _ k => XT.iconstV Y158.here hx rfl (1 : Int32) (hb hby at_171) (by decide) k) ?_
      show own_Go p e below _ T158 (mkF m 172 #[iv p1, iv p2, iv 4, iv 3, rv aE, rv aR, rv o1, rv e3a, iv 3] [(.int 1), (.int 3)])
      refine own_st (fun _ k => XS.icmpNo Y158.here hx rfl (hb hby at_172) rfl (XT.ii_le_f (by decide)) k) ?_
      show own_Go p e below _ T158 (mkF m 175 #[iv p1, iv p2, iv 4, iv 3, rv aE, rv aR, rv o1, rv e3a, iv 3] [])
      refine own_st (fun _ k => XS.aload Y158.here hx rfl (hb hby at_175) rfl rfl k) ?_
      show own_Go p e below _ T158 (mkF m 177 #[iv p1, iv p2, iv 4, iv 3, rv aE, rv aR, rv o1, rv e3a, iv 3] [(.ref aR)])
      refine own_st (fun _ k => XT.iconstV Y158.here hx rfl (1 : Int32) (hb hby at_177) (by decide) k) ?_
      show own_Go p e below _ T158 (mkF m 178 #[iv p1, iv p2, iv 4, iv 3, rv aE, rv aR, rv o1, rv e3a, iv 3] [(.int 1), (.ref aR)])
      refine own_st (fun _ k => XS.aload Y158.here hx rfl (hb hby at_178) rfl rfl k) ?_
      show own_Go p e below _ T158 (mkF m 180 #[iv p1, iv p2, iv 4, iv 3, rv aE, rv aR, rv o1, rv e3a, iv 3] [(.ref aE), (.int 1), (.ref aR)])
      refine own_st (fun _ k => XT.iconstV Y158.here hx rfl (1 : Int32) (hb hby at_180) (by decide) k) ?_
      show own_Go p e below _ T158 (mkF m 181 #[iv p1, iv p2, iv 4, iv 3, rv aE, rv aR, rv o1, rv e3a, iv 3] [(.int 1), (.ref aE), (.int 1), (.ref aR)])
      refine own_st (fun _ k => XS.iloadN Y158.here hx rfl (hb hby at_181) rfl k) ?_
      show own_Go p e below _ T158 (mkF m 182 #[iv p1, iv p2, iv 4, iv 3, rv aE, rv aR, rv o1, rv e3a, iv 3] [(.int 3), (.int 1), (.ref aE), (.int 1), (.ref aR)])
      refine own_st (fun _ k => XS.icmpNo Y158.here hx rfl (hb hby at_182) rfl (XT.ii_ge_f (by decide)) k) ?_
      show own_Go p e below _ T158 (mkF m 185 #[iv p1, iv p2, iv 4, iv 3, rv aE, rv aR, rv o1, rv e3a, iv 3] [(.ref aE), (.int 1), (.ref aR)])
      refine own_st (fun _ k => XT.iconstV Y158.here hx rfl (1 : Int32) (hb hby at_185) (by decide) k) ?_
      show own_Go p e below _ T158 (mkF m 186 #[iv p1, iv p2, iv 4, iv 3, rv aE, rv aR, rv o1, rv e3a, iv 3] [(.int 1), (.ref aE), (.int 1), (.ref aR)])
      refine own_st (fun _ k => XS.goto Y158.here hx rfl (pc0 := 186) (pc' := 190) rfl (hb hby at_186) (by decide) (by decide) k) ?_
      show own_Go p e below _ T158 (mkF m 190 #[iv p1, iv p2, iv 4, iv 3, rv aE, rv aR, rv o1, rv e3a, iv 3] [(.int 1), (.ref aE), (.int 1), (.ref aR)])
      refine own_st (fun _ k => own_ldR Y158 hx hZ e158 V158_aE rfl ⟨by decide, by decide⟩ (v := (.ref e1a)) rfl rfl rfl (hb hby at_190) k) ?_
      show own_Go p e below _ T158 (mkF m 191 #[iv p1, iv p2, iv 4, iv 3, rv aE, rv aR, rv o1, rv e3a, iv 3] [(.ref e1a), (.int 1), (.ref aR)])
      obtain ⟨T159, h159, X159, e159, W159, V159, st159⟩ := own_stR Y158 hx hZ e158 V158_aR Ov_aR (Ins.self E158_e1a) (j := (1 : Int32)) ⟨by decide, by decide⟩ 1 rfl (Nat.le_of_ble_eq_true rfl) (g := (mkF m 191 #[iv p1, iv p2, iv 4, iv 3, rv aE, rv aR, rv o1, rv e3a, iv 3] [(.ref e1a), (.int 1), (.ref aR)])) rfl rfl (hb hby at_191)
      have V159_aR : Arv Z h159 aR k_aR (.object "com/example/recency/recency/RecencyListRemovePinLaw") (3 : Int32) [(.ref e0a), (.ref e1a), .null] .null := V159
      have O159 := O158.wr W159 g_aR
      have V159_aE := V158_aE.other W159 ne_aE_aR
      have E159_e0a := E158_e0a.wr W159
      have E159_e1a := E158_e1a.wr W159
      have E159_e2a := E158_e2a.wr W159
      have E159_e3a := E158_e3a.wr W159
      have E159_o1 := E158_o1.wr W159
      have F159_previous_e0a := F158_previous_e0a.other W159 (Or.inl ne_e0a_aR)
      have F159_next_e0a := F158_next_e0a.other W159 (Or.inl ne_e0a_aR)
      have F159_previous_e1a := F158_previous_e1a.other W159 (Or.inl ne_e1a_aR)
      have F159_next_e1a := F158_next_e1a.other W159 (Or.inl ne_e1a_aR)
      have F159_previous_e2a := F158_previous_e2a.other W159 (Or.inl ne_e2a_aR)
      have F159_next_e2a := F158_next_e2a.other W159 (Or.inl ne_e2a_aR)
      have F159_previous_e3a := F158_previous_e3a.other W159 (Or.inl ne_e3a_aR)
      have F159_next_e3a := F158_next_e3a.other W159 (Or.inl ne_e3a_aR)
      have F159_first_o1 := F158_first_o1.other W159 (Or.inl ne_aR_o1.symm)
      have F159_last_o1 := F158_last_o1.other W159 (Or.inl ne_aR_o1.symm)
      have Z159 : n0 ≤ h159.size := by rw [W159.size]; exact Z158
      clear O158 Z158 V158_aE E158_e0a E158_e1a E158_e2a E158_e3a E158_o1 F158_previous_e0a F158_next_e0a F158_previous_e1a F158_next_e1a F158_previous_e2a F158_next_e2a F158_previous_e3a F158_next_e3a F158_first_o1 F158_last_o1 V158_aR W159
      have N159 := Fr.snoc X159 P158 g_aR
      obtain ⟨lc159, Y159, P159⟩ := own_hide X159 N159
      clear X159 N159
      clear Y158 e158
      refine own_st st159 ?_
      clear st159
      show own_Go p e below _ T159 (mkF m 192 #[iv p1, iv p2, iv 4, iv 3, rv aE, rv aR, rv o1, rv e3a, iv 3] [])
      refine own_st (fun _ k => XS.iload Y159.here hx rfl (hb hby at_192) rfl k) ?_
      show own_Go p e below _ T159 (mkF m 194 #[iv p1, iv p2, iv 4, iv 3, rv aE, rv aR, rv o1, rv e3a, iv 3] [(.int 3)])
      refine own_st (fun _ k => XT.iconstV Y159.here hx rfl (2 : Int32) (hb hby at_194) (by decide) k) ?_
      show own_Go p e below _ T159 (mkF m 195 #[iv p1, iv p2, iv 4, iv 3, rv aE, rv aR, rv o1, rv e3a, iv 3] [(.int 2), (.int 3)])
      refine own_st (fun _ k => XS.icmpNo Y159.here hx rfl (hb hby at_195) rfl (XT.ii_le_f (by decide)) k) ?_
      show own_Go p e below _ T159 (mkF m 198 #[iv p1, iv p2, iv 4, iv 3, rv aE, rv aR, rv o1, rv e3a, iv 3] [])
      refine own_st (fun _ k => XS.aload Y159.here hx rfl (hb hby at_198) rfl rfl k) ?_
      show own_Go p e below _ T159 (mkF m 200 #[iv p1, iv p2, iv 4, iv 3, rv aE, rv aR, rv o1, rv e3a, iv 3] [(.ref aR)])
      refine own_st (fun _ k => XT.iconstV Y159.here hx rfl (2 : Int32) (hb hby at_200) (by decide) k) ?_
      show own_Go p e below _ T159 (mkF m 201 #[iv p1, iv p2, iv 4, iv 3, rv aE, rv aR, rv o1, rv e3a, iv 3] [(.int 2), (.ref aR)])
      refine own_st (fun _ k => XS.aload Y159.here hx rfl (hb hby at_201) rfl rfl k) ?_
      show own_Go p e below _ T159 (mkF m 203 #[iv p1, iv p2, iv 4, iv 3, rv aE, rv aR, rv o1, rv e3a, iv 3] [(.ref aE), (.int 2), (.ref aR)])
      refine own_st (fun _ k => XT.iconstV Y159.here hx rfl (2 : Int32) (hb hby at_203) (by decide) k) ?_
      show own_Go p e below _ T159 (mkF m 204 #[iv p1, iv p2, iv 4, iv 3, rv aE, rv aR, rv o1, rv e3a, iv 3] [(.int 2), (.ref aE), (.int 2), (.ref aR)])
      refine own_st (fun _ k => XS.iloadN Y159.here hx rfl (hb hby at_204) rfl k) ?_
      show own_Go p e below _ T159 (mkF m 205 #[iv p1, iv p2, iv 4, iv 3, rv aE, rv aR, rv o1, rv e3a, iv 3] [(.int 3), (.int 2), (.ref aE), (.int 2), (.ref aR)])
      refine own_st (fun _ k => XS.icmpNo Y159.here hx rfl (hb hby at_205) rfl (XT.ii_ge_f (by decide)) k) ?_
      show own_Go p e below _ T159 (mkF m 208 #[iv p1, iv p2, iv 4, iv 3, rv aE, rv aR, rv o1, rv e3a, iv 3] [(.ref aE), (.int 2), (.ref aR)])
      refine own_st (fun _ k => XT.iconstV Y159.here hx rfl (2 : Int32) (hb hby at_208) (by decide) k) ?_
      show own_Go p e below _ T159 (mkF m 209 #[iv p1, iv p2, iv 4, iv 3, rv aE, rv aR, rv o1, rv e3a, iv 3] [(.int 2), (.ref aE), (.int 2), (.ref aR)])
      refine own_st (fun _ k => XS.goto Y159.here hx rfl (pc0 := 209) (pc' := 213) rfl (hb hby at_209) (by decide) (by decide) k) ?_
      show own_Go p e below _ T159 (mkF m 213 #[iv p1, iv p2, iv 4, iv 3, rv aE, rv aR, rv o1, rv e3a, iv 3] [(.int 2), (.ref aE), (.int 2), (.ref aR)])
      refine own_st (fun _ k => own_ldR Y159 hx hZ e159 V159_aE rfl ⟨by decide, by decide⟩ (v := (.ref e2a)) rfl rfl rfl (hb hby at_213) k) ?_
      show own_Go p e below _ T159 (mkF m 214 #[iv p1, iv p2, iv 4, iv 3, rv aE, rv aR, rv o1, rv e3a, iv 3] [(.ref e2a), (.int 2), (.ref aR)])
      obtain ⟨T160, h160, X160, e160, W160, V160, st160⟩ := own_stR Y159 hx hZ e159 V159_aR Ov_aR (Ins.self E159_e2a) (j := (2 : Int32)) ⟨by decide, by decide⟩ 2 rfl (Nat.le_of_ble_eq_true rfl) (g := (mkF m 214 #[iv p1, iv p2, iv 4, iv 3, rv aE, rv aR, rv o1, rv e3a, iv 3] [(.ref e2a), (.int 2), (.ref aR)])) rfl rfl (hb hby at_214)
      have V160_aR : Arv Z h160 aR k_aR (.object "com/example/recency/recency/RecencyListRemovePinLaw") (3 : Int32) [(.ref e0a), (.ref e1a), (.ref e2a)] .null := V160
      have O160 := O159.wr W160 g_aR
      have V160_aE := V159_aE.other W160 ne_aE_aR
      have E160_e0a := E159_e0a.wr W160
      have E160_e1a := E159_e1a.wr W160
      have E160_e2a := E159_e2a.wr W160
      have E160_e3a := E159_e3a.wr W160
      have E160_o1 := E159_o1.wr W160
      have F160_previous_e0a := F159_previous_e0a.other W160 (Or.inl ne_e0a_aR)
      have F160_next_e0a := F159_next_e0a.other W160 (Or.inl ne_e0a_aR)
      have F160_previous_e1a := F159_previous_e1a.other W160 (Or.inl ne_e1a_aR)
      have F160_next_e1a := F159_next_e1a.other W160 (Or.inl ne_e1a_aR)
      have F160_previous_e2a := F159_previous_e2a.other W160 (Or.inl ne_e2a_aR)
      have F160_next_e2a := F159_next_e2a.other W160 (Or.inl ne_e2a_aR)
      have F160_previous_e3a := F159_previous_e3a.other W160 (Or.inl ne_e3a_aR)
      have F160_next_e3a := F159_next_e3a.other W160 (Or.inl ne_e3a_aR)
      have F160_first_o1 := F159_first_o1.other W160 (Or.inl ne_aR_o1.symm)
      have F160_last_o1 := F159_last_o1.other W160 (Or.inl ne_aR_o1.symm)
      have Z160 : n0 ≤ h160.size := by rw [W160.size]; exact Z159
      clear O159 Z159 V159_aE E159_e0a E159_e1a E159_e2a E159_e3a E159_o1 F159_previous_e0a F159_next_e0a F159_previous_e1a F159_next_e1a F159_previous_e2a F159_next_e2a F159_previous_e3a F159_next_e3a F159_first_o1 F159_last_o1 V159_aR W160
      have N160 := Fr.snoc X160 P159 g_aR
      obtain ⟨lc160, Y160, P160⟩ := own_hide X160 N160
      clear X160 N160
      clear Y159 e159
      refine own_st st160 ?_
      clear st160
      show own_Go p e below _ T160 (mkF m 215 #[iv p1, iv p2, iv 4, iv 3, rv aE, rv aR, rv o1, rv e3a, iv 3] [])
      refine own_st (fun _ k => XS.aload Y160.here hx rfl (hb hby at_215) rfl rfl k) ?_
      show own_Go p e below _ T160 (mkF m 217 #[iv p1, iv p2, iv 4, iv 3, rv aE, rv aR, rv o1, rv e3a, iv 3] [(.ref e3a)])
      obtain ⟨T161, X161, e161, st161⟩ := getF Y160 hx hZ hown (host := "") (Or.inl (hw _ (List.mem_of_getElem? (i := 44) rfl))) (Via.of (hw _ (List.mem_of_getElem? (i := 45) rfl))) e160 F160_previous_e3a (g := (mkF m 217 #[iv p1, iv p2, iv 4, iv 3, rv aE, rv aR, rv o1, rv e3a, iv 3] [(.ref e3a)])) rfl rfl (hb hby at_217)
      clear Y160 e160
      refine own_st st161 ?_
      clear st161
      show own_Go p e below _ T161 (mkF m 220 #[iv p1, iv p2, iv 4, iv 3, rv aE, rv aR, rv o1, rv e3a, iv 3] [.null])
      refine own_st (fun _ k => XT.ifnonnullNo X161.here hx rfl (hb hby at_220) rfl k) ?_
      show own_Go p e below _ T161 (mkF m 223 #[iv p1, iv p2, iv 4, iv 3, rv aE, rv aR, rv o1, rv e3a, iv 3] [])
      refine own_st (fun _ k => XS.aload X161.here hx rfl (hb hby at_223) rfl rfl k) ?_
      show own_Go p e below _ T161 (mkF m 225 #[iv p1, iv p2, iv 4, iv 3, rv aE, rv aR, rv o1, rv e3a, iv 3] [(.ref e3a)])
      obtain ⟨T162, X162, e162, st162⟩ := getF X161 hx hZ hown (host := "") (Or.inl (hw _ (List.mem_of_getElem? (i := 46) rfl))) (Via.of (hw _ (List.mem_of_getElem? (i := 47) rfl))) e161 F160_next_e3a (g := (mkF m 225 #[iv p1, iv p2, iv 4, iv 3, rv aE, rv aR, rv o1, rv e3a, iv 3] [(.ref e3a)])) rfl rfl (hb hby at_225)
      clear X161 e161
      refine own_st st162 ?_
      clear st162
      show own_Go p e below _ T162 (mkF m 228 #[iv p1, iv p2, iv 4, iv 3, rv aE, rv aR, rv o1, rv e3a, iv 3] [.null])
      refine own_st (fun _ k => XS.ifnullYes X162.here hx rfl (pc0 := 228) (pc' := 233) rfl (hb hby at_228) rfl (by decide) (by decide) k) ?_
      show own_Go p e below _ T162 (mkF m 233 #[iv p1, iv p2, iv 4, iv 3, rv aE, rv aR, rv o1, rv e3a, iv 3] [])
      refine own_st (fun _ k => XS.aload X162.here hx rfl (hb hby at_233) rfl rfl k) ?_
      show own_Go p e below _ T162 (mkF m 235 #[iv p1, iv p2, iv 4, iv 3, rv aE, rv aR, rv o1, rv e3a, iv 3] [(.ref o1)])
      obtain ⟨cq163, kq163, q163a, q163b, q163c⟩ := isOf hZ e162 E160_o1
      obtain ⟨_, T163, L163, X163, hQ163, st163⟩ := own_gotT (X162.virtualBack hx (y := (⟨"com/example/recency/recency/RecencyList", "first", "()Lcom/example/recency/recency/RecencyList$Link;"⟩ : MethodName)) (z := (⟨"com/example/recency/recency/RecencyList", "first", "()Lcom/example/recency/recency/RecencyList$Link;"⟩ : MethodName)) hown (mvT hZ (hw _ (List.mem_of_getElem? (i := 48) rfl))) (mvT hZ (hw _ (List.mem_of_getElem? (i := 49) rfl))) (notFace_of_selects (args := #[]) (mvT hZ (hw _ (List.mem_of_getElem? (i := 51) rfl)))) (mvT hZ (hw _ (List.mem_of_getElem? (i := 51) rfl))) (mvT hZ (hw _ (List.mem_of_getElem? (i := 50) rfl))) (by decide) (backOf (W := 0) (own_rm_fst l Z a0 hw [] o1 (.ref e0a) h160 n0 Z160 rfl F160_first_o1) hZ (hw _ (List.mem_of_getElem? (i := 52) rfl)) (hw _ (List.mem_of_getElem? (i := 19) rfl)) (by decide) (by decide)) q163a q163c (g := (mkF m 235 #[iv p1, iv p2, iv 4, iv 3, rv aE, rv aR, rv o1, rv e3a, iv 3] [(.ref o1)])) rfl (by rw [hml]; rfl) (Steps.refl _) (argsL := []) (rest := []) (lenOf own_pd2 rfl) rfl (by show 2 * 0 + _ ≤ _; exact Nat.le_of_eq rfl) (hb hby at_235) (fun _ _ => ⟨rfl, e162, (by decide : 7 + 0 ≤ _), (by decide : 17 + 0 ≤ _)⟩))
      replace X163 := own_num X163 (k' := 7) (n' := 17) rfl rfl
      obtain ⟨rfl, N163, eh163⟩ := hQ163
      have M163 := Fr.app P160 N163
      obtain ⟨lc163, Y163, P163⟩ := own_hide X163 M163
      refine own_tr st163 ?_
      clear P160 X162 N163 e162 X163 M163 st163
      show own_Go p e below _ T163 (mkF m 238 #[iv p1, iv p2, iv 4, iv 3, rv aE, rv aR, rv o1, rv e3a, iv 3] [(.ref e0a)])
      refine own_st (fun _ k => XS.iload Y163.here hx rfl (hb hby at_238) rfl k) ?_
      show own_Go p e below _ T163 (mkF m 240 #[iv p1, iv p2, iv 4, iv 3, rv aE, rv aR, rv o1, rv e3a, iv 3] [(.int 3), (.ref e0a)])
      refine own_st (fun _ k => XS.ifNo Y163.here hx rfl (hb hby at_240) rfl (XT.i0_le_f (by decide)) k) ?_
      show own_Go p e below _ T163 (mkF m 243 #[iv p1, iv p2, iv 4, iv 3, rv aE, rv aR, rv o1, rv e3a, iv 3] [(.ref e0a)])
      refine own_st (fun _ k => XS.aload Y163.here hx rfl (hb hby at_243) rfl rfl k) ?_
      show own_Go p e below _ T163 (mkF m 245 #[iv p1, iv p2, iv 4, iv 3, rv aE, rv aR, rv o1, rv e3a, iv 3] [(.ref aR), (.ref e0a)])
      refine own_st (fun _ k => XT.iconstV Y163.here hx rfl (0 : Int32) (hb hby at_245) (by decide) k) ?_
      show own_Go p e below _ T163 (mkF m 246 #[iv p1, iv p2, iv 4, iv 3, rv aE, rv aR, rv o1, rv e3a, iv 3] [(.int 0), (.ref aR), (.ref e0a)])
      refine own_st (fun _ k => own_ldR Y163 hx hZ eh163 V160_aR rfl ⟨by decide, by decide⟩ (v := (.ref e0a)) rfl rfl rfl (hb hby at_246) k) ?_
      show own_Go p e below _ T163 (mkF m 247 #[iv p1, iv p2, iv 4, iv 3, rv aE, rv aR, rv o1, rv e3a, iv 3] [(.ref e0a), (.ref e0a)])
      refine own_st (fun _ k => XS.goto Y163.here hx rfl (pc0 := 247) (pc' := 251) rfl (hb hby at_247) (by decide) (by decide) k) ?_
      show own_Go p e below _ T163 (mkF m 251 #[iv p1, iv p2, iv 4, iv 3, rv aE, rv aR, rv o1, rv e3a, iv 3] [(.ref e0a), (.ref e0a)])
      refine own_st (fun _ k => XT.acmpYes Y163.here hx rfl (pc0 := 251) (pc' := 256) rfl (hb hby at_251) rfl rfl rfl (XT.aa_eq_t rfl) (by decide) (by decide) k) ?_
      show own_Go p e below _ T163 (mkF m 256 #[iv p1, iv p2, iv 4, iv 3, rv aE, rv aR, rv o1, rv e3a, iv 3] [])
      refine own_st (fun _ k => XS.aload Y163.here hx rfl (hb hby at_256) rfl rfl k) ?_
      show own_Go p e below _ T163 (mkF m 258 #[iv p1, iv p2, iv 4, iv 3, rv aE, rv aR, rv o1, rv e3a, iv 3] [(.ref aR)])
      refine own_st (fun _ k => XT.iconstV Y163.here hx rfl (0 : Int32) (hb hby at_258) (by decide) k) ?_
      show own_Go p e below _ T163 (mkF m 259 #[iv p1, iv p2, iv 4, iv 3, rv aE, rv aR, rv o1, rv e3a, iv 3] [(.int 0), (.ref aR)])
      refine own_st (fun _ k => XS.iload Y163.here hx rfl (hb hby at_259) rfl k) ?_
      show own_Go p e below _ T163 (mkF m 261 #[iv p1, iv p2, iv 4, iv 3, rv aE, rv aR, rv o1, rv e3a, iv 3] [(.int 3), (.int 0), (.ref aR)])
      obtain ⟨_, T164, L164, X164, hQ164, st164⟩ := own_gotS (Jvm.LawKit.callS Y163 hx (y := (⟨"com/example/recency/recency/RecencyListRemovePinLaw", "linked", "([Lcom/example/recency/recency/RecencyListRemovePinLaw;II)Z"⟩ : MethodName)) hown (mvT hZ (hw _ (List.mem_of_getElem? (i := 53) rfl))) (mvT hZ (hw _ (List.mem_of_getElem? (i := 54) rfl))) (mvT hZ (hw _ (List.mem_of_getElem? (i := 4) rfl))) (mvT hZ (hw _ (List.mem_of_getElem? (i := 55) rfl))) (by decide) (backOf (W := 0) (own_rm_lk03 l Z a0 hw [] aR k_aR e0a e1a (.ref e2a) h160 n0 Z160 V160_aR F160_previous_e0a F160_next_e0a) hZ (hw _ (List.mem_of_getElem? (i := 55) rfl)) (hw _ (List.mem_of_getElem? (i := 4) rfl)) (by decide) (by decide)) (g := (mkF m 261 #[iv p1, iv p2, iv 4, iv 3, rv aE, rv aR, rv o1, rv e3a, iv 3] [(.int 3), (.int 0), (.ref aR)])) rfl (by rw [hml]; rfl) (argsL := [(.ref aR), (.int (0 : Int32)), (.int (3 : Int32))]) (rest := []) (lenOf own_pd3 rfl) rfl (by show 2 * 0 + _ ≤ _; exact Nat.le_of_eq rfl) (hb hby at_261) (fun _ _ => ⟨rfl, eh163, (by decide : 7 + 0 ≤ _), (by decide : 17 + 0 ≤ _)⟩))
      replace X164 := own_num X164 (k' := 7) (n' := 17) rfl rfl
      obtain ⟨rfl, N164, eh164⟩ := hQ164
      have M164 := Fr.app P163 N164
      obtain ⟨lc164, Y164, P164⟩ := own_hide X164 M164
      refine own_st st164 ?_
      clear P163 Y163 N164 eh163 X164 M164 st164
      show own_Go p e below _ T164 (mkF m 264 #[iv p1, iv p2, iv 4, iv 3, rv aE, rv aR, rv o1, rv e3a, iv 3] [(.int 1)])
      refine own_st (fun _ k => XS.ifNo Y164.here hx rfl (hb hby at_264) rfl (XT.i0_eq_f (by decide)) k) ?_
      show own_Go p e below _ T164 (mkF m 267 #[iv p1, iv p2, iv 4, iv 3, rv aE, rv aR, rv o1, rv e3a, iv 3] [])
      refine own_st (fun _ k => XS.aload Y164.here hx rfl (hb hby at_267) rfl rfl k) ?_
      show own_Go p e below _ T164 (mkF m 269 #[iv p1, iv p2, iv 4, iv 3, rv aE, rv aR, rv o1, rv e3a, iv 3] [(.ref aR)])
      refine own_st (fun _ k => XT.iconstV Y164.here hx rfl (1 : Int32) (hb hby at_269) (by decide) k) ?_
      show own_Go p e below _ T164 (mkF m 270 #[iv p1, iv p2, iv 4, iv 3, rv aE, rv aR, rv o1, rv e3a, iv 3] [(.int 1), (.ref aR)])
      refine own_st (fun _ k => XS.iload Y164.here hx rfl (hb hby at_270) rfl k) ?_
      show own_Go p e below _ T164 (mkF m 272 #[iv p1, iv p2, iv 4, iv 3, rv aE, rv aR, rv o1, rv e3a, iv 3] [(.int 3), (.int 1), (.ref aR)])
      obtain ⟨_, T165, L165, X165, hQ165, st165⟩ := own_gotS (Jvm.LawKit.callS Y164 hx (y := (⟨"com/example/recency/recency/RecencyListRemovePinLaw", "linked", "([Lcom/example/recency/recency/RecencyListRemovePinLaw;II)Z"⟩ : MethodName)) hown (mvT hZ (hw _ (List.mem_of_getElem? (i := 53) rfl))) (mvT hZ (hw _ (List.mem_of_getElem? (i := 54) rfl))) (mvT hZ (hw _ (List.mem_of_getElem? (i := 4) rfl))) (mvT hZ (hw _ (List.mem_of_getElem? (i := 55) rfl))) (by decide) (backOf (W := 0) (own_rm_lk13 l Z a0 hw [] aR k_aR e1a e0a e2a h160 n0 Z160 V160_aR F160_previous_e1a F160_next_e1a) hZ (hw _ (List.mem_of_getElem? (i := 55) rfl)) (hw _ (List.mem_of_getElem? (i := 4) rfl)) (by decide) (by decide)) (g := (mkF m 272 #[iv p1, iv p2, iv 4, iv 3, rv aE, rv aR, rv o1, rv e3a, iv 3] [(.int 3), (.int 1), (.ref aR)])) rfl (by rw [hml]; rfl) (argsL := [(.ref aR), (.int (1 : Int32)), (.int (3 : Int32))]) (rest := []) (lenOf own_pd3 rfl) rfl (by show 2 * 0 + _ ≤ _; exact Nat.le_of_eq rfl) (hb hby at_272) (fun _ _ => ⟨rfl, eh164, (by decide : 7 + 0 ≤ _), (by decide : 17 + 0 ≤ _)⟩))
      replace X165 := own_num X165 (k' := 7) (n' := 17) rfl rfl
      obtain ⟨rfl, N165, eh165⟩ := hQ165
      have M165 := Fr.app P164 N165
      obtain ⟨lc165, Y165, P165⟩ := own_hide X165 M165
      refine own_st st165 ?_
      clear P164 Y164 N165 eh164 X165 M165 st165
      show own_Go p e below _ T165 (mkF m 275 #[iv p1, iv p2, iv 4, iv 3, rv aE, rv aR, rv o1, rv e3a, iv 3] [(.int 1)])
      refine own_st (fun _ k => XS.ifNo Y165.here hx rfl (hb hby at_275) rfl (XT.i0_eq_f (by decide)) k) ?_
      show own_Go p e below _ T165 (mkF m 278 #[iv p1, iv p2, iv 4, iv 3, rv aE, rv aR, rv o1, rv e3a, iv 3] [])
      refine own_st (fun _ k => XS.aload Y165.here hx rfl (hb hby at_278) rfl rfl k) ?_
      show own_Go p e below _ T165 (mkF m 280 #[iv p1, iv p2, iv 4, iv 3, rv aE, rv aR, rv o1, rv e3a, iv 3] [(.ref aR)])
      refine own_st (fun _ k => XT.iconstV Y165.here hx rfl (2 : Int32) (hb hby at_280) (by decide) k) ?_
      show own_Go p e below _ T165 (mkF m 281 #[iv p1, iv p2, iv 4, iv 3, rv aE, rv aR, rv o1, rv e3a, iv 3] [(.int 2), (.ref aR)])
      refine own_st (fun _ k => XS.iload Y165.here hx rfl (hb hby at_281) rfl k) ?_
      show own_Go p e below _ T165 (mkF m 283 #[iv p1, iv p2, iv 4, iv 3, rv aE, rv aR, rv o1, rv e3a, iv 3] [(.int 3), (.int 2), (.ref aR)])
      obtain ⟨_, T166, L166, X166, hQ166, st166⟩ := own_gotS (Jvm.LawKit.callS Y165 hx (y := (⟨"com/example/recency/recency/RecencyListRemovePinLaw", "linked", "([Lcom/example/recency/recency/RecencyListRemovePinLaw;II)Z"⟩ : MethodName)) hown (mvT hZ (hw _ (List.mem_of_getElem? (i := 53) rfl))) (mvT hZ (hw _ (List.mem_of_getElem? (i := 54) rfl))) (mvT hZ (hw _ (List.mem_of_getElem? (i := 4) rfl))) (mvT hZ (hw _ (List.mem_of_getElem? (i := 55) rfl))) (by decide) (backOf (W := 0) (own_rm_lk23 l Z a0 hw [] aR k_aR e2a e1a (.ref e0a) h160 n0 Z160 V160_aR F160_previous_e2a F160_next_e2a) hZ (hw _ (List.mem_of_getElem? (i := 55) rfl)) (hw _ (List.mem_of_getElem? (i := 4) rfl)) (by decide) (by decide)) (g := (mkF m 283 #[iv p1, iv p2, iv 4, iv 3, rv aE, rv aR, rv o1, rv e3a, iv 3] [(.int 3), (.int 2), (.ref aR)])) rfl (by rw [hml]; rfl) (argsL := [(.ref aR), (.int (2 : Int32)), (.int (3 : Int32))]) (rest := []) (lenOf own_pd3 rfl) rfl (by show 2 * 0 + _ ≤ _; exact Nat.le_of_eq rfl) (hb hby at_283) (fun _ _ => ⟨rfl, eh165, (by decide : 7 + 0 ≤ _), (by decide : 17 + 0 ≤ _)⟩))
      replace X166 := own_num X166 (k' := 7) (n' := 17) rfl rfl
      obtain ⟨rfl, N166, eh166⟩ := hQ166
      have M166 := Fr.app P165 N166
      obtain ⟨lc166, Y166, P166⟩ := own_hide X166 M166
      refine own_st st166 ?_
      clear P165 Y165 N166 eh165 X166 M166 st166
      show own_Go p e below _ T166 (mkF m 286 #[iv p1, iv p2, iv 4, iv 3, rv aE, rv aR, rv o1, rv e3a, iv 3] [(.int 1)])
      refine own_st (fun _ k => XS.ifYes Y166.here hx rfl (pc0 := 286) (pc' := 291) rfl (hb hby at_286) rfl (XT.i0_ne_t (by decide)) (by decide) (by decide) k) ?_
      show own_Go p e below _ T166 (mkF m 291 #[iv p1, iv p2, iv 4, iv 3, rv aE, rv aR, rv o1, rv e3a, iv 3] [])
      refine own_st (fun _ k => XS.aload Y166.here hx rfl (hb hby at_291) rfl rfl k) ?_
      show own_Go p e below _ T166 (mkF m 293 #[iv p1, iv p2, iv 4, iv 3, rv aE, rv aR, rv o1, rv e3a, iv 3] [(.ref o1)])
      refine own_st (fun _ k => XS.aload Y166.here hx rfl (hb hby at_293) rfl rfl k) ?_
      show own_Go p e below _ T166 (mkF m 295 #[iv p1, iv p2, iv 4, iv 3, rv aE, rv aR, rv o1, rv e3a, iv 3] [(.ref e3a), (.ref o1)])
      obtain ⟨cq167, kq167, q167a, q167b, q167c⟩ := isOf hZ eh166 E160_o1
      obtain ⟨_, T167, L167, X167, hQ167, st167⟩ := own_gotT (Y166.virtualBack hx (y := (⟨"com/example/recency/recency/RecencyList", "addLast", "(Lcom/example/recency/recency/RecencyList$Link;)V"⟩ : MethodName)) (z := (⟨"com/example/recency/recency/RecencyList", "addLast", "(Lcom/example/recency/recency/RecencyList$Link;)V"⟩ : MethodName)) hown (mvT hZ (hw _ (List.mem_of_getElem? (i := 24) rfl))) (mvT hZ (hw _ (List.mem_of_getElem? (i := 25) rfl))) (notFace_of_selects (args := #[]) (mvT hZ (hw _ (List.mem_of_getElem? (i := 27) rfl)))) (mvT hZ (hw _ (List.mem_of_getElem? (i := 27) rfl))) (mvT hZ (hw _ (List.mem_of_getElem? (i := 26) rfl))) (by decide) (backOf (W := 0) (own_rm_addP l Z a0 hw [] o1 e3a e2a e0a e1a h160 n0 Z160 (S_A.ext O160.2) E160_o1 E160_e2a E160_e3a F160_first_o1 F160_last_o1 F160_previous_e2a F160_next_e2a F160_previous_e3a F160_next_e3a g_o1 g_e2a g_e3a ne_e2a_o1.symm ne_e3a_o1.symm ne_e2a_e3a) hZ (hw _ (List.mem_of_getElem? (i := 28) rfl)) (hw _ (List.mem_of_getElem? (i := 19) rfl)) (by decide) (by decide)) q167a q167c (g := (mkF m 295 #[iv p1, iv p2, iv 4, iv 3, rv aE, rv aR, rv o1, rv e3a, iv 3] [(.ref e3a), (.ref o1)])) rfl (by rw [hml]; rfl) (Steps.refl _) (argsL := [(.ref e3a)]) (rest := []) (lenOf own_pd1 rfl) rfl (by show 2 * 0 + _ ≤ _; exact Nat.le_of_eq rfl) (hb hby at_295) (fun _ _ => ⟨rfl, eh166, (by decide : 7 + 0 ≤ _), (by decide : 17 + 0 ≤ _)⟩))
      replace X167 := own_num X167 (k' := 7) (n' := 17) rfl rfl
      obtain ⟨rfl, N167, KC167, FC167_first_o1, FC167_last_o1, FC167_previous_e2a, FC167_next_e2a, FC167_previous_e3a, FC167_next_e3a⟩ := hQ167
      have M167 := Fr.app P166 N167
      obtain ⟨lc167, Y167, P167⟩ := own_hide X167 M167
      refine own_tr st167 ?_
      clear P166 Y166 N167 eh166 X167 M167 st167
      show own_Go p e below _ T167 (mkF m 298 #[iv p1, iv p2, iv 4, iv 3, rv aE, rv aR, rv o1, rv e3a, iv 3] [])
      have O167 := O160.keep KC167 (allS g_o1 (allS g_e2a (allS g_e3a all0)))
      have V167_aE := V160_aE.keep KC167 (ninS ne_aE_o1 (ninS ne_aE_e2a (ninS ne_aE_e3a nin0)))
      have V167_aR := V160_aR.keep KC167 (ninS ne_aR_o1 (ninS ne_e2a_aR.symm (ninS ne_e3a_aR.symm nin0)))
      have E167_e0a := E160_e0a.keep KC167
      have E167_e1a := E160_e1a.keep KC167
      have E167_e2a := E160_e2a.keep KC167
      have E167_e3a := E160_e3a.keep KC167
      have E167_o1 := E160_o1.keep KC167
      have F167_previous_e0a := F160_previous_e0a.keep KC167 (ninS ne_e0a_o1 (ninS ne_e0a_e2a (ninS ne_e0a_e3a nin0)))
      have F167_next_e0a := F160_next_e0a.keep KC167 (ninS ne_e0a_o1 (ninS ne_e0a_e2a (ninS ne_e0a_e3a nin0)))
      have F167_previous_e1a := F160_previous_e1a.keep KC167 (ninS ne_e1a_o1 (ninS ne_e1a_e2a (ninS ne_e1a_e3a nin0)))
      have F167_next_e1a := F160_next_e1a.keep KC167 (ninS ne_e1a_o1 (ninS ne_e1a_e2a (ninS ne_e1a_e3a nin0)))
      have Z167 : n0 ≤ T167.heap.size := Nat.le_trans Z160 KC167.1
      clear O160 Z160 V160_aE V160_aR E160_e0a E160_e1a E160_e2a E160_e3a E160_o1 F160_previous_e0a F160_next_e0a F160_previous_e1a F160_next_e1a F160_previous_e2a F160_next_e2a F160_previous_e3a F160_next_e3a F160_first_o1 F160_last_o1 KC167
      refine own_st (fun _ k => XS.iload Y167.here hx rfl (hb hby at_298) rfl k) ?_
      show own_Go p e below _ T167 (mkF m 300 #[iv p1, iv p2, iv 4, iv 3, rv aE, rv aR, rv o1, rv e3a, iv 3] [(.int 3)])
      refine own_st (fun _ k => XS.ifYes Y167.here hx rfl (pc0 := 300) (pc' := 335) rfl (hb hby at_300) rfl (XT.i0_ne_t (by decide)) (by decide) (by decide) k) ?_
      show own_Go p e below _ T167 (mkF m 335 #[iv p1, iv p2, iv 4, iv 3, rv aE, rv aR, rv o1, rv e3a, iv 3] [])
      refine own_st (fun _ k => XS.aload Y167.here hx rfl (hb hby at_335) rfl rfl k) ?_
      show own_Go p e below _ T167 (mkF m 337 #[iv p1, iv p2, iv 4, iv 3, rv aE, rv aR, rv o1, rv e3a, iv 3] [(.ref o1)])
      obtain ⟨cq168, kq168, q168a, q168b, q168c⟩ := isOf hZ rfl E167_o1
      obtain ⟨_, T168, L168, X168, hQ168, st168⟩ := own_gotT (Y167.virtualBack hx (y := (⟨"com/example/recency/recency/RecencyList", "first", "()Lcom/example/recency/recency/RecencyList$Link;"⟩ : MethodName)) (z := (⟨"com/example/recency/recency/RecencyList", "first", "()Lcom/example/recency/recency/RecencyList$Link;"⟩ : MethodName)) hown (mvT hZ (hw _ (List.mem_of_getElem? (i := 48) rfl))) (mvT hZ (hw _ (List.mem_of_getElem? (i := 49) rfl))) (notFace_of_selects (args := #[]) (mvT hZ (hw _ (List.mem_of_getElem? (i := 51) rfl)))) (mvT hZ (hw _ (List.mem_of_getElem? (i := 51) rfl))) (mvT hZ (hw _ (List.mem_of_getElem? (i := 50) rfl))) (by decide) (backOf (W := 0) (own_rm_fst l Z a0 hw [] o1 (.ref e0a) T167.heap n0 Z167 rfl FC167_first_o1) hZ (hw _ (List.mem_of_getElem? (i := 52) rfl)) (hw _ (List.mem_of_getElem? (i := 19) rfl)) (by decide) (by decide)) q168a q168c (g := (mkF m 337 #[iv p1, iv p2, iv 4, iv 3, rv aE, rv aR, rv o1, rv e3a, iv 3] [(.ref o1)])) rfl (by rw [hml]; rfl) (Steps.refl _) (argsL := []) (rest := []) (lenOf own_pd2 rfl) rfl (by show 2 * 0 + _ ≤ _; exact Nat.le_of_eq rfl) (hb hby at_337) (fun _ _ => ⟨rfl, rfl, (by decide : 7 + 0 ≤ _), (by decide : 17 + 0 ≤ _)⟩))
      replace X168 := own_num X168 (k' := 7) (n' := 17) rfl rfl
      obtain ⟨rfl, N168, eh168⟩ := hQ168
      have M168 := Fr.app P167 N168
      obtain ⟨lc168, Y168, P168⟩ := own_hide X168 M168
      refine own_tr st168 ?_
      clear P167 Y167 N168 X168 M168 st168
      show own_Go p e below _ T168 (mkF m 340 #[iv p1, iv p2, iv 4, iv 3, rv aE, rv aR, rv o1, rv e3a, iv 3] [(.ref e0a)])
      refine own_st (fun _ k => XS.aload Y168.here hx rfl (hb hby at_340) rfl rfl k) ?_
      show own_Go p e below _ T168 (mkF m 342 #[iv p1, iv p2, iv 4, iv 3, rv aE, rv aR, rv o1, rv e3a, iv 3] [(.ref aR), (.ref e0a)])
      refine own_st (fun _ k => XT.iconstV Y168.here hx rfl (0 : Int32) (hb hby at_342) (by decide) k) ?_
      show own_Go p e below _ T168 (mkF m 343 #[iv p1, iv p2, iv 4, iv 3, rv aE, rv aR, rv o1, rv e3a, iv 3] [(.int 0), (.ref aR), (.ref e0a)])
      refine own_st (fun _ k => own_ldR Y168 hx hZ eh168 V167_aR rfl ⟨by decide, by decide⟩ (v := (.ref e0a)) rfl rfl rfl (hb hby at_343) k) ?_
      show own_Go p e below _ T168 (mkF m 344 #[iv p1, iv p2, iv 4, iv 3, rv aE, rv aR, rv o1, rv e3a, iv 3] [(.ref e0a), (.ref e0a)])
      refine own_st (fun _ k => XT.acmpNo Y168.here hx rfl (hb hby at_344) rfl rfl rfl (XT.aa_ne_f rfl) k) ?_
      show own_Go p e below _ T168 (mkF m 347 #[iv p1, iv p2, iv 4, iv 3, rv aE, rv aR, rv o1, rv e3a, iv 3] [])
      refine own_st (fun _ k => XS.aload Y168.here hx rfl (hb hby at_347) rfl rfl k) ?_
      show own_Go p e below _ T168 (mkF m 349 #[iv p1, iv p2, iv 4, iv 3, rv aE, rv aR, rv o1, rv e3a, iv 3] [(.ref e3a)])
      obtain ⟨T169, X169, e169, st169⟩ := getF Y168 hx hZ hown (host := "") (Or.inl (hw _ (List.mem_of_getElem? (i := 44) rfl))) (Via.of (hw _ (List.mem_of_getElem? (i := 45) rfl))) eh168 FC167_previous_e3a (g := (mkF m 349 #[iv p1, iv p2, iv 4, iv 3, rv aE, rv aR, rv o1, rv e3a, iv 3] [(.ref e3a)])) rfl rfl (hb hby at_349)
      clear Y168 eh168
      refine own_st st169 ?_
      clear st169
      show own_Go p e below _ T169 (mkF m 352 #[iv p1, iv p2, iv 4, iv 3, rv aE, rv aR, rv o1, rv e3a, iv 3] [(.ref e2a)])
      refine own_st (fun _ k => XS.aload X169.here hx rfl (hb hby at_352) rfl rfl k) ?_
      show own_Go p e below _ T169 (mkF m 354 #[iv p1, iv p2, iv 4, iv 3, rv aE, rv aR, rv o1, rv e3a, iv 3] [(.ref aR), (.ref e2a)])
      refine own_st (fun _ k => XS.iload X169.here hx rfl (hb hby at_354) rfl k) ?_
      show own_Go p e below _ T169 (mkF m 356 #[iv p1, iv p2, iv 4, iv 3, rv aE, rv aR, rv o1, rv e3a, iv 3] [(.int 3), (.ref aR), (.ref e2a)])
      refine own_st (fun _ k => XT.iconstV X169.here hx rfl (1 : Int32) (hb hby at_356) (by decide) k) ?_
      show own_Go p e below _ T169 (mkF m 357 #[iv p1, iv p2, iv 4, iv 3, rv aE, rv aR, rv o1, rv e3a, iv 3] [(.int 1), (.int 3), (.ref aR), (.ref e2a)])
      refine own_st (fun _ k => XS.isub X169.here hx rfl (hb hby at_357) rfl k) ?_
      show own_Go p e below _ T169 (mkF m 358 #[iv p1, iv p2, iv 4, iv 3, rv aE, rv aR, rv o1, rv e3a, iv 3] [(.int (3 - 1)), (.ref aR), (.ref e2a)])
      rw [show ((3 : Int32) - (1 : Int32)) = (2 : Int32) from by decide]
      show own_Go p e below _ T169 (mkF m 358 #[iv p1, iv p2, iv 4, iv 3, rv aE, rv aR, rv o1, rv e3a, iv 3] [(.int 2), (.ref aR), (.ref e2a)])
      refine own_st (fun _ k => own_ldR X169 hx hZ e169 V167_aR rfl ⟨by decide, by decide⟩ (v := (.ref e2a)) rfl rfl rfl (hb hby at_358) k) ?_
      show own_Go p e below _ T169 (mkF m 359 #[iv p1, iv p2, iv 4, iv 3, rv aE, rv aR, rv o1, rv e3a, iv 3] [(.ref e2a), (.ref e2a)])
      refine own_st (fun _ k => XT.acmpNo X169.here hx rfl (hb hby at_359) rfl rfl rfl (XT.aa_ne_f rfl) k) ?_
      show own_Go p e below _ T169 (mkF m 362 #[iv p1, iv p2, iv 4, iv 3, rv aE, rv aR, rv o1, rv e3a, iv 3] [])
      refine own_st (fun _ k => XS.aload X169.here hx rfl (hb hby at_362) rfl rfl k) ?_
      show own_Go p e below _ T169 (mkF m 364 #[iv p1, iv p2, iv 4, iv 3, rv aE, rv aR, rv o1, rv e3a, iv 3] [(.ref aR)])
      refine own_st (fun _ k => XS.iload X169.here hx rfl (hb hby at_364) rfl k) ?_
      show own_Go p e below _ T169 (mkF m 366 #[iv p1, iv p2, iv 4, iv 3, rv aE, rv aR, rv o1, rv e3a, iv 3] [(.int 3), (.ref aR)])
      refine own_st (fun _ k => XT.iconstV X169.here hx rfl (1 : Int32) (hb hby at_366) (by decide) k) ?_
      show own_Go p e below _ T169 (mkF m 367 #[iv p1, iv p2, iv 4, iv 3, rv aE, rv aR, rv o1, rv e3a, iv 3] [(.int 1), (.int 3), (.ref aR)])
      refine own_st (fun _ k => XS.isub X169.here hx rfl (hb hby at_367) rfl k) ?_
      show own_Go p e below _ T169 (mkF m 368 #[iv p1, iv p2, iv 4, iv 3, rv aE, rv aR, rv o1, rv e3a, iv 3] [(.int (3 - 1)), (.ref aR)])
      rw [show ((3 : Int32) - (1 : Int32)) = (2 : Int32) from by decide]
      show own_Go p e below _ T169 (mkF m 368 #[iv p1, iv p2, iv 4, iv 3, rv aE, rv aR, rv o1, rv e3a, iv 3] [(.int 2), (.ref aR)])
      refine own_st (fun _ k => own_ldR X169 hx hZ e169 V167_aR rfl ⟨by decide, by decide⟩ (v := (.ref e2a)) rfl rfl rfl (hb hby at_368) k) ?_
      show own_Go p e below _ T169 (mkF m 369 #[iv p1, iv p2, iv 4, iv 3, rv aE, rv aR, rv o1, rv e3a, iv 3] [(.ref e2a)])
      obtain ⟨T170, X170, e170, st170⟩ := getF X169 hx hZ hown (host := "") (Or.inl (hw _ (List.mem_of_getElem? (i := 46) rfl))) (Via.of (hw _ (List.mem_of_getElem? (i := 47) rfl))) e169 FC167_next_e2a (g := (mkF m 369 #[iv p1, iv p2, iv 4, iv 3, rv aE, rv aR, rv o1, rv e3a, iv 3] [(.ref e2a)])) rfl rfl (hb hby at_369)
      clear X169 e169
      refine own_st st170 ?_
      clear st170
      show own_Go p e below _ T170 (mkF m 372 #[iv p1, iv p2, iv 4, iv 3, rv aE, rv aR, rv o1, rv e3a, iv 3] [(.ref e3a)])
      refine own_st (fun _ k => XS.aload X170.here hx rfl (hb hby at_372) rfl rfl k) ?_
      show own_Go p e below _ T170 (mkF m 374 #[iv p1, iv p2, iv 4, iv 3, rv aE, rv aR, rv o1, rv e3a, iv 3] [(.ref e3a), (.ref e3a)])
      refine own_st (fun _ k => XT.acmpNo X170.here hx rfl (hb hby at_374) rfl rfl rfl (XT.aa_ne_f rfl) k) ?_
      show own_Go p e below _ T170 (mkF m 377 #[iv p1, iv p2, iv 4, iv 3, rv aE, rv aR, rv o1, rv e3a, iv 3] [])
      refine own_st (fun _ k => XS.aload X170.here hx rfl (hb hby at_377) rfl rfl k) ?_
      show own_Go p e below _ T170 (mkF m 379 #[iv p1, iv p2, iv 4, iv 3, rv aE, rv aR, rv o1, rv e3a, iv 3] [(.ref e3a)])
      obtain ⟨T171, X171, e171, st171⟩ := getF X170 hx hZ hown (host := "") (Or.inl (hw _ (List.mem_of_getElem? (i := 46) rfl))) (Via.of (hw _ (List.mem_of_getElem? (i := 47) rfl))) e170 FC167_next_e3a (g := (mkF m 379 #[iv p1, iv p2, iv 4, iv 3, rv aE, rv aR, rv o1, rv e3a, iv 3] [(.ref e3a)])) rfl rfl (hb hby at_379)
      clear X170 e170
      refine own_st st171 ?_
      clear st171
      show own_Go p e below _ T171 (mkF m 382 #[iv p1, iv p2, iv 4, iv 3, rv aE, rv aR, rv o1, rv e3a, iv 3] [.null])
      refine own_st (fun _ k => XT.ifnonnullNo X171.here hx rfl (hb hby at_382) rfl k) ?_
      show own_Go p e below _ T171 (mkF m 385 #[iv p1, iv p2, iv 4, iv 3, rv aE, rv aR, rv o1, rv e3a, iv 3] [])
      refine own_st (fun _ k => XT.iconstV X171.here hx rfl (1 : Int32) (hb hby at_385) (by decide) k) ?_
      show own_Go p e below _ T171 (mkF m 386 #[iv p1, iv p2, iv 4, iv 3, rv aE, rv aR, rv o1, rv e3a, iv 3] [(.int 1)])
      refine own_st (fun _ k => XS.goto X171.here hx rfl (pc0 := 386) (pc' := 390) rfl (hb hby at_386) (by decide) (by decide) k) ?_
      show own_Go p e below _ T171 (mkF m 390 #[iv p1, iv p2, iv 4, iv 3, rv aE, rv aR, rv o1, rv e3a, iv 3] [(.int 1)])
      refine own_retN X171 hx Bd.notSynchronized (t := .boolean) Bd.returns (by simp) (hb hby at_390) (by decide) (by decide) ?_
      rw [e171]
      exact ⟨rfl, P168⟩
set_option maxRecDepth 65536 in
set_option maxHeartbeats 40000000 in
theorem comes_1 {Post : Tables → Env → Array Value → State → Outcome → State → Prop} (hpost : ∀ tb e args s v u, (limb_1_1.after args s (.returned v) u = true ∧ limb_1_2.after args s (.returned v) u = true ∧ True) → FrameEnd s (.returned v) u (Jvm.fieldLocs frame_1_writes args s ++ Jvm.arrayLocs frame_1_arrays args s ++ Jvm.staticLocs frame_1_statics s) 24 128 → Post tb e args s (.returned v) u) :
    ArmFor flags0 classFile x code maxLocals ret World_1 tables_1 room_1 Calls_1 rest_1 Pre_1 Post := by
  intro l hfl _ _ p e ha hc hk s m args below hf hA hF happ hP
  obtain ⟨hcalls, hrest, hpre⟩ := hP
  obtain ⟨-, -, -, hnamed, -, -, -, hat⟩ := (Spec.applies_iff hf).mp happ
  obtain ⟨hg, hn⟩ := and_e (Cond.before_iff.mp (show (Jvm.Cond.and given_1 narrow_1).before args s = true from hpre))
  obtain ⟨gl0, gr0⟩ := and_e hg
  obtain ⟨gl1, gr1⟩ := and_e gr0
  obtain ⟨w0, w1, rfl⟩ : ∃ w0 w1 : Value, args = #[w0, w1] := by
    have hs : args.size = 2 := by simpa [Cond.value, given_1] using gl0
    obtain ⟨L⟩ := args
    match L, hs with
    | [w0, w1], _ => exact ⟨w0, w1, rfl⟩
  have hw := fun d (hd : d ∈ tables_1) => atoms_spec (ws := Jvm.Cond.code x code maxLocals ret :: tables_1) hat d (List.mem_cons_of_mem _ hd)
  have nn0 := hn
  have hfit : Fit s := fun {y c} hc i hi => by
    obtain ⟨ha, rfl⟩ := Array.getElem?_eq_some_iff.mp hc
    have q := List.all_eq_true.mp ((Array.all_eq_true_iff_forall_mem.mp hF) _ (Array.getElem_mem ha)) i (List.mem_range.mpr hi)
    simpa [Array.getElem?_eq_getElem hi] using q
  obtain ⟨i0, ei0⟩ := is_v gl1
  obtain rfl : w0 = (.int i0) := Option.some.inj ei0
  obtain ⟨i1, ei1⟩ := is_v gr1
  obtain rfl : w1 = (.int i1) := Option.some.inj ei1
  have S_A : Sta s s.heap "com/example/recency/recency/RecencyList" "$assertionsDisabled" "Z" (.int (1 : Int32)) := Sta.start (own_eq_int nn0) (Or.inr ⟨(hw _ (List.mem_of_getElem? (i := 19) rfl)), (hw _ (List.mem_of_getElem? (i := 30) rfl))⟩)
  obtain ⟨n, o, h1, h2, h3, _, L, rfl, ⟨rfl, N⟩, hq⟩ := own_rm_law l s _ hw tables_1 i0 i1 s.heap s.heap.size (Nat.le_refl _) (Old.start s) S_A p e ha hc hk s m _ below hf ((Spec.applies_iff_loose hf).mp happ).1 ⟨rfl, State.Warmed39.refl s, rfl⟩ trivial
  refine ⟨n, _, h1, h2, h3, hpost _ _ _ _ _ _ ⟨Cond.after_iff.mpr rfl, Cond.after_iff.mpr (eq_i res_at (Term.int_eval (1)) rfl), trivial⟩ ⟨hq.1, hq.2.1, (hq.2.2.sift fun y hy => Or.inr (N y hy)).mono (by decide) (by decide)⟩⟩
theorem main_1_1 : Claimed_1_1 := comes_1 fun _ _ _ _ _ _ h hF => ⟨h.1, hF⟩
theorem main_1_2 : Claimed_1_2 := comes_1 fun _ _ _ _ _ _ h hF => ⟨h.2.1, hF⟩
end Jvm.Pilot.@@N@@
namespace Jvm.Pilot.@@N@@
open Jvm Jvm.ClassFile Sem Op Lib Jvm.Free Jvm.Stand Jvm.Pilot.@@N@@.Jvm.D
/-! MADE BY PROGRAM (witnessworld.py) out of the Statement's table words and the real class files: 12 classes; the members and pool entries that the words name. The judged class is class 2, her method 1. -/
namespace start1
open Jvm.ClassFile
def u (s : String) : CpInfo := .utf8 (stringToUtf16 s)
/-- a pool by its gaps: so many unusable entries, then the entry; so many at the end -/
def gap : Nat → List CpInfo → List CpInfo
  | 0, r => r
  | n + 1, r => .unusable :: gap n r
def poolList (es : List (Nat × CpInfo)) (last : Nat) : List CpInfo := es.foldr (fun e r => gap e.1 (e.2 :: r)) (gap last [])
def pool (es : List (Nat × CpInfo)) (last : Nat) : Array CpInfo := ⟨poolList es last⟩
def fileOf (pool : Array CpInfo) (this : Nat) (attrs : Array Attribute := #[]) (ms : Array MethodInfo := #[]) (fl : Nat := 33) (sup : Nat := 0) (ifs : Array Nat := #[]) (fds : Array FieldInfo := #[]) : ClassFile where
  minorVersion := 0
  majorVersion := 65
  constantPool := pool
  accessFlags := fl
  thisClass := this
  superClass := sup
  interfaces := ifs
  fields := fds
  methods := ms
  attributes := attrs
def plain (name : String) (sup : Option ClassId) : Class where
  name := name
  kind := .ordinary
  loader := none
  accessFlags := 33
  super := sup
  interfaces := #[]
  cf := none
  fields := #[]
  methods := #[]
  instanceTypes := #[]
  staticTypes := #[]
  resolved := #[]
  callSites := []
  init := .initialized
  statics := none
  mirror := none

def pool0 : Array CpInfo := pool [(5, u "<init>"), (0, u "()V"), (1, .class_ 10), (1, u "java/lang/Object")] 113

def k0c0 : Code := { maxStack := 0, maxLocals := 1, code := object_method_1_code, exceptionTable := #[], attributes := #[] }
def k0m0 : Method := { name := "<init>", desc := "()V", sig := { parameters := [], returnType := none }, accessFlags := 1, code := some k0c0 }
/-- java/lang/Object -/
def k0 : Class := { plain "java/lang/Object" none with
  accessFlags := 33
  interfaces := #[]
  cf := some (fileOf pool0 8 #[] #[{ accessFlags := 1, nameIndex := 5, descriptorIndex := 6, attributes := #[] }] 33 0 #[] #[])
  fields := #[]
  methods := #[k0m0]
  instanceTypes := #[]
  staticTypes := #[]
  resolved := Array.replicate 124 none
  statics := none }

def pool1 : Array CpInfo := pool [(1, .methodref 2 3), (0, .class_ 4), (0, .nameAndType 5 6), (0, u "java/lang/Object"), (0, u "<init>"), (0, u "()V"), (0, .class_ 8), (0, u "com/example/recency/recency/RecencyList$Link"), (0, u "previous"), (0, u "Lcom/example/recency/recency/RecencyList$Link;"), (2, u "next"), (6, .class_ 21), (0, u "com/example/recency/recency/RecencyList")] 2

def k1c0 : Code := { maxStack := 1, maxLocals := 1, code := prog_24_method_1_code, exceptionTable := #[], attributes := #[] }
def k1m0 : Method := { name := "<init>", desc := "()V", sig := { parameters := [], returnType := none }, accessFlags := 1, code := some k1c0 }
/-- com/example/recency/recency/RecencyList$Link -/
def k1 : Class := { plain "com/example/recency/recency/RecencyList$Link" (some 0) with
  accessFlags := 1057
  interfaces := #[]
  cf := some (fileOf pool1 7 #[.nestHost 20] #[{ accessFlags := 1, nameIndex := 5, descriptorIndex := 6, attributes := #[] }] 1057 2 #[] #[{ accessFlags := 0, nameIndex := 9, descriptorIndex := 10, attributes := #[] }, { accessFlags := 0, nameIndex := 13, descriptorIndex := 10, attributes := #[] }])
  fields := #[{ name := "previous", type := (.object "com/example/recency/recency/RecencyList$Link"), accessFlags := 0, slot := 0, constantValue := 0 }, { name := "next", type := (.object "com/example/recency/recency/RecencyList$Link"), accessFlags := 0, slot := 1, constantValue := 0 }]
  methods := #[k1m0]
  instanceTypes := #[(.object "com/example/recency/recency/RecencyList$Link"), (.object "com/example/recency/recency/RecencyList$Link")]
  staticTypes := #[]
  resolved := Array.replicate 24 none
  statics := none }

def pool2 : Array CpInfo := pool [(1, .methodref 2 3), (0, .class_ 4), (0, .nameAndType 5 6), (0, u "com/example/recency/recency/RecencyList$Link"), (0, u "<init>"), (0, u "()V"), (0, .integer 2147483647), (0, .class_ 9), (0, u "com/example/recency/recency/RecencyListRemovePinLaw"), (0, .methodref 8 3), (0, .class_ 12), (0, u "com/example/recency/recency/RecencyList"), (0, .methodref 11 3), (0, .methodref 11 15), (0, .nameAndType 16 17), (0, u "addLast"), (0, u "(Lcom/example/recency/recency/RecencyList$Link;)V"), (0, .methodref 11 19), (0, .nameAndType 20 17), (0, u "remove"), (0, .fieldref 8 22), (0, .nameAndType 23 24), (0, u "previous"), (0, u "Lcom/example/recency/recency/RecencyList$Link;"), (0, .fieldref 8 26), (0, .nameAndType 27 24), (0, u "next"), (0, .methodref 11 29), (0, .nameAndType 30 31), (0, u "first"), (0, u "()Lcom/example/recency/recency/RecencyList$Link;"), (0, .methodref 8 33), (0, .nameAndType 34 35), (0, u "linked"), (0, u "([Lcom/example/recency/recency/RecencyListRemovePinLaw;II)Z"), (2, u "law"), (0, u "(II)Z")] 9

def k2c0 : Code := { maxStack := 1, maxLocals := 1, code := method_1_code, exceptionTable := #[], attributes := #[] }
def k2m0 : Method := { name := "<init>", desc := "()V", sig := { parameters := [], returnType := none }, accessFlags := 1, code := some k2c0 }
def k2c1 : Code := { maxStack := 5, maxLocals := 9, code := code, exceptionTable := #[], attributes := #[] }
def k2m1 : Method := { name := "law", desc := "(II)Z", sig := { parameters := [.int, .int], returnType := some .boolean }, accessFlags := 9, code := some k2c1 }
def k2c2 : Code := { maxStack := 3, maxLocals := 5, code := method_3_code, exceptionTable := #[], attributes := #[] }
def k2m2 : Method := { name := "linked", desc := "([Lcom/example/recency/recency/RecencyListRemovePinLaw;II)Z", sig := { parameters := [(.array (.object "com/example/recency/recency/RecencyListRemovePinLaw")), .int, .int], returnType := some .boolean }, accessFlags := 10, code := some k2c2 }
/-- com/example/recency/recency/RecencyListRemovePinLaw -/
def k2 : Class := { plain "com/example/recency/recency/RecencyListRemovePinLaw" (some 1) with
  accessFlags := 49
  interfaces := #[]
  cf := some (fileOf pool2 8 #[] #[{ accessFlags := 1, nameIndex := 5, descriptorIndex := 6, attributes := #[] }, { accessFlags := 9, nameIndex := 38, descriptorIndex := 39, attributes := #[] }, { accessFlags := 10, nameIndex := 34, descriptorIndex := 35, attributes := #[] }] 49 2 #[] #[])
  fields := #[]
  methods := #[k2m0, k2m1, k2m2]
  instanceTypes := #[(.object "com/example/recency/recency/RecencyList$Link"), (.object "com/example/recency/recency/RecencyList$Link")]
  staticTypes := #[]
  resolved := Array.replicate 49 none
  statics := none }

def pool3 : Array CpInfo := pool [(8, .class_ 10), (1, u "java/lang/Iterable"), (24, .class_ 36), (0, u "java/lang/Object")] 25

/-- java/lang/Iterable -/
def k3 : Class := { plain "java/lang/Iterable" (some 0) with
  accessFlags := 1537
  interfaces := #[]
  cf := some (fileOf pool3 8 #[] #[] 1537 35 #[] #[])
  fields := #[]
  methods := #[]
  instanceTypes := #[]
  staticTypes := #[]
  resolved := Array.replicate 62 none
  statics := none }

def pool4 : Array CpInfo := pool [(1, .methodref 2 3), (0, .class_ 4), (0, .nameAndType 5 6), (0, u "java/lang/Object"), (0, u "<init>"), (0, u "()V"), (0, .fieldref 8 9), (0, .class_ 10), (0, .nameAndType 11 12), (0, u "com/example/recency/recency/RecencyList"), (0, u "first"), (0, u "Lcom/example/recency/recency/RecencyList$Link;"), (0, .fieldref 8 14), (0, .nameAndType 15 16), (0, u "$assertionsDisabled"), (0, u "Z"), (0, .fieldref 18 19), (0, .class_ 20), (0, .nameAndType 21 12), (0, u "com/example/recency/recency/RecencyList$Link"), (0, u "previous"), (0, .fieldref 18 23), (0, .nameAndType 24 12), (0, u "next"), (3, .fieldref 8 29), (0, .nameAndType 30 12), (0, u "last"), (2, u "remove"), (0, u "(Lcom/example/recency/recency/RecencyList$Link;)V"), (2, u "addLast"), (0, .class_ 39), (0, u "com/example/recency/recency/RecencyList$1"), (9, .class_ 50), (0, u "java/lang/Iterable"), (4, u "()Lcom/example/recency/recency/RecencyList$Link;")] 14

def k4c0 : Code := { maxStack := 1, maxLocals := 1, code := prog_22_method_1_code, exceptionTable := #[], attributes := #[] }
def k4m0 : Method := { name := "<init>", desc := "()V", sig := { parameters := [], returnType := none }, accessFlags := 1, code := some k4c0 }
def k4c1 : Code := { maxStack := 1, maxLocals := 1, code := prog_22_method_2_code, exceptionTable := #[], attributes := #[] }
def k4m1 : Method := { name := "first", desc := "()Lcom/example/recency/recency/RecencyList$Link;", sig := { parameters := [], returnType := some (.object "com/example/recency/recency/RecencyList$Link") }, accessFlags := 1, code := some k4c1 }
def k4c2 : Code := { maxStack := 2, maxLocals := 2, code := prog_22_method_3_code, exceptionTable := #[], attributes := #[] }
def k4m2 : Method := { name := "addLast", desc := "(Lcom/example/recency/recency/RecencyList$Link;)V", sig := { parameters := [(.object "com/example/recency/recency/RecencyList$Link")], returnType := none }, accessFlags := 1, code := some k4c2 }
def k4c3 : Code := { maxStack := 2, maxLocals := 4, code := prog_22_method_5_code, exceptionTable := #[], attributes := #[] }
def k4m3 : Method := { name := "remove", desc := "(Lcom/example/recency/recency/RecencyList$Link;)V", sig := { parameters := [(.object "com/example/recency/recency/RecencyList$Link")], returnType := none }, accessFlags := 1, code := some k4c3 }
/-- com/example/recency/recency/RecencyList -/
def k4 : Class := { plain "com/example/recency/recency/RecencyList" (some 0) with
  accessFlags := 49
  interfaces := #[3]
  cf := some (fileOf pool4 8 #[.nestMembers #[18, 38]] #[{ accessFlags := 1, nameIndex := 5, descriptorIndex := 6, attributes := #[] }, { accessFlags := 1, nameIndex := 11, descriptorIndex := 55, attributes := #[] }, { accessFlags := 1, nameIndex := 37, descriptorIndex := 34, attributes := #[] }, { accessFlags := 1, nameIndex := 33, descriptorIndex := 34, attributes := #[] }] 49 2 #[49] #[{ accessFlags := 2, nameIndex := 11, descriptorIndex := 12, attributes := #[] }, { accessFlags := 2, nameIndex := 30, descriptorIndex := 12, attributes := #[] }, { accessFlags := 4120, nameIndex := 15, descriptorIndex := 16, attributes := #[] }])
  fields := #[{ name := "first", type := (.object "com/example/recency/recency/RecencyList$Link"), accessFlags := 2, slot := 0, constantValue := 0 }, { name := "last", type := (.object "com/example/recency/recency/RecencyList$Link"), accessFlags := 2, slot := 1, constantValue := 0 }, { name := "$assertionsDisabled", type := .boolean, accessFlags := 4120, slot := 0, constantValue := 0 }]
  methods := #[k4m0, k4m1, k4m2, k4m3]
  instanceTypes := #[(.object "com/example/recency/recency/RecencyList$Link"), (.object "com/example/recency/recency/RecencyList$Link")]
  staticTypes := #[.boolean]
  resolved := Array.replicate 70 none
  statics := some 0 }

def pool5 : Array CpInfo := pool [(1, u "java/lang/Cloneable"), (0, .class_ 1), (0, u "java/lang/Object"), (0, .class_ 3)] 3

/-- java/lang/Cloneable -/
def k5 : Class := { plain "java/lang/Cloneable" (some 0) with
  accessFlags := 1537
  interfaces := #[]
  cf := some (fileOf pool5 2 #[] #[] 1537 4 #[] #[])
  fields := #[]
  methods := #[]
  instanceTypes := #[]
  staticTypes := #[]
  resolved := Array.replicate 8 none
  statics := none }

def pool6 : Array CpInfo := pool [(1, u "java/io/Serializable"), (0, .class_ 1), (0, u "java/lang/Object"), (0, .class_ 3)] 3

/-- java/io/Serializable -/
def k6 : Class := { plain "java/io/Serializable" (some 0) with
  accessFlags := 1537
  interfaces := #[]
  cf := some (fileOf pool6 2 #[] #[] 1537 4 #[] #[])
  fields := #[]
  methods := #[]
  instanceTypes := #[]
  staticTypes := #[]
  resolved := Array.replicate 8 none
  statics := none }

/-- the primitive byte -/
def k7 : Class := { plain "byte" none with kind := .primitive 'B', accessFlags := 0x411 }
/-- [B -/
def k8 : Class := { plain "[B" (some 0) with kind := .array 7 .byte, interfaces := #[5, 6], accessFlags := 1041 }

/-- the primitive int -/
def k9 : Class := { plain "int" none with kind := .primitive 'I', accessFlags := 0x411 }
/-- [I -/
def k10 : Class := { plain "[I" (some 0) with kind := .array 9 .int, interfaces := #[5, 6], accessFlags := 1041 }

/-- [Lcom/example/recency/recency/RecencyListRemovePinLaw; -/
def k11 : Class := { plain "[Lcom/example/recency/recency/RecencyListRemovePinLaw;" (some 0) with kind := .array 2 (.object "com/example/recency/recency/RecencyListRemovePinLaw"), interfaces := #[5, 6], accessFlags := 1041 }

def heap : Heap := #[{ cls := 4, slots := #[.int 1], vm := .statics 4 }]
def classes : Array Class := #[k0, k1, k2, k3, k4, k5, k6, k7, k8, k9, k10, k11]
def interned : List (Array UInt16 × Addr) := []
def slotsUsed : Nat := 1
def theMethod : MethodId := ⟨2, 1⟩
def args0 : Array Value := #[.int 5, .int 7]
def aboutOver (below : List Frame) : State where
  vm := { classes := classes, interned := interned.toArray }
  heap := heap
  slotsUsed := slotsUsed
  threads := #[{ frames := .invoking theMethod args0 :: below }]
def below0 : List Frame := [.native { method := ⟨0, 0⟩, args := #[] }]
def about1 : State := aboutOver below0
def p0 : Program := .bare "" "" ""
def e0 : Env := launch0.env 0 0 0
theorem w_frames : about1.frames = Frame.invoking theMethod args0 :: below0 := rfl
set_option maxRecDepth 65536 in
theorem w_args : argsFit about1.vm theMethod args0 = true := by decide +kernel
set_option maxRecDepth 65536 in
theorem w_heap : heapFits about1 = true := by decide +kernel
set_option maxRecDepth 65536 in
theorem w_runnable : about1.curStatus? = some .runnable := by decide +kernel
set_option maxRecDepth 65536 in
theorem w_alone : about1.alone = true := by decide +kernel
set_option maxRecDepth 65536 in
theorem w_named : about1.methodNamed? x = some theMethod := by decide +kernel
set_option maxRecDepth 65536 in
theorem w_hears : about1.hears theMethod below0 = true := by decide +kernel
set_option maxRecDepth 65536 in
theorem w_ripe : about1.ripe theMethod args0 below0 = true := by decide +kernel
theorem w_running : about1.status = .running := rfl
set_option maxRecDepth 65536 in
theorem w_room : about1.hasRoom e0.platform room_1 = true :=
  launch0.hasRoom_least _ room_1 (by decide +kernel) (by decide +kernel) (by decide +kernel) (by decide +kernel) (by decide +kernel) (by decide +kernel)
theorem allAtoms_all (ts : List Jvm.Cond) (a : Array Jvm.Value) (st : Jvm.State) : (allAtoms ts).before a st = ts.all (fun c => c.before a st) := by
  induction ts with
  | nil => rfl
  | cons c t ih =>
    show (Jvm.Cond.and c (allAtoms t)).before a st = _
    rw [Jvm.Cond.before_and, ih, List.all_cons]
def words1 : List Jvm.Cond := Jvm.Cond.code x code maxLocals ret :: tables_1
/-- a 'code' word, met by the world's own term for the bytes: nothing is compared byte by byte -/
theorem code_word {y : MethodName} {bytes : ByteArray} {mx : Nat} {rt : Option FieldType} {a : Array Value} {s : State} {m : MethodId} {meth : Method} {c : Code} (h1 : s.methodNamed? y = some m) (h2 : s.vm.method? m = some meth) (h3 : meth.code = some c) (h4 : c.code = bytes)
    (h5 : (c.maxLocals == mx && c.exceptionTable.isEmpty && decide (c.maxStack ≤ mostOperands) && decide (meth.sig.returnType = rt) && !meth.locks && decide (parseMethodDescriptor y.desc = some meth.sig)) = true) : (Jvm.Cond.code y bytes mx rt).before a s = true := by
  simp only [Bool.and_eq_true, beq_iff_eq, Bool.not_eq_true', decide_eq_true_eq] at h5
  obtain ⟨⟨⟨⟨⟨g1, g2⟩, g3⟩, g4⟩, g5⟩, g6⟩ := h5
  simp [Cond.before, Cond.holds, Cond.value, h1, h2, h3, h4, g1, g2, g3, g4, g5, g6]
def isCode : Jvm.Cond → Bool
  | .code _ _ _ _ => true
  | _ => false
theorem all_split {L : List Jvm.Cond} {P : Jvm.Cond → Bool} (h1 : L.all (fun c => isCode c || P c) = true) (h2 : ∀ c ∈ L.filter isCode, P c = true) : L.all P = true := by
  refine List.all_eq_true.mpr fun c hc => ?_
  have h := List.all_eq_true.mp h1 c hc
  rcases Bool.eq_false_or_eq_true (isCode c) with hi | hi
  · exact h2 c (List.mem_filter.mpr ⟨hc, hi⟩)
  · simpa [hi] using h
set_option maxRecDepth 65536 in
theorem w_c0 : (Jvm.Cond.code x code maxLocals ret).before args0 about1 = true := code_word (m := ⟨2, 1⟩) (meth := k2m1) (c := k2c1) (by decide +kernel) rfl rfl rfl (by decide +kernel)
set_option maxRecDepth 65536 in
theorem w_c1 : (Jvm.Cond.code ({ cls := "com/example/recency/recency/RecencyListRemovePinLaw", name := "<init>", desc := "()V" } : Jvm.MethodName) method_1_code (1 : Nat) (Option.none : Option Jvm.ClassFile.FieldType)).before args0 about1 = true := code_word (m := ⟨2, 0⟩) (meth := k2m0) (c := k2c0) (by decide +kernel) rfl rfl rfl (by decide +kernel)
set_option maxRecDepth 65536 in
theorem w_c2 : (Jvm.Cond.code ({ cls := "com/example/recency/recency/RecencyList$Link", name := "<init>", desc := "()V" } : Jvm.MethodName) prog_24_method_1_code (1 : Nat) (Option.none : Option Jvm.ClassFile.FieldType)).before args0 about1 = true := code_word (m := ⟨1, 0⟩) (meth := k1m0) (c := k1c0) (by decide +kernel) rfl rfl rfl (by decide +kernel)
set_option maxRecDepth 65536 in
theorem w_c3 : (Jvm.Cond.code ({ cls := "java/lang/Object", name := "<init>", desc := "()V" } : Jvm.MethodName) object_method_1_code (1 : Nat) (Option.none : Option Jvm.ClassFile.FieldType)).before args0 about1 = true := code_word (m := ⟨0, 0⟩) (meth := k0m0) (c := k0c0) (by decide +kernel) rfl rfl rfl (by decide +kernel)
set_option maxRecDepth 65536 in
theorem w_c4 : (Jvm.Cond.code ({ cls := "com/example/recency/recency/RecencyList", name := "<init>", desc := "()V" } : Jvm.MethodName) prog_22_method_1_code (1 : Nat) (Option.none : Option Jvm.ClassFile.FieldType)).before args0 about1 = true := code_word (m := ⟨4, 0⟩) (meth := k4m0) (c := k4c0) (by decide +kernel) rfl rfl rfl (by decide +kernel)
set_option maxRecDepth 65536 in
theorem w_c5 : (Jvm.Cond.code ({ cls := "com/example/recency/recency/RecencyList", name := "addLast", desc := "(Lcom/example/recency/recency/RecencyList$Link;)V" } : Jvm.MethodName) prog_22_method_3_code (2 : Nat) (Option.none : Option Jvm.ClassFile.FieldType)).before args0 about1 = true := code_word (m := ⟨4, 2⟩) (meth := k4m2) (c := k4c2) (by decide +kernel) rfl rfl rfl (by decide +kernel)
set_option maxRecDepth 65536 in
theorem w_c6 : (Jvm.Cond.code ({ cls := "com/example/recency/recency/RecencyList", name := "remove", desc := "(Lcom/example/recency/recency/RecencyList$Link;)V" } : Jvm.MethodName) prog_22_method_5_code (4 : Nat) (Option.none : Option Jvm.ClassFile.FieldType)).before args0 about1 = true := code_word (m := ⟨4, 3⟩) (meth := k4m3) (c := k4c3) (by decide +kernel) rfl rfl rfl (by decide +kernel)
set_option maxRecDepth 65536 in
theorem w_c7 : (Jvm.Cond.code ({ cls := "com/example/recency/recency/RecencyList", name := "first", desc := "()Lcom/example/recency/recency/RecencyList$Link;" } : Jvm.MethodName) prog_22_method_2_code (1 : Nat) (Option.some (Jvm.ClassFile.FieldType.object "com/example/recency/recency/RecencyList$Link"))).before args0 about1 = true := code_word (m := ⟨4, 1⟩) (meth := k4m1) (c := k4c1) (by decide +kernel) rfl rfl rfl (by decide +kernel)
set_option maxRecDepth 65536 in
theorem w_c8 : (Jvm.Cond.code ({ cls := "com/example/recency/recency/RecencyListRemovePinLaw", name := "linked", desc := "([Lcom/example/recency/recency/RecencyListRemovePinLaw;II)Z" } : Jvm.MethodName) method_3_code (5 : Nat) (Option.some Jvm.ClassFile.FieldType.boolean)).before args0 about1 = true := code_word (m := ⟨2, 2⟩) (meth := k2m2) (c := k2c2) (by decide +kernel) rfl rfl rfl (by decide +kernel)
def codes1 : List Jvm.Cond := [Jvm.Cond.code x code maxLocals ret, Jvm.Cond.code ({ cls := "com/example/recency/recency/RecencyListRemovePinLaw", name := "<init>", desc := "()V" } : Jvm.MethodName) method_1_code (1 : Nat) (Option.none : Option Jvm.ClassFile.FieldType), Jvm.Cond.code ({ cls := "com/example/recency/recency/RecencyList$Link", name := "<init>", desc := "()V" } : Jvm.MethodName) prog_24_method_1_code (1 : Nat) (Option.none : Option Jvm.ClassFile.FieldType), Jvm.Cond.code ({ cls := "java/lang/Object", name := "<init>", desc := "()V" } : Jvm.MethodName) object_method_1_code (1 : Nat) (Option.none : Option Jvm.ClassFile.FieldType), Jvm.Cond.code ({ cls := "com/example/recency/recency/RecencyList", name := "<init>", desc := "()V" } : Jvm.MethodName) prog_22_method_1_code (1 : Nat) (Option.none : Option Jvm.ClassFile.FieldType), Jvm.Cond.code ({ cls := "com/example/recency/recency/RecencyList", name := "addLast", desc := "(Lcom/example/recency/recency/RecencyList$Link;)V" } : Jvm.MethodName) prog_22_method_3_code (2 : Nat) (Option.none : Option Jvm.ClassFile.FieldType), Jvm.Cond.code ({ cls := "com/example/recency/recency/RecencyList", name := "remove", desc := "(Lcom/example/recency/recency/RecencyList$Link;)V" } : Jvm.MethodName) prog_22_method_5_code (4 : Nat) (Option.none : Option Jvm.ClassFile.FieldType), Jvm.Cond.code ({ cls := "com/example/recency/recency/RecencyList", name := "first", desc := "()Lcom/example/recency/recency/RecencyList$Link;" } : Jvm.MethodName) prog_22_method_2_code (1 : Nat) (Option.some (Jvm.ClassFile.FieldType.object "com/example/recency/recency/RecencyList$Link")), Jvm.Cond.code ({ cls := "com/example/recency/recency/RecencyListRemovePinLaw", name := "linked", desc := "([Lcom/example/recency/recency/RecencyListRemovePinLaw;II)Z" } : Jvm.MethodName) method_3_code (5 : Nat) (Option.some Jvm.ClassFile.FieldType.boolean)]
set_option maxRecDepth 65536 in
theorem codes_eq : words1.filter isCode = codes1 := rfl
theorem w_codes : ∀ c ∈ words1.filter isCode, c.before args0 about1 = true := by
  rw [codes_eq]
  intro c hc
  simp only [codes1, List.mem_cons, List.not_mem_nil, or_false] at hc
  rcases hc with rfl | rfl | rfl | rfl | rfl | rfl | rfl | rfl | rfl
  · exact w_c0
  · exact w_c1
  · exact w_c2
  · exact w_c3
  · exact w_c4
  · exact w_c5
  · exact w_c6
  · exact w_c7
  · exact w_c8
set_option maxRecDepth 65536 in
theorem w_t1 : (words1.take 24).all (fun c => isCode c || c.before args0 about1) = true := by decide +kernel
set_option maxRecDepth 65536 in
theorem w_t2 : ((words1.drop 24).take 24).all (fun c => isCode c || c.before args0 about1) = true := by decide +kernel
set_option maxRecDepth 65536 in
theorem w_t3 : ((words1.drop 24).drop 24).all (fun c => isCode c || c.before args0 about1) = true := by decide +kernel
theorem w_tables : (allAtoms (Jvm.Cond.code x code maxLocals ret :: tables_1)).before args0 about1 = true := by
  rw [allAtoms_all]
  show words1.all (fun c => c.before args0 about1) = true
  refine all_split ?_ w_codes
  rw [← List.take_append_drop 24 words1, List.all_append, w_t1, ← List.take_append_drop 24 (words1.drop 24), List.all_append, w_t2, w_t3]
  rfl
set_option maxRecDepth 65536 in
theorem w_case : (Jvm.Cond.and given_1 narrow_1).before args0 about1 = true := by decide +kernel
theorem w_applies : (headSpec (Jvm.Cond.code x code maxLocals ret :: tables_1) room_1).applies x e0.platform about1 = true :=
  (Spec.applies_iff w_frames).mpr ⟨w_running, w_runnable, w_alone, w_named, w_hears, w_ripe, w_room, w_tables⟩
theorem atStart : AtStart classFile x code maxLocals ret World_1 tables_1 room_1 Calls_1 rest_1 Pre_1 launch0 p0 e0 about1 theMethod args0 below0 :=
  ⟨lists_1, trivial, launch0.admits_env _ _ _, launch0.least_env, fairChoices_fair.cas, fairChoices_fair.clock, w_frames, w_args, w_heap, w_applies, trivial, trivial, w_case⟩
end start1
theorem witness_1 : WitnessClaimed_1 := ⟨start1.p0, start1.e0, start1.about1, start1.theMethod, start1.args0, start1.below0, start1.atStart⟩
end Jvm.Pilot.@@N@@
