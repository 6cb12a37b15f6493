import JvmDerived
import JvmDerived.Pilot.@@N@@Statement
import JvmDerived.Pilot.@@N@@Code
set_option linter.unusedVariables false
set_option linter.unusedSimpArgs false
@@BLOCK:NumsL.lean.txt@@
namespace Jvm.RoadKit
open Sem ClassFile Op Lib Jvm.Stand Jvm.Free Jvm.LawKit
section Own
variable {p : Program} {l : Launch} {e : Env} {R : Room} {s : State} {m : MethodId} {args : Array Value} {below : List Frame} {meth : Method} {c : Code} {T T' : State} {locs : List Loc} {cells slots : Nat}
theorem retI (X : Stand p l e R s m args below meth c T locs cells slots) (hx : p.tables.exec = Jvm.exec) {pc : Nat} {Ls : Array Slot} {z : Int32} {rest : List Value} (hret : meth.sig.returnType = some .int) (hd : decode c.code pc = .ok (.ireturn, 1)) {fs : List Frame}
    (hl : ∀ (f : JFrame) (acts : List Action), f.method = m → f.locked = none → f.entered = [] → (doReturn e (T.setTop f) acts (some (.int z))).1 = T.setFrames fs) : Steps p.tables e below (T.setTop (mkF m pc Ls (.int z :: rest))) (T.setFrames fs) := by
  have hm' : T.vm.method? m = some meth := X.method'
  have hn : narrow .int (.int z) = .int z := rfl
  show Steps p.tables e below (T.setTop { method := m, pc := pc, locals := Ls, stack := _ :: rest, locked := none }) _
  jvm_step X.here [X.here.top, hx, hd, hm', hret, hn]
  first | (intro acts; rw [hl _ acts rfl rfl rfl]) | rw [hl _ _ rfl rfl rfl]
  exact Steps.refl _
/-- what is left of a walk: it comes to an end at which K holds -/
def own_Go (p : Program) (e : Env) (below : List Frame) (K : Outcome → State → Prop) (T : State) (g : JFrame) : Prop := ∃ s₂ o, Steps p.tables e below (T.setTop g) s₂ ∧ s₂.status = .running ∧ Ended s₂ below o ∧ K o s₂
def own_K (s : State) (Q : Option Value → Heap → List Loc → Prop) (C S : Nat) (o : Outcome) (U' : State) : Prop := ∃ v L, o = .returned v ∧ Q v U'.heap L ∧ FrameEnd s o U' L C S
variable {K : Outcome → State → Prop} {g g' : JFrame} {Q : Option Value → Heap → List Loc → Prop} {C S : Nat}
theorem own_st (st : ∀ target, Steps p.tables e below (T'.setTop g') target → Steps p.tables e below (T.setTop g) target) (k : own_Go p e below K T' g') : own_Go p e below K T g := by
  obtain ⟨s2, o, h1, h2⟩ := k
  exact ⟨s2, o, st _ h1, h2⟩
theorem own_tr (st : Steps p.tables e below (T.setTop g) (T'.setTop g')) (k : own_Go p e below K T' g') : own_Go p e below K T g := by
  obtain ⟨s2, o, h1, h2⟩ := k
  exact ⟨s2, o, st.trans h1, h2⟩
theorem own_end (X : Stand p l e R s m args below meth c T locs cells slots) (hlk : meth.locks = false) {v : Option Value} (hv : meth.sig.returnType = none → v = none)
    (hst : ∀ fs, (∀ (f : JFrame) (acts : List Action), f.method = m → f.locked = none → f.entered = [] → (doReturn e (T.setTop f) acts v).1 = T.setFrames fs) → Steps p.tables e below (T.setTop g) (T.setFrames fs)) (hc : cells ≤ C) (hs : slots ≤ S) (hQ : Q v T.heap locs) :
    own_Go p e below (own_K s Q C S) T g := by
  obtain ⟨fs, hr, hrun, hended, hW, hsame⟩ := X.leave (v := v) hv hlk
  exact ⟨_, _, hst fs hr, hrun, hended, _, _, rfl, hQ, ⟨_, rfl⟩, hW, hsame.mono hc hs⟩
theorem own_retI (X : Stand p l e R s m args below meth c T locs cells slots) (hx : p.tables.exec = Jvm.exec) (hlk : meth.locks = false) {pc : Nat} {Ls : Array Slot} {z : Int32} {rest : List Value} (hret : meth.sig.returnType = some .int) (hd : decode c.code pc = .ok (.ireturn, 1)) (hc : cells ≤ C) (hs : slots ≤ S) (hQ : Q (some (.int z)) T.heap locs) :
    own_Go p e below (own_K s Q C S) T (mkF m pc Ls (.int z :: rest)) := own_end X hlk (fun h => by rw [hret] at h; cases h) (fun fs hr => retI X hx hret hd hr) hc hs hQ
theorem own_retN (X : Stand p l e R s m args below meth c T locs cells slots) (hx : p.tables.exec = Jvm.exec) (hlk : meth.locks = false) {pc : Nat} {Ls : Array Slot} {z : Int32} {t : FieldType} {rest : List Value} (hret : meth.sig.returnType = some t) (ht : t = .boolean ∨ t = .byte ∨ t = .char ∨ t = .short) (hd : decode c.code pc = .ok (.ireturn, 1)) (hc : cells ≤ C) (hs : slots ≤ S) (hQ : Q (some (.int (nar t z))) T.heap locs) :
    own_Go p e below (own_K s Q C S) T (mkF m pc Ls (.int z :: rest)) := own_end X hlk (fun h => by rw [hret] at h; cases h) (fun fs hr => retN X hx hret ht hd hr) hc hs hQ
theorem own_retA (X : Stand p l e R s m args below meth c T locs cells slots) (hx : p.tables.exec = Jvm.exec) (hlk : meth.locks = false) {pc : Nat} {Ls : Array Slot} {v : Value} {t : FieldType} {rest : List Value} (hret : meth.sig.returnType = some t) (ht : t.isReference = true) (hv : v.isRef = true) (hd : decode c.code pc = .ok (.areturn, 1)) (hc : cells ≤ C) (hs : slots ≤ S) (hQ : Q (some v) T.heap locs) :
    own_Go p e below (own_K s Q C S) T (mkF m pc Ls (v :: rest)) := own_end X hlk (fun h => by rw [hret] at h; cases h) (fun fs hr => retOut X hx hret (by cases t <;> first | (cases ht; done) | (cases v <;> first | rfl | (cases hv; done))) (Or.inr (Or.inr (Or.inr (Or.inr ⟨rfl, ht, hv⟩)))) hd hr) hc hs hQ
theorem own_retL (X : Stand p l e R s m args below meth c T locs cells slots) (hx : p.tables.exec = Jvm.exec) (hlk : meth.locks = false) {pc : Nat} {Ls : Array Slot} {w : Int64} (hret : meth.sig.returnType = some .long) (hd : decode c.code pc = .ok (.lreturn, 1)) (hc : cells ≤ C) (hs : slots ≤ S) (hQ : Q (some (.long w)) T.heap locs) :
    own_Go p e below (own_K s Q C S) T (mkF m pc Ls [.long w]) := own_end X hlk (fun h => by rw [hret] at h; cases h) (fun fs hr => X.lreturnOut hx hret hd hr) hc hs hQ
theorem own_ret (X : Stand p l e R s m args below meth c T locs cells slots) (hx : p.tables.exec = Jvm.exec) (hlk : meth.locks = false) {pc : Nat} {Ls : Array Slot} (hret : meth.sig.returnType = none) (hd : decode c.code pc = .ok (.return_, 1)) (hc : cells ≤ C) (hs : slots ≤ S) (hQ : Q none T.heap locs) :
    own_Go p e below (own_K s Q C S) T (mkF m pc Ls []) := own_end X hlk (fun _ => rfl) (fun fs hr => X.returnOut hx hret hd hr) hc hs hQ
variable {Z : State} {h : Heap} {a : Addr} {k : ClassId} {ty : FieldType} {z j : Int32} {vs : List Value} {dv v : Value} {rest : List Value} {target : State}
theorem own_len (X : Stand p l e R s m args below meth c T locs cells slots) (hx : p.tables.exec = Jvm.exec) (hZ : Z.Warmed39 s.vm) (eT : T.heap = h) (F : Arv Z h a k ty z vs dv) (hg : g.method = m) (hs : g.stack = .ref a :: rest) (hd : decode c.code g.pc = .ok (.arraylength, 1))
    (hr : Steps p.tables e below (T.setTop { g with pc := g.pc + 1, stack := .int z :: rest }) target) : Steps p.tables e below (T.setTop g) target := by
  obtain ⟨cl, A, -, S, q, -, -⟩ := F
  refine X.arraylength hx (by rw [eT]; exact A.1) (State.isArrayOf_alike hZ.alike A.2.1) hg hs hd _ ?_
  rw [len_of S q]
  exact hr
theorem own_ldR (X : Stand p l e R s m args below meth c T locs cells slots) (hx : p.tables.exec = Jvm.exec) (hZ : Z.Warmed39 s.vm) (eT : T.heap = h) (F : Arv Z h a k ty z vs dv) (hty : ty.isReference = true) (hj : ¬ j < 0 ∧ j < z) (hv : vs.getD j.toNatClampNeg dv = v) (hg : g.method = m) (hs : g.stack = .int j :: .ref a :: rest) (hd : decode c.code g.pc = .ok (.aaload, 1))
    (hr : Steps p.tables e below (T.setTop { g with pc := g.pc + 1, stack := v :: rest }) target) : Steps p.tables e below (T.setTop g) target := by
  obtain ⟨cl, A, -, S, q, H, -⟩ := F
  exact X.aaload hx (by rw [eT]; exact A.1) (State.isArrayOf_alike hZ.alike A.2.1) hty A.2.2 (inb_of S hj) (H.at (inb_of S hj) hv) hg hs hd _ hr
theorem own_ldB (X : Stand p l e R s m args below meth c T locs cells slots) (hx : p.tables.exec = Jvm.exec) (hZ : Z.Warmed39 s.vm) (eT : T.heap = h) (F : Arv Z h a k .byte z vs dv) (hj : ¬ j < 0 ∧ j < z) (hv : vs.getD j.toNatClampNeg dv = v) (hg : g.method = m) (hs : g.stack = .int j :: .ref a :: rest) (hd : decode c.code g.pc = .ok (.baload, 1))
    (hr : Steps p.tables e below (T.setTop { g with pc := g.pc + 1, stack := v :: rest }) target) : Steps p.tables e below (T.setTop g) target := by
  obtain ⟨cl, A, -, S, q, H, -⟩ := F
  exact X.baloadBytes hx (by rw [eT]; exact A.1) (State.isArrayOf_alike hZ.alike A.2.1) A.2.2 (inb_of S hj) (H.at (inb_of S hj) hv) hg hs hd _ hr
theorem own_ldJ (X : Stand p l e R s m args below meth c T locs cells slots) (hx : p.tables.exec = Jvm.exec) (hZ : Z.Warmed39 s.vm) (eT : T.heap = h) (F : Arv Z h a k .long z vs dv) (hj : ¬ j < 0 ∧ j < z) (hv : vs.getD j.toNatClampNeg dv = v) (hg : g.method = m) (hs : g.stack = .int j :: .ref a :: rest) (hd : decode c.code g.pc = .ok (.laload, 1))
    (hr : Steps p.tables e below (T.setTop { g with pc := g.pc + 1, stack := v :: rest }) target) : Steps p.tables e below (T.setTop g) target := by
  obtain ⟨cl, A, -, S, q, H, -⟩ := F
  exact X.laload hx (by rw [eT]; exact A.1) (State.isArrayOf_alike hZ.alike A.2.1) A.2.2 (inb_of S hj) (H.at (inb_of S hj) hv) hg hs hd _ hr
theorem own_stB (X : Stand p l e R s m args below meth c T locs cells slots) (hx : p.tables.exec = Jvm.exec) (hZ : Z.Warmed39 s.vm) (eT : T.heap = h) (F : Arv Z h a k .byte z vs dv) {x : Int32} (hj : ¬ j < 0 ∧ j < z) (i : Nat) (hi : j.toNatClampNeg = i) (hl : i < vs.length) (hg : g.method = m) (hs : g.stack = .int x :: .int j :: .ref a :: rest) (hd : decode c.code g.pc = .ok (.bastore, 1)) :
    ∃ T' h', Stand p l e R s m args below meth c T' (locs ++ [⟨a, j.toNatClampNeg⟩]) cells slots ∧ T'.heap = h' ∧ Wr h h' a j.toNatClampNeg (.int (nar .byte x)) ∧ Arv Z h' a k .byte z (vs.set i (.int x.toInt8.toInt32)) dv ∧ ∀ target, Steps p.tables e below (T'.setTop { g with pc := g.pc + 1, stack := rest }) target → Steps p.tables e below (T.setTop g) target := by
  obtain ⟨cl, A, q1, S, q3, H, G⟩ := F
  obtain ⟨T', h', X', e', W, st⟩ := stB X hx hZ eT A (inb_of S hj) hg hs hd
  exact ⟨T', h', X', e', W, Arv.set A q1 S q3 H G (fits_nar_byte _) W i hi hl, st⟩
theorem own_pushB (X : Stand p l e R s m args below meth c T locs cells slots) (hx : p.tables.exec = Jvm.exec) (hZ : Z.Warmed39 s.vm) (eT : T.heap = h) (F : Arv Z h a k .byte z vs dv) {x : Int32} (hj : ¬ j < 0 ∧ j < z) (hi : j.toNatClampNeg = vs.length) (hg : g.method = m) (hs : g.stack = .int x :: .int j :: .ref a :: rest) (hd : decode c.code g.pc = .ok (.bastore, 1)) :
    ∃ T' h', Stand p l e R s m args below meth c T' (locs ++ [⟨a, j.toNatClampNeg⟩]) cells slots ∧ T'.heap = h' ∧ Wr h h' a j.toNatClampNeg (.int (nar .byte x)) ∧ Arv Z h' a k .byte z (vs ++ [.int x.toInt8.toInt32]) dv ∧ ∀ target, Steps p.tables e below (T'.setTop { g with pc := g.pc + 1, stack := rest }) target → Steps p.tables e below (T.setTop g) target := by
  have F' : Arv Z h a k .byte z (vs ++ List.replicate 1 dv) dv := F.pad (pad_rep vs dv 1)
  obtain ⟨cl, A, q1, S, q3, H, G⟩ := F'
  obtain ⟨T', h', X', e', W, st⟩ := stB X hx hZ eT A (inb_of S hj) hg hs hd
  have V := Arv.set A q1 S q3 H G (fits_nar_byte _) W vs.length hi (by simp)
  have e : (vs ++ List.replicate 1 dv).set vs.length (.int x.toInt8.toInt32) = vs ++ [.int x.toInt8.toInt32] := by simp
  exact ⟨T', h', X', e', W, e ▸ V, st⟩
theorem own_stJ (X : Stand p l e R s m args below meth c T locs cells slots) (hx : p.tables.exec = Jvm.exec) (hZ : Z.Warmed39 s.vm) (eT : T.heap = h) (F : Arv Z h a k .long z vs dv) {x : Int64} (hj : ¬ j < 0 ∧ j < z) (i : Nat) (hi : j.toNatClampNeg = i) (hl : i < vs.length) (hg : g.method = m) (hs : g.stack = .long x :: .int j :: .ref a :: rest) (hd : decode c.code g.pc = .ok (.lastore, 1)) :
    ∃ T' h', Stand p l e R s m args below meth c T' (locs ++ [⟨a, j.toNatClampNeg⟩]) cells slots ∧ T'.heap = h' ∧ Wr h h' a j.toNatClampNeg (.long x) ∧ Arv Z h' a k .long z (vs.set i (.long x)) dv ∧ ∀ target, Steps p.tables e below (T'.setTop { g with pc := g.pc + 1, stack := rest }) target → Steps p.tables e below (T.setTop g) target := by
  obtain ⟨cl, A, q1, S, q3, H, G⟩ := F
  obtain ⟨T', h', X', e', W, st⟩ := stJ X hx hZ eT A (inb_of S hj) hg hs hd
  exact ⟨T', h', X', e', W, Arv.set A q1 S q3 H G rfl W i hi hl, st⟩
theorem own_stR (X : Stand p l e R s m args below meth c T locs cells slots) (hx : p.tables.exec = Jvm.exec) (hZ : Z.Warmed39 s.vm) (eT : T.heap = h) {C : String} (F : Arv Z h a k (.object C) z vs dv) {b : Addr} (O : Ovr Z k C) (I : Ins Z h b C true) (hj : ¬ j < 0 ∧ j < z) (i : Nat) (hi : j.toNatClampNeg = i) (hl : i < vs.length) (hg : g.method = m) (hs : g.stack = .ref b :: .int j :: .ref a :: rest) (hd : decode c.code g.pc = .ok (.aastore, 1)) :
    ∃ T' h', Stand p l e R s m args below meth c T' (locs ++ [⟨a, j.toNatClampNeg⟩]) cells slots ∧ T'.heap = h' ∧ Wr h h' a j.toNatClampNeg (.ref b) ∧ Arv Z h' a k (.object C) z (vs.set i (.ref b)) dv ∧ ∀ target, Steps p.tables e below (T'.setTop { g with pc := g.pc + 1, stack := rest }) target → Steps p.tables e below (T.setTop g) target := by
  obtain ⟨cl, A, q1, S, q3, H, G⟩ := F
  obtain ⟨T', h', X', e', W, st⟩ := stR X hx hZ eT A (inb_of S hj) rfl (Sto.ofV A q1 O I) hg hs hd
  exact ⟨T', h', X', e', W, Arv.set A q1 S q3 H G rfl W i hi hl, st⟩
end Own
end Jvm.RoadKit
namespace Jvm.Pilot.@@N@@
open Jvm Jvm.ClassFile Sem Op Lib Jvm.Free Jvm.Stand Jvm.LawKit Jvm.RoadKit Bundle Jvm.Pilot.@@N@@.Jvm.D
theorem own_eq_int {args : Array Value} {first s : State} {o : Option Outcome} {idx : List Nat} {t : Term} {k : Int32} (h : (Cond.eq t (.int k)).value args first o s idx = some true) : t.eval args first o idx s = some (.int k) := by
  cases ht : t.eval args first o idx s with
  | none => simp [Cond.value, ht] at h
  | some x => cases x <;> simp [Cond.value, Term.eval, ht] at h ⊢; exact h
theorem own_eq_ref {args : Array Value} {first s : State} {o : Option Outcome} {idx : List Nat} {t u : Term} {a : Addr} (hu : u.eval args first o idx s = some (.ref a)) (h : (Cond.eq t u).value args first o s idx = some true) : t.eval args first o idx s = some (.ref a) := by
  cases ht : t.eval args first o idx s with
  | none => simp [Cond.value, ht] at h
  | some x => cases x <;> simp [Cond.value, ht, hu] at h ⊢; exact h
theorem own_arr_start {args : Array Value} {Z : State} {t : Term} {a : Addr} {ty : FieldType} {z : Int32} (ev : t.eval args Z none [] Z = some (.ref a)) (ha : (Cond.arrayOf t ty).value args Z none Z [] = some true) (hl : (Cond.eq (.length t) (.int z)).value args Z none Z [] = some true) : ∃ c, Arr Z Z.heap a c ty ∧ c.slots.size < 2 ^ 31 ∧ c.slots.size.toInt32 = z := by
  obtain ⟨c, A⟩ := Arr.start ev ha
  have hq := own_eq_int hl
  have hc : Z.arrayAt? a = some c := A.fin (Vm.Alike.refl _)
  refine ⟨c, A, ?_⟩
  simp only [Term.eval, ev, hc, Option.bind_eq_bind, Option.bind_some] at hq
  split at hq
  · rename_i hlt
    simp only [Option.pure_def, Option.some.injEq, Value.int.injEq] at hq
    exact ⟨hlt, hq⟩
  · cases hq
theorem own_pn0 : plainName "com/example/quire/quire/document/DocumentKindForMediaTypePinLaw" = true := by first | (simp [plainName, overriddenIn]; done) | decide +kernel
theorem own_pn1 : plainName "com/example/quire/quire/document/DocumentKind" = true := by first | (simp [plainName, overriddenIn]; done) | decide +kernel
theorem own_pd0 : parseMethodDescriptor "()[Lcom/example/quire/quire/document/DocumentKind;" = some ⟨[], some (.array (.object "com/example/quire/quire/document/DocumentKind"))⟩ := by decide +kernel
theorem own_pd1 : parseMethodDescriptor "(I)Lcom/example/quire/quire/pkg/OdfMediaType;" = some ⟨[.int], some (.object "com/example/quire/quire/pkg/OdfMediaType")⟩ := by decide +kernel
theorem own_pd2 : parseMethodDescriptor "(I)Lcom/example/quire/quire/document/DocumentKind;" = some ⟨[.int], some (.object "com/example/quire/quire/document/DocumentKind")⟩ := by decide +kernel
theorem own_pd3 : parseMethodDescriptor "(Lcom/example/quire/quire/pkg/OdfMediaType;)Lcom/example/quire/quire/document/DocumentKind;" = some ⟨[.object "com/example/quire/quire/pkg/OdfMediaType"], some (.object "com/example/quire/quire/document/DocumentKind")⟩ := by decide +kernel
theorem own_dm_0 : decode method_3_code 0 = .ok (.iload_n 0, 1) := by decide +kernel
theorem own_dm_1 : decode method_3_code 1 = .ok (.tableswitch 159 0 17 #[87, 91, 95, 99, 103, 107, 111, 115, 119, 123, 127, 131, 135, 139, 143, 147, 151, 155], 87) := by decide +kernel
theorem own_dm_88 : decode method_3_code 88 = .ok (.getstatic 24, 3) := by decide +kernel
theorem own_dm_91 : decode method_3_code 91 = .ok (.areturn, 1) := by decide +kernel
theorem own_dm_92 : decode method_3_code 92 = .ok (.getstatic 30, 3) := by decide +kernel
theorem own_dm_95 : decode method_3_code 95 = .ok (.areturn, 1) := by decide +kernel
theorem own_dm_96 : decode method_3_code 96 = .ok (.getstatic 33, 3) := by decide +kernel
theorem own_dm_99 : decode method_3_code 99 = .ok (.areturn, 1) := by decide +kernel
theorem own_dm_100 : decode method_3_code 100 = .ok (.getstatic 36, 3) := by decide +kernel
theorem own_dm_103 : decode method_3_code 103 = .ok (.areturn, 1) := by decide +kernel
theorem own_dm_104 : decode method_3_code 104 = .ok (.getstatic 39, 3) := by decide +kernel
theorem own_dm_107 : decode method_3_code 107 = .ok (.areturn, 1) := by decide +kernel
theorem own_dm_108 : decode method_3_code 108 = .ok (.getstatic 42, 3) := by decide +kernel
theorem own_dm_111 : decode method_3_code 111 = .ok (.areturn, 1) := by decide +kernel
theorem own_dm_112 : decode method_3_code 112 = .ok (.getstatic 45, 3) := by decide +kernel
theorem own_dm_115 : decode method_3_code 115 = .ok (.areturn, 1) := by decide +kernel
theorem own_dm_116 : decode method_3_code 116 = .ok (.getstatic 48, 3) := by decide +kernel
theorem own_dm_119 : decode method_3_code 119 = .ok (.areturn, 1) := by decide +kernel
theorem own_dm_120 : decode method_3_code 120 = .ok (.getstatic 51, 3) := by decide +kernel
theorem own_dm_123 : decode method_3_code 123 = .ok (.areturn, 1) := by decide +kernel
theorem own_dm_124 : decode method_3_code 124 = .ok (.getstatic 54, 3) := by decide +kernel
theorem own_dm_127 : decode method_3_code 127 = .ok (.areturn, 1) := by decide +kernel
theorem own_dm_128 : decode method_3_code 128 = .ok (.getstatic 57, 3) := by decide +kernel
theorem own_dm_131 : decode method_3_code 131 = .ok (.areturn, 1) := by decide +kernel
theorem own_dm_132 : decode method_3_code 132 = .ok (.getstatic 60, 3) := by decide +kernel
theorem own_dm_135 : decode method_3_code 135 = .ok (.areturn, 1) := by decide +kernel
theorem own_dm_136 : decode method_3_code 136 = .ok (.getstatic 63, 3) := by decide +kernel
theorem own_dm_139 : decode method_3_code 139 = .ok (.areturn, 1) := by decide +kernel
theorem own_dm_140 : decode method_3_code 140 = .ok (.getstatic 66, 3) := by decide +kernel
theorem own_dm_143 : decode method_3_code 143 = .ok (.areturn, 1) := by decide +kernel
theorem own_dm_144 : decode method_3_code 144 = .ok (.getstatic 69, 3) := by decide +kernel
theorem own_dm_147 : decode method_3_code 147 = .ok (.areturn, 1) := by decide +kernel
theorem own_dm_148 : decode method_3_code 148 = .ok (.getstatic 72, 3) := by decide +kernel
theorem own_dm_151 : decode method_3_code 151 = .ok (.areturn, 1) := by decide +kernel
theorem own_dm_152 : decode method_3_code 152 = .ok (.getstatic 75, 3) := by decide +kernel
theorem own_dm_155 : decode method_3_code 155 = .ok (.areturn, 1) := by decide +kernel
theorem own_dm_156 : decode method_3_code 156 = .ok (.getstatic 78, 3) := by decide +kernel
theorem own_dm_159 : decode method_3_code 159 = .ok (.areturn, 1) := by decide +kernel
theorem own_dm_160 : decode method_3_code 160 = .ok (.aconst_null, 1) := by decide +kernel
theorem own_dm_161 : decode method_3_code 161 = .ok (.areturn, 1) := by decide +kernel
theorem own_de_0 : decode method_4_code 0 = .ok (.iload_n 0, 1) := by decide +kernel
theorem own_de_1 : decode method_4_code 1 = .ok (.ifCond .eq 8, 3) := by decide +kernel
theorem own_de_4 : decode method_4_code 4 = .ok (.iload_n 0, 1) := by decide +kernel
theorem own_de_5 : decode method_4_code 5 = .ok (.iconst 1, 1) := by decide +kernel
theorem own_de_6 : decode method_4_code 6 = .ok (.if_icmp .ne 7, 3) := by decide +kernel
theorem own_de_9 : decode method_4_code 9 = .ok (.getstatic 81, 3) := by decide +kernel
theorem own_de_12 : decode method_4_code 12 = .ok (.areturn, 1) := by decide +kernel
theorem own_de_13 : decode method_4_code 13 = .ok (.iload_n 0, 1) := by decide +kernel
theorem own_de_14 : decode method_4_code 14 = .ok (.iconst 5, 1) := by decide +kernel
theorem own_de_15 : decode method_4_code 15 = .ok (.if_icmp .eq 9, 3) := by decide +kernel
theorem own_de_18 : decode method_4_code 18 = .ok (.iload_n 0, 1) := by decide +kernel
theorem own_de_19 : decode method_4_code 19 = .ok (.bipush 6, 2) := by decide +kernel
theorem own_de_21 : decode method_4_code 21 = .ok (.if_icmp .ne 7, 3) := by decide +kernel
theorem own_de_24 : decode method_4_code 24 = .ok (.getstatic 84, 3) := by decide +kernel
theorem own_de_27 : decode method_4_code 27 = .ok (.areturn, 1) := by decide +kernel
theorem own_de_28 : decode method_4_code 28 = .ok (.iload_n 0, 1) := by decide +kernel
theorem own_de_29 : decode method_4_code 29 = .ok (.bipush 7, 2) := by decide +kernel
theorem own_de_31 : decode method_4_code 31 = .ok (.if_icmp .eq 9, 3) := by decide +kernel
theorem own_de_34 : decode method_4_code 34 = .ok (.iload_n 0, 1) := by decide +kernel
theorem own_de_35 : decode method_4_code 35 = .ok (.bipush 8, 2) := by decide +kernel
theorem own_de_37 : decode method_4_code 37 = .ok (.if_icmp .ne 7, 3) := by decide +kernel
theorem own_de_40 : decode method_4_code 40 = .ok (.getstatic 86, 3) := by decide +kernel
theorem own_de_43 : decode method_4_code 43 = .ok (.areturn, 1) := by decide +kernel
theorem own_de_44 : decode method_4_code 44 = .ok (.iload_n 0, 1) := by decide +kernel
theorem own_de_45 : decode method_4_code 45 = .ok (.bipush 9, 2) := by decide +kernel
theorem own_de_47 : decode method_4_code 47 = .ok (.if_icmp .eq 9, 3) := by decide +kernel
theorem own_de_50 : decode method_4_code 50 = .ok (.iload_n 0, 1) := by decide +kernel
theorem own_de_51 : decode method_4_code 51 = .ok (.bipush 10, 2) := by decide +kernel
theorem own_de_53 : decode method_4_code 53 = .ok (.if_icmp .ne 7, 3) := by decide +kernel
theorem own_de_56 : decode method_4_code 56 = .ok (.getstatic 88, 3) := by decide +kernel
theorem own_de_59 : decode method_4_code 59 = .ok (.areturn, 1) := by decide +kernel
theorem own_de_60 : decode method_4_code 60 = .ok (.aconst_null, 1) := by decide +kernel
theorem own_de_61 : decode method_4_code 61 = .ok (.areturn, 1) := by decide +kernel
theorem own_df_0 : decode prog_3_method_7_code 0 = .ok (.invokestatic 56, 3) := by decide +kernel
theorem own_df_3 : decode prog_3_method_7_code 3 = .ok (.astore_n 1, 1) := by decide +kernel
theorem own_df_4 : decode prog_3_method_7_code 4 = .ok (.aload_n 1, 1) := by decide +kernel
theorem own_df_5 : decode prog_3_method_7_code 5 = .ok (.arraylength, 1) := by decide +kernel
theorem own_df_6 : decode prog_3_method_7_code 6 = .ok (.istore_n 2, 1) := by decide +kernel
theorem own_df_7 : decode prog_3_method_7_code 7 = .ok (.iconst 0, 1) := by decide +kernel
theorem own_df_8 : decode prog_3_method_7_code 8 = .ok (.istore_n 3, 1) := by decide +kernel
theorem own_df_9 : decode prog_3_method_7_code 9 = .ok (.iload_n 3, 1) := by decide +kernel
theorem own_df_10 : decode prog_3_method_7_code 10 = .ok (.iload_n 2, 1) := by decide +kernel
theorem own_df_11 : decode prog_3_method_7_code 11 = .ok (.if_icmp .ge 35, 3) := by decide +kernel
theorem own_df_14 : decode prog_3_method_7_code 14 = .ok (.aload_n 1, 1) := by decide +kernel
theorem own_df_15 : decode prog_3_method_7_code 15 = .ok (.iload_n 3, 1) := by decide +kernel
theorem own_df_16 : decode prog_3_method_7_code 16 = .ok (.aaload, 1) := by decide +kernel
theorem own_df_17 : decode prog_3_method_7_code 17 = .ok (.astore 4, 2) := by decide +kernel
theorem own_df_19 : decode prog_3_method_7_code 19 = .ok (.aload 4, 2) := by decide +kernel
theorem own_df_21 : decode prog_3_method_7_code 21 = .ok (.getfield 35, 3) := by decide +kernel
theorem own_df_24 : decode prog_3_method_7_code 24 = .ok (.aload_n 0, 1) := by decide +kernel
theorem own_df_25 : decode prog_3_method_7_code 25 = .ok (.if_acmp .eq 12, 3) := by decide +kernel
theorem own_df_28 : decode prog_3_method_7_code 28 = .ok (.aload 4, 2) := by decide +kernel
theorem own_df_30 : decode prog_3_method_7_code 30 = .ok (.getfield 39, 3) := by decide +kernel
theorem own_df_33 : decode prog_3_method_7_code 33 = .ok (.aload_n 0, 1) := by decide +kernel
theorem own_df_34 : decode prog_3_method_7_code 34 = .ok (.if_acmp .ne 6, 3) := by decide +kernel
theorem own_df_37 : decode prog_3_method_7_code 37 = .ok (.aload 4, 2) := by decide +kernel
theorem own_df_39 : decode prog_3_method_7_code 39 = .ok (.areturn, 1) := by decide +kernel
theorem own_df_40 : decode prog_3_method_7_code 40 = .ok (.iinc 3 1, 3) := by decide +kernel
theorem own_df_43 : decode prog_3_method_7_code 43 = .ok (.goto (-34), 3) := by decide +kernel
theorem own_df_46 : decode prog_3_method_7_code 46 = .ok (.aconst_null, 1) := by decide +kernel
theorem own_df_47 : decode prog_3_method_7_code 47 = .ok (.areturn, 1) := by decide +kernel
theorem own_dv_0 : decode prog_3_method_1_code 0 = .ok (.getstatic 16, 3) := by decide +kernel
theorem own_dv_3 : decode prog_3_method_1_code 3 = .ok (.invokevirtual 20, 3) := by decide +kernel
theorem own_dv_6 : decode prog_3_method_1_code 6 = .ok (.checkcast 21, 3) := by decide +kernel
theorem own_dv_9 : decode prog_3_method_1_code 9 = .ok (.areturn, 1) := by decide +kernel
def own_media (w_OTEXT w_OTEXT_TEMPLATE w_OTEXT_MASTER w_OTEXT_MASTER_TEMPLATE w_OTEXT_WEB w_OSPREADSHEET w_OSPREADSHEET_TEMPLATE w_OPRESENTATION w_OPRESENTATION_TEMPLATE w_OGRAPHICS w_OGRAPHICS_TEMPLATE w_OCHART w_OCHART_TEMPLATE w_OIMAGE w_OIMAGE_TEMPLATE w_OFORMULA w_OFORMULA_TEMPLATE w_OBASE : Addr) (i : Int32) : Value := if i = 0 then .ref w_OTEXT else if i = 1 then .ref w_OTEXT_TEMPLATE else if i = 2 then .ref w_OTEXT_MASTER else if i = 3 then .ref w_OTEXT_MASTER_TEMPLATE else if i = 4 then .ref w_OTEXT_WEB else if i = 5 then .ref w_OSPREADSHEET else if i = 6 then .ref w_OSPREADSHEET_TEMPLATE else if i = 7 then .ref w_OPRESENTATION else if i = 8 then .ref w_OPRESENTATION_TEMPLATE else if i = 9 then .ref w_OGRAPHICS else if i = 10 then .ref w_OGRAPHICS_TEMPLATE else if i = 11 then .ref w_OCHART else if i = 12 then .ref w_OCHART_TEMPLATE else if i = 13 then .ref w_OIMAGE else if i = 14 then .ref w_OIMAGE_TEMPLATE else if i = 15 then .ref w_OFORMULA else if i = 16 then .ref w_OFORMULA_TEMPLATE else if i = 17 then .ref w_OBASE else .null
def own_exp (w_DTEXT w_DSPREADSHEET w_DPRESENTATION w_DDRAWING : Addr) (i : Int32) : Value := if i = 0 ∨ i = 1 then .ref w_DTEXT else if i = 5 ∨ i = 6 then .ref w_DSPREADSHEET else if i = 7 ∨ i = 8 then .ref w_DPRESENTATION else if i = 9 ∨ i = 10 then .ref w_DDRAWING else .null
def own_for (w_OTEXT w_OTEXT_TEMPLATE w_OSPREADSHEET w_OSPREADSHEET_TEMPLATE w_OPRESENTATION w_OPRESENTATION_TEMPLATE w_OGRAPHICS w_OGRAPHICS_TEMPLATE w_DTEXT w_DSPREADSHEET w_DPRESENTATION w_DDRAWING : Addr) (m : Value) : Value := if Value.ref w_OTEXT = m then .ref w_DTEXT else if Value.ref w_OTEXT_TEMPLATE = m then .ref w_DTEXT else if Value.ref w_OSPREADSHEET = m then .ref w_DSPREADSHEET else if Value.ref w_OSPREADSHEET_TEMPLATE = m then .ref w_DSPREADSHEET else if Value.ref w_OPRESENTATION = m then .ref w_DPRESENTATION else if Value.ref w_OPRESENTATION_TEMPLATE = m then .ref w_DPRESENTATION else if Value.ref w_OGRAPHICS = m then .ref w_DDRAWING else if Value.ref w_OGRAPHICS_TEMPLATE = m then .ref w_DDRAWING else .null
theorem own_ite_ref {P : Prop} [Decidable P] {a b : Value} (ha : a.isRef = true) (hb : b.isRef = true) : (if P then a else b).isRef = true := by split <;> assumption
theorem own_media_ref (w_OTEXT w_OTEXT_TEMPLATE w_OTEXT_MASTER w_OTEXT_MASTER_TEMPLATE w_OTEXT_WEB w_OSPREADSHEET w_OSPREADSHEET_TEMPLATE w_OPRESENTATION w_OPRESENTATION_TEMPLATE w_OGRAPHICS w_OGRAPHICS_TEMPLATE w_OCHART w_OCHART_TEMPLATE w_OIMAGE w_OIMAGE_TEMPLATE w_OFORMULA w_OFORMULA_TEMPLATE w_OBASE : Addr) (i : Int32) : (own_media w_OTEXT w_OTEXT_TEMPLATE w_OTEXT_MASTER w_OTEXT_MASTER_TEMPLATE w_OTEXT_WEB w_OSPREADSHEET w_OSPREADSHEET_TEMPLATE w_OPRESENTATION w_OPRESENTATION_TEMPLATE w_OGRAPHICS w_OGRAPHICS_TEMPLATE w_OCHART w_OCHART_TEMPLATE w_OIMAGE w_OIMAGE_TEMPLATE w_OFORMULA w_OFORMULA_TEMPLATE w_OBASE i).isRef = true := (own_ite_ref rfl (own_ite_ref rfl (own_ite_ref rfl (own_ite_ref rfl (own_ite_ref rfl (own_ite_ref rfl (own_ite_ref rfl (own_ite_ref rfl (own_ite_ref rfl (own_ite_ref rfl (own_ite_ref rfl (own_ite_ref rfl (own_ite_ref rfl (own_ite_ref rfl (own_ite_ref rfl (own_ite_ref rfl (own_ite_ref rfl (own_ite_ref rfl rfl))))))))))))))))))
theorem own_exp_ref (w_DTEXT w_DSPREADSHEET w_DPRESENTATION w_DDRAWING : Addr) (i : Int32) : (own_exp w_DTEXT w_DSPREADSHEET w_DPRESENTATION w_DDRAWING i).isRef = true := (own_ite_ref rfl (own_ite_ref rfl (own_ite_ref rfl (own_ite_ref rfl rfl))))
theorem own_for_ref (w_OTEXT w_OTEXT_TEMPLATE w_OSPREADSHEET w_OSPREADSHEET_TEMPLATE w_OPRESENTATION w_OPRESENTATION_TEMPLATE w_OGRAPHICS w_OGRAPHICS_TEMPLATE w_DTEXT w_DSPREADSHEET w_DPRESENTATION w_DDRAWING : Addr) (m : Value) : (own_for w_OTEXT w_OTEXT_TEMPLATE w_OSPREADSHEET w_OSPREADSHEET_TEMPLATE w_OPRESENTATION w_OPRESENTATION_TEMPLATE w_OGRAPHICS w_OGRAPHICS_TEMPLATE w_DTEXT w_DSPREADSHEET w_DPRESENTATION w_DDRAWING m).isRef = true := (own_ite_ref rfl (own_ite_ref rfl (own_ite_ref rfl (own_ite_ref rfl (own_ite_ref rfl (own_ite_ref rfl (own_ite_ref rfl (own_ite_ref rfl rfl))))))))
theorem own_ef_media (m : MethodId) (x0 : Int32) : entryFrame m #[(.int x0)] 1 = mkF m 0 #[.val (.int x0)] [] := by first | (simp [entryFrame, mkF, argsToLocals, Value.category]; done) | rfl
def own_Q_media (Z : State) (i : Int32) (w_OTEXT : Addr) (w_OTEXT_TEMPLATE : Addr) (w_OTEXT_MASTER : Addr) (w_OTEXT_MASTER_TEMPLATE : Addr) (w_OTEXT_WEB : Addr) (w_OSPREADSHEET : Addr) (w_OSPREADSHEET_TEMPLATE : Addr) (w_OPRESENTATION : Addr) (w_OPRESENTATION_TEMPLATE : Addr) (w_OGRAPHICS : Addr) (w_OGRAPHICS_TEMPLATE : Addr) (w_OCHART : Addr) (w_OCHART_TEMPLATE : Addr) (w_OIMAGE : Addr) (w_OIMAGE_TEMPLATE : Addr) (w_OFORMULA : Addr) (w_OFORMULA_TEMPLATE : Addr) (w_OBASE : Addr) (h0 : Heap) (n0 : Nat) (v : Option Value) (h : Heap) (L : List Loc) : Prop := v = some (own_media w_OTEXT w_OTEXT_TEMPLATE w_OTEXT_MASTER w_OTEXT_MASTER_TEMPLATE w_OTEXT_WEB w_OSPREADSHEET w_OSPREADSHEET_TEMPLATE w_OPRESENTATION w_OPRESENTATION_TEMPLATE w_OGRAPHICS w_OGRAPHICS_TEMPLATE w_OCHART w_OCHART_TEMPLATE w_OIMAGE w_OIMAGE_TEMPLATE w_OFORMULA w_OFORMULA_TEMPLATE w_OBASE i) ∧ Fr n0 L ∧ h = h0
set_option maxRecDepth 65536 in
set_option maxHeartbeats 40000000 in
theorem own_rm_media (l : Launch) (Z : State) (a0 : Array Value) (hw : ∀ d ∈ tables_1, d.before a0 Z = true) (ws : List Jvm.Cond) (i : Int32) (w_OTEXT : Addr) (w_OTEXT_TEMPLATE : Addr) (w_OTEXT_MASTER : Addr) (w_OTEXT_MASTER_TEMPLATE : Addr) (w_OTEXT_WEB : Addr) (w_OSPREADSHEET : Addr) (w_OSPREADSHEET_TEMPLATE : Addr) (w_OPRESENTATION : Addr) (w_OPRESENTATION_TEMPLATE : Addr) (w_OGRAPHICS : Addr) (w_OGRAPHICS_TEMPLATE : Addr) (w_OCHART : Addr) (w_OCHART_TEMPLATE : Addr) (w_OIMAGE : Addr) (w_OIMAGE_TEMPLATE : Addr) (w_OFORMULA : Addr) (w_OFORMULA_TEMPLATE : Addr) (w_OBASE : Addr) (h0 : Heap) (n0 : Nat) (Z0 : n0 ≤ h0.size) (S_OTEXT : Sta Z h0 "com/example/quire/quire/pkg/OdfMediaType" "TEXT" "Lcom/example/quire/quire/pkg/OdfMediaType;" (.ref w_OTEXT)) (S_OTEXT_TEMPLATE : Sta Z h0 "com/example/quire/quire/pkg/OdfMediaType" "TEXT_TEMPLATE" "Lcom/example/quire/quire/pkg/OdfMediaType;" (.ref w_OTEXT_TEMPLATE)) (S_OTEXT_MASTER : Sta Z h0 "com/example/quire/quire/pkg/OdfMediaType" "TEXT_MASTER" "Lcom/example/quire/quire/pkg/OdfMediaType;" (.ref w_OTEXT_MASTER)) (S_OTEXT_MASTER_TEMPLATE : Sta Z h0 "com/example/quire/quire/pkg/OdfMediaType" "TEXT_MASTER_TEMPLATE" "Lcom/example/quire/quire/pkg/OdfMediaType;" (.ref w_OTEXT_MASTER_TEMPLATE)) (S_OTEXT_WEB : Sta Z h0 "com/example/quire/quire/pkg/OdfMediaType" "TEXT_WEB" "Lcom/example/quire/quire/pkg/OdfMediaType;" (.ref w_OTEXT_WEB)) (S_OSPREADSHEET : Sta Z h0 "com/example/quire/quire/pkg/OdfMediaType" "SPREADSHEET" "Lcom/example/quire/quire/pkg/OdfMediaType;" (.ref w_OSPREADSHEET)) (S_OSPREADSHEET_TEMPLATE : Sta Z h0 "com/example/quire/quire/pkg/OdfMediaType" "SPREADSHEET_TEMPLATE" "Lcom/example/quire/quire/pkg/OdfMediaType;" (.ref w_OSPREADSHEET_TEMPLATE)) (S_OPRESENTATION : Sta Z h0 "com/example/quire/quire/pkg/OdfMediaType" "PRESENTATION" "Lcom/example/quire/quire/pkg/OdfMediaType;" (.ref w_OPRESENTATION)) (S_OPRESENTATION_TEMPLATE : Sta Z h0 "com/example/quire/quire/pkg/OdfMediaType" "PRESENTATION_TEMPLATE" "Lcom/example/quire/quire/pkg/OdfMediaType;" (.ref w_OPRESENTATION_TEMPLATE)) (S_OGRAPHICS : Sta Z h0 "com/example/quire/quire/pkg/OdfMediaType" "GRAPHICS" "Lcom/example/quire/quire/pkg/OdfMediaType;" (.ref w_OGRAPHICS)) (S_OGRAPHICS_TEMPLATE : Sta Z h0 "com/example/quire/quire/pkg/OdfMediaType" "GRAPHICS_TEMPLATE" "Lcom/example/quire/quire/pkg/OdfMediaType;" (.ref w_OGRAPHICS_TEMPLATE)) (S_OCHART : Sta Z h0 "com/example/quire/quire/pkg/OdfMediaType" "CHART" "Lcom/example/quire/quire/pkg/OdfMediaType;" (.ref w_OCHART)) (S_OCHART_TEMPLATE : Sta Z h0 "com/example/quire/quire/pkg/OdfMediaType" "CHART_TEMPLATE" "Lcom/example/quire/quire/pkg/OdfMediaType;" (.ref w_OCHART_TEMPLATE)) (S_OIMAGE : Sta Z h0 "com/example/quire/quire/pkg/OdfMediaType" "IMAGE" "Lcom/example/quire/quire/pkg/OdfMediaType;" (.ref w_OIMAGE)) (S_OIMAGE_TEMPLATE : Sta Z h0 "com/example/quire/quire/pkg/OdfMediaType" "IMAGE_TEMPLATE" "Lcom/example/quire/quire/pkg/OdfMediaType;" (.ref w_OIMAGE_TEMPLATE)) (S_OFORMULA : Sta Z h0 "com/example/quire/quire/pkg/OdfMediaType" "FORMULA" "Lcom/example/quire/quire/pkg/OdfMediaType;" (.ref w_OFORMULA)) (S_OFORMULA_TEMPLATE : Sta Z h0 "com/example/quire/quire/pkg/OdfMediaType" "FORMULA_TEMPLATE" "Lcom/example/quire/quire/pkg/OdfMediaType;" (.ref w_OFORMULA_TEMPLATE)) (S_OBASE : Sta Z h0 "com/example/quire/quire/pkg/OdfMediaType" "BASE" "Lcom/example/quire/quire/pkg/OdfMediaType;" (.ref w_OBASE)) (hc : i = 0 ∨ i = 1 ∨ i = 2 ∨ i = 3 ∨ i = 4 ∨ i = 5 ∨ i = 6 ∨ i = 7 ∨ i = 8 ∨ i = 9 ∨ i = 10 ∨ i = 11 ∨ i = 12 ∨ i = 13 ∨ i = 14 ∨ i = 15 ∨ i = 16 ∨ i = 17 ∨ i = 18) :
    MetFree l (⟨"com/example/quire/quire/document/DocumentKindForMediaTypePinLaw", "media", "(I)Lcom/example/quire/quire/pkg/OdfMediaType;"⟩ : MethodName) (head1 (Jvm.Cond.code (⟨"com/example/quire/quire/document/DocumentKindForMediaTypePinLaw", "media", "(I)Lcom/example/quire/quire/pkg/OdfMediaType;"⟩ : MethodName) method_3_code 1 (some (.object "com/example/quire/quire/pkg/OdfMediaType")) :: ws) ({ frames := 0, cells := 0, slots := 0, locals := 0 } : Room)) (fun zz U => zz = #[(.int i)] ∧ Z.Warmed39 U.vm ∧ U.heap = h0) (fun _ _ _ _ _ => True) (fun _ U zo U' => ∃ v L, zo = .returned v ∧ own_Q_media Z i w_OTEXT w_OTEXT_TEMPLATE w_OTEXT_MASTER w_OTEXT_MASTER_TEMPLATE w_OTEXT_WEB w_OSPREADSHEET w_OSPREADSHEET_TEMPLATE w_OPRESENTATION w_OPRESENTATION_TEMPLATE w_OGRAPHICS w_OGRAPHICS_TEMPLATE w_OCHART w_OCHART_TEMPLATE w_OIMAGE w_OIMAGE_TEMPLATE w_OFORMULA w_OFORMULA_TEMPLATE w_OBASE h0 n0 v U'.heap L ∧ FrameEnd U zo U' L ({ frames := 0, cells := 0, slots := 0, locals := 0 } : Room).cells ({ frames := 0, cells := 0, slots := 0, locals := 0 } : Room).slots) := by
  refine MetFree.of_bodySF (plainFor_of_name own_pn0) hisR ?_
  intro p e s m args below meth c s₁ Bd hml0 hP hK
  obtain ⟨rfl, hZ, hh⟩ := hP
  have hx := Bd.exec
  have hby := Bd.bytes
  have hml : c.maxLocals = 1 := hml0
  have hown : s.vm.findClass "com/example/quire/quire/document/DocumentKindForMediaTypePinLaw" = some m.cls := findClass_of_methodNamed Bd.named
  have hnm := (name_of_methodNamed Bd.named Bd.method).1
  have X0 : Stand p l e ({ frames := 0, cells := 0, slots := 0, locals := 0 } : Room) s m #[(.int i)] below meth c s₁ [] 0 0 := Stand.of_body Bd
  have e0 : s₁.heap = h0 := by rw [← hh, Bd.state]; rfl
  have N0 := Fr.nil n0
  show own_Go p e below (own_K s (own_Q_media Z i w_OTEXT w_OTEXT_TEMPLATE w_OTEXT_MASTER w_OTEXT_MASTER_TEMPLATE w_OTEXT_WEB w_OSPREADSHEET w_OSPREADSHEET_TEMPLATE w_OPRESENTATION w_OPRESENTATION_TEMPLATE w_OGRAPHICS w_OGRAPHICS_TEMPLATE w_OCHART w_OCHART_TEMPLATE w_OIMAGE w_OIMAGE_TEMPLATE w_OFORMULA w_OFORMULA_TEMPLATE w_OBASE h0 n0) ({ frames := 0, cells := 0, slots := 0, locals := 0 } : Room).cells ({ frames := 0, cells := 0, slots := 0, locals := 0 } : Room).slots) s₁ (entryFrame m #[(.int i)] 1)
  rw [own_ef_media m i]
  show own_Go p e below _ s₁ (mkF m 0 #[iv i] [])
  rcases hc with rfl | rfl | rfl | rfl | rfl | rfl | rfl | rfl | rfl | rfl | rfl | rfl | rfl | rfl | rfl | rfl | rfl | rfl | rfl
  · show own_Go p e below _ s₁ (mkF m 0 #[iv 0] [])
    refine own_st (fun _ k => XS.iloadN X0.here hx rfl (hb hby own_dm_0) rfl k) ?_
    show own_Go p e below _ s₁ (mkF m 1 #[iv 0] [(.int 0)])
    refine own_st (fun _ k => XS.tswIn X0.here hx rfl (pc0 := 1) (pc' := 88) (o := 87) rfl (hb hby own_dm_1) rfl (by decide) (by decide) (by decide) (by decide) k) ?_
    show own_Go p e below _ s₁ (mkF m 88 #[iv 0] [])
    obtain ⟨T1, X1, e1, st1⟩ := getS2 X0 hx hZ hown (host := "") (Or.inl (hw _ (List.mem_of_getElem? (i := 5) rfl))) Via.refl e0 S_OTEXT (g := (mkF m 88 #[iv 0] [])) rfl (hb hby own_dm_88)
    refine own_st st1 ?_
    show own_Go p e below _ T1 (mkF m 91 #[iv 0] [(.ref w_OTEXT)])
    refine own_retA X1 hx Bd.notSynchronized Bd.returns rfl rfl (hb hby own_dm_91) (by decide) (by decide) ?_
    rw [e1]
    exact ⟨by simp [own_media], N0, rfl⟩
  · show own_Go p e below _ s₁ (mkF m 0 #[iv 1] [])
    refine own_st (fun _ k => XS.iloadN X0.here hx rfl (hb hby own_dm_0) rfl k) ?_
    show own_Go p e below _ s₁ (mkF m 1 #[iv 1] [(.int 1)])
    refine own_st (fun _ k => XS.tswIn X0.here hx rfl (pc0 := 1) (pc' := 92) (o := 91) rfl (hb hby own_dm_1) rfl (by decide) (by decide) (by decide) (by decide) k) ?_
    show own_Go p e below _ s₁ (mkF m 92 #[iv 1] [])
    obtain ⟨T3, X3, e3, st3⟩ := getS2 X0 hx hZ hown (host := "") (Or.inl (hw _ (List.mem_of_getElem? (i := 63) rfl))) Via.refl e0 S_OTEXT_TEMPLATE (g := (mkF m 92 #[iv 1] [])) rfl (hb hby own_dm_92)
    refine own_st st3 ?_
    show own_Go p e below _ T3 (mkF m 95 #[iv 1] [(.ref w_OTEXT_TEMPLATE)])
    refine own_retA X3 hx Bd.notSynchronized Bd.returns rfl rfl (hb hby own_dm_95) (by decide) (by decide) ?_
    rw [e3]
    exact ⟨by simp [own_media], N0, rfl⟩
  · show own_Go p e below _ s₁ (mkF m 0 #[iv 2] [])
    refine own_st (fun _ k => XS.iloadN X0.here hx rfl (hb hby own_dm_0) rfl k) ?_
    show own_Go p e below _ s₁ (mkF m 1 #[iv 2] [(.int 2)])
    refine own_st (fun _ k => XS.tswIn X0.here hx rfl (pc0 := 1) (pc' := 96) (o := 95) rfl (hb hby own_dm_1) rfl (by decide) (by decide) (by decide) (by decide) k) ?_
    show own_Go p e below _ s₁ (mkF m 96 #[iv 2] [])
    obtain ⟨T5, X5, e5, st5⟩ := getS2 X0 hx hZ hown (host := "") (Or.inl (hw _ (List.mem_of_getElem? (i := 56) rfl))) Via.refl e0 S_OTEXT_MASTER (g := (mkF m 96 #[iv 2] [])) rfl (hb hby own_dm_96)
    refine own_st st5 ?_
    show own_Go p e below _ T5 (mkF m 99 #[iv 2] [(.ref w_OTEXT_MASTER)])
    refine own_retA X5 hx Bd.notSynchronized Bd.returns rfl rfl (hb hby own_dm_99) (by decide) (by decide) ?_
    rw [e5]
    exact ⟨by simp [own_media], N0, rfl⟩
  · show own_Go p e below _ s₁ (mkF m 0 #[iv 3] [])
    refine own_st (fun _ k => XS.iloadN X0.here hx rfl (hb hby own_dm_0) rfl k) ?_
    show own_Go p e below _ s₁ (mkF m 1 #[iv 3] [(.int 3)])
    refine own_st (fun _ k => XS.tswIn X0.here hx rfl (pc0 := 1) (pc' := 100) (o := 99) rfl (hb hby own_dm_1) rfl (by decide) (by decide) (by decide) (by decide) k) ?_
    show own_Go p e below _ s₁ (mkF m 100 #[iv 3] [])
    obtain ⟨T7, X7, e7, st7⟩ := getS2 X0 hx hZ hown (host := "") (Or.inl (hw _ (List.mem_of_getElem? (i := 37) rfl))) Via.refl e0 S_OTEXT_MASTER_TEMPLATE (g := (mkF m 100 #[iv 3] [])) rfl (hb hby own_dm_100)
    refine own_st st7 ?_
    show own_Go p e below _ T7 (mkF m 103 #[iv 3] [(.ref w_OTEXT_MASTER_TEMPLATE)])
    refine own_retA X7 hx Bd.notSynchronized Bd.returns rfl rfl (hb hby own_dm_103) (by decide) (by decide) ?_
    rw [e7]
    exact ⟨by simp [own_media], N0, rfl⟩
  · show own_Go p e below _ s₁ (mkF m 0 #[iv 4] [])
    refine own_st (fun _ k => XS.iloadN X0.here hx rfl (hb hby own_dm_0) rfl k) ?_
    show own_Go p e below _ s₁ (mkF m 1 #[iv 4] [(.int 4)])
    refine own_st (fun _ k => XS.tswIn X0.here hx rfl (pc0 := 1) (pc' := 104) (o := 103) rfl (hb hby own_dm_1) rfl (by decide) (by decide) (by decide) (by decide) k) ?_
    show own_Go p e below _ s₁ (mkF m 104 #[iv 4] [])
    obtain ⟨T9, X9, e9, st9⟩ := getS2 X0 hx hZ hown (host := "") (Or.inl (hw _ (List.mem_of_getElem? (i := 69) rfl))) Via.refl e0 S_OTEXT_WEB (g := (mkF m 104 #[iv 4] [])) rfl (hb hby own_dm_104)
    refine own_st st9 ?_
    show own_Go p e below _ T9 (mkF m 107 #[iv 4] [(.ref w_OTEXT_WEB)])
    refine own_retA X9 hx Bd.notSynchronized Bd.returns rfl rfl (hb hby own_dm_107) (by decide) (by decide) ?_
    rw [e9]
    exact ⟨by simp [own_media], N0, rfl⟩
  · show own_Go p e below _ s₁ (mkF m 0 #[iv 5] [])
    refine own_st (fun _ k => XS.iloadN X0.here hx rfl (hb hby own_dm_0) rfl k) ?_
    show own_Go p e below _ s₁ (mkF m 1 #[iv 5] [(.int 5)])
    refine own_st (fun _ k => XS.tswIn X0.here hx rfl (pc0 := 1) (pc' := 108) (o := 107) rfl (hb hby own_dm_1) rfl (by decide) (by decide) (by decide) (by decide) k) ?_
    show own_Go p e below _ s₁ (mkF m 108 #[iv 5] [])
    obtain ⟨T11, X11, e11, st11⟩ := getS2 X0 hx hZ hown (host := "") (Or.inl (hw _ (List.mem_of_getElem? (i := 50) rfl))) Via.refl e0 S_OSPREADSHEET (g := (mkF m 108 #[iv 5] [])) rfl (hb hby own_dm_108)
    refine own_st st11 ?_
    show own_Go p e below _ T11 (mkF m 111 #[iv 5] [(.ref w_OSPREADSHEET)])
    refine own_retA X11 hx Bd.notSynchronized Bd.returns rfl rfl (hb hby own_dm_111) (by decide) (by decide) ?_
    rw [e11]
    exact ⟨by simp [own_media], N0, rfl⟩
  · show own_Go p e below _ s₁ (mkF m 0 #[iv 6] [])
    refine own_st (fun _ k => XS.iloadN X0.here hx rfl (hb hby own_dm_0) rfl k) ?_
    show own_Go p e below _ s₁ (mkF m 1 #[iv 6] [(.int 6)])
    refine own_st (fun _ k => XS.tswIn X0.here hx rfl (pc0 := 1) (pc' := 112) (o := 111) rfl (hb hby own_dm_1) rfl (by decide) (by decide) (by decide) (by decide) k) ?_
    show own_Go p e below _ s₁ (mkF m 112 #[iv 6] [])
    obtain ⟨T13, X13, e13, st13⟩ := getS2 X0 hx hZ hown (host := "") (Or.inl (hw _ (List.mem_of_getElem? (i := 66) rfl))) Via.refl e0 S_OSPREADSHEET_TEMPLATE (g := (mkF m 112 #[iv 6] [])) rfl (hb hby own_dm_112)
    refine own_st st13 ?_
    show own_Go p e below _ T13 (mkF m 115 #[iv 6] [(.ref w_OSPREADSHEET_TEMPLATE)])
    refine own_retA X13 hx Bd.notSynchronized Bd.returns rfl rfl (hb hby own_dm_115) (by decide) (by decide) ?_
    rw [e13]
    exact ⟨by simp [own_media], N0, rfl⟩
  · show own_Go p e below _ s₁ (mkF m 0 #[iv 7] [])
    refine own_st (fun _ k => XS.iloadN X0.here hx rfl (hb hby own_dm_0) rfl k) ?_
    show own_Go p e below _ s₁ (mkF m 1 #[iv 7] [(.int 7)])
    refine own_st (fun _ k => XS.tswIn X0.here hx rfl (pc0 := 1) (pc' := 116) (o := 115) rfl (hb hby own_dm_1) rfl (by decide) (by decide) (by decide) (by decide) k) ?_
    show own_Go p e below _ s₁ (mkF m 116 #[iv 7] [])
    obtain ⟨T15, X15, e15, st15⟩ := getS2 X0 hx hZ hown (host := "") (Or.inl (hw _ (List.mem_of_getElem? (i := 54) rfl))) Via.refl e0 S_OPRESENTATION (g := (mkF m 116 #[iv 7] [])) rfl (hb hby own_dm_116)
    refine own_st st15 ?_
    show own_Go p e below _ T15 (mkF m 119 #[iv 7] [(.ref w_OPRESENTATION)])
    refine own_retA X15 hx Bd.notSynchronized Bd.returns rfl rfl (hb hby own_dm_119) (by decide) (by decide) ?_
    rw [e15]
    exact ⟨by simp [own_media], N0, rfl⟩
  · show own_Go p e below _ s₁ (mkF m 0 #[iv 8] [])
    refine own_st (fun _ k => XS.iloadN X0.here hx rfl (hb hby own_dm_0) rfl k) ?_
    show own_Go p e below _ s₁ (mkF m 1 #[iv 8] [(.int 8)])
    refine own_st (fun _ k => XS.tswIn X0.here hx rfl (pc0 := 1) (pc' := 120) (o := 119) rfl (hb hby own_dm_1) rfl (by decide) (by decide) (by decide) (by decide) k) ?_
    show own_Go p e below _ s₁ (mkF m 120 #[iv 8] [])
    obtain ⟨T17, X17, e17, st17⟩ := getS2 X0 hx hZ hown (host := "") (Or.inl (hw _ (List.mem_of_getElem? (i := 62) rfl))) Via.refl e0 S_OPRESENTATION_TEMPLATE (g := (mkF m 120 #[iv 8] [])) rfl (hb hby own_dm_120)
    refine own_st st17 ?_
    show own_Go p e below _ T17 (mkF m 123 #[iv 8] [(.ref w_OPRESENTATION_TEMPLATE)])
    refine own_retA X17 hx Bd.notSynchronized Bd.returns rfl rfl (hb hby own_dm_123) (by decide) (by decide) ?_
    rw [e17]
    exact ⟨by simp [own_media], N0, rfl⟩
  · show own_Go p e below _ s₁ (mkF m 0 #[iv 9] [])
    refine own_st (fun _ k => XS.iloadN X0.here hx rfl (hb hby own_dm_0) rfl k) ?_
    show own_Go p e below _ s₁ (mkF m 1 #[iv 9] [(.int 9)])
    refine own_st (fun _ k => XS.tswIn X0.here hx rfl (pc0 := 1) (pc' := 124) (o := 123) rfl (hb hby own_dm_1) rfl (by decide) (by decide) (by decide) (by decide) k) ?_
    show own_Go p e below _ s₁ (mkF m 124 #[iv 9] [])
    obtain ⟨T19, X19, e19, st19⟩ := getS2 X0 hx hZ hown (host := "") (Or.inl (hw _ (List.mem_of_getElem? (i := 71) rfl))) Via.refl e0 S_OGRAPHICS (g := (mkF m 124 #[iv 9] [])) rfl (hb hby own_dm_124)
    refine own_st st19 ?_
    show own_Go p e below _ T19 (mkF m 127 #[iv 9] [(.ref w_OGRAPHICS)])
    refine own_retA X19 hx Bd.notSynchronized Bd.returns rfl rfl (hb hby own_dm_127) (by decide) (by decide) ?_
    rw [e19]
    exact ⟨by simp [own_media], N0, rfl⟩
  · show own_Go p e below _ s₁ (mkF m 0 #[iv 10] [])
    refine own_st (fun _ k => XS.iloadN X0.here hx rfl (hb hby own_dm_0) rfl k) ?_
    show own_Go p e below _ s₁ (mkF m 1 #[iv 10] [(.int 10)])
    refine own_st (fun _ k => XS.tswIn X0.here hx rfl (pc0 := 1) (pc' := 128) (o := 127) rfl (hb hby own_dm_1) rfl (by decide) (by decide) (by decide) (by decide) k) ?_
    show own_Go p e below _ s₁ (mkF m 128 #[iv 10] [])
    obtain ⟨T21, X21, e21, st21⟩ := getS2 X0 hx hZ hown (host := "") (Or.inl (hw _ (List.mem_of_getElem? (i := 60) rfl))) Via.refl e0 S_OGRAPHICS_TEMPLATE (g := (mkF m 128 #[iv 10] [])) rfl (hb hby own_dm_128)
    refine own_st st21 ?_
    show own_Go p e below _ T21 (mkF m 131 #[iv 10] [(.ref w_OGRAPHICS_TEMPLATE)])
    refine own_retA X21 hx Bd.notSynchronized Bd.returns rfl rfl (hb hby own_dm_131) (by decide) (by decide) ?_
    rw [e21]
    exact ⟨by simp [own_media], N0, rfl⟩
  · show own_Go p e below _ s₁ (mkF m 0 #[iv 11] [])
    refine own_st (fun _ k => XS.iloadN X0.here hx rfl (hb hby own_dm_0) rfl k) ?_
    show own_Go p e below _ s₁ (mkF m 1 #[iv 11] [(.int 11)])
    refine own_st (fun _ k => XS.tswIn X0.here hx rfl (pc0 := 1) (pc' := 132) (o := 131) rfl (hb hby own_dm_1) rfl (by decide) (by decide) (by decide) (by decide) k) ?_
    show own_Go p e below _ s₁ (mkF m 132 #[iv 11] [])
    obtain ⟨T23, X23, e23, st23⟩ := getS2 X0 hx hZ hown (host := "") (Or.inl (hw _ (List.mem_of_getElem? (i := 58) rfl))) Via.refl e0 S_OCHART (g := (mkF m 132 #[iv 11] [])) rfl (hb hby own_dm_132)
    refine own_st st23 ?_
    show own_Go p e below _ T23 (mkF m 135 #[iv 11] [(.ref w_OCHART)])
    refine own_retA X23 hx Bd.notSynchronized Bd.returns rfl rfl (hb hby own_dm_135) (by decide) (by decide) ?_
    rw [e23]
    exact ⟨by simp [own_media], N0, rfl⟩
  · show own_Go p e below _ s₁ (mkF m 0 #[iv 12] [])
    refine own_st (fun _ k => XS.iloadN X0.here hx rfl (hb hby own_dm_0) rfl k) ?_
    show own_Go p e below _ s₁ (mkF m 1 #[iv 12] [(.int 12)])
    refine own_st (fun _ k => XS.tswIn X0.here hx rfl (pc0 := 1) (pc' := 136) (o := 135) rfl (hb hby own_dm_1) rfl (by decide) (by decide) (by decide) (by decide) k) ?_
    show own_Go p e below _ s₁ (mkF m 136 #[iv 12] [])
    obtain ⟨T25, X25, e25, st25⟩ := getS2 X0 hx hZ hown (host := "") (Or.inl (hw _ (List.mem_of_getElem? (i := 72) rfl))) Via.refl e0 S_OCHART_TEMPLATE (g := (mkF m 136 #[iv 12] [])) rfl (hb hby own_dm_136)
    refine own_st st25 ?_
    show own_Go p e below _ T25 (mkF m 139 #[iv 12] [(.ref w_OCHART_TEMPLATE)])
    refine own_retA X25 hx Bd.notSynchronized Bd.returns rfl rfl (hb hby own_dm_139) (by decide) (by decide) ?_
    rw [e25]
    exact ⟨by simp [own_media], N0, rfl⟩
  · show own_Go p e below _ s₁ (mkF m 0 #[iv 13] [])
    refine own_st (fun _ k => XS.iloadN X0.here hx rfl (hb hby own_dm_0) rfl k) ?_
    show own_Go p e below _ s₁ (mkF m 1 #[iv 13] [(.int 13)])
    refine own_st (fun _ k => XS.tswIn X0.here hx rfl (pc0 := 1) (pc' := 140) (o := 139) rfl (hb hby own_dm_1) rfl (by decide) (by decide) (by decide) (by decide) k) ?_
    show own_Go p e below _ s₁ (mkF m 140 #[iv 13] [])
    obtain ⟨T27, X27, e27, st27⟩ := getS2 X0 hx hZ hown (host := "") (Or.inl (hw _ (List.mem_of_getElem? (i := 74) rfl))) Via.refl e0 S_OIMAGE (g := (mkF m 140 #[iv 13] [])) rfl (hb hby own_dm_140)
    refine own_st st27 ?_
    show own_Go p e below _ T27 (mkF m 143 #[iv 13] [(.ref w_OIMAGE)])
    refine own_retA X27 hx Bd.notSynchronized Bd.returns rfl rfl (hb hby own_dm_143) (by decide) (by decide) ?_
    rw [e27]
    exact ⟨by simp [own_media], N0, rfl⟩
  · show own_Go p e below _ s₁ (mkF m 0 #[iv 14] [])
    refine own_st (fun _ k => XS.iloadN X0.here hx rfl (hb hby own_dm_0) rfl k) ?_
    show own_Go p e below _ s₁ (mkF m 1 #[iv 14] [(.int 14)])
    refine own_st (fun _ k => XS.tswIn X0.here hx rfl (pc0 := 1) (pc' := 144) (o := 143) rfl (hb hby own_dm_1) rfl (by decide) (by decide) (by decide) (by decide) k) ?_
    show own_Go p e below _ s₁ (mkF m 144 #[iv 14] [])
    obtain ⟨T29, X29, e29, st29⟩ := getS2 X0 hx hZ hown (host := "") (Or.inl (hw _ (List.mem_of_getElem? (i := 64) rfl))) Via.refl e0 S_OIMAGE_TEMPLATE (g := (mkF m 144 #[iv 14] [])) rfl (hb hby own_dm_144)
    refine own_st st29 ?_
    show own_Go p e below _ T29 (mkF m 147 #[iv 14] [(.ref w_OIMAGE_TEMPLATE)])
    refine own_retA X29 hx Bd.notSynchronized Bd.returns rfl rfl (hb hby own_dm_147) (by decide) (by decide) ?_
    rw [e29]
    exact ⟨by simp [own_media], N0, rfl⟩
  · show own_Go p e below _ s₁ (mkF m 0 #[iv 15] [])
    refine own_st (fun _ k => XS.iloadN X0.here hx rfl (hb hby own_dm_0) rfl k) ?_
    show own_Go p e below _ s₁ (mkF m 1 #[iv 15] [(.int 15)])
    refine own_st (fun _ k => XS.tswIn X0.here hx rfl (pc0 := 1) (pc' := 148) (o := 147) rfl (hb hby own_dm_1) rfl (by decide) (by decide) (by decide) (by decide) k) ?_
    show own_Go p e below _ s₁ (mkF m 148 #[iv 15] [])
    obtain ⟨T31, X31, e31, st31⟩ := getS2 X0 hx hZ hown (host := "") (Or.inl (hw _ (List.mem_of_getElem? (i := 48) rfl))) Via.refl e0 S_OFORMULA (g := (mkF m 148 #[iv 15] [])) rfl (hb hby own_dm_148)
    refine own_st st31 ?_
    show own_Go p e below _ T31 (mkF m 151 #[iv 15] [(.ref w_OFORMULA)])
    refine own_retA X31 hx Bd.notSynchronized Bd.returns rfl rfl (hb hby own_dm_151) (by decide) (by decide) ?_
    rw [e31]
    exact ⟨by simp [own_media], N0, rfl⟩
  · show own_Go p e below _ s₁ (mkF m 0 #[iv 16] [])
    refine own_st (fun _ k => XS.iloadN X0.here hx rfl (hb hby own_dm_0) rfl k) ?_
    show own_Go p e below _ s₁ (mkF m 1 #[iv 16] [(.int 16)])
    refine own_st (fun _ k => XS.tswIn X0.here hx rfl (pc0 := 1) (pc' := 152) (o := 151) rfl (hb hby own_dm_1) rfl (by decide) (by decide) (by decide) (by decide) k) ?_
    show own_Go p e below _ s₁ (mkF m 152 #[iv 16] [])
    obtain ⟨T33, X33, e33, st33⟩ := getS2 X0 hx hZ hown (host := "") (Or.inl (hw _ (List.mem_of_getElem? (i := 67) rfl))) Via.refl e0 S_OFORMULA_TEMPLATE (g := (mkF m 152 #[iv 16] [])) rfl (hb hby own_dm_152)
    refine own_st st33 ?_
    show own_Go p e below _ T33 (mkF m 155 #[iv 16] [(.ref w_OFORMULA_TEMPLATE)])
    refine own_retA X33 hx Bd.notSynchronized Bd.returns rfl rfl (hb hby own_dm_155) (by decide) (by decide) ?_
    rw [e33]
    exact ⟨by simp [own_media], N0, rfl⟩
  · show own_Go p e below _ s₁ (mkF m 0 #[iv 17] [])
    refine own_st (fun _ k => XS.iloadN X0.here hx rfl (hb hby own_dm_0) rfl k) ?_
    show own_Go p e below _ s₁ (mkF m 1 #[iv 17] [(.int 17)])
    refine own_st (fun _ k => XS.tswIn X0.here hx rfl (pc0 := 1) (pc' := 156) (o := 155) rfl (hb hby own_dm_1) rfl (by decide) (by decide) (by decide) (by decide) k) ?_
    show own_Go p e below _ s₁ (mkF m 156 #[iv 17] [])
    obtain ⟨T35, X35, e35, st35⟩ := getS2 X0 hx hZ hown (host := "") (Or.inl (hw _ (List.mem_of_getElem? (i := 52) rfl))) Via.refl e0 S_OBASE (g := (mkF m 156 #[iv 17] [])) rfl (hb hby own_dm_156)
    refine own_st st35 ?_
    show own_Go p e below _ T35 (mkF m 159 #[iv 17] [(.ref w_OBASE)])
    refine own_retA X35 hx Bd.notSynchronized Bd.returns rfl rfl (hb hby own_dm_159) (by decide) (by decide) ?_
    rw [e35]
    exact ⟨by simp [own_media], N0, rfl⟩
  · show own_Go p e below _ s₁ (mkF m 0 #[iv 18] [])
    refine own_st (fun _ k => XS.iloadN X0.here hx rfl (hb hby own_dm_0) rfl k) ?_
    show own_Go p e below _ s₁ (mkF m 1 #[iv 18] [(.int 18)])
    refine own_st (fun _ k => XS.tswOut X0.here hx rfl (pc0 := 1) (pc' := 160) rfl (hb hby own_dm_1) rfl (by decide) (by decide) (by decide) k) ?_
    show own_Go p e below _ s₁ (mkF m 160 #[iv 18] [])
    refine own_st (fun _ k => XS.aconstNull X0.here hx rfl (hb hby own_dm_160) k) ?_
    show own_Go p e below _ s₁ (mkF m 161 #[iv 18] [.null])
    refine own_retA X0 hx Bd.notSynchronized Bd.returns rfl rfl (hb hby own_dm_161) (by decide) (by decide) ?_
    rw [e0]
    exact ⟨by simp [own_media], N0, rfl⟩
theorem own_ef_exp (m : MethodId) (x0 : Int32) : entryFrame m #[(.int x0)] 1 = mkF m 0 #[.val (.int x0)] [] := by first | (simp [entryFrame, mkF, argsToLocals, Value.category]; done) | rfl
def own_Q_exp (Z : State) (i : Int32) (w_DTEXT : Addr) (w_DSPREADSHEET : Addr) (w_DPRESENTATION : Addr) (w_DDRAWING : Addr) (h0 : Heap) (n0 : Nat) (v : Option Value) (h : Heap) (L : List Loc) : Prop := v = some (own_exp w_DTEXT w_DSPREADSHEET w_DPRESENTATION w_DDRAWING i) ∧ Fr n0 L ∧ h = h0
set_option maxRecDepth 65536 in
set_option maxHeartbeats 40000000 in
theorem own_rm_exp (l : Launch) (Z : State) (a0 : Array Value) (hw : ∀ d ∈ tables_1, d.before a0 Z = true) (ws : List Jvm.Cond) (i : Int32) (w_DTEXT : Addr) (w_DSPREADSHEET : Addr) (w_DPRESENTATION : Addr) (w_DDRAWING : Addr) (h0 : Heap) (n0 : Nat) (Z0 : n0 ≤ h0.size) (S_DTEXT : Sta Z h0 "com/example/quire/quire/document/DocumentKind" "TEXT" "Lcom/example/quire/quire/document/DocumentKind;" (.ref w_DTEXT)) (S_DSPREADSHEET : Sta Z h0 "com/example/quire/quire/document/DocumentKind" "SPREADSHEET" "Lcom/example/quire/quire/document/DocumentKind;" (.ref w_DSPREADSHEET)) (S_DPRESENTATION : Sta Z h0 "com/example/quire/quire/document/DocumentKind" "PRESENTATION" "Lcom/example/quire/quire/document/DocumentKind;" (.ref w_DPRESENTATION)) (S_DDRAWING : Sta Z h0 "com/example/quire/quire/document/DocumentKind" "DRAWING" "Lcom/example/quire/quire/document/DocumentKind;" (.ref w_DDRAWING)) :
    MetFree l (⟨"com/example/quire/quire/document/DocumentKindForMediaTypePinLaw", "expected", "(I)Lcom/example/quire/quire/document/DocumentKind;"⟩ : MethodName) (head1 (Jvm.Cond.code (⟨"com/example/quire/quire/document/DocumentKindForMediaTypePinLaw", "expected", "(I)Lcom/example/quire/quire/document/DocumentKind;"⟩ : MethodName) method_4_code 1 (some (.object "com/example/quire/quire/document/DocumentKind")) :: ws) ({ frames := 0, cells := 0, slots := 0, locals := 0 } : Room)) (fun zz U => zz = #[(.int i)] ∧ Z.Warmed39 U.vm ∧ U.heap = h0) (fun _ _ _ _ _ => True) (fun _ U zo U' => ∃ v L, zo = .returned v ∧ own_Q_exp Z i w_DTEXT w_DSPREADSHEET w_DPRESENTATION w_DDRAWING h0 n0 v U'.heap L ∧ FrameEnd U zo U' L ({ frames := 0, cells := 0, slots := 0, locals := 0 } : Room).cells ({ frames := 0, cells := 0, slots := 0, locals := 0 } : Room).slots) := by
  refine MetFree.of_bodySF (plainFor_of_name own_pn0) hisR ?_
  intro p e s m args below meth c s₁ Bd hml0 hP hK
  obtain ⟨rfl, hZ, hh⟩ := hP
  have hx := Bd.exec
  have hby := Bd.bytes
  have hml : c.maxLocals = 1 := hml0
  have hown : s.vm.findClass "com/example/quire/quire/document/DocumentKindForMediaTypePinLaw" = some m.cls := findClass_of_methodNamed Bd.named
  have hnm := (name_of_methodNamed Bd.named Bd.method).1
  have X0 : Stand p l e ({ frames := 0, cells := 0, slots := 0, locals := 0 } : Room) s m #[(.int i)] below meth c s₁ [] 0 0 := Stand.of_body Bd
  have e0 : s₁.heap = h0 := by rw [← hh, Bd.state]; rfl
  have N0 := Fr.nil n0
  show own_Go p e below (own_K s (own_Q_exp Z i w_DTEXT w_DSPREADSHEET w_DPRESENTATION w_DDRAWING h0 n0) ({ frames := 0, cells := 0, slots := 0, locals := 0 } : Room).cells ({ frames := 0, cells := 0, slots := 0, locals := 0 } : Room).slots) s₁ (entryFrame m #[(.int i)] 1)
  rw [own_ef_exp m i]
  show own_Go p e below _ s₁ (mkF m 0 #[iv i] [])
  refine own_st (fun _ k => XS.iloadN X0.here hx rfl (hb hby own_de_0) rfl k) ?_
  show own_Go p e below _ s₁ (mkF m 1 #[iv i] [(.int i)])
  by_cases c0 : i = 0
  · refine own_st (fun _ k => XS.ifYes X0.here hx rfl (pc0 := 1) (pc' := 9) rfl (hb hby own_de_1) rfl (XT.i0_eq_t c0) (by decide) (by decide) k) ?_
    show own_Go p e below _ s₁ (mkF m 9 #[iv i] [])
    obtain ⟨T1, X1, e1, st1⟩ := getS2 X0 hx hZ hown (host := "") (Or.inl (hw _ (List.mem_of_getElem? (i := 11) rfl))) Via.refl e0 S_DTEXT (g := (mkF m 9 #[iv i] [])) rfl (hb hby own_de_9)
    refine own_st st1 ?_
    show own_Go p e below _ T1 (mkF m 12 #[iv i] [(.ref w_DTEXT)])
    refine own_retA X1 hx Bd.notSynchronized Bd.returns rfl rfl (hb hby own_de_12) (by decide) (by decide) ?_
    rw [e1]
    exact ⟨by simp [own_exp, c0], N0, rfl⟩
  · refine own_st (fun _ k => XS.ifNo X0.here hx rfl (hb hby own_de_1) rfl (XT.i0_eq_f c0) k) ?_
    show own_Go p e below _ s₁ (mkF m 4 #[iv i] [])
    refine own_st (fun _ k => XS.iloadN X0.here hx rfl (hb hby own_de_4) rfl k) ?_
    show own_Go p e below _ s₁ (mkF m 5 #[iv i] [(.int i)])
    refine own_st (fun _ k => XT.iconstV X0.here hx rfl (1 : Int32) (hb hby own_de_5) (by decide) k) ?_
    show own_Go p e below _ s₁ (mkF m 6 #[iv i] [(.int 1), (.int i)])
    by_cases c1 : i = (1 : Int32)
    · refine own_st (fun _ k => XS.icmpNo X0.here hx rfl (hb hby own_de_6) rfl (XT.ii_ne_f c1) k) ?_
      show own_Go p e below _ s₁ (mkF m 9 #[iv i] [])
      obtain ⟨T3, X3, e3, st3⟩ := getS2 X0 hx hZ hown (host := "") (Or.inl (hw _ (List.mem_of_getElem? (i := 11) rfl))) Via.refl e0 S_DTEXT (g := (mkF m 9 #[iv i] [])) rfl (hb hby own_de_9)
      refine own_st st3 ?_
      show own_Go p e below _ T3 (mkF m 12 #[iv i] [(.ref w_DTEXT)])
      refine own_retA X3 hx Bd.notSynchronized Bd.returns rfl rfl (hb hby own_de_12) (by decide) (by decide) ?_
      rw [e3]
      exact ⟨by simp [own_exp, c0, c1], N0, rfl⟩
    · refine own_st (fun _ k => XS.icmpYes X0.here hx rfl (pc0 := 6) (pc' := 13) rfl (hb hby own_de_6) rfl (XT.ii_ne_t c1) (by decide) (by decide) k) ?_
      show own_Go p e below _ s₁ (mkF m 13 #[iv i] [])
      refine own_st (fun _ k => XS.iloadN X0.here hx rfl (hb hby own_de_13) rfl k) ?_
      show own_Go p e below _ s₁ (mkF m 14 #[iv i] [(.int i)])
      refine own_st (fun _ k => XT.iconstV X0.here hx rfl (5 : Int32) (hb hby own_de_14) (by decide) k) ?_
      show own_Go p e below _ s₁ (mkF m 15 #[iv i] [(.int 5), (.int i)])
      by_cases c2 : i = (5 : Int32)
      · refine own_st (fun _ k => XS.icmpYes X0.here hx rfl (pc0 := 15) (pc' := 24) rfl (hb hby own_de_15) rfl (XT.ii_eq_t c2) (by decide) (by decide) k) ?_
        show own_Go p e below _ s₁ (mkF m 24 #[iv i] [])
        obtain ⟨T5, X5, e5, st5⟩ := getS2 X0 hx hZ hown (host := "") (Or.inl (hw _ (List.mem_of_getElem? (i := 51) rfl))) Via.refl e0 S_DSPREADSHEET (g := (mkF m 24 #[iv i] [])) rfl (hb hby own_de_24)
        refine own_st st5 ?_
        show own_Go p e below _ T5 (mkF m 27 #[iv i] [(.ref w_DSPREADSHEET)])
        refine own_retA X5 hx Bd.notSynchronized Bd.returns rfl rfl (hb hby own_de_27) (by decide) (by decide) ?_
        rw [e5]
        exact ⟨by simp [own_exp, c0, c1, c2], N0, rfl⟩
      · refine own_st (fun _ k => XS.icmpNo X0.here hx rfl (hb hby own_de_15) rfl (XT.ii_eq_f c2) k) ?_
        show own_Go p e below _ s₁ (mkF m 18 #[iv i] [])
        refine own_st (fun _ k => XS.iloadN X0.here hx rfl (hb hby own_de_18) rfl k) ?_
        show own_Go p e below _ s₁ (mkF m 19 #[iv i] [(.int i)])
        refine own_st (fun _ k => XT.bipushV X0.here hx rfl (6 : Int32) (hb hby own_de_19) (by decide) k) ?_
        show own_Go p e below _ s₁ (mkF m 21 #[iv i] [(.int 6), (.int i)])
        by_cases c3 : i = (6 : Int32)
        · refine own_st (fun _ k => XS.icmpNo X0.here hx rfl (hb hby own_de_21) rfl (XT.ii_ne_f c3) k) ?_
          show own_Go p e below _ s₁ (mkF m 24 #[iv i] [])
          obtain ⟨T7, X7, e7, st7⟩ := getS2 X0 hx hZ hown (host := "") (Or.inl (hw _ (List.mem_of_getElem? (i := 51) rfl))) Via.refl e0 S_DSPREADSHEET (g := (mkF m 24 #[iv i] [])) rfl (hb hby own_de_24)
          refine own_st st7 ?_
          show own_Go p e below _ T7 (mkF m 27 #[iv i] [(.ref w_DSPREADSHEET)])
          refine own_retA X7 hx Bd.notSynchronized Bd.returns rfl rfl (hb hby own_de_27) (by decide) (by decide) ?_
          rw [e7]
          exact ⟨by simp [own_exp, c0, c1, c2, c3], N0, rfl⟩
        · refine own_st (fun _ k => XS.icmpYes X0.here hx rfl (pc0 := 21) (pc' := 28) rfl (hb hby own_de_21) rfl (XT.ii_ne_t c3) (by decide) (by decide) k) ?_
          show own_Go p e below _ s₁ (mkF m 28 #[iv i] [])
          refine own_st (fun _ k => XS.iloadN X0.here hx rfl (hb hby own_de_28) rfl k) ?_
          show own_Go p e below _ s₁ (mkF m 29 #[iv i] [(.int i)])
          refine own_st (fun _ k => XT.bipushV X0.here hx rfl (7 : Int32) (hb hby own_de_29) (by decide) k) ?_
          show own_Go p e below _ s₁ (mkF m 31 #[iv i] [(.int 7), (.int i)])
          by_cases c4 : i = (7 : Int32)
          · refine own_st (fun _ k => XS.icmpYes X0.here hx rfl (pc0 := 31) (pc' := 40) rfl (hb hby own_de_31) rfl (XT.ii_eq_t c4) (by decide) (by decide) k) ?_
            show own_Go p e below _ s₁ (mkF m 40 #[iv i] [])
            obtain ⟨T9, X9, e9, st9⟩ := getS2 X0 hx hZ hown (host := "") (Or.inl (hw _ (List.mem_of_getElem? (i := 55) rfl))) Via.refl e0 S_DPRESENTATION (g := (mkF m 40 #[iv i] [])) rfl (hb hby own_de_40)
            refine own_st st9 ?_
            show own_Go p e below _ T9 (mkF m 43 #[iv i] [(.ref w_DPRESENTATION)])
            refine own_retA X9 hx Bd.notSynchronized Bd.returns rfl rfl (hb hby own_de_43) (by decide) (by decide) ?_
            rw [e9]
            exact ⟨by simp [own_exp, c0, c1, c2, c3, c4], N0, rfl⟩
          · refine own_st (fun _ k => XS.icmpNo X0.here hx rfl (hb hby own_de_31) rfl (XT.ii_eq_f c4) k) ?_
            show own_Go p e below _ s₁ (mkF m 34 #[iv i] [])
            refine own_st (fun _ k => XS.iloadN X0.here hx rfl (hb hby own_de_34) rfl k) ?_
            show own_Go p e below _ s₁ (mkF m 35 #[iv i] [(.int i)])
            refine own_st (fun _ k => XT.bipushV X0.here hx rfl (8 : Int32) (hb hby own_de_35) (by decide) k) ?_
            show own_Go p e below _ s₁ (mkF m 37 #[iv i] [(.int 8), (.int i)])
            by_cases c5 : i = (8 : Int32)
            · refine own_st (fun _ k => XS.icmpNo X0.here hx rfl (hb hby own_de_37) rfl (XT.ii_ne_f c5) k) ?_
              show own_Go p e below _ s₁ (mkF m 40 #[iv i] [])
              obtain ⟨T11, X11, e11, st11⟩ := getS2 X0 hx hZ hown (host := "") (Or.inl (hw _ (List.mem_of_getElem? (i := 55) rfl))) Via.refl e0 S_DPRESENTATION (g := (mkF m 40 #[iv i] [])) rfl (hb hby own_de_40)
              refine own_st st11 ?_
              show own_Go p e below _ T11 (mkF m 43 #[iv i] [(.ref w_DPRESENTATION)])
              refine own_retA X11 hx Bd.notSynchronized Bd.returns rfl rfl (hb hby own_de_43) (by decide) (by decide) ?_
              rw [e11]
              exact ⟨by simp [own_exp, c0, c1, c2, c3, c4, c5], N0, rfl⟩
            · refine own_st (fun _ k => XS.icmpYes X0.here hx rfl (pc0 := 37) (pc' := 44) rfl (hb hby own_de_37) rfl (XT.ii_ne_t c5) (by decide) (by decide) k) ?_
              show own_Go p e below _ s₁ (mkF m 44 #[iv i] [])
              refine own_st (fun _ k => XS.iloadN X0.here hx rfl (hb hby own_de_44) rfl k) ?_
              show own_Go p e below _ s₁ (mkF m 45 #[iv i] [(.int i)])
              refine own_st (fun _ k => XT.bipushV X0.here hx rfl (9 : Int32) (hb hby own_de_45) (by decide) k) ?_
              show own_Go p e below _ s₁ (mkF m 47 #[iv i] [(.int 9), (.int i)])
              by_cases c6 : i = (9 : Int32)
              · refine own_st (fun _ k => XS.icmpYes X0.here hx rfl (pc0 := 47) (pc' := 56) rfl (hb hby own_de_47) rfl (XT.ii_eq_t c6) (by decide) (by decide) k) ?_
                show own_Go p e below _ s₁ (mkF m 56 #[iv i] [])
                obtain ⟨T13, X13, e13, st13⟩ := getS2 X0 hx hZ hown (host := "") (Or.inl (hw _ (List.mem_of_getElem? (i := 61) rfl))) Via.refl e0 S_DDRAWING (g := (mkF m 56 #[iv i] [])) rfl (hb hby own_de_56)
                refine own_st st13 ?_
                show own_Go p e below _ T13 (mkF m 59 #[iv i] [(.ref w_DDRAWING)])
                refine own_retA X13 hx Bd.notSynchronized Bd.returns rfl rfl (hb hby own_de_59) (by decide) (by decide) ?_
                rw [e13]
                exact ⟨by simp [own_exp, c0, c1, c2, c3, c4, c5, c6], N0, rfl⟩
              · refine own_st (fun _ k => XS.icmpNo X0.here hx rfl (hb hby own_de_47) rfl (XT.ii_eq_f c6) k) ?_
                show own_Go p e below _ s₁ (mkF m 50 #[iv i] [])
                refine own_st (fun _ k => XS.iloadN X0.here hx rfl (hb hby own_de_50) rfl k) ?_
                show own_Go p e below _ s₁ (mkF m 51 #[iv i] [(.int i)])
                refine own_st (fun _ k => XT.bipushV X0.here hx rfl (10 : Int32) (hb hby own_de_51) (by decide) k) ?_
                show own_Go p e below _ s₁ (mkF m 53 #[iv i] [(.int 10), (.int i)])
                by_cases c7 : i = (10 : Int32)
                · refine own_st (fun _ k => XS.icmpNo X0.here hx rfl (hb hby own_de_53) rfl (XT.ii_ne_f c7) k) ?_
                  show own_Go p e below _ s₁ (mkF m 56 #[iv i] [])
                  obtain ⟨T15, X15, e15, st15⟩ := getS2 X0 hx hZ hown (host := "") (Or.inl (hw _ (List.mem_of_getElem? (i := 61) rfl))) Via.refl e0 S_DDRAWING (g := (mkF m 56 #[iv i] [])) rfl (hb hby own_de_56)
                  refine own_st st15 ?_
                  show own_Go p e below _ T15 (mkF m 59 #[iv i] [(.ref w_DDRAWING)])
                  refine own_retA X15 hx Bd.notSynchronized Bd.returns rfl rfl (hb hby own_de_59) (by decide) (by decide) ?_
                  rw [e15]
                  exact ⟨by simp [own_exp, c0, c1, c2, c3, c4, c5, c6, c7], N0, rfl⟩
                · refine own_st (fun _ k => XS.icmpYes X0.here hx rfl (pc0 := 53) (pc' := 60) rfl (hb hby own_de_53) rfl (XT.ii_ne_t c7) (by decide) (by decide) k) ?_
                  show own_Go p e below _ s₁ (mkF m 60 #[iv i] [])
                  refine own_st (fun _ k => XS.aconstNull X0.here hx rfl (hb hby own_de_60) k) ?_
                  show own_Go p e below _ s₁ (mkF m 61 #[iv i] [.null])
                  refine own_retA X0 hx Bd.notSynchronized Bd.returns rfl rfl (hb hby own_de_61) (by decide) (by decide) ?_
                  rw [e0]
                  exact ⟨by simp [own_exp, c0, c1, c2, c3, c4, c5, c6, c7], N0, rfl⟩
theorem own_ef_vals (m : MethodId)  : entryFrame m #[] 0 = mkF m 0 #[] [] := by first | (simp [entryFrame, mkF, argsToLocals, Value.category]; done) | rfl
def own_Q_vals (Z : State) (w_V : Addr) (kV : ClassId) (w_DTEXT : Addr) (w_DSPREADSHEET : Addr) (w_DPRESENTATION : Addr) (w_DDRAWING : Addr) (h0 : Heap) (n0 : Nat) (v : Option Value) (h : Heap) (L : List Loc) : Prop := v = some (.ref h0.size) ∧ Fr n0 L ∧ Ext h0 h ∧ Arh Z h h0.size kV (.object "com/example/quire/quire/document/DocumentKind") 4 [] [Value.ref w_DTEXT, Value.ref w_DSPREADSHEET, Value.ref w_DPRESENTATION, Value.ref w_DDRAWING] .null
set_option maxRecDepth 65536 in
set_option maxHeartbeats 40000000 in
theorem own_rm_vals (l : Launch) (Z : State) (a0 : Array Value) (hw : ∀ d ∈ tables_1, d.before a0 Z = true) (ws : List Jvm.Cond) (w_V : Addr) (kV : ClassId) (w_DTEXT : Addr) (w_DSPREADSHEET : Addr) (w_DPRESENTATION : Addr) (w_DDRAWING : Addr) (h0 : Heap) (n0 : Nat) (Z0 : n0 ≤ h0.size) (S_V : Sta Z h0 "com/example/quire/quire/document/DocumentKind" "$VALUES" "[Lcom/example/quire/quire/document/DocumentKind;" (.ref w_V)) (E_V : Exa Z h0 w_V "[Lcom/example/quire/quire/document/DocumentKind;") (A_V : Arv Z h0 w_V kV (.object "com/example/quire/quire/document/DocumentKind") 4 [Value.ref w_DTEXT, Value.ref w_DSPREADSHEET, Value.ref w_DPRESENTATION, Value.ref w_DDRAWING] .null) :
    MetFree l (⟨"com/example/quire/quire/document/DocumentKind", "values", "()[Lcom/example/quire/quire/document/DocumentKind;"⟩ : MethodName) (head1 (Jvm.Cond.code (⟨"com/example/quire/quire/document/DocumentKind", "values", "()[Lcom/example/quire/quire/document/DocumentKind;"⟩ : MethodName) prog_3_method_1_code 0 (some (.array (.object "com/example/quire/quire/document/DocumentKind"))) :: ws) ({ frames := 1, cells := 1, slots := 4, locals := 14 } : Room)) (fun zz U => zz = #[] ∧ Z.Warmed39 U.vm ∧ U.heap = h0) (fun _ _ _ _ _ => True) (fun _ U zo U' => ∃ v L, zo = .returned v ∧ own_Q_vals Z w_V kV w_DTEXT w_DSPREADSHEET w_DPRESENTATION w_DDRAWING h0 n0 v U'.heap L ∧ FrameEnd U zo U' L ({ frames := 1, cells := 1, slots := 4, locals := 14 } : Room).cells ({ frames := 1, cells := 1, slots := 4, locals := 14 } : Room).slots) := by
  refine MetFree.of_bodySF (plainFor_of_name own_pn1) hisR ?_
  intro p e s m args below meth c s₁ Bd hml0 hP hK
  obtain ⟨rfl, hZ, hh⟩ := hP
  have hx := Bd.exec
  have hby := Bd.bytes
  have hml : c.maxLocals = 0 := hml0
  have hown : s.vm.findClass "com/example/quire/quire/document/DocumentKind" = some m.cls := findClass_of_methodNamed Bd.named
  have hnm := (name_of_methodNamed Bd.named Bd.method).1
  have X0 : Stand p l e ({ frames := 1, cells := 1, slots := 4, locals := 14 } : Room) s m #[] below meth c s₁ [] 0 0 := Stand.of_body Bd
  have e0 : s₁.heap = h0 := by rw [← hh, Bd.state]; rfl
  have N0 := Fr.nil n0
  show own_Go p e below (own_K s (own_Q_vals Z w_V kV w_DTEXT w_DSPREADSHEET w_DPRESENTATION w_DDRAWING h0 n0) ({ frames := 1, cells := 1, slots := 4, locals := 14 } : Room).cells ({ frames := 1, cells := 1, slots := 4, locals := 14 } : Room).slots) s₁ (entryFrame m #[] 0)
  rw [own_ef_vals m ]
  show own_Go p e below _ s₁ (mkF m 0 #[] [])
  obtain ⟨T1, X1, e1, st1⟩ := getS2 X0 hx hZ hown (host := "") (Or.inl (hw _ (List.mem_of_getElem? (i := 20) rfl))) Via.refl e0 S_V (g := (mkF m 0 #[] [])) rfl (hb hby own_dv_0)
  refine own_st st1 ?_
  show own_Go p e below _ T1 (mkF m 3 #[] [(.ref w_V)])
  obtain ⟨T2, h2, X2, e2, x2, A2, E2, st2⟩ := cloneH X1 hx hZ hown (hw _ (List.mem_of_getElem? (i := 22) rfl)) (hw _ (List.mem_of_getElem? (i := 23) rfl)) (hw _ (List.mem_of_getElem? (i := 27) rfl)) (hw _ (List.mem_of_getElem? (i := 25) rfl)) (hw _ (List.mem_of_getElem? (i := 26) rfl)) (hw _ (List.mem_of_getElem? (i := 28) rfl)) e1 A_V.arh E_V (g := (mkF m 3 #[] [(.ref w_V)])) rfl (by rw [hml]; rfl) rfl (hb hby own_dv_3) (by decide) (W := 0) (cap := 4) (by show 2 * 0 + _ ≤ _; exact Nat.le_of_eq rfl) (by decide) (by decide) (by decide) (by decide)
  refine own_st st2 ?_
  show own_Go p e below _ T2 (mkF m 6 #[] [(.ref h0.size)])
  obtain ⟨T3, X3, e3, st3⟩ := castY X2 hx hZ hown (hw _ (List.mem_of_getElem? (i := 33) rfl)) e2 (Ins.self E2) (g := (mkF m 6 #[] [(.ref h0.size)])) rfl rfl (hb hby own_dv_6)
  refine own_st st3 ?_
  show own_Go p e below _ T3 (mkF m 9 #[] [(.ref h0.size)])
  refine own_retA X3 hx Bd.notSynchronized Bd.returns rfl rfl (hb hby own_dv_9) (by decide) (by decide) ?_
  rw [e3]
  exact ⟨rfl, N0, x2, A2⟩
theorem own_ef_fmt (m : MethodId) (x0 : Value) (r0 : x0.isRef = true) : entryFrame m #[x0] 5 = mkF m 0 #[.val x0, .unset, .unset, .unset, .unset] [] := by rcases ref_cases r0 with rfl | ⟨_, rfl⟩ <;> (first | (simp [entryFrame, mkF, argsToLocals, Value.category]; done) | rfl)
def own_Q_fmt (Z : State) (mv : Value) (w_V : Addr) (kV : ClassId) (w_DTEXT : Addr) (w_DSPREADSHEET : Addr) (w_DPRESENTATION : Addr) (w_DDRAWING : Addr) (w_OTEXT : Addr) (w_OTEXT_TEMPLATE : Addr) (w_OSPREADSHEET : Addr) (w_OSPREADSHEET_TEMPLATE : Addr) (w_OPRESENTATION : Addr) (w_OPRESENTATION_TEMPLATE : Addr) (w_OGRAPHICS : Addr) (w_OGRAPHICS_TEMPLATE : Addr) (h0 : Heap) (n0 : Nat) (v : Option Value) (h : Heap) (L : List Loc) : Prop := v = some (own_for w_OTEXT w_OTEXT_TEMPLATE w_OSPREADSHEET w_OSPREADSHEET_TEMPLATE w_OPRESENTATION w_OPRESENTATION_TEMPLATE w_OGRAPHICS w_OGRAPHICS_TEMPLATE w_DTEXT w_DSPREADSHEET w_DPRESENTATION w_DDRAWING mv) ∧ Fr n0 L ∧ Ext h0 h
set_option maxRecDepth 65536 in
set_option maxHeartbeats 40000000 in
theorem own_rm_fmt (l : Launch) (Z : State) (a0 : Array Value) (hw : ∀ d ∈ tables_1, d.before a0 Z = true) (ws : List Jvm.Cond) (mv : Value) (w_V : Addr) (kV : ClassId) (w_DTEXT : Addr) (w_DSPREADSHEET : Addr) (w_DPRESENTATION : Addr) (w_DDRAWING : Addr) (w_OTEXT : Addr) (w_OTEXT_TEMPLATE : Addr) (w_OSPREADSHEET : Addr) (w_OSPREADSHEET_TEMPLATE : Addr) (w_OPRESENTATION : Addr) (w_OPRESENTATION_TEMPLATE : Addr) (w_OGRAPHICS : Addr) (w_OGRAPHICS_TEMPLATE : Addr) (h0 : Heap) (n0 : Nat) (Z0 : n0 ≤ h0.size) (hm : mv.isRef = true) (S_V : Sta Z h0 "com/example/quire/quire/document/DocumentKind" "$VALUES" "[Lcom/example/quire/quire/document/DocumentKind;" (.ref w_V)) (E_V : Exa Z h0 w_V "[Lcom/example/quire/quire/document/DocumentKind;") (A_V : Arv Z h0 w_V kV (.object "com/example/quire/quire/document/DocumentKind") 4 [Value.ref w_DTEXT, Value.ref w_DSPREADSHEET, Value.ref w_DPRESENTATION, Value.ref w_DDRAWING] .null) (F_documentType_DTEXT : Fld Z h0 w_DTEXT "com/example/quire/quire/document/DocumentKind" "documentType" "Lcom/example/quire/quire/pkg/OdfMediaType;" (.ref w_OTEXT)) (F_documentType_DSPREADSHEET : Fld Z h0 w_DSPREADSHEET "com/example/quire/quire/document/DocumentKind" "documentType" "Lcom/example/quire/quire/pkg/OdfMediaType;" (.ref w_OSPREADSHEET)) (F_documentType_DPRESENTATION : Fld Z h0 w_DPRESENTATION "com/example/quire/quire/document/DocumentKind" "documentType" "Lcom/example/quire/quire/pkg/OdfMediaType;" (.ref w_OPRESENTATION)) (F_documentType_DDRAWING : Fld Z h0 w_DDRAWING "com/example/quire/quire/document/DocumentKind" "documentType" "Lcom/example/quire/quire/pkg/OdfMediaType;" (.ref w_OGRAPHICS)) (F_templateType_DTEXT : Fld Z h0 w_DTEXT "com/example/quire/quire/document/DocumentKind" "templateType" "Lcom/example/quire/quire/pkg/OdfMediaType;" (.ref w_OTEXT_TEMPLATE)) (F_templateType_DSPREADSHEET : Fld Z h0 w_DSPREADSHEET "com/example/quire/quire/document/DocumentKind" "templateType" "Lcom/example/quire/quire/pkg/OdfMediaType;" (.ref w_OSPREADSHEET_TEMPLATE)) (F_templateType_DPRESENTATION : Fld Z h0 w_DPRESENTATION "com/example/quire/quire/document/DocumentKind" "templateType" "Lcom/example/quire/quire/pkg/OdfMediaType;" (.ref w_OPRESENTATION_TEMPLATE)) (F_templateType_DDRAWING : Fld Z h0 w_DDRAWING "com/example/quire/quire/document/DocumentKind" "templateType" "Lcom/example/quire/quire/pkg/OdfMediaType;" (.ref w_OGRAPHICS_TEMPLATE)) :
    MetFree l (⟨"com/example/quire/quire/document/DocumentKind", "forMediaType", "(Lcom/example/quire/quire/pkg/OdfMediaType;)Lcom/example/quire/quire/document/DocumentKind;"⟩ : MethodName) (head1 (Jvm.Cond.code (⟨"com/example/quire/quire/document/DocumentKind", "forMediaType", "(Lcom/example/quire/quire/pkg/OdfMediaType;)Lcom/example/quire/quire/document/DocumentKind;"⟩ : MethodName) prog_3_method_7_code 5 (some (.object "com/example/quire/quire/document/DocumentKind")) :: ws) ({ frames := 2, cells := 1, slots := 4, locals := 25 } : Room)) (fun zz U => zz = #[mv] ∧ Z.Warmed39 U.vm ∧ U.heap = h0) (fun _ _ _ _ _ => True) (fun _ U zo U' => ∃ v L, zo = .returned v ∧ own_Q_fmt Z mv w_V kV w_DTEXT w_DSPREADSHEET w_DPRESENTATION w_DDRAWING w_OTEXT w_OTEXT_TEMPLATE w_OSPREADSHEET w_OSPREADSHEET_TEMPLATE w_OPRESENTATION w_OPRESENTATION_TEMPLATE w_OGRAPHICS w_OGRAPHICS_TEMPLATE h0 n0 v U'.heap L ∧ FrameEnd U zo U' L ({ frames := 2, cells := 1, slots := 4, locals := 25 } : Room).cells ({ frames := 2, cells := 1, slots := 4, locals := 25 } : Room).slots) := by
  refine MetFree.of_bodySF (plainFor_of_name own_pn1) hisR ?_
  intro p e s m args below meth c s₁ Bd hml0 hP hK
  obtain ⟨rfl, hZ, hh⟩ := hP
  have hx := Bd.exec
  have hby := Bd.bytes
  have hml : c.maxLocals = 5 := hml0
  have hown : s.vm.findClass "com/example/quire/quire/document/DocumentKind" = some m.cls := findClass_of_methodNamed Bd.named
  have hnm := (name_of_methodNamed Bd.named Bd.method).1
  have X0 : Stand p l e ({ frames := 2, cells := 1, slots := 4, locals := 25 } : Room) s m #[mv] below meth c s₁ [] 0 0 := Stand.of_body Bd
  have e0 : s₁.heap = h0 := by rw [← hh, Bd.state]; rfl
  have N0 := Fr.nil n0
  show own_Go p e below (own_K s (own_Q_fmt Z mv w_V kV w_DTEXT w_DSPREADSHEET w_DPRESENTATION w_DDRAWING w_OTEXT w_OTEXT_TEMPLATE w_OSPREADSHEET w_OSPREADSHEET_TEMPLATE w_OPRESENTATION w_OPRESENTATION_TEMPLATE w_OGRAPHICS w_OGRAPHICS_TEMPLATE h0 n0) ({ frames := 2, cells := 1, slots := 4, locals := 25 } : Room).cells ({ frames := 2, cells := 1, slots := 4, locals := 25 } : Room).slots) s₁ (entryFrame m #[mv] 5)
  rw [own_ef_fmt m mv hm]
  show own_Go p e below _ s₁ (mkF m 0 #[.val mv, .unset, .unset, .unset, .unset] [])
  obtain ⟨_, _, ⟨T1, L1, k1, n1⟩, -, X1, ⟨Lc1, hQ1, l1, y1, z1⟩, st1⟩ := Jvm.LawKit.callS X0 hx (y := (⟨"com/example/quire/quire/document/DocumentKind", "values", "()[Lcom/example/quire/quire/document/DocumentKind;"⟩ : MethodName)) hown (mvT hZ (hw _ (List.mem_of_getElem? (i := 17) rfl))) (mvT hZ (hw _ (List.mem_of_getElem? (i := 18) rfl))) (mvT hZ (hw _ (List.mem_of_getElem? (i := 12) rfl))) (mvT hZ (hw _ (List.mem_of_getElem? (i := 19) rfl))) (by decide) (backOf (W := 0) (own_rm_vals l Z a0 hw [] w_V kV w_DTEXT w_DSPREADSHEET w_DPRESENTATION w_DDRAWING h0 n0 Z0 S_V E_V A_V) hZ (hw _ (List.mem_of_getElem? (i := 19) rfl)) (hw _ (List.mem_of_getElem? (i := 12) rfl)) (by decide) (by decide)) (g := (mkF m 0 #[.val mv, .unset, .unset, .unset, .unset] [])) rfl (by rw [hml]; rfl) (argsL := []) (rest := []) (lenOf own_pd0 rfl) rfl (by show 2 * 0 + _ ≤ _; exact Nat.le_of_eq rfl) (hb hby own_df_0) (fun _ _ => ⟨rfl, e0, (by decide : 0 + 1 ≤ _), (by decide : 0 + 4 ≤ _)⟩)
  dsimp only [Pt.U, Pt.locs, Pt.cells, Pt.slots] at X1 l1 y1 z1 st1 hQ1
  subst l1 y1 z1
  obtain ⟨rfl, N1, x1, A1⟩ := hQ1
  have M1 := Fr.app N0 N1
  refine own_st st1 ?_
  show own_Go p e below _ T1 (mkF m 3 #[.val mv, .unset, .unset, .unset, .unset] [(.ref h0.size)])
  have AV : Arv Z T1.heap h0.size kV (.object "com/example/quire/quire/document/DocumentKind") 4 [Value.ref w_DTEXT, Value.ref w_DSPREADSHEET, Value.ref w_DPRESENTATION, Value.ref w_DDRAWING] .null := A1
  refine own_st (fun _ k => XS.astoreN X1.here hx rfl (hb hby own_df_3) rfl rfl (l' := #[.val mv, rv (h0.size), .unset, .unset, .unset]) rfl k) ?_
  show own_Go p e below _ T1 (mkF m 4 #[.val mv, rv (h0.size), .unset, .unset, .unset] [])
  refine own_st (fun _ k => XS.aloadN X1.here hx rfl (hb hby own_df_4) rfl rfl k) ?_
  show own_Go p e below _ T1 (mkF m 5 #[.val mv, rv (h0.size), .unset, .unset, .unset] [(.ref h0.size)])
  refine own_st (fun _ k => own_len X1 hx hZ rfl AV rfl rfl (hb hby own_df_5) k) ?_
  show own_Go p e below _ T1 (mkF m 6 #[.val mv, rv (h0.size), .unset, .unset, .unset] [(.int 4)])
  refine own_st (fun _ k => XS.istoreN X1.here hx rfl (hb hby own_df_6) rfl (l' := #[.val mv, rv (h0.size), iv 4, .unset, .unset]) rfl k) ?_
  show own_Go p e below _ T1 (mkF m 7 #[.val mv, rv (h0.size), iv 4, .unset, .unset] [])
  refine own_st (fun _ k => XT.iconstV X1.here hx rfl (0 : Int32) (hb hby own_df_7) (by decide) k) ?_
  show own_Go p e below _ T1 (mkF m 8 #[.val mv, rv (h0.size), iv 4, .unset, .unset] [(.int 0)])
  refine own_st (fun _ k => XS.istoreN X1.here hx rfl (hb hby own_df_8) rfl (l' := #[.val mv, rv (h0.size), iv 4, iv 0, .unset]) rfl k) ?_
  show own_Go p e below _ T1 (mkF m 9 #[.val mv, rv (h0.size), iv 4, iv 0, .unset] [])
  refine own_st (fun _ k => XS.iloadN X1.here hx rfl (hb hby own_df_9) rfl k) ?_
  show own_Go p e below _ T1 (mkF m 10 #[.val mv, rv (h0.size), iv 4, iv 0, .unset] [(.int 0)])
  refine own_st (fun _ k => XS.iloadN X1.here hx rfl (hb hby own_df_10) rfl k) ?_
  show own_Go p e below _ T1 (mkF m 11 #[.val mv, rv (h0.size), iv 4, iv 0, .unset] [(.int 4), (.int 0)])
  refine own_st (fun _ k => XS.icmpNo X1.here hx rfl (hb hby own_df_11) rfl (XT.ii_ge_f (by decide)) k) ?_
  show own_Go p e below _ T1 (mkF m 14 #[.val mv, rv (h0.size), iv 4, iv 0, .unset] [])
  refine own_st (fun _ k => XS.aloadN X1.here hx rfl (hb hby own_df_14) rfl rfl k) ?_
  show own_Go p e below _ T1 (mkF m 15 #[.val mv, rv (h0.size), iv 4, iv 0, .unset] [(.ref h0.size)])
  refine own_st (fun _ k => XS.iloadN X1.here hx rfl (hb hby own_df_15) rfl k) ?_
  show own_Go p e below _ T1 (mkF m 16 #[.val mv, rv (h0.size), iv 4, iv 0, .unset] [(.int 0), (.ref h0.size)])
  refine own_st (fun _ k => own_ldR X1 hx hZ rfl AV rfl ⟨by decide, by decide⟩ (v := (.ref w_DTEXT)) rfl rfl rfl (hb hby own_df_16) k) ?_
  show own_Go p e below _ T1 (mkF m 17 #[.val mv, rv (h0.size), iv 4, iv 0, .unset] [(.ref w_DTEXT)])
  refine own_st (fun _ k => XS.astore X1.here hx rfl (hb hby own_df_17) rfl rfl (l' := #[.val mv, rv (h0.size), iv 4, iv 0, rv w_DTEXT]) rfl k) ?_
  show own_Go p e below _ T1 (mkF m 19 #[.val mv, rv (h0.size), iv 4, iv 0, rv w_DTEXT] [])
  refine own_st (fun _ k => XS.aload X1.here hx rfl (hb hby own_df_19) rfl rfl k) ?_
  show own_Go p e below _ T1 (mkF m 21 #[.val mv, rv (h0.size), iv 4, iv 0, rv w_DTEXT] [(.ref w_DTEXT)])
  obtain ⟨T2, X2, e2, st2⟩ := getF X1 hx hZ hown (host := "") (Or.inl (hw _ (List.mem_of_getElem? (i := 35) rfl))) Via.refl rfl (F_documentType_DTEXT.ext x1) (g := (mkF m 21 #[.val mv, rv (h0.size), iv 4, iv 0, rv w_DTEXT] [(.ref w_DTEXT)])) rfl rfl (hb hby own_df_21)
  refine own_st st2 ?_
  show own_Go p e below _ T2 (mkF m 24 #[.val mv, rv (h0.size), iv 4, iv 0, rv w_DTEXT] [(.ref w_OTEXT)])
  refine own_st (fun _ k => XS.aloadN X2.here hx rfl (hb hby own_df_24) rfl hm k) ?_
  show own_Go p e below _ T2 (mkF m 25 #[.val mv, rv (h0.size), iv 4, iv 0, rv w_DTEXT] [mv, (.ref w_OTEXT)])
  by_cases c0 : Value.ref w_OTEXT = mv
  · refine own_st (fun _ k => XT.acmpYes X2.here hx rfl (pc0 := 25) (pc' := 37) rfl (hb hby own_df_25) rfl rfl hm (XT.aa_eq_t c0) (by decide) (by decide) k) ?_
    show own_Go p e below _ T2 (mkF m 37 #[.val mv, rv (h0.size), iv 4, iv 0, rv w_DTEXT] [])
    refine own_st (fun _ k => XS.aload X2.here hx rfl (hb hby own_df_37) rfl rfl k) ?_
    show own_Go p e below _ T2 (mkF m 39 #[.val mv, rv (h0.size), iv 4, iv 0, rv w_DTEXT] [(.ref w_DTEXT)])
    refine own_retA X2 hx Bd.notSynchronized Bd.returns rfl rfl (hb hby own_df_39) (by decide) (by decide) ?_
    rw [e2]
    exact ⟨by simp [own_for, c0], M1, x1⟩
  · refine own_st (fun _ k => XT.acmpNo X2.here hx rfl (hb hby own_df_25) rfl rfl hm (XT.aa_eq_f c0) k) ?_
    show own_Go p e below _ T2 (mkF m 28 #[.val mv, rv (h0.size), iv 4, iv 0, rv w_DTEXT] [])
    refine own_st (fun _ k => XS.aload X2.here hx rfl (hb hby own_df_28) rfl rfl k) ?_
    show own_Go p e below _ T2 (mkF m 30 #[.val mv, rv (h0.size), iv 4, iv 0, rv w_DTEXT] [(.ref w_DTEXT)])
    obtain ⟨T4, X4, e4, st4⟩ := getF X2 hx hZ hown (host := "") (Or.inl (hw _ (List.mem_of_getElem? (i := 39) rfl))) Via.refl e2 (F_templateType_DTEXT.ext x1) (g := (mkF m 30 #[.val mv, rv (h0.size), iv 4, iv 0, rv w_DTEXT] [(.ref w_DTEXT)])) rfl rfl (hb hby own_df_30)
    refine own_st st4 ?_
    show own_Go p e below _ T4 (mkF m 33 #[.val mv, rv (h0.size), iv 4, iv 0, rv w_DTEXT] [(.ref w_OTEXT_TEMPLATE)])
    refine own_st (fun _ k => XS.aloadN X4.here hx rfl (hb hby own_df_33) rfl hm k) ?_
    show own_Go p e below _ T4 (mkF m 34 #[.val mv, rv (h0.size), iv 4, iv 0, rv w_DTEXT] [mv, (.ref w_OTEXT_TEMPLATE)])
    by_cases c1 : Value.ref w_OTEXT_TEMPLATE = mv
    · refine own_st (fun _ k => XT.acmpNo X4.here hx rfl (hb hby own_df_34) rfl rfl hm (XT.aa_ne_f c1) k) ?_
      show own_Go p e below _ T4 (mkF m 37 #[.val mv, rv (h0.size), iv 4, iv 0, rv w_DTEXT] [])
      refine own_st (fun _ k => XS.aload X4.here hx rfl (hb hby own_df_37) rfl rfl k) ?_
      show own_Go p e below _ T4 (mkF m 39 #[.val mv, rv (h0.size), iv 4, iv 0, rv w_DTEXT] [(.ref w_DTEXT)])
      refine own_retA X4 hx Bd.notSynchronized Bd.returns rfl rfl (hb hby own_df_39) (by decide) (by decide) ?_
      rw [e4]
      exact ⟨by simp [own_for, c0, c1], M1, x1⟩
    · refine own_st (fun _ k => XT.acmpYes X4.here hx rfl (pc0 := 34) (pc' := 40) rfl (hb hby own_df_34) rfl rfl hm (XT.aa_ne_t c1) (by decide) (by decide) k) ?_
      show own_Go p e below _ T4 (mkF m 40 #[.val mv, rv (h0.size), iv 4, iv 0, rv w_DTEXT] [])
      refine own_st (fun _ k => XT.iincV X4.here hx rfl (1 : Int32) (hb hby own_df_40) (by decide) rfl (l' := #[.val mv, rv (h0.size), iv 4, iv (0 + 1), rv w_DTEXT]) rfl k) ?_
      show own_Go p e below _ T4 (mkF m 43 #[.val mv, rv (h0.size), iv 4, iv (0 + 1), rv w_DTEXT] [])
      refine own_st (fun _ k => XS.goto X4.here hx rfl (pc0 := 43) (pc' := 9) rfl (hb hby own_df_43) (by decide) (by decide) k) ?_
      show own_Go p e below _ T4 (mkF m 9 #[.val mv, rv (h0.size), iv 4, iv (0 + 1), rv w_DTEXT] [])
      refine own_st (fun _ k => XS.iloadN X4.here hx rfl (hb hby own_df_9) rfl k) ?_
      show own_Go p e below _ T4 (mkF m 10 #[.val mv, rv (h0.size), iv 4, iv (0 + 1), rv w_DTEXT] [(.int (0 + 1))])
      refine own_st (fun _ k => XS.iloadN X4.here hx rfl (hb hby own_df_10) rfl k) ?_
      show own_Go p e below _ T4 (mkF m 11 #[.val mv, rv (h0.size), iv 4, iv (0 + 1), rv w_DTEXT] [(.int 4), (.int (0 + 1))])
      show own_Go p e below _ T4 (mkF m 11 #[.val mv, rv (h0.size), iv 4, iv 1, rv w_DTEXT] [(.int 4), (.int (0 + 1))])
      refine own_st (fun _ k => XS.icmpNo X4.here hx rfl (hb hby own_df_11) rfl (XT.ii_ge_f (by decide)) k) ?_
      show own_Go p e below _ T4 (mkF m 14 #[.val mv, rv (h0.size), iv 4, iv 1, rv w_DTEXT] [])
      refine own_st (fun _ k => XS.aloadN X4.here hx rfl (hb hby own_df_14) rfl rfl k) ?_
      show own_Go p e below _ T4 (mkF m 15 #[.val mv, rv (h0.size), iv 4, iv 1, rv w_DTEXT] [(.ref h0.size)])
      refine own_st (fun _ k => XS.iloadN X4.here hx rfl (hb hby own_df_15) rfl k) ?_
      show own_Go p e below _ T4 (mkF m 16 #[.val mv, rv (h0.size), iv 4, iv 1, rv w_DTEXT] [(.int 1), (.ref h0.size)])
      refine own_st (fun _ k => own_ldR X4 hx hZ e4 AV rfl ⟨by decide, by decide⟩ (v := (.ref w_DSPREADSHEET)) rfl rfl rfl (hb hby own_df_16) k) ?_
      show own_Go p e below _ T4 (mkF m 17 #[.val mv, rv (h0.size), iv 4, iv 1, rv w_DTEXT] [(.ref w_DSPREADSHEET)])
      refine own_st (fun _ k => XS.astore X4.here hx rfl (hb hby own_df_17) rfl rfl (l' := #[.val mv, rv (h0.size), iv 4, iv 1, rv w_DSPREADSHEET]) rfl k) ?_
      show own_Go p e below _ T4 (mkF m 19 #[.val mv, rv (h0.size), iv 4, iv 1, rv w_DSPREADSHEET] [])
      refine own_st (fun _ k => XS.aload X4.here hx rfl (hb hby own_df_19) rfl rfl k) ?_
      show own_Go p e below _ T4 (mkF m 21 #[.val mv, rv (h0.size), iv 4, iv 1, rv w_DSPREADSHEET] [(.ref w_DSPREADSHEET)])
      obtain ⟨T6, X6, e6, st6⟩ := getF X4 hx hZ hown (host := "") (Or.inl (hw _ (List.mem_of_getElem? (i := 35) rfl))) Via.refl e4 (F_documentType_DSPREADSHEET.ext x1) (g := (mkF m 21 #[.val mv, rv (h0.size), iv 4, iv 1, rv w_DSPREADSHEET] [(.ref w_DSPREADSHEET)])) rfl rfl (hb hby own_df_21)
      refine own_st st6 ?_
      show own_Go p e below _ T6 (mkF m 24 #[.val mv, rv (h0.size), iv 4, iv 1, rv w_DSPREADSHEET] [(.ref w_OSPREADSHEET)])
      refine own_st (fun _ k => XS.aloadN X6.here hx rfl (hb hby own_df_24) rfl hm k) ?_
      show own_Go p e below _ T6 (mkF m 25 #[.val mv, rv (h0.size), iv 4, iv 1, rv w_DSPREADSHEET] [mv, (.ref w_OSPREADSHEET)])
      by_cases c2 : Value.ref w_OSPREADSHEET = mv
      · refine own_st (fun _ k => XT.acmpYes X6.here hx rfl (pc0 := 25) (pc' := 37) rfl (hb hby own_df_25) rfl rfl hm (XT.aa_eq_t c2) (by decide) (by decide) k) ?_
        show own_Go p e below _ T6 (mkF m 37 #[.val mv, rv (h0.size), iv 4, iv 1, rv w_DSPREADSHEET] [])
        refine own_st (fun _ k => XS.aload X6.here hx rfl (hb hby own_df_37) rfl rfl k) ?_
        show own_Go p e below _ T6 (mkF m 39 #[.val mv, rv (h0.size), iv 4, iv 1, rv w_DSPREADSHEET] [(.ref w_DSPREADSHEET)])
        refine own_retA X6 hx Bd.notSynchronized Bd.returns rfl rfl (hb hby own_df_39) (by decide) (by decide) ?_
        rw [e6]
        exact ⟨by simp [own_for, c0, c1, c2], M1, x1⟩
      · refine own_st (fun _ k => XT.acmpNo X6.here hx rfl (hb hby own_df_25) rfl rfl hm (XT.aa_eq_f c2) k) ?_
        show own_Go p e below _ T6 (mkF m 28 #[.val mv, rv (h0.size), iv 4, iv 1, rv w_DSPREADSHEET] [])
        refine own_st (fun _ k => XS.aload X6.here hx rfl (hb hby own_df_28) rfl rfl k) ?_
        show own_Go p e below _ T6 (mkF m 30 #[.val mv, rv (h0.size), iv 4, iv 1, rv w_DSPREADSHEET] [(.ref w_DSPREADSHEET)])
        obtain ⟨T8, X8, e8, st8⟩ := getF X6 hx hZ hown (host := "") (Or.inl (hw _ (List.mem_of_getElem? (i := 39) rfl))) Via.refl e6 (F_templateType_DSPREADSHEET.ext x1) (g := (mkF m 30 #[.val mv, rv (h0.size), iv 4, iv 1, rv w_DSPREADSHEET] [(.ref w_DSPREADSHEET)])) rfl rfl (hb hby own_df_30)
        refine own_st st8 ?_
        show own_Go p e below _ T8 (mkF m 33 #[.val mv, rv (h0.size), iv 4, iv 1, rv w_DSPREADSHEET] [(.ref w_OSPREADSHEET_TEMPLATE)])
        refine own_st (fun _ k => XS.aloadN X8.here hx rfl (hb hby own_df_33) rfl hm k) ?_
        show own_Go p e below _ T8 (mkF m 34 #[.val mv, rv (h0.size), iv 4, iv 1, rv w_DSPREADSHEET] [mv, (.ref w_OSPREADSHEET_TEMPLATE)])
        by_cases c3 : Value.ref w_OSPREADSHEET_TEMPLATE = mv
        · refine own_st (fun _ k => XT.acmpNo X8.here hx rfl (hb hby own_df_34) rfl rfl hm (XT.aa_ne_f c3) k) ?_
          show own_Go p e below _ T8 (mkF m 37 #[.val mv, rv (h0.size), iv 4, iv 1, rv w_DSPREADSHEET] [])
          refine own_st (fun _ k => XS.aload X8.here hx rfl (hb hby own_df_37) rfl rfl k) ?_
          show own_Go p e below _ T8 (mkF m 39 #[.val mv, rv (h0.size), iv 4, iv 1, rv w_DSPREADSHEET] [(.ref w_DSPREADSHEET)])
          refine own_retA X8 hx Bd.notSynchronized Bd.returns rfl rfl (hb hby own_df_39) (by decide) (by decide) ?_
          rw [e8]
          exact ⟨by simp [own_for, c0, c1, c2, c3], M1, x1⟩
        · refine own_st (fun _ k => XT.acmpYes X8.here hx rfl (pc0 := 34) (pc' := 40) rfl (hb hby own_df_34) rfl rfl hm (XT.aa_ne_t c3) (by decide) (by decide) k) ?_
          show own_Go p e below _ T8 (mkF m 40 #[.val mv, rv (h0.size), iv 4, iv 1, rv w_DSPREADSHEET] [])
          refine own_st (fun _ k => XT.iincV X8.here hx rfl (1 : Int32) (hb hby own_df_40) (by decide) rfl (l' := #[.val mv, rv (h0.size), iv 4, iv (1 + 1), rv w_DSPREADSHEET]) rfl k) ?_
          show own_Go p e below _ T8 (mkF m 43 #[.val mv, rv (h0.size), iv 4, iv (1 + 1), rv w_DSPREADSHEET] [])
          refine own_st (fun _ k => XS.goto X8.here hx rfl (pc0 := 43) (pc' := 9) rfl (hb hby own_df_43) (by decide) (by decide) k) ?_
          show own_Go p e below _ T8 (mkF m 9 #[.val mv, rv (h0.size), iv 4, iv (1 + 1), rv w_DSPREADSHEET] [])
          refine own_st (fun _ k => XS.iloadN X8.here hx rfl (hb hby own_df_9) rfl k) ?_
          show own_Go p e below _ T8 (mkF m 10 #[.val mv, rv (h0.size), iv 4, iv (1 + 1), rv w_DSPREADSHEET] [(.int (1 + 1))])
          refine own_st (fun _ k => XS.iloadN X8.here hx rfl (hb hby own_df_10) rfl k) ?_
          show own_Go p e below _ T8 (mkF m 11 #[.val mv, rv (h0.size), iv 4, iv (1 + 1), rv w_DSPREADSHEET] [(.int 4), (.int (1 + 1))])
          show own_Go p e below _ T8 (mkF m 11 #[.val mv, rv (h0.size), iv 4, iv 2, rv w_DSPREADSHEET] [(.int 4), (.int (1 + 1))])
          refine own_st (fun _ k => XS.icmpNo X8.here hx rfl (hb hby own_df_11) rfl (XT.ii_ge_f (by decide)) k) ?_
          show own_Go p e below _ T8 (mkF m 14 #[.val mv, rv (h0.size), iv 4, iv 2, rv w_DSPREADSHEET] [])
          refine own_st (fun _ k => XS.aloadN X8.here hx rfl (hb hby own_df_14) rfl rfl k) ?_
          show own_Go p e below _ T8 (mkF m 15 #[.val mv, rv (h0.size), iv 4, iv 2, rv w_DSPREADSHEET] [(.ref h0.size)])
          refine own_st (fun _ k => XS.iloadN X8.here hx rfl (hb hby own_df_15) rfl k) ?_
          show own_Go p e below _ T8 (mkF m 16 #[.val mv, rv (h0.size), iv 4, iv 2, rv w_DSPREADSHEET] [(.int 2), (.ref h0.size)])
          refine own_st (fun _ k => own_ldR X8 hx hZ e8 AV rfl ⟨by decide, by decide⟩ (v := (.ref w_DPRESENTATION)) rfl rfl rfl (hb hby own_df_16) k) ?_
          show own_Go p e below _ T8 (mkF m 17 #[.val mv, rv (h0.size), iv 4, iv 2, rv w_DSPREADSHEET] [(.ref w_DPRESENTATION)])
          refine own_st (fun _ k => XS.astore X8.here hx rfl (hb hby own_df_17) rfl rfl (l' := #[.val mv, rv (h0.size), iv 4, iv 2, rv w_DPRESENTATION]) rfl k) ?_
          show own_Go p e below _ T8 (mkF m 19 #[.val mv, rv (h0.size), iv 4, iv 2, rv w_DPRESENTATION] [])
          refine own_st (fun _ k => XS.aload X8.here hx rfl (hb hby own_df_19) rfl rfl k) ?_
          show own_Go p e below _ T8 (mkF m 21 #[.val mv, rv (h0.size), iv 4, iv 2, rv w_DPRESENTATION] [(.ref w_DPRESENTATION)])
          obtain ⟨T10, X10, e10, st10⟩ := getF X8 hx hZ hown (host := "") (Or.inl (hw _ (List.mem_of_getElem? (i := 35) rfl))) Via.refl e8 (F_documentType_DPRESENTATION.ext x1) (g := (mkF m 21 #[.val mv, rv (h0.size), iv 4, iv 2, rv w_DPRESENTATION] [(.ref w_DPRESENTATION)])) rfl rfl (hb hby own_df_21)
          refine own_st st10 ?_
          show own_Go p e below _ T10 (mkF m 24 #[.val mv, rv (h0.size), iv 4, iv 2, rv w_DPRESENTATION] [(.ref w_OPRESENTATION)])
          refine own_st (fun _ k => XS.aloadN X10.here hx rfl (hb hby own_df_24) rfl hm k) ?_
          show own_Go p e below _ T10 (mkF m 25 #[.val mv, rv (h0.size), iv 4, iv 2, rv w_DPRESENTATION] [mv, (.ref w_OPRESENTATION)])
          by_cases c4 : Value.ref w_OPRESENTATION = mv
          · refine own_st (fun _ k => XT.acmpYes X10.here hx rfl (pc0 := 25) (pc' := 37) rfl (hb hby own_df_25) rfl rfl hm (XT.aa_eq_t c4) (by decide) (by decide) k) ?_
            show own_Go p e below _ T10 (mkF m 37 #[.val mv, rv (h0.size), iv 4, iv 2, rv w_DPRESENTATION] [])
            refine own_st (fun _ k => XS.aload X10.here hx rfl (hb hby own_df_37) rfl rfl k) ?_
            show own_Go p e below _ T10 (mkF m 39 #[.val mv, rv (h0.size), iv 4, iv 2, rv w_DPRESENTATION] [(.ref w_DPRESENTATION)])
            refine own_retA X10 hx Bd.notSynchronized Bd.returns rfl rfl (hb hby own_df_39) (by decide) (by decide) ?_
            rw [e10]
            exact ⟨by simp [own_for, c0, c1, c2, c3, c4], M1, x1⟩
          · refine own_st (fun _ k => XT.acmpNo X10.here hx rfl (hb hby own_df_25) rfl rfl hm (XT.aa_eq_f c4) k) ?_
            show own_Go p e below _ T10 (mkF m 28 #[.val mv, rv (h0.size), iv 4, iv 2, rv w_DPRESENTATION] [])
            refine own_st (fun _ k => XS.aload X10.here hx rfl (hb hby own_df_28) rfl rfl k) ?_
            show own_Go p e below _ T10 (mkF m 30 #[.val mv, rv (h0.size), iv 4, iv 2, rv w_DPRESENTATION] [(.ref w_DPRESENTATION)])
            obtain ⟨T12, X12, e12, st12⟩ := getF X10 hx hZ hown (host := "") (Or.inl (hw _ (List.mem_of_getElem? (i := 39) rfl))) Via.refl e10 (F_templateType_DPRESENTATION.ext x1) (g := (mkF m 30 #[.val mv, rv (h0.size), iv 4, iv 2, rv w_DPRESENTATION] [(.ref w_DPRESENTATION)])) rfl rfl (hb hby own_df_30)
            refine own_st st12 ?_
            show own_Go p e below _ T12 (mkF m 33 #[.val mv, rv (h0.size), iv 4, iv 2, rv w_DPRESENTATION] [(.ref w_OPRESENTATION_TEMPLATE)])
            refine own_st (fun _ k => XS.aloadN X12.here hx rfl (hb hby own_df_33) rfl hm k) ?_
            show own_Go p e below _ T12 (mkF m 34 #[.val mv, rv (h0.size), iv 4, iv 2, rv w_DPRESENTATION] [mv, (.ref w_OPRESENTATION_TEMPLATE)])
            by_cases c5 : Value.ref w_OPRESENTATION_TEMPLATE = mv
            · refine own_st (fun _ k => XT.acmpNo X12.here hx rfl (hb hby own_df_34) rfl rfl hm (XT.aa_ne_f c5) k) ?_
              show own_Go p e below _ T12 (mkF m 37 #[.val mv, rv (h0.size), iv 4, iv 2, rv w_DPRESENTATION] [])
              refine own_st (fun _ k => XS.aload X12.here hx rfl (hb hby own_df_37) rfl rfl k) ?_
              show own_Go p e below _ T12 (mkF m 39 #[.val mv, rv (h0.size), iv 4, iv 2, rv w_DPRESENTATION] [(.ref w_DPRESENTATION)])
              refine own_retA X12 hx Bd.notSynchronized Bd.returns rfl rfl (hb hby own_df_39) (by decide) (by decide) ?_
              rw [e12]
              exact ⟨by simp [own_for, c0, c1, c2, c3, c4, c5], M1, x1⟩
            · refine own_st (fun _ k => XT.acmpYes X12.here hx rfl (pc0 := 34) (pc' := 40) rfl (hb hby own_df_34) rfl rfl hm (XT.aa_ne_t c5) (by decide) (by decide) k) ?_
              show own_Go p e below _ T12 (mkF m 40 #[.val mv, rv (h0.size), iv 4, iv 2, rv w_DPRESENTATION] [])
              refine own_st (fun _ k => XT.iincV X12.here hx rfl (1 : Int32) (hb hby own_df_40) (by decide) rfl (l' := #[.val mv, rv (h0.size), iv 4, iv (2 + 1), rv w_DPRESENTATION]) rfl k) ?_
              show own_Go p e below _ T12 (mkF m 43 #[.val mv, rv (h0.size), iv 4, iv (2 + 1), rv w_DPRESENTATION] [])
              refine own_st (fun _ k => XS.goto X12.here hx rfl (pc0 := 43) (pc' := 9) rfl (hb hby own_df_43) (by decide) (by decide) k) ?_
              show own_Go p e below _ T12 (mkF m 9 #[.val mv, rv (h0.size), iv 4, iv (2 + 1), rv w_DPRESENTATION] [])
              refine own_st (fun _ k => XS.iloadN X12.here hx rfl (hb hby own_df_9) rfl k) ?_
              show own_Go p e below _ T12 (mkF m 10 #[.val mv, rv (h0.size), iv 4, iv (2 + 1), rv w_DPRESENTATION] [(.int (2 + 1))])
              refine own_st (fun _ k => XS.iloadN X12.here hx rfl (hb hby own_df_10) rfl k) ?_
              show own_Go p e below _ T12 (mkF m 11 #[.val mv, rv (h0.size), iv 4, iv (2 + 1), rv w_DPRESENTATION] [(.int 4), (.int (2 + 1))])
              show own_Go p e below _ T12 (mkF m 11 #[.val mv, rv (h0.size), iv 4, iv 3, rv w_DPRESENTATION] [(.int 4), (.int (2 + 1))])
              refine own_st (fun _ k => XS.icmpNo X12.here hx rfl (hb hby own_df_11) rfl (XT.ii_ge_f (by decide)) k) ?_
              show own_Go p e below _ T12 (mkF m 14 #[.val mv, rv (h0.size), iv 4, iv 3, rv w_DPRESENTATION] [])
              refine own_st (fun _ k => XS.aloadN X12.here hx rfl (hb hby own_df_14) rfl rfl k) ?_
              show own_Go p e below _ T12 (mkF m 15 #[.val mv, rv (h0.size), iv 4, iv 3, rv w_DPRESENTATION] [(.ref h0.size)])
              refine own_st (fun _ k => XS.iloadN X12.here hx rfl (hb hby own_df_15) rfl k) ?_
              show own_Go p e below _ T12 (mkF m 16 #[.val mv, rv (h0.size), iv 4, iv 3, rv w_DPRESENTATION] [(.int 3), (.ref h0.size)])
              refine own_st (fun _ k => own_ldR X12 hx hZ e12 AV rfl ⟨by decide, by decide⟩ (v := (.ref w_DDRAWING)) rfl rfl rfl (hb hby own_df_16) k) ?_
              show own_Go p e below _ T12 (mkF m 17 #[.val mv, rv (h0.size), iv 4, iv 3, rv w_DPRESENTATION] [(.ref w_DDRAWING)])
              refine own_st (fun _ k => XS.astore X12.here hx rfl (hb hby own_df_17) rfl rfl (l' := #[.val mv, rv (h0.size), iv 4, iv 3, rv w_DDRAWING]) rfl k) ?_
              show own_Go p e below _ T12 (mkF m 19 #[.val mv, rv (h0.size), iv 4, iv 3, rv w_DDRAWING] [])
              refine own_st (fun _ k => XS.aload X12.here hx rfl (hb hby own_df_19) rfl rfl k) ?_
              show own_Go p e below _ T12 (mkF m 21 #[.val mv, rv (h0.size), iv 4, iv 3, rv w_DDRAWING] [(.ref w_DDRAWING)])
              obtain ⟨T14, X14, e14, st14⟩ := getF X12 hx hZ hown (host := "") (Or.inl (hw _ (List.mem_of_getElem? (i := 35) rfl))) Via.refl e12 (F_documentType_DDRAWING.ext x1) (g := (mkF m 21 #[.val mv, rv (h0.size), iv 4, iv 3, rv w_DDRAWING] [(.ref w_DDRAWING)])) rfl rfl (hb hby own_df_21)
              refine own_st st14 ?_
              show own_Go p e below _ T14 (mkF m 24 #[.val mv, rv (h0.size), iv 4, iv 3, rv w_DDRAWING] [(.ref w_OGRAPHICS)])
              refine own_st (fun _ k => XS.aloadN X14.here hx rfl (hb hby own_df_24) rfl hm k) ?_
              show own_Go p e below _ T14 (mkF m 25 #[.val mv, rv (h0.size), iv 4, iv 3, rv w_DDRAWING] [mv, (.ref w_OGRAPHICS)])
              by_cases c6 : Value.ref w_OGRAPHICS = mv
              · refine own_st (fun _ k => XT.acmpYes X14.here hx rfl (pc0 := 25) (pc' := 37) rfl (hb hby own_df_25) rfl rfl hm (XT.aa_eq_t c6) (by decide) (by decide) k) ?_
                show own_Go p e below _ T14 (mkF m 37 #[.val mv, rv (h0.size), iv 4, iv 3, rv w_DDRAWING] [])
                refine own_st (fun _ k => XS.aload X14.here hx rfl (hb hby own_df_37) rfl rfl k) ?_
                show own_Go p e below _ T14 (mkF m 39 #[.val mv, rv (h0.size), iv 4, iv 3, rv w_DDRAWING] [(.ref w_DDRAWING)])
                refine own_retA X14 hx Bd.notSynchronized Bd.returns rfl rfl (hb hby own_df_39) (by decide) (by decide) ?_
                rw [e14]
                exact ⟨by simp [own_for, c0, c1, c2, c3, c4, c5, c6], M1, x1⟩
              · refine own_st (fun _ k => XT.acmpNo X14.here hx rfl (hb hby own_df_25) rfl rfl hm (XT.aa_eq_f c6) k) ?_
                show own_Go p e below _ T14 (mkF m 28 #[.val mv, rv (h0.size), iv 4, iv 3, rv w_DDRAWING] [])
                refine own_st (fun _ k => XS.aload X14.here hx rfl (hb hby own_df_28) rfl rfl k) ?_
                show own_Go p e below _ T14 (mkF m 30 #[.val mv, rv (h0.size), iv 4, iv 3, rv w_DDRAWING] [(.ref w_DDRAWING)])
                obtain ⟨T16, X16, e16, st16⟩ := getF X14 hx hZ hown (host := "") (Or.inl (hw _ (List.mem_of_getElem? (i := 39) rfl))) Via.refl e14 (F_templateType_DDRAWING.ext x1) (g := (mkF m 30 #[.val mv, rv (h0.size), iv 4, iv 3, rv w_DDRAWING] [(.ref w_DDRAWING)])) rfl rfl (hb hby own_df_30)
                refine own_st st16 ?_
                show own_Go p e below _ T16 (mkF m 33 #[.val mv, rv (h0.size), iv 4, iv 3, rv w_DDRAWING] [(.ref w_OGRAPHICS_TEMPLATE)])
                refine own_st (fun _ k => XS.aloadN X16.here hx rfl (hb hby own_df_33) rfl hm k) ?_
                show own_Go p e below _ T16 (mkF m 34 #[.val mv, rv (h0.size), iv 4, iv 3, rv w_DDRAWING] [mv, (.ref w_OGRAPHICS_TEMPLATE)])
                by_cases c7 : Value.ref w_OGRAPHICS_TEMPLATE = mv
                · refine own_st (fun _ k => XT.acmpNo X16.here hx rfl (hb hby own_df_34) rfl rfl hm (XT.aa_ne_f c7) k) ?_
                  show own_Go p e below _ T16 (mkF m 37 #[.val mv, rv (h0.size), iv 4, iv 3, rv w_DDRAWING] [])
                  refine own_st (fun _ k => XS.aload X16.here hx rfl (hb hby own_df_37) rfl rfl k) ?_
                  show own_Go p e below _ T16 (mkF m 39 #[.val mv, rv (h0.size), iv 4, iv 3, rv w_DDRAWING] [(.ref w_DDRAWING)])
                  refine own_retA X16 hx Bd.notSynchronized Bd.returns rfl rfl (hb hby own_df_39) (by decide) (by decide) ?_
                  rw [e16]
                  exact ⟨by simp [own_for, c0, c1, c2, c3, c4, c5, c6, c7], M1, x1⟩
                · refine own_st (fun _ k => XT.acmpYes X16.here hx rfl (pc0 := 34) (pc' := 40) rfl (hb hby own_df_34) rfl rfl hm (XT.aa_ne_t c7) (by decide) (by decide) k) ?_
                  show own_Go p e below _ T16 (mkF m 40 #[.val mv, rv (h0.size), iv 4, iv 3, rv w_DDRAWING] [])
                  refine own_st (fun _ k => XT.iincV X16.here hx rfl (1 : Int32) (hb hby own_df_40) (by decide) rfl (l' := #[.val mv, rv (h0.size), iv 4, iv (3 + 1), rv w_DDRAWING]) rfl k) ?_
                  show own_Go p e below _ T16 (mkF m 43 #[.val mv, rv (h0.size), iv 4, iv (3 + 1), rv w_DDRAWING] [])
                  refine own_st (fun _ k => XS.goto X16.here hx rfl (pc0 := 43) (pc' := 9) rfl (hb hby own_df_43) (by decide) (by decide) k) ?_
                  show own_Go p e below _ T16 (mkF m 9 #[.val mv, rv (h0.size), iv 4, iv (3 + 1), rv w_DDRAWING] [])
                  refine own_st (fun _ k => XS.iloadN X16.here hx rfl (hb hby own_df_9) rfl k) ?_
                  show own_Go p e below _ T16 (mkF m 10 #[.val mv, rv (h0.size), iv 4, iv (3 + 1), rv w_DDRAWING] [(.int (3 + 1))])
                  refine own_st (fun _ k => XS.iloadN X16.here hx rfl (hb hby own_df_10) rfl k) ?_
                  show own_Go p e below _ T16 (mkF m 11 #[.val mv, rv (h0.size), iv 4, iv (3 + 1), rv w_DDRAWING] [(.int 4), (.int (3 + 1))])
                  show own_Go p e below _ T16 (mkF m 11 #[.val mv, rv (h0.size), iv 4, iv 4, rv w_DDRAWING] [(.int 4), (.int (3 + 1))])
                  refine own_st (fun _ k => XS.icmpYes X16.here hx rfl (pc0 := 11) (pc' := 46) rfl (hb hby own_df_11) rfl (XT.ii_ge_t (by decide)) (by decide) (by decide) k) ?_
                  show own_Go p e below _ T16 (mkF m 46 #[.val mv, rv (h0.size), iv 4, iv 4, rv w_DDRAWING] [])
                  refine own_st (fun _ k => XS.aconstNull X16.here hx rfl (hb hby own_df_46) k) ?_
                  show own_Go p e below _ T16 (mkF m 47 #[.val mv, rv (h0.size), iv 4, iv 4, rv w_DDRAWING] [.null])
                  refine own_retA X16 hx Bd.notSynchronized Bd.returns rfl rfl (hb hby own_df_47) (by decide) (by decide) ?_
                  rw [e16]
                  exact ⟨by simp [own_for, c0, c1, c2, c3, c4, c5, c6, c7], M1, x1⟩
theorem own_match {Z : State} {h0 : Heap} {i : Int32} {w_OTEXT w_OTEXT_TEMPLATE w_OTEXT_MASTER w_OTEXT_MASTER_TEMPLATE w_OTEXT_WEB w_OSPREADSHEET w_OSPREADSHEET_TEMPLATE w_OPRESENTATION w_OPRESENTATION_TEMPLATE w_OGRAPHICS w_OGRAPHICS_TEMPLATE w_OCHART w_OCHART_TEMPLATE w_OIMAGE w_OIMAGE_TEMPLATE w_OFORMULA w_OFORMULA_TEMPLATE w_OBASE w_DTEXT w_DSPREADSHEET w_DPRESENTATION w_DDRAWING : Addr} (F_ordinal_OTEXT : Fld Z h0 w_OTEXT "java/lang/Enum" "ordinal" "I" (.int (0 : Int32))) (F_ordinal_OTEXT_TEMPLATE : Fld Z h0 w_OTEXT_TEMPLATE "java/lang/Enum" "ordinal" "I" (.int (1 : Int32))) (F_ordinal_OTEXT_MASTER : Fld Z h0 w_OTEXT_MASTER "java/lang/Enum" "ordinal" "I" (.int (2 : Int32))) (F_ordinal_OTEXT_MASTER_TEMPLATE : Fld Z h0 w_OTEXT_MASTER_TEMPLATE "java/lang/Enum" "ordinal" "I" (.int (3 : Int32))) (F_ordinal_OTEXT_WEB : Fld Z h0 w_OTEXT_WEB "java/lang/Enum" "ordinal" "I" (.int (4 : Int32))) (F_ordinal_OSPREADSHEET : Fld Z h0 w_OSPREADSHEET "java/lang/Enum" "ordinal" "I" (.int (5 : Int32))) (F_ordinal_OSPREADSHEET_TEMPLATE : Fld Z h0 w_OSPREADSHEET_TEMPLATE "java/lang/Enum" "ordinal" "I" (.int (6 : Int32))) (F_ordinal_OPRESENTATION : Fld Z h0 w_OPRESENTATION "java/lang/Enum" "ordinal" "I" (.int (7 : Int32))) (F_ordinal_OPRESENTATION_TEMPLATE : Fld Z h0 w_OPRESENTATION_TEMPLATE "java/lang/Enum" "ordinal" "I" (.int (8 : Int32))) (F_ordinal_OGRAPHICS : Fld Z h0 w_OGRAPHICS "java/lang/Enum" "ordinal" "I" (.int (9 : Int32))) (F_ordinal_OGRAPHICS_TEMPLATE : Fld Z h0 w_OGRAPHICS_TEMPLATE "java/lang/Enum" "ordinal" "I" (.int (10 : Int32))) (F_ordinal_OCHART : Fld Z h0 w_OCHART "java/lang/Enum" "ordinal" "I" (.int (11 : Int32))) (F_ordinal_OCHART_TEMPLATE : Fld Z h0 w_OCHART_TEMPLATE "java/lang/Enum" "ordinal" "I" (.int (12 : Int32))) (F_ordinal_OIMAGE : Fld Z h0 w_OIMAGE "java/lang/Enum" "ordinal" "I" (.int (13 : Int32))) (F_ordinal_OIMAGE_TEMPLATE : Fld Z h0 w_OIMAGE_TEMPLATE "java/lang/Enum" "ordinal" "I" (.int (14 : Int32))) (F_ordinal_OFORMULA : Fld Z h0 w_OFORMULA "java/lang/Enum" "ordinal" "I" (.int (15 : Int32))) (F_ordinal_OFORMULA_TEMPLATE : Fld Z h0 w_OFORMULA_TEMPLATE "java/lang/Enum" "ordinal" "I" (.int (16 : Int32))) (F_ordinal_OBASE : Fld Z h0 w_OBASE "java/lang/Enum" "ordinal" "I" (.int (17 : Int32))) (hc : i = 0 ∨ i = 1 ∨ i = 2 ∨ i = 3 ∨ i = 4 ∨ i = 5 ∨ i = 6 ∨ i = 7 ∨ i = 8 ∨ i = 9 ∨ i = 10 ∨ i = 11 ∨ i = 12 ∨ i = 13 ∨ i = 14 ∨ i = 15 ∨ i = 16 ∨ i = 17 ∨ i = 18) : own_for w_OTEXT w_OTEXT_TEMPLATE w_OSPREADSHEET w_OSPREADSHEET_TEMPLATE w_OPRESENTATION w_OPRESENTATION_TEMPLATE w_OGRAPHICS w_OGRAPHICS_TEMPLATE w_DTEXT w_DSPREADSHEET w_DPRESENTATION w_DDRAWING (own_media w_OTEXT w_OTEXT_TEMPLATE w_OTEXT_MASTER w_OTEXT_MASTER_TEMPLATE w_OTEXT_WEB w_OSPREADSHEET w_OSPREADSHEET_TEMPLATE w_OPRESENTATION w_OPRESENTATION_TEMPLATE w_OGRAPHICS w_OGRAPHICS_TEMPLATE w_OCHART w_OCHART_TEMPLATE w_OIMAGE w_OIMAGE_TEMPLATE w_OFORMULA w_OFORMULA_TEMPLATE w_OBASE i) = own_exp w_DTEXT w_DSPREADSHEET w_DPRESENTATION w_DDRAWING i := by
  rcases hc with rfl | rfl | rfl | rfl | rfl | rfl | rfl | rfl | rfl | rfl | rfl | rfl | rfl | rfl | rfl | rfl | rfl | rfl | rfl
  · simp [own_for, own_media, own_exp]
  · simp [own_for, own_media, own_exp, (Fld.ne F_ordinal_OTEXT F_ordinal_OTEXT_TEMPLATE (by decide) : w_OTEXT ≠ w_OTEXT_TEMPLATE)]
  · simp [own_for, own_media, own_exp, (Fld.ne F_ordinal_OTEXT F_ordinal_OTEXT_MASTER (by decide) : w_OTEXT ≠ w_OTEXT_MASTER), (Fld.ne F_ordinal_OTEXT_TEMPLATE F_ordinal_OTEXT_MASTER (by decide) : w_OTEXT_TEMPLATE ≠ w_OTEXT_MASTER), (Fld.ne F_ordinal_OSPREADSHEET F_ordinal_OTEXT_MASTER (by decide) : w_OSPREADSHEET ≠ w_OTEXT_MASTER), (Fld.ne F_ordinal_OSPREADSHEET_TEMPLATE F_ordinal_OTEXT_MASTER (by decide) : w_OSPREADSHEET_TEMPLATE ≠ w_OTEXT_MASTER), (Fld.ne F_ordinal_OPRESENTATION F_ordinal_OTEXT_MASTER (by decide) : w_OPRESENTATION ≠ w_OTEXT_MASTER), (Fld.ne F_ordinal_OPRESENTATION_TEMPLATE F_ordinal_OTEXT_MASTER (by decide) : w_OPRESENTATION_TEMPLATE ≠ w_OTEXT_MASTER), (Fld.ne F_ordinal_OGRAPHICS F_ordinal_OTEXT_MASTER (by decide) : w_OGRAPHICS ≠ w_OTEXT_MASTER), (Fld.ne F_ordinal_OGRAPHICS_TEMPLATE F_ordinal_OTEXT_MASTER (by decide) : w_OGRAPHICS_TEMPLATE ≠ w_OTEXT_MASTER)]
  · simp [own_for, own_media, own_exp, (Fld.ne F_ordinal_OTEXT F_ordinal_OTEXT_MASTER_TEMPLATE (by decide) : w_OTEXT ≠ w_OTEXT_MASTER_TEMPLATE), (Fld.ne F_ordinal_OTEXT_TEMPLATE F_ordinal_OTEXT_MASTER_TEMPLATE (by decide) : w_OTEXT_TEMPLATE ≠ w_OTEXT_MASTER_TEMPLATE), (Fld.ne F_ordinal_OSPREADSHEET F_ordinal_OTEXT_MASTER_TEMPLATE (by decide) : w_OSPREADSHEET ≠ w_OTEXT_MASTER_TEMPLATE), (Fld.ne F_ordinal_OSPREADSHEET_TEMPLATE F_ordinal_OTEXT_MASTER_TEMPLATE (by decide) : w_OSPREADSHEET_TEMPLATE ≠ w_OTEXT_MASTER_TEMPLATE), (Fld.ne F_ordinal_OPRESENTATION F_ordinal_OTEXT_MASTER_TEMPLATE (by decide) : w_OPRESENTATION ≠ w_OTEXT_MASTER_TEMPLATE), (Fld.ne F_ordinal_OPRESENTATION_TEMPLATE F_ordinal_OTEXT_MASTER_TEMPLATE (by decide) : w_OPRESENTATION_TEMPLATE ≠ w_OTEXT_MASTER_TEMPLATE), (Fld.ne F_ordinal_OGRAPHICS F_ordinal_OTEXT_MASTER_TEMPLATE (by decide) : w_OGRAPHICS ≠ w_OTEXT_MASTER_TEMPLATE), (Fld.ne F_ordinal_OGRAPHICS_TEMPLATE F_ordinal_OTEXT_MASTER_TEMPLATE (by decide) : w_OGRAPHICS_TEMPLATE ≠ w_OTEXT_MASTER_TEMPLATE)]
  · simp [own_for, own_media, own_exp, (Fld.ne F_ordinal_OTEXT F_ordinal_OTEXT_WEB (by decide) : w_OTEXT ≠ w_OTEXT_WEB), (Fld.ne F_ordinal_OTEXT_TEMPLATE F_ordinal_OTEXT_WEB (by decide) : w_OTEXT_TEMPLATE ≠ w_OTEXT_WEB), (Fld.ne F_ordinal_OSPREADSHEET F_ordinal_OTEXT_WEB (by decide) : w_OSPREADSHEET ≠ w_OTEXT_WEB), (Fld.ne F_ordinal_OSPREADSHEET_TEMPLATE F_ordinal_OTEXT_WEB (by decide) : w_OSPREADSHEET_TEMPLATE ≠ w_OTEXT_WEB), (Fld.ne F_ordinal_OPRESENTATION F_ordinal_OTEXT_WEB (by decide) : w_OPRESENTATION ≠ w_OTEXT_WEB), (Fld.ne F_ordinal_OPRESENTATION_TEMPLATE F_ordinal_OTEXT_WEB (by decide) : w_OPRESENTATION_TEMPLATE ≠ w_OTEXT_WEB), (Fld.ne F_ordinal_OGRAPHICS F_ordinal_OTEXT_WEB (by decide) : w_OGRAPHICS ≠ w_OTEXT_WEB), (Fld.ne F_ordinal_OGRAPHICS_TEMPLATE F_ordinal_OTEXT_WEB (by decide) : w_OGRAPHICS_TEMPLATE ≠ w_OTEXT_WEB)]
  · simp [own_for, own_media, own_exp, (Fld.ne F_ordinal_OTEXT F_ordinal_OSPREADSHEET (by decide) : w_OTEXT ≠ w_OSPREADSHEET), (Fld.ne F_ordinal_OTEXT_TEMPLATE F_ordinal_OSPREADSHEET (by decide) : w_OTEXT_TEMPLATE ≠ w_OSPREADSHEET)]
  · simp [own_for, own_media, own_exp, (Fld.ne F_ordinal_OTEXT F_ordinal_OSPREADSHEET_TEMPLATE (by decide) : w_OTEXT ≠ w_OSPREADSHEET_TEMPLATE), (Fld.ne F_ordinal_OTEXT_TEMPLATE F_ordinal_OSPREADSHEET_TEMPLATE (by decide) : w_OTEXT_TEMPLATE ≠ w_OSPREADSHEET_TEMPLATE), (Fld.ne F_ordinal_OSPREADSHEET F_ordinal_OSPREADSHEET_TEMPLATE (by decide) : w_OSPREADSHEET ≠ w_OSPREADSHEET_TEMPLATE)]
  · simp [own_for, own_media, own_exp, (Fld.ne F_ordinal_OTEXT F_ordinal_OPRESENTATION (by decide) : w_OTEXT ≠ w_OPRESENTATION), (Fld.ne F_ordinal_OTEXT_TEMPLATE F_ordinal_OPRESENTATION (by decide) : w_OTEXT_TEMPLATE ≠ w_OPRESENTATION), (Fld.ne F_ordinal_OSPREADSHEET F_ordinal_OPRESENTATION (by decide) : w_OSPREADSHEET ≠ w_OPRESENTATION), (Fld.ne F_ordinal_OSPREADSHEET_TEMPLATE F_ordinal_OPRESENTATION (by decide) : w_OSPREADSHEET_TEMPLATE ≠ w_OPRESENTATION)]
  · simp [own_for, own_media, own_exp, (Fld.ne F_ordinal_OTEXT F_ordinal_OPRESENTATION_TEMPLATE (by decide) : w_OTEXT ≠ w_OPRESENTATION_TEMPLATE), (Fld.ne F_ordinal_OTEXT_TEMPLATE F_ordinal_OPRESENTATION_TEMPLATE (by decide) : w_OTEXT_TEMPLATE ≠ w_OPRESENTATION_TEMPLATE), (Fld.ne F_ordinal_OSPREADSHEET F_ordinal_OPRESENTATION_TEMPLATE (by decide) : w_OSPREADSHEET ≠ w_OPRESENTATION_TEMPLATE), (Fld.ne F_ordinal_OSPREADSHEET_TEMPLATE F_ordinal_OPRESENTATION_TEMPLATE (by decide) : w_OSPREADSHEET_TEMPLATE ≠ w_OPRESENTATION_TEMPLATE), (Fld.ne F_ordinal_OPRESENTATION F_ordinal_OPRESENTATION_TEMPLATE (by decide) : w_OPRESENTATION ≠ w_OPRESENTATION_TEMPLATE)]
  · simp [own_for, own_media, own_exp, (Fld.ne F_ordinal_OTEXT F_ordinal_OGRAPHICS (by decide) : w_OTEXT ≠ w_OGRAPHICS), (Fld.ne F_ordinal_OTEXT_TEMPLATE F_ordinal_OGRAPHICS (by decide) : w_OTEXT_TEMPLATE ≠ w_OGRAPHICS), (Fld.ne F_ordinal_OSPREADSHEET F_ordinal_OGRAPHICS (by decide) : w_OSPREADSHEET ≠ w_OGRAPHICS), (Fld.ne F_ordinal_OSPREADSHEET_TEMPLATE F_ordinal_OGRAPHICS (by decide) : w_OSPREADSHEET_TEMPLATE ≠ w_OGRAPHICS), (Fld.ne F_ordinal_OPRESENTATION F_ordinal_OGRAPHICS (by decide) : w_OPRESENTATION ≠ w_OGRAPHICS), (Fld.ne F_ordinal_OPRESENTATION_TEMPLATE F_ordinal_OGRAPHICS (by decide) : w_OPRESENTATION_TEMPLATE ≠ w_OGRAPHICS)]
  · simp [own_for, own_media, own_exp, (Fld.ne F_ordinal_OTEXT F_ordinal_OGRAPHICS_TEMPLATE (by decide) : w_OTEXT ≠ w_OGRAPHICS_TEMPLATE), (Fld.ne F_ordinal_OTEXT_TEMPLATE F_ordinal_OGRAPHICS_TEMPLATE (by decide) : w_OTEXT_TEMPLATE ≠ w_OGRAPHICS_TEMPLATE), (Fld.ne F_ordinal_OSPREADSHEET F_ordinal_OGRAPHICS_TEMPLATE (by decide) : w_OSPREADSHEET ≠ w_OGRAPHICS_TEMPLATE), (Fld.ne F_ordinal_OSPREADSHEET_TEMPLATE F_ordinal_OGRAPHICS_TEMPLATE (by decide) : w_OSPREADSHEET_TEMPLATE ≠ w_OGRAPHICS_TEMPLATE), (Fld.ne F_ordinal_OPRESENTATION F_ordinal_OGRAPHICS_TEMPLATE (by decide) : w_OPRESENTATION ≠ w_OGRAPHICS_TEMPLATE), (Fld.ne F_ordinal_OPRESENTATION_TEMPLATE F_ordinal_OGRAPHICS_TEMPLATE (by decide) : w_OPRESENTATION_TEMPLATE ≠ w_OGRAPHICS_TEMPLATE), (Fld.ne F_ordinal_OGRAPHICS F_ordinal_OGRAPHICS_TEMPLATE (by decide) : w_OGRAPHICS ≠ w_OGRAPHICS_TEMPLATE)]
  · simp [own_for, own_media, own_exp, (Fld.ne F_ordinal_OTEXT F_ordinal_OCHART (by decide) : w_OTEXT ≠ w_OCHART), (Fld.ne F_ordinal_OTEXT_TEMPLATE F_ordinal_OCHART (by decide) : w_OTEXT_TEMPLATE ≠ w_OCHART), (Fld.ne F_ordinal_OSPREADSHEET F_ordinal_OCHART (by decide) : w_OSPREADSHEET ≠ w_OCHART), (Fld.ne F_ordinal_OSPREADSHEET_TEMPLATE F_ordinal_OCHART (by decide) : w_OSPREADSHEET_TEMPLATE ≠ w_OCHART), (Fld.ne F_ordinal_OPRESENTATION F_ordinal_OCHART (by decide) : w_OPRESENTATION ≠ w_OCHART), (Fld.ne F_ordinal_OPRESENTATION_TEMPLATE F_ordinal_OCHART (by decide) : w_OPRESENTATION_TEMPLATE ≠ w_OCHART), (Fld.ne F_ordinal_OGRAPHICS F_ordinal_OCHART (by decide) : w_OGRAPHICS ≠ w_OCHART), (Fld.ne F_ordinal_OGRAPHICS_TEMPLATE F_ordinal_OCHART (by decide) : w_OGRAPHICS_TEMPLATE ≠ w_OCHART)]
  · simp [own_for, own_media, own_exp, (Fld.ne F_ordinal_OTEXT F_ordinal_OCHART_TEMPLATE (by decide) : w_OTEXT ≠ w_OCHART_TEMPLATE), (Fld.ne F_ordinal_OTEXT_TEMPLATE F_ordinal_OCHART_TEMPLATE (by decide) : w_OTEXT_TEMPLATE ≠ w_OCHART_TEMPLATE), (Fld.ne F_ordinal_OSPREADSHEET F_ordinal_OCHART_TEMPLATE (by decide) : w_OSPREADSHEET ≠ w_OCHART_TEMPLATE), (Fld.ne F_ordinal_OSPREADSHEET_TEMPLATE F_ordinal_OCHART_TEMPLATE (by decide) : w_OSPREADSHEET_TEMPLATE ≠ w_OCHART_TEMPLATE), (Fld.ne F_ordinal_OPRESENTATION F_ordinal_OCHART_TEMPLATE (by decide) : w_OPRESENTATION ≠ w_OCHART_TEMPLATE), (Fld.ne F_ordinal_OPRESENTATION_TEMPLATE F_ordinal_OCHART_TEMPLATE (by decide) : w_OPRESENTATION_TEMPLATE ≠ w_OCHART_TEMPLATE), (Fld.ne F_ordinal_OGRAPHICS F_ordinal_OCHART_TEMPLATE (by decide) : w_OGRAPHICS ≠ w_OCHART_TEMPLATE), (Fld.ne F_ordinal_OGRAPHICS_TEMPLATE F_ordinal_OCHART_TEMPLATE (by decide) : w_OGRAPHICS_TEMPLATE ≠ w_OCHART_TEMPLATE)]
  · simp [own_for, own_media, own_exp, (Fld.ne F_ordinal_OTEXT F_ordinal_OIMAGE (by decide) : w_OTEXT ≠ w_OIMAGE), (Fld.ne F_ordinal_OTEXT_TEMPLATE F_ordinal_OIMAGE (by decide) : w_OTEXT_TEMPLATE ≠ w_OIMAGE), (Fld.ne F_ordinal_OSPREADSHEET F_ordinal_OIMAGE (by decide) : w_OSPREADSHEET ≠ w_OIMAGE), (Fld.ne F_ordinal_OSPREADSHEET_TEMPLATE F_ordinal_OIMAGE (by decide) : w_OSPREADSHEET_TEMPLATE ≠ w_OIMAGE), (Fld.ne F_ordinal_OPRESENTATION F_ordinal_OIMAGE (by decide) : w_OPRESENTATION ≠ w_OIMAGE), (Fld.ne F_ordinal_OPRESENTATION_TEMPLATE F_ordinal_OIMAGE (by decide) : w_OPRESENTATION_TEMPLATE ≠ w_OIMAGE), (Fld.ne F_ordinal_OGRAPHICS F_ordinal_OIMAGE (by decide) : w_OGRAPHICS ≠ w_OIMAGE), (Fld.ne F_ordinal_OGRAPHICS_TEMPLATE F_ordinal_OIMAGE (by decide) : w_OGRAPHICS_TEMPLATE ≠ w_OIMAGE)]
  · simp [own_for, own_media, own_exp, (Fld.ne F_ordinal_OTEXT F_ordinal_OIMAGE_TEMPLATE (by decide) : w_OTEXT ≠ w_OIMAGE_TEMPLATE), (Fld.ne F_ordinal_OTEXT_TEMPLATE F_ordinal_OIMAGE_TEMPLATE (by decide) : w_OTEXT_TEMPLATE ≠ w_OIMAGE_TEMPLATE), (Fld.ne F_ordinal_OSPREADSHEET F_ordinal_OIMAGE_TEMPLATE (by decide) : w_OSPREADSHEET ≠ w_OIMAGE_TEMPLATE), (Fld.ne F_ordinal_OSPREADSHEET_TEMPLATE F_ordinal_OIMAGE_TEMPLATE (by decide) : w_OSPREADSHEET_TEMPLATE ≠ w_OIMAGE_TEMPLATE), (Fld.ne F_ordinal_OPRESENTATION F_ordinal_OIMAGE_TEMPLATE (by decide) : w_OPRESENTATION ≠ w_OIMAGE_TEMPLATE), (Fld.ne F_ordinal_OPRESENTATION_TEMPLATE F_ordinal_OIMAGE_TEMPLATE (by decide) : w_OPRESENTATION_TEMPLATE ≠ w_OIMAGE_TEMPLATE), (Fld.ne F_ordinal_OGRAPHICS F_ordinal_OIMAGE_TEMPLATE (by decide) : w_OGRAPHICS ≠ w_OIMAGE_TEMPLATE), (Fld.ne F_ordinal_OGRAPHICS_TEMPLATE F_ordinal_OIMAGE_TEMPLATE (by decide) : w_OGRAPHICS_TEMPLATE ≠ w_OIMAGE_TEMPLATE)]
  · simp [own_for, own_media, own_exp, (Fld.ne F_ordinal_OTEXT F_ordinal_OFORMULA (by decide) : w_OTEXT ≠ w_OFORMULA), (Fld.ne F_ordinal_OTEXT_TEMPLATE F_ordinal_OFORMULA (by decide) : w_OTEXT_TEMPLATE ≠ w_OFORMULA), (Fld.ne F_ordinal_OSPREADSHEET F_ordinal_OFORMULA (by decide) : w_OSPREADSHEET ≠ w_OFORMULA), (Fld.ne F_ordinal_OSPREADSHEET_TEMPLATE F_ordinal_OFORMULA (by decide) : w_OSPREADSHEET_TEMPLATE ≠ w_OFORMULA), (Fld.ne F_ordinal_OPRESENTATION F_ordinal_OFORMULA (by decide) : w_OPRESENTATION ≠ w_OFORMULA), (Fld.ne F_ordinal_OPRESENTATION_TEMPLATE F_ordinal_OFORMULA (by decide) : w_OPRESENTATION_TEMPLATE ≠ w_OFORMULA), (Fld.ne F_ordinal_OGRAPHICS F_ordinal_OFORMULA (by decide) : w_OGRAPHICS ≠ w_OFORMULA), (Fld.ne F_ordinal_OGRAPHICS_TEMPLATE F_ordinal_OFORMULA (by decide) : w_OGRAPHICS_TEMPLATE ≠ w_OFORMULA)]
  · simp [own_for, own_media, own_exp, (Fld.ne F_ordinal_OTEXT F_ordinal_OFORMULA_TEMPLATE (by decide) : w_OTEXT ≠ w_OFORMULA_TEMPLATE), (Fld.ne F_ordinal_OTEXT_TEMPLATE F_ordinal_OFORMULA_TEMPLATE (by decide) : w_OTEXT_TEMPLATE ≠ w_OFORMULA_TEMPLATE), (Fld.ne F_ordinal_OSPREADSHEET F_ordinal_OFORMULA_TEMPLATE (by decide) : w_OSPREADSHEET ≠ w_OFORMULA_TEMPLATE), (Fld.ne F_ordinal_OSPREADSHEET_TEMPLATE F_ordinal_OFORMULA_TEMPLATE (by decide) : w_OSPREADSHEET_TEMPLATE ≠ w_OFORMULA_TEMPLATE), (Fld.ne F_ordinal_OPRESENTATION F_ordinal_OFORMULA_TEMPLATE (by decide) : w_OPRESENTATION ≠ w_OFORMULA_TEMPLATE), (Fld.ne F_ordinal_OPRESENTATION_TEMPLATE F_ordinal_OFORMULA_TEMPLATE (by decide) : w_OPRESENTATION_TEMPLATE ≠ w_OFORMULA_TEMPLATE), (Fld.ne F_ordinal_OGRAPHICS F_ordinal_OFORMULA_TEMPLATE (by decide) : w_OGRAPHICS ≠ w_OFORMULA_TEMPLATE), (Fld.ne F_ordinal_OGRAPHICS_TEMPLATE F_ordinal_OFORMULA_TEMPLATE (by decide) : w_OGRAPHICS_TEMPLATE ≠ w_OFORMULA_TEMPLATE)]
  · simp [own_for, own_media, own_exp, (Fld.ne F_ordinal_OTEXT F_ordinal_OBASE (by decide) : w_OTEXT ≠ w_OBASE), (Fld.ne F_ordinal_OTEXT_TEMPLATE F_ordinal_OBASE (by decide) : w_OTEXT_TEMPLATE ≠ w_OBASE), (Fld.ne F_ordinal_OSPREADSHEET F_ordinal_OBASE (by decide) : w_OSPREADSHEET ≠ w_OBASE), (Fld.ne F_ordinal_OSPREADSHEET_TEMPLATE F_ordinal_OBASE (by decide) : w_OSPREADSHEET_TEMPLATE ≠ w_OBASE), (Fld.ne F_ordinal_OPRESENTATION F_ordinal_OBASE (by decide) : w_OPRESENTATION ≠ w_OBASE), (Fld.ne F_ordinal_OPRESENTATION_TEMPLATE F_ordinal_OBASE (by decide) : w_OPRESENTATION_TEMPLATE ≠ w_OBASE), (Fld.ne F_ordinal_OGRAPHICS F_ordinal_OBASE (by decide) : w_OGRAPHICS ≠ w_OBASE), (Fld.ne F_ordinal_OGRAPHICS_TEMPLATE F_ordinal_OBASE (by decide) : w_OGRAPHICS_TEMPLATE ≠ w_OBASE)]
  · simp [own_for, own_media, own_exp]
theorem own_rem19 (x : Int32) : ∃ k : Nat, k < 19 ∧ (x &&& (2147483647 : Int32)) % (19 : Int32) = Int32.ofNat k := by
  have e1 : (x &&& (2147483647 : Int32)).toInt = x.toInt % 2 ^ 31 := Jvm.Kit.i32_mask x 2147483647 (k := 31) (by decide) (by decide)
  have e2 : ((x &&& (2147483647 : Int32)) % (19 : Int32)).toInt = (x &&& (2147483647 : Int32)).toInt.tmod 19 := by rw [Int32.toInt_mod]; rfl
  refine ⟨(x.toInt % 2 ^ 31 % 19).toNat, by omega, ?_⟩
  apply Int32.toInt_inj.mp
  rw [e2, e1, Int.tmod_eq_emod_of_nonneg (by omega), Int32.toInt_ofNat_of_lt (by omega)]
  omega
theorem own_cases19 (x : Int32) : ∃ i : Int32, (x &&& (2147483647 : Int32)) % (19 : Int32) = i ∧ (i = 0 ∨ i = 1 ∨ i = 2 ∨ i = 3 ∨ i = 4 ∨ i = 5 ∨ i = 6 ∨ i = 7 ∨ i = 8 ∨ i = 9 ∨ i = 10 ∨ i = 11 ∨ i = 12 ∨ i = 13 ∨ i = 14 ∨ i = 15 ∨ i = 16 ∨ i = 17 ∨ i = 18) := by
  obtain ⟨k, hk, e⟩ := own_rem19 x
  refine ⟨_, e, ?_⟩
  have hk' : k = 0 ∨ k = 1 ∨ k = 2 ∨ k = 3 ∨ k = 4 ∨ k = 5 ∨ k = 6 ∨ k = 7 ∨ k = 8 ∨ k = 9 ∨ k = 10 ∨ k = 11 ∨ k = 12 ∨ k = 13 ∨ k = 14 ∨ k = 15 ∨ k = 16 ∨ k = 17 ∨ k = 18 := by omega
  rcases hk' with rfl | rfl | rfl | rfl | rfl | rfl | rfl | rfl | rfl | rfl | rfl | rfl | rfl | rfl | rfl | rfl | rfl | rfl | rfl <;> decide
theorem own_ef_law (m : MethodId) (x0 : Int32) : entryFrame m #[(.int x0)] maxLocals = mkF m 0 #[.val (.int x0), .unset, .unset, .unset] [] := by first | (simp [entryFrame, mkF, argsToLocals, Value.category, maxLocals]; done) | rfl
def own_Q_law (Z : State) (p1 : Int32) (w_V : Addr) (kV : ClassId) (w_OTEXT : Addr) (w_OTEXT_TEMPLATE : Addr) (w_OTEXT_MASTER : Addr) (w_OTEXT_MASTER_TEMPLATE : Addr) (w_OTEXT_WEB : Addr) (w_OSPREADSHEET : Addr) (w_OSPREADSHEET_TEMPLATE : Addr) (w_OPRESENTATION : Addr) (w_OPRESENTATION_TEMPLATE : Addr) (w_OGRAPHICS : Addr) (w_OGRAPHICS_TEMPLATE : Addr) (w_OCHART : Addr) (w_OCHART_TEMPLATE : Addr) (w_OIMAGE : Addr) (w_OIMAGE_TEMPLATE : Addr) (w_OFORMULA : Addr) (w_OFORMULA_TEMPLATE : Addr) (w_OBASE : Addr) (w_DTEXT : Addr) (w_DSPREADSHEET : Addr) (w_DPRESENTATION : Addr) (w_DDRAWING : Addr) (h0 : Heap) (n0 : Nat) (v : Option Value) (h : Heap) (L : List Loc) : Prop := v = some (.int 1) ∧ Fr n0 L
set_option maxRecDepth 65536 in
set_option maxHeartbeats 40000000 in
theorem own_rm_law (l : Launch) (Z : State) (a0 : Array Value) (hw : ∀ d ∈ tables_1, d.before a0 Z = true) (ws : List Jvm.Cond) (p1 : Int32) (w_V : Addr) (kV : ClassId) (w_OTEXT : Addr) (w_OTEXT_TEMPLATE : Addr) (w_OTEXT_MASTER : Addr) (w_OTEXT_MASTER_TEMPLATE : Addr) (w_OTEXT_WEB : Addr) (w_OSPREADSHEET : Addr) (w_OSPREADSHEET_TEMPLATE : Addr) (w_OPRESENTATION : Addr) (w_OPRESENTATION_TEMPLATE : Addr) (w_OGRAPHICS : Addr) (w_OGRAPHICS_TEMPLATE : Addr) (w_OCHART : Addr) (w_OCHART_TEMPLATE : Addr) (w_OIMAGE : Addr) (w_OIMAGE_TEMPLATE : Addr) (w_OFORMULA : Addr) (w_OFORMULA_TEMPLATE : Addr) (w_OBASE : Addr) (w_DTEXT : Addr) (w_DSPREADSHEET : Addr) (w_DPRESENTATION : Addr) (w_DDRAWING : Addr) (h0 : Heap) (n0 : Nat) (Z0 : n0 ≤ h0.size) (S_OTEXT : Sta Z h0 "com/example/quire/quire/pkg/OdfMediaType" "TEXT" "Lcom/example/quire/quire/pkg/OdfMediaType;" (.ref w_OTEXT)) (S_OTEXT_TEMPLATE : Sta Z h0 "com/example/quire/quire/pkg/OdfMediaType" "TEXT_TEMPLATE" "Lcom/example/quire/quire/pkg/OdfMediaType;" (.ref w_OTEXT_TEMPLATE)) (S_OTEXT_MASTER : Sta Z h0 "com/example/quire/quire/pkg/OdfMediaType" "TEXT_MASTER" "Lcom/example/quire/quire/pkg/OdfMediaType;" (.ref w_OTEXT_MASTER)) (S_OTEXT_MASTER_TEMPLATE : Sta Z h0 "com/example/quire/quire/pkg/OdfMediaType" "TEXT_MASTER_TEMPLATE" "Lcom/example/quire/quire/pkg/OdfMediaType;" (.ref w_OTEXT_MASTER_TEMPLATE)) (S_OTEXT_WEB : Sta Z h0 "com/example/quire/quire/pkg/OdfMediaType" "TEXT_WEB" "Lcom/example/quire/quire/pkg/OdfMediaType;" (.ref w_OTEXT_WEB)) (S_OSPREADSHEET : Sta Z h0 "com/example/quire/quire/pkg/OdfMediaType" "SPREADSHEET" "Lcom/example/quire/quire/pkg/OdfMediaType;" (.ref w_OSPREADSHEET)) (S_OSPREADSHEET_TEMPLATE : Sta Z h0 "com/example/quire/quire/pkg/OdfMediaType" "SPREADSHEET_TEMPLATE" "Lcom/example/quire/quire/pkg/OdfMediaType;" (.ref w_OSPREADSHEET_TEMPLATE)) (S_OPRESENTATION : Sta Z h0 "com/example/quire/quire/pkg/OdfMediaType" "PRESENTATION" "Lcom/example/quire/quire/pkg/OdfMediaType;" (.ref w_OPRESENTATION)) (S_OPRESENTATION_TEMPLATE : Sta Z h0 "com/example/quire/quire/pkg/OdfMediaType" "PRESENTATION_TEMPLATE" "Lcom/example/quire/quire/pkg/OdfMediaType;" (.ref w_OPRESENTATION_TEMPLATE)) (S_OGRAPHICS : Sta Z h0 "com/example/quire/quire/pkg/OdfMediaType" "GRAPHICS" "Lcom/example/quire/quire/pkg/OdfMediaType;" (.ref w_OGRAPHICS)) (S_OGRAPHICS_TEMPLATE : Sta Z h0 "com/example/quire/quire/pkg/OdfMediaType" "GRAPHICS_TEMPLATE" "Lcom/example/quire/quire/pkg/OdfMediaType;" (.ref w_OGRAPHICS_TEMPLATE)) (S_OCHART : Sta Z h0 "com/example/quire/quire/pkg/OdfMediaType" "CHART" "Lcom/example/quire/quire/pkg/OdfMediaType;" (.ref w_OCHART)) (S_OCHART_TEMPLATE : Sta Z h0 "com/example/quire/quire/pkg/OdfMediaType" "CHART_TEMPLATE" "Lcom/example/quire/quire/pkg/OdfMediaType;" (.ref w_OCHART_TEMPLATE)) (S_OIMAGE : Sta Z h0 "com/example/quire/quire/pkg/OdfMediaType" "IMAGE" "Lcom/example/quire/quire/pkg/OdfMediaType;" (.ref w_OIMAGE)) (S_OIMAGE_TEMPLATE : Sta Z h0 "com/example/quire/quire/pkg/OdfMediaType" "IMAGE_TEMPLATE" "Lcom/example/quire/quire/pkg/OdfMediaType;" (.ref w_OIMAGE_TEMPLATE)) (S_OFORMULA : Sta Z h0 "com/example/quire/quire/pkg/OdfMediaType" "FORMULA" "Lcom/example/quire/quire/pkg/OdfMediaType;" (.ref w_OFORMULA)) (S_OFORMULA_TEMPLATE : Sta Z h0 "com/example/quire/quire/pkg/OdfMediaType" "FORMULA_TEMPLATE" "Lcom/example/quire/quire/pkg/OdfMediaType;" (.ref w_OFORMULA_TEMPLATE)) (S_OBASE : Sta Z h0 "com/example/quire/quire/pkg/OdfMediaType" "BASE" "Lcom/example/quire/quire/pkg/OdfMediaType;" (.ref w_OBASE)) (S_DTEXT : Sta Z h0 "com/example/quire/quire/document/DocumentKind" "TEXT" "Lcom/example/quire/quire/document/DocumentKind;" (.ref w_DTEXT)) (S_DSPREADSHEET : Sta Z h0 "com/example/quire/quire/document/DocumentKind" "SPREADSHEET" "Lcom/example/quire/quire/document/DocumentKind;" (.ref w_DSPREADSHEET)) (S_DPRESENTATION : Sta Z h0 "com/example/quire/quire/document/DocumentKind" "PRESENTATION" "Lcom/example/quire/quire/document/DocumentKind;" (.ref w_DPRESENTATION)) (S_DDRAWING : Sta Z h0 "com/example/quire/quire/document/DocumentKind" "DRAWING" "Lcom/example/quire/quire/document/DocumentKind;" (.ref w_DDRAWING)) (S_V : Sta Z h0 "com/example/quire/quire/document/DocumentKind" "$VALUES" "[Lcom/example/quire/quire/document/DocumentKind;" (.ref w_V)) (E_V : Exa Z h0 w_V "[Lcom/example/quire/quire/document/DocumentKind;") (A_V : Arv Z h0 w_V kV (.object "com/example/quire/quire/document/DocumentKind") 4 [Value.ref w_DTEXT, Value.ref w_DSPREADSHEET, Value.ref w_DPRESENTATION, Value.ref w_DDRAWING] .null) (F_documentType_DTEXT : Fld Z h0 w_DTEXT "com/example/quire/quire/document/DocumentKind" "documentType" "Lcom/example/quire/quire/pkg/OdfMediaType;" (.ref w_OTEXT)) (F_documentType_DSPREADSHEET : Fld Z h0 w_DSPREADSHEET "com/example/quire/quire/document/DocumentKind" "documentType" "Lcom/example/quire/quire/pkg/OdfMediaType;" (.ref w_OSPREADSHEET)) (F_documentType_DPRESENTATION : Fld Z h0 w_DPRESENTATION "com/example/quire/quire/document/DocumentKind" "documentType" "Lcom/example/quire/quire/pkg/OdfMediaType;" (.ref w_OPRESENTATION)) (F_documentType_DDRAWING : Fld Z h0 w_DDRAWING "com/example/quire/quire/document/DocumentKind" "documentType" "Lcom/example/quire/quire/pkg/OdfMediaType;" (.ref w_OGRAPHICS)) (F_templateType_DTEXT : Fld Z h0 w_DTEXT "com/example/quire/quire/document/DocumentKind" "templateType" "Lcom/example/quire/quire/pkg/OdfMediaType;" (.ref w_OTEXT_TEMPLATE)) (F_templateType_DSPREADSHEET : Fld Z h0 w_DSPREADSHEET "com/example/quire/quire/document/DocumentKind" "templateType" "Lcom/example/quire/quire/pkg/OdfMediaType;" (.ref w_OSPREADSHEET_TEMPLATE)) (F_templateType_DPRESENTATION : Fld Z h0 w_DPRESENTATION "com/example/quire/quire/document/DocumentKind" "templateType" "Lcom/example/quire/quire/pkg/OdfMediaType;" (.ref w_OPRESENTATION_TEMPLATE)) (F_templateType_DDRAWING : Fld Z h0 w_DDRAWING "com/example/quire/quire/document/DocumentKind" "templateType" "Lcom/example/quire/quire/pkg/OdfMediaType;" (.ref w_OGRAPHICS_TEMPLATE)) (F_ordinal_OTEXT : Fld Z h0 w_OTEXT "java/lang/Enum" "ordinal" "I" (.int (0 : Int32))) (F_ordinal_OTEXT_TEMPLATE : Fld Z h0 w_OTEXT_TEMPLATE "java/lang/Enum" "ordinal" "I" (.int (1 : Int32))) (F_ordinal_OTEXT_MASTER : Fld Z h0 w_OTEXT_MASTER "java/lang/Enum" "ordinal" "I" (.int (2 : Int32))) (F_ordinal_OTEXT_MASTER_TEMPLATE : Fld Z h0 w_OTEXT_MASTER_TEMPLATE "java/lang/Enum" "ordinal" "I" (.int (3 : Int32))) (F_ordinal_OTEXT_WEB : Fld Z h0 w_OTEXT_WEB "java/lang/Enum" "ordinal" "I" (.int (4 : Int32))) (F_ordinal_OSPREADSHEET : Fld Z h0 w_OSPREADSHEET "java/lang/Enum" "ordinal" "I" (.int (5 : Int32))) (F_ordinal_OSPREADSHEET_TEMPLATE : Fld Z h0 w_OSPREADSHEET_TEMPLATE "java/lang/Enum" "ordinal" "I" (.int (6 : Int32))) (F_ordinal_OPRESENTATION : Fld Z h0 w_OPRESENTATION "java/lang/Enum" "ordinal" "I" (.int (7 : Int32))) (F_ordinal_OPRESENTATION_TEMPLATE : Fld Z h0 w_OPRESENTATION_TEMPLATE "java/lang/Enum" "ordinal" "I" (.int (8 : Int32))) (F_ordinal_OGRAPHICS : Fld Z h0 w_OGRAPHICS "java/lang/Enum" "ordinal" "I" (.int (9 : Int32))) (F_ordinal_OGRAPHICS_TEMPLATE : Fld Z h0 w_OGRAPHICS_TEMPLATE "java/lang/Enum" "ordinal" "I" (.int (10 : Int32))) (F_ordinal_OCHART : Fld Z h0 w_OCHART "java/lang/Enum" "ordinal" "I" (.int (11 : Int32))) (F_ordinal_OCHART_TEMPLATE : Fld Z h0 w_OCHART_TEMPLATE "java/lang/Enum" "ordinal" "I" (.int (12 : Int32))) (F_ordinal_OIMAGE : Fld Z h0 w_OIMAGE "java/lang/Enum" "ordinal" "I" (.int (13 : Int32))) (F_ordinal_OIMAGE_TEMPLATE : Fld Z h0 w_OIMAGE_TEMPLATE "java/lang/Enum" "ordinal" "I" (.int (14 : Int32))) (F_ordinal_OFORMULA : Fld Z h0 w_OFORMULA "java/lang/Enum" "ordinal" "I" (.int (15 : Int32))) (F_ordinal_OFORMULA_TEMPLATE : Fld Z h0 w_OFORMULA_TEMPLATE "java/lang/Enum" "ordinal" "I" (.int (16 : Int32))) (F_ordinal_OBASE : Fld Z h0 w_OBASE "java/lang/Enum" "ordinal" "I" (.int (17 : Int32))) :
    MetFree l x (head1 (Jvm.Cond.code x code maxLocals ret :: ws) room_1) (fun zz U => zz = #[(.int p1)] ∧ Z.Warmed39 U.vm ∧ U.heap = h0) (fun _ _ _ _ _ => True) (fun _ U zo U' => ∃ v L, zo = .returned v ∧ own_Q_law Z p1 w_V kV w_OTEXT w_OTEXT_TEMPLATE w_OTEXT_MASTER w_OTEXT_MASTER_TEMPLATE w_OTEXT_WEB w_OSPREADSHEET w_OSPREADSHEET_TEMPLATE w_OPRESENTATION w_OPRESENTATION_TEMPLATE w_OGRAPHICS w_OGRAPHICS_TEMPLATE w_OCHART w_OCHART_TEMPLATE w_OIMAGE w_OIMAGE_TEMPLATE w_OFORMULA w_OFORMULA_TEMPLATE w_OBASE w_DTEXT w_DSPREADSHEET w_DPRESENTATION w_DDRAWING h0 n0 v U'.heap L ∧ FrameEnd U zo U' L 16 128) := by
  refine MetFree.of_bodySF (plainFor_of_name own_pn0) hisR ?_
  intro p e s m args below meth c s₁ Bd hml0 hP hK
  obtain ⟨rfl, hZ, hh⟩ := hP
  have hx := Bd.exec
  have hby := Bd.bytes
  have hml : c.maxLocals = 4 := hml0
  have hown : s.vm.findClass "com/example/quire/quire/document/DocumentKindForMediaTypePinLaw" = some m.cls := findClass_of_methodNamed Bd.named
  have hnm := (name_of_methodNamed Bd.named Bd.method).1
  have X0 : Stand p l e room_1 s m #[(.int p1)] below meth c s₁ [] 0 0 := Stand.of_body Bd
  have e0 : s₁.heap = h0 := by rw [← hh, Bd.state]; rfl
  have N0 := Fr.nil n0
  show own_Go p e below (own_K s (own_Q_law Z p1 w_V kV w_OTEXT w_OTEXT_TEMPLATE w_OTEXT_MASTER w_OTEXT_MASTER_TEMPLATE w_OTEXT_WEB w_OSPREADSHEET w_OSPREADSHEET_TEMPLATE w_OPRESENTATION w_OPRESENTATION_TEMPLATE w_OGRAPHICS w_OGRAPHICS_TEMPLATE w_OCHART w_OCHART_TEMPLATE w_OIMAGE w_OIMAGE_TEMPLATE w_OFORMULA w_OFORMULA_TEMPLATE w_OBASE w_DTEXT w_DSPREADSHEET w_DPRESENTATION w_DDRAWING h0 n0) 16 128) s₁ (entryFrame m #[(.int p1)] maxLocals)
  rw [own_ef_law m p1]
  show own_Go p e below _ s₁ (mkF m 0 #[iv p1, .unset, .unset, .unset] [])
  obtain ⟨i, hi, hc⟩ := own_cases19 p1
  refine own_st (fun _ k => XS.iloadN X0.here hx rfl (hb hby at_0) rfl k) ?_
  show own_Go p e below _ s₁ (mkF m 1 #[iv p1, .unset, .unset, .unset] [(.int p1)])
  refine own_st (fun _ k => Jvm.Stand.ldcI X0 hx hown (mvT hZ (hw _ (List.mem_of_getElem? (i := 0) rfl))) rfl (hb hby at_1) k) ?_
  show own_Go p e below _ s₁ (mkF m 3 #[iv p1, .unset, .unset, .unset] [(.int 2147483647), (.int p1)])
  refine own_st (fun _ k => XS.iand X0.here hx rfl (hb hby at_3) rfl k) ?_
  show own_Go p e below _ s₁ (mkF m 4 #[iv p1, .unset, .unset, .unset] [(.int (p1 &&& 2147483647))])
  refine own_st (fun _ k => XT.bipushV X0.here hx rfl (19 : Int32) (hb hby at_4) (by decide) k) ?_
  show own_Go p e below _ s₁ (mkF m 6 #[iv p1, .unset, .unset, .unset] [(.int 19), (.int (p1 &&& 2147483647))])
  refine own_st (fun _ k => iremM X0 hx rfl (hb hby at_6) rfl (by decide) k) ?_
  show own_Go p e below _ s₁ (mkF m 7 #[iv p1, .unset, .unset, .unset] [(.int ((p1 &&& 2147483647) % 19))])
  rw [hi]
  show own_Go p e below _ s₁ (mkF m 7 #[iv p1, .unset, .unset, .unset] [(.int i)])
  refine own_st (fun _ k => XS.istoreN X0.here hx rfl (hb hby at_7) rfl (l' := #[iv p1, iv i, .unset, .unset]) rfl k) ?_
  show own_Go p e below _ s₁ (mkF m 8 #[iv p1, iv i, .unset, .unset] [])
  refine own_st (fun _ k => XS.iloadN X0.here hx rfl (hb hby at_8) rfl k) ?_
  show own_Go p e below _ s₁ (mkF m 9 #[iv p1, iv i, .unset, .unset] [(.int i)])
  obtain ⟨_, _, ⟨T1, L1, k1, n1⟩, -, X1, ⟨Lc1, hQ1, l1, y1, z1⟩, st1⟩ := Jvm.LawKit.callS X0 hx (y := (⟨"com/example/quire/quire/document/DocumentKindForMediaTypePinLaw", "media", "(I)Lcom/example/quire/quire/pkg/OdfMediaType;"⟩ : MethodName)) hown (mvT hZ (hw _ (List.mem_of_getElem? (i := 1) rfl))) (mvT hZ (hw _ (List.mem_of_getElem? (i := 2) rfl))) (mvT hZ (hw _ (List.mem_of_getElem? (i := 3) rfl))) (mvT hZ (hw _ (List.mem_of_getElem? (i := 4) rfl))) (by decide) (backOf (W := 0) (own_rm_media l Z a0 hw [] i w_OTEXT w_OTEXT_TEMPLATE w_OTEXT_MASTER w_OTEXT_MASTER_TEMPLATE w_OTEXT_WEB w_OSPREADSHEET w_OSPREADSHEET_TEMPLATE w_OPRESENTATION w_OPRESENTATION_TEMPLATE w_OGRAPHICS w_OGRAPHICS_TEMPLATE w_OCHART w_OCHART_TEMPLATE w_OIMAGE w_OIMAGE_TEMPLATE w_OFORMULA w_OFORMULA_TEMPLATE w_OBASE h0 n0 Z0 S_OTEXT S_OTEXT_TEMPLATE S_OTEXT_MASTER S_OTEXT_MASTER_TEMPLATE S_OTEXT_WEB S_OSPREADSHEET S_OSPREADSHEET_TEMPLATE S_OPRESENTATION S_OPRESENTATION_TEMPLATE S_OGRAPHICS S_OGRAPHICS_TEMPLATE S_OCHART S_OCHART_TEMPLATE S_OIMAGE S_OIMAGE_TEMPLATE S_OFORMULA S_OFORMULA_TEMPLATE S_OBASE hc) hZ (hw _ (List.mem_of_getElem? (i := 4) rfl)) (hw _ (List.mem_of_getElem? (i := 3) rfl)) (by decide) (by decide)) (g := (mkF m 9 #[iv p1, iv i, .unset, .unset] [(.int i)])) rfl (by rw [hml]; rfl) (argsL := [(.int i)]) (rest := []) (lenOf own_pd1 rfl) rfl (by show 2 * 0 + _ ≤ _; exact Nat.le_of_eq rfl) (hb hby at_9) (fun _ _ => ⟨rfl, e0, (by decide : 0 + 0 ≤ _), (by decide : 0 + 0 ≤ _)⟩)
  dsimp only [Pt.U, Pt.locs, Pt.cells, Pt.slots] at X1 l1 y1 z1 st1 hQ1
  subst l1 y1 z1
  obtain ⟨rfl, N1, eh1⟩ := hQ1
  have M1 := Fr.app N0 N1
  refine own_st st1 ?_
  show own_Go p e below _ T1 (mkF m 12 #[iv p1, iv i, .unset, .unset] [(own_media w_OTEXT w_OTEXT_TEMPLATE w_OTEXT_MASTER w_OTEXT_MASTER_TEMPLATE w_OTEXT_WEB w_OSPREADSHEET w_OSPREADSHEET_TEMPLATE w_OPRESENTATION w_OPRESENTATION_TEMPLATE w_OGRAPHICS w_OGRAPHICS_TEMPLATE w_OCHART w_OCHART_TEMPLATE w_OIMAGE w_OIMAGE_TEMPLATE w_OFORMULA w_OFORMULA_TEMPLATE w_OBASE i)])
  refine own_st (fun _ k => XT.astoreNS X1.here hx rfl (hb hby at_12) rfl (own_media_ref w_OTEXT w_OTEXT_TEMPLATE w_OTEXT_MASTER w_OTEXT_MASTER_TEMPLATE w_OTEXT_WEB w_OSPREADSHEET w_OSPREADSHEET_TEMPLATE w_OPRESENTATION w_OPRESENTATION_TEMPLATE w_OGRAPHICS w_OGRAPHICS_TEMPLATE w_OCHART w_OCHART_TEMPLATE w_OIMAGE w_OIMAGE_TEMPLATE w_OFORMULA w_OFORMULA_TEMPLATE w_OBASE i) (XT.cat1 (own_media_ref w_OTEXT w_OTEXT_TEMPLATE w_OTEXT_MASTER w_OTEXT_MASTER_TEMPLATE w_OTEXT_WEB w_OSPREADSHEET w_OSPREADSHEET_TEMPLATE w_OPRESENTATION w_OPRESENTATION_TEMPLATE w_OGRAPHICS w_OGRAPHICS_TEMPLATE w_OCHART w_OCHART_TEMPLATE w_OIMAGE w_OIMAGE_TEMPLATE w_OFORMULA w_OFORMULA_TEMPLATE w_OBASE i)) rfl (Or.inl rfl) k) ?_
  show own_Go p e below _ T1 (mkF m 13 #[iv p1, iv i, .val (own_media w_OTEXT w_OTEXT_TEMPLATE w_OTEXT_MASTER w_OTEXT_MASTER_TEMPLATE w_OTEXT_WEB w_OSPREADSHEET w_OSPREADSHEET_TEMPLATE w_OPRESENTATION w_OPRESENTATION_TEMPLATE w_OGRAPHICS w_OGRAPHICS_TEMPLATE w_OCHART w_OCHART_TEMPLATE w_OIMAGE w_OIMAGE_TEMPLATE w_OFORMULA w_OFORMULA_TEMPLATE w_OBASE i), .unset] [])
  refine own_st (fun _ k => XS.iloadN X1.here hx rfl (hb hby at_13) rfl k) ?_
  show own_Go p e below _ T1 (mkF m 14 #[iv p1, iv i, .val (own_media w_OTEXT w_OTEXT_TEMPLATE w_OTEXT_MASTER w_OTEXT_MASTER_TEMPLATE w_OTEXT_WEB w_OSPREADSHEET w_OSPREADSHEET_TEMPLATE w_OPRESENTATION w_OPRESENTATION_TEMPLATE w_OGRAPHICS w_OGRAPHICS_TEMPLATE w_OCHART w_OCHART_TEMPLATE w_OIMAGE w_OIMAGE_TEMPLATE w_OFORMULA w_OFORMULA_TEMPLATE w_OBASE i), .unset] [(.int i)])
  obtain ⟨_, _, ⟨T2, L2, k2, n2⟩, -, X2, ⟨Lc2, hQ2, l2, y2, z2⟩, st2⟩ := Jvm.LawKit.callS X1 hx (y := (⟨"com/example/quire/quire/document/DocumentKindForMediaTypePinLaw", "expected", "(I)Lcom/example/quire/quire/document/DocumentKind;"⟩ : MethodName)) hown (mvT hZ (hw _ (List.mem_of_getElem? (i := 8) rfl))) (mvT hZ (hw _ (List.mem_of_getElem? (i := 9) rfl))) (mvT hZ (hw _ (List.mem_of_getElem? (i := 3) rfl))) (mvT hZ (hw _ (List.mem_of_getElem? (i := 10) rfl))) (by decide) (backOf (W := 0) (own_rm_exp l Z a0 hw [] i w_DTEXT w_DSPREADSHEET w_DPRESENTATION w_DDRAWING h0 n0 Z0 S_DTEXT S_DSPREADSHEET S_DPRESENTATION S_DDRAWING) hZ (hw _ (List.mem_of_getElem? (i := 10) rfl)) (hw _ (List.mem_of_getElem? (i := 3) rfl)) (by decide) (by decide)) (g := (mkF m 14 #[iv p1, iv i, .val (own_media w_OTEXT w_OTEXT_TEMPLATE w_OTEXT_MASTER w_OTEXT_MASTER_TEMPLATE w_OTEXT_WEB w_OSPREADSHEET w_OSPREADSHEET_TEMPLATE w_OPRESENTATION w_OPRESENTATION_TEMPLATE w_OGRAPHICS w_OGRAPHICS_TEMPLATE w_OCHART w_OCHART_TEMPLATE w_OIMAGE w_OIMAGE_TEMPLATE w_OFORMULA w_OFORMULA_TEMPLATE w_OBASE i), .unset] [(.int i)])) rfl (by rw [hml]; rfl) (argsL := [(.int i)]) (rest := []) (lenOf own_pd2 rfl) rfl (by show 2 * 0 + _ ≤ _; exact Nat.le_of_eq rfl) (hb hby at_14) (fun _ _ => ⟨rfl, eh1, (by decide : 0 + 0 ≤ _), (by decide : 0 + 0 ≤ _)⟩)
  dsimp only [Pt.U, Pt.locs, Pt.cells, Pt.slots] at X2 l2 y2 z2 st2 hQ2
  subst l2 y2 z2
  obtain ⟨rfl, N2, eh2⟩ := hQ2
  have M2 := Fr.app M1 N2
  refine own_st st2 ?_
  show own_Go p e below _ T2 (mkF m 17 #[iv p1, iv i, .val (own_media w_OTEXT w_OTEXT_TEMPLATE w_OTEXT_MASTER w_OTEXT_MASTER_TEMPLATE w_OTEXT_WEB w_OSPREADSHEET w_OSPREADSHEET_TEMPLATE w_OPRESENTATION w_OPRESENTATION_TEMPLATE w_OGRAPHICS w_OGRAPHICS_TEMPLATE w_OCHART w_OCHART_TEMPLATE w_OIMAGE w_OIMAGE_TEMPLATE w_OFORMULA w_OFORMULA_TEMPLATE w_OBASE i), .unset] [(own_exp w_DTEXT w_DSPREADSHEET w_DPRESENTATION w_DDRAWING i)])
  refine own_st (fun _ k => XT.astoreNS X2.here hx rfl (hb hby at_17) rfl (own_exp_ref w_DTEXT w_DSPREADSHEET w_DPRESENTATION w_DDRAWING i) (XT.cat1 (own_exp_ref w_DTEXT w_DSPREADSHEET w_DPRESENTATION w_DDRAWING i)) rfl (Or.inl rfl) k) ?_
  show own_Go p e below _ T2 (mkF m 18 #[iv p1, iv i, .val (own_media w_OTEXT w_OTEXT_TEMPLATE w_OTEXT_MASTER w_OTEXT_MASTER_TEMPLATE w_OTEXT_WEB w_OSPREADSHEET w_OSPREADSHEET_TEMPLATE w_OPRESENTATION w_OPRESENTATION_TEMPLATE w_OGRAPHICS w_OGRAPHICS_TEMPLATE w_OCHART w_OCHART_TEMPLATE w_OIMAGE w_OIMAGE_TEMPLATE w_OFORMULA w_OFORMULA_TEMPLATE w_OBASE i), .val (own_exp w_DTEXT w_DSPREADSHEET w_DPRESENTATION w_DDRAWING i)] [])
  refine own_st (fun _ k => XS.aloadN X2.here hx rfl (hb hby at_18) rfl (own_media_ref w_OTEXT w_OTEXT_TEMPLATE w_OTEXT_MASTER w_OTEXT_MASTER_TEMPLATE w_OTEXT_WEB w_OSPREADSHEET w_OSPREADSHEET_TEMPLATE w_OPRESENTATION w_OPRESENTATION_TEMPLATE w_OGRAPHICS w_OGRAPHICS_TEMPLATE w_OCHART w_OCHART_TEMPLATE w_OIMAGE w_OIMAGE_TEMPLATE w_OFORMULA w_OFORMULA_TEMPLATE w_OBASE i) k) ?_
  show own_Go p e below _ T2 (mkF m 19 #[iv p1, iv i, .val (own_media w_OTEXT w_OTEXT_TEMPLATE w_OTEXT_MASTER w_OTEXT_MASTER_TEMPLATE w_OTEXT_WEB w_OSPREADSHEET w_OSPREADSHEET_TEMPLATE w_OPRESENTATION w_OPRESENTATION_TEMPLATE w_OGRAPHICS w_OGRAPHICS_TEMPLATE w_OCHART w_OCHART_TEMPLATE w_OIMAGE w_OIMAGE_TEMPLATE w_OFORMULA w_OFORMULA_TEMPLATE w_OBASE i), .val (own_exp w_DTEXT w_DSPREADSHEET w_DPRESENTATION w_DDRAWING i)] [(own_media w_OTEXT w_OTEXT_TEMPLATE w_OTEXT_MASTER w_OTEXT_MASTER_TEMPLATE w_OTEXT_WEB w_OSPREADSHEET w_OSPREADSHEET_TEMPLATE w_OPRESENTATION w_OPRESENTATION_TEMPLATE w_OGRAPHICS w_OGRAPHICS_TEMPLATE w_OCHART w_OCHART_TEMPLATE w_OIMAGE w_OIMAGE_TEMPLATE w_OFORMULA w_OFORMULA_TEMPLATE w_OBASE i)])
  obtain ⟨_, _, ⟨T3, L3, k3, n3⟩, -, X3, ⟨Lc3, hQ3, l3, y3, z3⟩, st3⟩ := Jvm.LawKit.callS X2 hx (y := (⟨"com/example/quire/quire/document/DocumentKind", "forMediaType", "(Lcom/example/quire/quire/pkg/OdfMediaType;)Lcom/example/quire/quire/document/DocumentKind;"⟩ : MethodName)) hown (mvT hZ (hw _ (List.mem_of_getElem? (i := 14) rfl))) (mvT hZ (hw _ (List.mem_of_getElem? (i := 15) rfl))) (mvT hZ (hw _ (List.mem_of_getElem? (i := 12) rfl))) (mvT hZ (hw _ (List.mem_of_getElem? (i := 16) rfl))) (by decide) (backOf (W := 0) (own_rm_fmt l Z a0 hw [] (own_media w_OTEXT w_OTEXT_TEMPLATE w_OTEXT_MASTER w_OTEXT_MASTER_TEMPLATE w_OTEXT_WEB w_OSPREADSHEET w_OSPREADSHEET_TEMPLATE w_OPRESENTATION w_OPRESENTATION_TEMPLATE w_OGRAPHICS w_OGRAPHICS_TEMPLATE w_OCHART w_OCHART_TEMPLATE w_OIMAGE w_OIMAGE_TEMPLATE w_OFORMULA w_OFORMULA_TEMPLATE w_OBASE i) w_V kV w_DTEXT w_DSPREADSHEET w_DPRESENTATION w_DDRAWING w_OTEXT w_OTEXT_TEMPLATE w_OSPREADSHEET w_OSPREADSHEET_TEMPLATE w_OPRESENTATION w_OPRESENTATION_TEMPLATE w_OGRAPHICS w_OGRAPHICS_TEMPLATE h0 n0 Z0 (own_media_ref w_OTEXT w_OTEXT_TEMPLATE w_OTEXT_MASTER w_OTEXT_MASTER_TEMPLATE w_OTEXT_WEB w_OSPREADSHEET w_OSPREADSHEET_TEMPLATE w_OPRESENTATION w_OPRESENTATION_TEMPLATE w_OGRAPHICS w_OGRAPHICS_TEMPLATE w_OCHART w_OCHART_TEMPLATE w_OIMAGE w_OIMAGE_TEMPLATE w_OFORMULA w_OFORMULA_TEMPLATE w_OBASE i) S_V E_V A_V F_documentType_DTEXT F_documentType_DSPREADSHEET F_documentType_DPRESENTATION F_documentType_DDRAWING F_templateType_DTEXT F_templateType_DSPREADSHEET F_templateType_DPRESENTATION F_templateType_DDRAWING) hZ (hw _ (List.mem_of_getElem? (i := 16) rfl)) (hw _ (List.mem_of_getElem? (i := 12) rfl)) (by decide) (by decide)) (g := (mkF m 19 #[iv p1, iv i, .val (own_media w_OTEXT w_OTEXT_TEMPLATE w_OTEXT_MASTER w_OTEXT_MASTER_TEMPLATE w_OTEXT_WEB w_OSPREADSHEET w_OSPREADSHEET_TEMPLATE w_OPRESENTATION w_OPRESENTATION_TEMPLATE w_OGRAPHICS w_OGRAPHICS_TEMPLATE w_OCHART w_OCHART_TEMPLATE w_OIMAGE w_OIMAGE_TEMPLATE w_OFORMULA w_OFORMULA_TEMPLATE w_OBASE i), .val (own_exp w_DTEXT w_DSPREADSHEET w_DPRESENTATION w_DDRAWING i)] [(own_media w_OTEXT w_OTEXT_TEMPLATE w_OTEXT_MASTER w_OTEXT_MASTER_TEMPLATE w_OTEXT_WEB w_OSPREADSHEET w_OSPREADSHEET_TEMPLATE w_OPRESENTATION w_OPRESENTATION_TEMPLATE w_OGRAPHICS w_OGRAPHICS_TEMPLATE w_OCHART w_OCHART_TEMPLATE w_OIMAGE w_OIMAGE_TEMPLATE w_OFORMULA w_OFORMULA_TEMPLATE w_OBASE i)])) rfl (by rw [hml]; rfl) (argsL := [(own_media w_OTEXT w_OTEXT_TEMPLATE w_OTEXT_MASTER w_OTEXT_MASTER_TEMPLATE w_OTEXT_WEB w_OSPREADSHEET w_OSPREADSHEET_TEMPLATE w_OPRESENTATION w_OPRESENTATION_TEMPLATE w_OGRAPHICS w_OGRAPHICS_TEMPLATE w_OCHART w_OCHART_TEMPLATE w_OIMAGE w_OIMAGE_TEMPLATE w_OFORMULA w_OFORMULA_TEMPLATE w_OBASE i)]) (rest := []) (lenOf own_pd3 rfl) rfl (by show 2 * 0 + _ ≤ _; exact Nat.le_of_eq rfl) (hb hby at_19) (fun _ _ => ⟨rfl, eh2, (by decide : 0 + 1 ≤ _), (by decide : 0 + 4 ≤ _)⟩)
  dsimp only [Pt.U, Pt.locs, Pt.cells, Pt.slots] at X3 l3 y3 z3 st3 hQ3
  subst l3 y3 z3
  obtain ⟨rfl, N3, x3⟩ := hQ3
  have M3 := Fr.app M2 N3
  refine own_st st3 ?_
  show own_Go p e below _ T3 (mkF m 22 #[iv p1, iv i, .val (own_media w_OTEXT w_OTEXT_TEMPLATE w_OTEXT_MASTER w_OTEXT_MASTER_TEMPLATE w_OTEXT_WEB w_OSPREADSHEET w_OSPREADSHEET_TEMPLATE w_OPRESENTATION w_OPRESENTATION_TEMPLATE w_OGRAPHICS w_OGRAPHICS_TEMPLATE w_OCHART w_OCHART_TEMPLATE w_OIMAGE w_OIMAGE_TEMPLATE w_OFORMULA w_OFORMULA_TEMPLATE w_OBASE i), .val (own_exp w_DTEXT w_DSPREADSHEET w_DPRESENTATION w_DDRAWING i)] [(own_for w_OTEXT w_OTEXT_TEMPLATE w_OSPREADSHEET w_OSPREADSHEET_TEMPLATE w_OPRESENTATION w_OPRESENTATION_TEMPLATE w_OGRAPHICS w_OGRAPHICS_TEMPLATE w_DTEXT w_DSPREADSHEET w_DPRESENTATION w_DDRAWING (own_media w_OTEXT w_OTEXT_TEMPLATE w_OTEXT_MASTER w_OTEXT_MASTER_TEMPLATE w_OTEXT_WEB w_OSPREADSHEET w_OSPREADSHEET_TEMPLATE w_OPRESENTATION w_OPRESENTATION_TEMPLATE w_OGRAPHICS w_OGRAPHICS_TEMPLATE w_OCHART w_OCHART_TEMPLATE w_OIMAGE w_OIMAGE_TEMPLATE w_OFORMULA w_OFORMULA_TEMPLATE w_OBASE i))])
  refine own_st (fun _ k => XS.aloadN X3.here hx rfl (hb hby at_22) rfl (own_exp_ref w_DTEXT w_DSPREADSHEET w_DPRESENTATION w_DDRAWING i) k) ?_
  show own_Go p e below _ T3 (mkF m 23 #[iv p1, iv i, .val (own_media w_OTEXT w_OTEXT_TEMPLATE w_OTEXT_MASTER w_OTEXT_MASTER_TEMPLATE w_OTEXT_WEB w_OSPREADSHEET w_OSPREADSHEET_TEMPLATE w_OPRESENTATION w_OPRESENTATION_TEMPLATE w_OGRAPHICS w_OGRAPHICS_TEMPLATE w_OCHART w_OCHART_TEMPLATE w_OIMAGE w_OIMAGE_TEMPLATE w_OFORMULA w_OFORMULA_TEMPLATE w_OBASE i), .val (own_exp w_DTEXT w_DSPREADSHEET w_DPRESENTATION w_DDRAWING i)] [(own_exp w_DTEXT w_DSPREADSHEET w_DPRESENTATION w_DDRAWING i), (own_for w_OTEXT w_OTEXT_TEMPLATE w_OSPREADSHEET w_OSPREADSHEET_TEMPLATE w_OPRESENTATION w_OPRESENTATION_TEMPLATE w_OGRAPHICS w_OGRAPHICS_TEMPLATE w_DTEXT w_DSPREADSHEET w_DPRESENTATION w_DDRAWING (own_media w_OTEXT w_OTEXT_TEMPLATE w_OTEXT_MASTER w_OTEXT_MASTER_TEMPLATE w_OTEXT_WEB w_OSPREADSHEET w_OSPREADSHEET_TEMPLATE w_OPRESENTATION w_OPRESENTATION_TEMPLATE w_OGRAPHICS w_OGRAPHICS_TEMPLATE w_OCHART w_OCHART_TEMPLATE w_OIMAGE w_OIMAGE_TEMPLATE w_OFORMULA w_OFORMULA_TEMPLATE w_OBASE i))])
  refine own_st (fun _ k => XT.acmpNo X3.here hx rfl (hb hby at_23) rfl (own_for_ref w_OTEXT w_OTEXT_TEMPLATE w_OSPREADSHEET w_OSPREADSHEET_TEMPLATE w_OPRESENTATION w_OPRESENTATION_TEMPLATE w_OGRAPHICS w_OGRAPHICS_TEMPLATE w_DTEXT w_DSPREADSHEET w_DPRESENTATION w_DDRAWING _) (own_exp_ref w_DTEXT w_DSPREADSHEET w_DPRESENTATION w_DDRAWING i) (XT.aa_ne_f (own_match F_ordinal_OTEXT F_ordinal_OTEXT_TEMPLATE F_ordinal_OTEXT_MASTER F_ordinal_OTEXT_MASTER_TEMPLATE F_ordinal_OTEXT_WEB F_ordinal_OSPREADSHEET F_ordinal_OSPREADSHEET_TEMPLATE F_ordinal_OPRESENTATION F_ordinal_OPRESENTATION_TEMPLATE F_ordinal_OGRAPHICS F_ordinal_OGRAPHICS_TEMPLATE F_ordinal_OCHART F_ordinal_OCHART_TEMPLATE F_ordinal_OIMAGE F_ordinal_OIMAGE_TEMPLATE F_ordinal_OFORMULA F_ordinal_OFORMULA_TEMPLATE F_ordinal_OBASE hc)) k) ?_
  show own_Go p e below _ T3 (mkF m 26 #[iv p1, iv i, .val (own_media w_OTEXT w_OTEXT_TEMPLATE w_OTEXT_MASTER w_OTEXT_MASTER_TEMPLATE w_OTEXT_WEB w_OSPREADSHEET w_OSPREADSHEET_TEMPLATE w_OPRESENTATION w_OPRESENTATION_TEMPLATE w_OGRAPHICS w_OGRAPHICS_TEMPLATE w_OCHART w_OCHART_TEMPLATE w_OIMAGE w_OIMAGE_TEMPLATE w_OFORMULA w_OFORMULA_TEMPLATE w_OBASE i), .val (own_exp w_DTEXT w_DSPREADSHEET w_DPRESENTATION w_DDRAWING i)] [])
  refine own_st (fun _ k => XT.iconstV X3.here hx rfl (1 : Int32) (hb hby at_26) (by decide) k) ?_
  show own_Go p e below _ T3 (mkF m 27 #[iv p1, iv i, .val (own_media w_OTEXT w_OTEXT_TEMPLATE w_OTEXT_MASTER w_OTEXT_MASTER_TEMPLATE w_OTEXT_WEB w_OSPREADSHEET w_OSPREADSHEET_TEMPLATE w_OPRESENTATION w_OPRESENTATION_TEMPLATE w_OGRAPHICS w_OGRAPHICS_TEMPLATE w_OCHART w_OCHART_TEMPLATE w_OIMAGE w_OIMAGE_TEMPLATE w_OFORMULA w_OFORMULA_TEMPLATE w_OBASE i), .val (own_exp w_DTEXT w_DSPREADSHEET w_DPRESENTATION w_DDRAWING i)] [(.int 1)])
  refine own_st (fun _ k => XS.goto X3.here hx rfl (pc0 := 27) (pc' := 31) rfl (hb hby at_27) (by decide) (by decide) k) ?_
  show own_Go p e below _ T3 (mkF m 31 #[iv p1, iv i, .val (own_media w_OTEXT w_OTEXT_TEMPLATE w_OTEXT_MASTER w_OTEXT_MASTER_TEMPLATE w_OTEXT_WEB w_OSPREADSHEET w_OSPREADSHEET_TEMPLATE w_OPRESENTATION w_OPRESENTATION_TEMPLATE w_OGRAPHICS w_OGRAPHICS_TEMPLATE w_OCHART w_OCHART_TEMPLATE w_OIMAGE w_OIMAGE_TEMPLATE w_OFORMULA w_OFORMULA_TEMPLATE w_OBASE i), .val (own_exp w_DTEXT w_DSPREADSHEET w_DPRESENTATION w_DDRAWING i)] [(.int 1)])
  refine own_retN X3 hx Bd.notSynchronized (t := .boolean) Bd.returns (by simp) (hb hby at_31) (by decide) (by decide) ?_
  exact ⟨rfl, M3⟩
set_option maxRecDepth 65536 in
set_option maxHeartbeats 40000000 in
theorem comes_1 {Post : Tables → Env → Array Value → State → Outcome → State → Prop} (hpost : ∀ tb e args s v u, (limb_1_1.after args s (.returned v) u = true ∧ limb_1_2.after args s (.returned v) u = true ∧ True) → FrameEnd s (.returned v) u (Jvm.fieldLocs frame_1_writes args s ++ Jvm.arrayLocs frame_1_arrays args s ++ Jvm.staticLocs frame_1_statics s) 16 128 → Post tb e args s (.returned v) u) :
    ArmFor flags0 classFile x code maxLocals ret World_1 tables_1 room_1 Calls_1 rest_1 Pre_1 Post := by
  intro l hfl _ _ p e ha hc hk s m args below hf hA hF happ hP
  obtain ⟨hcalls, hrest, hpre⟩ := hP
  obtain ⟨-, -, -, hnamed, -, -, -, hat⟩ := (Spec.applies_iff hf).mp happ
  obtain ⟨hg, hn⟩ := and_e (Cond.before_iff.mp (show (Jvm.Cond.and given_1 narrow_1).before args s = true from hpre))
  obtain ⟨gl0, gr0⟩ := and_e hg
  obtain ⟨w0, rfl⟩ : ∃ w0 : Value, args = #[w0] := by
    have hs : args.size = 1 := by simpa [Cond.value, given_1] using gl0
    obtain ⟨L⟩ := args
    match L, hs with
    | [w0], _ => exact ⟨w0, rfl⟩
  have hw := fun d (hd : d ∈ tables_1) => atoms_spec (ws := Jvm.Cond.code x code maxLocals ret :: tables_1) hat d (List.mem_cons_of_mem _ hd)
  obtain ⟨nl0, nr0⟩ := and_e hn
  obtain ⟨nl1, nr1⟩ := and_e nr0
  obtain ⟨nl2, nr2⟩ := and_e nr1
  obtain ⟨nl3, nr3⟩ := and_e nr2
  obtain ⟨nl4, nr4⟩ := and_e nr3
  obtain ⟨nl5, nr5⟩ := and_e nr4
  obtain ⟨nl6, nr6⟩ := and_e nr5
  obtain ⟨nl7, nr7⟩ := and_e nr6
  obtain ⟨nl8, nr8⟩ := and_e nr7
  obtain ⟨nl9, nr9⟩ := and_e nr8
  obtain ⟨nl10, nr10⟩ := and_e nr9
  obtain ⟨nl11, nr11⟩ := and_e nr10
  obtain ⟨nl12, nr12⟩ := and_e nr11
  obtain ⟨nl13, nr13⟩ := and_e nr12
  obtain ⟨nl14, nr14⟩ := and_e nr13
  obtain ⟨nl15, nr15⟩ := and_e nr14
  obtain ⟨nl16, nr16⟩ := and_e nr15
  obtain ⟨nl17, nr17⟩ := and_e nr16
  obtain ⟨nl18, nr18⟩ := and_e nr17
  obtain ⟨nl19, nr19⟩ := and_e nr18
  obtain ⟨nl20, nr20⟩ := and_e nr19
  obtain ⟨nl21, nr21⟩ := and_e nr20
  obtain ⟨nl22, nr22⟩ := and_e nr21
  obtain ⟨nl23, nr23⟩ := and_e nr22
  obtain ⟨nl24, nr24⟩ := and_e nr23
  obtain ⟨nl25, nr25⟩ := and_e nr24
  obtain ⟨nl26, nr26⟩ := and_e nr25
  obtain ⟨nl27, nr27⟩ := and_e nr26
  obtain ⟨nl28, nr28⟩ := and_e nr27
  obtain ⟨nl29, nr29⟩ := and_e nr28
  obtain ⟨nl30, nr30⟩ := and_e nr29
  obtain ⟨nl31, nr31⟩ := and_e nr30
  obtain ⟨nl32, nr32⟩ := and_e nr31
  obtain ⟨nl33, nr33⟩ := and_e nr32
  obtain ⟨nl34, nr34⟩ := and_e nr33
  obtain ⟨nl35, nr35⟩ := and_e nr34
  obtain ⟨nl36, nr36⟩ := and_e nr35
  obtain ⟨nl37, nr37⟩ := and_e nr36
  obtain ⟨nl38, nr38⟩ := and_e nr37
  obtain ⟨nl39, nr39⟩ := and_e nr38
  obtain ⟨nl40, nr40⟩ := and_e nr39
  obtain ⟨nl41, nr41⟩ := and_e nr40
  obtain ⟨nl42, nr42⟩ := and_e nr41
  obtain ⟨nl43, nr43⟩ := and_e nr42
  obtain ⟨nl44, nr44⟩ := and_e nr43
  obtain ⟨nl45, nr45⟩ := and_e nr44
  obtain ⟨nl46, nr46⟩ := and_e nr45
  obtain ⟨nl47, nr47⟩ := and_e nr46
  obtain ⟨nl48, nr48⟩ := and_e nr47
  obtain ⟨nl49, nr49⟩ := and_e nr48
  obtain ⟨nl50, nr50⟩ := and_e nr49
  obtain ⟨nl51, nr51⟩ := and_e nr50
  obtain ⟨nl52, nr52⟩ := and_e nr51
  obtain ⟨nl53, nr53⟩ := and_e nr52
  have nn0 := nl0
  have nn1 := nl1
  have nn2 := nl2
  have nn3 := nl3
  have nn4 := nl4
  have nn5 := nl5
  have nn6 := nl6
  have nn7 := nl7
  have nn8 := nl8
  have nn9 := nl9
  have nn10 := nl10
  have nn11 := nl11
  have nn12 := nl12
  have nn13 := nl13
  have nn14 := nl14
  have nn15 := nl15
  have nn16 := nl16
  have nn17 := nl17
  have nn18 := nl18
  have nn19 := nl19
  have nn20 := nl20
  have nn21 := nl21
  have nn22 := nl22
  have nn23 := nl23
  have nn24 := nl24
  have nn25 := nl25
  have nn26 := nl26
  have nn27 := nl27
  have nn28 := nl28
  have nn29 := nl29
  have nn30 := nl30
  have nn31 := nl31
  have nn32 := nl32
  have nn33 := nl33
  have nn34 := nl34
  have nn35 := nl35
  have nn36 := nl36
  have nn37 := nl37
  have nn38 := nl38
  have nn39 := nl39
  have nn40 := nl40
  have nn41 := nl41
  have nn42 := nl42
  have nn43 := nl43
  have nn44 := nl44
  have nn45 := nl45
  have nn46 := nl46
  have nn47 := nl47
  have nn48 := nl48
  have nn49 := nl49
  have nn50 := nl50
  have nn51 := nl51
  have nn52 := nl52
  have nn53 := nl53
  have nn54 := nr53
  have hfit : Fit s := fun {y c} hc i hi => by
    obtain ⟨ha, rfl⟩ := Array.getElem?_eq_some_iff.mp hc
    have q := List.all_eq_true.mp ((Array.all_eq_true_iff_forall_mem.mp hF) _ (Array.getElem_mem ha)) i (List.mem_range.mpr hi)
    simpa [Array.getElem?_eq_getElem hi] using q
  obtain ⟨i0, ei0⟩ := is_v gr0
  obtain rfl : w0 = (.int i0) := Option.some.inj ei0
  obtain ⟨w_OTEXT, ev_OTEXT⟩ := exa_v nn0
  have S_OTEXT : Sta s s.heap "com/example/quire/quire/pkg/OdfMediaType" "TEXT" "Lcom/example/quire/quire/pkg/OdfMediaType;" (.ref w_OTEXT) := Sta.start ev_OTEXT (Or.inr ⟨(hw _ (List.mem_of_getElem? (i := 6) rfl)), (hw _ (List.mem_of_getElem? (i := 7) rfl))⟩)
  have E_OTEXT : Exa s s.heap w_OTEXT "com/example/quire/quire/pkg/OdfMediaType" := Exa.start ev_OTEXT nn0
  obtain ⟨w_DTEXT, ev_DTEXT⟩ := exa_v nn1
  have S_DTEXT : Sta s s.heap "com/example/quire/quire/document/DocumentKind" "TEXT" "Lcom/example/quire/quire/document/DocumentKind;" (.ref w_DTEXT) := Sta.start ev_DTEXT (Or.inr ⟨(hw _ (List.mem_of_getElem? (i := 12) rfl)), (hw _ (List.mem_of_getElem? (i := 13) rfl))⟩)
  have E_DTEXT : Exa s s.heap w_DTEXT "com/example/quire/quire/document/DocumentKind" := Exa.start ev_DTEXT nn1
  obtain ⟨w_DVALUES, ev_DVALUES⟩ := exa_v nn3
  have S_DVALUES : Sta s s.heap "com/example/quire/quire/document/DocumentKind" "$VALUES" "[Lcom/example/quire/quire/document/DocumentKind;" (.ref w_DVALUES) := Sta.start ev_DVALUES (Or.inr ⟨(hw _ (List.mem_of_getElem? (i := 12) rfl)), (hw _ (List.mem_of_getElem? (i := 21) rfl))⟩)
  have E_DVALUES : Exa s s.heap w_DVALUES "[Lcom/example/quire/quire/document/DocumentKind;" := Exa.start ev_DVALUES nn3
  obtain ⟨w_DSPREADSHEET, ev_DSPREADSHEET⟩ := exa_v nn6
  have S_DSPREADSHEET : Sta s s.heap "com/example/quire/quire/document/DocumentKind" "SPREADSHEET" "Lcom/example/quire/quire/document/DocumentKind;" (.ref w_DSPREADSHEET) := Sta.start ev_DSPREADSHEET (Or.inr ⟨(hw _ (List.mem_of_getElem? (i := 12) rfl)), (hw _ (List.mem_of_getElem? (i := 29) rfl))⟩)
  have E_DSPREADSHEET : Exa s s.heap w_DSPREADSHEET "com/example/quire/quire/document/DocumentKind" := Exa.start ev_DSPREADSHEET nn6
  obtain ⟨w_DPRESENTATION, ev_DPRESENTATION⟩ := exa_v nn8
  have S_DPRESENTATION : Sta s s.heap "com/example/quire/quire/document/DocumentKind" "PRESENTATION" "Lcom/example/quire/quire/document/DocumentKind;" (.ref w_DPRESENTATION) := Sta.start ev_DPRESENTATION (Or.inr ⟨(hw _ (List.mem_of_getElem? (i := 12) rfl)), (hw _ (List.mem_of_getElem? (i := 30) rfl))⟩)
  have E_DPRESENTATION : Exa s s.heap w_DPRESENTATION "com/example/quire/quire/document/DocumentKind" := Exa.start ev_DPRESENTATION nn8
  obtain ⟨w_DDRAWING, ev_DDRAWING⟩ := exa_v nn10
  have S_DDRAWING : Sta s s.heap "com/example/quire/quire/document/DocumentKind" "DRAWING" "Lcom/example/quire/quire/document/DocumentKind;" (.ref w_DDRAWING) := Sta.start ev_DDRAWING (Or.inr ⟨(hw _ (List.mem_of_getElem? (i := 12) rfl)), (hw _ (List.mem_of_getElem? (i := 31) rfl))⟩)
  have E_DDRAWING : Exa s s.heap w_DDRAWING "com/example/quire/quire/document/DocumentKind" := Exa.start ev_DDRAWING nn10
  obtain ⟨w_OTEXT_MASTER_TEMPLATE, ev_OTEXT_MASTER_TEMPLATE⟩ := exa_v nn13
  have S_OTEXT_MASTER_TEMPLATE : Sta s s.heap "com/example/quire/quire/pkg/OdfMediaType" "TEXT_MASTER_TEMPLATE" "Lcom/example/quire/quire/pkg/OdfMediaType;" (.ref w_OTEXT_MASTER_TEMPLATE) := Sta.start ev_OTEXT_MASTER_TEMPLATE (Or.inr ⟨(hw _ (List.mem_of_getElem? (i := 6) rfl)), (hw _ (List.mem_of_getElem? (i := 38) rfl))⟩)
  have E_OTEXT_MASTER_TEMPLATE : Exa s s.heap w_OTEXT_MASTER_TEMPLATE "com/example/quire/quire/pkg/OdfMediaType" := Exa.start ev_OTEXT_MASTER_TEMPLATE nn13
  obtain ⟨w_OTEXT_TEMPLATE, ev_OTEXT_TEMPLATE⟩ := exa_v nn16
  have S_OTEXT_TEMPLATE : Sta s s.heap "com/example/quire/quire/pkg/OdfMediaType" "TEXT_TEMPLATE" "Lcom/example/quire/quire/pkg/OdfMediaType;" (.ref w_OTEXT_TEMPLATE) := Sta.start ev_OTEXT_TEMPLATE (Or.inr ⟨(hw _ (List.mem_of_getElem? (i := 6) rfl)), (hw _ (List.mem_of_getElem? (i := 41) rfl))⟩)
  have E_OTEXT_TEMPLATE : Exa s s.heap w_OTEXT_TEMPLATE "com/example/quire/quire/pkg/OdfMediaType" := Exa.start ev_OTEXT_TEMPLATE nn16
  obtain ⟨w_OSPREADSHEET, ev_OSPREADSHEET⟩ := exa_v nn19
  have S_OSPREADSHEET : Sta s s.heap "com/example/quire/quire/pkg/OdfMediaType" "SPREADSHEET" "Lcom/example/quire/quire/pkg/OdfMediaType;" (.ref w_OSPREADSHEET) := Sta.start ev_OSPREADSHEET (Or.inr ⟨(hw _ (List.mem_of_getElem? (i := 6) rfl)), (hw _ (List.mem_of_getElem? (i := 42) rfl))⟩)
  have E_OSPREADSHEET : Exa s s.heap w_OSPREADSHEET "com/example/quire/quire/pkg/OdfMediaType" := Exa.start ev_OSPREADSHEET nn19
  obtain ⟨w_OSPREADSHEET_TEMPLATE, ev_OSPREADSHEET_TEMPLATE⟩ := exa_v nn22
  have S_OSPREADSHEET_TEMPLATE : Sta s s.heap "com/example/quire/quire/pkg/OdfMediaType" "SPREADSHEET_TEMPLATE" "Lcom/example/quire/quire/pkg/OdfMediaType;" (.ref w_OSPREADSHEET_TEMPLATE) := Sta.start ev_OSPREADSHEET_TEMPLATE (Or.inr ⟨(hw _ (List.mem_of_getElem? (i := 6) rfl)), (hw _ (List.mem_of_getElem? (i := 43) rfl))⟩)
  have E_OSPREADSHEET_TEMPLATE : Exa s s.heap w_OSPREADSHEET_TEMPLATE "com/example/quire/quire/pkg/OdfMediaType" := Exa.start ev_OSPREADSHEET_TEMPLATE nn22
  obtain ⟨w_OPRESENTATION, ev_OPRESENTATION⟩ := exa_v nn25
  have S_OPRESENTATION : Sta s s.heap "com/example/quire/quire/pkg/OdfMediaType" "PRESENTATION" "Lcom/example/quire/quire/pkg/OdfMediaType;" (.ref w_OPRESENTATION) := Sta.start ev_OPRESENTATION (Or.inr ⟨(hw _ (List.mem_of_getElem? (i := 6) rfl)), (hw _ (List.mem_of_getElem? (i := 44) rfl))⟩)
  have E_OPRESENTATION : Exa s s.heap w_OPRESENTATION "com/example/quire/quire/pkg/OdfMediaType" := Exa.start ev_OPRESENTATION nn25
  obtain ⟨w_OPRESENTATION_TEMPLATE, ev_OPRESENTATION_TEMPLATE⟩ := exa_v nn28
  have S_OPRESENTATION_TEMPLATE : Sta s s.heap "com/example/quire/quire/pkg/OdfMediaType" "PRESENTATION_TEMPLATE" "Lcom/example/quire/quire/pkg/OdfMediaType;" (.ref w_OPRESENTATION_TEMPLATE) := Sta.start ev_OPRESENTATION_TEMPLATE (Or.inr ⟨(hw _ (List.mem_of_getElem? (i := 6) rfl)), (hw _ (List.mem_of_getElem? (i := 45) rfl))⟩)
  have E_OPRESENTATION_TEMPLATE : Exa s s.heap w_OPRESENTATION_TEMPLATE "com/example/quire/quire/pkg/OdfMediaType" := Exa.start ev_OPRESENTATION_TEMPLATE nn28
  obtain ⟨w_OGRAPHICS, ev_OGRAPHICS⟩ := exa_v nn31
  have S_OGRAPHICS : Sta s s.heap "com/example/quire/quire/pkg/OdfMediaType" "GRAPHICS" "Lcom/example/quire/quire/pkg/OdfMediaType;" (.ref w_OGRAPHICS) := Sta.start ev_OGRAPHICS (Or.inr ⟨(hw _ (List.mem_of_getElem? (i := 6) rfl)), (hw _ (List.mem_of_getElem? (i := 46) rfl))⟩)
  have E_OGRAPHICS : Exa s s.heap w_OGRAPHICS "com/example/quire/quire/pkg/OdfMediaType" := Exa.start ev_OGRAPHICS nn31
  obtain ⟨w_OGRAPHICS_TEMPLATE, ev_OGRAPHICS_TEMPLATE⟩ := exa_v nn34
  have S_OGRAPHICS_TEMPLATE : Sta s s.heap "com/example/quire/quire/pkg/OdfMediaType" "GRAPHICS_TEMPLATE" "Lcom/example/quire/quire/pkg/OdfMediaType;" (.ref w_OGRAPHICS_TEMPLATE) := Sta.start ev_OGRAPHICS_TEMPLATE (Or.inr ⟨(hw _ (List.mem_of_getElem? (i := 6) rfl)), (hw _ (List.mem_of_getElem? (i := 47) rfl))⟩)
  have E_OGRAPHICS_TEMPLATE : Exa s s.heap w_OGRAPHICS_TEMPLATE "com/example/quire/quire/pkg/OdfMediaType" := Exa.start ev_OGRAPHICS_TEMPLATE nn34
  obtain ⟨w_OFORMULA, ev_OFORMULA⟩ := exa_v nn37
  have S_OFORMULA : Sta s s.heap "com/example/quire/quire/pkg/OdfMediaType" "FORMULA" "Lcom/example/quire/quire/pkg/OdfMediaType;" (.ref w_OFORMULA) := Sta.start ev_OFORMULA (Or.inr ⟨(hw _ (List.mem_of_getElem? (i := 6) rfl)), (hw _ (List.mem_of_getElem? (i := 49) rfl))⟩)
  have E_OFORMULA : Exa s s.heap w_OFORMULA "com/example/quire/quire/pkg/OdfMediaType" := Exa.start ev_OFORMULA nn37
  obtain ⟨w_OBASE, ev_OBASE⟩ := exa_v nn39
  have S_OBASE : Sta s s.heap "com/example/quire/quire/pkg/OdfMediaType" "BASE" "Lcom/example/quire/quire/pkg/OdfMediaType;" (.ref w_OBASE) := Sta.start ev_OBASE (Or.inr ⟨(hw _ (List.mem_of_getElem? (i := 6) rfl)), (hw _ (List.mem_of_getElem? (i := 53) rfl))⟩)
  have E_OBASE : Exa s s.heap w_OBASE "com/example/quire/quire/pkg/OdfMediaType" := Exa.start ev_OBASE nn39
  obtain ⟨w_OTEXT_MASTER, ev_OTEXT_MASTER⟩ := exa_v nn41
  have S_OTEXT_MASTER : Sta s s.heap "com/example/quire/quire/pkg/OdfMediaType" "TEXT_MASTER" "Lcom/example/quire/quire/pkg/OdfMediaType;" (.ref w_OTEXT_MASTER) := Sta.start ev_OTEXT_MASTER (Or.inr ⟨(hw _ (List.mem_of_getElem? (i := 6) rfl)), (hw _ (List.mem_of_getElem? (i := 57) rfl))⟩)
  have E_OTEXT_MASTER : Exa s s.heap w_OTEXT_MASTER "com/example/quire/quire/pkg/OdfMediaType" := Exa.start ev_OTEXT_MASTER nn41
  obtain ⟨w_OCHART, ev_OCHART⟩ := exa_v nn43
  have S_OCHART : Sta s s.heap "com/example/quire/quire/pkg/OdfMediaType" "CHART" "Lcom/example/quire/quire/pkg/OdfMediaType;" (.ref w_OCHART) := Sta.start ev_OCHART (Or.inr ⟨(hw _ (List.mem_of_getElem? (i := 6) rfl)), (hw _ (List.mem_of_getElem? (i := 59) rfl))⟩)
  have E_OCHART : Exa s s.heap w_OCHART "com/example/quire/quire/pkg/OdfMediaType" := Exa.start ev_OCHART nn43
  obtain ⟨w_OIMAGE_TEMPLATE, ev_OIMAGE_TEMPLATE⟩ := exa_v nn45
  have S_OIMAGE_TEMPLATE : Sta s s.heap "com/example/quire/quire/pkg/OdfMediaType" "IMAGE_TEMPLATE" "Lcom/example/quire/quire/pkg/OdfMediaType;" (.ref w_OIMAGE_TEMPLATE) := Sta.start ev_OIMAGE_TEMPLATE (Or.inr ⟨(hw _ (List.mem_of_getElem? (i := 6) rfl)), (hw _ (List.mem_of_getElem? (i := 65) rfl))⟩)
  have E_OIMAGE_TEMPLATE : Exa s s.heap w_OIMAGE_TEMPLATE "com/example/quire/quire/pkg/OdfMediaType" := Exa.start ev_OIMAGE_TEMPLATE nn45
  obtain ⟨w_OFORMULA_TEMPLATE, ev_OFORMULA_TEMPLATE⟩ := exa_v nn47
  have S_OFORMULA_TEMPLATE : Sta s s.heap "com/example/quire/quire/pkg/OdfMediaType" "FORMULA_TEMPLATE" "Lcom/example/quire/quire/pkg/OdfMediaType;" (.ref w_OFORMULA_TEMPLATE) := Sta.start ev_OFORMULA_TEMPLATE (Or.inr ⟨(hw _ (List.mem_of_getElem? (i := 6) rfl)), (hw _ (List.mem_of_getElem? (i := 68) rfl))⟩)
  have E_OFORMULA_TEMPLATE : Exa s s.heap w_OFORMULA_TEMPLATE "com/example/quire/quire/pkg/OdfMediaType" := Exa.start ev_OFORMULA_TEMPLATE nn47
  obtain ⟨w_OTEXT_WEB, ev_OTEXT_WEB⟩ := exa_v nn49
  have S_OTEXT_WEB : Sta s s.heap "com/example/quire/quire/pkg/OdfMediaType" "TEXT_WEB" "Lcom/example/quire/quire/pkg/OdfMediaType;" (.ref w_OTEXT_WEB) := Sta.start ev_OTEXT_WEB (Or.inr ⟨(hw _ (List.mem_of_getElem? (i := 6) rfl)), (hw _ (List.mem_of_getElem? (i := 70) rfl))⟩)
  have E_OTEXT_WEB : Exa s s.heap w_OTEXT_WEB "com/example/quire/quire/pkg/OdfMediaType" := Exa.start ev_OTEXT_WEB nn49
  obtain ⟨w_OCHART_TEMPLATE, ev_OCHART_TEMPLATE⟩ := exa_v nn51
  have S_OCHART_TEMPLATE : Sta s s.heap "com/example/quire/quire/pkg/OdfMediaType" "CHART_TEMPLATE" "Lcom/example/quire/quire/pkg/OdfMediaType;" (.ref w_OCHART_TEMPLATE) := Sta.start ev_OCHART_TEMPLATE (Or.inr ⟨(hw _ (List.mem_of_getElem? (i := 6) rfl)), (hw _ (List.mem_of_getElem? (i := 73) rfl))⟩)
  have E_OCHART_TEMPLATE : Exa s s.heap w_OCHART_TEMPLATE "com/example/quire/quire/pkg/OdfMediaType" := Exa.start ev_OCHART_TEMPLATE nn51
  obtain ⟨w_OIMAGE, ev_OIMAGE⟩ := exa_v nn53
  have S_OIMAGE : Sta s s.heap "com/example/quire/quire/pkg/OdfMediaType" "IMAGE" "Lcom/example/quire/quire/pkg/OdfMediaType;" (.ref w_OIMAGE) := Sta.start ev_OIMAGE (Or.inr ⟨(hw _ (List.mem_of_getElem? (i := 6) rfl)), (hw _ (List.mem_of_getElem? (i := 75) rfl))⟩)
  have E_OIMAGE : Exa s s.heap w_OIMAGE "com/example/quire/quire/pkg/OdfMediaType" := Exa.start ev_OIMAGE nn53
  have F_documentType_DTEXT : Fld s s.heap w_DTEXT "com/example/quire/quire/document/DocumentKind" "documentType" "Lcom/example/quire/quire/pkg/OdfMediaType;" (.ref w_OTEXT) := Fld.start ((fld_at ev_DTEXT).symm.trans (own_eq_ref ev_OTEXT nn12))
  have F_ordinal_OTEXT : Fld s s.heap w_OTEXT "java/lang/Enum" "ordinal" "I" (.int (0 : Int32)) := Fld.start ((fld_at ev_OTEXT).symm.trans (own_eq_int nn14))
  have F_ordinal_OTEXT_MASTER_TEMPLATE : Fld s s.heap w_OTEXT_MASTER_TEMPLATE "java/lang/Enum" "ordinal" "I" (.int (3 : Int32)) := Fld.start ((fld_at ev_OTEXT_MASTER_TEMPLATE).symm.trans (own_eq_int nn15))
  have F_templateType_DTEXT : Fld s s.heap w_DTEXT "com/example/quire/quire/document/DocumentKind" "templateType" "Lcom/example/quire/quire/pkg/OdfMediaType;" (.ref w_OTEXT_TEMPLATE) := Fld.start ((fld_at ev_DTEXT).symm.trans (own_eq_ref ev_OTEXT_TEMPLATE nn17))
  have F_ordinal_OTEXT_TEMPLATE : Fld s s.heap w_OTEXT_TEMPLATE "java/lang/Enum" "ordinal" "I" (.int (1 : Int32)) := Fld.start ((fld_at ev_OTEXT_TEMPLATE).symm.trans (own_eq_int nn18))
  have F_documentType_DSPREADSHEET : Fld s s.heap w_DSPREADSHEET "com/example/quire/quire/document/DocumentKind" "documentType" "Lcom/example/quire/quire/pkg/OdfMediaType;" (.ref w_OSPREADSHEET) := Fld.start ((fld_at ev_DSPREADSHEET).symm.trans (own_eq_ref ev_OSPREADSHEET nn20))
  have F_ordinal_OSPREADSHEET : Fld s s.heap w_OSPREADSHEET "java/lang/Enum" "ordinal" "I" (.int (5 : Int32)) := Fld.start ((fld_at ev_OSPREADSHEET).symm.trans (own_eq_int nn21))
  have F_templateType_DSPREADSHEET : Fld s s.heap w_DSPREADSHEET "com/example/quire/quire/document/DocumentKind" "templateType" "Lcom/example/quire/quire/pkg/OdfMediaType;" (.ref w_OSPREADSHEET_TEMPLATE) := Fld.start ((fld_at ev_DSPREADSHEET).symm.trans (own_eq_ref ev_OSPREADSHEET_TEMPLATE nn23))
  have F_ordinal_OSPREADSHEET_TEMPLATE : Fld s s.heap w_OSPREADSHEET_TEMPLATE "java/lang/Enum" "ordinal" "I" (.int (6 : Int32)) := Fld.start ((fld_at ev_OSPREADSHEET_TEMPLATE).symm.trans (own_eq_int nn24))
  have F_documentType_DPRESENTATION : Fld s s.heap w_DPRESENTATION "com/example/quire/quire/document/DocumentKind" "documentType" "Lcom/example/quire/quire/pkg/OdfMediaType;" (.ref w_OPRESENTATION) := Fld.start ((fld_at ev_DPRESENTATION).symm.trans (own_eq_ref ev_OPRESENTATION nn26))
  have F_ordinal_OPRESENTATION : Fld s s.heap w_OPRESENTATION "java/lang/Enum" "ordinal" "I" (.int (7 : Int32)) := Fld.start ((fld_at ev_OPRESENTATION).symm.trans (own_eq_int nn27))
  have F_templateType_DPRESENTATION : Fld s s.heap w_DPRESENTATION "com/example/quire/quire/document/DocumentKind" "templateType" "Lcom/example/quire/quire/pkg/OdfMediaType;" (.ref w_OPRESENTATION_TEMPLATE) := Fld.start ((fld_at ev_DPRESENTATION).symm.trans (own_eq_ref ev_OPRESENTATION_TEMPLATE nn29))
  have F_ordinal_OPRESENTATION_TEMPLATE : Fld s s.heap w_OPRESENTATION_TEMPLATE "java/lang/Enum" "ordinal" "I" (.int (8 : Int32)) := Fld.start ((fld_at ev_OPRESENTATION_TEMPLATE).symm.trans (own_eq_int nn30))
  have F_documentType_DDRAWING : Fld s s.heap w_DDRAWING "com/example/quire/quire/document/DocumentKind" "documentType" "Lcom/example/quire/quire/pkg/OdfMediaType;" (.ref w_OGRAPHICS) := Fld.start ((fld_at ev_DDRAWING).symm.trans (own_eq_ref ev_OGRAPHICS nn32))
  have F_ordinal_OGRAPHICS : Fld s s.heap w_OGRAPHICS "java/lang/Enum" "ordinal" "I" (.int (9 : Int32)) := Fld.start ((fld_at ev_OGRAPHICS).symm.trans (own_eq_int nn33))
  have F_templateType_DDRAWING : Fld s s.heap w_DDRAWING "com/example/quire/quire/document/DocumentKind" "templateType" "Lcom/example/quire/quire/pkg/OdfMediaType;" (.ref w_OGRAPHICS_TEMPLATE) := Fld.start ((fld_at ev_DDRAWING).symm.trans (own_eq_ref ev_OGRAPHICS_TEMPLATE nn35))
  have F_ordinal_OGRAPHICS_TEMPLATE : Fld s s.heap w_OGRAPHICS_TEMPLATE "java/lang/Enum" "ordinal" "I" (.int (10 : Int32)) := Fld.start ((fld_at ev_OGRAPHICS_TEMPLATE).symm.trans (own_eq_int nn36))
  have F_ordinal_OFORMULA : Fld s s.heap w_OFORMULA "java/lang/Enum" "ordinal" "I" (.int (15 : Int32)) := Fld.start ((fld_at ev_OFORMULA).symm.trans (own_eq_int nn38))
  have F_ordinal_OBASE : Fld s s.heap w_OBASE "java/lang/Enum" "ordinal" "I" (.int (17 : Int32)) := Fld.start ((fld_at ev_OBASE).symm.trans (own_eq_int nn40))
  have F_ordinal_OTEXT_MASTER : Fld s s.heap w_OTEXT_MASTER "java/lang/Enum" "ordinal" "I" (.int (2 : Int32)) := Fld.start ((fld_at ev_OTEXT_MASTER).symm.trans (own_eq_int nn42))
  have F_ordinal_OCHART : Fld s s.heap w_OCHART "java/lang/Enum" "ordinal" "I" (.int (11 : Int32)) := Fld.start ((fld_at ev_OCHART).symm.trans (own_eq_int nn44))
  have F_ordinal_OIMAGE_TEMPLATE : Fld s s.heap w_OIMAGE_TEMPLATE "java/lang/Enum" "ordinal" "I" (.int (14 : Int32)) := Fld.start ((fld_at ev_OIMAGE_TEMPLATE).symm.trans (own_eq_int nn46))
  have F_ordinal_OFORMULA_TEMPLATE : Fld s s.heap w_OFORMULA_TEMPLATE "java/lang/Enum" "ordinal" "I" (.int (16 : Int32)) := Fld.start ((fld_at ev_OFORMULA_TEMPLATE).symm.trans (own_eq_int nn48))
  have F_ordinal_OTEXT_WEB : Fld s s.heap w_OTEXT_WEB "java/lang/Enum" "ordinal" "I" (.int (4 : Int32)) := Fld.start ((fld_at ev_OTEXT_WEB).symm.trans (own_eq_int nn50))
  have F_ordinal_OCHART_TEMPLATE : Fld s s.heap w_OCHART_TEMPLATE "java/lang/Enum" "ordinal" "I" (.int (12 : Int32)) := Fld.start ((fld_at ev_OCHART_TEMPLATE).symm.trans (own_eq_int nn52))
  have F_ordinal_OIMAGE : Fld s s.heap w_OIMAGE "java/lang/Enum" "ordinal" "I" (.int (13 : Int32)) := Fld.start ((fld_at ev_OIMAGE).symm.trans (own_eq_int nn54))
  have S_V := S_DVALUES
  have E_V := E_DVALUES
  obtain ⟨cV, AcV, szV, lnV⟩ := own_arr_start ev_DVALUES nn2 nn4
  have A_V : Arv s s.heap w_DVALUES cV.cls (.object "com/example/quire/quire/document/DocumentKind") 4 [Value.ref w_DTEXT, Value.ref w_DSPREADSHEET, Value.ref w_DPRESENTATION, Value.ref w_DDRAWING] .null := Arv.start hfit AcV szV lnV (by decide) rfl ⟨(elem_in (own_eq_ref ev_DTEXT nn5) ev_DVALUES rfl AcV.1).2, (elem_in (own_eq_ref ev_DSPREADSHEET nn7) ev_DVALUES rfl AcV.1).2, (elem_in (own_eq_ref ev_DPRESENTATION nn9) ev_DVALUES rfl AcV.1).2, (elem_in (own_eq_ref ev_DDRAWING nn11) ev_DVALUES rfl AcV.1).2, trivial⟩
  obtain ⟨n, o, h1, h2, h3, _, L, rfl, ⟨rfl, N⟩, hq⟩ := own_rm_law l s _ hw tables_1 i0 w_DVALUES cV.cls w_OTEXT w_OTEXT_TEMPLATE w_OTEXT_MASTER w_OTEXT_MASTER_TEMPLATE w_OTEXT_WEB w_OSPREADSHEET w_OSPREADSHEET_TEMPLATE w_OPRESENTATION w_OPRESENTATION_TEMPLATE w_OGRAPHICS w_OGRAPHICS_TEMPLATE w_OCHART w_OCHART_TEMPLATE w_OIMAGE w_OIMAGE_TEMPLATE w_OFORMULA w_OFORMULA_TEMPLATE w_OBASE w_DTEXT w_DSPREADSHEET w_DPRESENTATION w_DDRAWING s.heap s.heap.size (Nat.le_refl _) S_OTEXT S_OTEXT_TEMPLATE S_OTEXT_MASTER S_OTEXT_MASTER_TEMPLATE S_OTEXT_WEB S_OSPREADSHEET S_OSPREADSHEET_TEMPLATE S_OPRESENTATION S_OPRESENTATION_TEMPLATE S_OGRAPHICS S_OGRAPHICS_TEMPLATE S_OCHART S_OCHART_TEMPLATE S_OIMAGE S_OIMAGE_TEMPLATE S_OFORMULA S_OFORMULA_TEMPLATE S_OBASE S_DTEXT S_DSPREADSHEET S_DPRESENTATION S_DDRAWING S_V E_V A_V F_documentType_DTEXT F_documentType_DSPREADSHEET F_documentType_DPRESENTATION F_documentType_DDRAWING F_templateType_DTEXT F_templateType_DSPREADSHEET F_templateType_DPRESENTATION F_templateType_DDRAWING F_ordinal_OTEXT F_ordinal_OTEXT_TEMPLATE F_ordinal_OTEXT_MASTER F_ordinal_OTEXT_MASTER_TEMPLATE F_ordinal_OTEXT_WEB F_ordinal_OSPREADSHEET F_ordinal_OSPREADSHEET_TEMPLATE F_ordinal_OPRESENTATION F_ordinal_OPRESENTATION_TEMPLATE F_ordinal_OGRAPHICS F_ordinal_OGRAPHICS_TEMPLATE F_ordinal_OCHART F_ordinal_OCHART_TEMPLATE F_ordinal_OIMAGE F_ordinal_OIMAGE_TEMPLATE F_ordinal_OFORMULA F_ordinal_OFORMULA_TEMPLATE F_ordinal_OBASE p e ha hc hk s m _ below hf ((Spec.applies_iff_loose hf).mp happ).1 ⟨rfl, State.Warmed39.refl s, rfl⟩ trivial
  refine ⟨n, _, h1, h2, h3, hpost _ _ _ _ _ _ ⟨Cond.after_iff.mpr rfl, Cond.after_iff.mpr (eq_i res_at (Term.int_eval (1)) rfl), trivial⟩ ⟨hq.1, hq.2.1, (hq.2.2.sift fun y hy => Or.inr (N y hy)).mono (by decide) (by decide)⟩⟩
theorem main_1_1 : Claimed_1_1 := comes_1 fun _ _ _ _ _ _ h hF => ⟨h.1, hF⟩
theorem main_1_2 : Claimed_1_2 := comes_1 fun _ _ _ _ _ _ h hF => ⟨h.2.1, hF⟩
end Jvm.Pilot.@@N@@
namespace Jvm.Pilot.@@N@@
open Jvm Jvm.ClassFile Sem Op Lib Jvm.Free Jvm.Stand Jvm.Pilot.@@N@@.Jvm.D
/-! MADE BY PROGRAM (witnessworld.py) out of the Statement's table words and the real class files: 14 classes; the members and pool entries that the words name. The judged class is class 1, her method 1. -/
namespace start1
open Jvm.ClassFile
def u (s : String) : CpInfo := .utf8 (stringToUtf16 s)
/-- a pool by its gaps: so many unusable entries, then the entry; so many at the end -/
def gap : Nat → List CpInfo → List CpInfo
  | 0, r => r
  | n + 1, r => .unusable :: gap n r
def poolList (es : List (Nat × CpInfo)) (last : Nat) : List CpInfo := es.foldr (fun e r => gap e.1 (e.2 :: r)) (gap last [])
def pool (es : List (Nat × CpInfo)) (last : Nat) : Array CpInfo := ⟨poolList es last⟩
def fileOf (pool : Array CpInfo) (this : Nat) (attrs : Array Attribute := #[]) (ms : Array MethodInfo := #[]) (fl : Nat := 33) (sup : Nat := 0) (ifs : Array Nat := #[]) (fds : Array FieldInfo := #[]) : ClassFile where
  minorVersion := 0
  majorVersion := 65
  constantPool := pool
  accessFlags := fl
  thisClass := this
  superClass := sup
  interfaces := ifs
  fields := fds
  methods := ms
  attributes := attrs
def plain (name : String) (sup : Option ClassId) : Class where
  name := name
  kind := .ordinary
  loader := none
  accessFlags := 33
  super := sup
  interfaces := #[]
  cf := none
  fields := #[]
  methods := #[]
  instanceTypes := #[]
  staticTypes := #[]
  resolved := #[]
  callSites := []
  init := .initialized
  statics := none
  mirror := none

def pool0 : Array CpInfo := pool [(5, u "<init>"), (0, u "()V"), (1, .class_ 10), (1, u "java/lang/Object"), (85, u "clone"), (0, u "()Ljava/lang/Object;")] 26

def k0m0 : Method := { name := "<init>", desc := "()V", sig := { parameters := [], returnType := none }, accessFlags := 1, code := none }
def k0m1 : Method := { name := "clone", desc := "()Ljava/lang/Object;", sig := { parameters := [], returnType := some (.object "java/lang/Object") }, accessFlags := 260, code := none }
/-- java/lang/Object -/
def k0 : Class := { plain "java/lang/Object" none with
  accessFlags := 33
  interfaces := #[]
  cf := some (fileOf pool0 8 #[] #[{ accessFlags := 1, nameIndex := 5, descriptorIndex := 6, attributes := #[] }, { accessFlags := 260, nameIndex := 96, descriptorIndex := 97, attributes := #[] }] 33 0 #[] #[])
  fields := #[]
  methods := #[k0m0, k0m1]
  instanceTypes := #[]
  staticTypes := #[]
  resolved := Array.replicate 124 none
  statics := none }

def pool1 : Array CpInfo := pool [(2, .class_ 4), (1, u "java/lang/Object"), (0, u "<init>"), (0, u "()V"), (0, .integer 2147483647), (0, .methodref 9 10), (0, .class_ 11), (0, .nameAndType 12 13), (0, u "com/example/quire/quire/document/DocumentKindForMediaTypePinLaw"), (0, u "media"), (0, u "(I)Lcom/example/quire/quire/pkg/OdfMediaType;"), (0, .methodref 9 15), (0, .nameAndType 16 17), (0, u "expected"), (0, u "(I)Lcom/example/quire/quire/document/DocumentKind;"), (0, .methodref 19 20), (0, .class_ 21), (0, .nameAndType 22 23), (0, u "com/example/quire/quire/document/DocumentKind"), (0, u "forMediaType"), (0, u "(Lcom/example/quire/quire/pkg/OdfMediaType;)Lcom/example/quire/quire/document/DocumentKind;"), (0, .fieldref 25 26), (0, .class_ 27), (0, .nameAndType 28 29), (0, u "com/example/quire/quire/pkg/OdfMediaType"), (0, u "TEXT"), (0, u "Lcom/example/quire/quire/pkg/OdfMediaType;"), (0, .fieldref 25 31), (0, .nameAndType 32 29), (0, u "TEXT_TEMPLATE"), (0, .fieldref 25 34), (0, .nameAndType 35 29), (0, u "TEXT_MASTER"), (0, .fieldref 25 37), (0, .nameAndType 38 29), (0, u "TEXT_MASTER_TEMPLATE"), (0, .fieldref 25 40), (0, .nameAndType 41 29), (0, u "TEXT_WEB"), (0, .fieldref 25 43), (0, .nameAndType 44 29), (0, u "SPREADSHEET"), (0, .fieldref 25 46), (0, .nameAndType 47 29), (0, u "SPREADSHEET_TEMPLATE"), (0, .fieldref 25 49), (0, .nameAndType 50 29), (0, u "PRESENTATION"), (0, .fieldref 25 52), (0, .nameAndType 53 29), (0, u "PRESENTATION_TEMPLATE"), (0, .fieldref 25 55), (0, .nameAndType 56 29), (0, u "GRAPHICS"), (0, .fieldref 25 58), (0, .nameAndType 59 29), (0, u "GRAPHICS_TEMPLATE"), (0, .fieldref 25 61), (0, .nameAndType 62 29), (0, u "CHART"), (0, .fieldref 25 64), (0, .nameAndType 65 29), (0, u "CHART_TEMPLATE"), (0, .fieldref 25 67), (0, .nameAndType 68 29), (0, u "IMAGE"), (0, .fieldref 25 70), (0, .nameAndType 71 29), (0, u "IMAGE_TEMPLATE"), (0, .fieldref 25 73), (0, .nameAndType 74 29), (0, u "FORMULA"), (0, .fieldref 25 76), (0, .nameAndType 77 29), (0, u "FORMULA_TEMPLATE"), (0, .fieldref 25 79), (0, .nameAndType 80 29), (0, u "BASE"), (0, .fieldref 19 82), (0, .nameAndType 28 83), (0, u "Lcom/example/quire/quire/document/DocumentKind;"), (0, .fieldref 19 85), (0, .nameAndType 44 83), (0, .fieldref 19 87), (0, .nameAndType 50 83), (0, .fieldref 19 89), (0, .nameAndType 90 83), (0, u "DRAWING"), (2, u "law"), (0, u "(I)Z")] 3

def k1m0 : Method := { name := "<init>", desc := "()V", sig := { parameters := [], returnType := none }, accessFlags := 1, code := none }
def k1c1 : Code := { maxStack := 2, maxLocals := 4, code := code, exceptionTable := #[], attributes := #[] }
def k1m1 : Method := { name := "law", desc := "(I)Z", sig := { parameters := [.int], returnType := some .boolean }, accessFlags := 9, code := some k1c1 }
def k1c2 : Code := { maxStack := 1, maxLocals := 1, code := method_3_code, exceptionTable := #[], attributes := #[] }
def k1m2 : Method := { name := "media", desc := "(I)Lcom/example/quire/quire/pkg/OdfMediaType;", sig := { parameters := [.int], returnType := some (.object "com/example/quire/quire/pkg/OdfMediaType") }, accessFlags := 10, code := some k1c2 }
def k1c3 : Code := { maxStack := 2, maxLocals := 1, code := method_4_code, exceptionTable := #[], attributes := #[] }
def k1m3 : Method := { name := "expected", desc := "(I)Lcom/example/quire/quire/document/DocumentKind;", sig := { parameters := [.int], returnType := some (.object "com/example/quire/quire/document/DocumentKind") }, accessFlags := 10, code := some k1c3 }
/-- com/example/quire/quire/document/DocumentKindForMediaTypePinLaw -/
def k1 : Class := { plain "com/example/quire/quire/document/DocumentKindForMediaTypePinLaw" (some 0) with
  accessFlags := 49
  interfaces := #[]
  cf := some (fileOf pool1 9 #[] #[{ accessFlags := 1, nameIndex := 5, descriptorIndex := 6, attributes := #[] }, { accessFlags := 9, nameIndex := 93, descriptorIndex := 94, attributes := #[] }, { accessFlags := 10, nameIndex := 12, descriptorIndex := 13, attributes := #[] }, { accessFlags := 10, nameIndex := 16, descriptorIndex := 17, attributes := #[] }] 49 2 #[] #[])
  fields := #[]
  methods := #[k1m0, k1m1, k1m2, k1m3]
  instanceTypes := #[]
  staticTypes := #[]
  resolved := Array.replicate 98 none
  statics := none }

def pool2 : Array CpInfo := pool [(1, .class_ 2), (0, u "java/lang/constant/Constable"), (0, .class_ 4), (0, u "java/lang/Object")] 6

/-- java/lang/constant/Constable -/
def k2 : Class := { plain "java/lang/constant/Constable" (some 0) with
  accessFlags := 1537
  interfaces := #[]
  cf := some (fileOf pool2 1 #[] #[] 1537 3 #[] #[])
  fields := #[]
  methods := #[]
  instanceTypes := #[]
  staticTypes := #[]
  resolved := Array.replicate 11 none
  statics := none }

def pool3 : Array CpInfo := pool [(1, .class_ 2), (0, u "java/lang/Comparable"), (0, .class_ 4), (0, u "java/lang/Object")] 7

/-- java/lang/Comparable -/
def k3 : Class := { plain "java/lang/Comparable" (some 0) with
  accessFlags := 1537
  interfaces := #[]
  cf := some (fileOf pool3 1 #[] #[] 1537 3 #[] #[])
  fields := #[]
  methods := #[]
  instanceTypes := #[]
  staticTypes := #[]
  resolved := Array.replicate 12 none
  statics := none }

def pool4 : Array CpInfo := pool [(1, .class_ 2), (0, u "java/io/Serializable"), (0, .class_ 4), (0, u "java/lang/Object")] 2

/-- java/io/Serializable -/
def k4 : Class := { plain "java/io/Serializable" (some 0) with
  accessFlags := 1537
  interfaces := #[]
  cf := some (fileOf pool4 1 #[] #[] 1537 3 #[] #[])
  fields := #[]
  methods := #[]
  instanceTypes := #[]
  staticTypes := #[]
  resolved := Array.replicate 7 none
  statics := none }

def pool5 : Array CpInfo := pool [(2, .class_ 4), (1, u "java/lang/Enum"), (0, u "name"), (0, u "Ljava/lang/String;"), (2, u "ordinal"), (0, u "I"), (1, .class_ 14), (1, u "java/lang/Object"), (4, u "hash"), (86, .class_ 108), (1, u "java/lang/Enum$EnumDesc"), (2, .class_ 112), (0, u "java/lang/constant/Constable"), (0, .class_ 114), (0, u "java/lang/Comparable"), (0, .class_ 116), (0, u "java/io/Serializable")] 87

/-- java/lang/Enum -/
def k5 : Class := { plain "java/lang/Enum" (some 0) with
  accessFlags := 1057
  interfaces := #[2, 3, 4]
  cf := some (fileOf pool5 2 #[.nestMembers #[106]] #[] 1057 12 #[111, 113, 115] #[{ accessFlags := 18, nameIndex := 5, descriptorIndex := 6, attributes := #[] }, { accessFlags := 18, nameIndex := 9, descriptorIndex := 10, attributes := #[] }, { accessFlags := 2, nameIndex := 19, descriptorIndex := 10, attributes := #[] }])
  fields := #[{ name := "name", type := (.object "java/lang/String"), accessFlags := 18, slot := 0, constantValue := 0 }, { name := "ordinal", type := .int, accessFlags := 18, slot := 1, constantValue := 0 }, { name := "hash", type := .int, accessFlags := 2, slot := 2, constantValue := 0 }]
  methods := #[]
  instanceTypes := #[(.object "java/lang/String"), .int, .int]
  staticTypes := #[]
  resolved := Array.replicate 204 none
  statics := none }

def pool6 : Array CpInfo := pool [(1, .class_ 2), (0, u "com/example/quire/quire/pkg/OdfMediaType"), (2, u "TEXT"), (0, u "Lcom/example/quire/quire/pkg/OdfMediaType;"), (2, u "TEXT_TEMPLATE"), (2, u "TEXT_MASTER"), (2, u "TEXT_MASTER_TEMPLATE"), (2, u "TEXT_WEB"), (2, u "SPREADSHEET"), (2, u "SPREADSHEET_TEMPLATE"), (2, u "PRESENTATION"), (2, u "PRESENTATION_TEMPLATE"), (2, u "GRAPHICS"), (2, u "GRAPHICS_TEMPLATE"), (2, u "CHART"), (2, u "CHART_TEMPLATE"), (2, u "IMAGE"), (2, u "IMAGE_TEMPLATE"), (2, u "FORMULA"), (2, u "FORMULA_TEMPLATE"), (2, u "BASE"), (2, u "$VALUES"), (0, u "[Lcom/example/quire/quire/pkg/OdfMediaType;"), (6, .class_ 70), (1, u "java/lang/Enum"), (8, u "mediaType"), (0, u "Ljava/lang/String;"), (2, u "extension")] 120

/-- com/example/quire/quire/pkg/OdfMediaType -/
def k6 : Class := { plain "com/example/quire/quire/pkg/OdfMediaType" (some 5) with
  accessFlags := 16433
  interfaces := #[]
  cf := some (fileOf pool6 1 #[] #[] 16433 68 #[] #[{ accessFlags := 16409, nameIndex := 5, descriptorIndex := 6, attributes := #[] }, { accessFlags := 16409, nameIndex := 9, descriptorIndex := 6, attributes := #[] }, { accessFlags := 16409, nameIndex := 12, descriptorIndex := 6, attributes := #[] }, { accessFlags := 16409, nameIndex := 15, descriptorIndex := 6, attributes := #[] }, { accessFlags := 16409, nameIndex := 18, descriptorIndex := 6, attributes := #[] }, { accessFlags := 16409, nameIndex := 21, descriptorIndex := 6, attributes := #[] }, { accessFlags := 16409, nameIndex := 24, descriptorIndex := 6, attributes := #[] }, { accessFlags := 16409, nameIndex := 27, descriptorIndex := 6, attributes := #[] }, { accessFlags := 16409, nameIndex := 30, descriptorIndex := 6, attributes := #[] }, { accessFlags := 16409, nameIndex := 33, descriptorIndex := 6, attributes := #[] }, { accessFlags := 16409, nameIndex := 36, descriptorIndex := 6, attributes := #[] }, { accessFlags := 16409, nameIndex := 39, descriptorIndex := 6, attributes := #[] }, { accessFlags := 16409, nameIndex := 42, descriptorIndex := 6, attributes := #[] }, { accessFlags := 16409, nameIndex := 45, descriptorIndex := 6, attributes := #[] }, { accessFlags := 16409, nameIndex := 48, descriptorIndex := 6, attributes := #[] }, { accessFlags := 16409, nameIndex := 51, descriptorIndex := 6, attributes := #[] }, { accessFlags := 16409, nameIndex := 54, descriptorIndex := 6, attributes := #[] }, { accessFlags := 16409, nameIndex := 57, descriptorIndex := 6, attributes := #[] }, { accessFlags := 18, nameIndex := 79, descriptorIndex := 80, attributes := #[] }, { accessFlags := 18, nameIndex := 83, descriptorIndex := 80, attributes := #[] }, { accessFlags := 4122, nameIndex := 60, descriptorIndex := 61, attributes := #[] }])
  fields := #[{ name := "TEXT", type := (.object "com/example/quire/quire/pkg/OdfMediaType"), accessFlags := 16409, slot := 0, constantValue := 0 }, { name := "TEXT_TEMPLATE", type := (.object "com/example/quire/quire/pkg/OdfMediaType"), accessFlags := 16409, slot := 1, constantValue := 0 }, { name := "TEXT_MASTER", type := (.object "com/example/quire/quire/pkg/OdfMediaType"), accessFlags := 16409, slot := 2, constantValue := 0 }, { name := "TEXT_MASTER_TEMPLATE", type := (.object "com/example/quire/quire/pkg/OdfMediaType"), accessFlags := 16409, slot := 3, constantValue := 0 }, { name := "TEXT_WEB", type := (.object "com/example/quire/quire/pkg/OdfMediaType"), accessFlags := 16409, slot := 4, constantValue := 0 }, { name := "SPREADSHEET", type := (.object "com/example/quire/quire/pkg/OdfMediaType"), accessFlags := 16409, slot := 5, constantValue := 0 }, { name := "SPREADSHEET_TEMPLATE", type := (.object "com/example/quire/quire/pkg/OdfMediaType"), accessFlags := 16409, slot := 6, constantValue := 0 }, { name := "PRESENTATION", type := (.object "com/example/quire/quire/pkg/OdfMediaType"), accessFlags := 16409, slot := 7, constantValue := 0 }, { name := "PRESENTATION_TEMPLATE", type := (.object "com/example/quire/quire/pkg/OdfMediaType"), accessFlags := 16409, slot := 8, constantValue := 0 }, { name := "GRAPHICS", type := (.object "com/example/quire/quire/pkg/OdfMediaType"), accessFlags := 16409, slot := 9, constantValue := 0 }, { name := "GRAPHICS_TEMPLATE", type := (.object "com/example/quire/quire/pkg/OdfMediaType"), accessFlags := 16409, slot := 10, constantValue := 0 }, { name := "CHART", type := (.object "com/example/quire/quire/pkg/OdfMediaType"), accessFlags := 16409, slot := 11, constantValue := 0 }, { name := "CHART_TEMPLATE", type := (.object "com/example/quire/quire/pkg/OdfMediaType"), accessFlags := 16409, slot := 12, constantValue := 0 }, { name := "IMAGE", type := (.object "com/example/quire/quire/pkg/OdfMediaType"), accessFlags := 16409, slot := 13, constantValue := 0 }, { name := "IMAGE_TEMPLATE", type := (.object "com/example/quire/quire/pkg/OdfMediaType"), accessFlags := 16409, slot := 14, constantValue := 0 }, { name := "FORMULA", type := (.object "com/example/quire/quire/pkg/OdfMediaType"), accessFlags := 16409, slot := 15, constantValue := 0 }, { name := "FORMULA_TEMPLATE", type := (.object "com/example/quire/quire/pkg/OdfMediaType"), accessFlags := 16409, slot := 16, constantValue := 0 }, { name := "BASE", type := (.object "com/example/quire/quire/pkg/OdfMediaType"), accessFlags := 16409, slot := 17, constantValue := 0 }, { name := "mediaType", type := (.object "java/lang/String"), accessFlags := 18, slot := 3, constantValue := 0 }, { name := "extension", type := (.object "java/lang/String"), accessFlags := 18, slot := 4, constantValue := 0 }, { name := "$VALUES", type := (.array (.object "com/example/quire/quire/pkg/OdfMediaType")), accessFlags := 4122, slot := 18, constantValue := 0 }]
  methods := #[]
  instanceTypes := #[(.object "java/lang/String"), .int, .int, (.object "java/lang/String"), (.object "java/lang/String")]
  staticTypes := #[(.object "com/example/quire/quire/pkg/OdfMediaType"), (.object "com/example/quire/quire/pkg/OdfMediaType"), (.object "com/example/quire/quire/pkg/OdfMediaType"), (.object "com/example/quire/quire/pkg/OdfMediaType"), (.object "com/example/quire/quire/pkg/OdfMediaType"), (.object "com/example/quire/quire/pkg/OdfMediaType"), (.object "com/example/quire/quire/pkg/OdfMediaType"), (.object "com/example/quire/quire/pkg/OdfMediaType"), (.object "com/example/quire/quire/pkg/OdfMediaType"), (.object "com/example/quire/quire/pkg/OdfMediaType"), (.object "com/example/quire/quire/pkg/OdfMediaType"), (.object "com/example/quire/quire/pkg/OdfMediaType"), (.object "com/example/quire/quire/pkg/OdfMediaType"), (.object "com/example/quire/quire/pkg/OdfMediaType"), (.object "com/example/quire/quire/pkg/OdfMediaType"), (.object "com/example/quire/quire/pkg/OdfMediaType"), (.object "com/example/quire/quire/pkg/OdfMediaType"), (.object "com/example/quire/quire/pkg/OdfMediaType"), (.array (.object "com/example/quire/quire/pkg/OdfMediaType"))]
  resolved := Array.replicate 204 none
  statics := some 0 }

def pool7 : Array CpInfo := pool [(1, .class_ 2), (0, u "com/example/quire/quire/document/DocumentKind"), (2, u "TEXT"), (0, u "Lcom/example/quire/quire/document/DocumentKind;"), (2, u "SPREADSHEET"), (2, u "PRESENTATION"), (2, u "DRAWING"), (0, .fieldref 1 17), (0, .nameAndType 18 19), (0, u "$VALUES"), (0, u "[Lcom/example/quire/quire/document/DocumentKind;"), (0, .methodref 21 22), (0, .class_ 19), (0, .nameAndType 23 24), (0, u "clone"), (0, u "()Ljava/lang/Object;"), (1, .class_ 28), (1, u "java/lang/Enum"), (6, .fieldref 1 36), (0, .nameAndType 37 38), (0, u "documentType"), (0, u "Lcom/example/quire/quire/pkg/OdfMediaType;"), (0, .fieldref 1 40), (0, .nameAndType 41 38), (0, u "templateType"), (12, u "bodyElement"), (0, u "Ljavax/xml/namespace/QName;"), (0, .methodref 1 57), (0, .nameAndType 58 59), (0, u "values"), (0, u "()[Lcom/example/quire/quire/document/DocumentKind;"), (49, u "forMediaType"), (0, u "(Lcom/example/quire/quire/pkg/OdfMediaType;)Lcom/example/quire/quire/document/DocumentKind;")] 6

def k7c0 : Code := { maxStack := 1, maxLocals := 0, code := prog_3_method_1_code, exceptionTable := #[], attributes := #[] }
def k7m0 : Method := { name := "values", desc := "()[Lcom/example/quire/quire/document/DocumentKind;", sig := { parameters := [], returnType := some (.array (.object "com/example/quire/quire/document/DocumentKind")) }, accessFlags := 9, code := some k7c0 }
def k7c1 : Code := { maxStack := 2, maxLocals := 5, code := prog_3_method_7_code, exceptionTable := #[], attributes := #[] }
def k7m1 : Method := { name := "forMediaType", desc := "(Lcom/example/quire/quire/pkg/OdfMediaType;)Lcom/example/quire/quire/document/DocumentKind;", sig := { parameters := [(.object "com/example/quire/quire/pkg/OdfMediaType")], returnType := some (.object "com/example/quire/quire/document/DocumentKind") }, accessFlags := 9, code := some k7c1 }
/-- com/example/quire/quire/document/DocumentKind -/
def k7 : Class := { plain "com/example/quire/quire/document/DocumentKind" (some 5) with
  accessFlags := 16433
  interfaces := #[]
  cf := some (fileOf pool7 1 #[] #[{ accessFlags := 9, nameIndex := 58, descriptorIndex := 59, attributes := #[] }, { accessFlags := 9, nameIndex := 109, descriptorIndex := 110, attributes := #[] }] 16433 26 #[] #[{ accessFlags := 16409, nameIndex := 5, descriptorIndex := 6, attributes := #[] }, { accessFlags := 16409, nameIndex := 9, descriptorIndex := 6, attributes := #[] }, { accessFlags := 16409, nameIndex := 12, descriptorIndex := 6, attributes := #[] }, { accessFlags := 16409, nameIndex := 15, descriptorIndex := 6, attributes := #[] }, { accessFlags := 18, nameIndex := 37, descriptorIndex := 38, attributes := #[] }, { accessFlags := 18, nameIndex := 41, descriptorIndex := 38, attributes := #[] }, { accessFlags := 18, nameIndex := 54, descriptorIndex := 55, attributes := #[] }, { accessFlags := 4122, nameIndex := 18, descriptorIndex := 19, attributes := #[] }])
  fields := #[{ name := "TEXT", type := (.object "com/example/quire/quire/document/DocumentKind"), accessFlags := 16409, slot := 0, constantValue := 0 }, { name := "SPREADSHEET", type := (.object "com/example/quire/quire/document/DocumentKind"), accessFlags := 16409, slot := 1, constantValue := 0 }, { name := "PRESENTATION", type := (.object "com/example/quire/quire/document/DocumentKind"), accessFlags := 16409, slot := 2, constantValue := 0 }, { name := "DRAWING", type := (.object "com/example/quire/quire/document/DocumentKind"), accessFlags := 16409, slot := 3, constantValue := 0 }, { name := "documentType", type := (.object "com/example/quire/quire/pkg/OdfMediaType"), accessFlags := 18, slot := 3, constantValue := 0 }, { name := "templateType", type := (.object "com/example/quire/quire/pkg/OdfMediaType"), accessFlags := 18, slot := 4, constantValue := 0 }, { name := "bodyElement", type := (.object "javax/xml/namespace/QName"), accessFlags := 18, slot := 5, constantValue := 0 }, { name := "$VALUES", type := (.array (.object "com/example/quire/quire/document/DocumentKind")), accessFlags := 4122, slot := 4, constantValue := 0 }]
  methods := #[k7m0, k7m1]
  instanceTypes := #[(.object "java/lang/String"), .int, .int, (.object "com/example/quire/quire/pkg/OdfMediaType"), (.object "com/example/quire/quire/pkg/OdfMediaType"), (.object "javax/xml/namespace/QName")]
  staticTypes := #[(.object "com/example/quire/quire/document/DocumentKind"), (.object "com/example/quire/quire/document/DocumentKind"), (.object "com/example/quire/quire/document/DocumentKind"), (.object "com/example/quire/quire/document/DocumentKind"), (.array (.object "com/example/quire/quire/document/DocumentKind"))]
  resolved := Array.replicate 117 none
  statics := some 1 }

def pool8 : Array CpInfo := pool [(1, .class_ 2), (0, u "java/lang/Cloneable"), (0, .class_ 4), (0, u "java/lang/Object")] 2

/-- java/lang/Cloneable -/
def k8 : Class := { plain "java/lang/Cloneable" (some 0) with
  accessFlags := 1537
  interfaces := #[]
  cf := some (fileOf pool8 1 #[] #[] 1537 3 #[] #[])
  fields := #[]
  methods := #[]
  instanceTypes := #[]
  staticTypes := #[]
  resolved := Array.replicate 7 none
  statics := none }

/-- the primitive byte -/
def k9 : Class := { plain "byte" none with kind := .primitive 'B', accessFlags := 0x411 }
/-- [B -/
def k10 : Class := { plain "[B" (some 0) with kind := .array 9 .byte, interfaces := #[8, 4], accessFlags := 1041 }

/-- the primitive int -/
def k11 : Class := { plain "int" none with kind := .primitive 'I', accessFlags := 0x411 }
/-- [I -/
def k12 : Class := { plain "[I" (some 0) with kind := .array 11 .int, interfaces := #[8, 4], accessFlags := 1041 }

/-- [Lcom/example/quire/quire/document/DocumentKind; -/
def k13 : Class := { plain "[Lcom/example/quire/quire/document/DocumentKind;" (some 0) with kind := .array 7 (.object "com/example/quire/quire/document/DocumentKind"), interfaces := #[8, 4], accessFlags := 1041 }

def heap : Heap := #[{ cls := 6, slots := #[.ref 3, .ref 4, .ref 5, .ref 6, .ref 7, .ref 8, .ref 9, .ref 10, .ref 11, .ref 12, .ref 13, .ref 14, .ref 15, .ref 16, .ref 17, .ref 18, .ref 19, .ref 20, .null], vm := .statics 6 },
  { cls := 7, slots := #[.ref 21, .ref 22, .ref 23, .ref 24, .ref 2], vm := .statics 7 },
  { cls := 13, slots := #[.ref 21, .ref 22, .ref 23, .ref 24], vm := .none },
  { cls := 6, slots := #[.null, .int 0, .int 0, .null, .null], vm := .none },
  { cls := 6, slots := #[.null, .int 1, .int 0, .null, .null], vm := .none },
  { cls := 6, slots := #[.null, .int 2, .int 0, .null, .null], vm := .none },
  { cls := 6, slots := #[.null, .int 3, .int 0, .null, .null], vm := .none },
  { cls := 6, slots := #[.null, .int 4, .int 0, .null, .null], vm := .none },
  { cls := 6, slots := #[.null, .int 5, .int 0, .null, .null], vm := .none },
  { cls := 6, slots := #[.null, .int 6, .int 0, .null, .null], vm := .none },
  { cls := 6, slots := #[.null, .int 7, .int 0, .null, .null], vm := .none },
  { cls := 6, slots := #[.null, .int 8, .int 0, .null, .null], vm := .none },
  { cls := 6, slots := #[.null, .int 9, .int 0, .null, .null], vm := .none },
  { cls := 6, slots := #[.null, .int 10, .int 0, .null, .null], vm := .none },
  { cls := 6, slots := #[.null, .int 11, .int 0, .null, .null], vm := .none },
  { cls := 6, slots := #[.null, .int 12, .int 0, .null, .null], vm := .none },
  { cls := 6, slots := #[.null, .int 13, .int 0, .null, .null], vm := .none },
  { cls := 6, slots := #[.null, .int 14, .int 0, .null, .null], vm := .none },
  { cls := 6, slots := #[.null, .int 15, .int 0, .null, .null], vm := .none },
  { cls := 6, slots := #[.null, .int 16, .int 0, .null, .null], vm := .none },
  { cls := 6, slots := #[.null, .int 17, .int 0, .null, .null], vm := .none },
  { cls := 7, slots := #[.null, .int 0, .int 0, .ref 3, .ref 4, .null], vm := .none },
  { cls := 7, slots := #[.null, .int 1, .int 0, .ref 8, .ref 9, .null], vm := .none },
  { cls := 7, slots := #[.null, .int 2, .int 0, .ref 10, .ref 11, .null], vm := .none },
  { cls := 7, slots := #[.null, .int 3, .int 0, .ref 12, .ref 13, .null], vm := .none }]
def classes : Array Class := #[k0, k1, k2, k3, k4, k5, k6, k7, k8, k9, k10, k11, k12, k13]
def interned : List (Array UInt16 × Addr) := []
def slotsUsed : Nat := 142
def theMethod : MethodId := ⟨1, 1⟩
def args0 : Array Value := #[.int 5]
def aboutOver (below : List Frame) : State where
  vm := { classes := classes, interned := interned.toArray }
  heap := heap
  slotsUsed := slotsUsed
  threads := #[{ frames := .invoking theMethod args0 :: below }]
def below0 : List Frame := [.native { method := ⟨0, 0⟩, args := #[] }]
def about1 : State := aboutOver below0
def p0 : Program := .bare "" "" ""
def e0 : Env := launch0.env 0 0 0
theorem w_frames : about1.frames = Frame.invoking theMethod args0 :: below0 := rfl
set_option maxRecDepth 65536 in
theorem w_args : argsFit about1.vm theMethod args0 = true := by decide +kernel
set_option maxRecDepth 65536 in
theorem w_heap : heapFits about1 = true := by decide +kernel
set_option maxRecDepth 65536 in
theorem w_runnable : about1.curStatus? = some .runnable := by decide +kernel
set_option maxRecDepth 65536 in
theorem w_alone : about1.alone = true := by decide +kernel
set_option maxRecDepth 65536 in
theorem w_named : about1.methodNamed? x = some theMethod := by decide +kernel
set_option maxRecDepth 65536 in
theorem w_hears : about1.hears theMethod below0 = true := by decide +kernel
set_option maxRecDepth 65536 in
theorem w_ripe : about1.ripe theMethod args0 below0 = true := by decide +kernel
theorem w_running : about1.status = .running := rfl
set_option maxRecDepth 65536 in
theorem w_room : about1.hasRoom e0.platform room_1 = true :=
  launch0.hasRoom_least _ room_1 (by decide +kernel) (by decide +kernel) (by decide +kernel) (by decide +kernel) (by decide +kernel) (by decide +kernel)
theorem allAtoms_all (ts : List Jvm.Cond) (a : Array Jvm.Value) (st : Jvm.State) : (allAtoms ts).before a st = ts.all (fun c => c.before a st) := by
  induction ts with
  | nil => rfl
  | cons c t ih =>
    show (Jvm.Cond.and c (allAtoms t)).before a st = _
    rw [Jvm.Cond.before_and, ih, List.all_cons]
def words1 : List Jvm.Cond := Jvm.Cond.code x code maxLocals ret :: tables_1
/-- a 'code' word, met by the world's own term for the bytes: nothing is compared byte by byte -/
theorem code_word {y : MethodName} {bytes : ByteArray} {mx : Nat} {rt : Option FieldType} {a : Array Value} {s : State} {m : MethodId} {meth : Method} {c : Code} (h1 : s.methodNamed? y = some m) (h2 : s.vm.method? m = some meth) (h3 : meth.code = some c) (h4 : c.code = bytes)
    (h5 : (c.maxLocals == mx && c.exceptionTable.isEmpty && decide (c.maxStack ≤ mostOperands) && decide (meth.sig.returnType = rt) && !meth.locks && decide (parseMethodDescriptor y.desc = some meth.sig)) = true) : (Jvm.Cond.code y bytes mx rt).before a s = true := by
  simp only [Bool.and_eq_true, beq_iff_eq, Bool.not_eq_true', decide_eq_true_eq] at h5
  obtain ⟨⟨⟨⟨⟨g1, g2⟩, g3⟩, g4⟩, g5⟩, g6⟩ := h5
  simp [Cond.before, Cond.holds, Cond.value, h1, h2, h3, h4, g1, g2, g3, g4, g5, g6]
def isCode : Jvm.Cond → Bool
  | .code _ _ _ _ => true
  | _ => false
theorem all_split {L : List Jvm.Cond} {P : Jvm.Cond → Bool} (h1 : L.all (fun c => isCode c || P c) = true) (h2 : ∀ c ∈ L.filter isCode, P c = true) : L.all P = true := by
  refine List.all_eq_true.mpr fun c hc => ?_
  have h := List.all_eq_true.mp h1 c hc
  rcases Bool.eq_false_or_eq_true (isCode c) with hi | hi
  · exact h2 c (List.mem_filter.mpr ⟨hc, hi⟩)
  · simpa [hi] using h
set_option maxRecDepth 65536 in
theorem w_c0 : (Jvm.Cond.code x code maxLocals ret).before args0 about1 = true := code_word (m := ⟨1, 1⟩) (meth := k1m1) (c := k1c1) (by decide +kernel) rfl rfl rfl (by decide +kernel)
set_option maxRecDepth 65536 in
theorem w_c1 : (Jvm.Cond.code ({ cls := "com/example/quire/quire/document/DocumentKindForMediaTypePinLaw", name := "media", desc := "(I)Lcom/example/quire/quire/pkg/OdfMediaType;" } : Jvm.MethodName) method_3_code (1 : Nat) (Option.some (Jvm.ClassFile.FieldType.object "com/example/quire/quire/pkg/OdfMediaType"))).before args0 about1 = true := code_word (m := ⟨1, 2⟩) (meth := k1m2) (c := k1c2) (by decide +kernel) rfl rfl rfl (by decide +kernel)
set_option maxRecDepth 65536 in
theorem w_c2 : (Jvm.Cond.code ({ cls := "com/example/quire/quire/document/DocumentKindForMediaTypePinLaw", name := "expected", desc := "(I)Lcom/example/quire/quire/document/DocumentKind;" } : Jvm.MethodName) method_4_code (1 : Nat) (Option.some (Jvm.ClassFile.FieldType.object "com/example/quire/quire/document/DocumentKind"))).before args0 about1 = true := code_word (m := ⟨1, 3⟩) (meth := k1m3) (c := k1c3) (by decide +kernel) rfl rfl rfl (by decide +kernel)
set_option maxRecDepth 65536 in
theorem w_c3 : (Jvm.Cond.code ({ cls := "com/example/quire/quire/document/DocumentKind", name := "forMediaType", desc := "(Lcom/example/quire/quire/pkg/OdfMediaType;)Lcom/example/quire/quire/document/DocumentKind;" } : Jvm.MethodName) prog_3_method_7_code (5 : Nat) (Option.some (Jvm.ClassFile.FieldType.object "com/example/quire/quire/document/DocumentKind"))).before args0 about1 = true := code_word (m := ⟨7, 1⟩) (meth := k7m1) (c := k7c1) (by decide +kernel) rfl rfl rfl (by decide +kernel)
set_option maxRecDepth 65536 in
theorem w_c4 : (Jvm.Cond.code ({ cls := "com/example/quire/quire/document/DocumentKind", name := "values", desc := "()[Lcom/example/quire/quire/document/DocumentKind;" } : Jvm.MethodName) prog_3_method_1_code (0 : Nat) (Option.some (Jvm.ClassFile.FieldType.array (Jvm.ClassFile.FieldType.object "com/example/quire/quire/document/DocumentKind")))).before args0 about1 = true := code_word (m := ⟨7, 0⟩) (meth := k7m0) (c := k7c0) (by decide +kernel) rfl rfl rfl (by decide +kernel)
def codes1 : List Jvm.Cond := [Jvm.Cond.code x code maxLocals ret, Jvm.Cond.code ({ cls := "com/example/quire/quire/document/DocumentKindForMediaTypePinLaw", name := "media", desc := "(I)Lcom/example/quire/quire/pkg/OdfMediaType;" } : Jvm.MethodName) method_3_code (1 : Nat) (Option.some (Jvm.ClassFile.FieldType.object "com/example/quire/quire/pkg/OdfMediaType")), Jvm.Cond.code ({ cls := "com/example/quire/quire/document/DocumentKindForMediaTypePinLaw", name := "expected", desc := "(I)Lcom/example/quire/quire/document/DocumentKind;" } : Jvm.MethodName) method_4_code (1 : Nat) (Option.some (Jvm.ClassFile.FieldType.object "com/example/quire/quire/document/DocumentKind")), Jvm.Cond.code ({ cls := "com/example/quire/quire/document/DocumentKind", name := "forMediaType", desc := "(Lcom/example/quire/quire/pkg/OdfMediaType;)Lcom/example/quire/quire/document/DocumentKind;" } : Jvm.MethodName) prog_3_method_7_code (5 : Nat) (Option.some (Jvm.ClassFile.FieldType.object "com/example/quire/quire/document/DocumentKind")), Jvm.Cond.code ({ cls := "com/example/quire/quire/document/DocumentKind", name := "values", desc := "()[Lcom/example/quire/quire/document/DocumentKind;" } : Jvm.MethodName) prog_3_method_1_code (0 : Nat) (Option.some (Jvm.ClassFile.FieldType.array (Jvm.ClassFile.FieldType.object "com/example/quire/quire/document/DocumentKind")))]
set_option maxRecDepth 65536 in
theorem codes_eq : words1.filter isCode = codes1 := rfl
theorem w_codes : ∀ c ∈ words1.filter isCode, c.before args0 about1 = true := by
  rw [codes_eq]
  intro c hc
  simp only [codes1, List.mem_cons, List.not_mem_nil, or_false] at hc
  rcases hc with rfl | rfl | rfl | rfl | rfl
  · exact w_c0
  · exact w_c1
  · exact w_c2
  · exact w_c3
  · exact w_c4
set_option maxRecDepth 65536 in
theorem w_t1 : (words1.take 24).all (fun c => isCode c || c.before args0 about1) = true := by decide +kernel
set_option maxRecDepth 65536 in
theorem w_t2 : ((words1.drop 24).take 24).all (fun c => isCode c || c.before args0 about1) = true := by decide +kernel
set_option maxRecDepth 65536 in
theorem w_t3 : (((words1.drop 24).drop 24).take 24).all (fun c => isCode c || c.before args0 about1) = true := by decide +kernel
set_option maxRecDepth 65536 in
theorem w_t4 : (((words1.drop 24).drop 24).drop 24).all (fun c => isCode c || c.before args0 about1) = true := by decide +kernel
theorem w_tables : (allAtoms (Jvm.Cond.code x code maxLocals ret :: tables_1)).before args0 about1 = true := by
  rw [allAtoms_all]
  show words1.all (fun c => c.before args0 about1) = true
  refine all_split ?_ w_codes
  rw [← List.take_append_drop 24 words1, List.all_append, w_t1, ← List.take_append_drop 24 (words1.drop 24), List.all_append, w_t2, ← List.take_append_drop 24 ((words1.drop 24).drop 24), List.all_append, w_t3, w_t4]
  rfl
set_option maxRecDepth 65536 in
theorem w_case : (Jvm.Cond.and given_1 narrow_1).before args0 about1 = true := by decide +kernel
theorem w_applies : (headSpec (Jvm.Cond.code x code maxLocals ret :: tables_1) room_1).applies x e0.platform about1 = true :=
  (Spec.applies_iff w_frames).mpr ⟨w_running, w_runnable, w_alone, w_named, w_hears, w_ripe, w_room, w_tables⟩
theorem atStart : AtStart classFile x code maxLocals ret World_1 tables_1 room_1 Calls_1 rest_1 Pre_1 launch0 p0 e0 about1 theMethod args0 below0 :=
  ⟨lists_1, trivial, launch0.admits_env _ _ _, launch0.least_env, fairChoices_fair.cas, fairChoices_fair.clock, w_frames, w_args, w_heap, w_applies, trivial, trivial, w_case⟩
end start1
theorem witness_1 : WitnessClaimed_1 := ⟨start1.p0, start1.e0, start1.about1, start1.theMethod, start1.args0, start1.below0, start1.atStart⟩
end Jvm.Pilot.@@N@@
