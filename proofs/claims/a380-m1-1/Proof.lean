import JvmDerived
import JvmDerived.Pilot.@@N@@Statement
import JvmDerived.Pilot.@@N@@Code
set_option linter.unusedVariables false
set_option linter.unusedSimpArgs false
namespace Jvm.Pilot.@@N@@
open Jvm Jvm.ClassFile Sem Op Lib Jvm.Free Jvm.Stand Jvm.LawKit Jvm.RoadKit Bundle Jvm.Pilot.@@N@@.Jvm.D
section Own
variable {p : Program} {l : Launch} {e : Env} {R : Room} {s : State} {m : MethodId} {args : Array Value} {below : List Frame} {meth : Method} {c : Code} {T : State} {locs : List Loc} {cells slots : Nat} {Z : State} {h h' : Heap}
def Run (p : Program) (e : Env) (below : List Frame) (s : State) (C N : Nat) (Q : Option Value → Heap → List Loc → Prop) (S : State) : Prop :=
  ∃ s₂ o, Steps p.tables e below S s₂ ∧ s₂.status = .running ∧ Ended s₂ below o ∧ ∃ v L, o = .returned v ∧ Q v s₂.heap L ∧ FrameEnd s o s₂ L C N
variable {C N : Nat} {Q : Option Value → Heap → List Loc → Prop} {S S' : State}
theorem Run.go (k : ∀ t, Steps p.tables e below S' t → Steps p.tables e below S t) (r : Run p e below s C N Q S') : Run p e below s C N Q S := by
  obtain ⟨s₂, o, h1, r⟩ := r
  exact ⟨s₂, o, k _ h1, r⟩
theorem Run.tr (k : Steps p.tables e below S S') (r : Run p e below s C N Q S') : Run p e below s C N Q S := by
  obtain ⟨s₂, o, h1, r⟩ := r
  exact ⟨s₂, o, k.trans h1, r⟩
theorem Run.retI (X : Stand p l e R s m args below meth c T locs cells slots) (hx : p.tables.exec = Jvm.exec) {pc : Nat} {Ls : Array Slot} {z : Int32} {rest : List Value} (hret : meth.sig.returnType = some .int) (hlk : meth.locks = false) (hd : decode c.code pc = .ok (.ireturn, 1)) (hc : cells ≤ C) (hn : slots ≤ N)
    (hQ : Q (some (.int z)) T.heap locs) : Run p e below s C N Q (T.setTop (mkF m pc Ls (.int z :: rest))) := by
  obtain ⟨fs, hr, hrun, hended, hW, hsame⟩ := X.leave (v := some (.int z)) (fun q => by rw [hret] at q; cases q)
  refine ⟨_, _, ?_, hrun, hended, _, _, rfl, hQ, ⟨_, rfl⟩, hW, hsame.mono hc hn⟩
  have hm' : T.vm.method? m = some meth := X.method'
  have hn : narrow .int (.int z) = .int z := rfl
  show Steps p.tables e below (T.setTop { method := m, pc := pc, locals := Ls, stack := _ :: rest, locked := none }) _
  jvm_step X.here [X.here.top, hx, hd, hm', hret, hn]
  first | (intro acts; rw [hr _ acts rfl rfl rfl]) | rw [hr _ _ rfl rfl rfl]
  exact Steps.refl _
theorem Run.retN (X : Stand p l e R s m args below meth c T locs cells slots) (hx : p.tables.exec = Jvm.exec) {pc : Nat} {Ls : Array Slot} {z y : Int32} {t : FieldType} {rest : List Value} (hret : meth.sig.returnType = some t) (ht : t = .boolean ∨ t = .byte ∨ t = .char ∨ t = .short) (hy : nar t z = y) (hlk : meth.locks = false) (hd : decode c.code pc = .ok (.ireturn, 1)) (hc : cells ≤ C) (hn : slots ≤ N)
    (hQ : Q (some (.int y)) T.heap locs) : Run p e below s C N Q (T.setTop (mkF m pc Ls (.int z :: rest))) := by
  subst hy
  obtain ⟨fs, hr, hrun, hended, hW, hsame⟩ := X.leave (v := some (.int (nar t z))) (fun q => by rw [hret] at q; cases q)
  exact ⟨_, _, Jvm.RoadKit.retN X hx hret ht hd hr, hrun, hended, _, _, rfl, hQ, ⟨_, rfl⟩, hW, hsame.mono hc hn⟩
theorem Run.retJ (X : Stand p l e R s m args below meth c T locs cells slots) (hx : p.tables.exec = Jvm.exec) {pc : Nat} {Ls : Array Slot} {z : Int64} {rest : List Value} (hret : meth.sig.returnType = some .long) (hlk : meth.locks = false) (hd : decode c.code pc = .ok (.lreturn, 1)) (hc : cells ≤ C) (hn : slots ≤ N)
    (hQ : Q (some (.long z)) T.heap locs) : Run p e below s C N Q (T.setTop (mkF m pc Ls (.long z :: rest))) := by
  obtain ⟨fs, hr, hrun, hended, hW, hsame⟩ := X.leave (v := some (.long z)) (fun q => by rw [hret] at q; cases q)
  refine ⟨_, _, ?_, hrun, hended, _, _, rfl, hQ, ⟨_, rfl⟩, hW, hsame.mono hc hn⟩
  have hm' : T.vm.method? m = some meth := X.method'
  show Steps p.tables e below (T.setTop { method := m, pc := pc, locals := Ls, stack := _ :: rest, locked := none }) _
  jvm_step X.here [X.here.top, hx, hd, hm', hret, narrow]
  first | (intro acts; rw [hr _ acts rfl rfl rfl]) | rw [hr _ _ rfl rfl rfl]
  exact Steps.refl _
theorem Run.retA (X : Stand p l e R s m args below meth c T locs cells slots) (hx : p.tables.exec = Jvm.exec) {pc : Nat} {Ls : Array Slot} {w : Value} {t : FieldType} {rest : List Value} (hw : w.isRef = true) (hret : meth.sig.returnType = some t) (ht : t.isReference = true) (hlk : meth.locks = false) (hd : decode c.code pc = .ok (.areturn, 1)) (hc : cells ≤ C) (hn : slots ≤ N)
    (hQ : Q (some w) T.heap locs) : Run p e below s C N Q (T.setTop (mkF m pc Ls (w :: rest))) := by
  obtain ⟨fs, hr, hrun, hended, hW, hsame⟩ := X.leave (v := some w) (fun q => by rw [hret] at q; cases q)
  refine ⟨_, _, ?_, hrun, hended, _, _, rfl, hQ, ⟨_, rfl⟩, hW, hsame.mono hc hn⟩
  have hm' : T.vm.method? m = some meth := X.method'
  show Steps p.tables e below (T.setTop { method := m, pc := pc, locals := Ls, stack := _ :: rest, locked := none }) _
  rcases ref_cases hw with rfl | ⟨a, rfl⟩
  all_goals
    jvm_step X.here [X.here.top, hx, hd, hm', hret, Value.isRef, ht]
    first | (intro acts; rw [hr _ acts rfl rfl rfl]) | rw [hr _ _ rfl rfl rfl]
    exact Steps.refl _
theorem Run.ret0 (X : Stand p l e R s m args below meth c T locs cells slots) (hx : p.tables.exec = Jvm.exec) {pc : Nat} {Ls : Array Slot} (hret : meth.sig.returnType = none) (hlk : meth.locks = false) (hd : decode c.code pc = .ok (.return_, 1)) (hc : cells ≤ C) (hn : slots ≤ N)
    (hQ : Q none T.heap locs) : Run p e below s C N Q (T.setTop (mkF m pc Ls [])) := by
  obtain ⟨fs, hr, hrun, hended, hW, hsame⟩ := X.leave (v := none) (fun _ => rfl)
  exact ⟨_, _, X.returnOut hx hret hd hr, hrun, hended, _, _, rfl, hQ, ⟨_, rfl⟩, hW, hsame.mono hc hn⟩
theorem Stand_gen {k : Nat} (X : Stand p l e R s m args below meth c T locs cells slots) (F : Fr k locs) : ∃ L, Stand p l e R s m args below meth c T L cells slots ∧ Fr k L := ⟨_, X, F⟩
theorem Sta.keep {C n d : String} {w : Value} {ws : List Addr} (F : Sta Z h C n d w) (K : Keep h h' ws) (q : ∀ x ∈ ws, ∀ c : Cell, h[x]? = some c → c.vm.isStatics = false) : Sta Z h' C n d w := by
  obtain ⟨cf, i, k, f, st, cell, h1, h2, h3, h4, h5, h6, h7⟩ := F
  refine ⟨cf, i, k, f, st, cell, h1, h2, h3, h4, K.2.1 st cell h5 (fun hm => ?_), h6, h7⟩
  rw [q st hm cell h5] at h6; cases h6
theorem Exa.nst {a : Addr} {C : String} (F : Exa Z h a C) : ∀ c : Cell, h[a]? = some c → c.vm.isStatics = false := fun c q => by
  obtain ⟨cell, k, h1, -, -, h4, -⟩ := F
  cases h1.symm.trans q; exact h4
/-- an array of n elements, the i-th is f i -/
def Ary (Z : State) (h : Heap) (a : Addr) (ty : FieldType) (n : Nat) (f : Nat → Value) : Prop := ∃ c : Cell, Arr Z h a c ty ∧ c.slots.size = n ∧ ∀ i, i < n → c.slots[i]? = some (f i)
variable {a b : Addr} {ty : FieldType} {n sl : Nat} {f : Nat → Value} {v : Value} {ws : List Addr}
theorem Ary.lt (F : Ary Z h a ty n f) : a < h.size := by obtain ⟨c, A, -⟩ := F; exact A.lt
theorem Ary.ext (F : Ary Z h a ty n f) (E : Ext h h') : Ary Z h' a ty n f := by obtain ⟨c, A, r⟩ := F; exact ⟨c, A.ext E, r⟩
theorem Ary.other (F : Ary Z h b ty n f) (W : Wr h h' a sl v) (q : b ≠ a) : Ary Z h' b ty n f := by obtain ⟨c, A, r⟩ := F; exact ⟨c, A.other W q, r⟩
theorem Ary.keep (F : Ary Z h a ty n f) (K : Keep h h' ws) (q : a ∉ ws) : Ary Z h' a ty n f := by obtain ⟨c, A, r⟩ := F; exact ⟨c, ⟨K.2.1 a c A.1 q, A.2⟩, r⟩
theorem Ary.ne {C : String} {a0 : Array Value} {k : Nat} (F : Ary Z h a ty n f) (G : Exa Z h b C) (wi : (Jvm.Cond.instantiable C k).before a0 Z = true) : a ≠ b := by
  obtain ⟨c, A, r⟩ := F; exact (ne_arr G wi A).symm
theorem Ary.same (F : Ary Z h a ty n f) (W : Wr h h' a sl v) : Ary Z h' a ty n (fun i => if i = sl then v else f i) := by
  obtain ⟨c, A, hs, hf⟩ := F
  obtain ⟨c1, q1, q2, q3, q4⟩ := W
  obtain rfl := Option.some.inj (q1.symm.trans A.1)
  refine ⟨c1.setSlot sl v, A.same ⟨c1, q1, q2, q3, q4⟩, by simp [Cell.setSlot, hs], fun i hi => ?_⟩
  by_cases e : i = sl
  · subst e; simp [Cell.setSlot, q3]
  · simp only [if_neg e]; rw [← hf i hi]; exact Array.getElem?_setIfInBounds_ne (Ne.symm e)
theorem Ary.nst (F : Ary Z h a ty n f) : ∀ c : Cell, h[a]? = some c → c.vm.isStatics = false := fun c q => by
  obtain ⟨cl, A, -⟩ := F
  cases A.1.symm.trans q; exact A.plain
theorem Ary.congr {g : Nat → Value} (F : Ary Z h a ty n f) (q : ∀ i, i < n → f i = g i) : Ary Z h a ty n g := by
  obtain ⟨c, A, hs, hf⟩ := F; exact ⟨c, A, hs, fun i hi => by rw [hf i hi, q i hi]⟩
theorem Ary.new {k : ClassId} {z : Int32} (A : Arr Z h a (newA k ty z) ty) (q : z.toNatClampNeg = n) : Ary Z h a ty n (fun _ => defaultValue ty) := by
  subst q
  exact ⟨_, A, sz_new _ _ _, fun i hi => by simp [newA, hi]⟩
theorem out_of {j : Int32} {c : Cell} (hs : c.slots.size = n) (h0 : ¬ j < 0) (hj : j.toNatClampNeg < n) : ¬ (j < 0 ∨ c.slots.size ≤ j.toNatClampNeg) := by
  rw [hs]; exact fun q => q.elim h0 (fun q => absurd hj (Nat.not_lt.mpr q))
/-- an array of references: besides, its class is that of arrays over C -/
def ArR (Z : State) (h : Heap) (a : Addr) (C : String) (n : Nat) (f : Nat → Value) : Prop := ∃ c : Cell, Arr Z h a c (.object C) ∧ Ovr Z c.cls C ∧ c.slots.size = n ∧ ∀ i, i < n → c.slots[i]? = some (f i)
variable {K : String}
theorem ArR.lt (F : ArR Z h a K n f) : a < h.size := by obtain ⟨c, A, -⟩ := F; exact A.lt
theorem ArR.ext (F : ArR Z h a K n f) (E : Ext h h') : ArR Z h' a K n f := by obtain ⟨c, A, r⟩ := F; exact ⟨c, A.ext E, r⟩
theorem ArR.other (F : ArR Z h b K n f) (W : Wr h h' a sl v) (q : b ≠ a) : ArR Z h' b K n f := by obtain ⟨c, A, r⟩ := F; exact ⟨c, A.other W q, r⟩
theorem ArR.keep (F : ArR Z h a K n f) (k : Keep h h' ws) (q : a ∉ ws) : ArR Z h' a K n f := by obtain ⟨c, A, r⟩ := F; exact ⟨c, ⟨k.2.1 a c A.1 q, A.2⟩, r⟩
theorem ArR.ary (F : ArR Z h a K n f) : Ary Z h a (.object K) n f := by obtain ⟨c, A, -, r⟩ := F; exact ⟨c, A, r⟩
theorem ArR.same (F : ArR Z h a K n f) (W : Wr h h' a sl v) : ArR Z h' a K n (fun i => if i = sl then v else f i) := by
  obtain ⟨c, A, o, hs, hf⟩ := F
  obtain ⟨c1, q1, q2, q3, q4⟩ := W
  obtain rfl := Option.some.inj (q1.symm.trans A.1)
  refine ⟨c1.setSlot sl v, A.same ⟨c1, q1, q2, q3, q4⟩, o, by simp [Cell.setSlot, hs], fun i hi => ?_⟩
  by_cases e : i = sl
  · subst e; simp [Cell.setSlot, q3]
  · simp only [if_neg e]; rw [← hf i hi]; exact Array.getElem?_setIfInBounds_ne (Ne.symm e)
theorem ArR.new {k : ClassId} {z : Int32} (A : Arr Z h a (newA k (.object K) z) (.object K)) (O : Ovr Z k K) (q : z.toNatClampNeg = n) : ArR Z h a K n (fun _ => .null) := by
  subst q
  exact ⟨_, A, O, sz_new _ _ _, fun i hi => by simp [newA, hi]; rfl⟩
section Arrays
theorem ary_iget (X : Stand p l e R s m args below meth c T locs cells slots) (hx : p.tables.exec = Jvm.exec) (hZ : Z.Warmed39 s.vm) (eT : T.heap = h) (A : Ary Z h a .int n f) {j : Int32} (h0 : ¬ j < 0) (hj : j.toNatClampNeg < n) {g : JFrame} (hg : g.method = m) {rest : List Value} (hs : g.stack = .int j :: .ref a :: rest) (hd : decode c.code g.pc = .ok (.iaload, 1)) {v : Value} (hv : f j.toNatClampNeg = v) (target : State)
    (k : Steps p.tables e below (T.setTop { g with pc := g.pc + 1, stack := v :: rest }) target) : Steps p.tables e below (T.setTop g) target := by
  subst hv; obtain ⟨cl, A, q, F⟩ := A
  exact X.iaload hx (by rw [eT]; exact A.1) (State.isArrayOf_alike hZ.alike A.2.1) A.2.2 (out_of q h0 hj) (F _ hj) hg hs hd target k
theorem ary_lget (X : Stand p l e R s m args below meth c T locs cells slots) (hx : p.tables.exec = Jvm.exec) (hZ : Z.Warmed39 s.vm) (eT : T.heap = h) (A : Ary Z h a .long n f) {j : Int32} (h0 : ¬ j < 0) (hj : j.toNatClampNeg < n) {g : JFrame} (hg : g.method = m) {rest : List Value} (hs : g.stack = .int j :: .ref a :: rest) (hd : decode c.code g.pc = .ok (.laload, 1)) {v : Value} (hv : f j.toNatClampNeg = v) (target : State)
    (k : Steps p.tables e below (T.setTop { g with pc := g.pc + 1, stack := v :: rest }) target) : Steps p.tables e below (T.setTop g) target := by
  subst hv; obtain ⟨cl, A, q, F⟩ := A
  exact X.laload hx (by rw [eT]; exact A.1) (State.isArrayOf_alike hZ.alike A.2.1) A.2.2 (out_of q h0 hj) (F _ hj) hg hs hd target k
theorem ary_bget (X : Stand p l e R s m args below meth c T locs cells slots) (hx : p.tables.exec = Jvm.exec) (hZ : Z.Warmed39 s.vm) (eT : T.heap = h) (A : Ary Z h a .byte n f) {j : Int32} (h0 : ¬ j < 0) (hj : j.toNatClampNeg < n) {g : JFrame} (hg : g.method = m) {rest : List Value} (hs : g.stack = .int j :: .ref a :: rest) (hd : decode c.code g.pc = .ok (.baload, 1)) {v : Value} (hv : f j.toNatClampNeg = v) (target : State)
    (k : Steps p.tables e below (T.setTop { g with pc := g.pc + 1, stack := v :: rest }) target) : Steps p.tables e below (T.setTop g) target := by
  subst hv; obtain ⟨cl, A, q, F⟩ := A
  exact X.baloadBytes hx (by rw [eT]; exact A.1) (State.isArrayOf_alike hZ.alike A.2.1) A.2.2 (out_of q h0 hj) (F _ hj) hg hs hd target k
theorem ary_cget (X : Stand p l e R s m args below meth c T locs cells slots) (hx : p.tables.exec = Jvm.exec) (hZ : Z.Warmed39 s.vm) (eT : T.heap = h) (A : Ary Z h a .char n f) {j : Int32} (h0 : ¬ j < 0) (hj : j.toNatClampNeg < n) {g : JFrame} (hg : g.method = m) {rest : List Value} (hs : g.stack = .int j :: .ref a :: rest) (hd : decode c.code g.pc = .ok (.caload, 1)) {v : Value} (hv : f j.toNatClampNeg = v) (target : State)
    (k : Steps p.tables e below (T.setTop { g with pc := g.pc + 1, stack := v :: rest }) target) : Steps p.tables e below (T.setTop g) target := by
  subst hv; obtain ⟨cl, A, q, F⟩ := A
  exact X.caload hx (by rw [eT]; exact A.1) (State.isArrayOf_alike hZ.alike A.2.1) A.2.2 (out_of q h0 hj) (F _ hj) hg hs hd target k
theorem ary_aget (X : Stand p l e R s m args below meth c T locs cells slots) (hx : p.tables.exec = Jvm.exec) (hZ : Z.Warmed39 s.vm) (eT : T.heap = h) (A : Ary Z h a ty n f) (hr : ty.isReference = true) {j : Int32} (h0 : ¬ j < 0) (hj : j.toNatClampNeg < n) {g : JFrame} (hg : g.method = m) {rest : List Value} (hs : g.stack = .int j :: .ref a :: rest) (hd : decode c.code g.pc = .ok (.aaload, 1)) {v : Value} (hv : f j.toNatClampNeg = v) (target : State)
    (k : Steps p.tables e below (T.setTop { g with pc := g.pc + 1, stack := v :: rest }) target) : Steps p.tables e below (T.setTop g) target := by
  subst hv; obtain ⟨cl, A, q, F⟩ := A
  exact X.aaload hx (by rw [eT]; exact A.1) (State.isArrayOf_alike hZ.alike A.2.1) hr A.2.2 (out_of q h0 hj) (F _ hj) hg hs hd target k
theorem ary_len (X : Stand p l e R s m args below meth c T locs cells slots) (hx : p.tables.exec = Jvm.exec) (hZ : Z.Warmed39 s.vm) (eT : T.heap = h) (A : Ary Z h a ty n f) {g : JFrame} (hg : g.method = m) {rest : List Value} (hs : g.stack = .ref a :: rest) (hd : decode c.code g.pc = .ok (.arraylength, 1)) {z : Int32} (hv : n.toInt32 = z) (target : State)
    (k : Steps p.tables e below (T.setTop { g with pc := g.pc + 1, stack := .int z :: rest }) target) : Steps p.tables e below (T.setTop g) target := by
  subst hv; obtain ⟨cl, A, q, F⟩ := A
  subst q
  exact X.arraylength hx (by rw [eT]; exact A.1) (State.isArrayOf_alike hZ.alike A.2.1) hg hs hd target k
theorem ary_iset (X : Stand p l e R s m args below meth c T locs cells slots) (hx : p.tables.exec = Jvm.exec) (hZ : Z.Warmed39 s.vm) (eT : T.heap = h) (A : Ary Z h a .int n f) {j x : Int32} (h0 : ¬ j < 0) (hj : j.toNatClampNeg < n) {g : JFrame} (hg : g.method = m) {rest : List Value} (hs : g.stack = .int x :: .int j :: .ref a :: rest) (hd : decode c.code g.pc = .ok (.iastore, 1)) :
    ∃ T' h', Stand p l e R s m args below meth c T' (locs ++ [⟨a, j.toNatClampNeg⟩]) cells slots ∧ T'.heap = h' ∧ Wr h h' a j.toNatClampNeg (.int x) ∧ ∀ target, Steps p.tables e below (T'.setTop { g with pc := g.pc + 1, stack := rest }) target → Steps p.tables e below (T.setTop g) target := by
  obtain ⟨cl, A, q, F⟩ := A
  exact stI X hx hZ eT A (out_of q h0 hj) hg hs hd
theorem ary_lset (X : Stand p l e R s m args below meth c T locs cells slots) (hx : p.tables.exec = Jvm.exec) (hZ : Z.Warmed39 s.vm) (eT : T.heap = h) (A : Ary Z h a .long n f) {j : Int32} {x : Int64} (h0 : ¬ j < 0) (hj : j.toNatClampNeg < n) {g : JFrame} (hg : g.method = m) {rest : List Value} (hs : g.stack = .long x :: .int j :: .ref a :: rest) (hd : decode c.code g.pc = .ok (.lastore, 1)) :
    ∃ T' h', Stand p l e R s m args below meth c T' (locs ++ [⟨a, j.toNatClampNeg⟩]) cells slots ∧ T'.heap = h' ∧ Wr h h' a j.toNatClampNeg (.long x) ∧ ∀ target, Steps p.tables e below (T'.setTop { g with pc := g.pc + 1, stack := rest }) target → Steps p.tables e below (T.setTop g) target := by
  obtain ⟨cl, A, q, F⟩ := A
  exact stJ X hx hZ eT A (out_of q h0 hj) hg hs hd
theorem ary_bset (X : Stand p l e R s m args below meth c T locs cells slots) (hx : p.tables.exec = Jvm.exec) (hZ : Z.Warmed39 s.vm) (eT : T.heap = h) (A : Ary Z h a .byte n f) {j x y : Int32} (h0 : ¬ j < 0) (hj : j.toNatClampNeg < n) {g : JFrame} (hg : g.method = m) {rest : List Value} (hs : g.stack = .int x :: .int j :: .ref a :: rest) (hd : decode c.code g.pc = .ok (.bastore, 1)) (hy : x.toInt8.toInt32 = y) :
    ∃ T' h', Stand p l e R s m args below meth c T' (locs ++ [⟨a, j.toNatClampNeg⟩]) cells slots ∧ T'.heap = h' ∧ Wr h h' a j.toNatClampNeg (.int y) ∧ ∀ target, Steps p.tables e below (T'.setTop { g with pc := g.pc + 1, stack := rest }) target → Steps p.tables e below (T.setTop g) target := by
  subst hy; obtain ⟨cl, A, q, F⟩ := A
  exact stB X hx hZ eT A (out_of q h0 hj) hg hs hd
theorem ary_cset (X : Stand p l e R s m args below meth c T locs cells slots) (hx : p.tables.exec = Jvm.exec) (hZ : Z.Warmed39 s.vm) (eT : T.heap = h) (A : Ary Z h a .char n f) {j x y : Int32} (h0 : ¬ j < 0) (hj : j.toNatClampNeg < n) {g : JFrame} (hg : g.method = m) {rest : List Value} (hs : g.stack = .int x :: .int j :: .ref a :: rest) (hd : decode c.code g.pc = .ok (.castore, 1)) (hy : nar .char x = y) :
    ∃ T' h', Stand p l e R s m args below meth c T' (locs ++ [⟨a, j.toNatClampNeg⟩]) cells slots ∧ T'.heap = h' ∧ Wr h h' a j.toNatClampNeg (.int y) ∧ ∀ target, Steps p.tables e below (T'.setTop { g with pc := g.pc + 1, stack := rest }) target → Steps p.tables e below (T.setTop g) target := by
  subst hy; obtain ⟨cl, A, q, F⟩ := A
  exact stC X hx hZ eT A (out_of q h0 hj) hg hs hd
theorem arr_set (X : Stand p l e R s m args below meth c T locs cells slots) (hx : p.tables.exec = Jvm.exec) (hZ : Z.Warmed39 s.vm) (eT : T.heap = h) (A : ArR Z h a K n f) {j : Int32} {y : Addr} (I : Ins Z h y K true) (h0 : ¬ j < 0) (hj : j.toNatClampNeg < n) {g : JFrame} (hg : g.method = m) {rest : List Value} (hs : g.stack = .ref y :: .int j :: .ref a :: rest) (hd : decode c.code g.pc = .ok (.aastore, 1)) :
    ∃ T' h', Stand p l e R s m args below meth c T' (locs ++ [⟨a, j.toNatClampNeg⟩]) cells slots ∧ T'.heap = h' ∧ Wr h h' a j.toNatClampNeg (.ref y) ∧ ∀ target, Steps p.tables e below (T'.setTop { g with pc := g.pc + 1, stack := rest }) target → Steps p.tables e below (T.setTop g) target := by
  obtain ⟨cl, A, O, q, F⟩ := A
  exact stR X hx hZ eT A (out_of q h0 hj) rfl (Sto.of A O I) hg hs hd
end Arrays
theorem nar_ite (P : Prop) [Decidable P] : nar .boolean (if P then (1 : Int32) else 0) = if P then 1 else 0 := by by_cases q : P <;> simp [q] <;> rfl
theorem cat_ref {w : Value} (q : w.isRef = true) : w.category = 1 := by cases w <;> first | rfl | (simp [Value.isRef] at q)
theorem upd_hit {g f : Nat → Value} {k : Nat} {w : Value} (q : g = fun i => if i = k then w else f i) : g k = w := by rw [q]; exact if_pos rfl
theorem upd_miss {g f : Nat → Value} {k j : Nat} {w u : Value} (q : g = fun i => if i = k then w else f i) (ne : ¬ j = k) (r : f j = u) : g j = u := by rw [q]; exact (if_neg ne).trans r
theorem upd_c {g : Nat → Value} {j : Nat} {w : Value} (q : g = fun _ => w) : g j = w := by rw [q]
theorem b_idem (x : Int32) : x.toInt8.toInt32.toInt8.toInt32 = x.toInt8.toInt32 := by rw [Int8.toInt8_toInt32]
theorem isI_c (x : Int32) : ∀ n : Nat, ∃ y, (fun _ => Value.int x) n = Value.int y := fun _ => ⟨x, rfl⟩
theorem isI_s {f : Nat → Value} (q : ∀ n, ∃ y, f n = Value.int y) (k : Nat) (x : Int32) : ∀ n, ∃ y, (fun i => if i = k then Value.int x else f i) n = Value.int y := fun n => by
  by_cases e : n = k
  · exact ⟨x, if_pos e⟩
  · obtain ⟨y, hy⟩ := q n
    exact ⟨y, (if_neg e).trans hy⟩
end Own
def own_iv : Value → Int32
  | .int x => x
  | _ => 0
def own_cnt (f : Nat → Value) : Nat → Int64
  | 0 => 0
  | n + 1 => if own_iv (f n) < 0 then own_cnt f n else own_cnt f n + 1
theorem own_ltn {i : Int32} {n : Nat} (h0 : ¬ i < 0) (hn : n < 2147483648) : i < n.toInt32 ↔ i.toNatClampNeg < n := by
  have e0 : (0 : Int32).toInt = 0 := rfl
  rw [Int32.lt_iff_toInt_lt] at h0
  rw [Int32.lt_iff_toInt_lt, len_toInt hn, Int32.toNatClampNeg]
  omega
theorem own_succ {i : Int32} {n : Nat} (h0 : ¬ i < 0) (hn : n < 2147483648) (h : i.toNatClampNeg < n) : (i + (1 : Int32)).toNatClampNeg = i.toNatClampNeg + 1 ∧ ¬ (i + (1 : Int32)) < 0 := by
  have e0 : (0 : Int32).toInt = 0 := rfl
  have e1 : (1 : Int32).toInt = 1 := rfl
  have q := c_iadd i 1
  have := rng32 i
  have := rng32 (i + 1)
  rw [Int32.lt_iff_toInt_lt] at h0
  rw [Int32.lt_iff_toInt_lt]
  simp only [Int32.toNatClampNeg] at *
  omega
theorem d2_0 : decode prog_24_method_5_code 0 = .ok (.lconst 0, 1) := by decide +kernel
theorem d2_1 : decode prog_24_method_5_code 1 = .ok (.lstore_n 1, 1) := by decide +kernel
theorem d2_2 : decode prog_24_method_5_code 2 = .ok (.aload_n 0, 1) := by decide +kernel
theorem d2_3 : decode prog_24_method_5_code 3 = .ok (.astore_n 3, 1) := by decide +kernel
theorem d2_4 : decode prog_24_method_5_code 4 = .ok (.aload_n 3, 1) := by decide +kernel
theorem d2_5 : decode prog_24_method_5_code 5 = .ok (.arraylength, 1) := by decide +kernel
theorem d2_6 : decode prog_24_method_5_code 6 = .ok (.istore 4, 2) := by decide +kernel
theorem d2_8 : decode prog_24_method_5_code 8 = .ok (.iconst 0, 1) := by decide +kernel
theorem d2_9 : decode prog_24_method_5_code 9 = .ok (.istore 5, 2) := by decide +kernel
theorem d2_11 : decode prog_24_method_5_code 11 = .ok (.iload 5, 2) := by decide +kernel
theorem d2_13 : decode prog_24_method_5_code 13 = .ok (.iload 4, 2) := by decide +kernel
theorem d2_15 : decode prog_24_method_5_code 15 = .ok (.if_icmp .ge 24, 3) := by decide +kernel
theorem d2_18 : decode prog_24_method_5_code 18 = .ok (.aload_n 3, 1) := by decide +kernel
theorem d2_19 : decode prog_24_method_5_code 19 = .ok (.iload 5, 2) := by decide +kernel
theorem d2_21 : decode prog_24_method_5_code 21 = .ok (.baload, 1) := by decide +kernel
theorem d2_22 : decode prog_24_method_5_code 22 = .ok (.istore 6, 2) := by decide +kernel
theorem d2_24 : decode prog_24_method_5_code 24 = .ok (.iload 6, 2) := by decide +kernel
theorem d2_26 : decode prog_24_method_5_code 26 = .ok (.ifCond .lt 7, 3) := by decide +kernel
theorem d2_33 : decode prog_24_method_5_code 33 = .ok (.iinc 5 1, 3) := by decide +kernel
theorem d2_36 : decode prog_24_method_5_code 36 = .ok (.goto (-25), 3) := by decide +kernel
theorem d2_29 : decode prog_24_method_5_code 29 = .ok (.lload_n 1, 1) := by decide +kernel
theorem d2_30 : decode prog_24_method_5_code 30 = .ok (.lconst 1, 1) := by decide +kernel
theorem d2_31 : decode prog_24_method_5_code 31 = .ok (.ladd, 1) := by decide +kernel
theorem d2_32 : decode prog_24_method_5_code 32 = .ok (.lstore_n 1, 1) := by decide +kernel
theorem d2_39 : decode prog_24_method_5_code 39 = .ok (.lload_n 1, 1) := by decide +kernel
theorem d2_40 : decode prog_24_method_5_code 40 = .ok (.lreturn, 1) := by decide +kernel
def Q_rm2 (Z : State) (a1 : Addr) (n_a1 : Nat) (f_a1 : Nat → Value) (h0 : Heap) (n0 : Nat) (v : Option Value) (h : Heap) (L : List Loc) : Prop := v = some (.long (own_cnt f_a1 n_a1)) ∧ Fr n0 L ∧ h = h0
theorem ef_rm2 (m : MethodId) (x0 : Addr) : entryFrame m #[(.ref x0)] 7 = mkF m 0 #[.val (.ref x0), .unset, .unset, .unset, .unset, .unset, .unset] [] := by first | (simp [entryFrame, mkF, argsToLocals, Value.category]; done) | rfl
theorem pn_0 : plainName "com/example/subjectory/subjectory/index/Postings" = true := by first | (simp [plainName, overriddenIn]; done) | decide +kernel
set_option maxRecDepth 65536 in
set_option maxHeartbeats 40000000 in
theorem rm2 (l : Launch) (Z : State) (a0 : Array Value) (hw : ∀ d ∈ tables_1, d.before a0 Z = true) (ws : List Jvm.Cond) (a1 : Addr) (n_a1 : Nat) (f_a1 : Nat → Value) (h0 : Heap) (n0 : Nat) (Z0 : n0 ≤ h0.size) (A_a1 : Ary Z h0 a1 .byte n_a1 f_a1) (hnn : n_a1 < 2147483648) (hI : ∀ i, i < n_a1 → ∃ y, f_a1 i = Value.int y) :
    MetFree l (⟨"com/example/subjectory/subjectory/index/Postings", "count", "([B)J"⟩ : MethodName) (head1 (Jvm.Cond.code (⟨"com/example/subjectory/subjectory/index/Postings", "count", "([B)J"⟩ : MethodName) prog_24_method_5_code 7 (some .long) :: ws) ({ frames := 0, cells := 0, slots := 0, locals := 0 } : Room)) (fun a U => a = #[(.ref a1)] ∧ Z.Warmed39 U.vm ∧ U.heap = h0) (fun _ _ _ _ _ => True) (fun _ U o U' => ∃ v L, o = .returned v ∧ Q_rm2 Z a1 n_a1 f_a1 h0 n0 v U'.heap L ∧ FrameEnd U o U' L ({ frames := 0, cells := 0, slots := 0, locals := 0 } : Room).cells ({ frames := 0, cells := 0, slots := 0, locals := 0 } : Room).slots) := by
  refine MetFree.of_bodySF (plainFor_of_name pn_0) hisR ?_
  intro p e s m args below meth c s₁ Bd hml0 hP hK
  obtain ⟨rfl, hZ, hh⟩ := hP
  have hx := Bd.exec
  have hby := Bd.bytes
  have hml : c.maxLocals = 7 := hml0
  have hown : s.vm.findClass "com/example/subjectory/subjectory/index/Postings" = some m.cls := findClass_of_methodNamed Bd.named
  have hnm := (name_of_methodNamed Bd.named Bd.method).1
  have X0 : Stand p l e ({ frames := 0, cells := 0, slots := 0, locals := 0 } : Room) s m #[(.ref a1)] below meth c s₁ [] 0 0 := Stand.of_body Bd
  have e0 : s₁.heap = h0 := by rw [← hh, Bd.state]; rfl
  have N0 := Fr.nil n0
  show Run p e below s 0 0 (Q_rm2 Z a1 n_a1 f_a1 h0 n0) (s₁.setTop (entryFrame m #[(.ref a1)] 7))
  refine Run.go (fun _ k => castTop (ef_rm2 m a1) k) ?_
  show Run p e below s 0 0 (Q_rm2 Z a1 n_a1 f_a1 h0 n0) (s₁.setTop (mkF m 0 #[.val (.ref a1), .unset, .unset, .unset, .unset, .unset, .unset] []))
  refine Run.go (fun _ k => XS.lconst X0.here hx rfl (hb hby d2_0) k) ?_
  show Run p e below s 0 0 (Q_rm2 Z a1 n_a1 f_a1 h0 n0) (s₁.setTop (mkF m 1 #[.val (.ref a1), .unset, .unset, .unset, .unset, .unset, .unset] [(.long (0 : Int64))]))
  refine Run.go (fun _ k => XS.lstoreN X0.here hx rfl (hb hby d2_1) rfl (l' := #[.val (.ref a1), .val (.long (0 : Int64)), .second, .unset, .unset, .unset, .unset]) rfl k) ?_
  show Run p e below s 0 0 (Q_rm2 Z a1 n_a1 f_a1 h0 n0) (s₁.setTop (mkF m 2 #[.val (.ref a1), .val (.long (0 : Int64)), .second, .unset, .unset, .unset, .unset] []))
  refine Run.go (fun _ k => XS.aloadN X0.here hx rfl (hb hby d2_2) rfl rfl k) ?_
  show Run p e below s 0 0 (Q_rm2 Z a1 n_a1 f_a1 h0 n0) (s₁.setTop (mkF m 3 #[.val (.ref a1), .val (.long (0 : Int64)), .second, .unset, .unset, .unset, .unset] [(.ref a1)]))
  refine Run.go (fun _ k => XS.astoreN X0.here hx rfl (hb hby d2_3) rfl rfl (l' := #[.val (.ref a1), .val (.long (0 : Int64)), .second, .val (.ref a1), .unset, .unset, .unset]) rfl k) ?_
  show Run p e below s 0 0 (Q_rm2 Z a1 n_a1 f_a1 h0 n0) (s₁.setTop (mkF m 4 #[.val (.ref a1), .val (.long (0 : Int64)), .second, .val (.ref a1), .unset, .unset, .unset] []))
  refine Run.go (fun _ k => XS.aloadN X0.here hx rfl (hb hby d2_4) rfl rfl k) ?_
  show Run p e below s 0 0 (Q_rm2 Z a1 n_a1 f_a1 h0 n0) (s₁.setTop (mkF m 5 #[.val (.ref a1), .val (.long (0 : Int64)), .second, .val (.ref a1), .unset, .unset, .unset] [(.ref a1)]))
  refine Run.go (fun _ k => ary_len X0 hx hZ e0 A_a1 (g := (mkF m 5 #[.val (.ref a1), .val (.long (0 : Int64)), .second, .val (.ref a1), .unset, .unset, .unset] [(.ref a1)])) rfl rfl (hb hby d2_5) (z := (n_a1.toInt32)) rfl _ k) ?_
  show Run p e below s 0 0 (Q_rm2 Z a1 n_a1 f_a1 h0 n0) (s₁.setTop (mkF m 6 #[.val (.ref a1), .val (.long (0 : Int64)), .second, .val (.ref a1), .unset, .unset, .unset] [(.int (n_a1.toInt32))]))
  refine Run.go (fun _ k => XS.istore X0.here hx rfl (hb hby d2_6) rfl (l' := #[.val (.ref a1), .val (.long (0 : Int64)), .second, .val (.ref a1), .val (.int (n_a1.toInt32)), .unset, .unset]) rfl k) ?_
  show Run p e below s 0 0 (Q_rm2 Z a1 n_a1 f_a1 h0 n0) (s₁.setTop (mkF m 8 #[.val (.ref a1), .val (.long (0 : Int64)), .second, .val (.ref a1), .val (.int (n_a1.toInt32)), .unset, .unset] []))
  refine Run.go (fun _ k => XS.iconst X0.here hx rfl (hb hby d2_8) k) ?_
  show Run p e below s 0 0 (Q_rm2 Z a1 n_a1 f_a1 h0 n0) (s₁.setTop (mkF m 9 #[.val (.ref a1), .val (.long (0 : Int64)), .second, .val (.ref a1), .val (.int (n_a1.toInt32)), .unset, .unset] [(.int (0 : Int32))]))
  refine Run.go (fun _ k => XS.istore X0.here hx rfl (hb hby d2_9) rfl (l' := #[.val (.ref a1), .val (.long (0 : Int64)), .second, .val (.ref a1), .val (.int (n_a1.toInt32)), .val (.int (0 : Int32)), .unset]) rfl k) ?_
  show Run p e below s 0 0 (Q_rm2 Z a1 n_a1 f_a1 h0 n0) (s₁.setTop (mkF m 11 #[.val (.ref a1), .val (.long (0 : Int64)), .second, .val (.ref a1), .val (.int (n_a1.toInt32)), .val (.int (0 : Int32)), .unset] []))
  have LP2 : ∀ (kk : Nat) (acc : Int64) (i : Int32) (sl : Slot) (hsl : One sl) (T3 : State) (L3 : List Loc) (X3 : Stand p l e ({ frames := 0, cells := 0, slots := 0, locals := 0 } : Room) s m #[(.ref a1)] below meth c T3 L3 0 0) (e3 : T3.heap = h0) (N3 : Fr n0 L3) (hi0 : ¬ i < 0) (hi : i.toNatClampNeg ≤ n_a1) (hacc : acc = own_cnt f_a1 i.toNatClampNeg) (hk : n_a1 - i.toNatClampNeg = kk), Run p e below s 0 0 (Q_rm2 Z a1 n_a1 f_a1 h0 n0) (T3.setTop (mkF m 11 #[.val (.ref a1), .val (.long acc), .second, .val (.ref a1), .val (.int (n_a1.toInt32)), .val (.int i), sl] [])) := by
    intro kk
    induction kk using Nat.strongRecOn with
    | _ kk ihLP2 =>
      intro acc i sl hsl T3 L3 X3 e3 N3 hi0 hi hacc hk
      show Run p e below s 0 0 (Q_rm2 Z a1 n_a1 f_a1 h0 n0) (T3.setTop (mkF m 11 #[.val (.ref a1), .val (.long acc), .second, .val (.ref a1), .val (.int (n_a1.toInt32)), .val (.int i), sl] []))
      refine Run.go (fun _ k => XS.iload X3.here hx rfl (hb hby d2_11) rfl  k) ?_
      show Run p e below s 0 0 (Q_rm2 Z a1 n_a1 f_a1 h0 n0) (T3.setTop (mkF m 13 #[.val (.ref a1), .val (.long acc), .second, .val (.ref a1), .val (.int (n_a1.toInt32)), .val (.int i), sl] [(.int i)]))
      refine Run.go (fun _ k => XS.iload X3.here hx rfl (hb hby d2_13) rfl  k) ?_
      show Run p e below s 0 0 (Q_rm2 Z a1 n_a1 f_a1 h0 n0) (T3.setTop (mkF m 15 #[.val (.ref a1), .val (.long acc), .second, .val (.ref a1), .val (.int (n_a1.toInt32)), .val (.int i), sl] [(.int (n_a1.toInt32)), (.int i)]))
      by_cases hc5 : (i < (n_a1.toInt32))
      · refine Run.go (fun _ k => XS.icmpNo X3.here hx rfl (hb hby d2_15) rfl (tlt hc5).2.1 k) ?_
        show Run p e below s 0 0 (Q_rm2 Z a1 n_a1 f_a1 h0 n0) (T3.setTop (mkF m 18 #[.val (.ref a1), .val (.long acc), .second, .val (.ref a1), .val (.int (n_a1.toInt32)), .val (.int i), sl] []))
        refine Run.go (fun _ k => XS.aloadN X3.here hx rfl (hb hby d2_18) rfl rfl k) ?_
        show Run p e below s 0 0 (Q_rm2 Z a1 n_a1 f_a1 h0 n0) (T3.setTop (mkF m 19 #[.val (.ref a1), .val (.long acc), .second, .val (.ref a1), .val (.int (n_a1.toInt32)), .val (.int i), sl] [(.ref a1)]))
        refine Run.go (fun _ k => XS.iload X3.here hx rfl (hb hby d2_19) rfl  k) ?_
        show Run p e below s 0 0 (Q_rm2 Z a1 n_a1 f_a1 h0 n0) (T3.setTop (mkF m 21 #[.val (.ref a1), .val (.long acc), .second, .val (.ref a1), .val (.int (n_a1.toInt32)), .val (.int i), sl] [(.int i), (.ref a1)]))
        obtain ⟨e6, he6⟩ := hI (i.toNatClampNeg) ((own_ltn hi0 hnn).mp hc5)
        refine Run.go (fun _ k => ary_bget X3 hx hZ e3 A_a1 (j := i) hi0 ((own_ltn hi0 hnn).mp hc5) (g := (mkF m 21 #[.val (.ref a1), .val (.long acc), .second, .val (.ref a1), .val (.int (n_a1.toInt32)), .val (.int i), sl] [(.int i), (.ref a1)])) rfl rfl (hb hby d2_21) he6 _ k) ?_
        show Run p e below s 0 0 (Q_rm2 Z a1 n_a1 f_a1 h0 n0) (T3.setTop (mkF m 22 #[.val (.ref a1), .val (.long acc), .second, .val (.ref a1), .val (.int (n_a1.toInt32)), .val (.int i), sl] [(.int e6)]))
        refine Run.go (fun _ k => XS.istoreS X3.here hx rfl (hb hby d2_22) rfl rfl hsl k) ?_
        show Run p e below s 0 0 (Q_rm2 Z a1 n_a1 f_a1 h0 n0) (T3.setTop (mkF m 24 #[.val (.ref a1), .val (.long acc), .second, .val (.ref a1), .val (.int (n_a1.toInt32)), .val (.int i), .val (.int e6)] []))
        refine Run.go (fun _ k => XS.iload X3.here hx rfl (hb hby d2_24) rfl  k) ?_
        show Run p e below s 0 0 (Q_rm2 Z a1 n_a1 f_a1 h0 n0) (T3.setTop (mkF m 26 #[.val (.ref a1), .val (.long acc), .second, .val (.ref a1), .val (.int (n_a1.toInt32)), .val (.int i), .val (.int e6)] [(.int e6)]))
        have J7 : ∀ (w8 : Int64) (hw8 : w8 = (if (e6 < (0 : Int32)) then acc else (acc + (1 : Int64)))) (T9 : State) (L9 : List Loc) (X9 : Stand p l e ({ frames := 0, cells := 0, slots := 0, locals := 0 } : Room) s m #[(.ref a1)] below meth c T9 L9 0 0) (e9 : T9.heap = h0) (N9 : Fr n0 L9), Run p e below s 0 0 (Q_rm2 Z a1 n_a1 f_a1 h0 n0) (T9.setTop (mkF m 33 #[.val (.ref a1), .val (.long w8), .second, .val (.ref a1), .val (.int (n_a1.toInt32)), .val (.int i), .val (.int e6)] [])) := by
          intro w8 hw8 T9 L9 X9 e9 N9
          show Run p e below s 0 0 (Q_rm2 Z a1 n_a1 f_a1 h0 n0) (T9.setTop (mkF m 33 #[.val (.ref a1), .val (.long w8), .second, .val (.ref a1), .val (.int (n_a1.toInt32)), .val (.int i), .val (.int e6)] []))
          refine Run.go (fun _ k => XS.iinc X9.here hx rfl (hb hby d2_33) rfl (l' := #[.val (.ref a1), .val (.long w8), .second, .val (.ref a1), .val (.int (n_a1.toInt32)), .val (.int (i + (1 : Int32))), .val (.int e6)]) rfl k) ?_
          show Run p e below s 0 0 (Q_rm2 Z a1 n_a1 f_a1 h0 n0) (T9.setTop (mkF m 36 #[.val (.ref a1), .val (.long w8), .second, .val (.ref a1), .val (.int (n_a1.toInt32)), .val (.int (i + (1 : Int32))), .val (.int e6)] []))
          refine Run.go (fun _ k => XS.goto X9.here hx rfl (pc0 := 36) (pc' := 11) rfl (hb hby d2_36) (by decide) (by decide) k) ?_
          show Run p e below s 0 0 (Q_rm2 Z a1 n_a1 f_a1 h0 n0) (T9.setTop (mkF m 11 #[.val (.ref a1), .val (.long w8), .second, .val (.ref a1), .val (.int (n_a1.toInt32)), .val (.int (i + (1 : Int32))), .val (.int e6)] []))
          exact ihLP2 (n_a1 - (i + (1 : Int32)).toNatClampNeg) (by rw [← hk, (own_succ hi0 hnn ((own_ltn hi0 hnn).mp hc5)).1]; have := ((own_ltn hi0 hnn).mp hc5); omega) w8 (i + (1 : Int32)) _ (One.val rfl) _ _ X9 e9 N9 (own_succ hi0 hnn ((own_ltn hi0 hnn).mp hc5)).2 (by rw [(own_succ hi0 hnn ((own_ltn hi0 hnn).mp hc5)).1]; exact ((own_ltn hi0 hnn).mp hc5)) (by rw [(own_succ hi0 hnn ((own_ltn hi0 hnn).mp hc5)).1, own_cnt, hw8, he6, own_iv, ← hacc]) rfl
        by_cases hc10 : (e6 < (0 : Int32))
        · refine Run.go (fun _ k => XS.ifYes X3.here hx rfl (pc0 := 26) (pc' := 33) rfl (hb hby d2_26) rfl ((if0 _ _).trans (tlt hc10).1) (by decide) (by decide) k) ?_
          show Run p e below s 0 0 (Q_rm2 Z a1 n_a1 f_a1 h0 n0) (T3.setTop (mkF m 33 #[.val (.ref a1), .val (.long acc), .second, .val (.ref a1), .val (.int (n_a1.toInt32)), .val (.int i), .val (.int e6)] []))
          exact J7 _ (by rw [if_pos hc10]) _ _ X3 e3 N3
        · refine Run.go (fun _ k => XS.ifNo X3.here hx rfl (hb hby d2_26) rfl ((if0 _ _).trans (flt hc10).1) k) ?_
          show Run p e below s 0 0 (Q_rm2 Z a1 n_a1 f_a1 h0 n0) (T3.setTop (mkF m 29 #[.val (.ref a1), .val (.long acc), .second, .val (.ref a1), .val (.int (n_a1.toInt32)), .val (.int i), .val (.int e6)] []))
          refine Run.go (fun _ k => XS.lloadN X3.here hx rfl (hb hby d2_29) rfl  k) ?_
          show Run p e below s 0 0 (Q_rm2 Z a1 n_a1 f_a1 h0 n0) (T3.setTop (mkF m 30 #[.val (.ref a1), .val (.long acc), .second, .val (.ref a1), .val (.int (n_a1.toInt32)), .val (.int i), .val (.int e6)] [(.long acc)]))
          refine Run.go (fun _ k => XS.lconst X3.here hx rfl (hb hby d2_30) k) ?_
          show Run p e below s 0 0 (Q_rm2 Z a1 n_a1 f_a1 h0 n0) (T3.setTop (mkF m 31 #[.val (.ref a1), .val (.long acc), .second, .val (.ref a1), .val (.int (n_a1.toInt32)), .val (.int i), .val (.int e6)] [(.long (1 : Int64)), (.long acc)]))
          refine Run.go (fun _ k => XS.ladd X3.here hx rfl (hb hby d2_31) rfl k) ?_
          show Run p e below s 0 0 (Q_rm2 Z a1 n_a1 f_a1 h0 n0) (T3.setTop (mkF m 32 #[.val (.ref a1), .val (.long acc), .second, .val (.ref a1), .val (.int (n_a1.toInt32)), .val (.int i), .val (.int e6)] [(.long (acc + (1 : Int64)))]))
          refine Run.go (fun _ k => XS.lstoreN X3.here hx rfl (hb hby d2_32) rfl (l' := #[.val (.ref a1), .val (.long (acc + (1 : Int64))), .second, .val (.ref a1), .val (.int (n_a1.toInt32)), .val (.int i), .val (.int e6)]) rfl k) ?_
          show Run p e below s 0 0 (Q_rm2 Z a1 n_a1 f_a1 h0 n0) (T3.setTop (mkF m 33 #[.val (.ref a1), .val (.long (acc + (1 : Int64))), .second, .val (.ref a1), .val (.int (n_a1.toInt32)), .val (.int i), .val (.int e6)] []))
          exact J7 _ (by rw [if_neg hc10]) _ _ X3 e3 N3
      · refine Run.go (fun _ k => XS.icmpYes X3.here hx rfl (pc0 := 15) (pc' := 39) rfl (hb hby d2_15) rfl (flt hc5).2.1 (by decide) (by decide) k) ?_
        show Run p e below s 0 0 (Q_rm2 Z a1 n_a1 f_a1 h0 n0) (T3.setTop (mkF m 39 #[.val (.ref a1), .val (.long acc), .second, .val (.ref a1), .val (.int (n_a1.toInt32)), .val (.int i), sl] []))
        refine Run.go (fun _ k => XS.lloadN X3.here hx rfl (hb hby d2_39) rfl  k) ?_
        show Run p e below s 0 0 (Q_rm2 Z a1 n_a1 f_a1 h0 n0) (T3.setTop (mkF m 40 #[.val (.ref a1), .val (.long acc), .second, .val (.ref a1), .val (.int (n_a1.toInt32)), .val (.int i), sl] [(.long acc)]))
        refine Run.retJ X3 hx Bd.returns Bd.notSynchronized (hb hby d2_40) (by decide) (by decide) ?_
        show Q_rm2 Z a1 n_a1 f_a1 h0 n0 _ T3.heap _
        exact ⟨congrArg some (congrArg Value.long (show acc = (own_cnt f_a1 n_a1) from (by have := mt (own_ltn hi0 hnn).mpr hc5; rw [hacc]; congr 1; omega))), N3, e3⟩
  exact LP2 (n_a1 - (0 : Int32).toNatClampNeg) (0 : Int64) (0 : Int32) _ One.u _ _ X0 e0 N0 (by decide) (Nat.zero_le _) rfl rfl
theorem d3_0 : decode method_2_code 0 = .ok (.iload_n 2, 1) := by decide +kernel
theorem d3_1 : decode method_2_code 1 = .ok (.iconst 4, 1) := by decide +kernel
theorem d3_2 : decode method_2_code 2 = .ok (.if_icmp .ge 7, 3) := by decide +kernel
theorem d3_5 : decode method_2_code 5 = .ok (.iload_n 0, 1) := by decide +kernel
theorem d3_6 : decode method_2_code 6 = .ok (.goto 4, 3) := by decide +kernel
theorem d3_10 : decode method_2_code 10 = .ok (.istore_n 3, 1) := by decide +kernel
theorem d3_11 : decode method_2_code 11 = .ok (.iload_n 3, 1) := by decide +kernel
theorem d3_12 : decode method_2_code 12 = .ok (.bipush 8, 2) := by decide +kernel
theorem d3_14 : decode method_2_code 14 = .ok (.iload_n 2, 1) := by decide +kernel
theorem d3_15 : decode method_2_code 15 = .ok (.iconst 3, 1) := by decide +kernel
theorem d3_16 : decode method_2_code 16 = .ok (.iand, 1) := by decide +kernel
theorem d3_17 : decode method_2_code 17 = .ok (.imul, 1) := by decide +kernel
theorem d3_18 : decode method_2_code 18 = .ok (.iushr, 1) := by decide +kernel
theorem d3_19 : decode method_2_code 19 = .ok (.i2b, 1) := by decide +kernel
theorem d3_20 : decode method_2_code 20 = .ok (.ireturn, 1) := by decide +kernel
def F_rm3_0 (p1 : Int32) : Int32 := (((p1.toUInt32 >>> ((0 : Int32) &&& 31).toUInt32).toInt32).toInt8.toInt32)
def Q_rm3_0 (Z : State) (p1 : Int32) (p2 : Int32) (h0 : Heap) (n0 : Nat) (v : Option Value) (h : Heap) (L : List Loc) : Prop := v = some (.int (F_rm3_0 p1)) ∧ Fr n0 L ∧ h = h0
theorem ef_rm3_0 (m : MethodId) (x0 : Int32) (x1 : Int32) : entryFrame m #[(.int x0), (.int x1), (.int (0 : Int32))] 4 = mkF m 0 #[.val (.int x0), .val (.int x1), .val (.int (0 : Int32)), .unset] [] := by first | (simp [entryFrame, mkF, argsToLocals, Value.category]; done) | rfl
theorem pn_1 : plainName "com/example/subjectory/subjectory/index/PostingsCountPinLaw" = true := by first | (simp [plainName, overriddenIn]; done) | decide +kernel
set_option maxRecDepth 65536 in
set_option maxHeartbeats 40000000 in
theorem rm3_0 (l : Launch) (Z : State) (a0 : Array Value) (hw : ∀ d ∈ tables_1, d.before a0 Z = true) (ws : List Jvm.Cond) (p1 : Int32) (p2 : Int32) (h0 : Heap) (n0 : Nat) (Z0 : n0 ≤ h0.size)  :
    MetFree l (⟨"com/example/subjectory/subjectory/index/PostingsCountPinLaw", "pick", "(III)B"⟩ : MethodName) (head1 (Jvm.Cond.code (⟨"com/example/subjectory/subjectory/index/PostingsCountPinLaw", "pick", "(III)B"⟩ : MethodName) method_2_code 4 (some .byte) :: ws) ({ frames := 0, cells := 0, slots := 0, locals := 0 } : Room)) (fun a U => a = #[(.int p1), (.int p2), (.int (0 : Int32))] ∧ Z.Warmed39 U.vm ∧ U.heap = h0) (fun _ _ _ _ _ => True) (fun _ U o U' => ∃ v L, o = .returned v ∧ Q_rm3_0 Z p1 p2 h0 n0 v U'.heap L ∧ FrameEnd U o U' L ({ frames := 0, cells := 0, slots := 0, locals := 0 } : Room).cells ({ frames := 0, cells := 0, slots := 0, locals := 0 } : Room).slots) := by
  refine MetFree.of_bodySF (plainFor_of_name pn_1) hisR ?_
  intro p e s m args below meth c s₁ Bd hml0 hP hK
  obtain ⟨rfl, hZ, hh⟩ := hP
  have hx := Bd.exec
  have hby := Bd.bytes
  have hml : c.maxLocals = 4 := hml0
  have hown : s.vm.findClass "com/example/subjectory/subjectory/index/PostingsCountPinLaw" = some m.cls := findClass_of_methodNamed Bd.named
  have hnm := (name_of_methodNamed Bd.named Bd.method).1
  have X0 : Stand p l e ({ frames := 0, cells := 0, slots := 0, locals := 0 } : Room) s m #[(.int p1), (.int p2), (.int (0 : Int32))] below meth c s₁ [] 0 0 := Stand.of_body Bd
  have e0 : s₁.heap = h0 := by rw [← hh, Bd.state]; rfl
  have N0 := Fr.nil n0
  show Run p e below s 0 0 (Q_rm3_0 Z p1 p2 h0 n0) (s₁.setTop (entryFrame m #[(.int p1), (.int p2), (.int (0 : Int32))] 4))
  refine Run.go (fun _ k => castTop (ef_rm3_0 m p1 p2) k) ?_
  show Run p e below s 0 0 (Q_rm3_0 Z p1 p2 h0 n0) (s₁.setTop (mkF m 0 #[.val (.int p1), .val (.int p2), .val (.int (0 : Int32)), .unset] []))
  refine Run.go (fun _ k => XS.iloadN X0.here hx rfl (hb hby d3_0) rfl  k) ?_
  show Run p e below s 0 0 (Q_rm3_0 Z p1 p2 h0 n0) (s₁.setTop (mkF m 1 #[.val (.int p1), .val (.int p2), .val (.int (0 : Int32)), .unset] [(.int (0 : Int32))]))
  refine Run.go (fun _ k => XS.iconst X0.here hx rfl (hb hby d3_1) k) ?_
  show Run p e below s 0 0 (Q_rm3_0 Z p1 p2 h0 n0) (s₁.setTop (mkF m 2 #[.val (.int p1), .val (.int p2), .val (.int (0 : Int32)), .unset] [(.int (4 : Int32)), (.int (0 : Int32))]))
  refine Run.go (fun _ k => XS.icmpNo X0.here hx rfl (hb hby d3_2) rfl (tlt (by decide)).2.1 k) ?_
  show Run p e below s 0 0 (Q_rm3_0 Z p1 p2 h0 n0) (s₁.setTop (mkF m 5 #[.val (.int p1), .val (.int p2), .val (.int (0 : Int32)), .unset] []))
  refine Run.go (fun _ k => XS.iloadN X0.here hx rfl (hb hby d3_5) rfl  k) ?_
  show Run p e below s 0 0 (Q_rm3_0 Z p1 p2 h0 n0) (s₁.setTop (mkF m 6 #[.val (.int p1), .val (.int p2), .val (.int (0 : Int32)), .unset] [(.int p1)]))
  refine Run.go (fun _ k => XS.goto X0.here hx rfl (pc0 := 6) (pc' := 10) rfl (hb hby d3_6) (by decide) (by decide) k) ?_
  show Run p e below s 0 0 (Q_rm3_0 Z p1 p2 h0 n0) (s₁.setTop (mkF m 10 #[.val (.int p1), .val (.int p2), .val (.int (0 : Int32)), .unset] [(.int p1)]))
  refine Run.go (fun _ k => XS.istoreN X0.here hx rfl (hb hby d3_10) rfl (l' := #[.val (.int p1), .val (.int p2), .val (.int (0 : Int32)), .val (.int p1)]) rfl k) ?_
  show Run p e below s 0 0 (Q_rm3_0 Z p1 p2 h0 n0) (s₁.setTop (mkF m 11 #[.val (.int p1), .val (.int p2), .val (.int (0 : Int32)), .val (.int p1)] []))
  refine Run.go (fun _ k => XS.iloadN X0.here hx rfl (hb hby d3_11) rfl  k) ?_
  show Run p e below s 0 0 (Q_rm3_0 Z p1 p2 h0 n0) (s₁.setTop (mkF m 12 #[.val (.int p1), .val (.int p2), .val (.int (0 : Int32)), .val (.int p1)] [(.int p1)]))
  refine Run.go (fun _ k => XS.bipush X0.here hx rfl (hb hby d3_12) k) ?_
  show Run p e below s 0 0 (Q_rm3_0 Z p1 p2 h0 n0) (s₁.setTop (mkF m 14 #[.val (.int p1), .val (.int p2), .val (.int (0 : Int32)), .val (.int p1)] [(.int (8 : Int32)), (.int p1)]))
  refine Run.go (fun _ k => XS.iloadN X0.here hx rfl (hb hby d3_14) rfl  k) ?_
  show Run p e below s 0 0 (Q_rm3_0 Z p1 p2 h0 n0) (s₁.setTop (mkF m 15 #[.val (.int p1), .val (.int p2), .val (.int (0 : Int32)), .val (.int p1)] [(.int (0 : Int32)), (.int (8 : Int32)), (.int p1)]))
  refine Run.go (fun _ k => XS.iconst X0.here hx rfl (hb hby d3_15) k) ?_
  show Run p e below s 0 0 (Q_rm3_0 Z p1 p2 h0 n0) (s₁.setTop (mkF m 16 #[.val (.int p1), .val (.int p2), .val (.int (0 : Int32)), .val (.int p1)] [(.int (3 : Int32)), (.int (0 : Int32)), (.int (8 : Int32)), (.int p1)]))
  refine Run.go (fun _ k => XS.iand X0.here hx rfl (hb hby d3_16) rfl k) ?_
  show Run p e below s 0 0 (Q_rm3_0 Z p1 p2 h0 n0) (s₁.setTop (mkF m 17 #[.val (.int p1), .val (.int p2), .val (.int (0 : Int32)), .val (.int p1)] [(.int (0 : Int32)), (.int (8 : Int32)), (.int p1)]))
  refine Run.go (fun _ k => XS.imul X0.here hx rfl (hb hby d3_17) rfl k) ?_
  show Run p e below s 0 0 (Q_rm3_0 Z p1 p2 h0 n0) (s₁.setTop (mkF m 18 #[.val (.int p1), .val (.int p2), .val (.int (0 : Int32)), .val (.int p1)] [(.int (0 : Int32)), (.int p1)]))
  refine Run.go (fun _ k => XS.iushr X0.here hx rfl (hb hby d3_18) rfl k) ?_
  show Run p e below s 0 0 (Q_rm3_0 Z p1 p2 h0 n0) (s₁.setTop (mkF m 19 #[.val (.int p1), .val (.int p2), .val (.int (0 : Int32)), .val (.int p1)] [(.int ((p1.toUInt32 >>> ((0 : Int32) &&& 31).toUInt32).toInt32))]))
  refine Run.go (fun _ k => XS.i2b X0.here hx rfl (hb hby d3_19) rfl k) ?_
  show Run p e below s 0 0 (Q_rm3_0 Z p1 p2 h0 n0) (s₁.setTop (mkF m 20 #[.val (.int p1), .val (.int p2), .val (.int (0 : Int32)), .val (.int p1)] [(.int (((p1.toUInt32 >>> ((0 : Int32) &&& 31).toUInt32).toInt32).toInt8.toInt32))]))
  refine Run.retN (y := (((p1.toUInt32 >>> ((0 : Int32) &&& 31).toUInt32).toInt32).toInt8.toInt32)) X0 hx (t := .byte) Bd.returns (by simp) (b_idem _) Bd.notSynchronized (hb hby d3_20) (by decide) (by decide) ?_
  show Q_rm3_0 Z p1 p2 h0 n0 _ s₁.heap _
  exact ⟨congrArg some (congrArg Value.int (show (((p1.toUInt32 >>> ((0 : Int32) &&& 31).toUInt32).toInt32).toInt8.toInt32) = (F_rm3_0 p1) from (by unfold F_rm3_0; rfl))), N0, e0⟩
theorem d1_0 : decode method_3_code 0 = .ok (.iload_n 2, 1) := by decide +kernel
theorem d1_1 : decode method_3_code 1 = .ok (.iload_n 3, 1) := by decide +kernel
theorem d1_2 : decode method_3_code 2 = .ok (.if_icmp .lt 5, 3) := by decide +kernel
theorem d1_7 : decode method_3_code 7 = .ok (.iload_n 2, 1) := by decide +kernel
theorem d1_8 : decode method_3_code 8 = .ok (.iconst 4, 1) := by decide +kernel
theorem d1_9 : decode method_3_code 9 = .ok (.if_icmp .ge 7, 3) := by decide +kernel
theorem d1_12 : decode method_3_code 12 = .ok (.iload_n 0, 1) := by decide +kernel
theorem d1_13 : decode method_3_code 13 = .ok (.goto 4, 3) := by decide +kernel
theorem d1_17 : decode method_3_code 17 = .ok (.istore 4, 2) := by decide +kernel
theorem d1_19 : decode method_3_code 19 = .ok (.iload 4, 2) := by decide +kernel
theorem d1_21 : decode method_3_code 21 = .ok (.bipush 8, 2) := by decide +kernel
theorem d1_23 : decode method_3_code 23 = .ok (.iload_n 2, 1) := by decide +kernel
theorem d1_24 : decode method_3_code 24 = .ok (.iconst 3, 1) := by decide +kernel
theorem d1_25 : decode method_3_code 25 = .ok (.iand, 1) := by decide +kernel
theorem d1_26 : decode method_3_code 26 = .ok (.imul, 1) := by decide +kernel
theorem d1_27 : decode method_3_code 27 = .ok (.bipush 7, 2) := by decide +kernel
theorem d1_29 : decode method_3_code 29 = .ok (.iadd, 1) := by decide +kernel
theorem d1_30 : decode method_3_code 30 = .ok (.iushr, 1) := by decide +kernel
theorem d1_31 : decode method_3_code 31 = .ok (.iconst 1, 1) := by decide +kernel
theorem d1_32 : decode method_3_code 32 = .ok (.iand, 1) := by decide +kernel
theorem d1_33 : decode method_3_code 33 = .ok (.istore 5, 2) := by decide +kernel
theorem d1_35 : decode method_3_code 35 = .ok (.iload 5, 2) := by decide +kernel
theorem d1_37 : decode method_3_code 37 = .ok (.ifCond .ne 7, 3) := by decide +kernel
theorem d1_40 : decode method_3_code 40 = .ok (.lconst 1, 1) := by decide +kernel
theorem d1_41 : decode method_3_code 41 = .ok (.goto 4, 3) := by decide +kernel
theorem d1_44 : decode method_3_code 44 = .ok (.lconst 0, 1) := by decide +kernel
theorem d1_45 : decode method_3_code 45 = .ok (.lreturn, 1) := by decide +kernel
theorem d1_5 : decode method_3_code 5 = .ok (.lconst 0, 1) := by decide +kernel
theorem d1_6 : decode method_3_code 6 = .ok (.lreturn, 1) := by decide +kernel
def F_rm1_0 (p1 : Int32) (p3 : Int32) : Int64 := (if ((0 : Int32) < p3) then (if ((((p1.toUInt32 >>> ((7 : Int32) &&& 31).toUInt32).toInt32) &&& (1 : Int32)) = (0 : Int32)) then (1 : Int64) else (0 : Int64)) else (0 : Int64))
def Q_rm1_0 (Z : State) (p1 : Int32) (p2 : Int32) (p3 : Int32) (h0 : Heap) (n0 : Nat) (v : Option Value) (h : Heap) (L : List Loc) : Prop := v = some (.long (F_rm1_0 p1 p3)) ∧ Fr n0 L ∧ h = h0
theorem ef_rm1_0 (m : MethodId) (x0 : Int32) (x1 : Int32) (x3 : Int32) : entryFrame m #[(.int x0), (.int x1), (.int (0 : Int32)), (.int x3)] 6 = mkF m 0 #[.val (.int x0), .val (.int x1), .val (.int (0 : Int32)), .val (.int x3), .unset, .unset] [] := by first | (simp [entryFrame, mkF, argsToLocals, Value.category]; done) | rfl
set_option maxRecDepth 65536 in
set_option maxHeartbeats 40000000 in
theorem rm1_0 (l : Launch) (Z : State) (a0 : Array Value) (hw : ∀ d ∈ tables_1, d.before a0 Z = true) (ws : List Jvm.Cond) (p1 : Int32) (p2 : Int32) (p3 : Int32) (h0 : Heap) (n0 : Nat) (Z0 : n0 ≤ h0.size)  :
    MetFree l (⟨"com/example/subjectory/subjectory/index/PostingsCountPinLaw", "term", "(IIII)J"⟩ : MethodName) (head1 (Jvm.Cond.code (⟨"com/example/subjectory/subjectory/index/PostingsCountPinLaw", "term", "(IIII)J"⟩ : MethodName) method_3_code 6 (some .long) :: ws) ({ frames := 0, cells := 0, slots := 0, locals := 0 } : Room)) (fun a U => a = #[(.int p1), (.int p2), (.int (0 : Int32)), (.int p3)] ∧ Z.Warmed39 U.vm ∧ U.heap = h0) (fun _ _ _ _ _ => True) (fun _ U o U' => ∃ v L, o = .returned v ∧ Q_rm1_0 Z p1 p2 p3 h0 n0 v U'.heap L ∧ FrameEnd U o U' L ({ frames := 0, cells := 0, slots := 0, locals := 0 } : Room).cells ({ frames := 0, cells := 0, slots := 0, locals := 0 } : Room).slots) := by
  refine MetFree.of_bodySF (plainFor_of_name pn_1) hisR ?_
  intro p e s m args below meth c s₁ Bd hml0 hP hK
  obtain ⟨rfl, hZ, hh⟩ := hP
  have hx := Bd.exec
  have hby := Bd.bytes
  have hml : c.maxLocals = 6 := hml0
  have hown : s.vm.findClass "com/example/subjectory/subjectory/index/PostingsCountPinLaw" = some m.cls := findClass_of_methodNamed Bd.named
  have hnm := (name_of_methodNamed Bd.named Bd.method).1
  have X0 : Stand p l e ({ frames := 0, cells := 0, slots := 0, locals := 0 } : Room) s m #[(.int p1), (.int p2), (.int (0 : Int32)), (.int p3)] below meth c s₁ [] 0 0 := Stand.of_body Bd
  have e0 : s₁.heap = h0 := by rw [← hh, Bd.state]; rfl
  have N0 := Fr.nil n0
  show Run p e below s 0 0 (Q_rm1_0 Z p1 p2 p3 h0 n0) (s₁.setTop (entryFrame m #[(.int p1), (.int p2), (.int (0 : Int32)), (.int p3)] 6))
  refine Run.go (fun _ k => castTop (ef_rm1_0 m p1 p2 p3) k) ?_
  show Run p e below s 0 0 (Q_rm1_0 Z p1 p2 p3 h0 n0) (s₁.setTop (mkF m 0 #[.val (.int p1), .val (.int p2), .val (.int (0 : Int32)), .val (.int p3), .unset, .unset] []))
  refine Run.go (fun _ k => XS.iloadN X0.here hx rfl (hb hby d1_0) rfl  k) ?_
  show Run p e below s 0 0 (Q_rm1_0 Z p1 p2 p3 h0 n0) (s₁.setTop (mkF m 1 #[.val (.int p1), .val (.int p2), .val (.int (0 : Int32)), .val (.int p3), .unset, .unset] [(.int (0 : Int32))]))
  refine Run.go (fun _ k => XS.iloadN X0.here hx rfl (hb hby d1_1) rfl  k) ?_
  show Run p e below s 0 0 (Q_rm1_0 Z p1 p2 p3 h0 n0) (s₁.setTop (mkF m 2 #[.val (.int p1), .val (.int p2), .val (.int (0 : Int32)), .val (.int p3), .unset, .unset] [(.int p3), (.int (0 : Int32))]))
  by_cases hc4 : ((0 : Int32) < p3)
  · refine Run.go (fun _ k => XS.icmpYes X0.here hx rfl (pc0 := 2) (pc' := 7) rfl (hb hby d1_2) rfl (tlt hc4).1 (by decide) (by decide) k) ?_
    show Run p e below s 0 0 (Q_rm1_0 Z p1 p2 p3 h0 n0) (s₁.setTop (mkF m 7 #[.val (.int p1), .val (.int p2), .val (.int (0 : Int32)), .val (.int p3), .unset, .unset] []))
    refine Run.go (fun _ k => XS.iloadN X0.here hx rfl (hb hby d1_7) rfl  k) ?_
    show Run p e below s 0 0 (Q_rm1_0 Z p1 p2 p3 h0 n0) (s₁.setTop (mkF m 8 #[.val (.int p1), .val (.int p2), .val (.int (0 : Int32)), .val (.int p3), .unset, .unset] [(.int (0 : Int32))]))
    refine Run.go (fun _ k => XS.iconst X0.here hx rfl (hb hby d1_8) k) ?_
    show Run p e below s 0 0 (Q_rm1_0 Z p1 p2 p3 h0 n0) (s₁.setTop (mkF m 9 #[.val (.int p1), .val (.int p2), .val (.int (0 : Int32)), .val (.int p3), .unset, .unset] [(.int (4 : Int32)), (.int (0 : Int32))]))
    refine Run.go (fun _ k => XS.icmpNo X0.here hx rfl (hb hby d1_9) rfl (tlt (by decide)).2.1 k) ?_
    show Run p e below s 0 0 (Q_rm1_0 Z p1 p2 p3 h0 n0) (s₁.setTop (mkF m 12 #[.val (.int p1), .val (.int p2), .val (.int (0 : Int32)), .val (.int p3), .unset, .unset] []))
    refine Run.go (fun _ k => XS.iloadN X0.here hx rfl (hb hby d1_12) rfl  k) ?_
    show Run p e below s 0 0 (Q_rm1_0 Z p1 p2 p3 h0 n0) (s₁.setTop (mkF m 13 #[.val (.int p1), .val (.int p2), .val (.int (0 : Int32)), .val (.int p3), .unset, .unset] [(.int p1)]))
    refine Run.go (fun _ k => XS.goto X0.here hx rfl (pc0 := 13) (pc' := 17) rfl (hb hby d1_13) (by decide) (by decide) k) ?_
    show Run p e below s 0 0 (Q_rm1_0 Z p1 p2 p3 h0 n0) (s₁.setTop (mkF m 17 #[.val (.int p1), .val (.int p2), .val (.int (0 : Int32)), .val (.int p3), .unset, .unset] [(.int p1)]))
    refine Run.go (fun _ k => XS.istore X0.here hx rfl (hb hby d1_17) rfl (l' := #[.val (.int p1), .val (.int p2), .val (.int (0 : Int32)), .val (.int p3), .val (.int p1), .unset]) rfl k) ?_
    show Run p e below s 0 0 (Q_rm1_0 Z p1 p2 p3 h0 n0) (s₁.setTop (mkF m 19 #[.val (.int p1), .val (.int p2), .val (.int (0 : Int32)), .val (.int p3), .val (.int p1), .unset] []))
    refine Run.go (fun _ k => XS.iload X0.here hx rfl (hb hby d1_19) rfl  k) ?_
    show Run p e below s 0 0 (Q_rm1_0 Z p1 p2 p3 h0 n0) (s₁.setTop (mkF m 21 #[.val (.int p1), .val (.int p2), .val (.int (0 : Int32)), .val (.int p3), .val (.int p1), .unset] [(.int p1)]))
    refine Run.go (fun _ k => XS.bipush X0.here hx rfl (hb hby d1_21) k) ?_
    show Run p e below s 0 0 (Q_rm1_0 Z p1 p2 p3 h0 n0) (s₁.setTop (mkF m 23 #[.val (.int p1), .val (.int p2), .val (.int (0 : Int32)), .val (.int p3), .val (.int p1), .unset] [(.int (8 : Int32)), (.int p1)]))
    refine Run.go (fun _ k => XS.iloadN X0.here hx rfl (hb hby d1_23) rfl  k) ?_
    show Run p e below s 0 0 (Q_rm1_0 Z p1 p2 p3 h0 n0) (s₁.setTop (mkF m 24 #[.val (.int p1), .val (.int p2), .val (.int (0 : Int32)), .val (.int p3), .val (.int p1), .unset] [(.int (0 : Int32)), (.int (8 : Int32)), (.int p1)]))
    refine Run.go (fun _ k => XS.iconst X0.here hx rfl (hb hby d1_24) k) ?_
    show Run p e below s 0 0 (Q_rm1_0 Z p1 p2 p3 h0 n0) (s₁.setTop (mkF m 25 #[.val (.int p1), .val (.int p2), .val (.int (0 : Int32)), .val (.int p3), .val (.int p1), .unset] [(.int (3 : Int32)), (.int (0 : Int32)), (.int (8 : Int32)), (.int p1)]))
    refine Run.go (fun _ k => XS.iand X0.here hx rfl (hb hby d1_25) rfl k) ?_
    show Run p e below s 0 0 (Q_rm1_0 Z p1 p2 p3 h0 n0) (s₁.setTop (mkF m 26 #[.val (.int p1), .val (.int p2), .val (.int (0 : Int32)), .val (.int p3), .val (.int p1), .unset] [(.int (0 : Int32)), (.int (8 : Int32)), (.int p1)]))
    refine Run.go (fun _ k => XS.imul X0.here hx rfl (hb hby d1_26) rfl k) ?_
    show Run p e below s 0 0 (Q_rm1_0 Z p1 p2 p3 h0 n0) (s₁.setTop (mkF m 27 #[.val (.int p1), .val (.int p2), .val (.int (0 : Int32)), .val (.int p3), .val (.int p1), .unset] [(.int (0 : Int32)), (.int p1)]))
    refine Run.go (fun _ k => XS.bipush X0.here hx rfl (hb hby d1_27) k) ?_
    show Run p e below s 0 0 (Q_rm1_0 Z p1 p2 p3 h0 n0) (s₁.setTop (mkF m 29 #[.val (.int p1), .val (.int p2), .val (.int (0 : Int32)), .val (.int p3), .val (.int p1), .unset] [(.int (7 : Int32)), (.int (0 : Int32)), (.int p1)]))
    refine Run.go (fun _ k => XS.iadd X0.here hx rfl (hb hby d1_29) rfl k) ?_
    show Run p e below s 0 0 (Q_rm1_0 Z p1 p2 p3 h0 n0) (s₁.setTop (mkF m 30 #[.val (.int p1), .val (.int p2), .val (.int (0 : Int32)), .val (.int p3), .val (.int p1), .unset] [(.int (7 : Int32)), (.int p1)]))
    refine Run.go (fun _ k => XS.iushr X0.here hx rfl (hb hby d1_30) rfl k) ?_
    show Run p e below s 0 0 (Q_rm1_0 Z p1 p2 p3 h0 n0) (s₁.setTop (mkF m 31 #[.val (.int p1), .val (.int p2), .val (.int (0 : Int32)), .val (.int p3), .val (.int p1), .unset] [(.int ((p1.toUInt32 >>> ((7 : Int32) &&& 31).toUInt32).toInt32))]))
    refine Run.go (fun _ k => XS.iconst X0.here hx rfl (hb hby d1_31) k) ?_
    show Run p e below s 0 0 (Q_rm1_0 Z p1 p2 p3 h0 n0) (s₁.setTop (mkF m 32 #[.val (.int p1), .val (.int p2), .val (.int (0 : Int32)), .val (.int p3), .val (.int p1), .unset] [(.int (1 : Int32)), (.int ((p1.toUInt32 >>> ((7 : Int32) &&& 31).toUInt32).toInt32))]))
    refine Run.go (fun _ k => XS.iand X0.here hx rfl (hb hby d1_32) rfl k) ?_
    show Run p e below s 0 0 (Q_rm1_0 Z p1 p2 p3 h0 n0) (s₁.setTop (mkF m 33 #[.val (.int p1), .val (.int p2), .val (.int (0 : Int32)), .val (.int p3), .val (.int p1), .unset] [(.int (((p1.toUInt32 >>> ((7 : Int32) &&& 31).toUInt32).toInt32) &&& (1 : Int32)))]))
    refine Run.go (fun _ k => XS.istore X0.here hx rfl (hb hby d1_33) rfl (l' := #[.val (.int p1), .val (.int p2), .val (.int (0 : Int32)), .val (.int p3), .val (.int p1), .val (.int (((p1.toUInt32 >>> ((7 : Int32) &&& 31).toUInt32).toInt32) &&& (1 : Int32)))]) rfl k) ?_
    show Run p e below s 0 0 (Q_rm1_0 Z p1 p2 p3 h0 n0) (s₁.setTop (mkF m 35 #[.val (.int p1), .val (.int p2), .val (.int (0 : Int32)), .val (.int p3), .val (.int p1), .val (.int (((p1.toUInt32 >>> ((7 : Int32) &&& 31).toUInt32).toInt32) &&& (1 : Int32)))] []))
    refine Run.go (fun _ k => XS.iload X0.here hx rfl (hb hby d1_35) rfl  k) ?_
    show Run p e below s 0 0 (Q_rm1_0 Z p1 p2 p3 h0 n0) (s₁.setTop (mkF m 37 #[.val (.int p1), .val (.int p2), .val (.int (0 : Int32)), .val (.int p3), .val (.int p1), .val (.int (((p1.toUInt32 >>> ((7 : Int32) &&& 31).toUInt32).toInt32) &&& (1 : Int32)))] [(.int (((p1.toUInt32 >>> ((7 : Int32) &&& 31).toUInt32).toInt32) &&& (1 : Int32)))]))
    have J5 : ∀ (w6 : Int64) (hw6 : w6 = (if ((((p1.toUInt32 >>> ((7 : Int32) &&& 31).toUInt32).toInt32) &&& (1 : Int32)) = (0 : Int32)) then (1 : Int64) else (0 : Int64))) (T7 : State) (L7 : List Loc) (X7 : Stand p l e ({ frames := 0, cells := 0, slots := 0, locals := 0 } : Room) s m #[(.int p1), (.int p2), (.int (0 : Int32)), (.int p3)] below meth c T7 L7 0 0) (e7 : T7.heap = h0) (N7 : Fr n0 L7), Run p e below s 0 0 (Q_rm1_0 Z p1 p2 p3 h0 n0) (T7.setTop (mkF m 45 #[.val (.int p1), .val (.int p2), .val (.int (0 : Int32)), .val (.int p3), .val (.int p1), .val (.int (((p1.toUInt32 >>> ((7 : Int32) &&& 31).toUInt32).toInt32) &&& (1 : Int32)))] [(.long w6)])) := by
      intro w6 hw6 T7 L7 X7 e7 N7
      show Run p e below s 0 0 (Q_rm1_0 Z p1 p2 p3 h0 n0) (T7.setTop (mkF m 45 #[.val (.int p1), .val (.int p2), .val (.int (0 : Int32)), .val (.int p3), .val (.int p1), .val (.int (((p1.toUInt32 >>> ((7 : Int32) &&& 31).toUInt32).toInt32) &&& (1 : Int32)))] [(.long w6)]))
      refine Run.retJ X7 hx Bd.returns Bd.notSynchronized (hb hby d1_45) (by decide) (by decide) ?_
      show Q_rm1_0 Z p1 p2 p3 h0 n0 _ T7.heap _
      exact ⟨congrArg some (congrArg Value.long (show w6 = (F_rm1_0 p1 p3) from (by subst hw6; unfold F_rm1_0; rw [if_pos hc4]))), N7, e7⟩
    by_cases hc8 : ((((p1.toUInt32 >>> ((7 : Int32) &&& 31).toUInt32).toInt32) &&& (1 : Int32)) = (0 : Int32))
    · refine Run.go (fun _ k => XS.ifNo X0.here hx rfl (hb hby d1_37) rfl ((if0 _ _).trans (teq hc8).2) k) ?_
      show Run p e below s 0 0 (Q_rm1_0 Z p1 p2 p3 h0 n0) (s₁.setTop (mkF m 40 #[.val (.int p1), .val (.int p2), .val (.int (0 : Int32)), .val (.int p3), .val (.int p1), .val (.int (((p1.toUInt32 >>> ((7 : Int32) &&& 31).toUInt32).toInt32) &&& (1 : Int32)))] []))
      refine Run.go (fun _ k => XS.lconst X0.here hx rfl (hb hby d1_40) k) ?_
      show Run p e below s 0 0 (Q_rm1_0 Z p1 p2 p3 h0 n0) (s₁.setTop (mkF m 41 #[.val (.int p1), .val (.int p2), .val (.int (0 : Int32)), .val (.int p3), .val (.int p1), .val (.int (((p1.toUInt32 >>> ((7 : Int32) &&& 31).toUInt32).toInt32) &&& (1 : Int32)))] [(.long (1 : Int64))]))
      refine Run.go (fun _ k => XS.goto X0.here hx rfl (pc0 := 41) (pc' := 45) rfl (hb hby d1_41) (by decide) (by decide) k) ?_
      show Run p e below s 0 0 (Q_rm1_0 Z p1 p2 p3 h0 n0) (s₁.setTop (mkF m 45 #[.val (.int p1), .val (.int p2), .val (.int (0 : Int32)), .val (.int p3), .val (.int p1), .val (.int (((p1.toUInt32 >>> ((7 : Int32) &&& 31).toUInt32).toInt32) &&& (1 : Int32)))] [(.long (1 : Int64))]))
      exact J5 _ (by rw [if_pos hc8]) _ _ X0 e0 N0
    · refine Run.go (fun _ k => XS.ifYes X0.here hx rfl (pc0 := 37) (pc' := 44) rfl (hb hby d1_37) rfl ((if0 _ _).trans (feq hc8).2) (by decide) (by decide) k) ?_
      show Run p e below s 0 0 (Q_rm1_0 Z p1 p2 p3 h0 n0) (s₁.setTop (mkF m 44 #[.val (.int p1), .val (.int p2), .val (.int (0 : Int32)), .val (.int p3), .val (.int p1), .val (.int (((p1.toUInt32 >>> ((7 : Int32) &&& 31).toUInt32).toInt32) &&& (1 : Int32)))] []))
      refine Run.go (fun _ k => XS.lconst X0.here hx rfl (hb hby d1_44) k) ?_
      show Run p e below s 0 0 (Q_rm1_0 Z p1 p2 p3 h0 n0) (s₁.setTop (mkF m 45 #[.val (.int p1), .val (.int p2), .val (.int (0 : Int32)), .val (.int p3), .val (.int p1), .val (.int (((p1.toUInt32 >>> ((7 : Int32) &&& 31).toUInt32).toInt32) &&& (1 : Int32)))] [(.long (0 : Int64))]))
      exact J5 _ (by rw [if_neg hc8]) _ _ X0 e0 N0
  · refine Run.go (fun _ k => XS.icmpNo X0.here hx rfl (hb hby d1_2) rfl (flt hc4).1 k) ?_
    show Run p e below s 0 0 (Q_rm1_0 Z p1 p2 p3 h0 n0) (s₁.setTop (mkF m 5 #[.val (.int p1), .val (.int p2), .val (.int (0 : Int32)), .val (.int p3), .unset, .unset] []))
    refine Run.go (fun _ k => XS.lconst X0.here hx rfl (hb hby d1_5) k) ?_
    show Run p e below s 0 0 (Q_rm1_0 Z p1 p2 p3 h0 n0) (s₁.setTop (mkF m 6 #[.val (.int p1), .val (.int p2), .val (.int (0 : Int32)), .val (.int p3), .unset, .unset] [(.long (0 : Int64))]))
    refine Run.retJ X0 hx Bd.returns Bd.notSynchronized (hb hby d1_6) (by decide) (by decide) ?_
    show Q_rm1_0 Z p1 p2 p3 h0 n0 _ s₁.heap _
    exact ⟨congrArg some (congrArg Value.long (show (0 : Int64) = (F_rm1_0 p1 p3) from (by unfold F_rm1_0; rw [if_neg hc4]))), N0, e0⟩
def F_rm3_1 (p1 : Int32) : Int32 := (((p1.toUInt32 >>> ((8 : Int32) &&& 31).toUInt32).toInt32).toInt8.toInt32)
def Q_rm3_1 (Z : State) (p1 : Int32) (p2 : Int32) (h0 : Heap) (n0 : Nat) (v : Option Value) (h : Heap) (L : List Loc) : Prop := v = some (.int (F_rm3_1 p1)) ∧ Fr n0 L ∧ h = h0
theorem ef_rm3_1 (m : MethodId) (x0 : Int32) (x1 : Int32) : entryFrame m #[(.int x0), (.int x1), (.int (1 : Int32))] 4 = mkF m 0 #[.val (.int x0), .val (.int x1), .val (.int (1 : Int32)), .unset] [] := by first | (simp [entryFrame, mkF, argsToLocals, Value.category]; done) | rfl
set_option maxRecDepth 65536 in
set_option maxHeartbeats 40000000 in
theorem rm3_1 (l : Launch) (Z : State) (a0 : Array Value) (hw : ∀ d ∈ tables_1, d.before a0 Z = true) (ws : List Jvm.Cond) (p1 : Int32) (p2 : Int32) (h0 : Heap) (n0 : Nat) (Z0 : n0 ≤ h0.size)  :
    MetFree l (⟨"com/example/subjectory/subjectory/index/PostingsCountPinLaw", "pick", "(III)B"⟩ : MethodName) (head1 (Jvm.Cond.code (⟨"com/example/subjectory/subjectory/index/PostingsCountPinLaw", "pick", "(III)B"⟩ : MethodName) method_2_code 4 (some .byte) :: ws) ({ frames := 0, cells := 0, slots := 0, locals := 0 } : Room)) (fun a U => a = #[(.int p1), (.int p2), (.int (1 : Int32))] ∧ Z.Warmed39 U.vm ∧ U.heap = h0) (fun _ _ _ _ _ => True) (fun _ U o U' => ∃ v L, o = .returned v ∧ Q_rm3_1 Z p1 p2 h0 n0 v U'.heap L ∧ FrameEnd U o U' L ({ frames := 0, cells := 0, slots := 0, locals := 0 } : Room).cells ({ frames := 0, cells := 0, slots := 0, locals := 0 } : Room).slots) := by
  refine MetFree.of_bodySF (plainFor_of_name pn_1) hisR ?_
  intro p e s m args below meth c s₁ Bd hml0 hP hK
  obtain ⟨rfl, hZ, hh⟩ := hP
  have hx := Bd.exec
  have hby := Bd.bytes
  have hml : c.maxLocals = 4 := hml0
  have hown : s.vm.findClass "com/example/subjectory/subjectory/index/PostingsCountPinLaw" = some m.cls := findClass_of_methodNamed Bd.named
  have hnm := (name_of_methodNamed Bd.named Bd.method).1
  have X0 : Stand p l e ({ frames := 0, cells := 0, slots := 0, locals := 0 } : Room) s m #[(.int p1), (.int p2), (.int (1 : Int32))] below meth c s₁ [] 0 0 := Stand.of_body Bd
  have e0 : s₁.heap = h0 := by rw [← hh, Bd.state]; rfl
  have N0 := Fr.nil n0
  show Run p e below s 0 0 (Q_rm3_1 Z p1 p2 h0 n0) (s₁.setTop (entryFrame m #[(.int p1), (.int p2), (.int (1 : Int32))] 4))
  refine Run.go (fun _ k => castTop (ef_rm3_1 m p1 p2) k) ?_
  show Run p e below s 0 0 (Q_rm3_1 Z p1 p2 h0 n0) (s₁.setTop (mkF m 0 #[.val (.int p1), .val (.int p2), .val (.int (1 : Int32)), .unset] []))
  refine Run.go (fun _ k => XS.iloadN X0.here hx rfl (hb hby d3_0) rfl  k) ?_
  show Run p e below s 0 0 (Q_rm3_1 Z p1 p2 h0 n0) (s₁.setTop (mkF m 1 #[.val (.int p1), .val (.int p2), .val (.int (1 : Int32)), .unset] [(.int (1 : Int32))]))
  refine Run.go (fun _ k => XS.iconst X0.here hx rfl (hb hby d3_1) k) ?_
  show Run p e below s 0 0 (Q_rm3_1 Z p1 p2 h0 n0) (s₁.setTop (mkF m 2 #[.val (.int p1), .val (.int p2), .val (.int (1 : Int32)), .unset] [(.int (4 : Int32)), (.int (1 : Int32))]))
  refine Run.go (fun _ k => XS.icmpNo X0.here hx rfl (hb hby d3_2) rfl (tlt (by decide)).2.1 k) ?_
  show Run p e below s 0 0 (Q_rm3_1 Z p1 p2 h0 n0) (s₁.setTop (mkF m 5 #[.val (.int p1), .val (.int p2), .val (.int (1 : Int32)), .unset] []))
  refine Run.go (fun _ k => XS.iloadN X0.here hx rfl (hb hby d3_5) rfl  k) ?_
  show Run p e below s 0 0 (Q_rm3_1 Z p1 p2 h0 n0) (s₁.setTop (mkF m 6 #[.val (.int p1), .val (.int p2), .val (.int (1 : Int32)), .unset] [(.int p1)]))
  refine Run.go (fun _ k => XS.goto X0.here hx rfl (pc0 := 6) (pc' := 10) rfl (hb hby d3_6) (by decide) (by decide) k) ?_
  show Run p e below s 0 0 (Q_rm3_1 Z p1 p2 h0 n0) (s₁.setTop (mkF m 10 #[.val (.int p1), .val (.int p2), .val (.int (1 : Int32)), .unset] [(.int p1)]))
  refine Run.go (fun _ k => XS.istoreN X0.here hx rfl (hb hby d3_10) rfl (l' := #[.val (.int p1), .val (.int p2), .val (.int (1 : Int32)), .val (.int p1)]) rfl k) ?_
  show Run p e below s 0 0 (Q_rm3_1 Z p1 p2 h0 n0) (s₁.setTop (mkF m 11 #[.val (.int p1), .val (.int p2), .val (.int (1 : Int32)), .val (.int p1)] []))
  refine Run.go (fun _ k => XS.iloadN X0.here hx rfl (hb hby d3_11) rfl  k) ?_
  show Run p e below s 0 0 (Q_rm3_1 Z p1 p2 h0 n0) (s₁.setTop (mkF m 12 #[.val (.int p1), .val (.int p2), .val (.int (1 : Int32)), .val (.int p1)] [(.int p1)]))
  refine Run.go (fun _ k => XS.bipush X0.here hx rfl (hb hby d3_12) k) ?_
  show Run p e below s 0 0 (Q_rm3_1 Z p1 p2 h0 n0) (s₁.setTop (mkF m 14 #[.val (.int p1), .val (.int p2), .val (.int (1 : Int32)), .val (.int p1)] [(.int (8 : Int32)), (.int p1)]))
  refine Run.go (fun _ k => XS.iloadN X0.here hx rfl (hb hby d3_14) rfl  k) ?_
  show Run p e below s 0 0 (Q_rm3_1 Z p1 p2 h0 n0) (s₁.setTop (mkF m 15 #[.val (.int p1), .val (.int p2), .val (.int (1 : Int32)), .val (.int p1)] [(.int (1 : Int32)), (.int (8 : Int32)), (.int p1)]))
  refine Run.go (fun _ k => XS.iconst X0.here hx rfl (hb hby d3_15) k) ?_
  show Run p e below s 0 0 (Q_rm3_1 Z p1 p2 h0 n0) (s₁.setTop (mkF m 16 #[.val (.int p1), .val (.int p2), .val (.int (1 : Int32)), .val (.int p1)] [(.int (3 : Int32)), (.int (1 : Int32)), (.int (8 : Int32)), (.int p1)]))
  refine Run.go (fun _ k => XS.iand X0.here hx rfl (hb hby d3_16) rfl k) ?_
  show Run p e below s 0 0 (Q_rm3_1 Z p1 p2 h0 n0) (s₁.setTop (mkF m 17 #[.val (.int p1), .val (.int p2), .val (.int (1 : Int32)), .val (.int p1)] [(.int (1 : Int32)), (.int (8 : Int32)), (.int p1)]))
  refine Run.go (fun _ k => XS.imul X0.here hx rfl (hb hby d3_17) rfl k) ?_
  show Run p e below s 0 0 (Q_rm3_1 Z p1 p2 h0 n0) (s₁.setTop (mkF m 18 #[.val (.int p1), .val (.int p2), .val (.int (1 : Int32)), .val (.int p1)] [(.int (8 : Int32)), (.int p1)]))
  refine Run.go (fun _ k => XS.iushr X0.here hx rfl (hb hby d3_18) rfl k) ?_
  show Run p e below s 0 0 (Q_rm3_1 Z p1 p2 h0 n0) (s₁.setTop (mkF m 19 #[.val (.int p1), .val (.int p2), .val (.int (1 : Int32)), .val (.int p1)] [(.int ((p1.toUInt32 >>> ((8 : Int32) &&& 31).toUInt32).toInt32))]))
  refine Run.go (fun _ k => XS.i2b X0.here hx rfl (hb hby d3_19) rfl k) ?_
  show Run p e below s 0 0 (Q_rm3_1 Z p1 p2 h0 n0) (s₁.setTop (mkF m 20 #[.val (.int p1), .val (.int p2), .val (.int (1 : Int32)), .val (.int p1)] [(.int (((p1.toUInt32 >>> ((8 : Int32) &&& 31).toUInt32).toInt32).toInt8.toInt32))]))
  refine Run.retN (y := (((p1.toUInt32 >>> ((8 : Int32) &&& 31).toUInt32).toInt32).toInt8.toInt32)) X0 hx (t := .byte) Bd.returns (by simp) (b_idem _) Bd.notSynchronized (hb hby d3_20) (by decide) (by decide) ?_
  show Q_rm3_1 Z p1 p2 h0 n0 _ s₁.heap _
  exact ⟨congrArg some (congrArg Value.int (show (((p1.toUInt32 >>> ((8 : Int32) &&& 31).toUInt32).toInt32).toInt8.toInt32) = (F_rm3_1 p1) from (by unfold F_rm3_1; rfl))), N0, e0⟩
def F_rm1_1 (p1 : Int32) (p3 : Int32) : Int64 := (if ((1 : Int32) < p3) then (if ((((p1.toUInt32 >>> ((15 : Int32) &&& 31).toUInt32).toInt32) &&& (1 : Int32)) = (0 : Int32)) then (1 : Int64) else (0 : Int64)) else (0 : Int64))
def Q_rm1_1 (Z : State) (p1 : Int32) (p2 : Int32) (p3 : Int32) (h0 : Heap) (n0 : Nat) (v : Option Value) (h : Heap) (L : List Loc) : Prop := v = some (.long (F_rm1_1 p1 p3)) ∧ Fr n0 L ∧ h = h0
theorem ef_rm1_1 (m : MethodId) (x0 : Int32) (x1 : Int32) (x3 : Int32) : entryFrame m #[(.int x0), (.int x1), (.int (1 : Int32)), (.int x3)] 6 = mkF m 0 #[.val (.int x0), .val (.int x1), .val (.int (1 : Int32)), .val (.int x3), .unset, .unset] [] := by first | (simp [entryFrame, mkF, argsToLocals, Value.category]; done) | rfl
set_option maxRecDepth 65536 in
set_option maxHeartbeats 40000000 in
theorem rm1_1 (l : Launch) (Z : State) (a0 : Array Value) (hw : ∀ d ∈ tables_1, d.before a0 Z = true) (ws : List Jvm.Cond) (p1 : Int32) (p2 : Int32) (p3 : Int32) (h0 : Heap) (n0 : Nat) (Z0 : n0 ≤ h0.size)  :
    MetFree l (⟨"com/example/subjectory/subjectory/index/PostingsCountPinLaw", "term", "(IIII)J"⟩ : MethodName) (head1 (Jvm.Cond.code (⟨"com/example/subjectory/subjectory/index/PostingsCountPinLaw", "term", "(IIII)J"⟩ : MethodName) method_3_code 6 (some .long) :: ws) ({ frames := 0, cells := 0, slots := 0, locals := 0 } : Room)) (fun a U => a = #[(.int p1), (.int p2), (.int (1 : Int32)), (.int p3)] ∧ Z.Warmed39 U.vm ∧ U.heap = h0) (fun _ _ _ _ _ => True) (fun _ U o U' => ∃ v L, o = .returned v ∧ Q_rm1_1 Z p1 p2 p3 h0 n0 v U'.heap L ∧ FrameEnd U o U' L ({ frames := 0, cells := 0, slots := 0, locals := 0 } : Room).cells ({ frames := 0, cells := 0, slots := 0, locals := 0 } : Room).slots) := by
  refine MetFree.of_bodySF (plainFor_of_name pn_1) hisR ?_
  intro p e s m args below meth c s₁ Bd hml0 hP hK
  obtain ⟨rfl, hZ, hh⟩ := hP
  have hx := Bd.exec
  have hby := Bd.bytes
  have hml : c.maxLocals = 6 := hml0
  have hown : s.vm.findClass "com/example/subjectory/subjectory/index/PostingsCountPinLaw" = some m.cls := findClass_of_methodNamed Bd.named
  have hnm := (name_of_methodNamed Bd.named Bd.method).1
  have X0 : Stand p l e ({ frames := 0, cells := 0, slots := 0, locals := 0 } : Room) s m #[(.int p1), (.int p2), (.int (1 : Int32)), (.int p3)] below meth c s₁ [] 0 0 := Stand.of_body Bd
  have e0 : s₁.heap = h0 := by rw [← hh, Bd.state]; rfl
  have N0 := Fr.nil n0
  show Run p e below s 0 0 (Q_rm1_1 Z p1 p2 p3 h0 n0) (s₁.setTop (entryFrame m #[(.int p1), (.int p2), (.int (1 : Int32)), (.int p3)] 6))
  refine Run.go (fun _ k => castTop (ef_rm1_1 m p1 p2 p3) k) ?_
  show Run p e below s 0 0 (Q_rm1_1 Z p1 p2 p3 h0 n0) (s₁.setTop (mkF m 0 #[.val (.int p1), .val (.int p2), .val (.int (1 : Int32)), .val (.int p3), .unset, .unset] []))
  refine Run.go (fun _ k => XS.iloadN X0.here hx rfl (hb hby d1_0) rfl  k) ?_
  show Run p e below s 0 0 (Q_rm1_1 Z p1 p2 p3 h0 n0) (s₁.setTop (mkF m 1 #[.val (.int p1), .val (.int p2), .val (.int (1 : Int32)), .val (.int p3), .unset, .unset] [(.int (1 : Int32))]))
  refine Run.go (fun _ k => XS.iloadN X0.here hx rfl (hb hby d1_1) rfl  k) ?_
  show Run p e below s 0 0 (Q_rm1_1 Z p1 p2 p3 h0 n0) (s₁.setTop (mkF m 2 #[.val (.int p1), .val (.int p2), .val (.int (1 : Int32)), .val (.int p3), .unset, .unset] [(.int p3), (.int (1 : Int32))]))
  by_cases hc4 : ((1 : Int32) < p3)
  · refine Run.go (fun _ k => XS.icmpYes X0.here hx rfl (pc0 := 2) (pc' := 7) rfl (hb hby d1_2) rfl (tlt hc4).1 (by decide) (by decide) k) ?_
    show Run p e below s 0 0 (Q_rm1_1 Z p1 p2 p3 h0 n0) (s₁.setTop (mkF m 7 #[.val (.int p1), .val (.int p2), .val (.int (1 : Int32)), .val (.int p3), .unset, .unset] []))
    refine Run.go (fun _ k => XS.iloadN X0.here hx rfl (hb hby d1_7) rfl  k) ?_
    show Run p e below s 0 0 (Q_rm1_1 Z p1 p2 p3 h0 n0) (s₁.setTop (mkF m 8 #[.val (.int p1), .val (.int p2), .val (.int (1 : Int32)), .val (.int p3), .unset, .unset] [(.int (1 : Int32))]))
    refine Run.go (fun _ k => XS.iconst X0.here hx rfl (hb hby d1_8) k) ?_
    show Run p e below s 0 0 (Q_rm1_1 Z p1 p2 p3 h0 n0) (s₁.setTop (mkF m 9 #[.val (.int p1), .val (.int p2), .val (.int (1 : Int32)), .val (.int p3), .unset, .unset] [(.int (4 : Int32)), (.int (1 : Int32))]))
    refine Run.go (fun _ k => XS.icmpNo X0.here hx rfl (hb hby d1_9) rfl (tlt (by decide)).2.1 k) ?_
    show Run p e below s 0 0 (Q_rm1_1 Z p1 p2 p3 h0 n0) (s₁.setTop (mkF m 12 #[.val (.int p1), .val (.int p2), .val (.int (1 : Int32)), .val (.int p3), .unset, .unset] []))
    refine Run.go (fun _ k => XS.iloadN X0.here hx rfl (hb hby d1_12) rfl  k) ?_
    show Run p e below s 0 0 (Q_rm1_1 Z p1 p2 p3 h0 n0) (s₁.setTop (mkF m 13 #[.val (.int p1), .val (.int p2), .val (.int (1 : Int32)), .val (.int p3), .unset, .unset] [(.int p1)]))
    refine Run.go (fun _ k => XS.goto X0.here hx rfl (pc0 := 13) (pc' := 17) rfl (hb hby d1_13) (by decide) (by decide) k) ?_
    show Run p e below s 0 0 (Q_rm1_1 Z p1 p2 p3 h0 n0) (s₁.setTop (mkF m 17 #[.val (.int p1), .val (.int p2), .val (.int (1 : Int32)), .val (.int p3), .unset, .unset] [(.int p1)]))
    refine Run.go (fun _ k => XS.istore X0.here hx rfl (hb hby d1_17) rfl (l' := #[.val (.int p1), .val (.int p2), .val (.int (1 : Int32)), .val (.int p3), .val (.int p1), .unset]) rfl k) ?_
    show Run p e below s 0 0 (Q_rm1_1 Z p1 p2 p3 h0 n0) (s₁.setTop (mkF m 19 #[.val (.int p1), .val (.int p2), .val (.int (1 : Int32)), .val (.int p3), .val (.int p1), .unset] []))
    refine Run.go (fun _ k => XS.iload X0.here hx rfl (hb hby d1_19) rfl  k) ?_
    show Run p e below s 0 0 (Q_rm1_1 Z p1 p2 p3 h0 n0) (s₁.setTop (mkF m 21 #[.val (.int p1), .val (.int p2), .val (.int (1 : Int32)), .val (.int p3), .val (.int p1), .unset] [(.int p1)]))
    refine Run.go (fun _ k => XS.bipush X0.here hx rfl (hb hby d1_21) k) ?_
    show Run p e below s 0 0 (Q_rm1_1 Z p1 p2 p3 h0 n0) (s₁.setTop (mkF m 23 #[.val (.int p1), .val (.int p2), .val (.int (1 : Int32)), .val (.int p3), .val (.int p1), .unset] [(.int (8 : Int32)), (.int p1)]))
    refine Run.go (fun _ k => XS.iloadN X0.here hx rfl (hb hby d1_23) rfl  k) ?_
    show Run p e below s 0 0 (Q_rm1_1 Z p1 p2 p3 h0 n0) (s₁.setTop (mkF m 24 #[.val (.int p1), .val (.int p2), .val (.int (1 : Int32)), .val (.int p3), .val (.int p1), .unset] [(.int (1 : Int32)), (.int (8 : Int32)), (.int p1)]))
    refine Run.go (fun _ k => XS.iconst X0.here hx rfl (hb hby d1_24) k) ?_
    show Run p e below s 0 0 (Q_rm1_1 Z p1 p2 p3 h0 n0) (s₁.setTop (mkF m 25 #[.val (.int p1), .val (.int p2), .val (.int (1 : Int32)), .val (.int p3), .val (.int p1), .unset] [(.int (3 : Int32)), (.int (1 : Int32)), (.int (8 : Int32)), (.int p1)]))
    refine Run.go (fun _ k => XS.iand X0.here hx rfl (hb hby d1_25) rfl k) ?_
    show Run p e below s 0 0 (Q_rm1_1 Z p1 p2 p3 h0 n0) (s₁.setTop (mkF m 26 #[.val (.int p1), .val (.int p2), .val (.int (1 : Int32)), .val (.int p3), .val (.int p1), .unset] [(.int (1 : Int32)), (.int (8 : Int32)), (.int p1)]))
    refine Run.go (fun _ k => XS.imul X0.here hx rfl (hb hby d1_26) rfl k) ?_
    show Run p e below s 0 0 (Q_rm1_1 Z p1 p2 p3 h0 n0) (s₁.setTop (mkF m 27 #[.val (.int p1), .val (.int p2), .val (.int (1 : Int32)), .val (.int p3), .val (.int p1), .unset] [(.int (8 : Int32)), (.int p1)]))
    refine Run.go (fun _ k => XS.bipush X0.here hx rfl (hb hby d1_27) k) ?_
    show Run p e below s 0 0 (Q_rm1_1 Z p1 p2 p3 h0 n0) (s₁.setTop (mkF m 29 #[.val (.int p1), .val (.int p2), .val (.int (1 : Int32)), .val (.int p3), .val (.int p1), .unset] [(.int (7 : Int32)), (.int (8 : Int32)), (.int p1)]))
    refine Run.go (fun _ k => XS.iadd X0.here hx rfl (hb hby d1_29) rfl k) ?_
    show Run p e below s 0 0 (Q_rm1_1 Z p1 p2 p3 h0 n0) (s₁.setTop (mkF m 30 #[.val (.int p1), .val (.int p2), .val (.int (1 : Int32)), .val (.int p3), .val (.int p1), .unset] [(.int (15 : Int32)), (.int p1)]))
    refine Run.go (fun _ k => XS.iushr X0.here hx rfl (hb hby d1_30) rfl k) ?_
    show Run p e below s 0 0 (Q_rm1_1 Z p1 p2 p3 h0 n0) (s₁.setTop (mkF m 31 #[.val (.int p1), .val (.int p2), .val (.int (1 : Int32)), .val (.int p3), .val (.int p1), .unset] [(.int ((p1.toUInt32 >>> ((15 : Int32) &&& 31).toUInt32).toInt32))]))
    refine Run.go (fun _ k => XS.iconst X0.here hx rfl (hb hby d1_31) k) ?_
    show Run p e below s 0 0 (Q_rm1_1 Z p1 p2 p3 h0 n0) (s₁.setTop (mkF m 32 #[.val (.int p1), .val (.int p2), .val (.int (1 : Int32)), .val (.int p3), .val (.int p1), .unset] [(.int (1 : Int32)), (.int ((p1.toUInt32 >>> ((15 : Int32) &&& 31).toUInt32).toInt32))]))
    refine Run.go (fun _ k => XS.iand X0.here hx rfl (hb hby d1_32) rfl k) ?_
    show Run p e below s 0 0 (Q_rm1_1 Z p1 p2 p3 h0 n0) (s₁.setTop (mkF m 33 #[.val (.int p1), .val (.int p2), .val (.int (1 : Int32)), .val (.int p3), .val (.int p1), .unset] [(.int (((p1.toUInt32 >>> ((15 : Int32) &&& 31).toUInt32).toInt32) &&& (1 : Int32)))]))
    refine Run.go (fun _ k => XS.istore X0.here hx rfl (hb hby d1_33) rfl (l' := #[.val (.int p1), .val (.int p2), .val (.int (1 : Int32)), .val (.int p3), .val (.int p1), .val (.int (((p1.toUInt32 >>> ((15 : Int32) &&& 31).toUInt32).toInt32) &&& (1 : Int32)))]) rfl k) ?_
    show Run p e below s 0 0 (Q_rm1_1 Z p1 p2 p3 h0 n0) (s₁.setTop (mkF m 35 #[.val (.int p1), .val (.int p2), .val (.int (1 : Int32)), .val (.int p3), .val (.int p1), .val (.int (((p1.toUInt32 >>> ((15 : Int32) &&& 31).toUInt32).toInt32) &&& (1 : Int32)))] []))
    refine Run.go (fun _ k => XS.iload X0.here hx rfl (hb hby d1_35) rfl  k) ?_
    show Run p e below s 0 0 (Q_rm1_1 Z p1 p2 p3 h0 n0) (s₁.setTop (mkF m 37 #[.val (.int p1), .val (.int p2), .val (.int (1 : Int32)), .val (.int p3), .val (.int p1), .val (.int (((p1.toUInt32 >>> ((15 : Int32) &&& 31).toUInt32).toInt32) &&& (1 : Int32)))] [(.int (((p1.toUInt32 >>> ((15 : Int32) &&& 31).toUInt32).toInt32) &&& (1 : Int32)))]))
    have J5 : ∀ (w6 : Int64) (hw6 : w6 = (if ((((p1.toUInt32 >>> ((15 : Int32) &&& 31).toUInt32).toInt32) &&& (1 : Int32)) = (0 : Int32)) then (1 : Int64) else (0 : Int64))) (T7 : State) (L7 : List Loc) (X7 : Stand p l e ({ frames := 0, cells := 0, slots := 0, locals := 0 } : Room) s m #[(.int p1), (.int p2), (.int (1 : Int32)), (.int p3)] below meth c T7 L7 0 0) (e7 : T7.heap = h0) (N7 : Fr n0 L7), Run p e below s 0 0 (Q_rm1_1 Z p1 p2 p3 h0 n0) (T7.setTop (mkF m 45 #[.val (.int p1), .val (.int p2), .val (.int (1 : Int32)), .val (.int p3), .val (.int p1), .val (.int (((p1.toUInt32 >>> ((15 : Int32) &&& 31).toUInt32).toInt32) &&& (1 : Int32)))] [(.long w6)])) := by
      intro w6 hw6 T7 L7 X7 e7 N7
      show Run p e below s 0 0 (Q_rm1_1 Z p1 p2 p3 h0 n0) (T7.setTop (mkF m 45 #[.val (.int p1), .val (.int p2), .val (.int (1 : Int32)), .val (.int p3), .val (.int p1), .val (.int (((p1.toUInt32 >>> ((15 : Int32) &&& 31).toUInt32).toInt32) &&& (1 : Int32)))] [(.long w6)]))
      refine Run.retJ X7 hx Bd.returns Bd.notSynchronized (hb hby d1_45) (by decide) (by decide) ?_
      show Q_rm1_1 Z p1 p2 p3 h0 n0 _ T7.heap _
      exact ⟨congrArg some (congrArg Value.long (show w6 = (F_rm1_1 p1 p3) from (by subst hw6; unfold F_rm1_1; rw [if_pos hc4]))), N7, e7⟩
    by_cases hc8 : ((((p1.toUInt32 >>> ((15 : Int32) &&& 31).toUInt32).toInt32) &&& (1 : Int32)) = (0 : Int32))
    · refine Run.go (fun _ k => XS.ifNo X0.here hx rfl (hb hby d1_37) rfl ((if0 _ _).trans (teq hc8).2) k) ?_
      show Run p e below s 0 0 (Q_rm1_1 Z p1 p2 p3 h0 n0) (s₁.setTop (mkF m 40 #[.val (.int p1), .val (.int p2), .val (.int (1 : Int32)), .val (.int p3), .val (.int p1), .val (.int (((p1.toUInt32 >>> ((15 : Int32) &&& 31).toUInt32).toInt32) &&& (1 : Int32)))] []))
      refine Run.go (fun _ k => XS.lconst X0.here hx rfl (hb hby d1_40) k) ?_
      show Run p e below s 0 0 (Q_rm1_1 Z p1 p2 p3 h0 n0) (s₁.setTop (mkF m 41 #[.val (.int p1), .val (.int p2), .val (.int (1 : Int32)), .val (.int p3), .val (.int p1), .val (.int (((p1.toUInt32 >>> ((15 : Int32) &&& 31).toUInt32).toInt32) &&& (1 : Int32)))] [(.long (1 : Int64))]))
      refine Run.go (fun _ k => XS.goto X0.here hx rfl (pc0 := 41) (pc' := 45) rfl (hb hby d1_41) (by decide) (by decide) k) ?_
      show Run p e below s 0 0 (Q_rm1_1 Z p1 p2 p3 h0 n0) (s₁.setTop (mkF m 45 #[.val (.int p1), .val (.int p2), .val (.int (1 : Int32)), .val (.int p3), .val (.int p1), .val (.int (((p1.toUInt32 >>> ((15 : Int32) &&& 31).toUInt32).toInt32) &&& (1 : Int32)))] [(.long (1 : Int64))]))
      exact J5 _ (by rw [if_pos hc8]) _ _ X0 e0 N0
    · refine Run.go (fun _ k => XS.ifYes X0.here hx rfl (pc0 := 37) (pc' := 44) rfl (hb hby d1_37) rfl ((if0 _ _).trans (feq hc8).2) (by decide) (by decide) k) ?_
      show Run p e below s 0 0 (Q_rm1_1 Z p1 p2 p3 h0 n0) (s₁.setTop (mkF m 44 #[.val (.int p1), .val (.int p2), .val (.int (1 : Int32)), .val (.int p3), .val (.int p1), .val (.int (((p1.toUInt32 >>> ((15 : Int32) &&& 31).toUInt32).toInt32) &&& (1 : Int32)))] []))
      refine Run.go (fun _ k => XS.lconst X0.here hx rfl (hb hby d1_44) k) ?_
      show Run p e below s 0 0 (Q_rm1_1 Z p1 p2 p3 h0 n0) (s₁.setTop (mkF m 45 #[.val (.int p1), .val (.int p2), .val (.int (1 : Int32)), .val (.int p3), .val (.int p1), .val (.int (((p1.toUInt32 >>> ((15 : Int32) &&& 31).toUInt32).toInt32) &&& (1 : Int32)))] [(.long (0 : Int64))]))
      exact J5 _ (by rw [if_neg hc8]) _ _ X0 e0 N0
  · refine Run.go (fun _ k => XS.icmpNo X0.here hx rfl (hb hby d1_2) rfl (flt hc4).1 k) ?_
    show Run p e below s 0 0 (Q_rm1_1 Z p1 p2 p3 h0 n0) (s₁.setTop (mkF m 5 #[.val (.int p1), .val (.int p2), .val (.int (1 : Int32)), .val (.int p3), .unset, .unset] []))
    refine Run.go (fun _ k => XS.lconst X0.here hx rfl (hb hby d1_5) k) ?_
    show Run p e below s 0 0 (Q_rm1_1 Z p1 p2 p3 h0 n0) (s₁.setTop (mkF m 6 #[.val (.int p1), .val (.int p2), .val (.int (1 : Int32)), .val (.int p3), .unset, .unset] [(.long (0 : Int64))]))
    refine Run.retJ X0 hx Bd.returns Bd.notSynchronized (hb hby d1_6) (by decide) (by decide) ?_
    show Q_rm1_1 Z p1 p2 p3 h0 n0 _ s₁.heap _
    exact ⟨congrArg some (congrArg Value.long (show (0 : Int64) = (F_rm1_1 p1 p3) from (by unfold F_rm1_1; rw [if_neg hc4]))), N0, e0⟩
def F_rm3_2 (p1 : Int32) : Int32 := (((p1.toUInt32 >>> ((16 : Int32) &&& 31).toUInt32).toInt32).toInt8.toInt32)
def Q_rm3_2 (Z : State) (p1 : Int32) (p2 : Int32) (h0 : Heap) (n0 : Nat) (v : Option Value) (h : Heap) (L : List Loc) : Prop := v = some (.int (F_rm3_2 p1)) ∧ Fr n0 L ∧ h = h0
theorem ef_rm3_2 (m : MethodId) (x0 : Int32) (x1 : Int32) : entryFrame m #[(.int x0), (.int x1), (.int (2 : Int32))] 4 = mkF m 0 #[.val (.int x0), .val (.int x1), .val (.int (2 : Int32)), .unset] [] := by first | (simp [entryFrame, mkF, argsToLocals, Value.category]; done) | rfl
set_option maxRecDepth 65536 in
set_option maxHeartbeats 40000000 in
theorem rm3_2 (l : Launch) (Z : State) (a0 : Array Value) (hw : ∀ d ∈ tables_1, d.before a0 Z = true) (ws : List Jvm.Cond) (p1 : Int32) (p2 : Int32) (h0 : Heap) (n0 : Nat) (Z0 : n0 ≤ h0.size)  :
    MetFree l (⟨"com/example/subjectory/subjectory/index/PostingsCountPinLaw", "pick", "(III)B"⟩ : MethodName) (head1 (Jvm.Cond.code (⟨"com/example/subjectory/subjectory/index/PostingsCountPinLaw", "pick", "(III)B"⟩ : MethodName) method_2_code 4 (some .byte) :: ws) ({ frames := 0, cells := 0, slots := 0, locals := 0 } : Room)) (fun a U => a = #[(.int p1), (.int p2), (.int (2 : Int32))] ∧ Z.Warmed39 U.vm ∧ U.heap = h0) (fun _ _ _ _ _ => True) (fun _ U o U' => ∃ v L, o = .returned v ∧ Q_rm3_2 Z p1 p2 h0 n0 v U'.heap L ∧ FrameEnd U o U' L ({ frames := 0, cells := 0, slots := 0, locals := 0 } : Room).cells ({ frames := 0, cells := 0, slots := 0, locals := 0 } : Room).slots) := by
  refine MetFree.of_bodySF (plainFor_of_name pn_1) hisR ?_
  intro p e s m args below meth c s₁ Bd hml0 hP hK
  obtain ⟨rfl, hZ, hh⟩ := hP
  have hx := Bd.exec
  have hby := Bd.bytes
  have hml : c.maxLocals = 4 := hml0
  have hown : s.vm.findClass "com/example/subjectory/subjectory/index/PostingsCountPinLaw" = some m.cls := findClass_of_methodNamed Bd.named
  have hnm := (name_of_methodNamed Bd.named Bd.method).1
  have X0 : Stand p l e ({ frames := 0, cells := 0, slots := 0, locals := 0 } : Room) s m #[(.int p1), (.int p2), (.int (2 : Int32))] below meth c s₁ [] 0 0 := Stand.of_body Bd
  have e0 : s₁.heap = h0 := by rw [← hh, Bd.state]; rfl
  have N0 := Fr.nil n0
  show Run p e below s 0 0 (Q_rm3_2 Z p1 p2 h0 n0) (s₁.setTop (entryFrame m #[(.int p1), (.int p2), (.int (2 : Int32))] 4))
  refine Run.go (fun _ k => castTop (ef_rm3_2 m p1 p2) k) ?_
  show Run p e below s 0 0 (Q_rm3_2 Z p1 p2 h0 n0) (s₁.setTop (mkF m 0 #[.val (.int p1), .val (.int p2), .val (.int (2 : Int32)), .unset] []))
  refine Run.go (fun _ k => XS.iloadN X0.here hx rfl (hb hby d3_0) rfl  k) ?_
  show Run p e below s 0 0 (Q_rm3_2 Z p1 p2 h0 n0) (s₁.setTop (mkF m 1 #[.val (.int p1), .val (.int p2), .val (.int (2 : Int32)), .unset] [(.int (2 : Int32))]))
  refine Run.go (fun _ k => XS.iconst X0.here hx rfl (hb hby d3_1) k) ?_
  show Run p e below s 0 0 (Q_rm3_2 Z p1 p2 h0 n0) (s₁.setTop (mkF m 2 #[.val (.int p1), .val (.int p2), .val (.int (2 : Int32)), .unset] [(.int (4 : Int32)), (.int (2 : Int32))]))
  refine Run.go (fun _ k => XS.icmpNo X0.here hx rfl (hb hby d3_2) rfl (tlt (by decide)).2.1 k) ?_
  show Run p e below s 0 0 (Q_rm3_2 Z p1 p2 h0 n0) (s₁.setTop (mkF m 5 #[.val (.int p1), .val (.int p2), .val (.int (2 : Int32)), .unset] []))
  refine Run.go (fun _ k => XS.iloadN X0.here hx rfl (hb hby d3_5) rfl  k) ?_
  show Run p e below s 0 0 (Q_rm3_2 Z p1 p2 h0 n0) (s₁.setTop (mkF m 6 #[.val (.int p1), .val (.int p2), .val (.int (2 : Int32)), .unset] [(.int p1)]))
  refine Run.go (fun _ k => XS.goto X0.here hx rfl (pc0 := 6) (pc' := 10) rfl (hb hby d3_6) (by decide) (by decide) k) ?_
  show Run p e below s 0 0 (Q_rm3_2 Z p1 p2 h0 n0) (s₁.setTop (mkF m 10 #[.val (.int p1), .val (.int p2), .val (.int (2 : Int32)), .unset] [(.int p1)]))
  refine Run.go (fun _ k => XS.istoreN X0.here hx rfl (hb hby d3_10) rfl (l' := #[.val (.int p1), .val (.int p2), .val (.int (2 : Int32)), .val (.int p1)]) rfl k) ?_
  show Run p e below s 0 0 (Q_rm3_2 Z p1 p2 h0 n0) (s₁.setTop (mkF m 11 #[.val (.int p1), .val (.int p2), .val (.int (2 : Int32)), .val (.int p1)] []))
  refine Run.go (fun _ k => XS.iloadN X0.here hx rfl (hb hby d3_11) rfl  k) ?_
  show Run p e below s 0 0 (Q_rm3_2 Z p1 p2 h0 n0) (s₁.setTop (mkF m 12 #[.val (.int p1), .val (.int p2), .val (.int (2 : Int32)), .val (.int p1)] [(.int p1)]))
  refine Run.go (fun _ k => XS.bipush X0.here hx rfl (hb hby d3_12) k) ?_
  show Run p e below s 0 0 (Q_rm3_2 Z p1 p2 h0 n0) (s₁.setTop (mkF m 14 #[.val (.int p1), .val (.int p2), .val (.int (2 : Int32)), .val (.int p1)] [(.int (8 : Int32)), (.int p1)]))
  refine Run.go (fun _ k => XS.iloadN X0.here hx rfl (hb hby d3_14) rfl  k) ?_
  show Run p e below s 0 0 (Q_rm3_2 Z p1 p2 h0 n0) (s₁.setTop (mkF m 15 #[.val (.int p1), .val (.int p2), .val (.int (2 : Int32)), .val (.int p1)] [(.int (2 : Int32)), (.int (8 : Int32)), (.int p1)]))
  refine Run.go (fun _ k => XS.iconst X0.here hx rfl (hb hby d3_15) k) ?_
  show Run p e below s 0 0 (Q_rm3_2 Z p1 p2 h0 n0) (s₁.setTop (mkF m 16 #[.val (.int p1), .val (.int p2), .val (.int (2 : Int32)), .val (.int p1)] [(.int (3 : Int32)), (.int (2 : Int32)), (.int (8 : Int32)), (.int p1)]))
  refine Run.go (fun _ k => XS.iand X0.here hx rfl (hb hby d3_16) rfl k) ?_
  show Run p e below s 0 0 (Q_rm3_2 Z p1 p2 h0 n0) (s₁.setTop (mkF m 17 #[.val (.int p1), .val (.int p2), .val (.int (2 : Int32)), .val (.int p1)] [(.int (2 : Int32)), (.int (8 : Int32)), (.int p1)]))
  refine Run.go (fun _ k => XS.imul X0.here hx rfl (hb hby d3_17) rfl k) ?_
  show Run p e below s 0 0 (Q_rm3_2 Z p1 p2 h0 n0) (s₁.setTop (mkF m 18 #[.val (.int p1), .val (.int p2), .val (.int (2 : Int32)), .val (.int p1)] [(.int (16 : Int32)), (.int p1)]))
  refine Run.go (fun _ k => XS.iushr X0.here hx rfl (hb hby d3_18) rfl k) ?_
  show Run p e below s 0 0 (Q_rm3_2 Z p1 p2 h0 n0) (s₁.setTop (mkF m 19 #[.val (.int p1), .val (.int p2), .val (.int (2 : Int32)), .val (.int p1)] [(.int ((p1.toUInt32 >>> ((16 : Int32) &&& 31).toUInt32).toInt32))]))
  refine Run.go (fun _ k => XS.i2b X0.here hx rfl (hb hby d3_19) rfl k) ?_
  show Run p e below s 0 0 (Q_rm3_2 Z p1 p2 h0 n0) (s₁.setTop (mkF m 20 #[.val (.int p1), .val (.int p2), .val (.int (2 : Int32)), .val (.int p1)] [(.int (((p1.toUInt32 >>> ((16 : Int32) &&& 31).toUInt32).toInt32).toInt8.toInt32))]))
  refine Run.retN (y := (((p1.toUInt32 >>> ((16 : Int32) &&& 31).toUInt32).toInt32).toInt8.toInt32)) X0 hx (t := .byte) Bd.returns (by simp) (b_idem _) Bd.notSynchronized (hb hby d3_20) (by decide) (by decide) ?_
  show Q_rm3_2 Z p1 p2 h0 n0 _ s₁.heap _
  exact ⟨congrArg some (congrArg Value.int (show (((p1.toUInt32 >>> ((16 : Int32) &&& 31).toUInt32).toInt32).toInt8.toInt32) = (F_rm3_2 p1) from (by unfold F_rm3_2; rfl))), N0, e0⟩
def F_rm1_2 (p1 : Int32) (p3 : Int32) : Int64 := (if ((2 : Int32) < p3) then (if ((((p1.toUInt32 >>> ((23 : Int32) &&& 31).toUInt32).toInt32) &&& (1 : Int32)) = (0 : Int32)) then (1 : Int64) else (0 : Int64)) else (0 : Int64))
def Q_rm1_2 (Z : State) (p1 : Int32) (p2 : Int32) (p3 : Int32) (h0 : Heap) (n0 : Nat) (v : Option Value) (h : Heap) (L : List Loc) : Prop := v = some (.long (F_rm1_2 p1 p3)) ∧ Fr n0 L ∧ h = h0
theorem ef_rm1_2 (m : MethodId) (x0 : Int32) (x1 : Int32) (x3 : Int32) : entryFrame m #[(.int x0), (.int x1), (.int (2 : Int32)), (.int x3)] 6 = mkF m 0 #[.val (.int x0), .val (.int x1), .val (.int (2 : Int32)), .val (.int x3), .unset, .unset] [] := by first | (simp [entryFrame, mkF, argsToLocals, Value.category]; done) | rfl
set_option maxRecDepth 65536 in
set_option maxHeartbeats 40000000 in
theorem rm1_2 (l : Launch) (Z : State) (a0 : Array Value) (hw : ∀ d ∈ tables_1, d.before a0 Z = true) (ws : List Jvm.Cond) (p1 : Int32) (p2 : Int32) (p3 : Int32) (h0 : Heap) (n0 : Nat) (Z0 : n0 ≤ h0.size)  :
    MetFree l (⟨"com/example/subjectory/subjectory/index/PostingsCountPinLaw", "term", "(IIII)J"⟩ : MethodName) (head1 (Jvm.Cond.code (⟨"com/example/subjectory/subjectory/index/PostingsCountPinLaw", "term", "(IIII)J"⟩ : MethodName) method_3_code 6 (some .long) :: ws) ({ frames := 0, cells := 0, slots := 0, locals := 0 } : Room)) (fun a U => a = #[(.int p1), (.int p2), (.int (2 : Int32)), (.int p3)] ∧ Z.Warmed39 U.vm ∧ U.heap = h0) (fun _ _ _ _ _ => True) (fun _ U o U' => ∃ v L, o = .returned v ∧ Q_rm1_2 Z p1 p2 p3 h0 n0 v U'.heap L ∧ FrameEnd U o U' L ({ frames := 0, cells := 0, slots := 0, locals := 0 } : Room).cells ({ frames := 0, cells := 0, slots := 0, locals := 0 } : Room).slots) := by
  refine MetFree.of_bodySF (plainFor_of_name pn_1) hisR ?_
  intro p e s m args below meth c s₁ Bd hml0 hP hK
  obtain ⟨rfl, hZ, hh⟩ := hP
  have hx := Bd.exec
  have hby := Bd.bytes
  have hml : c.maxLocals = 6 := hml0
  have hown : s.vm.findClass "com/example/subjectory/subjectory/index/PostingsCountPinLaw" = some m.cls := findClass_of_methodNamed Bd.named
  have hnm := (name_of_methodNamed Bd.named Bd.method).1
  have X0 : Stand p l e ({ frames := 0, cells := 0, slots := 0, locals := 0 } : Room) s m #[(.int p1), (.int p2), (.int (2 : Int32)), (.int p3)] below meth c s₁ [] 0 0 := Stand.of_body Bd
  have e0 : s₁.heap = h0 := by rw [← hh, Bd.state]; rfl
  have N0 := Fr.nil n0
  show Run p e below s 0 0 (Q_rm1_2 Z p1 p2 p3 h0 n0) (s₁.setTop (entryFrame m #[(.int p1), (.int p2), (.int (2 : Int32)), (.int p3)] 6))
  refine Run.go (fun _ k => castTop (ef_rm1_2 m p1 p2 p3) k) ?_
  show Run p e below s 0 0 (Q_rm1_2 Z p1 p2 p3 h0 n0) (s₁.setTop (mkF m 0 #[.val (.int p1), .val (.int p2), .val (.int (2 : Int32)), .val (.int p3), .unset, .unset] []))
  refine Run.go (fun _ k => XS.iloadN X0.here hx rfl (hb hby d1_0) rfl  k) ?_
  show Run p e below s 0 0 (Q_rm1_2 Z p1 p2 p3 h0 n0) (s₁.setTop (mkF m 1 #[.val (.int p1), .val (.int p2), .val (.int (2 : Int32)), .val (.int p3), .unset, .unset] [(.int (2 : Int32))]))
  refine Run.go (fun _ k => XS.iloadN X0.here hx rfl (hb hby d1_1) rfl  k) ?_
  show Run p e below s 0 0 (Q_rm1_2 Z p1 p2 p3 h0 n0) (s₁.setTop (mkF m 2 #[.val (.int p1), .val (.int p2), .val (.int (2 : Int32)), .val (.int p3), .unset, .unset] [(.int p3), (.int (2 : Int32))]))
  by_cases hc4 : ((2 : Int32) < p3)
  · refine Run.go (fun _ k => XS.icmpYes X0.here hx rfl (pc0 := 2) (pc' := 7) rfl (hb hby d1_2) rfl (tlt hc4).1 (by decide) (by decide) k) ?_
    show Run p e below s 0 0 (Q_rm1_2 Z p1 p2 p3 h0 n0) (s₁.setTop (mkF m 7 #[.val (.int p1), .val (.int p2), .val (.int (2 : Int32)), .val (.int p3), .unset, .unset] []))
    refine Run.go (fun _ k => XS.iloadN X0.here hx rfl (hb hby d1_7) rfl  k) ?_
    show Run p e below s 0 0 (Q_rm1_2 Z p1 p2 p3 h0 n0) (s₁.setTop (mkF m 8 #[.val (.int p1), .val (.int p2), .val (.int (2 : Int32)), .val (.int p3), .unset, .unset] [(.int (2 : Int32))]))
    refine Run.go (fun _ k => XS.iconst X0.here hx rfl (hb hby d1_8) k) ?_
    show Run p e below s 0 0 (Q_rm1_2 Z p1 p2 p3 h0 n0) (s₁.setTop (mkF m 9 #[.val (.int p1), .val (.int p2), .val (.int (2 : Int32)), .val (.int p3), .unset, .unset] [(.int (4 : Int32)), (.int (2 : Int32))]))
    refine Run.go (fun _ k => XS.icmpNo X0.here hx rfl (hb hby d1_9) rfl (tlt (by decide)).2.1 k) ?_
    show Run p e below s 0 0 (Q_rm1_2 Z p1 p2 p3 h0 n0) (s₁.setTop (mkF m 12 #[.val (.int p1), .val (.int p2), .val (.int (2 : Int32)), .val (.int p3), .unset, .unset] []))
    refine Run.go (fun _ k => XS.iloadN X0.here hx rfl (hb hby d1_12) rfl  k) ?_
    show Run p e below s 0 0 (Q_rm1_2 Z p1 p2 p3 h0 n0) (s₁.setTop (mkF m 13 #[.val (.int p1), .val (.int p2), .val (.int (2 : Int32)), .val (.int p3), .unset, .unset] [(.int p1)]))
    refine Run.go (fun _ k => XS.goto X0.here hx rfl (pc0 := 13) (pc' := 17) rfl (hb hby d1_13) (by decide) (by decide) k) ?_
    show Run p e below s 0 0 (Q_rm1_2 Z p1 p2 p3 h0 n0) (s₁.setTop (mkF m 17 #[.val (.int p1), .val (.int p2), .val (.int (2 : Int32)), .val (.int p3), .unset, .unset] [(.int p1)]))
    refine Run.go (fun _ k => XS.istore X0.here hx rfl (hb hby d1_17) rfl (l' := #[.val (.int p1), .val (.int p2), .val (.int (2 : Int32)), .val (.int p3), .val (.int p1), .unset]) rfl k) ?_
    show Run p e below s 0 0 (Q_rm1_2 Z p1 p2 p3 h0 n0) (s₁.setTop (mkF m 19 #[.val (.int p1), .val (.int p2), .val (.int (2 : Int32)), .val (.int p3), .val (.int p1), .unset] []))
    refine Run.go (fun _ k => XS.iload X0.here hx rfl (hb hby d1_19) rfl  k) ?_
    show Run p e below s 0 0 (Q_rm1_2 Z p1 p2 p3 h0 n0) (s₁.setTop (mkF m 21 #[.val (.int p1), .val (.int p2), .val (.int (2 : Int32)), .val (.int p3), .val (.int p1), .unset] [(.int p1)]))
    refine Run.go (fun _ k => XS.bipush X0.here hx rfl (hb hby d1_21) k) ?_
    show Run p e below s 0 0 (Q_rm1_2 Z p1 p2 p3 h0 n0) (s₁.setTop (mkF m 23 #[.val (.int p1), .val (.int p2), .val (.int (2 : Int32)), .val (.int p3), .val (.int p1), .unset] [(.int (8 : Int32)), (.int p1)]))
    refine Run.go (fun _ k => XS.iloadN X0.here hx rfl (hb hby d1_23) rfl  k) ?_
    show Run p e below s 0 0 (Q_rm1_2 Z p1 p2 p3 h0 n0) (s₁.setTop (mkF m 24 #[.val (.int p1), .val (.int p2), .val (.int (2 : Int32)), .val (.int p3), .val (.int p1), .unset] [(.int (2 : Int32)), (.int (8 : Int32)), (.int p1)]))
    refine Run.go (fun _ k => XS.iconst X0.here hx rfl (hb hby d1_24) k) ?_
    show Run p e below s 0 0 (Q_rm1_2 Z p1 p2 p3 h0 n0) (s₁.setTop (mkF m 25 #[.val (.int p1), .val (.int p2), .val (.int (2 : Int32)), .val (.int p3), .val (.int p1), .unset] [(.int (3 : Int32)), (.int (2 : Int32)), (.int (8 : Int32)), (.int p1)]))
    refine Run.go (fun _ k => XS.iand X0.here hx rfl (hb hby d1_25) rfl k) ?_
    show Run p e below s 0 0 (Q_rm1_2 Z p1 p2 p3 h0 n0) (s₁.setTop (mkF m 26 #[.val (.int p1), .val (.int p2), .val (.int (2 : Int32)), .val (.int p3), .val (.int p1), .unset] [(.int (2 : Int32)), (.int (8 : Int32)), (.int p1)]))
    refine Run.go (fun _ k => XS.imul X0.here hx rfl (hb hby d1_26) rfl k) ?_
    show Run p e below s 0 0 (Q_rm1_2 Z p1 p2 p3 h0 n0) (s₁.setTop (mkF m 27 #[.val (.int p1), .val (.int p2), .val (.int (2 : Int32)), .val (.int p3), .val (.int p1), .unset] [(.int (16 : Int32)), (.int p1)]))
    refine Run.go (fun _ k => XS.bipush X0.here hx rfl (hb hby d1_27) k) ?_
    show Run p e below s 0 0 (Q_rm1_2 Z p1 p2 p3 h0 n0) (s₁.setTop (mkF m 29 #[.val (.int p1), .val (.int p2), .val (.int (2 : Int32)), .val (.int p3), .val (.int p1), .unset] [(.int (7 : Int32)), (.int (16 : Int32)), (.int p1)]))
    refine Run.go (fun _ k => XS.iadd X0.here hx rfl (hb hby d1_29) rfl k) ?_
    show Run p e below s 0 0 (Q_rm1_2 Z p1 p2 p3 h0 n0) (s₁.setTop (mkF m 30 #[.val (.int p1), .val (.int p2), .val (.int (2 : Int32)), .val (.int p3), .val (.int p1), .unset] [(.int (23 : Int32)), (.int p1)]))
    refine Run.go (fun _ k => XS.iushr X0.here hx rfl (hb hby d1_30) rfl k) ?_
    show Run p e below s 0 0 (Q_rm1_2 Z p1 p2 p3 h0 n0) (s₁.setTop (mkF m 31 #[.val (.int p1), .val (.int p2), .val (.int (2 : Int32)), .val (.int p3), .val (.int p1), .unset] [(.int ((p1.toUInt32 >>> ((23 : Int32) &&& 31).toUInt32).toInt32))]))
    refine Run.go (fun _ k => XS.iconst X0.here hx rfl (hb hby d1_31) k) ?_
    show Run p e below s 0 0 (Q_rm1_2 Z p1 p2 p3 h0 n0) (s₁.setTop (mkF m 32 #[.val (.int p1), .val (.int p2), .val (.int (2 : Int32)), .val (.int p3), .val (.int p1), .unset] [(.int (1 : Int32)), (.int ((p1.toUInt32 >>> ((23 : Int32) &&& 31).toUInt32).toInt32))]))
    refine Run.go (fun _ k => XS.iand X0.here hx rfl (hb hby d1_32) rfl k) ?_
    show Run p e below s 0 0 (Q_rm1_2 Z p1 p2 p3 h0 n0) (s₁.setTop (mkF m 33 #[.val (.int p1), .val (.int p2), .val (.int (2 : Int32)), .val (.int p3), .val (.int p1), .unset] [(.int (((p1.toUInt32 >>> ((23 : Int32) &&& 31).toUInt32).toInt32) &&& (1 : Int32)))]))
    refine Run.go (fun _ k => XS.istore X0.here hx rfl (hb hby d1_33) rfl (l' := #[.val (.int p1), .val (.int p2), .val (.int (2 : Int32)), .val (.int p3), .val (.int p1), .val (.int (((p1.toUInt32 >>> ((23 : Int32) &&& 31).toUInt32).toInt32) &&& (1 : Int32)))]) rfl k) ?_
    show Run p e below s 0 0 (Q_rm1_2 Z p1 p2 p3 h0 n0) (s₁.setTop (mkF m 35 #[.val (.int p1), .val (.int p2), .val (.int (2 : Int32)), .val (.int p3), .val (.int p1), .val (.int (((p1.toUInt32 >>> ((23 : Int32) &&& 31).toUInt32).toInt32) &&& (1 : Int32)))] []))
    refine Run.go (fun _ k => XS.iload X0.here hx rfl (hb hby d1_35) rfl  k) ?_
    show Run p e below s 0 0 (Q_rm1_2 Z p1 p2 p3 h0 n0) (s₁.setTop (mkF m 37 #[.val (.int p1), .val (.int p2), .val (.int (2 : Int32)), .val (.int p3), .val (.int p1), .val (.int (((p1.toUInt32 >>> ((23 : Int32) &&& 31).toUInt32).toInt32) &&& (1 : Int32)))] [(.int (((p1.toUInt32 >>> ((23 : Int32) &&& 31).toUInt32).toInt32) &&& (1 : Int32)))]))
    have J5 : ∀ (w6 : Int64) (hw6 : w6 = (if ((((p1.toUInt32 >>> ((23 : Int32) &&& 31).toUInt32).toInt32) &&& (1 : Int32)) = (0 : Int32)) then (1 : Int64) else (0 : Int64))) (T7 : State) (L7 : List Loc) (X7 : Stand p l e ({ frames := 0, cells := 0, slots := 0, locals := 0 } : Room) s m #[(.int p1), (.int p2), (.int (2 : Int32)), (.int p3)] below meth c T7 L7 0 0) (e7 : T7.heap = h0) (N7 : Fr n0 L7), Run p e below s 0 0 (Q_rm1_2 Z p1 p2 p3 h0 n0) (T7.setTop (mkF m 45 #[.val (.int p1), .val (.int p2), .val (.int (2 : Int32)), .val (.int p3), .val (.int p1), .val (.int (((p1.toUInt32 >>> ((23 : Int32) &&& 31).toUInt32).toInt32) &&& (1 : Int32)))] [(.long w6)])) := by
      intro w6 hw6 T7 L7 X7 e7 N7
      show Run p e below s 0 0 (Q_rm1_2 Z p1 p2 p3 h0 n0) (T7.setTop (mkF m 45 #[.val (.int p1), .val (.int p2), .val (.int (2 : Int32)), .val (.int p3), .val (.int p1), .val (.int (((p1.toUInt32 >>> ((23 : Int32) &&& 31).toUInt32).toInt32) &&& (1 : Int32)))] [(.long w6)]))
      refine Run.retJ X7 hx Bd.returns Bd.notSynchronized (hb hby d1_45) (by decide) (by decide) ?_
      show Q_rm1_2 Z p1 p2 p3 h0 n0 _ T7.heap _
      exact ⟨congrArg some (congrArg Value.long (show w6 = (F_rm1_2 p1 p3) from (by subst hw6; unfold F_rm1_2; rw [if_pos hc4]))), N7, e7⟩
    by_cases hc8 : ((((p1.toUInt32 >>> ((23 : Int32) &&& 31).toUInt32).toInt32) &&& (1 : Int32)) = (0 : Int32))
    · refine Run.go (fun _ k => XS.ifNo X0.here hx rfl (hb hby d1_37) rfl ((if0 _ _).trans (teq hc8).2) k) ?_
      show Run p e below s 0 0 (Q_rm1_2 Z p1 p2 p3 h0 n0) (s₁.setTop (mkF m 40 #[.val (.int p1), .val (.int p2), .val (.int (2 : Int32)), .val (.int p3), .val (.int p1), .val (.int (((p1.toUInt32 >>> ((23 : Int32) &&& 31).toUInt32).toInt32) &&& (1 : Int32)))] []))
      refine Run.go (fun _ k => XS.lconst X0.here hx rfl (hb hby d1_40) k) ?_
      show Run p e below s 0 0 (Q_rm1_2 Z p1 p2 p3 h0 n0) (s₁.setTop (mkF m 41 #[.val (.int p1), .val (.int p2), .val (.int (2 : Int32)), .val (.int p3), .val (.int p1), .val (.int (((p1.toUInt32 >>> ((23 : Int32) &&& 31).toUInt32).toInt32) &&& (1 : Int32)))] [(.long (1 : Int64))]))
      refine Run.go (fun _ k => XS.goto X0.here hx rfl (pc0 := 41) (pc' := 45) rfl (hb hby d1_41) (by decide) (by decide) k) ?_
      show Run p e below s 0 0 (Q_rm1_2 Z p1 p2 p3 h0 n0) (s₁.setTop (mkF m 45 #[.val (.int p1), .val (.int p2), .val (.int (2 : Int32)), .val (.int p3), .val (.int p1), .val (.int (((p1.toUInt32 >>> ((23 : Int32) &&& 31).toUInt32).toInt32) &&& (1 : Int32)))] [(.long (1 : Int64))]))
      exact J5 _ (by rw [if_pos hc8]) _ _ X0 e0 N0
    · refine Run.go (fun _ k => XS.ifYes X0.here hx rfl (pc0 := 37) (pc' := 44) rfl (hb hby d1_37) rfl ((if0 _ _).trans (feq hc8).2) (by decide) (by decide) k) ?_
      show Run p e below s 0 0 (Q_rm1_2 Z p1 p2 p3 h0 n0) (s₁.setTop (mkF m 44 #[.val (.int p1), .val (.int p2), .val (.int (2 : Int32)), .val (.int p3), .val (.int p1), .val (.int (((p1.toUInt32 >>> ((23 : Int32) &&& 31).toUInt32).toInt32) &&& (1 : Int32)))] []))
      refine Run.go (fun _ k => XS.lconst X0.here hx rfl (hb hby d1_44) k) ?_
      show Run p e below s 0 0 (Q_rm1_2 Z p1 p2 p3 h0 n0) (s₁.setTop (mkF m 45 #[.val (.int p1), .val (.int p2), .val (.int (2 : Int32)), .val (.int p3), .val (.int p1), .val (.int (((p1.toUInt32 >>> ((23 : Int32) &&& 31).toUInt32).toInt32) &&& (1 : Int32)))] [(.long (0 : Int64))]))
      exact J5 _ (by rw [if_neg hc8]) _ _ X0 e0 N0
  · refine Run.go (fun _ k => XS.icmpNo X0.here hx rfl (hb hby d1_2) rfl (flt hc4).1 k) ?_
    show Run p e below s 0 0 (Q_rm1_2 Z p1 p2 p3 h0 n0) (s₁.setTop (mkF m 5 #[.val (.int p1), .val (.int p2), .val (.int (2 : Int32)), .val (.int p3), .unset, .unset] []))
    refine Run.go (fun _ k => XS.lconst X0.here hx rfl (hb hby d1_5) k) ?_
    show Run p e below s 0 0 (Q_rm1_2 Z p1 p2 p3 h0 n0) (s₁.setTop (mkF m 6 #[.val (.int p1), .val (.int p2), .val (.int (2 : Int32)), .val (.int p3), .unset, .unset] [(.long (0 : Int64))]))
    refine Run.retJ X0 hx Bd.returns Bd.notSynchronized (hb hby d1_6) (by decide) (by decide) ?_
    show Q_rm1_2 Z p1 p2 p3 h0 n0 _ s₁.heap _
    exact ⟨congrArg some (congrArg Value.long (show (0 : Int64) = (F_rm1_2 p1 p3) from (by unfold F_rm1_2; rw [if_neg hc4]))), N0, e0⟩
def F_rm3_3 (p1 : Int32) : Int32 := (((p1.toUInt32 >>> ((24 : Int32) &&& 31).toUInt32).toInt32).toInt8.toInt32)
def Q_rm3_3 (Z : State) (p1 : Int32) (p2 : Int32) (h0 : Heap) (n0 : Nat) (v : Option Value) (h : Heap) (L : List Loc) : Prop := v = some (.int (F_rm3_3 p1)) ∧ Fr n0 L ∧ h = h0
theorem ef_rm3_3 (m : MethodId) (x0 : Int32) (x1 : Int32) : entryFrame m #[(.int x0), (.int x1), (.int (3 : Int32))] 4 = mkF m 0 #[.val (.int x0), .val (.int x1), .val (.int (3 : Int32)), .unset] [] := by first | (simp [entryFrame, mkF, argsToLocals, Value.category]; done) | rfl
set_option maxRecDepth 65536 in
set_option maxHeartbeats 40000000 in
theorem rm3_3 (l : Launch) (Z : State) (a0 : Array Value) (hw : ∀ d ∈ tables_1, d.before a0 Z = true) (ws : List Jvm.Cond) (p1 : Int32) (p2 : Int32) (h0 : Heap) (n0 : Nat) (Z0 : n0 ≤ h0.size)  :
    MetFree l (⟨"com/example/subjectory/subjectory/index/PostingsCountPinLaw", "pick", "(III)B"⟩ : MethodName) (head1 (Jvm.Cond.code (⟨"com/example/subjectory/subjectory/index/PostingsCountPinLaw", "pick", "(III)B"⟩ : MethodName) method_2_code 4 (some .byte) :: ws) ({ frames := 0, cells := 0, slots := 0, locals := 0 } : Room)) (fun a U => a = #[(.int p1), (.int p2), (.int (3 : Int32))] ∧ Z.Warmed39 U.vm ∧ U.heap = h0) (fun _ _ _ _ _ => True) (fun _ U o U' => ∃ v L, o = .returned v ∧ Q_rm3_3 Z p1 p2 h0 n0 v U'.heap L ∧ FrameEnd U o U' L ({ frames := 0, cells := 0, slots := 0, locals := 0 } : Room).cells ({ frames := 0, cells := 0, slots := 0, locals := 0 } : Room).slots) := by
  refine MetFree.of_bodySF (plainFor_of_name pn_1) hisR ?_
  intro p e s m args below meth c s₁ Bd hml0 hP hK
  obtain ⟨rfl, hZ, hh⟩ := hP
  have hx := Bd.exec
  have hby := Bd.bytes
  have hml : c.maxLocals = 4 := hml0
  have hown : s.vm.findClass "com/example/subjectory/subjectory/index/PostingsCountPinLaw" = some m.cls := findClass_of_methodNamed Bd.named
  have hnm := (name_of_methodNamed Bd.named Bd.method).1
  have X0 : Stand p l e ({ frames := 0, cells := 0, slots := 0, locals := 0 } : Room) s m #[(.int p1), (.int p2), (.int (3 : Int32))] below meth c s₁ [] 0 0 := Stand.of_body Bd
  have e0 : s₁.heap = h0 := by rw [← hh, Bd.state]; rfl
  have N0 := Fr.nil n0
  show Run p e below s 0 0 (Q_rm3_3 Z p1 p2 h0 n0) (s₁.setTop (entryFrame m #[(.int p1), (.int p2), (.int (3 : Int32))] 4))
  refine Run.go (fun _ k => castTop (ef_rm3_3 m p1 p2) k) ?_
  show Run p e below s 0 0 (Q_rm3_3 Z p1 p2 h0 n0) (s₁.setTop (mkF m 0 #[.val (.int p1), .val (.int p2), .val (.int (3 : Int32)), .unset] []))
  refine Run.go (fun _ k => XS.iloadN X0.here hx rfl (hb hby d3_0) rfl  k) ?_
  show Run p e below s 0 0 (Q_rm3_3 Z p1 p2 h0 n0) (s₁.setTop (mkF m 1 #[.val (.int p1), .val (.int p2), .val (.int (3 : Int32)), .unset] [(.int (3 : Int32))]))
  refine Run.go (fun _ k => XS.iconst X0.here hx rfl (hb hby d3_1) k) ?_
  show Run p e below s 0 0 (Q_rm3_3 Z p1 p2 h0 n0) (s₁.setTop (mkF m 2 #[.val (.int p1), .val (.int p2), .val (.int (3 : Int32)), .unset] [(.int (4 : Int32)), (.int (3 : Int32))]))
  refine Run.go (fun _ k => XS.icmpNo X0.here hx rfl (hb hby d3_2) rfl (tlt (by decide)).2.1 k) ?_
  show Run p e below s 0 0 (Q_rm3_3 Z p1 p2 h0 n0) (s₁.setTop (mkF m 5 #[.val (.int p1), .val (.int p2), .val (.int (3 : Int32)), .unset] []))
  refine Run.go (fun _ k => XS.iloadN X0.here hx rfl (hb hby d3_5) rfl  k) ?_
  show Run p e below s 0 0 (Q_rm3_3 Z p1 p2 h0 n0) (s₁.setTop (mkF m 6 #[.val (.int p1), .val (.int p2), .val (.int (3 : Int32)), .unset] [(.int p1)]))
  refine Run.go (fun _ k => XS.goto X0.here hx rfl (pc0 := 6) (pc' := 10) rfl (hb hby d3_6) (by decide) (by decide) k) ?_
  show Run p e below s 0 0 (Q_rm3_3 Z p1 p2 h0 n0) (s₁.setTop (mkF m 10 #[.val (.int p1), .val (.int p2), .val (.int (3 : Int32)), .unset] [(.int p1)]))
  refine Run.go (fun _ k => XS.istoreN X0.here hx rfl (hb hby d3_10) rfl (l' := #[.val (.int p1), .val (.int p2), .val (.int (3 : Int32)), .val (.int p1)]) rfl k) ?_
  show Run p e below s 0 0 (Q_rm3_3 Z p1 p2 h0 n0) (s₁.setTop (mkF m 11 #[.val (.int p1), .val (.int p2), .val (.int (3 : Int32)), .val (.int p1)] []))
  refine Run.go (fun _ k => XS.iloadN X0.here hx rfl (hb hby d3_11) rfl  k) ?_
  show Run p e below s 0 0 (Q_rm3_3 Z p1 p2 h0 n0) (s₁.setTop (mkF m 12 #[.val (.int p1), .val (.int p2), .val (.int (3 : Int32)), .val (.int p1)] [(.int p1)]))
  refine Run.go (fun _ k => XS.bipush X0.here hx rfl (hb hby d3_12) k) ?_
  show Run p e below s 0 0 (Q_rm3_3 Z p1 p2 h0 n0) (s₁.setTop (mkF m 14 #[.val (.int p1), .val (.int p2), .val (.int (3 : Int32)), .val (.int p1)] [(.int (8 : Int32)), (.int p1)]))
  refine Run.go (fun _ k => XS.iloadN X0.here hx rfl (hb hby d3_14) rfl  k) ?_
  show Run p e below s 0 0 (Q_rm3_3 Z p1 p2 h0 n0) (s₁.setTop (mkF m 15 #[.val (.int p1), .val (.int p2), .val (.int (3 : Int32)), .val (.int p1)] [(.int (3 : Int32)), (.int (8 : Int32)), (.int p1)]))
  refine Run.go (fun _ k => XS.iconst X0.here hx rfl (hb hby d3_15) k) ?_
  show Run p e below s 0 0 (Q_rm3_3 Z p1 p2 h0 n0) (s₁.setTop (mkF m 16 #[.val (.int p1), .val (.int p2), .val (.int (3 : Int32)), .val (.int p1)] [(.int (3 : Int32)), (.int (3 : Int32)), (.int (8 : Int32)), (.int p1)]))
  refine Run.go (fun _ k => XS.iand X0.here hx rfl (hb hby d3_16) rfl k) ?_
  show Run p e below s 0 0 (Q_rm3_3 Z p1 p2 h0 n0) (s₁.setTop (mkF m 17 #[.val (.int p1), .val (.int p2), .val (.int (3 : Int32)), .val (.int p1)] [(.int (3 : Int32)), (.int (8 : Int32)), (.int p1)]))
  refine Run.go (fun _ k => XS.imul X0.here hx rfl (hb hby d3_17) rfl k) ?_
  show Run p e below s 0 0 (Q_rm3_3 Z p1 p2 h0 n0) (s₁.setTop (mkF m 18 #[.val (.int p1), .val (.int p2), .val (.int (3 : Int32)), .val (.int p1)] [(.int (24 : Int32)), (.int p1)]))
  refine Run.go (fun _ k => XS.iushr X0.here hx rfl (hb hby d3_18) rfl k) ?_
  show Run p e below s 0 0 (Q_rm3_3 Z p1 p2 h0 n0) (s₁.setTop (mkF m 19 #[.val (.int p1), .val (.int p2), .val (.int (3 : Int32)), .val (.int p1)] [(.int ((p1.toUInt32 >>> ((24 : Int32) &&& 31).toUInt32).toInt32))]))
  refine Run.go (fun _ k => XS.i2b X0.here hx rfl (hb hby d3_19) rfl k) ?_
  show Run p e below s 0 0 (Q_rm3_3 Z p1 p2 h0 n0) (s₁.setTop (mkF m 20 #[.val (.int p1), .val (.int p2), .val (.int (3 : Int32)), .val (.int p1)] [(.int (((p1.toUInt32 >>> ((24 : Int32) &&& 31).toUInt32).toInt32).toInt8.toInt32))]))
  refine Run.retN (y := (((p1.toUInt32 >>> ((24 : Int32) &&& 31).toUInt32).toInt32).toInt8.toInt32)) X0 hx (t := .byte) Bd.returns (by simp) (b_idem _) Bd.notSynchronized (hb hby d3_20) (by decide) (by decide) ?_
  show Q_rm3_3 Z p1 p2 h0 n0 _ s₁.heap _
  exact ⟨congrArg some (congrArg Value.int (show (((p1.toUInt32 >>> ((24 : Int32) &&& 31).toUInt32).toInt32).toInt8.toInt32) = (F_rm3_3 p1) from (by unfold F_rm3_3; rfl))), N0, e0⟩
def F_rm1_3 (p1 : Int32) (p3 : Int32) : Int64 := (if ((3 : Int32) < p3) then (if ((((p1.toUInt32 >>> ((31 : Int32) &&& 31).toUInt32).toInt32) &&& (1 : Int32)) = (0 : Int32)) then (1 : Int64) else (0 : Int64)) else (0 : Int64))
def Q_rm1_3 (Z : State) (p1 : Int32) (p2 : Int32) (p3 : Int32) (h0 : Heap) (n0 : Nat) (v : Option Value) (h : Heap) (L : List Loc) : Prop := v = some (.long (F_rm1_3 p1 p3)) ∧ Fr n0 L ∧ h = h0
theorem ef_rm1_3 (m : MethodId) (x0 : Int32) (x1 : Int32) (x3 : Int32) : entryFrame m #[(.int x0), (.int x1), (.int (3 : Int32)), (.int x3)] 6 = mkF m 0 #[.val (.int x0), .val (.int x1), .val (.int (3 : Int32)), .val (.int x3), .unset, .unset] [] := by first | (simp [entryFrame, mkF, argsToLocals, Value.category]; done) | rfl
set_option maxRecDepth 65536 in
set_option maxHeartbeats 40000000 in
theorem rm1_3 (l : Launch) (Z : State) (a0 : Array Value) (hw : ∀ d ∈ tables_1, d.before a0 Z = true) (ws : List Jvm.Cond) (p1 : Int32) (p2 : Int32) (p3 : Int32) (h0 : Heap) (n0 : Nat) (Z0 : n0 ≤ h0.size)  :
    MetFree l (⟨"com/example/subjectory/subjectory/index/PostingsCountPinLaw", "term", "(IIII)J"⟩ : MethodName) (head1 (Jvm.Cond.code (⟨"com/example/subjectory/subjectory/index/PostingsCountPinLaw", "term", "(IIII)J"⟩ : MethodName) method_3_code 6 (some .long) :: ws) ({ frames := 0, cells := 0, slots := 0, locals := 0 } : Room)) (fun a U => a = #[(.int p1), (.int p2), (.int (3 : Int32)), (.int p3)] ∧ Z.Warmed39 U.vm ∧ U.heap = h0) (fun _ _ _ _ _ => True) (fun _ U o U' => ∃ v L, o = .returned v ∧ Q_rm1_3 Z p1 p2 p3 h0 n0 v U'.heap L ∧ FrameEnd U o U' L ({ frames := 0, cells := 0, slots := 0, locals := 0 } : Room).cells ({ frames := 0, cells := 0, slots := 0, locals := 0 } : Room).slots) := by
  refine MetFree.of_bodySF (plainFor_of_name pn_1) hisR ?_
  intro p e s m args below meth c s₁ Bd hml0 hP hK
  obtain ⟨rfl, hZ, hh⟩ := hP
  have hx := Bd.exec
  have hby := Bd.bytes
  have hml : c.maxLocals = 6 := hml0
  have hown : s.vm.findClass "com/example/subjectory/subjectory/index/PostingsCountPinLaw" = some m.cls := findClass_of_methodNamed Bd.named
  have hnm := (name_of_methodNamed Bd.named Bd.method).1
  have X0 : Stand p l e ({ frames := 0, cells := 0, slots := 0, locals := 0 } : Room) s m #[(.int p1), (.int p2), (.int (3 : Int32)), (.int p3)] below meth c s₁ [] 0 0 := Stand.of_body Bd
  have e0 : s₁.heap = h0 := by rw [← hh, Bd.state]; rfl
  have N0 := Fr.nil n0
  show Run p e below s 0 0 (Q_rm1_3 Z p1 p2 p3 h0 n0) (s₁.setTop (entryFrame m #[(.int p1), (.int p2), (.int (3 : Int32)), (.int p3)] 6))
  refine Run.go (fun _ k => castTop (ef_rm1_3 m p1 p2 p3) k) ?_
  show Run p e below s 0 0 (Q_rm1_3 Z p1 p2 p3 h0 n0) (s₁.setTop (mkF m 0 #[.val (.int p1), .val (.int p2), .val (.int (3 : Int32)), .val (.int p3), .unset, .unset] []))
  refine Run.go (fun _ k => XS.iloadN X0.here hx rfl (hb hby d1_0) rfl  k) ?_
  show Run p e below s 0 0 (Q_rm1_3 Z p1 p2 p3 h0 n0) (s₁.setTop (mkF m 1 #[.val (.int p1), .val (.int p2), .val (.int (3 : Int32)), .val (.int p3), .unset, .unset] [(.int (3 : Int32))]))
  refine Run.go (fun _ k => XS.iloadN X0.here hx rfl (hb hby d1_1) rfl  k) ?_
  show Run p e below s 0 0 (Q_rm1_3 Z p1 p2 p3 h0 n0) (s₁.setTop (mkF m 2 #[.val (.int p1), .val (.int p2), .val (.int (3 : Int32)), .val (.int p3), .unset, .unset] [(.int p3), (.int (3 : Int32))]))
  by_cases hc4 : ((3 : Int32) < p3)
  · refine Run.go (fun _ k => XS.icmpYes X0.here hx rfl (pc0 := 2) (pc' := 7) rfl (hb hby d1_2) rfl (tlt hc4).1 (by decide) (by decide) k) ?_
    show Run p e below s 0 0 (Q_rm1_3 Z p1 p2 p3 h0 n0) (s₁.setTop (mkF m 7 #[.val (.int p1), .val (.int p2), .val (.int (3 : Int32)), .val (.int p3), .unset, .unset] []))
    refine Run.go (fun _ k => XS.iloadN X0.here hx rfl (hb hby d1_7) rfl  k) ?_
    show Run p e below s 0 0 (Q_rm1_3 Z p1 p2 p3 h0 n0) (s₁.setTop (mkF m 8 #[.val (.int p1), .val (.int p2), .val (.int (3 : Int32)), .val (.int p3), .unset, .unset] [(.int (3 : Int32))]))
    refine Run.go (fun _ k => XS.iconst X0.here hx rfl (hb hby d1_8) k) ?_
    show Run p e below s 0 0 (Q_rm1_3 Z p1 p2 p3 h0 n0) (s₁.setTop (mkF m 9 #[.val (.int p1), .val (.int p2), .val (.int (3 : Int32)), .val (.int p3), .unset, .unset] [(.int (4 : Int32)), (.int (3 : Int32))]))
    refine Run.go (fun _ k => XS.icmpNo X0.here hx rfl (hb hby d1_9) rfl (tlt (by decide)).2.1 k) ?_
    show Run p e below s 0 0 (Q_rm1_3 Z p1 p2 p3 h0 n0) (s₁.setTop (mkF m 12 #[.val (.int p1), .val (.int p2), .val (.int (3 : Int32)), .val (.int p3), .unset, .unset] []))
    refine Run.go (fun _ k => XS.iloadN X0.here hx rfl (hb hby d1_12) rfl  k) ?_
    show Run p e below s 0 0 (Q_rm1_3 Z p1 p2 p3 h0 n0) (s₁.setTop (mkF m 13 #[.val (.int p1), .val (.int p2), .val (.int (3 : Int32)), .val (.int p3), .unset, .unset] [(.int p1)]))
    refine Run.go (fun _ k => XS.goto X0.here hx rfl (pc0 := 13) (pc' := 17) rfl (hb hby d1_13) (by decide) (by decide) k) ?_
    show Run p e below s 0 0 (Q_rm1_3 Z p1 p2 p3 h0 n0) (s₁.setTop (mkF m 17 #[.val (.int p1), .val (.int p2), .val (.int (3 : Int32)), .val (.int p3), .unset, .unset] [(.int p1)]))
    refine Run.go (fun _ k => XS.istore X0.here hx rfl (hb hby d1_17) rfl (l' := #[.val (.int p1), .val (.int p2), .val (.int (3 : Int32)), .val (.int p3), .val (.int p1), .unset]) rfl k) ?_
    show Run p e below s 0 0 (Q_rm1_3 Z p1 p2 p3 h0 n0) (s₁.setTop (mkF m 19 #[.val (.int p1), .val (.int p2), .val (.int (3 : Int32)), .val (.int p3), .val (.int p1), .unset] []))
    refine Run.go (fun _ k => XS.iload X0.here hx rfl (hb hby d1_19) rfl  k) ?_
    show Run p e below s 0 0 (Q_rm1_3 Z p1 p2 p3 h0 n0) (s₁.setTop (mkF m 21 #[.val (.int p1), .val (.int p2), .val (.int (3 : Int32)), .val (.int p3), .val (.int p1), .unset] [(.int p1)]))
    refine Run.go (fun _ k => XS.bipush X0.here hx rfl (hb hby d1_21) k) ?_
    show Run p e below s 0 0 (Q_rm1_3 Z p1 p2 p3 h0 n0) (s₁.setTop (mkF m 23 #[.val (.int p1), .val (.int p2), .val (.int (3 : Int32)), .val (.int p3), .val (.int p1), .unset] [(.int (8 : Int32)), (.int p1)]))
    refine Run.go (fun _ k => XS.iloadN X0.here hx rfl (hb hby d1_23) rfl  k) ?_
    show Run p e below s 0 0 (Q_rm1_3 Z p1 p2 p3 h0 n0) (s₁.setTop (mkF m 24 #[.val (.int p1), .val (.int p2), .val (.int (3 : Int32)), .val (.int p3), .val (.int p1), .unset] [(.int (3 : Int32)), (.int (8 : Int32)), (.int p1)]))
    refine Run.go (fun _ k => XS.iconst X0.here hx rfl (hb hby d1_24) k) ?_
    show Run p e below s 0 0 (Q_rm1_3 Z p1 p2 p3 h0 n0) (s₁.setTop (mkF m 25 #[.val (.int p1), .val (.int p2), .val (.int (3 : Int32)), .val (.int p3), .val (.int p1), .unset] [(.int (3 : Int32)), (.int (3 : Int32)), (.int (8 : Int32)), (.int p1)]))
    refine Run.go (fun _ k => XS.iand X0.here hx rfl (hb hby d1_25) rfl k) ?_
    show Run p e below s 0 0 (Q_rm1_3 Z p1 p2 p3 h0 n0) (s₁.setTop (mkF m 26 #[.val (.int p1), .val (.int p2), .val (.int (3 : Int32)), .val (.int p3), .val (.int p1), .unset] [(.int (3 : Int32)), (.int (8 : Int32)), (.int p1)]))
    refine Run.go (fun _ k => XS.imul X0.here hx rfl (hb hby d1_26) rfl k) ?_
    show Run p e below s 0 0 (Q_rm1_3 Z p1 p2 p3 h0 n0) (s₁.setTop (mkF m 27 #[.val (.int p1), .val (.int p2), .val (.int (3 : Int32)), .val (.int p3), .val (.int p1), .unset] [(.int (24 : Int32)), (.int p1)]))
    refine Run.go (fun _ k => XS.bipush X0.here hx rfl (hb hby d1_27) k) ?_
    show Run p e below s 0 0 (Q_rm1_3 Z p1 p2 p3 h0 n0) (s₁.setTop (mkF m 29 #[.val (.int p1), .val (.int p2), .val (.int (3 : Int32)), .val (.int p3), .val (.int p1), .unset] [(.int (7 : Int32)), (.int (24 : Int32)), (.int p1)]))
    refine Run.go (fun _ k => XS.iadd X0.here hx rfl (hb hby d1_29) rfl k) ?_
    show Run p e below s 0 0 (Q_rm1_3 Z p1 p2 p3 h0 n0) (s₁.setTop (mkF m 30 #[.val (.int p1), .val (.int p2), .val (.int (3 : Int32)), .val (.int p3), .val (.int p1), .unset] [(.int (31 : Int32)), (.int p1)]))
    refine Run.go (fun _ k => XS.iushr X0.here hx rfl (hb hby d1_30) rfl k) ?_
    show Run p e below s 0 0 (Q_rm1_3 Z p1 p2 p3 h0 n0) (s₁.setTop (mkF m 31 #[.val (.int p1), .val (.int p2), .val (.int (3 : Int32)), .val (.int p3), .val (.int p1), .unset] [(.int ((p1.toUInt32 >>> ((31 : Int32) &&& 31).toUInt32).toInt32))]))
    refine Run.go (fun _ k => XS.iconst X0.here hx rfl (hb hby d1_31) k) ?_
    show Run p e below s 0 0 (Q_rm1_3 Z p1 p2 p3 h0 n0) (s₁.setTop (mkF m 32 #[.val (.int p1), .val (.int p2), .val (.int (3 : Int32)), .val (.int p3), .val (.int p1), .unset] [(.int (1 : Int32)), (.int ((p1.toUInt32 >>> ((31 : Int32) &&& 31).toUInt32).toInt32))]))
    refine Run.go (fun _ k => XS.iand X0.here hx rfl (hb hby d1_32) rfl k) ?_
    show Run p e below s 0 0 (Q_rm1_3 Z p1 p2 p3 h0 n0) (s₁.setTop (mkF m 33 #[.val (.int p1), .val (.int p2), .val (.int (3 : Int32)), .val (.int p3), .val (.int p1), .unset] [(.int (((p1.toUInt32 >>> ((31 : Int32) &&& 31).toUInt32).toInt32) &&& (1 : Int32)))]))
    refine Run.go (fun _ k => XS.istore X0.here hx rfl (hb hby d1_33) rfl (l' := #[.val (.int p1), .val (.int p2), .val (.int (3 : Int32)), .val (.int p3), .val (.int p1), .val (.int (((p1.toUInt32 >>> ((31 : Int32) &&& 31).toUInt32).toInt32) &&& (1 : Int32)))]) rfl k) ?_
    show Run p e below s 0 0 (Q_rm1_3 Z p1 p2 p3 h0 n0) (s₁.setTop (mkF m 35 #[.val (.int p1), .val (.int p2), .val (.int (3 : Int32)), .val (.int p3), .val (.int p1), .val (.int (((p1.toUInt32 >>> ((31 : Int32) &&& 31).toUInt32).toInt32) &&& (1 : Int32)))] []))
    refine Run.go (fun _ k => XS.iload X0.here hx rfl (hb hby d1_35) rfl  k) ?_
    show Run p e below s 0 0 (Q_rm1_3 Z p1 p2 p3 h0 n0) (s₁.setTop (mkF m 37 #[.val (.int p1), .val (.int p2), .val (.int (3 : Int32)), .val (.int p3), .val (.int p1), .val (.int (((p1.toUInt32 >>> ((31 : Int32) &&& 31).toUInt32).toInt32) &&& (1 : Int32)))] [(.int (((p1.toUInt32 >>> ((31 : Int32) &&& 31).toUInt32).toInt32) &&& (1 : Int32)))]))
    have J5 : ∀ (w6 : Int64) (hw6 : w6 = (if ((((p1.toUInt32 >>> ((31 : Int32) &&& 31).toUInt32).toInt32) &&& (1 : Int32)) = (0 : Int32)) then (1 : Int64) else (0 : Int64))) (T7 : State) (L7 : List Loc) (X7 : Stand p l e ({ frames := 0, cells := 0, slots := 0, locals := 0 } : Room) s m #[(.int p1), (.int p2), (.int (3 : Int32)), (.int p3)] below meth c T7 L7 0 0) (e7 : T7.heap = h0) (N7 : Fr n0 L7), Run p e below s 0 0 (Q_rm1_3 Z p1 p2 p3 h0 n0) (T7.setTop (mkF m 45 #[.val (.int p1), .val (.int p2), .val (.int (3 : Int32)), .val (.int p3), .val (.int p1), .val (.int (((p1.toUInt32 >>> ((31 : Int32) &&& 31).toUInt32).toInt32) &&& (1 : Int32)))] [(.long w6)])) := by
      intro w6 hw6 T7 L7 X7 e7 N7
      show Run p e below s 0 0 (Q_rm1_3 Z p1 p2 p3 h0 n0) (T7.setTop (mkF m 45 #[.val (.int p1), .val (.int p2), .val (.int (3 : Int32)), .val (.int p3), .val (.int p1), .val (.int (((p1.toUInt32 >>> ((31 : Int32) &&& 31).toUInt32).toInt32) &&& (1 : Int32)))] [(.long w6)]))
      refine Run.retJ X7 hx Bd.returns Bd.notSynchronized (hb hby d1_45) (by decide) (by decide) ?_
      show Q_rm1_3 Z p1 p2 p3 h0 n0 _ T7.heap _
      exact ⟨congrArg some (congrArg Value.long (show w6 = (F_rm1_3 p1 p3) from (by subst hw6; unfold F_rm1_3; rw [if_pos hc4]))), N7, e7⟩
    by_cases hc8 : ((((p1.toUInt32 >>> ((31 : Int32) &&& 31).toUInt32).toInt32) &&& (1 : Int32)) = (0 : Int32))
    · refine Run.go (fun _ k => XS.ifNo X0.here hx rfl (hb hby d1_37) rfl ((if0 _ _).trans (teq hc8).2) k) ?_
      show Run p e below s 0 0 (Q_rm1_3 Z p1 p2 p3 h0 n0) (s₁.setTop (mkF m 40 #[.val (.int p1), .val (.int p2), .val (.int (3 : Int32)), .val (.int p3), .val (.int p1), .val (.int (((p1.toUInt32 >>> ((31 : Int32) &&& 31).toUInt32).toInt32) &&& (1 : Int32)))] []))
      refine Run.go (fun _ k => XS.lconst X0.here hx rfl (hb hby d1_40) k) ?_
      show Run p e below s 0 0 (Q_rm1_3 Z p1 p2 p3 h0 n0) (s₁.setTop (mkF m 41 #[.val (.int p1), .val (.int p2), .val (.int (3 : Int32)), .val (.int p3), .val (.int p1), .val (.int (((p1.toUInt32 >>> ((31 : Int32) &&& 31).toUInt32).toInt32) &&& (1 : Int32)))] [(.long (1 : Int64))]))
      refine Run.go (fun _ k => XS.goto X0.here hx rfl (pc0 := 41) (pc' := 45) rfl (hb hby d1_41) (by decide) (by decide) k) ?_
      show Run p e below s 0 0 (Q_rm1_3 Z p1 p2 p3 h0 n0) (s₁.setTop (mkF m 45 #[.val (.int p1), .val (.int p2), .val (.int (3 : Int32)), .val (.int p3), .val (.int p1), .val (.int (((p1.toUInt32 >>> ((31 : Int32) &&& 31).toUInt32).toInt32) &&& (1 : Int32)))] [(.long (1 : Int64))]))
      exact J5 _ (by rw [if_pos hc8]) _ _ X0 e0 N0
    · refine Run.go (fun _ k => XS.ifYes X0.here hx rfl (pc0 := 37) (pc' := 44) rfl (hb hby d1_37) rfl ((if0 _ _).trans (feq hc8).2) (by decide) (by decide) k) ?_
      show Run p e below s 0 0 (Q_rm1_3 Z p1 p2 p3 h0 n0) (s₁.setTop (mkF m 44 #[.val (.int p1), .val (.int p2), .val (.int (3 : Int32)), .val (.int p3), .val (.int p1), .val (.int (((p1.toUInt32 >>> ((31 : Int32) &&& 31).toUInt32).toInt32) &&& (1 : Int32)))] []))
      refine Run.go (fun _ k => XS.lconst X0.here hx rfl (hb hby d1_44) k) ?_
      show Run p e below s 0 0 (Q_rm1_3 Z p1 p2 p3 h0 n0) (s₁.setTop (mkF m 45 #[.val (.int p1), .val (.int p2), .val (.int (3 : Int32)), .val (.int p3), .val (.int p1), .val (.int (((p1.toUInt32 >>> ((31 : Int32) &&& 31).toUInt32).toInt32) &&& (1 : Int32)))] [(.long (0 : Int64))]))
      exact J5 _ (by rw [if_neg hc8]) _ _ X0 e0 N0
  · refine Run.go (fun _ k => XS.icmpNo X0.here hx rfl (hb hby d1_2) rfl (flt hc4).1 k) ?_
    show Run p e below s 0 0 (Q_rm1_3 Z p1 p2 p3 h0 n0) (s₁.setTop (mkF m 5 #[.val (.int p1), .val (.int p2), .val (.int (3 : Int32)), .val (.int p3), .unset, .unset] []))
    refine Run.go (fun _ k => XS.lconst X0.here hx rfl (hb hby d1_5) k) ?_
    show Run p e below s 0 0 (Q_rm1_3 Z p1 p2 p3 h0 n0) (s₁.setTop (mkF m 6 #[.val (.int p1), .val (.int p2), .val (.int (3 : Int32)), .val (.int p3), .unset, .unset] [(.long (0 : Int64))]))
    refine Run.retJ X0 hx Bd.returns Bd.notSynchronized (hb hby d1_6) (by decide) (by decide) ?_
    show Q_rm1_3 Z p1 p2 p3 h0 n0 _ s₁.heap _
    exact ⟨congrArg some (congrArg Value.long (show (0 : Int64) = (F_rm1_3 p1 p3) from (by unfold F_rm1_3; rw [if_neg hc4]))), N0, e0⟩
theorem d3_9 : decode method_2_code 9 = .ok (.iload_n 1, 1) := by decide +kernel
def F_rm3_4 (p2 : Int32) : Int32 := (((p2.toUInt32 >>> ((0 : Int32) &&& 31).toUInt32).toInt32).toInt8.toInt32)
def Q_rm3_4 (Z : State) (p1 : Int32) (p2 : Int32) (h0 : Heap) (n0 : Nat) (v : Option Value) (h : Heap) (L : List Loc) : Prop := v = some (.int (F_rm3_4 p2)) ∧ Fr n0 L ∧ h = h0
theorem ef_rm3_4 (m : MethodId) (x0 : Int32) (x1 : Int32) : entryFrame m #[(.int x0), (.int x1), (.int (4 : Int32))] 4 = mkF m 0 #[.val (.int x0), .val (.int x1), .val (.int (4 : Int32)), .unset] [] := by first | (simp [entryFrame, mkF, argsToLocals, Value.category]; done) | rfl
set_option maxRecDepth 65536 in
set_option maxHeartbeats 40000000 in
theorem rm3_4 (l : Launch) (Z : State) (a0 : Array Value) (hw : ∀ d ∈ tables_1, d.before a0 Z = true) (ws : List Jvm.Cond) (p1 : Int32) (p2 : Int32) (h0 : Heap) (n0 : Nat) (Z0 : n0 ≤ h0.size)  :
    MetFree l (⟨"com/example/subjectory/subjectory/index/PostingsCountPinLaw", "pick", "(III)B"⟩ : MethodName) (head1 (Jvm.Cond.code (⟨"com/example/subjectory/subjectory/index/PostingsCountPinLaw", "pick", "(III)B"⟩ : MethodName) method_2_code 4 (some .byte) :: ws) ({ frames := 0, cells := 0, slots := 0, locals := 0 } : Room)) (fun a U => a = #[(.int p1), (.int p2), (.int (4 : Int32))] ∧ Z.Warmed39 U.vm ∧ U.heap = h0) (fun _ _ _ _ _ => True) (fun _ U o U' => ∃ v L, o = .returned v ∧ Q_rm3_4 Z p1 p2 h0 n0 v U'.heap L ∧ FrameEnd U o U' L ({ frames := 0, cells := 0, slots := 0, locals := 0 } : Room).cells ({ frames := 0, cells := 0, slots := 0, locals := 0 } : Room).slots) := by
  refine MetFree.of_bodySF (plainFor_of_name pn_1) hisR ?_
  intro p e s m args below meth c s₁ Bd hml0 hP hK
  obtain ⟨rfl, hZ, hh⟩ := hP
  have hx := Bd.exec
  have hby := Bd.bytes
  have hml : c.maxLocals = 4 := hml0
  have hown : s.vm.findClass "com/example/subjectory/subjectory/index/PostingsCountPinLaw" = some m.cls := findClass_of_methodNamed Bd.named
  have hnm := (name_of_methodNamed Bd.named Bd.method).1
  have X0 : Stand p l e ({ frames := 0, cells := 0, slots := 0, locals := 0 } : Room) s m #[(.int p1), (.int p2), (.int (4 : Int32))] below meth c s₁ [] 0 0 := Stand.of_body Bd
  have e0 : s₁.heap = h0 := by rw [← hh, Bd.state]; rfl
  have N0 := Fr.nil n0
  show Run p e below s 0 0 (Q_rm3_4 Z p1 p2 h0 n0) (s₁.setTop (entryFrame m #[(.int p1), (.int p2), (.int (4 : Int32))] 4))
  refine Run.go (fun _ k => castTop (ef_rm3_4 m p1 p2) k) ?_
  show Run p e below s 0 0 (Q_rm3_4 Z p1 p2 h0 n0) (s₁.setTop (mkF m 0 #[.val (.int p1), .val (.int p2), .val (.int (4 : Int32)), .unset] []))
  refine Run.go (fun _ k => XS.iloadN X0.here hx rfl (hb hby d3_0) rfl  k) ?_
  show Run p e below s 0 0 (Q_rm3_4 Z p1 p2 h0 n0) (s₁.setTop (mkF m 1 #[.val (.int p1), .val (.int p2), .val (.int (4 : Int32)), .unset] [(.int (4 : Int32))]))
  refine Run.go (fun _ k => XS.iconst X0.here hx rfl (hb hby d3_1) k) ?_
  show Run p e below s 0 0 (Q_rm3_4 Z p1 p2 h0 n0) (s₁.setTop (mkF m 2 #[.val (.int p1), .val (.int p2), .val (.int (4 : Int32)), .unset] [(.int (4 : Int32)), (.int (4 : Int32))]))
  refine Run.go (fun _ k => XS.icmpYes X0.here hx rfl (pc0 := 2) (pc' := 9) rfl (hb hby d3_2) rfl (flt (by decide)).2.1 (by decide) (by decide) k) ?_
  show Run p e below s 0 0 (Q_rm3_4 Z p1 p2 h0 n0) (s₁.setTop (mkF m 9 #[.val (.int p1), .val (.int p2), .val (.int (4 : Int32)), .unset] []))
  refine Run.go (fun _ k => XS.iloadN X0.here hx rfl (hb hby d3_9) rfl  k) ?_
  show Run p e below s 0 0 (Q_rm3_4 Z p1 p2 h0 n0) (s₁.setTop (mkF m 10 #[.val (.int p1), .val (.int p2), .val (.int (4 : Int32)), .unset] [(.int p2)]))
  refine Run.go (fun _ k => XS.istoreN X0.here hx rfl (hb hby d3_10) rfl (l' := #[.val (.int p1), .val (.int p2), .val (.int (4 : Int32)), .val (.int p2)]) rfl k) ?_
  show Run p e below s 0 0 (Q_rm3_4 Z p1 p2 h0 n0) (s₁.setTop (mkF m 11 #[.val (.int p1), .val (.int p2), .val (.int (4 : Int32)), .val (.int p2)] []))
  refine Run.go (fun _ k => XS.iloadN X0.here hx rfl (hb hby d3_11) rfl  k) ?_
  show Run p e below s 0 0 (Q_rm3_4 Z p1 p2 h0 n0) (s₁.setTop (mkF m 12 #[.val (.int p1), .val (.int p2), .val (.int (4 : Int32)), .val (.int p2)] [(.int p2)]))
  refine Run.go (fun _ k => XS.bipush X0.here hx rfl (hb hby d3_12) k) ?_
  show Run p e below s 0 0 (Q_rm3_4 Z p1 p2 h0 n0) (s₁.setTop (mkF m 14 #[.val (.int p1), .val (.int p2), .val (.int (4 : Int32)), .val (.int p2)] [(.int (8 : Int32)), (.int p2)]))
  refine Run.go (fun _ k => XS.iloadN X0.here hx rfl (hb hby d3_14) rfl  k) ?_
  show Run p e below s 0 0 (Q_rm3_4 Z p1 p2 h0 n0) (s₁.setTop (mkF m 15 #[.val (.int p1), .val (.int p2), .val (.int (4 : Int32)), .val (.int p2)] [(.int (4 : Int32)), (.int (8 : Int32)), (.int p2)]))
  refine Run.go (fun _ k => XS.iconst X0.here hx rfl (hb hby d3_15) k) ?_
  show Run p e below s 0 0 (Q_rm3_4 Z p1 p2 h0 n0) (s₁.setTop (mkF m 16 #[.val (.int p1), .val (.int p2), .val (.int (4 : Int32)), .val (.int p2)] [(.int (3 : Int32)), (.int (4 : Int32)), (.int (8 : Int32)), (.int p2)]))
  refine Run.go (fun _ k => XS.iand X0.here hx rfl (hb hby d3_16) rfl k) ?_
  show Run p e below s 0 0 (Q_rm3_4 Z p1 p2 h0 n0) (s₁.setTop (mkF m 17 #[.val (.int p1), .val (.int p2), .val (.int (4 : Int32)), .val (.int p2)] [(.int (0 : Int32)), (.int (8 : Int32)), (.int p2)]))
  refine Run.go (fun _ k => XS.imul X0.here hx rfl (hb hby d3_17) rfl k) ?_
  show Run p e below s 0 0 (Q_rm3_4 Z p1 p2 h0 n0) (s₁.setTop (mkF m 18 #[.val (.int p1), .val (.int p2), .val (.int (4 : Int32)), .val (.int p2)] [(.int (0 : Int32)), (.int p2)]))
  refine Run.go (fun _ k => XS.iushr X0.here hx rfl (hb hby d3_18) rfl k) ?_
  show Run p e below s 0 0 (Q_rm3_4 Z p1 p2 h0 n0) (s₁.setTop (mkF m 19 #[.val (.int p1), .val (.int p2), .val (.int (4 : Int32)), .val (.int p2)] [(.int ((p2.toUInt32 >>> ((0 : Int32) &&& 31).toUInt32).toInt32))]))
  refine Run.go (fun _ k => XS.i2b X0.here hx rfl (hb hby d3_19) rfl k) ?_
  show Run p e below s 0 0 (Q_rm3_4 Z p1 p2 h0 n0) (s₁.setTop (mkF m 20 #[.val (.int p1), .val (.int p2), .val (.int (4 : Int32)), .val (.int p2)] [(.int (((p2.toUInt32 >>> ((0 : Int32) &&& 31).toUInt32).toInt32).toInt8.toInt32))]))
  refine Run.retN (y := (((p2.toUInt32 >>> ((0 : Int32) &&& 31).toUInt32).toInt32).toInt8.toInt32)) X0 hx (t := .byte) Bd.returns (by simp) (b_idem _) Bd.notSynchronized (hb hby d3_20) (by decide) (by decide) ?_
  show Q_rm3_4 Z p1 p2 h0 n0 _ s₁.heap _
  exact ⟨congrArg some (congrArg Value.int (show (((p2.toUInt32 >>> ((0 : Int32) &&& 31).toUInt32).toInt32).toInt8.toInt32) = (F_rm3_4 p2) from (by unfold F_rm3_4; rfl))), N0, e0⟩
theorem d1_16 : decode method_3_code 16 = .ok (.iload_n 1, 1) := by decide +kernel
def F_rm1_4 (p2 : Int32) (p3 : Int32) : Int64 := (if ((4 : Int32) < p3) then (if ((((p2.toUInt32 >>> ((7 : Int32) &&& 31).toUInt32).toInt32) &&& (1 : Int32)) = (0 : Int32)) then (1 : Int64) else (0 : Int64)) else (0 : Int64))
def Q_rm1_4 (Z : State) (p1 : Int32) (p2 : Int32) (p3 : Int32) (h0 : Heap) (n0 : Nat) (v : Option Value) (h : Heap) (L : List Loc) : Prop := v = some (.long (F_rm1_4 p2 p3)) ∧ Fr n0 L ∧ h = h0
theorem ef_rm1_4 (m : MethodId) (x0 : Int32) (x1 : Int32) (x3 : Int32) : entryFrame m #[(.int x0), (.int x1), (.int (4 : Int32)), (.int x3)] 6 = mkF m 0 #[.val (.int x0), .val (.int x1), .val (.int (4 : Int32)), .val (.int x3), .unset, .unset] [] := by first | (simp [entryFrame, mkF, argsToLocals, Value.category]; done) | rfl
set_option maxRecDepth 65536 in
set_option maxHeartbeats 40000000 in
theorem rm1_4 (l : Launch) (Z : State) (a0 : Array Value) (hw : ∀ d ∈ tables_1, d.before a0 Z = true) (ws : List Jvm.Cond) (p1 : Int32) (p2 : Int32) (p3 : Int32) (h0 : Heap) (n0 : Nat) (Z0 : n0 ≤ h0.size)  :
    MetFree l (⟨"com/example/subjectory/subjectory/index/PostingsCountPinLaw", "term", "(IIII)J"⟩ : MethodName) (head1 (Jvm.Cond.code (⟨"com/example/subjectory/subjectory/index/PostingsCountPinLaw", "term", "(IIII)J"⟩ : MethodName) method_3_code 6 (some .long) :: ws) ({ frames := 0, cells := 0, slots := 0, locals := 0 } : Room)) (fun a U => a = #[(.int p1), (.int p2), (.int (4 : Int32)), (.int p3)] ∧ Z.Warmed39 U.vm ∧ U.heap = h0) (fun _ _ _ _ _ => True) (fun _ U o U' => ∃ v L, o = .returned v ∧ Q_rm1_4 Z p1 p2 p3 h0 n0 v U'.heap L ∧ FrameEnd U o U' L ({ frames := 0, cells := 0, slots := 0, locals := 0 } : Room).cells ({ frames := 0, cells := 0, slots := 0, locals := 0 } : Room).slots) := by
  refine MetFree.of_bodySF (plainFor_of_name pn_1) hisR ?_
  intro p e s m args below meth c s₁ Bd hml0 hP hK
  obtain ⟨rfl, hZ, hh⟩ := hP
  have hx := Bd.exec
  have hby := Bd.bytes
  have hml : c.maxLocals = 6 := hml0
  have hown : s.vm.findClass "com/example/subjectory/subjectory/index/PostingsCountPinLaw" = some m.cls := findClass_of_methodNamed Bd.named
  have hnm := (name_of_methodNamed Bd.named Bd.method).1
  have X0 : Stand p l e ({ frames := 0, cells := 0, slots := 0, locals := 0 } : Room) s m #[(.int p1), (.int p2), (.int (4 : Int32)), (.int p3)] below meth c s₁ [] 0 0 := Stand.of_body Bd
  have e0 : s₁.heap = h0 := by rw [← hh, Bd.state]; rfl
  have N0 := Fr.nil n0
  show Run p e below s 0 0 (Q_rm1_4 Z p1 p2 p3 h0 n0) (s₁.setTop (entryFrame m #[(.int p1), (.int p2), (.int (4 : Int32)), (.int p3)] 6))
  refine Run.go (fun _ k => castTop (ef_rm1_4 m p1 p2 p3) k) ?_
  show Run p e below s 0 0 (Q_rm1_4 Z p1 p2 p3 h0 n0) (s₁.setTop (mkF m 0 #[.val (.int p1), .val (.int p2), .val (.int (4 : Int32)), .val (.int p3), .unset, .unset] []))
  refine Run.go (fun _ k => XS.iloadN X0.here hx rfl (hb hby d1_0) rfl  k) ?_
  show Run p e below s 0 0 (Q_rm1_4 Z p1 p2 p3 h0 n0) (s₁.setTop (mkF m 1 #[.val (.int p1), .val (.int p2), .val (.int (4 : Int32)), .val (.int p3), .unset, .unset] [(.int (4 : Int32))]))
  refine Run.go (fun _ k => XS.iloadN X0.here hx rfl (hb hby d1_1) rfl  k) ?_
  show Run p e below s 0 0 (Q_rm1_4 Z p1 p2 p3 h0 n0) (s₁.setTop (mkF m 2 #[.val (.int p1), .val (.int p2), .val (.int (4 : Int32)), .val (.int p3), .unset, .unset] [(.int p3), (.int (4 : Int32))]))
  by_cases hc4 : ((4 : Int32) < p3)
  · refine Run.go (fun _ k => XS.icmpYes X0.here hx rfl (pc0 := 2) (pc' := 7) rfl (hb hby d1_2) rfl (tlt hc4).1 (by decide) (by decide) k) ?_
    show Run p e below s 0 0 (Q_rm1_4 Z p1 p2 p3 h0 n0) (s₁.setTop (mkF m 7 #[.val (.int p1), .val (.int p2), .val (.int (4 : Int32)), .val (.int p3), .unset, .unset] []))
    refine Run.go (fun _ k => XS.iloadN X0.here hx rfl (hb hby d1_7) rfl  k) ?_
    show Run p e below s 0 0 (Q_rm1_4 Z p1 p2 p3 h0 n0) (s₁.setTop (mkF m 8 #[.val (.int p1), .val (.int p2), .val (.int (4 : Int32)), .val (.int p3), .unset, .unset] [(.int (4 : Int32))]))
    refine Run.go (fun _ k => XS.iconst X0.here hx rfl (hb hby d1_8) k) ?_
    show Run p e below s 0 0 (Q_rm1_4 Z p1 p2 p3 h0 n0) (s₁.setTop (mkF m 9 #[.val (.int p1), .val (.int p2), .val (.int (4 : Int32)), .val (.int p3), .unset, .unset] [(.int (4 : Int32)), (.int (4 : Int32))]))
    refine Run.go (fun _ k => XS.icmpYes X0.here hx rfl (pc0 := 9) (pc' := 16) rfl (hb hby d1_9) rfl (flt (by decide)).2.1 (by decide) (by decide) k) ?_
    show Run p e below s 0 0 (Q_rm1_4 Z p1 p2 p3 h0 n0) (s₁.setTop (mkF m 16 #[.val (.int p1), .val (.int p2), .val (.int (4 : Int32)), .val (.int p3), .unset, .unset] []))
    refine Run.go (fun _ k => XS.iloadN X0.here hx rfl (hb hby d1_16) rfl  k) ?_
    show Run p e below s 0 0 (Q_rm1_4 Z p1 p2 p3 h0 n0) (s₁.setTop (mkF m 17 #[.val (.int p1), .val (.int p2), .val (.int (4 : Int32)), .val (.int p3), .unset, .unset] [(.int p2)]))
    refine Run.go (fun _ k => XS.istore X0.here hx rfl (hb hby d1_17) rfl (l' := #[.val (.int p1), .val (.int p2), .val (.int (4 : Int32)), .val (.int p3), .val (.int p2), .unset]) rfl k) ?_
    show Run p e below s 0 0 (Q_rm1_4 Z p1 p2 p3 h0 n0) (s₁.setTop (mkF m 19 #[.val (.int p1), .val (.int p2), .val (.int (4 : Int32)), .val (.int p3), .val (.int p2), .unset] []))
    refine Run.go (fun _ k => XS.iload X0.here hx rfl (hb hby d1_19) rfl  k) ?_
    show Run p e below s 0 0 (Q_rm1_4 Z p1 p2 p3 h0 n0) (s₁.setTop (mkF m 21 #[.val (.int p1), .val (.int p2), .val (.int (4 : Int32)), .val (.int p3), .val (.int p2), .unset] [(.int p2)]))
    refine Run.go (fun _ k => XS.bipush X0.here hx rfl (hb hby d1_21) k) ?_
    show Run p e below s 0 0 (Q_rm1_4 Z p1 p2 p3 h0 n0) (s₁.setTop (mkF m 23 #[.val (.int p1), .val (.int p2), .val (.int (4 : Int32)), .val (.int p3), .val (.int p2), .unset] [(.int (8 : Int32)), (.int p2)]))
    refine Run.go (fun _ k => XS.iloadN X0.here hx rfl (hb hby d1_23) rfl  k) ?_
    show Run p e below s 0 0 (Q_rm1_4 Z p1 p2 p3 h0 n0) (s₁.setTop (mkF m 24 #[.val (.int p1), .val (.int p2), .val (.int (4 : Int32)), .val (.int p3), .val (.int p2), .unset] [(.int (4 : Int32)), (.int (8 : Int32)), (.int p2)]))
    refine Run.go (fun _ k => XS.iconst X0.here hx rfl (hb hby d1_24) k) ?_
    show Run p e below s 0 0 (Q_rm1_4 Z p1 p2 p3 h0 n0) (s₁.setTop (mkF m 25 #[.val (.int p1), .val (.int p2), .val (.int (4 : Int32)), .val (.int p3), .val (.int p2), .unset] [(.int (3 : Int32)), (.int (4 : Int32)), (.int (8 : Int32)), (.int p2)]))
    refine Run.go (fun _ k => XS.iand X0.here hx rfl (hb hby d1_25) rfl k) ?_
    show Run p e below s 0 0 (Q_rm1_4 Z p1 p2 p3 h0 n0) (s₁.setTop (mkF m 26 #[.val (.int p1), .val (.int p2), .val (.int (4 : Int32)), .val (.int p3), .val (.int p2), .unset] [(.int (0 : Int32)), (.int (8 : Int32)), (.int p2)]))
    refine Run.go (fun _ k => XS.imul X0.here hx rfl (hb hby d1_26) rfl k) ?_
    show Run p e below s 0 0 (Q_rm1_4 Z p1 p2 p3 h0 n0) (s₁.setTop (mkF m 27 #[.val (.int p1), .val (.int p2), .val (.int (4 : Int32)), .val (.int p3), .val (.int p2), .unset] [(.int (0 : Int32)), (.int p2)]))
    refine Run.go (fun _ k => XS.bipush X0.here hx rfl (hb hby d1_27) k) ?_
    show Run p e below s 0 0 (Q_rm1_4 Z p1 p2 p3 h0 n0) (s₁.setTop (mkF m 29 #[.val (.int p1), .val (.int p2), .val (.int (4 : Int32)), .val (.int p3), .val (.int p2), .unset] [(.int (7 : Int32)), (.int (0 : Int32)), (.int p2)]))
    refine Run.go (fun _ k => XS.iadd X0.here hx rfl (hb hby d1_29) rfl k) ?_
    show Run p e below s 0 0 (Q_rm1_4 Z p1 p2 p3 h0 n0) (s₁.setTop (mkF m 30 #[.val (.int p1), .val (.int p2), .val (.int (4 : Int32)), .val (.int p3), .val (.int p2), .unset] [(.int (7 : Int32)), (.int p2)]))
    refine Run.go (fun _ k => XS.iushr X0.here hx rfl (hb hby d1_30) rfl k) ?_
    show Run p e below s 0 0 (Q_rm1_4 Z p1 p2 p3 h0 n0) (s₁.setTop (mkF m 31 #[.val (.int p1), .val (.int p2), .val (.int (4 : Int32)), .val (.int p3), .val (.int p2), .unset] [(.int ((p2.toUInt32 >>> ((7 : Int32) &&& 31).toUInt32).toInt32))]))
    refine Run.go (fun _ k => XS.iconst X0.here hx rfl (hb hby d1_31) k) ?_
    show Run p e below s 0 0 (Q_rm1_4 Z p1 p2 p3 h0 n0) (s₁.setTop (mkF m 32 #[.val (.int p1), .val (.int p2), .val (.int (4 : Int32)), .val (.int p3), .val (.int p2), .unset] [(.int (1 : Int32)), (.int ((p2.toUInt32 >>> ((7 : Int32) &&& 31).toUInt32).toInt32))]))
    refine Run.go (fun _ k => XS.iand X0.here hx rfl (hb hby d1_32) rfl k) ?_
    show Run p e below s 0 0 (Q_rm1_4 Z p1 p2 p3 h0 n0) (s₁.setTop (mkF m 33 #[.val (.int p1), .val (.int p2), .val (.int (4 : Int32)), .val (.int p3), .val (.int p2), .unset] [(.int (((p2.toUInt32 >>> ((7 : Int32) &&& 31).toUInt32).toInt32) &&& (1 : Int32)))]))
    refine Run.go (fun _ k => XS.istore X0.here hx rfl (hb hby d1_33) rfl (l' := #[.val (.int p1), .val (.int p2), .val (.int (4 : Int32)), .val (.int p3), .val (.int p2), .val (.int (((p2.toUInt32 >>> ((7 : Int32) &&& 31).toUInt32).toInt32) &&& (1 : Int32)))]) rfl k) ?_
    show Run p e below s 0 0 (Q_rm1_4 Z p1 p2 p3 h0 n0) (s₁.setTop (mkF m 35 #[.val (.int p1), .val (.int p2), .val (.int (4 : Int32)), .val (.int p3), .val (.int p2), .val (.int (((p2.toUInt32 >>> ((7 : Int32) &&& 31).toUInt32).toInt32) &&& (1 : Int32)))] []))
    refine Run.go (fun _ k => XS.iload X0.here hx rfl (hb hby d1_35) rfl  k) ?_
    show Run p e below s 0 0 (Q_rm1_4 Z p1 p2 p3 h0 n0) (s₁.setTop (mkF m 37 #[.val (.int p1), .val (.int p2), .val (.int (4 : Int32)), .val (.int p3), .val (.int p2), .val (.int (((p2.toUInt32 >>> ((7 : Int32) &&& 31).toUInt32).toInt32) &&& (1 : Int32)))] [(.int (((p2.toUInt32 >>> ((7 : Int32) &&& 31).toUInt32).toInt32) &&& (1 : Int32)))]))
    have J5 : ∀ (w6 : Int64) (hw6 : w6 = (if ((((p2.toUInt32 >>> ((7 : Int32) &&& 31).toUInt32).toInt32) &&& (1 : Int32)) = (0 : Int32)) then (1 : Int64) else (0 : Int64))) (T7 : State) (L7 : List Loc) (X7 : Stand p l e ({ frames := 0, cells := 0, slots := 0, locals := 0 } : Room) s m #[(.int p1), (.int p2), (.int (4 : Int32)), (.int p3)] below meth c T7 L7 0 0) (e7 : T7.heap = h0) (N7 : Fr n0 L7), Run p e below s 0 0 (Q_rm1_4 Z p1 p2 p3 h0 n0) (T7.setTop (mkF m 45 #[.val (.int p1), .val (.int p2), .val (.int (4 : Int32)), .val (.int p3), .val (.int p2), .val (.int (((p2.toUInt32 >>> ((7 : Int32) &&& 31).toUInt32).toInt32) &&& (1 : Int32)))] [(.long w6)])) := by
      intro w6 hw6 T7 L7 X7 e7 N7
      show Run p e below s 0 0 (Q_rm1_4 Z p1 p2 p3 h0 n0) (T7.setTop (mkF m 45 #[.val (.int p1), .val (.int p2), .val (.int (4 : Int32)), .val (.int p3), .val (.int p2), .val (.int (((p2.toUInt32 >>> ((7 : Int32) &&& 31).toUInt32).toInt32) &&& (1 : Int32)))] [(.long w6)]))
      refine Run.retJ X7 hx Bd.returns Bd.notSynchronized (hb hby d1_45) (by decide) (by decide) ?_
      show Q_rm1_4 Z p1 p2 p3 h0 n0 _ T7.heap _
      exact ⟨congrArg some (congrArg Value.long (show w6 = (F_rm1_4 p2 p3) from (by subst hw6; unfold F_rm1_4; rw [if_pos hc4]))), N7, e7⟩
    by_cases hc8 : ((((p2.toUInt32 >>> ((7 : Int32) &&& 31).toUInt32).toInt32) &&& (1 : Int32)) = (0 : Int32))
    · refine Run.go (fun _ k => XS.ifNo X0.here hx rfl (hb hby d1_37) rfl ((if0 _ _).trans (teq hc8).2) k) ?_
      show Run p e below s 0 0 (Q_rm1_4 Z p1 p2 p3 h0 n0) (s₁.setTop (mkF m 40 #[.val (.int p1), .val (.int p2), .val (.int (4 : Int32)), .val (.int p3), .val (.int p2), .val (.int (((p2.toUInt32 >>> ((7 : Int32) &&& 31).toUInt32).toInt32) &&& (1 : Int32)))] []))
      refine Run.go (fun _ k => XS.lconst X0.here hx rfl (hb hby d1_40) k) ?_
      show Run p e below s 0 0 (Q_rm1_4 Z p1 p2 p3 h0 n0) (s₁.setTop (mkF m 41 #[.val (.int p1), .val (.int p2), .val (.int (4 : Int32)), .val (.int p3), .val (.int p2), .val (.int (((p2.toUInt32 >>> ((7 : Int32) &&& 31).toUInt32).toInt32) &&& (1 : Int32)))] [(.long (1 : Int64))]))
      refine Run.go (fun _ k => XS.goto X0.here hx rfl (pc0 := 41) (pc' := 45) rfl (hb hby d1_41) (by decide) (by decide) k) ?_
      show Run p e below s 0 0 (Q_rm1_4 Z p1 p2 p3 h0 n0) (s₁.setTop (mkF m 45 #[.val (.int p1), .val (.int p2), .val (.int (4 : Int32)), .val (.int p3), .val (.int p2), .val (.int (((p2.toUInt32 >>> ((7 : Int32) &&& 31).toUInt32).toInt32) &&& (1 : Int32)))] [(.long (1 : Int64))]))
      exact J5 _ (by rw [if_pos hc8]) _ _ X0 e0 N0
    · refine Run.go (fun _ k => XS.ifYes X0.here hx rfl (pc0 := 37) (pc' := 44) rfl (hb hby d1_37) rfl ((if0 _ _).trans (feq hc8).2) (by decide) (by decide) k) ?_
      show Run p e below s 0 0 (Q_rm1_4 Z p1 p2 p3 h0 n0) (s₁.setTop (mkF m 44 #[.val (.int p1), .val (.int p2), .val (.int (4 : Int32)), .val (.int p3), .val (.int p2), .val (.int (((p2.toUInt32 >>> ((7 : Int32) &&& 31).toUInt32).toInt32) &&& (1 : Int32)))] []))
      refine Run.go (fun _ k => XS.lconst X0.here hx rfl (hb hby d1_44) k) ?_
      show Run p e below s 0 0 (Q_rm1_4 Z p1 p2 p3 h0 n0) (s₁.setTop (mkF m 45 #[.val (.int p1), .val (.int p2), .val (.int (4 : Int32)), .val (.int p3), .val (.int p2), .val (.int (((p2.toUInt32 >>> ((7 : Int32) &&& 31).toUInt32).toInt32) &&& (1 : Int32)))] [(.long (0 : Int64))]))
      exact J5 _ (by rw [if_neg hc8]) _ _ X0 e0 N0
  · refine Run.go (fun _ k => XS.icmpNo X0.here hx rfl (hb hby d1_2) rfl (flt hc4).1 k) ?_
    show Run p e below s 0 0 (Q_rm1_4 Z p1 p2 p3 h0 n0) (s₁.setTop (mkF m 5 #[.val (.int p1), .val (.int p2), .val (.int (4 : Int32)), .val (.int p3), .unset, .unset] []))
    refine Run.go (fun _ k => XS.lconst X0.here hx rfl (hb hby d1_5) k) ?_
    show Run p e below s 0 0 (Q_rm1_4 Z p1 p2 p3 h0 n0) (s₁.setTop (mkF m 6 #[.val (.int p1), .val (.int p2), .val (.int (4 : Int32)), .val (.int p3), .unset, .unset] [(.long (0 : Int64))]))
    refine Run.retJ X0 hx Bd.returns Bd.notSynchronized (hb hby d1_6) (by decide) (by decide) ?_
    show Q_rm1_4 Z p1 p2 p3 h0 n0 _ s₁.heap _
    exact ⟨congrArg some (congrArg Value.long (show (0 : Int64) = (F_rm1_4 p2 p3) from (by unfold F_rm1_4; rw [if_neg hc4]))), N0, e0⟩
def F_rm3_5 (p2 : Int32) : Int32 := (((p2.toUInt32 >>> ((8 : Int32) &&& 31).toUInt32).toInt32).toInt8.toInt32)
def Q_rm3_5 (Z : State) (p1 : Int32) (p2 : Int32) (h0 : Heap) (n0 : Nat) (v : Option Value) (h : Heap) (L : List Loc) : Prop := v = some (.int (F_rm3_5 p2)) ∧ Fr n0 L ∧ h = h0
theorem ef_rm3_5 (m : MethodId) (x0 : Int32) (x1 : Int32) : entryFrame m #[(.int x0), (.int x1), (.int (5 : Int32))] 4 = mkF m 0 #[.val (.int x0), .val (.int x1), .val (.int (5 : Int32)), .unset] [] := by first | (simp [entryFrame, mkF, argsToLocals, Value.category]; done) | rfl
set_option maxRecDepth 65536 in
set_option maxHeartbeats 40000000 in
theorem rm3_5 (l : Launch) (Z : State) (a0 : Array Value) (hw : ∀ d ∈ tables_1, d.before a0 Z = true) (ws : List Jvm.Cond) (p1 : Int32) (p2 : Int32) (h0 : Heap) (n0 : Nat) (Z0 : n0 ≤ h0.size)  :
    MetFree l (⟨"com/example/subjectory/subjectory/index/PostingsCountPinLaw", "pick", "(III)B"⟩ : MethodName) (head1 (Jvm.Cond.code (⟨"com/example/subjectory/subjectory/index/PostingsCountPinLaw", "pick", "(III)B"⟩ : MethodName) method_2_code 4 (some .byte) :: ws) ({ frames := 0, cells := 0, slots := 0, locals := 0 } : Room)) (fun a U => a = #[(.int p1), (.int p2), (.int (5 : Int32))] ∧ Z.Warmed39 U.vm ∧ U.heap = h0) (fun _ _ _ _ _ => True) (fun _ U o U' => ∃ v L, o = .returned v ∧ Q_rm3_5 Z p1 p2 h0 n0 v U'.heap L ∧ FrameEnd U o U' L ({ frames := 0, cells := 0, slots := 0, locals := 0 } : Room).cells ({ frames := 0, cells := 0, slots := 0, locals := 0 } : Room).slots) := by
  refine MetFree.of_bodySF (plainFor_of_name pn_1) hisR ?_
  intro p e s m args below meth c s₁ Bd hml0 hP hK
  obtain ⟨rfl, hZ, hh⟩ := hP
  have hx := Bd.exec
  have hby := Bd.bytes
  have hml : c.maxLocals = 4 := hml0
  have hown : s.vm.findClass "com/example/subjectory/subjectory/index/PostingsCountPinLaw" = some m.cls := findClass_of_methodNamed Bd.named
  have hnm := (name_of_methodNamed Bd.named Bd.method).1
  have X0 : Stand p l e ({ frames := 0, cells := 0, slots := 0, locals := 0 } : Room) s m #[(.int p1), (.int p2), (.int (5 : Int32))] below meth c s₁ [] 0 0 := Stand.of_body Bd
  have e0 : s₁.heap = h0 := by rw [← hh, Bd.state]; rfl
  have N0 := Fr.nil n0
  show Run p e below s 0 0 (Q_rm3_5 Z p1 p2 h0 n0) (s₁.setTop (entryFrame m #[(.int p1), (.int p2), (.int (5 : Int32))] 4))
  refine Run.go (fun _ k => castTop (ef_rm3_5 m p1 p2) k) ?_
  show Run p e below s 0 0 (Q_rm3_5 Z p1 p2 h0 n0) (s₁.setTop (mkF m 0 #[.val (.int p1), .val (.int p2), .val (.int (5 : Int32)), .unset] []))
  refine Run.go (fun _ k => XS.iloadN X0.here hx rfl (hb hby d3_0) rfl  k) ?_
  show Run p e below s 0 0 (Q_rm3_5 Z p1 p2 h0 n0) (s₁.setTop (mkF m 1 #[.val (.int p1), .val (.int p2), .val (.int (5 : Int32)), .unset] [(.int (5 : Int32))]))
  refine Run.go (fun _ k => XS.iconst X0.here hx rfl (hb hby d3_1) k) ?_
  show Run p e below s 0 0 (Q_rm3_5 Z p1 p2 h0 n0) (s₁.setTop (mkF m 2 #[.val (.int p1), .val (.int p2), .val (.int (5 : Int32)), .unset] [(.int (4 : Int32)), (.int (5 : Int32))]))
  refine Run.go (fun _ k => XS.icmpYes X0.here hx rfl (pc0 := 2) (pc' := 9) rfl (hb hby d3_2) rfl (flt (by decide)).2.1 (by decide) (by decide) k) ?_
  show Run p e below s 0 0 (Q_rm3_5 Z p1 p2 h0 n0) (s₁.setTop (mkF m 9 #[.val (.int p1), .val (.int p2), .val (.int (5 : Int32)), .unset] []))
  refine Run.go (fun _ k => XS.iloadN X0.here hx rfl (hb hby d3_9) rfl  k) ?_
  show Run p e below s 0 0 (Q_rm3_5 Z p1 p2 h0 n0) (s₁.setTop (mkF m 10 #[.val (.int p1), .val (.int p2), .val (.int (5 : Int32)), .unset] [(.int p2)]))
  refine Run.go (fun _ k => XS.istoreN X0.here hx rfl (hb hby d3_10) rfl (l' := #[.val (.int p1), .val (.int p2), .val (.int (5 : Int32)), .val (.int p2)]) rfl k) ?_
  show Run p e below s 0 0 (Q_rm3_5 Z p1 p2 h0 n0) (s₁.setTop (mkF m 11 #[.val (.int p1), .val (.int p2), .val (.int (5 : Int32)), .val (.int p2)] []))
  refine Run.go (fun _ k => XS.iloadN X0.here hx rfl (hb hby d3_11) rfl  k) ?_
  show Run p e below s 0 0 (Q_rm3_5 Z p1 p2 h0 n0) (s₁.setTop (mkF m 12 #[.val (.int p1), .val (.int p2), .val (.int (5 : Int32)), .val (.int p2)] [(.int p2)]))
  refine Run.go (fun _ k => XS.bipush X0.here hx rfl (hb hby d3_12) k) ?_
  show Run p e below s 0 0 (Q_rm3_5 Z p1 p2 h0 n0) (s₁.setTop (mkF m 14 #[.val (.int p1), .val (.int p2), .val (.int (5 : Int32)), .val (.int p2)] [(.int (8 : Int32)), (.int p2)]))
  refine Run.go (fun _ k => XS.iloadN X0.here hx rfl (hb hby d3_14) rfl  k) ?_
  show Run p e below s 0 0 (Q_rm3_5 Z p1 p2 h0 n0) (s₁.setTop (mkF m 15 #[.val (.int p1), .val (.int p2), .val (.int (5 : Int32)), .val (.int p2)] [(.int (5 : Int32)), (.int (8 : Int32)), (.int p2)]))
  refine Run.go (fun _ k => XS.iconst X0.here hx rfl (hb hby d3_15) k) ?_
  show Run p e below s 0 0 (Q_rm3_5 Z p1 p2 h0 n0) (s₁.setTop (mkF m 16 #[.val (.int p1), .val (.int p2), .val (.int (5 : Int32)), .val (.int p2)] [(.int (3 : Int32)), (.int (5 : Int32)), (.int (8 : Int32)), (.int p2)]))
  refine Run.go (fun _ k => XS.iand X0.here hx rfl (hb hby d3_16) rfl k) ?_
  show Run p e below s 0 0 (Q_rm3_5 Z p1 p2 h0 n0) (s₁.setTop (mkF m 17 #[.val (.int p1), .val (.int p2), .val (.int (5 : Int32)), .val (.int p2)] [(.int (1 : Int32)), (.int (8 : Int32)), (.int p2)]))
  refine Run.go (fun _ k => XS.imul X0.here hx rfl (hb hby d3_17) rfl k) ?_
  show Run p e below s 0 0 (Q_rm3_5 Z p1 p2 h0 n0) (s₁.setTop (mkF m 18 #[.val (.int p1), .val (.int p2), .val (.int (5 : Int32)), .val (.int p2)] [(.int (8 : Int32)), (.int p2)]))
  refine Run.go (fun _ k => XS.iushr X0.here hx rfl (hb hby d3_18) rfl k) ?_
  show Run p e below s 0 0 (Q_rm3_5 Z p1 p2 h0 n0) (s₁.setTop (mkF m 19 #[.val (.int p1), .val (.int p2), .val (.int (5 : Int32)), .val (.int p2)] [(.int ((p2.toUInt32 >>> ((8 : Int32) &&& 31).toUInt32).toInt32))]))
  refine Run.go (fun _ k => XS.i2b X0.here hx rfl (hb hby d3_19) rfl k) ?_
  show Run p e below s 0 0 (Q_rm3_5 Z p1 p2 h0 n0) (s₁.setTop (mkF m 20 #[.val (.int p1), .val (.int p2), .val (.int (5 : Int32)), .val (.int p2)] [(.int (((p2.toUInt32 >>> ((8 : Int32) &&& 31).toUInt32).toInt32).toInt8.toInt32))]))
  refine Run.retN (y := (((p2.toUInt32 >>> ((8 : Int32) &&& 31).toUInt32).toInt32).toInt8.toInt32)) X0 hx (t := .byte) Bd.returns (by simp) (b_idem _) Bd.notSynchronized (hb hby d3_20) (by decide) (by decide) ?_
  show Q_rm3_5 Z p1 p2 h0 n0 _ s₁.heap _
  exact ⟨congrArg some (congrArg Value.int (show (((p2.toUInt32 >>> ((8 : Int32) &&& 31).toUInt32).toInt32).toInt8.toInt32) = (F_rm3_5 p2) from (by unfold F_rm3_5; rfl))), N0, e0⟩
def F_rm1_5 (p2 : Int32) (p3 : Int32) : Int64 := (if ((5 : Int32) < p3) then (if ((((p2.toUInt32 >>> ((15 : Int32) &&& 31).toUInt32).toInt32) &&& (1 : Int32)) = (0 : Int32)) then (1 : Int64) else (0 : Int64)) else (0 : Int64))
def Q_rm1_5 (Z : State) (p1 : Int32) (p2 : Int32) (p3 : Int32) (h0 : Heap) (n0 : Nat) (v : Option Value) (h : Heap) (L : List Loc) : Prop := v = some (.long (F_rm1_5 p2 p3)) ∧ Fr n0 L ∧ h = h0
theorem ef_rm1_5 (m : MethodId) (x0 : Int32) (x1 : Int32) (x3 : Int32) : entryFrame m #[(.int x0), (.int x1), (.int (5 : Int32)), (.int x3)] 6 = mkF m 0 #[.val (.int x0), .val (.int x1), .val (.int (5 : Int32)), .val (.int x3), .unset, .unset] [] := by first | (simp [entryFrame, mkF, argsToLocals, Value.category]; done) | rfl
set_option maxRecDepth 65536 in
set_option maxHeartbeats 40000000 in
theorem rm1_5 (l : Launch) (Z : State) (a0 : Array Value) (hw : ∀ d ∈ tables_1, d.before a0 Z = true) (ws : List Jvm.Cond) (p1 : Int32) (p2 : Int32) (p3 : Int32) (h0 : Heap) (n0 : Nat) (Z0 : n0 ≤ h0.size)  :
    MetFree l (⟨"com/example/subjectory/subjectory/index/PostingsCountPinLaw", "term", "(IIII)J"⟩ : MethodName) (head1 (Jvm.Cond.code (⟨"com/example/subjectory/subjectory/index/PostingsCountPinLaw", "term", "(IIII)J"⟩ : MethodName) method_3_code 6 (some .long) :: ws) ({ frames := 0, cells := 0, slots := 0, locals := 0 } : Room)) (fun a U => a = #[(.int p1), (.int p2), (.int (5 : Int32)), (.int p3)] ∧ Z.Warmed39 U.vm ∧ U.heap = h0) (fun _ _ _ _ _ => True) (fun _ U o U' => ∃ v L, o = .returned v ∧ Q_rm1_5 Z p1 p2 p3 h0 n0 v U'.heap L ∧ FrameEnd U o U' L ({ frames := 0, cells := 0, slots := 0, locals := 0 } : Room).cells ({ frames := 0, cells := 0, slots := 0, locals := 0 } : Room).slots) := by
  refine MetFree.of_bodySF (plainFor_of_name pn_1) hisR ?_
  intro p e s m args below meth c s₁ Bd hml0 hP hK
  obtain ⟨rfl, hZ, hh⟩ := hP
  have hx := Bd.exec
  have hby := Bd.bytes
  have hml : c.maxLocals = 6 := hml0
  have hown : s.vm.findClass "com/example/subjectory/subjectory/index/PostingsCountPinLaw" = some m.cls := findClass_of_methodNamed Bd.named
  have hnm := (name_of_methodNamed Bd.named Bd.method).1
  have X0 : Stand p l e ({ frames := 0, cells := 0, slots := 0, locals := 0 } : Room) s m #[(.int p1), (.int p2), (.int (5 : Int32)), (.int p3)] below meth c s₁ [] 0 0 := Stand.of_body Bd
  have e0 : s₁.heap = h0 := by rw [← hh, Bd.state]; rfl
  have N0 := Fr.nil n0
  show Run p e below s 0 0 (Q_rm1_5 Z p1 p2 p3 h0 n0) (s₁.setTop (entryFrame m #[(.int p1), (.int p2), (.int (5 : Int32)), (.int p3)] 6))
  refine Run.go (fun _ k => castTop (ef_rm1_5 m p1 p2 p3) k) ?_
  show Run p e below s 0 0 (Q_rm1_5 Z p1 p2 p3 h0 n0) (s₁.setTop (mkF m 0 #[.val (.int p1), .val (.int p2), .val (.int (5 : Int32)), .val (.int p3), .unset, .unset] []))
  refine Run.go (fun _ k => XS.iloadN X0.here hx rfl (hb hby d1_0) rfl  k) ?_
  show Run p e below s 0 0 (Q_rm1_5 Z p1 p2 p3 h0 n0) (s₁.setTop (mkF m 1 #[.val (.int p1), .val (.int p2), .val (.int (5 : Int32)), .val (.int p3), .unset, .unset] [(.int (5 : Int32))]))
  refine Run.go (fun _ k => XS.iloadN X0.here hx rfl (hb hby d1_1) rfl  k) ?_
  show Run p e below s 0 0 (Q_rm1_5 Z p1 p2 p3 h0 n0) (s₁.setTop (mkF m 2 #[.val (.int p1), .val (.int p2), .val (.int (5 : Int32)), .val (.int p3), .unset, .unset] [(.int p3), (.int (5 : Int32))]))
  by_cases hc4 : ((5 : Int32) < p3)
  · refine Run.go (fun _ k => XS.icmpYes X0.here hx rfl (pc0 := 2) (pc' := 7) rfl (hb hby d1_2) rfl (tlt hc4).1 (by decide) (by decide) k) ?_
    show Run p e below s 0 0 (Q_rm1_5 Z p1 p2 p3 h0 n0) (s₁.setTop (mkF m 7 #[.val (.int p1), .val (.int p2), .val (.int (5 : Int32)), .val (.int p3), .unset, .unset] []))
    refine Run.go (fun _ k => XS.iloadN X0.here hx rfl (hb hby d1_7) rfl  k) ?_
    show Run p e below s 0 0 (Q_rm1_5 Z p1 p2 p3 h0 n0) (s₁.setTop (mkF m 8 #[.val (.int p1), .val (.int p2), .val (.int (5 : Int32)), .val (.int p3), .unset, .unset] [(.int (5 : Int32))]))
    refine Run.go (fun _ k => XS.iconst X0.here hx rfl (hb hby d1_8) k) ?_
    show Run p e below s 0 0 (Q_rm1_5 Z p1 p2 p3 h0 n0) (s₁.setTop (mkF m 9 #[.val (.int p1), .val (.int p2), .val (.int (5 : Int32)), .val (.int p3), .unset, .unset] [(.int (4 : Int32)), (.int (5 : Int32))]))
    refine Run.go (fun _ k => XS.icmpYes X0.here hx rfl (pc0 := 9) (pc' := 16) rfl (hb hby d1_9) rfl (flt (by decide)).2.1 (by decide) (by decide) k) ?_
    show Run p e below s 0 0 (Q_rm1_5 Z p1 p2 p3 h0 n0) (s₁.setTop (mkF m 16 #[.val (.int p1), .val (.int p2), .val (.int (5 : Int32)), .val (.int p3), .unset, .unset] []))
    refine Run.go (fun _ k => XS.iloadN X0.here hx rfl (hb hby d1_16) rfl  k) ?_
    show Run p e below s 0 0 (Q_rm1_5 Z p1 p2 p3 h0 n0) (s₁.setTop (mkF m 17 #[.val (.int p1), .val (.int p2), .val (.int (5 : Int32)), .val (.int p3), .unset, .unset] [(.int p2)]))
    refine Run.go (fun _ k => XS.istore X0.here hx rfl (hb hby d1_17) rfl (l' := #[.val (.int p1), .val (.int p2), .val (.int (5 : Int32)), .val (.int p3), .val (.int p2), .unset]) rfl k) ?_
    show Run p e below s 0 0 (Q_rm1_5 Z p1 p2 p3 h0 n0) (s₁.setTop (mkF m 19 #[.val (.int p1), .val (.int p2), .val (.int (5 : Int32)), .val (.int p3), .val (.int p2), .unset] []))
    refine Run.go (fun _ k => XS.iload X0.here hx rfl (hb hby d1_19) rfl  k) ?_
    show Run p e below s 0 0 (Q_rm1_5 Z p1 p2 p3 h0 n0) (s₁.setTop (mkF m 21 #[.val (.int p1), .val (.int p2), .val (.int (5 : Int32)), .val (.int p3), .val (.int p2), .unset] [(.int p2)]))
    refine Run.go (fun _ k => XS.bipush X0.here hx rfl (hb hby d1_21) k) ?_
    show Run p e below s 0 0 (Q_rm1_5 Z p1 p2 p3 h0 n0) (s₁.setTop (mkF m 23 #[.val (.int p1), .val (.int p2), .val (.int (5 : Int32)), .val (.int p3), .val (.int p2), .unset] [(.int (8 : Int32)), (.int p2)]))
    refine Run.go (fun _ k => XS.iloadN X0.here hx rfl (hb hby d1_23) rfl  k) ?_
    show Run p e below s 0 0 (Q_rm1_5 Z p1 p2 p3 h0 n0) (s₁.setTop (mkF m 24 #[.val (.int p1), .val (.int p2), .val (.int (5 : Int32)), .val (.int p3), .val (.int p2), .unset] [(.int (5 : Int32)), (.int (8 : Int32)), (.int p2)]))
    refine Run.go (fun _ k => XS.iconst X0.here hx rfl (hb hby d1_24) k) ?_
    show Run p e below s 0 0 (Q_rm1_5 Z p1 p2 p3 h0 n0) (s₁.setTop (mkF m 25 #[.val (.int p1), .val (.int p2), .val (.int (5 : Int32)), .val (.int p3), .val (.int p2), .unset] [(.int (3 : Int32)), (.int (5 : Int32)), (.int (8 : Int32)), (.int p2)]))
    refine Run.go (fun _ k => XS.iand X0.here hx rfl (hb hby d1_25) rfl k) ?_
    show Run p e below s 0 0 (Q_rm1_5 Z p1 p2 p3 h0 n0) (s₁.setTop (mkF m 26 #[.val (.int p1), .val (.int p2), .val (.int (5 : Int32)), .val (.int p3), .val (.int p2), .unset] [(.int (1 : Int32)), (.int (8 : Int32)), (.int p2)]))
    refine Run.go (fun _ k => XS.imul X0.here hx rfl (hb hby d1_26) rfl k) ?_
    show Run p e below s 0 0 (Q_rm1_5 Z p1 p2 p3 h0 n0) (s₁.setTop (mkF m 27 #[.val (.int p1), .val (.int p2), .val (.int (5 : Int32)), .val (.int p3), .val (.int p2), .unset] [(.int (8 : Int32)), (.int p2)]))
    refine Run.go (fun _ k => XS.bipush X0.here hx rfl (hb hby d1_27) k) ?_
    show Run p e below s 0 0 (Q_rm1_5 Z p1 p2 p3 h0 n0) (s₁.setTop (mkF m 29 #[.val (.int p1), .val (.int p2), .val (.int (5 : Int32)), .val (.int p3), .val (.int p2), .unset] [(.int (7 : Int32)), (.int (8 : Int32)), (.int p2)]))
    refine Run.go (fun _ k => XS.iadd X0.here hx rfl (hb hby d1_29) rfl k) ?_
    show Run p e below s 0 0 (Q_rm1_5 Z p1 p2 p3 h0 n0) (s₁.setTop (mkF m 30 #[.val (.int p1), .val (.int p2), .val (.int (5 : Int32)), .val (.int p3), .val (.int p2), .unset] [(.int (15 : Int32)), (.int p2)]))
    refine Run.go (fun _ k => XS.iushr X0.here hx rfl (hb hby d1_30) rfl k) ?_
    show Run p e below s 0 0 (Q_rm1_5 Z p1 p2 p3 h0 n0) (s₁.setTop (mkF m 31 #[.val (.int p1), .val (.int p2), .val (.int (5 : Int32)), .val (.int p3), .val (.int p2), .unset] [(.int ((p2.toUInt32 >>> ((15 : Int32) &&& 31).toUInt32).toInt32))]))
    refine Run.go (fun _ k => XS.iconst X0.here hx rfl (hb hby d1_31) k) ?_
    show Run p e below s 0 0 (Q_rm1_5 Z p1 p2 p3 h0 n0) (s₁.setTop (mkF m 32 #[.val (.int p1), .val (.int p2), .val (.int (5 : Int32)), .val (.int p3), .val (.int p2), .unset] [(.int (1 : Int32)), (.int ((p2.toUInt32 >>> ((15 : Int32) &&& 31).toUInt32).toInt32))]))
    refine Run.go (fun _ k => XS.iand X0.here hx rfl (hb hby d1_32) rfl k) ?_
    show Run p e below s 0 0 (Q_rm1_5 Z p1 p2 p3 h0 n0) (s₁.setTop (mkF m 33 #[.val (.int p1), .val (.int p2), .val (.int (5 : Int32)), .val (.int p3), .val (.int p2), .unset] [(.int (((p2.toUInt32 >>> ((15 : Int32) &&& 31).toUInt32).toInt32) &&& (1 : Int32)))]))
    refine Run.go (fun _ k => XS.istore X0.here hx rfl (hb hby d1_33) rfl (l' := #[.val (.int p1), .val (.int p2), .val (.int (5 : Int32)), .val (.int p3), .val (.int p2), .val (.int (((p2.toUInt32 >>> ((15 : Int32) &&& 31).toUInt32).toInt32) &&& (1 : Int32)))]) rfl k) ?_
    show Run p e below s 0 0 (Q_rm1_5 Z p1 p2 p3 h0 n0) (s₁.setTop (mkF m 35 #[.val (.int p1), .val (.int p2), .val (.int (5 : Int32)), .val (.int p3), .val (.int p2), .val (.int (((p2.toUInt32 >>> ((15 : Int32) &&& 31).toUInt32).toInt32) &&& (1 : Int32)))] []))
    refine Run.go (fun _ k => XS.iload X0.here hx rfl (hb hby d1_35) rfl  k) ?_
    show Run p e below s 0 0 (Q_rm1_5 Z p1 p2 p3 h0 n0) (s₁.setTop (mkF m 37 #[.val (.int p1), .val (.int p2), .val (.int (5 : Int32)), .val (.int p3), .val (.int p2), .val (.int (((p2.toUInt32 >>> ((15 : Int32) &&& 31).toUInt32).toInt32) &&& (1 : Int32)))] [(.int (((p2.toUInt32 >>> ((15 : Int32) &&& 31).toUInt32).toInt32) &&& (1 : Int32)))]))
    have J5 : ∀ (w6 : Int64) (hw6 : w6 = (if ((((p2.toUInt32 >>> ((15 : Int32) &&& 31).toUInt32).toInt32) &&& (1 : Int32)) = (0 : Int32)) then (1 : Int64) else (0 : Int64))) (T7 : State) (L7 : List Loc) (X7 : Stand p l e ({ frames := 0, cells := 0, slots := 0, locals := 0 } : Room) s m #[(.int p1), (.int p2), (.int (5 : Int32)), (.int p3)] below meth c T7 L7 0 0) (e7 : T7.heap = h0) (N7 : Fr n0 L7), Run p e below s 0 0 (Q_rm1_5 Z p1 p2 p3 h0 n0) (T7.setTop (mkF m 45 #[.val (.int p1), .val (.int p2), .val (.int (5 : Int32)), .val (.int p3), .val (.int p2), .val (.int (((p2.toUInt32 >>> ((15 : Int32) &&& 31).toUInt32).toInt32) &&& (1 : Int32)))] [(.long w6)])) := by
      intro w6 hw6 T7 L7 X7 e7 N7
      show Run p e below s 0 0 (Q_rm1_5 Z p1 p2 p3 h0 n0) (T7.setTop (mkF m 45 #[.val (.int p1), .val (.int p2), .val (.int (5 : Int32)), .val (.int p3), .val (.int p2), .val (.int (((p2.toUInt32 >>> ((15 : Int32) &&& 31).toUInt32).toInt32) &&& (1 : Int32)))] [(.long w6)]))
      refine Run.retJ X7 hx Bd.returns Bd.notSynchronized (hb hby d1_45) (by decide) (by decide) ?_
      show Q_rm1_5 Z p1 p2 p3 h0 n0 _ T7.heap _
      exact ⟨congrArg some (congrArg Value.long (show w6 = (F_rm1_5 p2 p3) from (by subst hw6; unfold F_rm1_5; rw [if_pos hc4]))), N7, e7⟩
    by_cases hc8 : ((((p2.toUInt32 >>> ((15 : Int32) &&& 31).toUInt32).toInt32) &&& (1 : Int32)) = (0 : Int32))
    · refine Run.go (fun _ k => XS.ifNo X0.here hx rfl (hb hby d1_37) rfl ((if0 _ _).trans (teq hc8).2) k) ?_
      show Run p e below s 0 0 (Q_rm1_5 Z p1 p2 p3 h0 n0) (s₁.setTop (mkF m 40 #[.val (.int p1), .val (.int p2), .val (.int (5 : Int32)), .val (.int p3), .val (.int p2), .val (.int (((p2.toUInt32 >>> ((15 : Int32) &&& 31).toUInt32).toInt32) &&& (1 : Int32)))] []))
      refine Run.go (fun _ k => XS.lconst X0.here hx rfl (hb hby d1_40) k) ?_
      show Run p e below s 0 0 (Q_rm1_5 Z p1 p2 p3 h0 n0) (s₁.setTop (mkF m 41 #[.val (.int p1), .val (.int p2), .val (.int (5 : Int32)), .val (.int p3), .val (.int p2), .val (.int (((p2.toUInt32 >>> ((15 : Int32) &&& 31).toUInt32).toInt32) &&& (1 : Int32)))] [(.long (1 : Int64))]))
      refine Run.go (fun _ k => XS.goto X0.here hx rfl (pc0 := 41) (pc' := 45) rfl (hb hby d1_41) (by decide) (by decide) k) ?_
      show Run p e below s 0 0 (Q_rm1_5 Z p1 p2 p3 h0 n0) (s₁.setTop (mkF m 45 #[.val (.int p1), .val (.int p2), .val (.int (5 : Int32)), .val (.int p3), .val (.int p2), .val (.int (((p2.toUInt32 >>> ((15 : Int32) &&& 31).toUInt32).toInt32) &&& (1 : Int32)))] [(.long (1 : Int64))]))
      exact J5 _ (by rw [if_pos hc8]) _ _ X0 e0 N0
    · refine Run.go (fun _ k => XS.ifYes X0.here hx rfl (pc0 := 37) (pc' := 44) rfl (hb hby d1_37) rfl ((if0 _ _).trans (feq hc8).2) (by decide) (by decide) k) ?_
      show Run p e below s 0 0 (Q_rm1_5 Z p1 p2 p3 h0 n0) (s₁.setTop (mkF m 44 #[.val (.int p1), .val (.int p2), .val (.int (5 : Int32)), .val (.int p3), .val (.int p2), .val (.int (((p2.toUInt32 >>> ((15 : Int32) &&& 31).toUInt32).toInt32) &&& (1 : Int32)))] []))
      refine Run.go (fun _ k => XS.lconst X0.here hx rfl (hb hby d1_44) k) ?_
      show Run p e below s 0 0 (Q_rm1_5 Z p1 p2 p3 h0 n0) (s₁.setTop (mkF m 45 #[.val (.int p1), .val (.int p2), .val (.int (5 : Int32)), .val (.int p3), .val (.int p2), .val (.int (((p2.toUInt32 >>> ((15 : Int32) &&& 31).toUInt32).toInt32) &&& (1 : Int32)))] [(.long (0 : Int64))]))
      exact J5 _ (by rw [if_neg hc8]) _ _ X0 e0 N0
  · refine Run.go (fun _ k => XS.icmpNo X0.here hx rfl (hb hby d1_2) rfl (flt hc4).1 k) ?_
    show Run p e below s 0 0 (Q_rm1_5 Z p1 p2 p3 h0 n0) (s₁.setTop (mkF m 5 #[.val (.int p1), .val (.int p2), .val (.int (5 : Int32)), .val (.int p3), .unset, .unset] []))
    refine Run.go (fun _ k => XS.lconst X0.here hx rfl (hb hby d1_5) k) ?_
    show Run p e below s 0 0 (Q_rm1_5 Z p1 p2 p3 h0 n0) (s₁.setTop (mkF m 6 #[.val (.int p1), .val (.int p2), .val (.int (5 : Int32)), .val (.int p3), .unset, .unset] [(.long (0 : Int64))]))
    refine Run.retJ X0 hx Bd.returns Bd.notSynchronized (hb hby d1_6) (by decide) (by decide) ?_
    show Q_rm1_5 Z p1 p2 p3 h0 n0 _ s₁.heap _
    exact ⟨congrArg some (congrArg Value.long (show (0 : Int64) = (F_rm1_5 p2 p3) from (by unfold F_rm1_5; rw [if_neg hc4]))), N0, e0⟩
def F_rm3_6 (p2 : Int32) : Int32 := (((p2.toUInt32 >>> ((16 : Int32) &&& 31).toUInt32).toInt32).toInt8.toInt32)
def Q_rm3_6 (Z : State) (p1 : Int32) (p2 : Int32) (h0 : Heap) (n0 : Nat) (v : Option Value) (h : Heap) (L : List Loc) : Prop := v = some (.int (F_rm3_6 p2)) ∧ Fr n0 L ∧ h = h0
theorem ef_rm3_6 (m : MethodId) (x0 : Int32) (x1 : Int32) : entryFrame m #[(.int x0), (.int x1), (.int (6 : Int32))] 4 = mkF m 0 #[.val (.int x0), .val (.int x1), .val (.int (6 : Int32)), .unset] [] := by first | (simp [entryFrame, mkF, argsToLocals, Value.category]; done) | rfl
set_option maxRecDepth 65536 in
set_option maxHeartbeats 40000000 in
theorem rm3_6 (l : Launch) (Z : State) (a0 : Array Value) (hw : ∀ d ∈ tables_1, d.before a0 Z = true) (ws : List Jvm.Cond) (p1 : Int32) (p2 : Int32) (h0 : Heap) (n0 : Nat) (Z0 : n0 ≤ h0.size)  :
    MetFree l (⟨"com/example/subjectory/subjectory/index/PostingsCountPinLaw", "pick", "(III)B"⟩ : MethodName) (head1 (Jvm.Cond.code (⟨"com/example/subjectory/subjectory/index/PostingsCountPinLaw", "pick", "(III)B"⟩ : MethodName) method_2_code 4 (some .byte) :: ws) ({ frames := 0, cells := 0, slots := 0, locals := 0 } : Room)) (fun a U => a = #[(.int p1), (.int p2), (.int (6 : Int32))] ∧ Z.Warmed39 U.vm ∧ U.heap = h0) (fun _ _ _ _ _ => True) (fun _ U o U' => ∃ v L, o = .returned v ∧ Q_rm3_6 Z p1 p2 h0 n0 v U'.heap L ∧ FrameEnd U o U' L ({ frames := 0, cells := 0, slots := 0, locals := 0 } : Room).cells ({ frames := 0, cells := 0, slots := 0, locals := 0 } : Room).slots) := by
  refine MetFree.of_bodySF (plainFor_of_name pn_1) hisR ?_
  intro p e s m args below meth c s₁ Bd hml0 hP hK
  obtain ⟨rfl, hZ, hh⟩ := hP
  have hx := Bd.exec
  have hby := Bd.bytes
  have hml : c.maxLocals = 4 := hml0
  have hown : s.vm.findClass "com/example/subjectory/subjectory/index/PostingsCountPinLaw" = some m.cls := findClass_of_methodNamed Bd.named
  have hnm := (name_of_methodNamed Bd.named Bd.method).1
  have X0 : Stand p l e ({ frames := 0, cells := 0, slots := 0, locals := 0 } : Room) s m #[(.int p1), (.int p2), (.int (6 : Int32))] below meth c s₁ [] 0 0 := Stand.of_body Bd
  have e0 : s₁.heap = h0 := by rw [← hh, Bd.state]; rfl
  have N0 := Fr.nil n0
  show Run p e below s 0 0 (Q_rm3_6 Z p1 p2 h0 n0) (s₁.setTop (entryFrame m #[(.int p1), (.int p2), (.int (6 : Int32))] 4))
  refine Run.go (fun _ k => castTop (ef_rm3_6 m p1 p2) k) ?_
  show Run p e below s 0 0 (Q_rm3_6 Z p1 p2 h0 n0) (s₁.setTop (mkF m 0 #[.val (.int p1), .val (.int p2), .val (.int (6 : Int32)), .unset] []))
  refine Run.go (fun _ k => XS.iloadN X0.here hx rfl (hb hby d3_0) rfl  k) ?_
  show Run p e below s 0 0 (Q_rm3_6 Z p1 p2 h0 n0) (s₁.setTop (mkF m 1 #[.val (.int p1), .val (.int p2), .val (.int (6 : Int32)), .unset] [(.int (6 : Int32))]))
  refine Run.go (fun _ k => XS.iconst X0.here hx rfl (hb hby d3_1) k) ?_
  show Run p e below s 0 0 (Q_rm3_6 Z p1 p2 h0 n0) (s₁.setTop (mkF m 2 #[.val (.int p1), .val (.int p2), .val (.int (6 : Int32)), .unset] [(.int (4 : Int32)), (.int (6 : Int32))]))
  refine Run.go (fun _ k => XS.icmpYes X0.here hx rfl (pc0 := 2) (pc' := 9) rfl (hb hby d3_2) rfl (flt (by decide)).2.1 (by decide) (by decide) k) ?_
  show Run p e below s 0 0 (Q_rm3_6 Z p1 p2 h0 n0) (s₁.setTop (mkF m 9 #[.val (.int p1), .val (.int p2), .val (.int (6 : Int32)), .unset] []))
  refine Run.go (fun _ k => XS.iloadN X0.here hx rfl (hb hby d3_9) rfl  k) ?_
  show Run p e below s 0 0 (Q_rm3_6 Z p1 p2 h0 n0) (s₁.setTop (mkF m 10 #[.val (.int p1), .val (.int p2), .val (.int (6 : Int32)), .unset] [(.int p2)]))
  refine Run.go (fun _ k => XS.istoreN X0.here hx rfl (hb hby d3_10) rfl (l' := #[.val (.int p1), .val (.int p2), .val (.int (6 : Int32)), .val (.int p2)]) rfl k) ?_
  show Run p e below s 0 0 (Q_rm3_6 Z p1 p2 h0 n0) (s₁.setTop (mkF m 11 #[.val (.int p1), .val (.int p2), .val (.int (6 : Int32)), .val (.int p2)] []))
  refine Run.go (fun _ k => XS.iloadN X0.here hx rfl (hb hby d3_11) rfl  k) ?_
  show Run p e below s 0 0 (Q_rm3_6 Z p1 p2 h0 n0) (s₁.setTop (mkF m 12 #[.val (.int p1), .val (.int p2), .val (.int (6 : Int32)), .val (.int p2)] [(.int p2)]))
  refine Run.go (fun _ k => XS.bipush X0.here hx rfl (hb hby d3_12) k) ?_
  show Run p e below s 0 0 (Q_rm3_6 Z p1 p2 h0 n0) (s₁.setTop (mkF m 14 #[.val (.int p1), .val (.int p2), .val (.int (6 : Int32)), .val (.int p2)] [(.int (8 : Int32)), (.int p2)]))
  refine Run.go (fun _ k => XS.iloadN X0.here hx rfl (hb hby d3_14) rfl  k) ?_
  show Run p e below s 0 0 (Q_rm3_6 Z p1 p2 h0 n0) (s₁.setTop (mkF m 15 #[.val (.int p1), .val (.int p2), .val (.int (6 : Int32)), .val (.int p2)] [(.int (6 : Int32)), (.int (8 : Int32)), (.int p2)]))
  refine Run.go (fun _ k => XS.iconst X0.here hx rfl (hb hby d3_15) k) ?_
  show Run p e below s 0 0 (Q_rm3_6 Z p1 p2 h0 n0) (s₁.setTop (mkF m 16 #[.val (.int p1), .val (.int p2), .val (.int (6 : Int32)), .val (.int p2)] [(.int (3 : Int32)), (.int (6 : Int32)), (.int (8 : Int32)), (.int p2)]))
  refine Run.go (fun _ k => XS.iand X0.here hx rfl (hb hby d3_16) rfl k) ?_
  show Run p e below s 0 0 (Q_rm3_6 Z p1 p2 h0 n0) (s₁.setTop (mkF m 17 #[.val (.int p1), .val (.int p2), .val (.int (6 : Int32)), .val (.int p2)] [(.int (2 : Int32)), (.int (8 : Int32)), (.int p2)]))
  refine Run.go (fun _ k => XS.imul X0.here hx rfl (hb hby d3_17) rfl k) ?_
  show Run p e below s 0 0 (Q_rm3_6 Z p1 p2 h0 n0) (s₁.setTop (mkF m 18 #[.val (.int p1), .val (.int p2), .val (.int (6 : Int32)), .val (.int p2)] [(.int (16 : Int32)), (.int p2)]))
  refine Run.go (fun _ k => XS.iushr X0.here hx rfl (hb hby d3_18) rfl k) ?_
  show Run p e below s 0 0 (Q_rm3_6 Z p1 p2 h0 n0) (s₁.setTop (mkF m 19 #[.val (.int p1), .val (.int p2), .val (.int (6 : Int32)), .val (.int p2)] [(.int ((p2.toUInt32 >>> ((16 : Int32) &&& 31).toUInt32).toInt32))]))
  refine Run.go (fun _ k => XS.i2b X0.here hx rfl (hb hby d3_19) rfl k) ?_
  show Run p e below s 0 0 (Q_rm3_6 Z p1 p2 h0 n0) (s₁.setTop (mkF m 20 #[.val (.int p1), .val (.int p2), .val (.int (6 : Int32)), .val (.int p2)] [(.int (((p2.toUInt32 >>> ((16 : Int32) &&& 31).toUInt32).toInt32).toInt8.toInt32))]))
  refine Run.retN (y := (((p2.toUInt32 >>> ((16 : Int32) &&& 31).toUInt32).toInt32).toInt8.toInt32)) X0 hx (t := .byte) Bd.returns (by simp) (b_idem _) Bd.notSynchronized (hb hby d3_20) (by decide) (by decide) ?_
  show Q_rm3_6 Z p1 p2 h0 n0 _ s₁.heap _
  exact ⟨congrArg some (congrArg Value.int (show (((p2.toUInt32 >>> ((16 : Int32) &&& 31).toUInt32).toInt32).toInt8.toInt32) = (F_rm3_6 p2) from (by unfold F_rm3_6; rfl))), N0, e0⟩
def F_rm1_6 (p2 : Int32) (p3 : Int32) : Int64 := (if ((6 : Int32) < p3) then (if ((((p2.toUInt32 >>> ((23 : Int32) &&& 31).toUInt32).toInt32) &&& (1 : Int32)) = (0 : Int32)) then (1 : Int64) else (0 : Int64)) else (0 : Int64))
def Q_rm1_6 (Z : State) (p1 : Int32) (p2 : Int32) (p3 : Int32) (h0 : Heap) (n0 : Nat) (v : Option Value) (h : Heap) (L : List Loc) : Prop := v = some (.long (F_rm1_6 p2 p3)) ∧ Fr n0 L ∧ h = h0
theorem ef_rm1_6 (m : MethodId) (x0 : Int32) (x1 : Int32) (x3 : Int32) : entryFrame m #[(.int x0), (.int x1), (.int (6 : Int32)), (.int x3)] 6 = mkF m 0 #[.val (.int x0), .val (.int x1), .val (.int (6 : Int32)), .val (.int x3), .unset, .unset] [] := by first | (simp [entryFrame, mkF, argsToLocals, Value.category]; done) | rfl
set_option maxRecDepth 65536 in
set_option maxHeartbeats 40000000 in
theorem rm1_6 (l : Launch) (Z : State) (a0 : Array Value) (hw : ∀ d ∈ tables_1, d.before a0 Z = true) (ws : List Jvm.Cond) (p1 : Int32) (p2 : Int32) (p3 : Int32) (h0 : Heap) (n0 : Nat) (Z0 : n0 ≤ h0.size)  :
    MetFree l (⟨"com/example/subjectory/subjectory/index/PostingsCountPinLaw", "term", "(IIII)J"⟩ : MethodName) (head1 (Jvm.Cond.code (⟨"com/example/subjectory/subjectory/index/PostingsCountPinLaw", "term", "(IIII)J"⟩ : MethodName) method_3_code 6 (some .long) :: ws) ({ frames := 0, cells := 0, slots := 0, locals := 0 } : Room)) (fun a U => a = #[(.int p1), (.int p2), (.int (6 : Int32)), (.int p3)] ∧ Z.Warmed39 U.vm ∧ U.heap = h0) (fun _ _ _ _ _ => True) (fun _ U o U' => ∃ v L, o = .returned v ∧ Q_rm1_6 Z p1 p2 p3 h0 n0 v U'.heap L ∧ FrameEnd U o U' L ({ frames := 0, cells := 0, slots := 0, locals := 0 } : Room).cells ({ frames := 0, cells := 0, slots := 0, locals := 0 } : Room).slots) := by
  refine MetFree.of_bodySF (plainFor_of_name pn_1) hisR ?_
  intro p e s m args below meth c s₁ Bd hml0 hP hK
  obtain ⟨rfl, hZ, hh⟩ := hP
  have hx := Bd.exec
  have hby := Bd.bytes
  have hml : c.maxLocals = 6 := hml0
  have hown : s.vm.findClass "com/example/subjectory/subjectory/index/PostingsCountPinLaw" = some m.cls := findClass_of_methodNamed Bd.named
  have hnm := (name_of_methodNamed Bd.named Bd.method).1
  have X0 : Stand p l e ({ frames := 0, cells := 0, slots := 0, locals := 0 } : Room) s m #[(.int p1), (.int p2), (.int (6 : Int32)), (.int p3)] below meth c s₁ [] 0 0 := Stand.of_body Bd
  have e0 : s₁.heap = h0 := by rw [← hh, Bd.state]; rfl
  have N0 := Fr.nil n0
  show Run p e below s 0 0 (Q_rm1_6 Z p1 p2 p3 h0 n0) (s₁.setTop (entryFrame m #[(.int p1), (.int p2), (.int (6 : Int32)), (.int p3)] 6))
  refine Run.go (fun _ k => castTop (ef_rm1_6 m p1 p2 p3) k) ?_
  show Run p e below s 0 0 (Q_rm1_6 Z p1 p2 p3 h0 n0) (s₁.setTop (mkF m 0 #[.val (.int p1), .val (.int p2), .val (.int (6 : Int32)), .val (.int p3), .unset, .unset] []))
  refine Run.go (fun _ k => XS.iloadN X0.here hx rfl (hb hby d1_0) rfl  k) ?_
  show Run p e below s 0 0 (Q_rm1_6 Z p1 p2 p3 h0 n0) (s₁.setTop (mkF m 1 #[.val (.int p1), .val (.int p2), .val (.int (6 : Int32)), .val (.int p3), .unset, .unset] [(.int (6 : Int32))]))
  refine Run.go (fun _ k => XS.iloadN X0.here hx rfl (hb hby d1_1) rfl  k) ?_
  show Run p e below s 0 0 (Q_rm1_6 Z p1 p2 p3 h0 n0) (s₁.setTop (mkF m 2 #[.val (.int p1), .val (.int p2), .val (.int (6 : Int32)), .val (.int p3), .unset, .unset] [(.int p3), (.int (6 : Int32))]))
  by_cases hc4 : ((6 : Int32) < p3)
  · refine Run.go (fun _ k => XS.icmpYes X0.here hx rfl (pc0 := 2) (pc' := 7) rfl (hb hby d1_2) rfl (tlt hc4).1 (by decide) (by decide) k) ?_
    show Run p e below s 0 0 (Q_rm1_6 Z p1 p2 p3 h0 n0) (s₁.setTop (mkF m 7 #[.val (.int p1), .val (.int p2), .val (.int (6 : Int32)), .val (.int p3), .unset, .unset] []))
    refine Run.go (fun _ k => XS.iloadN X0.here hx rfl (hb hby d1_7) rfl  k) ?_
    show Run p e below s 0 0 (Q_rm1_6 Z p1 p2 p3 h0 n0) (s₁.setTop (mkF m 8 #[.val (.int p1), .val (.int p2), .val (.int (6 : Int32)), .val (.int p3), .unset, .unset] [(.int (6 : Int32))]))
    refine Run.go (fun _ k => XS.iconst X0.here hx rfl (hb hby d1_8) k) ?_
    show Run p e below s 0 0 (Q_rm1_6 Z p1 p2 p3 h0 n0) (s₁.setTop (mkF m 9 #[.val (.int p1), .val (.int p2), .val (.int (6 : Int32)), .val (.int p3), .unset, .unset] [(.int (4 : Int32)), (.int (6 : Int32))]))
    refine Run.go (fun _ k => XS.icmpYes X0.here hx rfl (pc0 := 9) (pc' := 16) rfl (hb hby d1_9) rfl (flt (by decide)).2.1 (by decide) (by decide) k) ?_
    show Run p e below s 0 0 (Q_rm1_6 Z p1 p2 p3 h0 n0) (s₁.setTop (mkF m 16 #[.val (.int p1), .val (.int p2), .val (.int (6 : Int32)), .val (.int p3), .unset, .unset] []))
    refine Run.go (fun _ k => XS.iloadN X0.here hx rfl (hb hby d1_16) rfl  k) ?_
    show Run p e below s 0 0 (Q_rm1_6 Z p1 p2 p3 h0 n0) (s₁.setTop (mkF m 17 #[.val (.int p1), .val (.int p2), .val (.int (6 : Int32)), .val (.int p3), .unset, .unset] [(.int p2)]))
    refine Run.go (fun _ k => XS.istore X0.here hx rfl (hb hby d1_17) rfl (l' := #[.val (.int p1), .val (.int p2), .val (.int (6 : Int32)), .val (.int p3), .val (.int p2), .unset]) rfl k) ?_
    show Run p e below s 0 0 (Q_rm1_6 Z p1 p2 p3 h0 n0) (s₁.setTop (mkF m 19 #[.val (.int p1), .val (.int p2), .val (.int (6 : Int32)), .val (.int p3), .val (.int p2), .unset] []))
    refine Run.go (fun _ k => XS.iload X0.here hx rfl (hb hby d1_19) rfl  k) ?_
    show Run p e below s 0 0 (Q_rm1_6 Z p1 p2 p3 h0 n0) (s₁.setTop (mkF m 21 #[.val (.int p1), .val (.int p2), .val (.int (6 : Int32)), .val (.int p3), .val (.int p2), .unset] [(.int p2)]))
    refine Run.go (fun _ k => XS.bipush X0.here hx rfl (hb hby d1_21) k) ?_
    show Run p e below s 0 0 (Q_rm1_6 Z p1 p2 p3 h0 n0) (s₁.setTop (mkF m 23 #[.val (.int p1), .val (.int p2), .val (.int (6 : Int32)), .val (.int p3), .val (.int p2), .unset] [(.int (8 : Int32)), (.int p2)]))
    refine Run.go (fun _ k => XS.iloadN X0.here hx rfl (hb hby d1_23) rfl  k) ?_
    show Run p e below s 0 0 (Q_rm1_6 Z p1 p2 p3 h0 n0) (s₁.setTop (mkF m 24 #[.val (.int p1), .val (.int p2), .val (.int (6 : Int32)), .val (.int p3), .val (.int p2), .unset] [(.int (6 : Int32)), (.int (8 : Int32)), (.int p2)]))
    refine Run.go (fun _ k => XS.iconst X0.here hx rfl (hb hby d1_24) k) ?_
    show Run p e below s 0 0 (Q_rm1_6 Z p1 p2 p3 h0 n0) (s₁.setTop (mkF m 25 #[.val (.int p1), .val (.int p2), .val (.int (6 : Int32)), .val (.int p3), .val (.int p2), .unset] [(.int (3 : Int32)), (.int (6 : Int32)), (.int (8 : Int32)), (.int p2)]))
    refine Run.go (fun _ k => XS.iand X0.here hx rfl (hb hby d1_25) rfl k) ?_
    show Run p e below s 0 0 (Q_rm1_6 Z p1 p2 p3 h0 n0) (s₁.setTop (mkF m 26 #[.val (.int p1), .val (.int p2), .val (.int (6 : Int32)), .val (.int p3), .val (.int p2), .unset] [(.int (2 : Int32)), (.int (8 : Int32)), (.int p2)]))
    refine Run.go (fun _ k => XS.imul X0.here hx rfl (hb hby d1_26) rfl k) ?_
    show Run p e below s 0 0 (Q_rm1_6 Z p1 p2 p3 h0 n0) (s₁.setTop (mkF m 27 #[.val (.int p1), .val (.int p2), .val (.int (6 : Int32)), .val (.int p3), .val (.int p2), .unset] [(.int (16 : Int32)), (.int p2)]))
    refine Run.go (fun _ k => XS.bipush X0.here hx rfl (hb hby d1_27) k) ?_
    show Run p e below s 0 0 (Q_rm1_6 Z p1 p2 p3 h0 n0) (s₁.setTop (mkF m 29 #[.val (.int p1), .val (.int p2), .val (.int (6 : Int32)), .val (.int p3), .val (.int p2), .unset] [(.int (7 : Int32)), (.int (16 : Int32)), (.int p2)]))
    refine Run.go (fun _ k => XS.iadd X0.here hx rfl (hb hby d1_29) rfl k) ?_
    show Run p e below s 0 0 (Q_rm1_6 Z p1 p2 p3 h0 n0) (s₁.setTop (mkF m 30 #[.val (.int p1), .val (.int p2), .val (.int (6 : Int32)), .val (.int p3), .val (.int p2), .unset] [(.int (23 : Int32)), (.int p2)]))
    refine Run.go (fun _ k => XS.iushr X0.here hx rfl (hb hby d1_30) rfl k) ?_
    show Run p e below s 0 0 (Q_rm1_6 Z p1 p2 p3 h0 n0) (s₁.setTop (mkF m 31 #[.val (.int p1), .val (.int p2), .val (.int (6 : Int32)), .val (.int p3), .val (.int p2), .unset] [(.int ((p2.toUInt32 >>> ((23 : Int32) &&& 31).toUInt32).toInt32))]))
    refine Run.go (fun _ k => XS.iconst X0.here hx rfl (hb hby d1_31) k) ?_
    show Run p e below s 0 0 (Q_rm1_6 Z p1 p2 p3 h0 n0) (s₁.setTop (mkF m 32 #[.val (.int p1), .val (.int p2), .val (.int (6 : Int32)), .val (.int p3), .val (.int p2), .unset] [(.int (1 : Int32)), (.int ((p2.toUInt32 >>> ((23 : Int32) &&& 31).toUInt32).toInt32))]))
    refine Run.go (fun _ k => XS.iand X0.here hx rfl (hb hby d1_32) rfl k) ?_
    show Run p e below s 0 0 (Q_rm1_6 Z p1 p2 p3 h0 n0) (s₁.setTop (mkF m 33 #[.val (.int p1), .val (.int p2), .val (.int (6 : Int32)), .val (.int p3), .val (.int p2), .unset] [(.int (((p2.toUInt32 >>> ((23 : Int32) &&& 31).toUInt32).toInt32) &&& (1 : Int32)))]))
    refine Run.go (fun _ k => XS.istore X0.here hx rfl (hb hby d1_33) rfl (l' := #[.val (.int p1), .val (.int p2), .val (.int (6 : Int32)), .val (.int p3), .val (.int p2), .val (.int (((p2.toUInt32 >>> ((23 : Int32) &&& 31).toUInt32).toInt32) &&& (1 : Int32)))]) rfl k) ?_
    show Run p e below s 0 0 (Q_rm1_6 Z p1 p2 p3 h0 n0) (s₁.setTop (mkF m 35 #[.val (.int p1), .val (.int p2), .val (.int (6 : Int32)), .val (.int p3), .val (.int p2), .val (.int (((p2.toUInt32 >>> ((23 : Int32) &&& 31).toUInt32).toInt32) &&& (1 : Int32)))] []))
    refine Run.go (fun _ k => XS.iload X0.here hx rfl (hb hby d1_35) rfl  k) ?_
    show Run p e below s 0 0 (Q_rm1_6 Z p1 p2 p3 h0 n0) (s₁.setTop (mkF m 37 #[.val (.int p1), .val (.int p2), .val (.int (6 : Int32)), .val (.int p3), .val (.int p2), .val (.int (((p2.toUInt32 >>> ((23 : Int32) &&& 31).toUInt32).toInt32) &&& (1 : Int32)))] [(.int (((p2.toUInt32 >>> ((23 : Int32) &&& 31).toUInt32).toInt32) &&& (1 : Int32)))]))
    have J5 : ∀ (w6 : Int64) (hw6 : w6 = (if ((((p2.toUInt32 >>> ((23 : Int32) &&& 31).toUInt32).toInt32) &&& (1 : Int32)) = (0 : Int32)) then (1 : Int64) else (0 : Int64))) (T7 : State) (L7 : List Loc) (X7 : Stand p l e ({ frames := 0, cells := 0, slots := 0, locals := 0 } : Room) s m #[(.int p1), (.int p2), (.int (6 : Int32)), (.int p3)] below meth c T7 L7 0 0) (e7 : T7.heap = h0) (N7 : Fr n0 L7), Run p e below s 0 0 (Q_rm1_6 Z p1 p2 p3 h0 n0) (T7.setTop (mkF m 45 #[.val (.int p1), .val (.int p2), .val (.int (6 : Int32)), .val (.int p3), .val (.int p2), .val (.int (((p2.toUInt32 >>> ((23 : Int32) &&& 31).toUInt32).toInt32) &&& (1 : Int32)))] [(.long w6)])) := by
      intro w6 hw6 T7 L7 X7 e7 N7
      show Run p e below s 0 0 (Q_rm1_6 Z p1 p2 p3 h0 n0) (T7.setTop (mkF m 45 #[.val (.int p1), .val (.int p2), .val (.int (6 : Int32)), .val (.int p3), .val (.int p2), .val (.int (((p2.toUInt32 >>> ((23 : Int32) &&& 31).toUInt32).toInt32) &&& (1 : Int32)))] [(.long w6)]))
      refine Run.retJ X7 hx Bd.returns Bd.notSynchronized (hb hby d1_45) (by decide) (by decide) ?_
      show Q_rm1_6 Z p1 p2 p3 h0 n0 _ T7.heap _
      exact ⟨congrArg some (congrArg Value.long (show w6 = (F_rm1_6 p2 p3) from (by subst hw6; unfold F_rm1_6; rw [if_pos hc4]))), N7, e7⟩
    by_cases hc8 : ((((p2.toUInt32 >>> ((23 : Int32) &&& 31).toUInt32).toInt32) &&& (1 : Int32)) = (0 : Int32))
    · refine Run.go (fun _ k => XS.ifNo X0.here hx rfl (hb hby d1_37) rfl ((if0 _ _).trans (teq hc8).2) k) ?_
      show Run p e below s 0 0 (Q_rm1_6 Z p1 p2 p3 h0 n0) (s₁.setTop (mkF m 40 #[.val (.int p1), .val (.int p2), .val (.int (6 : Int32)), .val (.int p3), .val (.int p2), .val (.int (((p2.toUInt32 >>> ((23 : Int32) &&& 31).toUInt32).toInt32) &&& (1 : Int32)))] []))
      refine Run.go (fun _ k => XS.lconst X0.here hx rfl (hb hby d1_40) k) ?_
      show Run p e below s 0 0 (Q_rm1_6 Z p1 p2 p3 h0 n0) (s₁.setTop (mkF m 41 #[.val (.int p1), .val (.int p2), .val (.int (6 : Int32)), .val (.int p3), .val (.int p2), .val (.int (((p2.toUInt32 >>> ((23 : Int32) &&& 31).toUInt32).toInt32) &&& (1 : Int32)))] [(.long (1 : Int64))]))
      refine Run.go (fun _ k => XS.goto X0.here hx rfl (pc0 := 41) (pc' := 45) rfl (hb hby d1_41) (by decide) (by decide) k) ?_
      show Run p e below s 0 0 (Q_rm1_6 Z p1 p2 p3 h0 n0) (s₁.setTop (mkF m 45 #[.val (.int p1), .val (.int p2), .val (.int (6 : Int32)), .val (.int p3), .val (.int p2), .val (.int (((p2.toUInt32 >>> ((23 : Int32) &&& 31).toUInt32).toInt32) &&& (1 : Int32)))] [(.long (1 : Int64))]))
      exact J5 _ (by rw [if_pos hc8]) _ _ X0 e0 N0
    · refine Run.go (fun _ k => XS.ifYes X0.here hx rfl (pc0 := 37) (pc' := 44) rfl (hb hby d1_37) rfl ((if0 _ _).trans (feq hc8).2) (by decide) (by decide) k) ?_
      show Run p e below s 0 0 (Q_rm1_6 Z p1 p2 p3 h0 n0) (s₁.setTop (mkF m 44 #[.val (.int p1), .val (.int p2), .val (.int (6 : Int32)), .val (.int p3), .val (.int p2), .val (.int (((p2.toUInt32 >>> ((23 : Int32) &&& 31).toUInt32).toInt32) &&& (1 : Int32)))] []))
      refine Run.go (fun _ k => XS.lconst X0.here hx rfl (hb hby d1_44) k) ?_
      show Run p e below s 0 0 (Q_rm1_6 Z p1 p2 p3 h0 n0) (s₁.setTop (mkF m 45 #[.val (.int p1), .val (.int p2), .val (.int (6 : Int32)), .val (.int p3), .val (.int p2), .val (.int (((p2.toUInt32 >>> ((23 : Int32) &&& 31).toUInt32).toInt32) &&& (1 : Int32)))] [(.long (0 : Int64))]))
      exact J5 _ (by rw [if_neg hc8]) _ _ X0 e0 N0
  · refine Run.go (fun _ k => XS.icmpNo X0.here hx rfl (hb hby d1_2) rfl (flt hc4).1 k) ?_
    show Run p e below s 0 0 (Q_rm1_6 Z p1 p2 p3 h0 n0) (s₁.setTop (mkF m 5 #[.val (.int p1), .val (.int p2), .val (.int (6 : Int32)), .val (.int p3), .unset, .unset] []))
    refine Run.go (fun _ k => XS.lconst X0.here hx rfl (hb hby d1_5) k) ?_
    show Run p e below s 0 0 (Q_rm1_6 Z p1 p2 p3 h0 n0) (s₁.setTop (mkF m 6 #[.val (.int p1), .val (.int p2), .val (.int (6 : Int32)), .val (.int p3), .unset, .unset] [(.long (0 : Int64))]))
    refine Run.retJ X0 hx Bd.returns Bd.notSynchronized (hb hby d1_6) (by decide) (by decide) ?_
    show Q_rm1_6 Z p1 p2 p3 h0 n0 _ s₁.heap _
    exact ⟨congrArg some (congrArg Value.long (show (0 : Int64) = (F_rm1_6 p2 p3) from (by unfold F_rm1_6; rw [if_neg hc4]))), N0, e0⟩
def F_rm3_7 (p2 : Int32) : Int32 := (((p2.toUInt32 >>> ((24 : Int32) &&& 31).toUInt32).toInt32).toInt8.toInt32)
def Q_rm3_7 (Z : State) (p1 : Int32) (p2 : Int32) (h0 : Heap) (n0 : Nat) (v : Option Value) (h : Heap) (L : List Loc) : Prop := v = some (.int (F_rm3_7 p2)) ∧ Fr n0 L ∧ h = h0
theorem ef_rm3_7 (m : MethodId) (x0 : Int32) (x1 : Int32) : entryFrame m #[(.int x0), (.int x1), (.int (7 : Int32))] 4 = mkF m 0 #[.val (.int x0), .val (.int x1), .val (.int (7 : Int32)), .unset] [] := by first | (simp [entryFrame, mkF, argsToLocals, Value.category]; done) | rfl
set_option maxRecDepth 65536 in
set_option maxHeartbeats 40000000 in
theorem rm3_7 (l : Launch) (Z : State) (a0 : Array Value) (hw : ∀ d ∈ tables_1, d.before a0 Z = true) (ws : List Jvm.Cond) (p1 : Int32) (p2 : Int32) (h0 : Heap) (n0 : Nat) (Z0 : n0 ≤ h0.size)  :
    MetFree l (⟨"com/example/subjectory/subjectory/index/PostingsCountPinLaw", "pick", "(III)B"⟩ : MethodName) (head1 (Jvm.Cond.code (⟨"com/example/subjectory/subjectory/index/PostingsCountPinLaw", "pick", "(III)B"⟩ : MethodName) method_2_code 4 (some .byte) :: ws) ({ frames := 0, cells := 0, slots := 0, locals := 0 } : Room)) (fun a U => a = #[(.int p1), (.int p2), (.int (7 : Int32))] ∧ Z.Warmed39 U.vm ∧ U.heap = h0) (fun _ _ _ _ _ => True) (fun _ U o U' => ∃ v L, o = .returned v ∧ Q_rm3_7 Z p1 p2 h0 n0 v U'.heap L ∧ FrameEnd U o U' L ({ frames := 0, cells := 0, slots := 0, locals := 0 } : Room).cells ({ frames := 0, cells := 0, slots := 0, locals := 0 } : Room).slots) := by
  refine MetFree.of_bodySF (plainFor_of_name pn_1) hisR ?_
  intro p e s m args below meth c s₁ Bd hml0 hP hK
  obtain ⟨rfl, hZ, hh⟩ := hP
  have hx := Bd.exec
  have hby := Bd.bytes
  have hml : c.maxLocals = 4 := hml0
  have hown : s.vm.findClass "com/example/subjectory/subjectory/index/PostingsCountPinLaw" = some m.cls := findClass_of_methodNamed Bd.named
  have hnm := (name_of_methodNamed Bd.named Bd.method).1
  have X0 : Stand p l e ({ frames := 0, cells := 0, slots := 0, locals := 0 } : Room) s m #[(.int p1), (.int p2), (.int (7 : Int32))] below meth c s₁ [] 0 0 := Stand.of_body Bd
  have e0 : s₁.heap = h0 := by rw [← hh, Bd.state]; rfl
  have N0 := Fr.nil n0
  show Run p e below s 0 0 (Q_rm3_7 Z p1 p2 h0 n0) (s₁.setTop (entryFrame m #[(.int p1), (.int p2), (.int (7 : Int32))] 4))
  refine Run.go (fun _ k => castTop (ef_rm3_7 m p1 p2) k) ?_
  show Run p e below s 0 0 (Q_rm3_7 Z p1 p2 h0 n0) (s₁.setTop (mkF m 0 #[.val (.int p1), .val (.int p2), .val (.int (7 : Int32)), .unset] []))
  refine Run.go (fun _ k => XS.iloadN X0.here hx rfl (hb hby d3_0) rfl  k) ?_
  show Run p e below s 0 0 (Q_rm3_7 Z p1 p2 h0 n0) (s₁.setTop (mkF m 1 #[.val (.int p1), .val (.int p2), .val (.int (7 : Int32)), .unset] [(.int (7 : Int32))]))
  refine Run.go (fun _ k => XS.iconst X0.here hx rfl (hb hby d3_1) k) ?_
  show Run p e below s 0 0 (Q_rm3_7 Z p1 p2 h0 n0) (s₁.setTop (mkF m 2 #[.val (.int p1), .val (.int p2), .val (.int (7 : Int32)), .unset] [(.int (4 : Int32)), (.int (7 : Int32))]))
  refine Run.go (fun _ k => XS.icmpYes X0.here hx rfl (pc0 := 2) (pc' := 9) rfl (hb hby d3_2) rfl (flt (by decide)).2.1 (by decide) (by decide) k) ?_
  show Run p e below s 0 0 (Q_rm3_7 Z p1 p2 h0 n0) (s₁.setTop (mkF m 9 #[.val (.int p1), .val (.int p2), .val (.int (7 : Int32)), .unset] []))
  refine Run.go (fun _ k => XS.iloadN X0.here hx rfl (hb hby d3_9) rfl  k) ?_
  show Run p e below s 0 0 (Q_rm3_7 Z p1 p2 h0 n0) (s₁.setTop (mkF m 10 #[.val (.int p1), .val (.int p2), .val (.int (7 : Int32)), .unset] [(.int p2)]))
  refine Run.go (fun _ k => XS.istoreN X0.here hx rfl (hb hby d3_10) rfl (l' := #[.val (.int p1), .val (.int p2), .val (.int (7 : Int32)), .val (.int p2)]) rfl k) ?_
  show Run p e below s 0 0 (Q_rm3_7 Z p1 p2 h0 n0) (s₁.setTop (mkF m 11 #[.val (.int p1), .val (.int p2), .val (.int (7 : Int32)), .val (.int p2)] []))
  refine Run.go (fun _ k => XS.iloadN X0.here hx rfl (hb hby d3_11) rfl  k) ?_
  show Run p e below s 0 0 (Q_rm3_7 Z p1 p2 h0 n0) (s₁.setTop (mkF m 12 #[.val (.int p1), .val (.int p2), .val (.int (7 : Int32)), .val (.int p2)] [(.int p2)]))
  refine Run.go (fun _ k => XS.bipush X0.here hx rfl (hb hby d3_12) k) ?_
  show Run p e below s 0 0 (Q_rm3_7 Z p1 p2 h0 n0) (s₁.setTop (mkF m 14 #[.val (.int p1), .val (.int p2), .val (.int (7 : Int32)), .val (.int p2)] [(.int (8 : Int32)), (.int p2)]))
  refine Run.go (fun _ k => XS.iloadN X0.here hx rfl (hb hby d3_14) rfl  k) ?_
  show Run p e below s 0 0 (Q_rm3_7 Z p1 p2 h0 n0) (s₁.setTop (mkF m 15 #[.val (.int p1), .val (.int p2), .val (.int (7 : Int32)), .val (.int p2)] [(.int (7 : Int32)), (.int (8 : Int32)), (.int p2)]))
  refine Run.go (fun _ k => XS.iconst X0.here hx rfl (hb hby d3_15) k) ?_
  show Run p e below s 0 0 (Q_rm3_7 Z p1 p2 h0 n0) (s₁.setTop (mkF m 16 #[.val (.int p1), .val (.int p2), .val (.int (7 : Int32)), .val (.int p2)] [(.int (3 : Int32)), (.int (7 : Int32)), (.int (8 : Int32)), (.int p2)]))
  refine Run.go (fun _ k => XS.iand X0.here hx rfl (hb hby d3_16) rfl k) ?_
  show Run p e below s 0 0 (Q_rm3_7 Z p1 p2 h0 n0) (s₁.setTop (mkF m 17 #[.val (.int p1), .val (.int p2), .val (.int (7 : Int32)), .val (.int p2)] [(.int (3 : Int32)), (.int (8 : Int32)), (.int p2)]))
  refine Run.go (fun _ k => XS.imul X0.here hx rfl (hb hby d3_17) rfl k) ?_
  show Run p e below s 0 0 (Q_rm3_7 Z p1 p2 h0 n0) (s₁.setTop (mkF m 18 #[.val (.int p1), .val (.int p2), .val (.int (7 : Int32)), .val (.int p2)] [(.int (24 : Int32)), (.int p2)]))
  refine Run.go (fun _ k => XS.iushr X0.here hx rfl (hb hby d3_18) rfl k) ?_
  show Run p e below s 0 0 (Q_rm3_7 Z p1 p2 h0 n0) (s₁.setTop (mkF m 19 #[.val (.int p1), .val (.int p2), .val (.int (7 : Int32)), .val (.int p2)] [(.int ((p2.toUInt32 >>> ((24 : Int32) &&& 31).toUInt32).toInt32))]))
  refine Run.go (fun _ k => XS.i2b X0.here hx rfl (hb hby d3_19) rfl k) ?_
  show Run p e below s 0 0 (Q_rm3_7 Z p1 p2 h0 n0) (s₁.setTop (mkF m 20 #[.val (.int p1), .val (.int p2), .val (.int (7 : Int32)), .val (.int p2)] [(.int (((p2.toUInt32 >>> ((24 : Int32) &&& 31).toUInt32).toInt32).toInt8.toInt32))]))
  refine Run.retN (y := (((p2.toUInt32 >>> ((24 : Int32) &&& 31).toUInt32).toInt32).toInt8.toInt32)) X0 hx (t := .byte) Bd.returns (by simp) (b_idem _) Bd.notSynchronized (hb hby d3_20) (by decide) (by decide) ?_
  show Q_rm3_7 Z p1 p2 h0 n0 _ s₁.heap _
  exact ⟨congrArg some (congrArg Value.int (show (((p2.toUInt32 >>> ((24 : Int32) &&& 31).toUInt32).toInt32).toInt8.toInt32) = (F_rm3_7 p2) from (by unfold F_rm3_7; rfl))), N0, e0⟩
def F_rm1_7 (p2 : Int32) (p3 : Int32) : Int64 := (if ((7 : Int32) < p3) then (if ((((p2.toUInt32 >>> ((31 : Int32) &&& 31).toUInt32).toInt32) &&& (1 : Int32)) = (0 : Int32)) then (1 : Int64) else (0 : Int64)) else (0 : Int64))
def Q_rm1_7 (Z : State) (p1 : Int32) (p2 : Int32) (p3 : Int32) (h0 : Heap) (n0 : Nat) (v : Option Value) (h : Heap) (L : List Loc) : Prop := v = some (.long (F_rm1_7 p2 p3)) ∧ Fr n0 L ∧ h = h0
theorem ef_rm1_7 (m : MethodId) (x0 : Int32) (x1 : Int32) (x3 : Int32) : entryFrame m #[(.int x0), (.int x1), (.int (7 : Int32)), (.int x3)] 6 = mkF m 0 #[.val (.int x0), .val (.int x1), .val (.int (7 : Int32)), .val (.int x3), .unset, .unset] [] := by first | (simp [entryFrame, mkF, argsToLocals, Value.category]; done) | rfl
set_option maxRecDepth 65536 in
set_option maxHeartbeats 40000000 in
theorem rm1_7 (l : Launch) (Z : State) (a0 : Array Value) (hw : ∀ d ∈ tables_1, d.before a0 Z = true) (ws : List Jvm.Cond) (p1 : Int32) (p2 : Int32) (p3 : Int32) (h0 : Heap) (n0 : Nat) (Z0 : n0 ≤ h0.size)  :
    MetFree l (⟨"com/example/subjectory/subjectory/index/PostingsCountPinLaw", "term", "(IIII)J"⟩ : MethodName) (head1 (Jvm.Cond.code (⟨"com/example/subjectory/subjectory/index/PostingsCountPinLaw", "term", "(IIII)J"⟩ : MethodName) method_3_code 6 (some .long) :: ws) ({ frames := 0, cells := 0, slots := 0, locals := 0 } : Room)) (fun a U => a = #[(.int p1), (.int p2), (.int (7 : Int32)), (.int p3)] ∧ Z.Warmed39 U.vm ∧ U.heap = h0) (fun _ _ _ _ _ => True) (fun _ U o U' => ∃ v L, o = .returned v ∧ Q_rm1_7 Z p1 p2 p3 h0 n0 v U'.heap L ∧ FrameEnd U o U' L ({ frames := 0, cells := 0, slots := 0, locals := 0 } : Room).cells ({ frames := 0, cells := 0, slots := 0, locals := 0 } : Room).slots) := by
  refine MetFree.of_bodySF (plainFor_of_name pn_1) hisR ?_
  intro p e s m args below meth c s₁ Bd hml0 hP hK
  obtain ⟨rfl, hZ, hh⟩ := hP
  have hx := Bd.exec
  have hby := Bd.bytes
  have hml : c.maxLocals = 6 := hml0
  have hown : s.vm.findClass "com/example/subjectory/subjectory/index/PostingsCountPinLaw" = some m.cls := findClass_of_methodNamed Bd.named
  have hnm := (name_of_methodNamed Bd.named Bd.method).1
  have X0 : Stand p l e ({ frames := 0, cells := 0, slots := 0, locals := 0 } : Room) s m #[(.int p1), (.int p2), (.int (7 : Int32)), (.int p3)] below meth c s₁ [] 0 0 := Stand.of_body Bd
  have e0 : s₁.heap = h0 := by rw [← hh, Bd.state]; rfl
  have N0 := Fr.nil n0
  show Run p e below s 0 0 (Q_rm1_7 Z p1 p2 p3 h0 n0) (s₁.setTop (entryFrame m #[(.int p1), (.int p2), (.int (7 : Int32)), (.int p3)] 6))
  refine Run.go (fun _ k => castTop (ef_rm1_7 m p1 p2 p3) k) ?_
  show Run p e below s 0 0 (Q_rm1_7 Z p1 p2 p3 h0 n0) (s₁.setTop (mkF m 0 #[.val (.int p1), .val (.int p2), .val (.int (7 : Int32)), .val (.int p3), .unset, .unset] []))
  refine Run.go (fun _ k => XS.iloadN X0.here hx rfl (hb hby d1_0) rfl  k) ?_
  show Run p e below s 0 0 (Q_rm1_7 Z p1 p2 p3 h0 n0) (s₁.setTop (mkF m 1 #[.val (.int p1), .val (.int p2), .val (.int (7 : Int32)), .val (.int p3), .unset, .unset] [(.int (7 : Int32))]))
  refine Run.go (fun _ k => XS.iloadN X0.here hx rfl (hb hby d1_1) rfl  k) ?_
  show Run p e below s 0 0 (Q_rm1_7 Z p1 p2 p3 h0 n0) (s₁.setTop (mkF m 2 #[.val (.int p1), .val (.int p2), .val (.int (7 : Int32)), .val (.int p3), .unset, .unset] [(.int p3), (.int (7 : Int32))]))
  by_cases hc4 : ((7 : Int32) < p3)
  · refine Run.go (fun _ k => XS.icmpYes X0.here hx rfl (pc0 := 2) (pc' := 7) rfl (hb hby d1_2) rfl (tlt hc4).1 (by decide) (by decide) k) ?_
    show Run p e below s 0 0 (Q_rm1_7 Z p1 p2 p3 h0 n0) (s₁.setTop (mkF m 7 #[.val (.int p1), .val (.int p2), .val (.int (7 : Int32)), .val (.int p3), .unset, .unset] []))
    refine Run.go (fun _ k => XS.iloadN X0.here hx rfl (hb hby d1_7) rfl  k) ?_
    show Run p e below s 0 0 (Q_rm1_7 Z p1 p2 p3 h0 n0) (s₁.setTop (mkF m 8 #[.val (.int p1), .val (.int p2), .val (.int (7 : Int32)), .val (.int p3), .unset, .unset] [(.int (7 : Int32))]))
    refine Run.go (fun _ k => XS.iconst X0.here hx rfl (hb hby d1_8) k) ?_
    show Run p e below s 0 0 (Q_rm1_7 Z p1 p2 p3 h0 n0) (s₁.setTop (mkF m 9 #[.val (.int p1), .val (.int p2), .val (.int (7 : Int32)), .val (.int p3), .unset, .unset] [(.int (4 : Int32)), (.int (7 : Int32))]))
    refine Run.go (fun _ k => XS.icmpYes X0.here hx rfl (pc0 := 9) (pc' := 16) rfl (hb hby d1_9) rfl (flt (by decide)).2.1 (by decide) (by decide) k) ?_
    show Run p e below s 0 0 (Q_rm1_7 Z p1 p2 p3 h0 n0) (s₁.setTop (mkF m 16 #[.val (.int p1), .val (.int p2), .val (.int (7 : Int32)), .val (.int p3), .unset, .unset] []))
    refine Run.go (fun _ k => XS.iloadN X0.here hx rfl (hb hby d1_16) rfl  k) ?_
    show Run p e below s 0 0 (Q_rm1_7 Z p1 p2 p3 h0 n0) (s₁.setTop (mkF m 17 #[.val (.int p1), .val (.int p2), .val (.int (7 : Int32)), .val (.int p3), .unset, .unset] [(.int p2)]))
    refine Run.go (fun _ k => XS.istore X0.here hx rfl (hb hby d1_17) rfl (l' := #[.val (.int p1), .val (.int p2), .val (.int (7 : Int32)), .val (.int p3), .val (.int p2), .unset]) rfl k) ?_
    show Run p e below s 0 0 (Q_rm1_7 Z p1 p2 p3 h0 n0) (s₁.setTop (mkF m 19 #[.val (.int p1), .val (.int p2), .val (.int (7 : Int32)), .val (.int p3), .val (.int p2), .unset] []))
    refine Run.go (fun _ k => XS.iload X0.here hx rfl (hb hby d1_19) rfl  k) ?_
    show Run p e below s 0 0 (Q_rm1_7 Z p1 p2 p3 h0 n0) (s₁.setTop (mkF m 21 #[.val (.int p1), .val (.int p2), .val (.int (7 : Int32)), .val (.int p3), .val (.int p2), .unset] [(.int p2)]))
    refine Run.go (fun _ k => XS.bipush X0.here hx rfl (hb hby d1_21) k) ?_
    show Run p e below s 0 0 (Q_rm1_7 Z p1 p2 p3 h0 n0) (s₁.setTop (mkF m 23 #[.val (.int p1), .val (.int p2), .val (.int (7 : Int32)), .val (.int p3), .val (.int p2), .unset] [(.int (8 : Int32)), (.int p2)]))
    refine Run.go (fun _ k => XS.iloadN X0.here hx rfl (hb hby d1_23) rfl  k) ?_
    show Run p e below s 0 0 (Q_rm1_7 Z p1 p2 p3 h0 n0) (s₁.setTop (mkF m 24 #[.val (.int p1), .val (.int p2), .val (.int (7 : Int32)), .val (.int p3), .val (.int p2), .unset] [(.int (7 : Int32)), (.int (8 : Int32)), (.int p2)]))
    refine Run.go (fun _ k => XS.iconst X0.here hx rfl (hb hby d1_24) k) ?_
    show Run p e below s 0 0 (Q_rm1_7 Z p1 p2 p3 h0 n0) (s₁.setTop (mkF m 25 #[.val (.int p1), .val (.int p2), .val (.int (7 : Int32)), .val (.int p3), .val (.int p2), .unset] [(.int (3 : Int32)), (.int (7 : Int32)), (.int (8 : Int32)), (.int p2)]))
    refine Run.go (fun _ k => XS.iand X0.here hx rfl (hb hby d1_25) rfl k) ?_
    show Run p e below s 0 0 (Q_rm1_7 Z p1 p2 p3 h0 n0) (s₁.setTop (mkF m 26 #[.val (.int p1), .val (.int p2), .val (.int (7 : Int32)), .val (.int p3), .val (.int p2), .unset] [(.int (3 : Int32)), (.int (8 : Int32)), (.int p2)]))
    refine Run.go (fun _ k => XS.imul X0.here hx rfl (hb hby d1_26) rfl k) ?_
    show Run p e below s 0 0 (Q_rm1_7 Z p1 p2 p3 h0 n0) (s₁.setTop (mkF m 27 #[.val (.int p1), .val (.int p2), .val (.int (7 : Int32)), .val (.int p3), .val (.int p2), .unset] [(.int (24 : Int32)), (.int p2)]))
    refine Run.go (fun _ k => XS.bipush X0.here hx rfl (hb hby d1_27) k) ?_
    show Run p e below s 0 0 (Q_rm1_7 Z p1 p2 p3 h0 n0) (s₁.setTop (mkF m 29 #[.val (.int p1), .val (.int p2), .val (.int (7 : Int32)), .val (.int p3), .val (.int p2), .unset] [(.int (7 : Int32)), (.int (24 : Int32)), (.int p2)]))
    refine Run.go (fun _ k => XS.iadd X0.here hx rfl (hb hby d1_29) rfl k) ?_
    show Run p e below s 0 0 (Q_rm1_7 Z p1 p2 p3 h0 n0) (s₁.setTop (mkF m 30 #[.val (.int p1), .val (.int p2), .val (.int (7 : Int32)), .val (.int p3), .val (.int p2), .unset] [(.int (31 : Int32)), (.int p2)]))
    refine Run.go (fun _ k => XS.iushr X0.here hx rfl (hb hby d1_30) rfl k) ?_
    show Run p e below s 0 0 (Q_rm1_7 Z p1 p2 p3 h0 n0) (s₁.setTop (mkF m 31 #[.val (.int p1), .val (.int p2), .val (.int (7 : Int32)), .val (.int p3), .val (.int p2), .unset] [(.int ((p2.toUInt32 >>> ((31 : Int32) &&& 31).toUInt32).toInt32))]))
    refine Run.go (fun _ k => XS.iconst X0.here hx rfl (hb hby d1_31) k) ?_
    show Run p e below s 0 0 (Q_rm1_7 Z p1 p2 p3 h0 n0) (s₁.setTop (mkF m 32 #[.val (.int p1), .val (.int p2), .val (.int (7 : Int32)), .val (.int p3), .val (.int p2), .unset] [(.int (1 : Int32)), (.int ((p2.toUInt32 >>> ((31 : Int32) &&& 31).toUInt32).toInt32))]))
    refine Run.go (fun _ k => XS.iand X0.here hx rfl (hb hby d1_32) rfl k) ?_
    show Run p e below s 0 0 (Q_rm1_7 Z p1 p2 p3 h0 n0) (s₁.setTop (mkF m 33 #[.val (.int p1), .val (.int p2), .val (.int (7 : Int32)), .val (.int p3), .val (.int p2), .unset] [(.int (((p2.toUInt32 >>> ((31 : Int32) &&& 31).toUInt32).toInt32) &&& (1 : Int32)))]))
    refine Run.go (fun _ k => XS.istore X0.here hx rfl (hb hby d1_33) rfl (l' := #[.val (.int p1), .val (.int p2), .val (.int (7 : Int32)), .val (.int p3), .val (.int p2), .val (.int (((p2.toUInt32 >>> ((31 : Int32) &&& 31).toUInt32).toInt32) &&& (1 : Int32)))]) rfl k) ?_
    show Run p e below s 0 0 (Q_rm1_7 Z p1 p2 p3 h0 n0) (s₁.setTop (mkF m 35 #[.val (.int p1), .val (.int p2), .val (.int (7 : Int32)), .val (.int p3), .val (.int p2), .val (.int (((p2.toUInt32 >>> ((31 : Int32) &&& 31).toUInt32).toInt32) &&& (1 : Int32)))] []))
    refine Run.go (fun _ k => XS.iload X0.here hx rfl (hb hby d1_35) rfl  k) ?_
    show Run p e below s 0 0 (Q_rm1_7 Z p1 p2 p3 h0 n0) (s₁.setTop (mkF m 37 #[.val (.int p1), .val (.int p2), .val (.int (7 : Int32)), .val (.int p3), .val (.int p2), .val (.int (((p2.toUInt32 >>> ((31 : Int32) &&& 31).toUInt32).toInt32) &&& (1 : Int32)))] [(.int (((p2.toUInt32 >>> ((31 : Int32) &&& 31).toUInt32).toInt32) &&& (1 : Int32)))]))
    have J5 : ∀ (w6 : Int64) (hw6 : w6 = (if ((((p2.toUInt32 >>> ((31 : Int32) &&& 31).toUInt32).toInt32) &&& (1 : Int32)) = (0 : Int32)) then (1 : Int64) else (0 : Int64))) (T7 : State) (L7 : List Loc) (X7 : Stand p l e ({ frames := 0, cells := 0, slots := 0, locals := 0 } : Room) s m #[(.int p1), (.int p2), (.int (7 : Int32)), (.int p3)] below meth c T7 L7 0 0) (e7 : T7.heap = h0) (N7 : Fr n0 L7), Run p e below s 0 0 (Q_rm1_7 Z p1 p2 p3 h0 n0) (T7.setTop (mkF m 45 #[.val (.int p1), .val (.int p2), .val (.int (7 : Int32)), .val (.int p3), .val (.int p2), .val (.int (((p2.toUInt32 >>> ((31 : Int32) &&& 31).toUInt32).toInt32) &&& (1 : Int32)))] [(.long w6)])) := by
      intro w6 hw6 T7 L7 X7 e7 N7
      show Run p e below s 0 0 (Q_rm1_7 Z p1 p2 p3 h0 n0) (T7.setTop (mkF m 45 #[.val (.int p1), .val (.int p2), .val (.int (7 : Int32)), .val (.int p3), .val (.int p2), .val (.int (((p2.toUInt32 >>> ((31 : Int32) &&& 31).toUInt32).toInt32) &&& (1 : Int32)))] [(.long w6)]))
      refine Run.retJ X7 hx Bd.returns Bd.notSynchronized (hb hby d1_45) (by decide) (by decide) ?_
      show Q_rm1_7 Z p1 p2 p3 h0 n0 _ T7.heap _
      exact ⟨congrArg some (congrArg Value.long (show w6 = (F_rm1_7 p2 p3) from (by subst hw6; unfold F_rm1_7; rw [if_pos hc4]))), N7, e7⟩
    by_cases hc8 : ((((p2.toUInt32 >>> ((31 : Int32) &&& 31).toUInt32).toInt32) &&& (1 : Int32)) = (0 : Int32))
    · refine Run.go (fun _ k => XS.ifNo X0.here hx rfl (hb hby d1_37) rfl ((if0 _ _).trans (teq hc8).2) k) ?_
      show Run p e below s 0 0 (Q_rm1_7 Z p1 p2 p3 h0 n0) (s₁.setTop (mkF m 40 #[.val (.int p1), .val (.int p2), .val (.int (7 : Int32)), .val (.int p3), .val (.int p2), .val (.int (((p2.toUInt32 >>> ((31 : Int32) &&& 31).toUInt32).toInt32) &&& (1 : Int32)))] []))
      refine Run.go (fun _ k => XS.lconst X0.here hx rfl (hb hby d1_40) k) ?_
      show Run p e below s 0 0 (Q_rm1_7 Z p1 p2 p3 h0 n0) (s₁.setTop (mkF m 41 #[.val (.int p1), .val (.int p2), .val (.int (7 : Int32)), .val (.int p3), .val (.int p2), .val (.int (((p2.toUInt32 >>> ((31 : Int32) &&& 31).toUInt32).toInt32) &&& (1 : Int32)))] [(.long (1 : Int64))]))
      refine Run.go (fun _ k => XS.goto X0.here hx rfl (pc0 := 41) (pc' := 45) rfl (hb hby d1_41) (by decide) (by decide) k) ?_
      show Run p e below s 0 0 (Q_rm1_7 Z p1 p2 p3 h0 n0) (s₁.setTop (mkF m 45 #[.val (.int p1), .val (.int p2), .val (.int (7 : Int32)), .val (.int p3), .val (.int p2), .val (.int (((p2.toUInt32 >>> ((31 : Int32) &&& 31).toUInt32).toInt32) &&& (1 : Int32)))] [(.long (1 : Int64))]))
      exact J5 _ (by rw [if_pos hc8]) _ _ X0 e0 N0
    · refine Run.go (fun _ k => XS.ifYes X0.here hx rfl (pc0 := 37) (pc' := 44) rfl (hb hby d1_37) rfl ((if0 _ _).trans (feq hc8).2) (by decide) (by decide) k) ?_
      show Run p e below s 0 0 (Q_rm1_7 Z p1 p2 p3 h0 n0) (s₁.setTop (mkF m 44 #[.val (.int p1), .val (.int p2), .val (.int (7 : Int32)), .val (.int p3), .val (.int p2), .val (.int (((p2.toUInt32 >>> ((31 : Int32) &&& 31).toUInt32).toInt32) &&& (1 : Int32)))] []))
      refine Run.go (fun _ k => XS.lconst X0.here hx rfl (hb hby d1_44) k) ?_
      show Run p e below s 0 0 (Q_rm1_7 Z p1 p2 p3 h0 n0) (s₁.setTop (mkF m 45 #[.val (.int p1), .val (.int p2), .val (.int (7 : Int32)), .val (.int p3), .val (.int p2), .val (.int (((p2.toUInt32 >>> ((31 : Int32) &&& 31).toUInt32).toInt32) &&& (1 : Int32)))] [(.long (0 : Int64))]))
      exact J5 _ (by rw [if_neg hc8]) _ _ X0 e0 N0
  · refine Run.go (fun _ k => XS.icmpNo X0.here hx rfl (hb hby d1_2) rfl (flt hc4).1 k) ?_
    show Run p e below s 0 0 (Q_rm1_7 Z p1 p2 p3 h0 n0) (s₁.setTop (mkF m 5 #[.val (.int p1), .val (.int p2), .val (.int (7 : Int32)), .val (.int p3), .unset, .unset] []))
    refine Run.go (fun _ k => XS.lconst X0.here hx rfl (hb hby d1_5) k) ?_
    show Run p e below s 0 0 (Q_rm1_7 Z p1 p2 p3 h0 n0) (s₁.setTop (mkF m 6 #[.val (.int p1), .val (.int p2), .val (.int (7 : Int32)), .val (.int p3), .unset, .unset] [(.long (0 : Int64))]))
    refine Run.retJ X0 hx Bd.returns Bd.notSynchronized (hb hby d1_6) (by decide) (by decide) ?_
    show Q_rm1_7 Z p1 p2 p3 h0 n0 _ s₁.heap _
    exact ⟨congrArg some (congrArg Value.long (show (0 : Int64) = (F_rm1_7 p2 p3) from (by unfold F_rm1_7; rw [if_neg hc4]))), N0, e0⟩
theorem own_z0 (p : Int32) : (p.toUInt32 >>> ((0 : Int32) &&& 31).toUInt32).toInt32 = p := by
  apply Int32.toBitVec_inj.mp
  show p.toBitVec >>> _ = p.toBitVec
  exact BitVec.ushiftRight_zero ..
theorem own_sg0 (p : Int32) : ((((p.toUInt32 >>> ((7 : Int32) &&& 31).toUInt32).toInt32) &&& (1 : Int32)) = (0 : Int32)) ↔ ¬ ((((p.toUInt32 >>> ((0 : Int32) &&& 31).toUInt32).toInt32).toInt8.toInt32) < (0 : Int32)) := by
  rw [own_z0, ← Int32.toInt_inj, Int32.lt_iff_toInt_lt, c_mask _ _ 1 (by decide) (by decide), c_iushr p 7 7 (by decide) (by decide)]
  have b := c_i2b p
  have e0 : (0 : Int32).toInt = 0 := rfl
  simp only [show ((2 ^ 7 : Nat) : Int) = 128 from rfl, show ((2 ^ 1 : Nat) : Int) = 2 from rfl]
  omega
theorem own_sg1 (p : Int32) : ((((p.toUInt32 >>> ((15 : Int32) &&& 31).toUInt32).toInt32) &&& (1 : Int32)) = (0 : Int32)) ↔ ¬ ((((p.toUInt32 >>> ((8 : Int32) &&& 31).toUInt32).toInt32).toInt8.toInt32) < (0 : Int32)) := by
  rw [← Int32.toInt_inj, Int32.lt_iff_toInt_lt, c_mask _ _ 1 (by decide) (by decide), c_iushr p 15 15 (by decide) (by decide)]
  have b := c_i2b ((p.toUInt32 >>> ((8 : Int32) &&& 31).toUInt32).toInt32)
  rw [c_iushr p 8 8 (by decide) (by decide)] at b
  have e0 : (0 : Int32).toInt = 0 := rfl
  simp only [show ((2 ^ 15 : Nat) : Int) = 32768 from rfl, show ((2 ^ 8 : Nat) : Int) = 256 from rfl, show ((2 ^ 1 : Nat) : Int) = 2 from rfl] at *
  omega
theorem own_sg2 (p : Int32) : ((((p.toUInt32 >>> ((23 : Int32) &&& 31).toUInt32).toInt32) &&& (1 : Int32)) = (0 : Int32)) ↔ ¬ ((((p.toUInt32 >>> ((16 : Int32) &&& 31).toUInt32).toInt32).toInt8.toInt32) < (0 : Int32)) := by
  rw [← Int32.toInt_inj, Int32.lt_iff_toInt_lt, c_mask _ _ 1 (by decide) (by decide), c_iushr p 23 23 (by decide) (by decide)]
  have b := c_i2b ((p.toUInt32 >>> ((16 : Int32) &&& 31).toUInt32).toInt32)
  rw [c_iushr p 16 16 (by decide) (by decide)] at b
  have e0 : (0 : Int32).toInt = 0 := rfl
  simp only [show ((2 ^ 23 : Nat) : Int) = 8388608 from rfl, show ((2 ^ 16 : Nat) : Int) = 65536 from rfl, show ((2 ^ 1 : Nat) : Int) = 2 from rfl] at *
  omega
theorem own_sg3 (p : Int32) : ((((p.toUInt32 >>> ((31 : Int32) &&& 31).toUInt32).toInt32) &&& (1 : Int32)) = (0 : Int32)) ↔ ¬ ((((p.toUInt32 >>> ((24 : Int32) &&& 31).toUInt32).toInt32).toInt8.toInt32) < (0 : Int32)) := by
  rw [← Int32.toInt_inj, Int32.lt_iff_toInt_lt, c_mask _ _ 1 (by decide) (by decide), c_iushr p 31 31 (by decide) (by decide)]
  have b := c_i2b ((p.toUInt32 >>> ((24 : Int32) &&& 31).toUInt32).toInt32)
  rw [c_iushr p 24 24 (by decide) (by decide)] at b
  have e0 : (0 : Int32).toInt = 0 := rfl
  simp only [show ((2 ^ 31 : Nat) : Int) = 2147483648 from rfl, show ((2 ^ 24 : Nat) : Int) = 16777216 from rfl, show ((2 ^ 1 : Nat) : Int) = 2 from rfl] at *
  omega
theorem own_len (p : Int32) : ¬ ((p &&& (15 : Int32)) % (9 : Int32)) < 0 ∧ ((p &&& (15 : Int32)) % (9 : Int32)).toNatClampNeg ≤ 8 := by
  have h := c_and p 15 (by decide)
  have h2 := (c_irem (p &&& (15 : Int32)) 9 9 rfl).1 h.1
  have e0 : (0 : Int32).toInt = 0 := rfl
  rw [Int32.lt_iff_toInt_lt, Int32.toNatClampNeg]
  omega
theorem own_nlt {z c : Int32} {k : Nat} (hc : c.toInt = k) (h : ¬ c < z) : z.toNatClampNeg ≤ k := by
  rw [Int32.lt_iff_toInt_lt] at h
  rw [Int32.toNatClampNeg]; omega
theorem own_lt1 {z c : Int32} {k : Nat} (hc : c.toInt = k) (h : c < z) : k < z.toNatClampNeg := by
  rw [Int32.lt_iff_toInt_lt] at h
  rw [Int32.toNatClampNeg]; omega
theorem own_step (g : Nat → Value) (n k : Nat) (t S : Int64) (b : Int32) (hS : own_cnt g (min k n) = S) (hb : k < n → g k = .int b) (ht : t = if k < n then (if b < 0 then 0 else 1) else 0) : own_cnt g (min (k + 1) n) = S + t := by
  by_cases h : k < n
  · rw [Nat.min_eq_left (by omega)] at hS ⊢
    rw [own_cnt, hb h, own_iv, hS, ht, if_pos h]
    by_cases q : b < 0
    · rw [if_pos q, if_pos q, Int64.add_zero]
    · rw [if_neg q, if_neg q]
  · rw [Nat.min_eq_right (by omega)] at hS ⊢
    rw [ht, if_neg h, Int64.add_zero, hS]
theorem own_if {c z : Int32} {k : Nat} (hc : c.toInt = k) (P Q : Prop) [Decidable P] [Decidable Q] (hpq : P ↔ ¬ Q) : (if (c < z) then (if P then (1 : Int64) else (0 : Int64)) else (0 : Int64)) = if k < z.toNatClampNeg then (if Q then 0 else 1) else 0 := by
  by_cases h : c < z
  · rw [if_pos h, if_pos (own_lt1 hc h)]
    by_cases q : Q
    · rw [if_pos q, if_neg (fun p => hpq.mp p q)]
    · rw [if_neg q, if_pos (hpq.mpr q)]
  · rw [if_neg h, if_neg (by have := own_nlt hc h; omega)]

theorem own_final (lo hi z : Int32) (c g0 g1 g2 g3 g4 g5 g6 g7 : Nat → Value) (h8 : z.toNatClampNeg ≤ 8) (hg0 : ∀ i, i < z.toNatClampNeg → g0 i = (if i = 0 then (.int (F_rm3_0 lo)) else c i)) (hg1 : ∀ i, i < z.toNatClampNeg → g1 i = (if i = 1 then (.int (F_rm3_1 lo)) else g0 i)) (hg2 : ∀ i, i < z.toNatClampNeg → g2 i = (if i = 2 then (.int (F_rm3_2 lo)) else g1 i)) (hg3 : ∀ i, i < z.toNatClampNeg → g3 i = (if i = 3 then (.int (F_rm3_3 lo)) else g2 i)) (hg4 : ∀ i, i < z.toNatClampNeg → g4 i = (if i = 4 then (.int (F_rm3_4 hi)) else g3 i)) (hg5 : ∀ i, i < z.toNatClampNeg → g5 i = (if i = 5 then (.int (F_rm3_5 hi)) else g4 i)) (hg6 : ∀ i, i < z.toNatClampNeg → g6 i = (if i = 6 then (.int (F_rm3_6 hi)) else g5 i)) (hg7 : ∀ i, i < z.toNatClampNeg → g7 i = (if i = 7 then (.int (F_rm3_7 hi)) else g6 i)) : own_cnt g7 z.toNatClampNeg = (((((((F_rm1_0 lo z + F_rm1_1 lo z) + F_rm1_2 lo z) + F_rm1_3 lo z) + F_rm1_4 hi z) + F_rm1_5 hi z) + F_rm1_6 hi z) + F_rm1_7 hi z) := by
  have s0 : own_cnt g7 (min 0 z.toNatClampNeg) = 0 := by rw [Nat.zero_min]; rfl
  have s1 := own_step g7 z.toNatClampNeg 0 (F_rm1_0 lo z) _ (F_rm3_0 lo) s0 (fun q => by rw [hg7 0 q, if_neg (by decide), hg6 0 q, if_neg (by decide), hg5 0 q, if_neg (by decide), hg4 0 q, if_neg (by decide), hg3 0 q, if_neg (by decide), hg2 0 q, if_neg (by decide), hg1 0 q, if_neg (by decide), hg0 0 q, if_pos rfl]) (by unfold F_rm1_0 F_rm3_0; exact own_if (k := 0) rfl _ _ (own_sg0 _))
  have s2 := own_step g7 z.toNatClampNeg 1 (F_rm1_1 lo z) _ (F_rm3_1 lo) s1 (fun q => by rw [hg7 1 q, if_neg (by decide), hg6 1 q, if_neg (by decide), hg5 1 q, if_neg (by decide), hg4 1 q, if_neg (by decide), hg3 1 q, if_neg (by decide), hg2 1 q, if_neg (by decide), hg1 1 q, if_pos rfl]) (by unfold F_rm1_1 F_rm3_1; exact own_if (k := 1) rfl _ _ (own_sg1 _))
  have s3 := own_step g7 z.toNatClampNeg 2 (F_rm1_2 lo z) _ (F_rm3_2 lo) s2 (fun q => by rw [hg7 2 q, if_neg (by decide), hg6 2 q, if_neg (by decide), hg5 2 q, if_neg (by decide), hg4 2 q, if_neg (by decide), hg3 2 q, if_neg (by decide), hg2 2 q, if_pos rfl]) (by unfold F_rm1_2 F_rm3_2; exact own_if (k := 2) rfl _ _ (own_sg2 _))
  have s4 := own_step g7 z.toNatClampNeg 3 (F_rm1_3 lo z) _ (F_rm3_3 lo) s3 (fun q => by rw [hg7 3 q, if_neg (by decide), hg6 3 q, if_neg (by decide), hg5 3 q, if_neg (by decide), hg4 3 q, if_neg (by decide), hg3 3 q, if_pos rfl]) (by unfold F_rm1_3 F_rm3_3; exact own_if (k := 3) rfl _ _ (own_sg3 _))
  have s5 := own_step g7 z.toNatClampNeg 4 (F_rm1_4 hi z) _ (F_rm3_4 hi) s4 (fun q => by rw [hg7 4 q, if_neg (by decide), hg6 4 q, if_neg (by decide), hg5 4 q, if_neg (by decide), hg4 4 q, if_pos rfl]) (by unfold F_rm1_4 F_rm3_4; exact own_if (k := 4) rfl _ _ (own_sg0 _))
  have s6 := own_step g7 z.toNatClampNeg 5 (F_rm1_5 hi z) _ (F_rm3_5 hi) s5 (fun q => by rw [hg7 5 q, if_neg (by decide), hg6 5 q, if_neg (by decide), hg5 5 q, if_pos rfl]) (by unfold F_rm1_5 F_rm3_5; exact own_if (k := 5) rfl _ _ (own_sg1 _))
  have s7 := own_step g7 z.toNatClampNeg 6 (F_rm1_6 hi z) _ (F_rm3_6 hi) s6 (fun q => by rw [hg7 6 q, if_neg (by decide), hg6 6 q, if_pos rfl]) (by unfold F_rm1_6 F_rm3_6; exact own_if (k := 6) rfl _ _ (own_sg2 _))
  have s8 := own_step g7 z.toNatClampNeg 7 (F_rm1_7 hi z) _ (F_rm3_7 hi) s7 (fun q => by rw [hg7 7 q, if_pos rfl]) (by unfold F_rm1_7 F_rm3_7; exact own_if (k := 7) rfl _ _ (own_sg3 _))
  rw [Nat.min_eq_right h8, Int64.zero_add] at s8
  exact s8
theorem own_ints (lo hi z : Int32) (c g0 g1 g2 g3 g4 g5 g6 g7 : Nat → Value) (hc : ∀ i, ∃ y, c i = Value.int y) (hg0 : ∀ i, i < z.toNatClampNeg → g0 i = (if i = 0 then (.int (F_rm3_0 lo)) else c i)) (hg1 : ∀ i, i < z.toNatClampNeg → g1 i = (if i = 1 then (.int (F_rm3_1 lo)) else g0 i)) (hg2 : ∀ i, i < z.toNatClampNeg → g2 i = (if i = 2 then (.int (F_rm3_2 lo)) else g1 i)) (hg3 : ∀ i, i < z.toNatClampNeg → g3 i = (if i = 3 then (.int (F_rm3_3 lo)) else g2 i)) (hg4 : ∀ i, i < z.toNatClampNeg → g4 i = (if i = 4 then (.int (F_rm3_4 hi)) else g3 i)) (hg5 : ∀ i, i < z.toNatClampNeg → g5 i = (if i = 5 then (.int (F_rm3_5 hi)) else g4 i)) (hg6 : ∀ i, i < z.toNatClampNeg → g6 i = (if i = 6 then (.int (F_rm3_6 hi)) else g5 i)) (hg7 : ∀ i, i < z.toNatClampNeg → g7 i = (if i = 7 then (.int (F_rm3_7 hi)) else g6 i)) : ∀ i, i < z.toNatClampNeg → ∃ y, g7 i = Value.int y := by
  intro i q
  rw [hg7 i q]
  by_cases e7 : i = 7
  · rw [if_pos e7]; exact ⟨_, rfl⟩
  rw [if_neg e7]
  rw [hg6 i q]
  by_cases e6 : i = 6
  · rw [if_pos e6]; exact ⟨_, rfl⟩
  rw [if_neg e6]
  rw [hg5 i q]
  by_cases e5 : i = 5
  · rw [if_pos e5]; exact ⟨_, rfl⟩
  rw [if_neg e5]
  rw [hg4 i q]
  by_cases e4 : i = 4
  · rw [if_pos e4]; exact ⟨_, rfl⟩
  rw [if_neg e4]
  rw [hg3 i q]
  by_cases e3 : i = 3
  · rw [if_pos e3]; exact ⟨_, rfl⟩
  rw [if_neg e3]
  rw [hg2 i q]
  by_cases e2 : i = 2
  · rw [if_pos e2]; exact ⟨_, rfl⟩
  rw [if_neg e2]
  rw [hg1 i q]
  by_cases e1 : i = 1
  · rw [if_pos e1]; exact ⟨_, rfl⟩
  rw [if_neg e1]
  rw [hg0 i q]
  by_cases e0 : i = 0
  · rw [if_pos e0]; exact ⟨_, rfl⟩
  rw [if_neg e0]
  exact hc i
theorem pd_0 : parseMethodDescriptor "(IIII)J" = some ⟨[.int, .int, .int, .int], some .long⟩ := by decide +kernel
theorem pd_1 : parseMethodDescriptor "([B)J" = some ⟨[(.array .byte)], some .long⟩ := by decide +kernel
theorem pd_2 : parseMethodDescriptor "(III)B" = some ⟨[.int, .int, .int], some .byte⟩ := by decide +kernel
def Q_rm0 (Z : State) (p1 : Int32) (p2 : Int32) (p3 : Int32) (h0 : Heap) (n0 : Nat) (v : Option Value) (h : Heap) (L : List Loc) : Prop := v = some (.int 1) ∧ Fr n0 L
theorem ef_rm0 (m : MethodId) (x0 : Int32) (x1 : Int32) (x2 : Int32) : entryFrame m #[(.int x0), (.int x1), (.int x2)] maxLocals = mkF m 0 #[.val (.int x0), .val (.int x1), .val (.int x2), .unset, .unset, .unset, .unset] [] := by first | (simp [entryFrame, mkF, argsToLocals, Value.category, maxLocals]; done) | rfl
set_option maxRecDepth 65536 in
set_option maxHeartbeats 40000000 in
theorem rm0 (l : Launch) (Z : State) (a0 : Array Value) (hw : ∀ d ∈ tables_1, d.before a0 Z = true) (ws : List Jvm.Cond) (p1 : Int32) (p2 : Int32) (p3 : Int32) (h0 : Heap) (n0 : Nat) (Z0 : n0 ≤ h0.size)  :
    MetFree l x (head1 (Jvm.Cond.code x code maxLocals ret :: ws) room_1) (fun a U => a = #[(.int p1), (.int p2), (.int p3)] ∧ Z.Warmed39 U.vm ∧ U.heap = h0) (fun _ _ _ _ _ => True) (fun _ U o U' => ∃ v L, o = .returned v ∧ Q_rm0 Z p1 p2 p3 h0 n0 v U'.heap L ∧ FrameEnd U o U' L 1 8) := by
  refine MetFree.of_bodySF (plainFor_of_name pn_1) hisR ?_
  intro p e s m args below meth c s₁ Bd hml0 hP hK
  obtain ⟨rfl, hZ, hh⟩ := hP
  have hx := Bd.exec
  have hby := Bd.bytes
  have hml : c.maxLocals = 7 := hml0
  have hown : s.vm.findClass "com/example/subjectory/subjectory/index/PostingsCountPinLaw" = some m.cls := findClass_of_methodNamed Bd.named
  have hnm := (name_of_methodNamed Bd.named Bd.method).1
  have X0 : Stand p l e room_1 s m #[(.int p1), (.int p2), (.int p3)] below meth c s₁ [] 0 0 := Stand.of_body Bd
  have e0 : s₁.heap = h0 := by rw [← hh, Bd.state]; rfl
  have N0 := Fr.nil n0
  show Run p e below s 1 8 (Q_rm0 Z p1 p2 p3 h0 n0) (s₁.setTop (entryFrame m #[(.int p1), (.int p2), (.int p3)] maxLocals))
  refine Run.go (fun _ k => castTop (ef_rm0 m p1 p2 p3) k) ?_
  show Run p e below s 1 8 (Q_rm0 Z p1 p2 p3 h0 n0) (s₁.setTop (mkF m 0 #[.val (.int p1), .val (.int p2), .val (.int p3), .unset, .unset, .unset, .unset] []))
  refine Run.go (fun _ k => XS.iloadN X0.here hx rfl (hb hby at_0) rfl  k) ?_
  show Run p e below s 1 8 (Q_rm0 Z p1 p2 p3 h0 n0) (s₁.setTop (mkF m 1 #[.val (.int p1), .val (.int p2), .val (.int p3), .unset, .unset, .unset, .unset] [(.int p1)]))
  refine Run.go (fun _ k => XS.bipush X0.here hx rfl (hb hby at_1) k) ?_
  show Run p e below s 1 8 (Q_rm0 Z p1 p2 p3 h0 n0) (s₁.setTop (mkF m 3 #[.val (.int p1), .val (.int p2), .val (.int p3), .unset, .unset, .unset, .unset] [(.int (15 : Int32)), (.int p1)]))
  refine Run.go (fun _ k => XS.iand X0.here hx rfl (hb hby at_3) rfl k) ?_
  show Run p e below s 1 8 (Q_rm0 Z p1 p2 p3 h0 n0) (s₁.setTop (mkF m 4 #[.val (.int p1), .val (.int p2), .val (.int p3), .unset, .unset, .unset, .unset] [(.int (p1 &&& (15 : Int32)))]))
  refine Run.go (fun _ k => XS.bipush X0.here hx rfl (hb hby at_4) k) ?_
  show Run p e below s 1 8 (Q_rm0 Z p1 p2 p3 h0 n0) (s₁.setTop (mkF m 6 #[.val (.int p1), .val (.int p2), .val (.int p3), .unset, .unset, .unset, .unset] [(.int (9 : Int32)), (.int (p1 &&& (15 : Int32)))]))
  refine Run.go (fun _ k => iremM X0 hx rfl (hb hby at_6) rfl (by decide) k) ?_
  show Run p e below s 1 8 (Q_rm0 Z p1 p2 p3 h0 n0) (s₁.setTop (mkF m 7 #[.val (.int p1), .val (.int p2), .val (.int p3), .unset, .unset, .unset, .unset] [(.int ((p1 &&& (15 : Int32)) % (9 : Int32)))]))
  refine Run.go (fun _ k => XS.istoreN X0.here hx rfl (hb hby at_7) rfl (l' := #[.val (.int p1), .val (.int p2), .val (.int p3), .val (.int ((p1 &&& (15 : Int32)) % (9 : Int32))), .unset, .unset, .unset]) rfl k) ?_
  show Run p e below s 1 8 (Q_rm0 Z p1 p2 p3 h0 n0) (s₁.setTop (mkF m 8 #[.val (.int p1), .val (.int p2), .val (.int p3), .val (.int ((p1 &&& (15 : Int32)) % (9 : Int32))), .unset, .unset, .unset] []))
  obtain ⟨z4, hz4⟩ : ∃ z, z = ((p1 &&& (15 : Int32)) % (9 : Int32)) := ⟨_, rfl⟩
  rw [← hz4]
  show Run p e below s 1 8 (Q_rm0 Z p1 p2 p3 h0 n0) (s₁.setTop (mkF m 8 #[.val (.int p1), .val (.int p2), .val (.int p3), .val (.int z4), .unset, .unset, .unset] []))
  refine Run.go (fun _ k => XS.iloadN X0.here hx rfl (hb hby at_8) rfl  k) ?_
  show Run p e below s 1 8 (Q_rm0 Z p1 p2 p3 h0 n0) (s₁.setTop (mkF m 9 #[.val (.int p1), .val (.int p2), .val (.int p3), .val (.int z4), .unset, .unset, .unset] [(.int z4)]))
  obtain ⟨T5, h5, k5, X5, e5, E5, A5, st5⟩ := newP X0 hx hZ (hw _ (List.mem_of_getElem? (i := 0) rfl)) e0 (g := (mkF m 9 #[.val (.int p1), .val (.int p2), .val (.int p3), .val (.int z4), .unset, .unset, .unset] [(.int z4)])) rfl (hb hby at_9) rfl (by rw [hz4]; exact (own_len p1).1) (cap := 8) (by rw [hz4]; exact (own_len p1).2) (by decide) (by decide) (by decide)
  obtain ⟨arr, g5⟩ : ∃ z, z = h0.size := ⟨_, rfl⟩
  rw [← g5] at A5 st5
  have g_arr : n0 ≤ arr := Nat.le_trans Z0 (Nat.le_of_eq g5.symm)
  have Z5 : n0 ≤ h5.size := Nat.le_trans Z0 E5.1
  have fx6 : Ary Z h5 arr .byte z4.toNatClampNeg (fun _ => (.int (0 : Int32))) := Ary.new A5 rfl
  refine Run.go st5 ?_
  show Run p e below s 1 8 (Q_rm0 Z p1 p2 p3 h0 n0) (T5.setTop (mkF m 11 #[.val (.int p1), .val (.int p2), .val (.int p3), .val (.int z4), .unset, .unset, .unset] [(.ref arr)]))
  refine Run.go (fun _ k => XS.astore X5.here hx rfl (hb hby at_11) rfl rfl (l' := #[.val (.int p1), .val (.int p2), .val (.int p3), .val (.int z4), .val (.ref arr), .unset, .unset]) rfl k) ?_
  show Run p e below s 1 8 (Q_rm0 Z p1 p2 p3 h0 n0) (T5.setTop (mkF m 13 #[.val (.int p1), .val (.int p2), .val (.int p3), .val (.int z4), .val (.ref arr), .unset, .unset] []))
  have HJ7 : ∀ (g0 : Nat → Value) (hh8 : Heap) (T8 : State) (L8 : List Loc) (X8 : Stand p l e room_1 s m #[(.int p1), (.int p2), (.int p3)] below meth c T8 L8 1 8) (e8 : T8.heap = hh8) (N8 : Fr n0 L8) (Z8 : n0 ≤ hh8.size) (fk8_0 : Ary Z hh8 arr .byte z4.toNatClampNeg g0) (hg0 : ∀ i, i < z4.toNatClampNeg → g0 i = (if i = 0 then (.int (F_rm3_0 p2)) else (fun _ => (.int (0 : Int32))) i)), Run p e below s 1 8 (Q_rm0 Z p1 p2 p3 h0 n0) (T8.setTop (mkF m 27 #[.val (.int p1), .val (.int p2), .val (.int p3), .val (.int z4), .val (.ref arr), .unset, .unset] [])) := by
    intro g0 hh8 T8 L8 X8 e8 N8 Z8 fk8_0 hg0
    show Run p e below s 1 8 (Q_rm0 Z p1 p2 p3 h0 n0) (T8.setTop (mkF m 27 #[.val (.int p1), .val (.int p2), .val (.int p3), .val (.int z4), .val (.ref arr), .unset, .unset] []))
    have HJ9 : ∀ (g1 : Nat → Value) (hh10 : Heap) (T10 : State) (L10 : List Loc) (X10 : Stand p l e room_1 s m #[(.int p1), (.int p2), (.int p3)] below meth c T10 L10 1 8) (e10 : T10.heap = hh10) (N10 : Fr n0 L10) (Z10 : n0 ≤ hh10.size) (fk10_0 : Ary Z hh10 arr .byte z4.toNatClampNeg g1) (hg1 : ∀ i, i < z4.toNatClampNeg → g1 i = (if i = 1 then (.int (F_rm3_1 p2)) else g0 i)), Run p e below s 1 8 (Q_rm0 Z p1 p2 p3 h0 n0) (T10.setTop (mkF m 42 #[.val (.int p1), .val (.int p2), .val (.int p3), .val (.int z4), .val (.ref arr), .unset, .unset] [])) := by
      intro g1 hh10 T10 L10 X10 e10 N10 Z10 fk10_0 hg1
      show Run p e below s 1 8 (Q_rm0 Z p1 p2 p3 h0 n0) (T10.setTop (mkF m 42 #[.val (.int p1), .val (.int p2), .val (.int p3), .val (.int z4), .val (.ref arr), .unset, .unset] []))
      have HJ11 : ∀ (g2 : Nat → Value) (hh12 : Heap) (T12 : State) (L12 : List Loc) (X12 : Stand p l e room_1 s m #[(.int p1), (.int p2), (.int p3)] below meth c T12 L12 1 8) (e12 : T12.heap = hh12) (N12 : Fr n0 L12) (Z12 : n0 ≤ hh12.size) (fk12_0 : Ary Z hh12 arr .byte z4.toNatClampNeg g2) (hg2 : ∀ i, i < z4.toNatClampNeg → g2 i = (if i = 2 then (.int (F_rm3_2 p2)) else g1 i)), Run p e below s 1 8 (Q_rm0 Z p1 p2 p3 h0 n0) (T12.setTop (mkF m 57 #[.val (.int p1), .val (.int p2), .val (.int p3), .val (.int z4), .val (.ref arr), .unset, .unset] [])) := by
        intro g2 hh12 T12 L12 X12 e12 N12 Z12 fk12_0 hg2
        show Run p e below s 1 8 (Q_rm0 Z p1 p2 p3 h0 n0) (T12.setTop (mkF m 57 #[.val (.int p1), .val (.int p2), .val (.int p3), .val (.int z4), .val (.ref arr), .unset, .unset] []))
        have HJ13 : ∀ (g3 : Nat → Value) (hh14 : Heap) (T14 : State) (L14 : List Loc) (X14 : Stand p l e room_1 s m #[(.int p1), (.int p2), (.int p3)] below meth c T14 L14 1 8) (e14 : T14.heap = hh14) (N14 : Fr n0 L14) (Z14 : n0 ≤ hh14.size) (fk14_0 : Ary Z hh14 arr .byte z4.toNatClampNeg g3) (hg3 : ∀ i, i < z4.toNatClampNeg → g3 i = (if i = 3 then (.int (F_rm3_3 p2)) else g2 i)), Run p e below s 1 8 (Q_rm0 Z p1 p2 p3 h0 n0) (T14.setTop (mkF m 72 #[.val (.int p1), .val (.int p2), .val (.int p3), .val (.int z4), .val (.ref arr), .unset, .unset] [])) := by
          intro g3 hh14 T14 L14 X14 e14 N14 Z14 fk14_0 hg3
          show Run p e below s 1 8 (Q_rm0 Z p1 p2 p3 h0 n0) (T14.setTop (mkF m 72 #[.val (.int p1), .val (.int p2), .val (.int p3), .val (.int z4), .val (.ref arr), .unset, .unset] []))
          have HJ15 : ∀ (g4 : Nat → Value) (hh16 : Heap) (T16 : State) (L16 : List Loc) (X16 : Stand p l e room_1 s m #[(.int p1), (.int p2), (.int p3)] below meth c T16 L16 1 8) (e16 : T16.heap = hh16) (N16 : Fr n0 L16) (Z16 : n0 ≤ hh16.size) (fk16_0 : Ary Z hh16 arr .byte z4.toNatClampNeg g4) (hg4 : ∀ i, i < z4.toNatClampNeg → g4 i = (if i = 4 then (.int (F_rm3_4 p3)) else g3 i)), Run p e below s 1 8 (Q_rm0 Z p1 p2 p3 h0 n0) (T16.setTop (mkF m 87 #[.val (.int p1), .val (.int p2), .val (.int p3), .val (.int z4), .val (.ref arr), .unset, .unset] [])) := by
            intro g4 hh16 T16 L16 X16 e16 N16 Z16 fk16_0 hg4
            show Run p e below s 1 8 (Q_rm0 Z p1 p2 p3 h0 n0) (T16.setTop (mkF m 87 #[.val (.int p1), .val (.int p2), .val (.int p3), .val (.int z4), .val (.ref arr), .unset, .unset] []))
            have HJ17 : ∀ (g5 : Nat → Value) (hh18 : Heap) (T18 : State) (L18 : List Loc) (X18 : Stand p l e room_1 s m #[(.int p1), (.int p2), (.int p3)] below meth c T18 L18 1 8) (e18 : T18.heap = hh18) (N18 : Fr n0 L18) (Z18 : n0 ≤ hh18.size) (fk18_0 : Ary Z hh18 arr .byte z4.toNatClampNeg g5) (hg5 : ∀ i, i < z4.toNatClampNeg → g5 i = (if i = 5 then (.int (F_rm3_5 p3)) else g4 i)), Run p e below s 1 8 (Q_rm0 Z p1 p2 p3 h0 n0) (T18.setTop (mkF m 102 #[.val (.int p1), .val (.int p2), .val (.int p3), .val (.int z4), .val (.ref arr), .unset, .unset] [])) := by
              intro g5 hh18 T18 L18 X18 e18 N18 Z18 fk18_0 hg5
              show Run p e below s 1 8 (Q_rm0 Z p1 p2 p3 h0 n0) (T18.setTop (mkF m 102 #[.val (.int p1), .val (.int p2), .val (.int p3), .val (.int z4), .val (.ref arr), .unset, .unset] []))
              have HJ19 : ∀ (g6 : Nat → Value) (hh20 : Heap) (T20 : State) (L20 : List Loc) (X20 : Stand p l e room_1 s m #[(.int p1), (.int p2), (.int p3)] below meth c T20 L20 1 8) (e20 : T20.heap = hh20) (N20 : Fr n0 L20) (Z20 : n0 ≤ hh20.size) (fk20_0 : Ary Z hh20 arr .byte z4.toNatClampNeg g6) (hg6 : ∀ i, i < z4.toNatClampNeg → g6 i = (if i = 6 then (.int (F_rm3_6 p3)) else g5 i)), Run p e below s 1 8 (Q_rm0 Z p1 p2 p3 h0 n0) (T20.setTop (mkF m 120 #[.val (.int p1), .val (.int p2), .val (.int p3), .val (.int z4), .val (.ref arr), .unset, .unset] [])) := by
                intro g6 hh20 T20 L20 X20 e20 N20 Z20 fk20_0 hg6
                show Run p e below s 1 8 (Q_rm0 Z p1 p2 p3 h0 n0) (T20.setTop (mkF m 120 #[.val (.int p1), .val (.int p2), .val (.int p3), .val (.int z4), .val (.ref arr), .unset, .unset] []))
                have HJ21 : ∀ (g7 : Nat → Value) (hh22 : Heap) (T22 : State) (L22 : List Loc) (X22 : Stand p l e room_1 s m #[(.int p1), (.int p2), (.int p3)] below meth c T22 L22 1 8) (e22 : T22.heap = hh22) (N22 : Fr n0 L22) (Z22 : n0 ≤ hh22.size) (fk22_0 : Ary Z hh22 arr .byte z4.toNatClampNeg g7) (hg7 : ∀ i, i < z4.toNatClampNeg → g7 i = (if i = 7 then (.int (F_rm3_7 p3)) else g6 i)), Run p e below s 1 8 (Q_rm0 Z p1 p2 p3 h0 n0) (T22.setTop (mkF m 138 #[.val (.int p1), .val (.int p2), .val (.int p3), .val (.int z4), .val (.ref arr), .unset, .unset] [])) := by
                  intro g7 hh22 T22 L22 X22 e22 N22 Z22 fk22_0 hg7
                  show Run p e below s 1 8 (Q_rm0 Z p1 p2 p3 h0 n0) (T22.setTop (mkF m 138 #[.val (.int p1), .val (.int p2), .val (.int p3), .val (.int z4), .val (.ref arr), .unset, .unset] []))
                  refine Run.go (fun _ k => XS.iloadN X22.here hx rfl (hb hby at_138) rfl  k) ?_
                  show Run p e below s 1 8 (Q_rm0 Z p1 p2 p3 h0 n0) (T22.setTop (mkF m 139 #[.val (.int p1), .val (.int p2), .val (.int p3), .val (.int z4), .val (.ref arr), .unset, .unset] [(.int p2)]))
                  refine Run.go (fun _ k => XS.iloadN X22.here hx rfl (hb hby at_139) rfl  k) ?_
                  show Run p e below s 1 8 (Q_rm0 Z p1 p2 p3 h0 n0) (T22.setTop (mkF m 140 #[.val (.int p1), .val (.int p2), .val (.int p3), .val (.int z4), .val (.ref arr), .unset, .unset] [(.int p3), (.int p2)]))
                  refine Run.go (fun _ k => XS.iconst X22.here hx rfl (hb hby at_140) k) ?_
                  show Run p e below s 1 8 (Q_rm0 Z p1 p2 p3 h0 n0) (T22.setTop (mkF m 141 #[.val (.int p1), .val (.int p2), .val (.int p3), .val (.int z4), .val (.ref arr), .unset, .unset] [(.int (0 : Int32)), (.int p3), (.int p2)]))
                  refine Run.go (fun _ k => XS.iloadN X22.here hx rfl (hb hby at_141) rfl  k) ?_
                  show Run p e below s 1 8 (Q_rm0 Z p1 p2 p3 h0 n0) (T22.setTop (mkF m 142 #[.val (.int p1), .val (.int p2), .val (.int p3), .val (.int z4), .val (.ref arr), .unset, .unset] [(.int z4), (.int (0 : Int32)), (.int p3), (.int p2)]))
                  obtain ⟨_, _, ⟨T23, L23, k23, n23⟩, -, X23, ⟨Lc23, hQ23, l23, y23, z23⟩, st23⟩ := Jvm.LawKit.callS X22 hx (y := (⟨"com/example/subjectory/subjectory/index/PostingsCountPinLaw", "term", "(IIII)J"⟩ : MethodName)) hown (mvT hZ (hw _ (List.mem_of_getElem? (i := 1) rfl))) (mvT hZ (hw _ (List.mem_of_getElem? (i := 2) rfl))) (mvT hZ (hw _ (List.mem_of_getElem? (i := 3) rfl))) (mvT hZ (hw _ (List.mem_of_getElem? (i := 4) rfl))) (by decide) (backOf (W := 0) (rm1_0 l Z a0 hw [] p2 p3 z4 hh22 n0 Z22 ) hZ (hw _ (List.mem_of_getElem? (i := 4) rfl)) (hw _ (List.mem_of_getElem? (i := 3) rfl)) (by decide) (by decide)) (g := (mkF m 142 #[.val (.int p1), .val (.int p2), .val (.int p3), .val (.int z4), .val (.ref arr), .unset, .unset] [(.int z4), (.int (0 : Int32)), (.int p3), (.int p2)])) rfl (by rw [hml]; rfl) (argsL := [(.int p2), (.int p3), (.int (0 : Int32)), (.int z4)]) (rest := []) (lenOf pd_0 rfl) rfl (by show 2 * 0 + _ ≤ _; exact Nat.le_of_eq rfl) (hb hby at_142) (fun _ _ => ⟨rfl, e22, (by decide : 1 + 0 ≤ _), (by decide : 8 + 0 ≤ _)⟩)
                  dsimp only [Pt.U, Pt.locs, Pt.cells, Pt.slots] at X23 l23 y23 z23 st23 hQ23
                  subst l23 y23 z23
                  obtain ⟨rfl, N23q, e23q⟩ := hQ23
                  have N23 := Fr.app N22 N23q
                  obtain ⟨Lg23, Xg23, Ng23⟩ := Stand_gen X23 N23
                  refine Run.go st23 ?_
                  show Run p e below s 1 8 (Q_rm0 Z p1 p2 p3 h0 n0) (T23.setTop (mkF m 145 #[.val (.int p1), .val (.int p2), .val (.int p3), .val (.int z4), .val (.ref arr), .unset, .unset] [(.long (F_rm1_0 p2 z4))]))
                  refine Run.go (fun _ k => XS.iloadN Xg23.here hx rfl (hb hby at_145) rfl  k) ?_
                  show Run p e below s 1 8 (Q_rm0 Z p1 p2 p3 h0 n0) (T23.setTop (mkF m 146 #[.val (.int p1), .val (.int p2), .val (.int p3), .val (.int z4), .val (.ref arr), .unset, .unset] [(.int p2), (.long (F_rm1_0 p2 z4))]))
                  refine Run.go (fun _ k => XS.iloadN Xg23.here hx rfl (hb hby at_146) rfl  k) ?_
                  show Run p e below s 1 8 (Q_rm0 Z p1 p2 p3 h0 n0) (T23.setTop (mkF m 147 #[.val (.int p1), .val (.int p2), .val (.int p3), .val (.int z4), .val (.ref arr), .unset, .unset] [(.int p3), (.int p2), (.long (F_rm1_0 p2 z4))]))
                  refine Run.go (fun _ k => XS.iconst Xg23.here hx rfl (hb hby at_147) k) ?_
                  show Run p e below s 1 8 (Q_rm0 Z p1 p2 p3 h0 n0) (T23.setTop (mkF m 148 #[.val (.int p1), .val (.int p2), .val (.int p3), .val (.int z4), .val (.ref arr), .unset, .unset] [(.int (1 : Int32)), (.int p3), (.int p2), (.long (F_rm1_0 p2 z4))]))
                  refine Run.go (fun _ k => XS.iloadN Xg23.here hx rfl (hb hby at_148) rfl  k) ?_
                  show Run p e below s 1 8 (Q_rm0 Z p1 p2 p3 h0 n0) (T23.setTop (mkF m 149 #[.val (.int p1), .val (.int p2), .val (.int p3), .val (.int z4), .val (.ref arr), .unset, .unset] [(.int z4), (.int (1 : Int32)), (.int p3), (.int p2), (.long (F_rm1_0 p2 z4))]))
                  obtain ⟨_, _, ⟨T24, L24, k24, n24⟩, -, X24, ⟨Lc24, hQ24, l24, y24, z24⟩, st24⟩ := Jvm.LawKit.callS Xg23 hx (y := (⟨"com/example/subjectory/subjectory/index/PostingsCountPinLaw", "term", "(IIII)J"⟩ : MethodName)) hown (mvT hZ (hw _ (List.mem_of_getElem? (i := 1) rfl))) (mvT hZ (hw _ (List.mem_of_getElem? (i := 2) rfl))) (mvT hZ (hw _ (List.mem_of_getElem? (i := 3) rfl))) (mvT hZ (hw _ (List.mem_of_getElem? (i := 4) rfl))) (by decide) (backOf (W := 2) (rm1_1 l Z a0 hw [] p2 p3 z4 hh22 n0 Z22 ) hZ (hw _ (List.mem_of_getElem? (i := 4) rfl)) (hw _ (List.mem_of_getElem? (i := 3) rfl)) (by decide) (by decide)) (g := (mkF m 149 #[.val (.int p1), .val (.int p2), .val (.int p3), .val (.int z4), .val (.ref arr), .unset, .unset] [(.int z4), (.int (1 : Int32)), (.int p3), (.int p2), (.long (F_rm1_0 p2 z4))])) rfl (by rw [hml]; rfl) (argsL := [(.int p2), (.int p3), (.int (1 : Int32)), (.int z4)]) (rest := [(.long (F_rm1_0 p2 z4))]) (lenOf pd_0 rfl) rfl (by show 2 * 0 + _ ≤ _; exact Nat.le_of_eq rfl) (hb hby at_149) (fun _ _ => ⟨rfl, e23q, (by decide : 1 + 0 ≤ _), (by decide : 8 + 0 ≤ _)⟩)
                  dsimp only [Pt.U, Pt.locs, Pt.cells, Pt.slots] at X24 l24 y24 z24 st24 hQ24
                  subst l24 y24 z24
                  obtain ⟨rfl, N24q, e24q⟩ := hQ24
                  have N24 := Fr.app Ng23 N24q
                  obtain ⟨Lg24, Xg24, Ng24⟩ := Stand_gen X24 N24
                  refine Run.go st24 ?_
                  show Run p e below s 1 8 (Q_rm0 Z p1 p2 p3 h0 n0) (T24.setTop (mkF m 152 #[.val (.int p1), .val (.int p2), .val (.int p3), .val (.int z4), .val (.ref arr), .unset, .unset] [(.long (F_rm1_1 p2 z4)), (.long (F_rm1_0 p2 z4))]))
                  refine Run.go (fun _ k => XS.ladd Xg24.here hx rfl (hb hby at_152) rfl k) ?_
                  show Run p e below s 1 8 (Q_rm0 Z p1 p2 p3 h0 n0) (T24.setTop (mkF m 153 #[.val (.int p1), .val (.int p2), .val (.int p3), .val (.int z4), .val (.ref arr), .unset, .unset] [(.long ((F_rm1_0 p2 z4) + (F_rm1_1 p2 z4)))]))
                  refine Run.go (fun _ k => XS.iloadN Xg24.here hx rfl (hb hby at_153) rfl  k) ?_
                  show Run p e below s 1 8 (Q_rm0 Z p1 p2 p3 h0 n0) (T24.setTop (mkF m 154 #[.val (.int p1), .val (.int p2), .val (.int p3), .val (.int z4), .val (.ref arr), .unset, .unset] [(.int p2), (.long ((F_rm1_0 p2 z4) + (F_rm1_1 p2 z4)))]))
                  refine Run.go (fun _ k => XS.iloadN Xg24.here hx rfl (hb hby at_154) rfl  k) ?_
                  show Run p e below s 1 8 (Q_rm0 Z p1 p2 p3 h0 n0) (T24.setTop (mkF m 155 #[.val (.int p1), .val (.int p2), .val (.int p3), .val (.int z4), .val (.ref arr), .unset, .unset] [(.int p3), (.int p2), (.long ((F_rm1_0 p2 z4) + (F_rm1_1 p2 z4)))]))
                  refine Run.go (fun _ k => XS.iconst Xg24.here hx rfl (hb hby at_155) k) ?_
                  show Run p e below s 1 8 (Q_rm0 Z p1 p2 p3 h0 n0) (T24.setTop (mkF m 156 #[.val (.int p1), .val (.int p2), .val (.int p3), .val (.int z4), .val (.ref arr), .unset, .unset] [(.int (2 : Int32)), (.int p3), (.int p2), (.long ((F_rm1_0 p2 z4) + (F_rm1_1 p2 z4)))]))
                  refine Run.go (fun _ k => XS.iloadN Xg24.here hx rfl (hb hby at_156) rfl  k) ?_
                  show Run p e below s 1 8 (Q_rm0 Z p1 p2 p3 h0 n0) (T24.setTop (mkF m 157 #[.val (.int p1), .val (.int p2), .val (.int p3), .val (.int z4), .val (.ref arr), .unset, .unset] [(.int z4), (.int (2 : Int32)), (.int p3), (.int p2), (.long ((F_rm1_0 p2 z4) + (F_rm1_1 p2 z4)))]))
                  obtain ⟨_, _, ⟨T25, L25, k25, n25⟩, -, X25, ⟨Lc25, hQ25, l25, y25, z25⟩, st25⟩ := Jvm.LawKit.callS Xg24 hx (y := (⟨"com/example/subjectory/subjectory/index/PostingsCountPinLaw", "term", "(IIII)J"⟩ : MethodName)) hown (mvT hZ (hw _ (List.mem_of_getElem? (i := 1) rfl))) (mvT hZ (hw _ (List.mem_of_getElem? (i := 2) rfl))) (mvT hZ (hw _ (List.mem_of_getElem? (i := 3) rfl))) (mvT hZ (hw _ (List.mem_of_getElem? (i := 4) rfl))) (by decide) (backOf (W := 2) (rm1_2 l Z a0 hw [] p2 p3 z4 hh22 n0 Z22 ) hZ (hw _ (List.mem_of_getElem? (i := 4) rfl)) (hw _ (List.mem_of_getElem? (i := 3) rfl)) (by decide) (by decide)) (g := (mkF m 157 #[.val (.int p1), .val (.int p2), .val (.int p3), .val (.int z4), .val (.ref arr), .unset, .unset] [(.int z4), (.int (2 : Int32)), (.int p3), (.int p2), (.long ((F_rm1_0 p2 z4) + (F_rm1_1 p2 z4)))])) rfl (by rw [hml]; rfl) (argsL := [(.int p2), (.int p3), (.int (2 : Int32)), (.int z4)]) (rest := [(.long ((F_rm1_0 p2 z4) + (F_rm1_1 p2 z4)))]) (lenOf pd_0 rfl) rfl (by show 2 * 0 + _ ≤ _; exact Nat.le_of_eq rfl) (hb hby at_157) (fun _ _ => ⟨rfl, e24q, (by decide : 1 + 0 ≤ _), (by decide : 8 + 0 ≤ _)⟩)
                  dsimp only [Pt.U, Pt.locs, Pt.cells, Pt.slots] at X25 l25 y25 z25 st25 hQ25
                  subst l25 y25 z25
                  obtain ⟨rfl, N25q, e25q⟩ := hQ25
                  have N25 := Fr.app Ng24 N25q
                  obtain ⟨Lg25, Xg25, Ng25⟩ := Stand_gen X25 N25
                  refine Run.go st25 ?_
                  show Run p e below s 1 8 (Q_rm0 Z p1 p2 p3 h0 n0) (T25.setTop (mkF m 160 #[.val (.int p1), .val (.int p2), .val (.int p3), .val (.int z4), .val (.ref arr), .unset, .unset] [(.long (F_rm1_2 p2 z4)), (.long ((F_rm1_0 p2 z4) + (F_rm1_1 p2 z4)))]))
                  refine Run.go (fun _ k => XS.ladd Xg25.here hx rfl (hb hby at_160) rfl k) ?_
                  show Run p e below s 1 8 (Q_rm0 Z p1 p2 p3 h0 n0) (T25.setTop (mkF m 161 #[.val (.int p1), .val (.int p2), .val (.int p3), .val (.int z4), .val (.ref arr), .unset, .unset] [(.long (((F_rm1_0 p2 z4) + (F_rm1_1 p2 z4)) + (F_rm1_2 p2 z4)))]))
                  refine Run.go (fun _ k => XS.iloadN Xg25.here hx rfl (hb hby at_161) rfl  k) ?_
                  show Run p e below s 1 8 (Q_rm0 Z p1 p2 p3 h0 n0) (T25.setTop (mkF m 162 #[.val (.int p1), .val (.int p2), .val (.int p3), .val (.int z4), .val (.ref arr), .unset, .unset] [(.int p2), (.long (((F_rm1_0 p2 z4) + (F_rm1_1 p2 z4)) + (F_rm1_2 p2 z4)))]))
                  refine Run.go (fun _ k => XS.iloadN Xg25.here hx rfl (hb hby at_162) rfl  k) ?_
                  show Run p e below s 1 8 (Q_rm0 Z p1 p2 p3 h0 n0) (T25.setTop (mkF m 163 #[.val (.int p1), .val (.int p2), .val (.int p3), .val (.int z4), .val (.ref arr), .unset, .unset] [(.int p3), (.int p2), (.long (((F_rm1_0 p2 z4) + (F_rm1_1 p2 z4)) + (F_rm1_2 p2 z4)))]))
                  refine Run.go (fun _ k => XS.iconst Xg25.here hx rfl (hb hby at_163) k) ?_
                  show Run p e below s 1 8 (Q_rm0 Z p1 p2 p3 h0 n0) (T25.setTop (mkF m 164 #[.val (.int p1), .val (.int p2), .val (.int p3), .val (.int z4), .val (.ref arr), .unset, .unset] [(.int (3 : Int32)), (.int p3), (.int p2), (.long (((F_rm1_0 p2 z4) + (F_rm1_1 p2 z4)) + (F_rm1_2 p2 z4)))]))
                  refine Run.go (fun _ k => XS.iloadN Xg25.here hx rfl (hb hby at_164) rfl  k) ?_
                  show Run p e below s 1 8 (Q_rm0 Z p1 p2 p3 h0 n0) (T25.setTop (mkF m 165 #[.val (.int p1), .val (.int p2), .val (.int p3), .val (.int z4), .val (.ref arr), .unset, .unset] [(.int z4), (.int (3 : Int32)), (.int p3), (.int p2), (.long (((F_rm1_0 p2 z4) + (F_rm1_1 p2 z4)) + (F_rm1_2 p2 z4)))]))
                  obtain ⟨_, _, ⟨T26, L26, k26, n26⟩, -, X26, ⟨Lc26, hQ26, l26, y26, z26⟩, st26⟩ := Jvm.LawKit.callS Xg25 hx (y := (⟨"com/example/subjectory/subjectory/index/PostingsCountPinLaw", "term", "(IIII)J"⟩ : MethodName)) hown (mvT hZ (hw _ (List.mem_of_getElem? (i := 1) rfl))) (mvT hZ (hw _ (List.mem_of_getElem? (i := 2) rfl))) (mvT hZ (hw _ (List.mem_of_getElem? (i := 3) rfl))) (mvT hZ (hw _ (List.mem_of_getElem? (i := 4) rfl))) (by decide) (backOf (W := 2) (rm1_3 l Z a0 hw [] p2 p3 z4 hh22 n0 Z22 ) hZ (hw _ (List.mem_of_getElem? (i := 4) rfl)) (hw _ (List.mem_of_getElem? (i := 3) rfl)) (by decide) (by decide)) (g := (mkF m 165 #[.val (.int p1), .val (.int p2), .val (.int p3), .val (.int z4), .val (.ref arr), .unset, .unset] [(.int z4), (.int (3 : Int32)), (.int p3), (.int p2), (.long (((F_rm1_0 p2 z4) + (F_rm1_1 p2 z4)) + (F_rm1_2 p2 z4)))])) rfl (by rw [hml]; rfl) (argsL := [(.int p2), (.int p3), (.int (3 : Int32)), (.int z4)]) (rest := [(.long (((F_rm1_0 p2 z4) + (F_rm1_1 p2 z4)) + (F_rm1_2 p2 z4)))]) (lenOf pd_0 rfl) rfl (by show 2 * 0 + _ ≤ _; exact Nat.le_of_eq rfl) (hb hby at_165) (fun _ _ => ⟨rfl, e25q, (by decide : 1 + 0 ≤ _), (by decide : 8 + 0 ≤ _)⟩)
                  dsimp only [Pt.U, Pt.locs, Pt.cells, Pt.slots] at X26 l26 y26 z26 st26 hQ26
                  subst l26 y26 z26
                  obtain ⟨rfl, N26q, e26q⟩ := hQ26
                  have N26 := Fr.app Ng25 N26q
                  obtain ⟨Lg26, Xg26, Ng26⟩ := Stand_gen X26 N26
                  refine Run.go st26 ?_
                  show Run p e below s 1 8 (Q_rm0 Z p1 p2 p3 h0 n0) (T26.setTop (mkF m 168 #[.val (.int p1), .val (.int p2), .val (.int p3), .val (.int z4), .val (.ref arr), .unset, .unset] [(.long (F_rm1_3 p2 z4)), (.long (((F_rm1_0 p2 z4) + (F_rm1_1 p2 z4)) + (F_rm1_2 p2 z4)))]))
                  refine Run.go (fun _ k => XS.ladd Xg26.here hx rfl (hb hby at_168) rfl k) ?_
                  show Run p e below s 1 8 (Q_rm0 Z p1 p2 p3 h0 n0) (T26.setTop (mkF m 169 #[.val (.int p1), .val (.int p2), .val (.int p3), .val (.int z4), .val (.ref arr), .unset, .unset] [(.long ((((F_rm1_0 p2 z4) + (F_rm1_1 p2 z4)) + (F_rm1_2 p2 z4)) + (F_rm1_3 p2 z4)))]))
                  refine Run.go (fun _ k => XS.iloadN Xg26.here hx rfl (hb hby at_169) rfl  k) ?_
                  show Run p e below s 1 8 (Q_rm0 Z p1 p2 p3 h0 n0) (T26.setTop (mkF m 170 #[.val (.int p1), .val (.int p2), .val (.int p3), .val (.int z4), .val (.ref arr), .unset, .unset] [(.int p2), (.long ((((F_rm1_0 p2 z4) + (F_rm1_1 p2 z4)) + (F_rm1_2 p2 z4)) + (F_rm1_3 p2 z4)))]))
                  refine Run.go (fun _ k => XS.iloadN Xg26.here hx rfl (hb hby at_170) rfl  k) ?_
                  show Run p e below s 1 8 (Q_rm0 Z p1 p2 p3 h0 n0) (T26.setTop (mkF m 171 #[.val (.int p1), .val (.int p2), .val (.int p3), .val (.int z4), .val (.ref arr), .unset, .unset] [(.int p3), (.int p2), (.long ((((F_rm1_0 p2 z4) + (F_rm1_1 p2 z4)) + (F_rm1_2 p2 z4)) + (F_rm1_3 p2 z4)))]))
                  refine Run.go (fun _ k => XS.iconst Xg26.here hx rfl (hb hby at_171) k) ?_
                  show Run p e below s 1 8 (Q_rm0 Z p1 p2 p3 h0 n0) (T26.setTop (mkF m 172 #[.val (.int p1), .val (.int p2), .val (.int p3), .val (.int z4), .val (.ref arr), .unset, .unset] [(.int (4 : Int32)), (.int p3), (.int p2), (.long ((((F_rm1_0 p2 z4) + (F_rm1_1 p2 z4)) + (F_rm1_2 p2 z4)) + (F_rm1_3 p2 z4)))]))
                  refine Run.go (fun _ k => XS.iloadN Xg26.here hx rfl (hb hby at_172) rfl  k) ?_
                  show Run p e below s 1 8 (Q_rm0 Z p1 p2 p3 h0 n0) (T26.setTop (mkF m 173 #[.val (.int p1), .val (.int p2), .val (.int p3), .val (.int z4), .val (.ref arr), .unset, .unset] [(.int z4), (.int (4 : Int32)), (.int p3), (.int p2), (.long ((((F_rm1_0 p2 z4) + (F_rm1_1 p2 z4)) + (F_rm1_2 p2 z4)) + (F_rm1_3 p2 z4)))]))
                  obtain ⟨_, _, ⟨T27, L27, k27, n27⟩, -, X27, ⟨Lc27, hQ27, l27, y27, z27⟩, st27⟩ := Jvm.LawKit.callS Xg26 hx (y := (⟨"com/example/subjectory/subjectory/index/PostingsCountPinLaw", "term", "(IIII)J"⟩ : MethodName)) hown (mvT hZ (hw _ (List.mem_of_getElem? (i := 1) rfl))) (mvT hZ (hw _ (List.mem_of_getElem? (i := 2) rfl))) (mvT hZ (hw _ (List.mem_of_getElem? (i := 3) rfl))) (mvT hZ (hw _ (List.mem_of_getElem? (i := 4) rfl))) (by decide) (backOf (W := 2) (rm1_4 l Z a0 hw [] p2 p3 z4 hh22 n0 Z22 ) hZ (hw _ (List.mem_of_getElem? (i := 4) rfl)) (hw _ (List.mem_of_getElem? (i := 3) rfl)) (by decide) (by decide)) (g := (mkF m 173 #[.val (.int p1), .val (.int p2), .val (.int p3), .val (.int z4), .val (.ref arr), .unset, .unset] [(.int z4), (.int (4 : Int32)), (.int p3), (.int p2), (.long ((((F_rm1_0 p2 z4) + (F_rm1_1 p2 z4)) + (F_rm1_2 p2 z4)) + (F_rm1_3 p2 z4)))])) rfl (by rw [hml]; rfl) (argsL := [(.int p2), (.int p3), (.int (4 : Int32)), (.int z4)]) (rest := [(.long ((((F_rm1_0 p2 z4) + (F_rm1_1 p2 z4)) + (F_rm1_2 p2 z4)) + (F_rm1_3 p2 z4)))]) (lenOf pd_0 rfl) rfl (by show 2 * 0 + _ ≤ _; exact Nat.le_of_eq rfl) (hb hby at_173) (fun _ _ => ⟨rfl, e26q, (by decide : 1 + 0 ≤ _), (by decide : 8 + 0 ≤ _)⟩)
                  dsimp only [Pt.U, Pt.locs, Pt.cells, Pt.slots] at X27 l27 y27 z27 st27 hQ27
                  subst l27 y27 z27
                  obtain ⟨rfl, N27q, e27q⟩ := hQ27
                  have N27 := Fr.app Ng26 N27q
                  obtain ⟨Lg27, Xg27, Ng27⟩ := Stand_gen X27 N27
                  refine Run.go st27 ?_
                  show Run p e below s 1 8 (Q_rm0 Z p1 p2 p3 h0 n0) (T27.setTop (mkF m 176 #[.val (.int p1), .val (.int p2), .val (.int p3), .val (.int z4), .val (.ref arr), .unset, .unset] [(.long (F_rm1_4 p3 z4)), (.long ((((F_rm1_0 p2 z4) + (F_rm1_1 p2 z4)) + (F_rm1_2 p2 z4)) + (F_rm1_3 p2 z4)))]))
                  refine Run.go (fun _ k => XS.ladd Xg27.here hx rfl (hb hby at_176) rfl k) ?_
                  show Run p e below s 1 8 (Q_rm0 Z p1 p2 p3 h0 n0) (T27.setTop (mkF m 177 #[.val (.int p1), .val (.int p2), .val (.int p3), .val (.int z4), .val (.ref arr), .unset, .unset] [(.long (((((F_rm1_0 p2 z4) + (F_rm1_1 p2 z4)) + (F_rm1_2 p2 z4)) + (F_rm1_3 p2 z4)) + (F_rm1_4 p3 z4)))]))
                  refine Run.go (fun _ k => XS.iloadN Xg27.here hx rfl (hb hby at_177) rfl  k) ?_
                  show Run p e below s 1 8 (Q_rm0 Z p1 p2 p3 h0 n0) (T27.setTop (mkF m 178 #[.val (.int p1), .val (.int p2), .val (.int p3), .val (.int z4), .val (.ref arr), .unset, .unset] [(.int p2), (.long (((((F_rm1_0 p2 z4) + (F_rm1_1 p2 z4)) + (F_rm1_2 p2 z4)) + (F_rm1_3 p2 z4)) + (F_rm1_4 p3 z4)))]))
                  refine Run.go (fun _ k => XS.iloadN Xg27.here hx rfl (hb hby at_178) rfl  k) ?_
                  show Run p e below s 1 8 (Q_rm0 Z p1 p2 p3 h0 n0) (T27.setTop (mkF m 179 #[.val (.int p1), .val (.int p2), .val (.int p3), .val (.int z4), .val (.ref arr), .unset, .unset] [(.int p3), (.int p2), (.long (((((F_rm1_0 p2 z4) + (F_rm1_1 p2 z4)) + (F_rm1_2 p2 z4)) + (F_rm1_3 p2 z4)) + (F_rm1_4 p3 z4)))]))
                  refine Run.go (fun _ k => XS.iconst Xg27.here hx rfl (hb hby at_179) k) ?_
                  show Run p e below s 1 8 (Q_rm0 Z p1 p2 p3 h0 n0) (T27.setTop (mkF m 180 #[.val (.int p1), .val (.int p2), .val (.int p3), .val (.int z4), .val (.ref arr), .unset, .unset] [(.int (5 : Int32)), (.int p3), (.int p2), (.long (((((F_rm1_0 p2 z4) + (F_rm1_1 p2 z4)) + (F_rm1_2 p2 z4)) + (F_rm1_3 p2 z4)) + (F_rm1_4 p3 z4)))]))
                  refine Run.go (fun _ k => XS.iloadN Xg27.here hx rfl (hb hby at_180) rfl  k) ?_
                  show Run p e below s 1 8 (Q_rm0 Z p1 p2 p3 h0 n0) (T27.setTop (mkF m 181 #[.val (.int p1), .val (.int p2), .val (.int p3), .val (.int z4), .val (.ref arr), .unset, .unset] [(.int z4), (.int (5 : Int32)), (.int p3), (.int p2), (.long (((((F_rm1_0 p2 z4) + (F_rm1_1 p2 z4)) + (F_rm1_2 p2 z4)) + (F_rm1_3 p2 z4)) + (F_rm1_4 p3 z4)))]))
                  obtain ⟨_, _, ⟨T28, L28, k28, n28⟩, -, X28, ⟨Lc28, hQ28, l28, y28, z28⟩, st28⟩ := Jvm.LawKit.callS Xg27 hx (y := (⟨"com/example/subjectory/subjectory/index/PostingsCountPinLaw", "term", "(IIII)J"⟩ : MethodName)) hown (mvT hZ (hw _ (List.mem_of_getElem? (i := 1) rfl))) (mvT hZ (hw _ (List.mem_of_getElem? (i := 2) rfl))) (mvT hZ (hw _ (List.mem_of_getElem? (i := 3) rfl))) (mvT hZ (hw _ (List.mem_of_getElem? (i := 4) rfl))) (by decide) (backOf (W := 2) (rm1_5 l Z a0 hw [] p2 p3 z4 hh22 n0 Z22 ) hZ (hw _ (List.mem_of_getElem? (i := 4) rfl)) (hw _ (List.mem_of_getElem? (i := 3) rfl)) (by decide) (by decide)) (g := (mkF m 181 #[.val (.int p1), .val (.int p2), .val (.int p3), .val (.int z4), .val (.ref arr), .unset, .unset] [(.int z4), (.int (5 : Int32)), (.int p3), (.int p2), (.long (((((F_rm1_0 p2 z4) + (F_rm1_1 p2 z4)) + (F_rm1_2 p2 z4)) + (F_rm1_3 p2 z4)) + (F_rm1_4 p3 z4)))])) rfl (by rw [hml]; rfl) (argsL := [(.int p2), (.int p3), (.int (5 : Int32)), (.int z4)]) (rest := [(.long (((((F_rm1_0 p2 z4) + (F_rm1_1 p2 z4)) + (F_rm1_2 p2 z4)) + (F_rm1_3 p2 z4)) + (F_rm1_4 p3 z4)))]) (lenOf pd_0 rfl) rfl (by show 2 * 0 + _ ≤ _; exact Nat.le_of_eq rfl) (hb hby at_181) (fun _ _ => ⟨rfl, e27q, (by decide : 1 + 0 ≤ _), (by decide : 8 + 0 ≤ _)⟩)
                  dsimp only [Pt.U, Pt.locs, Pt.cells, Pt.slots] at X28 l28 y28 z28 st28 hQ28
                  subst l28 y28 z28
                  obtain ⟨rfl, N28q, e28q⟩ := hQ28
                  have N28 := Fr.app Ng27 N28q
                  obtain ⟨Lg28, Xg28, Ng28⟩ := Stand_gen X28 N28
                  refine Run.go st28 ?_
                  show Run p e below s 1 8 (Q_rm0 Z p1 p2 p3 h0 n0) (T28.setTop (mkF m 184 #[.val (.int p1), .val (.int p2), .val (.int p3), .val (.int z4), .val (.ref arr), .unset, .unset] [(.long (F_rm1_5 p3 z4)), (.long (((((F_rm1_0 p2 z4) + (F_rm1_1 p2 z4)) + (F_rm1_2 p2 z4)) + (F_rm1_3 p2 z4)) + (F_rm1_4 p3 z4)))]))
                  refine Run.go (fun _ k => XS.ladd Xg28.here hx rfl (hb hby at_184) rfl k) ?_
                  show Run p e below s 1 8 (Q_rm0 Z p1 p2 p3 h0 n0) (T28.setTop (mkF m 185 #[.val (.int p1), .val (.int p2), .val (.int p3), .val (.int z4), .val (.ref arr), .unset, .unset] [(.long ((((((F_rm1_0 p2 z4) + (F_rm1_1 p2 z4)) + (F_rm1_2 p2 z4)) + (F_rm1_3 p2 z4)) + (F_rm1_4 p3 z4)) + (F_rm1_5 p3 z4)))]))
                  refine Run.go (fun _ k => XS.iloadN Xg28.here hx rfl (hb hby at_185) rfl  k) ?_
                  show Run p e below s 1 8 (Q_rm0 Z p1 p2 p3 h0 n0) (T28.setTop (mkF m 186 #[.val (.int p1), .val (.int p2), .val (.int p3), .val (.int z4), .val (.ref arr), .unset, .unset] [(.int p2), (.long ((((((F_rm1_0 p2 z4) + (F_rm1_1 p2 z4)) + (F_rm1_2 p2 z4)) + (F_rm1_3 p2 z4)) + (F_rm1_4 p3 z4)) + (F_rm1_5 p3 z4)))]))
                  refine Run.go (fun _ k => XS.iloadN Xg28.here hx rfl (hb hby at_186) rfl  k) ?_
                  show Run p e below s 1 8 (Q_rm0 Z p1 p2 p3 h0 n0) (T28.setTop (mkF m 187 #[.val (.int p1), .val (.int p2), .val (.int p3), .val (.int z4), .val (.ref arr), .unset, .unset] [(.int p3), (.int p2), (.long ((((((F_rm1_0 p2 z4) + (F_rm1_1 p2 z4)) + (F_rm1_2 p2 z4)) + (F_rm1_3 p2 z4)) + (F_rm1_4 p3 z4)) + (F_rm1_5 p3 z4)))]))
                  refine Run.go (fun _ k => XS.bipush Xg28.here hx rfl (hb hby at_187) k) ?_
                  show Run p e below s 1 8 (Q_rm0 Z p1 p2 p3 h0 n0) (T28.setTop (mkF m 189 #[.val (.int p1), .val (.int p2), .val (.int p3), .val (.int z4), .val (.ref arr), .unset, .unset] [(.int (6 : Int32)), (.int p3), (.int p2), (.long ((((((F_rm1_0 p2 z4) + (F_rm1_1 p2 z4)) + (F_rm1_2 p2 z4)) + (F_rm1_3 p2 z4)) + (F_rm1_4 p3 z4)) + (F_rm1_5 p3 z4)))]))
                  refine Run.go (fun _ k => XS.iloadN Xg28.here hx rfl (hb hby at_189) rfl  k) ?_
                  show Run p e below s 1 8 (Q_rm0 Z p1 p2 p3 h0 n0) (T28.setTop (mkF m 190 #[.val (.int p1), .val (.int p2), .val (.int p3), .val (.int z4), .val (.ref arr), .unset, .unset] [(.int z4), (.int (6 : Int32)), (.int p3), (.int p2), (.long ((((((F_rm1_0 p2 z4) + (F_rm1_1 p2 z4)) + (F_rm1_2 p2 z4)) + (F_rm1_3 p2 z4)) + (F_rm1_4 p3 z4)) + (F_rm1_5 p3 z4)))]))
                  obtain ⟨_, _, ⟨T29, L29, k29, n29⟩, -, X29, ⟨Lc29, hQ29, l29, y29, z29⟩, st29⟩ := Jvm.LawKit.callS Xg28 hx (y := (⟨"com/example/subjectory/subjectory/index/PostingsCountPinLaw", "term", "(IIII)J"⟩ : MethodName)) hown (mvT hZ (hw _ (List.mem_of_getElem? (i := 1) rfl))) (mvT hZ (hw _ (List.mem_of_getElem? (i := 2) rfl))) (mvT hZ (hw _ (List.mem_of_getElem? (i := 3) rfl))) (mvT hZ (hw _ (List.mem_of_getElem? (i := 4) rfl))) (by decide) (backOf (W := 2) (rm1_6 l Z a0 hw [] p2 p3 z4 hh22 n0 Z22 ) hZ (hw _ (List.mem_of_getElem? (i := 4) rfl)) (hw _ (List.mem_of_getElem? (i := 3) rfl)) (by decide) (by decide)) (g := (mkF m 190 #[.val (.int p1), .val (.int p2), .val (.int p3), .val (.int z4), .val (.ref arr), .unset, .unset] [(.int z4), (.int (6 : Int32)), (.int p3), (.int p2), (.long ((((((F_rm1_0 p2 z4) + (F_rm1_1 p2 z4)) + (F_rm1_2 p2 z4)) + (F_rm1_3 p2 z4)) + (F_rm1_4 p3 z4)) + (F_rm1_5 p3 z4)))])) rfl (by rw [hml]; rfl) (argsL := [(.int p2), (.int p3), (.int (6 : Int32)), (.int z4)]) (rest := [(.long ((((((F_rm1_0 p2 z4) + (F_rm1_1 p2 z4)) + (F_rm1_2 p2 z4)) + (F_rm1_3 p2 z4)) + (F_rm1_4 p3 z4)) + (F_rm1_5 p3 z4)))]) (lenOf pd_0 rfl) rfl (by show 2 * 0 + _ ≤ _; exact Nat.le_of_eq rfl) (hb hby at_190) (fun _ _ => ⟨rfl, e28q, (by decide : 1 + 0 ≤ _), (by decide : 8 + 0 ≤ _)⟩)
                  dsimp only [Pt.U, Pt.locs, Pt.cells, Pt.slots] at X29 l29 y29 z29 st29 hQ29
                  subst l29 y29 z29
                  obtain ⟨rfl, N29q, e29q⟩ := hQ29
                  have N29 := Fr.app Ng28 N29q
                  obtain ⟨Lg29, Xg29, Ng29⟩ := Stand_gen X29 N29
                  refine Run.go st29 ?_
                  show Run p e below s 1 8 (Q_rm0 Z p1 p2 p3 h0 n0) (T29.setTop (mkF m 193 #[.val (.int p1), .val (.int p2), .val (.int p3), .val (.int z4), .val (.ref arr), .unset, .unset] [(.long (F_rm1_6 p3 z4)), (.long ((((((F_rm1_0 p2 z4) + (F_rm1_1 p2 z4)) + (F_rm1_2 p2 z4)) + (F_rm1_3 p2 z4)) + (F_rm1_4 p3 z4)) + (F_rm1_5 p3 z4)))]))
                  refine Run.go (fun _ k => XS.ladd Xg29.here hx rfl (hb hby at_193) rfl k) ?_
                  show Run p e below s 1 8 (Q_rm0 Z p1 p2 p3 h0 n0) (T29.setTop (mkF m 194 #[.val (.int p1), .val (.int p2), .val (.int p3), .val (.int z4), .val (.ref arr), .unset, .unset] [(.long (((((((F_rm1_0 p2 z4) + (F_rm1_1 p2 z4)) + (F_rm1_2 p2 z4)) + (F_rm1_3 p2 z4)) + (F_rm1_4 p3 z4)) + (F_rm1_5 p3 z4)) + (F_rm1_6 p3 z4)))]))
                  refine Run.go (fun _ k => XS.iloadN Xg29.here hx rfl (hb hby at_194) rfl  k) ?_
                  show Run p e below s 1 8 (Q_rm0 Z p1 p2 p3 h0 n0) (T29.setTop (mkF m 195 #[.val (.int p1), .val (.int p2), .val (.int p3), .val (.int z4), .val (.ref arr), .unset, .unset] [(.int p2), (.long (((((((F_rm1_0 p2 z4) + (F_rm1_1 p2 z4)) + (F_rm1_2 p2 z4)) + (F_rm1_3 p2 z4)) + (F_rm1_4 p3 z4)) + (F_rm1_5 p3 z4)) + (F_rm1_6 p3 z4)))]))
                  refine Run.go (fun _ k => XS.iloadN Xg29.here hx rfl (hb hby at_195) rfl  k) ?_
                  show Run p e below s 1 8 (Q_rm0 Z p1 p2 p3 h0 n0) (T29.setTop (mkF m 196 #[.val (.int p1), .val (.int p2), .val (.int p3), .val (.int z4), .val (.ref arr), .unset, .unset] [(.int p3), (.int p2), (.long (((((((F_rm1_0 p2 z4) + (F_rm1_1 p2 z4)) + (F_rm1_2 p2 z4)) + (F_rm1_3 p2 z4)) + (F_rm1_4 p3 z4)) + (F_rm1_5 p3 z4)) + (F_rm1_6 p3 z4)))]))
                  refine Run.go (fun _ k => XS.bipush Xg29.here hx rfl (hb hby at_196) k) ?_
                  show Run p e below s 1 8 (Q_rm0 Z p1 p2 p3 h0 n0) (T29.setTop (mkF m 198 #[.val (.int p1), .val (.int p2), .val (.int p3), .val (.int z4), .val (.ref arr), .unset, .unset] [(.int (7 : Int32)), (.int p3), (.int p2), (.long (((((((F_rm1_0 p2 z4) + (F_rm1_1 p2 z4)) + (F_rm1_2 p2 z4)) + (F_rm1_3 p2 z4)) + (F_rm1_4 p3 z4)) + (F_rm1_5 p3 z4)) + (F_rm1_6 p3 z4)))]))
                  refine Run.go (fun _ k => XS.iloadN Xg29.here hx rfl (hb hby at_198) rfl  k) ?_
                  show Run p e below s 1 8 (Q_rm0 Z p1 p2 p3 h0 n0) (T29.setTop (mkF m 199 #[.val (.int p1), .val (.int p2), .val (.int p3), .val (.int z4), .val (.ref arr), .unset, .unset] [(.int z4), (.int (7 : Int32)), (.int p3), (.int p2), (.long (((((((F_rm1_0 p2 z4) + (F_rm1_1 p2 z4)) + (F_rm1_2 p2 z4)) + (F_rm1_3 p2 z4)) + (F_rm1_4 p3 z4)) + (F_rm1_5 p3 z4)) + (F_rm1_6 p3 z4)))]))
                  obtain ⟨_, _, ⟨T30, L30, k30, n30⟩, -, X30, ⟨Lc30, hQ30, l30, y30, z30⟩, st30⟩ := Jvm.LawKit.callS Xg29 hx (y := (⟨"com/example/subjectory/subjectory/index/PostingsCountPinLaw", "term", "(IIII)J"⟩ : MethodName)) hown (mvT hZ (hw _ (List.mem_of_getElem? (i := 1) rfl))) (mvT hZ (hw _ (List.mem_of_getElem? (i := 2) rfl))) (mvT hZ (hw _ (List.mem_of_getElem? (i := 3) rfl))) (mvT hZ (hw _ (List.mem_of_getElem? (i := 4) rfl))) (by decide) (backOf (W := 2) (rm1_7 l Z a0 hw [] p2 p3 z4 hh22 n0 Z22 ) hZ (hw _ (List.mem_of_getElem? (i := 4) rfl)) (hw _ (List.mem_of_getElem? (i := 3) rfl)) (by decide) (by decide)) (g := (mkF m 199 #[.val (.int p1), .val (.int p2), .val (.int p3), .val (.int z4), .val (.ref arr), .unset, .unset] [(.int z4), (.int (7 : Int32)), (.int p3), (.int p2), (.long (((((((F_rm1_0 p2 z4) + (F_rm1_1 p2 z4)) + (F_rm1_2 p2 z4)) + (F_rm1_3 p2 z4)) + (F_rm1_4 p3 z4)) + (F_rm1_5 p3 z4)) + (F_rm1_6 p3 z4)))])) rfl (by rw [hml]; rfl) (argsL := [(.int p2), (.int p3), (.int (7 : Int32)), (.int z4)]) (rest := [(.long (((((((F_rm1_0 p2 z4) + (F_rm1_1 p2 z4)) + (F_rm1_2 p2 z4)) + (F_rm1_3 p2 z4)) + (F_rm1_4 p3 z4)) + (F_rm1_5 p3 z4)) + (F_rm1_6 p3 z4)))]) (lenOf pd_0 rfl) rfl (by show 2 * 0 + _ ≤ _; exact Nat.le_of_eq rfl) (hb hby at_199) (fun _ _ => ⟨rfl, e29q, (by decide : 1 + 0 ≤ _), (by decide : 8 + 0 ≤ _)⟩)
                  dsimp only [Pt.U, Pt.locs, Pt.cells, Pt.slots] at X30 l30 y30 z30 st30 hQ30
                  subst l30 y30 z30
                  obtain ⟨rfl, N30q, e30q⟩ := hQ30
                  have N30 := Fr.app Ng29 N30q
                  obtain ⟨Lg30, Xg30, Ng30⟩ := Stand_gen X30 N30
                  refine Run.go st30 ?_
                  show Run p e below s 1 8 (Q_rm0 Z p1 p2 p3 h0 n0) (T30.setTop (mkF m 202 #[.val (.int p1), .val (.int p2), .val (.int p3), .val (.int z4), .val (.ref arr), .unset, .unset] [(.long (F_rm1_7 p3 z4)), (.long (((((((F_rm1_0 p2 z4) + (F_rm1_1 p2 z4)) + (F_rm1_2 p2 z4)) + (F_rm1_3 p2 z4)) + (F_rm1_4 p3 z4)) + (F_rm1_5 p3 z4)) + (F_rm1_6 p3 z4)))]))
                  refine Run.go (fun _ k => XS.ladd Xg30.here hx rfl (hb hby at_202) rfl k) ?_
                  show Run p e below s 1 8 (Q_rm0 Z p1 p2 p3 h0 n0) (T30.setTop (mkF m 203 #[.val (.int p1), .val (.int p2), .val (.int p3), .val (.int z4), .val (.ref arr), .unset, .unset] [(.long ((((((((F_rm1_0 p2 z4) + (F_rm1_1 p2 z4)) + (F_rm1_2 p2 z4)) + (F_rm1_3 p2 z4)) + (F_rm1_4 p3 z4)) + (F_rm1_5 p3 z4)) + (F_rm1_6 p3 z4)) + (F_rm1_7 p3 z4)))]))
                  refine Run.go (fun _ k => XS.lstore Xg30.here hx rfl (hb hby at_203) rfl (l' := #[.val (.int p1), .val (.int p2), .val (.int p3), .val (.int z4), .val (.ref arr), .val (.long ((((((((F_rm1_0 p2 z4) + (F_rm1_1 p2 z4)) + (F_rm1_2 p2 z4)) + (F_rm1_3 p2 z4)) + (F_rm1_4 p3 z4)) + (F_rm1_5 p3 z4)) + (F_rm1_6 p3 z4)) + (F_rm1_7 p3 z4))), .second]) rfl k) ?_
                  show Run p e below s 1 8 (Q_rm0 Z p1 p2 p3 h0 n0) (T30.setTop (mkF m 205 #[.val (.int p1), .val (.int p2), .val (.int p3), .val (.int z4), .val (.ref arr), .val (.long ((((((((F_rm1_0 p2 z4) + (F_rm1_1 p2 z4)) + (F_rm1_2 p2 z4)) + (F_rm1_3 p2 z4)) + (F_rm1_4 p3 z4)) + (F_rm1_5 p3 z4)) + (F_rm1_6 p3 z4)) + (F_rm1_7 p3 z4))), .second] []))
                  refine Run.go (fun _ k => XS.aload Xg30.here hx rfl (hb hby at_205) rfl rfl k) ?_
                  show Run p e below s 1 8 (Q_rm0 Z p1 p2 p3 h0 n0) (T30.setTop (mkF m 207 #[.val (.int p1), .val (.int p2), .val (.int p3), .val (.int z4), .val (.ref arr), .val (.long ((((((((F_rm1_0 p2 z4) + (F_rm1_1 p2 z4)) + (F_rm1_2 p2 z4)) + (F_rm1_3 p2 z4)) + (F_rm1_4 p3 z4)) + (F_rm1_5 p3 z4)) + (F_rm1_6 p3 z4)) + (F_rm1_7 p3 z4))), .second] [(.ref arr)]))
                  obtain ⟨_, _, ⟨T31, L31, k31, n31⟩, -, X31, ⟨Lc31, hQ31, l31, y31, z31⟩, st31⟩ := Jvm.LawKit.callS Xg30 hx (y := (⟨"com/example/subjectory/subjectory/index/Postings", "count", "([B)J"⟩ : MethodName)) hown (mvT hZ (hw _ (List.mem_of_getElem? (i := 5) rfl))) (mvT hZ (hw _ (List.mem_of_getElem? (i := 6) rfl))) (mvT hZ (hw _ (List.mem_of_getElem? (i := 7) rfl))) (mvT hZ (hw _ (List.mem_of_getElem? (i := 8) rfl))) (by decide) (backOf (W := 0) (rm2 l Z a0 hw [] arr z4.toNatClampNeg g7 hh22 n0 Z22 fk22_0 (by have := (own_len p1).2; rw [← hz4] at this; omega) (own_ints p2 p3 z4 (fun _ => (.int (0 : Int32))) g0 g1 g2 g3 g4 g5 g6 g7 (isI_c _) hg0 hg1 hg2 hg3 hg4 hg5 hg6 hg7)) hZ (hw _ (List.mem_of_getElem? (i := 8) rfl)) (hw _ (List.mem_of_getElem? (i := 7) rfl)) (by decide) (by decide)) (g := (mkF m 207 #[.val (.int p1), .val (.int p2), .val (.int p3), .val (.int z4), .val (.ref arr), .val (.long ((((((((F_rm1_0 p2 z4) + (F_rm1_1 p2 z4)) + (F_rm1_2 p2 z4)) + (F_rm1_3 p2 z4)) + (F_rm1_4 p3 z4)) + (F_rm1_5 p3 z4)) + (F_rm1_6 p3 z4)) + (F_rm1_7 p3 z4))), .second] [(.ref arr)])) rfl (by rw [hml]; rfl) (argsL := [(.ref arr)]) (rest := []) (lenOf pd_1 rfl) rfl (by show 2 * 0 + _ ≤ _; exact Nat.le_of_eq rfl) (hb hby at_207) (fun _ _ => ⟨rfl, e30q, (by decide : 1 + 0 ≤ _), (by decide : 8 + 0 ≤ _)⟩)
                  dsimp only [Pt.U, Pt.locs, Pt.cells, Pt.slots] at X31 l31 y31 z31 st31 hQ31
                  subst l31 y31 z31
                  obtain ⟨rfl, N31q, e31q⟩ := hQ31
                  have N31 := Fr.app Ng30 N31q
                  obtain ⟨Lg31, Xg31, Ng31⟩ := Stand_gen X31 N31
                  refine Run.go st31 ?_
                  show Run p e below s 1 8 (Q_rm0 Z p1 p2 p3 h0 n0) (T31.setTop (mkF m 210 #[.val (.int p1), .val (.int p2), .val (.int p3), .val (.int z4), .val (.ref arr), .val (.long ((((((((F_rm1_0 p2 z4) + (F_rm1_1 p2 z4)) + (F_rm1_2 p2 z4)) + (F_rm1_3 p2 z4)) + (F_rm1_4 p3 z4)) + (F_rm1_5 p3 z4)) + (F_rm1_6 p3 z4)) + (F_rm1_7 p3 z4))), .second] [(.long (own_cnt g7 z4.toNatClampNeg))]))
                  refine Run.go (fun _ k => XS.lload Xg31.here hx rfl (hb hby at_210) rfl  k) ?_
                  show Run p e below s 1 8 (Q_rm0 Z p1 p2 p3 h0 n0) (T31.setTop (mkF m 212 #[.val (.int p1), .val (.int p2), .val (.int p3), .val (.int z4), .val (.ref arr), .val (.long ((((((((F_rm1_0 p2 z4) + (F_rm1_1 p2 z4)) + (F_rm1_2 p2 z4)) + (F_rm1_3 p2 z4)) + (F_rm1_4 p3 z4)) + (F_rm1_5 p3 z4)) + (F_rm1_6 p3 z4)) + (F_rm1_7 p3 z4))), .second] [(.long ((((((((F_rm1_0 p2 z4) + (F_rm1_1 p2 z4)) + (F_rm1_2 p2 z4)) + (F_rm1_3 p2 z4)) + (F_rm1_4 p3 z4)) + (F_rm1_5 p3 z4)) + (F_rm1_6 p3 z4)) + (F_rm1_7 p3 z4))), (.long (own_cnt g7 z4.toNatClampNeg))]))
                  refine Run.go (fun _ k => XS.lcmp Xg31.here hx rfl (hb hby at_212) rfl k) ?_
                  show Run p e below s 1 8 (Q_rm0 Z p1 p2 p3 h0 n0) (T31.setTop (mkF m 213 #[.val (.int p1), .val (.int p2), .val (.int p3), .val (.int z4), .val (.ref arr), .val (.long ((((((((F_rm1_0 p2 z4) + (F_rm1_1 p2 z4)) + (F_rm1_2 p2 z4)) + (F_rm1_3 p2 z4)) + (F_rm1_4 p3 z4)) + (F_rm1_5 p3 z4)) + (F_rm1_6 p3 z4)) + (F_rm1_7 p3 z4))), .second] [(.int (lcmpW (own_cnt g7 z4.toNatClampNeg) ((((((((F_rm1_0 p2 z4) + (F_rm1_1 p2 z4)) + (F_rm1_2 p2 z4)) + (F_rm1_3 p2 z4)) + (F_rm1_4 p3 z4)) + (F_rm1_5 p3 z4)) + (F_rm1_6 p3 z4)) + (F_rm1_7 p3 z4))))]))
                  refine Run.go (fun _ k => XS.ifNo Xg31.here hx rfl (hb hby at_213) rfl ((if0 _ _).trans (teq ((lw_eq (own_cnt g7 z4.toNatClampNeg) ((((((((F_rm1_0 p2 z4) + (F_rm1_1 p2 z4)) + (F_rm1_2 p2 z4)) + (F_rm1_3 p2 z4)) + (F_rm1_4 p3 z4)) + (F_rm1_5 p3 z4)) + (F_rm1_6 p3 z4)) + (F_rm1_7 p3 z4))).mpr (own_final p2 p3 z4 (fun _ => (.int (0 : Int32))) g0 g1 g2 g3 g4 g5 g6 g7 (by rw [hz4]; exact (own_len p1).2) hg0 hg1 hg2 hg3 hg4 hg5 hg6 hg7))).2) k) ?_
                  show Run p e below s 1 8 (Q_rm0 Z p1 p2 p3 h0 n0) (T31.setTop (mkF m 216 #[.val (.int p1), .val (.int p2), .val (.int p3), .val (.int z4), .val (.ref arr), .val (.long ((((((((F_rm1_0 p2 z4) + (F_rm1_1 p2 z4)) + (F_rm1_2 p2 z4)) + (F_rm1_3 p2 z4)) + (F_rm1_4 p3 z4)) + (F_rm1_5 p3 z4)) + (F_rm1_6 p3 z4)) + (F_rm1_7 p3 z4))), .second] []))
                  refine Run.go (fun _ k => XS.iconst Xg31.here hx rfl (hb hby at_216) k) ?_
                  show Run p e below s 1 8 (Q_rm0 Z p1 p2 p3 h0 n0) (T31.setTop (mkF m 217 #[.val (.int p1), .val (.int p2), .val (.int p3), .val (.int z4), .val (.ref arr), .val (.long ((((((((F_rm1_0 p2 z4) + (F_rm1_1 p2 z4)) + (F_rm1_2 p2 z4)) + (F_rm1_3 p2 z4)) + (F_rm1_4 p3 z4)) + (F_rm1_5 p3 z4)) + (F_rm1_6 p3 z4)) + (F_rm1_7 p3 z4))), .second] [(.int (1 : Int32))]))
                  refine Run.go (fun _ k => XS.goto Xg31.here hx rfl (pc0 := 217) (pc' := 221) rfl (hb hby at_217) (by decide) (by decide) k) ?_
                  show Run p e below s 1 8 (Q_rm0 Z p1 p2 p3 h0 n0) (T31.setTop (mkF m 221 #[.val (.int p1), .val (.int p2), .val (.int p3), .val (.int z4), .val (.ref arr), .val (.long ((((((((F_rm1_0 p2 z4) + (F_rm1_1 p2 z4)) + (F_rm1_2 p2 z4)) + (F_rm1_3 p2 z4)) + (F_rm1_4 p3 z4)) + (F_rm1_5 p3 z4)) + (F_rm1_6 p3 z4)) + (F_rm1_7 p3 z4))), .second] [(.int (1 : Int32))]))
                  exact Run.retN (y := 1) Xg31 hx (t := .boolean) Bd.returns (by simp) rfl Bd.notSynchronized (hb hby at_221) (by decide) (by decide) ⟨rfl, Ng31⟩
                refine Run.go (fun _ k => XS.iloadN X20.here hx rfl (hb hby at_120) rfl  k) ?_
                show Run p e below s 1 8 (Q_rm0 Z p1 p2 p3 h0 n0) (T20.setTop (mkF m 121 #[.val (.int p1), .val (.int p2), .val (.int p3), .val (.int z4), .val (.ref arr), .unset, .unset] [(.int z4)]))
                refine Run.go (fun _ k => XS.bipush X20.here hx rfl (hb hby at_121) k) ?_
                show Run p e below s 1 8 (Q_rm0 Z p1 p2 p3 h0 n0) (T20.setTop (mkF m 123 #[.val (.int p1), .val (.int p2), .val (.int p3), .val (.int z4), .val (.ref arr), .unset, .unset] [(.int (7 : Int32)), (.int z4)]))
                by_cases hc32 : ((7 : Int32) < z4)
                · refine Run.go (fun _ k => XS.icmpNo X20.here hx rfl (hb hby at_123) rfl (tlt hc32).2.2.2 k) ?_
                  show Run p e below s 1 8 (Q_rm0 Z p1 p2 p3 h0 n0) (T20.setTop (mkF m 126 #[.val (.int p1), .val (.int p2), .val (.int p3), .val (.int z4), .val (.ref arr), .unset, .unset] []))
                  refine Run.go (fun _ k => XS.aload X20.here hx rfl (hb hby at_126) rfl rfl k) ?_
                  show Run p e below s 1 8 (Q_rm0 Z p1 p2 p3 h0 n0) (T20.setTop (mkF m 128 #[.val (.int p1), .val (.int p2), .val (.int p3), .val (.int z4), .val (.ref arr), .unset, .unset] [(.ref arr)]))
                  refine Run.go (fun _ k => XS.bipush X20.here hx rfl (hb hby at_128) k) ?_
                  show Run p e below s 1 8 (Q_rm0 Z p1 p2 p3 h0 n0) (T20.setTop (mkF m 130 #[.val (.int p1), .val (.int p2), .val (.int p3), .val (.int z4), .val (.ref arr), .unset, .unset] [(.int (7 : Int32)), (.ref arr)]))
                  refine Run.go (fun _ k => XS.iloadN X20.here hx rfl (hb hby at_130) rfl  k) ?_
                  show Run p e below s 1 8 (Q_rm0 Z p1 p2 p3 h0 n0) (T20.setTop (mkF m 131 #[.val (.int p1), .val (.int p2), .val (.int p3), .val (.int z4), .val (.ref arr), .unset, .unset] [(.int p2), (.int (7 : Int32)), (.ref arr)]))
                  refine Run.go (fun _ k => XS.iloadN X20.here hx rfl (hb hby at_131) rfl  k) ?_
                  show Run p e below s 1 8 (Q_rm0 Z p1 p2 p3 h0 n0) (T20.setTop (mkF m 132 #[.val (.int p1), .val (.int p2), .val (.int p3), .val (.int z4), .val (.ref arr), .unset, .unset] [(.int p3), (.int p2), (.int (7 : Int32)), (.ref arr)]))
                  refine Run.go (fun _ k => XS.bipush X20.here hx rfl (hb hby at_132) k) ?_
                  show Run p e below s 1 8 (Q_rm0 Z p1 p2 p3 h0 n0) (T20.setTop (mkF m 134 #[.val (.int p1), .val (.int p2), .val (.int p3), .val (.int z4), .val (.ref arr), .unset, .unset] [(.int (7 : Int32)), (.int p3), (.int p2), (.int (7 : Int32)), (.ref arr)]))
                  obtain ⟨_, _, ⟨T33, L33, k33, n33⟩, -, X33, ⟨Lc33, hQ33, l33, y33, z33⟩, st33⟩ := Jvm.LawKit.callS X20 hx (y := (⟨"com/example/subjectory/subjectory/index/PostingsCountPinLaw", "pick", "(III)B"⟩ : MethodName)) hown (mvT hZ (hw _ (List.mem_of_getElem? (i := 9) rfl))) (mvT hZ (hw _ (List.mem_of_getElem? (i := 10) rfl))) (mvT hZ (hw _ (List.mem_of_getElem? (i := 3) rfl))) (mvT hZ (hw _ (List.mem_of_getElem? (i := 11) rfl))) (by decide) (backOf (W := 2) (rm3_7 l Z a0 hw [] p2 p3 hh20 n0 Z20 ) hZ (hw _ (List.mem_of_getElem? (i := 11) rfl)) (hw _ (List.mem_of_getElem? (i := 3) rfl)) (by decide) (by decide)) (g := (mkF m 134 #[.val (.int p1), .val (.int p2), .val (.int p3), .val (.int z4), .val (.ref arr), .unset, .unset] [(.int (7 : Int32)), (.int p3), (.int p2), (.int (7 : Int32)), (.ref arr)])) rfl (by rw [hml]; rfl) (argsL := [(.int p2), (.int p3), (.int (7 : Int32))]) (rest := [(.int (7 : Int32)), (.ref arr)]) (lenOf pd_2 rfl) rfl (by show 2 * 0 + _ ≤ _; exact Nat.le_of_eq rfl) (hb hby at_134) (fun _ _ => ⟨rfl, e20, (by decide : 1 + 0 ≤ _), (by decide : 8 + 0 ≤ _)⟩)
                  dsimp only [Pt.U, Pt.locs, Pt.cells, Pt.slots] at X33 l33 y33 z33 st33 hQ33
                  subst l33 y33 z33
                  obtain ⟨rfl, N33q, e33q⟩ := hQ33
                  have N33 := Fr.app N20 N33q
                  obtain ⟨Lg33, Xg33, Ng33⟩ := Stand_gen X33 N33
                  refine Run.go st33 ?_
                  show Run p e below s 1 8 (Q_rm0 Z p1 p2 p3 h0 n0) (T33.setTop (mkF m 137 #[.val (.int p1), .val (.int p2), .val (.int p3), .val (.int z4), .val (.ref arr), .unset, .unset] [(.int (F_rm3_7 p3)), (.int (7 : Int32)), (.ref arr)]))
                  obtain ⟨T34, h34, X34, e34, W34, st34⟩ := ary_bset Xg33 hx hZ e33q fk20_0 (j := (7 : Int32)) (by decide) (own_lt1 (k := 7) rfl hc32) (g := (mkF m 137 #[.val (.int p1), .val (.int p2), .val (.int p3), .val (.int z4), .val (.ref arr), .unset, .unset] [(.int (F_rm3_7 p3)), (.int (7 : Int32)), (.ref arr)])) rfl rfl (hb hby at_137) (y := (F_rm3_7 p3)) (by unfold F_rm3_7; exact b_idem _)
                  have N34 := Fr.snoc X34 Ng33 g_arr
                  have Z34 : n0 ≤ h34.size := Nat.le_trans Z20 (Keep.of_wr W34).1
                  obtain ⟨Lg34, Xg34, Ng34⟩ := Stand_gen X34 N34
                  have fx35 : Ary Z h34 arr .byte z4.toNatClampNeg (fun i => if i = 7 then (.int (F_rm3_7 p3)) else g6 i) := fk20_0.same W34
                  refine Run.go st34 ?_
                  show Run p e below s 1 8 (Q_rm0 Z p1 p2 p3 h0 n0) (T34.setTop (mkF m 138 #[.val (.int p1), .val (.int p2), .val (.int p3), .val (.int z4), .val (.ref arr), .unset, .unset] []))
                  exact HJ21 (fun i => if i = 7 then (.int (F_rm3_7 p3)) else g6 i) h34 _ _ Xg34 e34 Ng34 Z34 fx35 (fun _ _ => rfl)
                · refine Run.go (fun _ k => XS.icmpYes X20.here hx rfl (pc0 := 123) (pc' := 138) rfl (hb hby at_123) rfl (flt hc32).2.2.2 (by decide) (by decide) k) ?_
                  show Run p e below s 1 8 (Q_rm0 Z p1 p2 p3 h0 n0) (T20.setTop (mkF m 138 #[.val (.int p1), .val (.int p2), .val (.int p3), .val (.int z4), .val (.ref arr), .unset, .unset] []))
                  exact HJ21 g6 hh20 _ _ X20 e20 N20 Z20 fk20_0 (fun i hi => (if_neg (by have := own_nlt (k := 7) rfl hc32; omega)).symm)
              refine Run.go (fun _ k => XS.iloadN X18.here hx rfl (hb hby at_102) rfl  k) ?_
              show Run p e below s 1 8 (Q_rm0 Z p1 p2 p3 h0 n0) (T18.setTop (mkF m 103 #[.val (.int p1), .val (.int p2), .val (.int p3), .val (.int z4), .val (.ref arr), .unset, .unset] [(.int z4)]))
              refine Run.go (fun _ k => XS.bipush X18.here hx rfl (hb hby at_103) k) ?_
              show Run p e below s 1 8 (Q_rm0 Z p1 p2 p3 h0 n0) (T18.setTop (mkF m 105 #[.val (.int p1), .val (.int p2), .val (.int p3), .val (.int z4), .val (.ref arr), .unset, .unset] [(.int (6 : Int32)), (.int z4)]))
              by_cases hc36 : ((6 : Int32) < z4)
              · refine Run.go (fun _ k => XS.icmpNo X18.here hx rfl (hb hby at_105) rfl (tlt hc36).2.2.2 k) ?_
                show Run p e below s 1 8 (Q_rm0 Z p1 p2 p3 h0 n0) (T18.setTop (mkF m 108 #[.val (.int p1), .val (.int p2), .val (.int p3), .val (.int z4), .val (.ref arr), .unset, .unset] []))
                refine Run.go (fun _ k => XS.aload X18.here hx rfl (hb hby at_108) rfl rfl k) ?_
                show Run p e below s 1 8 (Q_rm0 Z p1 p2 p3 h0 n0) (T18.setTop (mkF m 110 #[.val (.int p1), .val (.int p2), .val (.int p3), .val (.int z4), .val (.ref arr), .unset, .unset] [(.ref arr)]))
                refine Run.go (fun _ k => XS.bipush X18.here hx rfl (hb hby at_110) k) ?_
                show Run p e below s 1 8 (Q_rm0 Z p1 p2 p3 h0 n0) (T18.setTop (mkF m 112 #[.val (.int p1), .val (.int p2), .val (.int p3), .val (.int z4), .val (.ref arr), .unset, .unset] [(.int (6 : Int32)), (.ref arr)]))
                refine Run.go (fun _ k => XS.iloadN X18.here hx rfl (hb hby at_112) rfl  k) ?_
                show Run p e below s 1 8 (Q_rm0 Z p1 p2 p3 h0 n0) (T18.setTop (mkF m 113 #[.val (.int p1), .val (.int p2), .val (.int p3), .val (.int z4), .val (.ref arr), .unset, .unset] [(.int p2), (.int (6 : Int32)), (.ref arr)]))
                refine Run.go (fun _ k => XS.iloadN X18.here hx rfl (hb hby at_113) rfl  k) ?_
                show Run p e below s 1 8 (Q_rm0 Z p1 p2 p3 h0 n0) (T18.setTop (mkF m 114 #[.val (.int p1), .val (.int p2), .val (.int p3), .val (.int z4), .val (.ref arr), .unset, .unset] [(.int p3), (.int p2), (.int (6 : Int32)), (.ref arr)]))
                refine Run.go (fun _ k => XS.bipush X18.here hx rfl (hb hby at_114) k) ?_
                show Run p e below s 1 8 (Q_rm0 Z p1 p2 p3 h0 n0) (T18.setTop (mkF m 116 #[.val (.int p1), .val (.int p2), .val (.int p3), .val (.int z4), .val (.ref arr), .unset, .unset] [(.int (6 : Int32)), (.int p3), (.int p2), (.int (6 : Int32)), (.ref arr)]))
                obtain ⟨_, _, ⟨T37, L37, k37, n37⟩, -, X37, ⟨Lc37, hQ37, l37, y37, z37⟩, st37⟩ := Jvm.LawKit.callS X18 hx (y := (⟨"com/example/subjectory/subjectory/index/PostingsCountPinLaw", "pick", "(III)B"⟩ : MethodName)) hown (mvT hZ (hw _ (List.mem_of_getElem? (i := 9) rfl))) (mvT hZ (hw _ (List.mem_of_getElem? (i := 10) rfl))) (mvT hZ (hw _ (List.mem_of_getElem? (i := 3) rfl))) (mvT hZ (hw _ (List.mem_of_getElem? (i := 11) rfl))) (by decide) (backOf (W := 2) (rm3_6 l Z a0 hw [] p2 p3 hh18 n0 Z18 ) hZ (hw _ (List.mem_of_getElem? (i := 11) rfl)) (hw _ (List.mem_of_getElem? (i := 3) rfl)) (by decide) (by decide)) (g := (mkF m 116 #[.val (.int p1), .val (.int p2), .val (.int p3), .val (.int z4), .val (.ref arr), .unset, .unset] [(.int (6 : Int32)), (.int p3), (.int p2), (.int (6 : Int32)), (.ref arr)])) rfl (by rw [hml]; rfl) (argsL := [(.int p2), (.int p3), (.int (6 : Int32))]) (rest := [(.int (6 : Int32)), (.ref arr)]) (lenOf pd_2 rfl) rfl (by show 2 * 0 + _ ≤ _; exact Nat.le_of_eq rfl) (hb hby at_116) (fun _ _ => ⟨rfl, e18, (by decide : 1 + 0 ≤ _), (by decide : 8 + 0 ≤ _)⟩)
                dsimp only [Pt.U, Pt.locs, Pt.cells, Pt.slots] at X37 l37 y37 z37 st37 hQ37
                subst l37 y37 z37
                obtain ⟨rfl, N37q, e37q⟩ := hQ37
                have N37 := Fr.app N18 N37q
                obtain ⟨Lg37, Xg37, Ng37⟩ := Stand_gen X37 N37
                refine Run.go st37 ?_
                show Run p e below s 1 8 (Q_rm0 Z p1 p2 p3 h0 n0) (T37.setTop (mkF m 119 #[.val (.int p1), .val (.int p2), .val (.int p3), .val (.int z4), .val (.ref arr), .unset, .unset] [(.int (F_rm3_6 p3)), (.int (6 : Int32)), (.ref arr)]))
                obtain ⟨T38, h38, X38, e38, W38, st38⟩ := ary_bset Xg37 hx hZ e37q fk18_0 (j := (6 : Int32)) (by decide) (own_lt1 (k := 6) rfl hc36) (g := (mkF m 119 #[.val (.int p1), .val (.int p2), .val (.int p3), .val (.int z4), .val (.ref arr), .unset, .unset] [(.int (F_rm3_6 p3)), (.int (6 : Int32)), (.ref arr)])) rfl rfl (hb hby at_119) (y := (F_rm3_6 p3)) (by unfold F_rm3_6; exact b_idem _)
                have N38 := Fr.snoc X38 Ng37 g_arr
                have Z38 : n0 ≤ h38.size := Nat.le_trans Z18 (Keep.of_wr W38).1
                obtain ⟨Lg38, Xg38, Ng38⟩ := Stand_gen X38 N38
                have fx39 : Ary Z h38 arr .byte z4.toNatClampNeg (fun i => if i = 6 then (.int (F_rm3_6 p3)) else g5 i) := fk18_0.same W38
                refine Run.go st38 ?_
                show Run p e below s 1 8 (Q_rm0 Z p1 p2 p3 h0 n0) (T38.setTop (mkF m 120 #[.val (.int p1), .val (.int p2), .val (.int p3), .val (.int z4), .val (.ref arr), .unset, .unset] []))
                exact HJ19 (fun i => if i = 6 then (.int (F_rm3_6 p3)) else g5 i) h38 _ _ Xg38 e38 Ng38 Z38 fx39 (fun _ _ => rfl)
              · refine Run.go (fun _ k => XS.icmpYes X18.here hx rfl (pc0 := 105) (pc' := 120) rfl (hb hby at_105) rfl (flt hc36).2.2.2 (by decide) (by decide) k) ?_
                show Run p e below s 1 8 (Q_rm0 Z p1 p2 p3 h0 n0) (T18.setTop (mkF m 120 #[.val (.int p1), .val (.int p2), .val (.int p3), .val (.int z4), .val (.ref arr), .unset, .unset] []))
                exact HJ19 g5 hh18 _ _ X18 e18 N18 Z18 fk18_0 (fun i hi => (if_neg (by have := own_nlt (k := 6) rfl hc36; omega)).symm)
            refine Run.go (fun _ k => XS.iloadN X16.here hx rfl (hb hby at_87) rfl  k) ?_
            show Run p e below s 1 8 (Q_rm0 Z p1 p2 p3 h0 n0) (T16.setTop (mkF m 88 #[.val (.int p1), .val (.int p2), .val (.int p3), .val (.int z4), .val (.ref arr), .unset, .unset] [(.int z4)]))
            refine Run.go (fun _ k => XS.iconst X16.here hx rfl (hb hby at_88) k) ?_
            show Run p e below s 1 8 (Q_rm0 Z p1 p2 p3 h0 n0) (T16.setTop (mkF m 89 #[.val (.int p1), .val (.int p2), .val (.int p3), .val (.int z4), .val (.ref arr), .unset, .unset] [(.int (5 : Int32)), (.int z4)]))
            by_cases hc40 : ((5 : Int32) < z4)
            · refine Run.go (fun _ k => XS.icmpNo X16.here hx rfl (hb hby at_89) rfl (tlt hc40).2.2.2 k) ?_
              show Run p e below s 1 8 (Q_rm0 Z p1 p2 p3 h0 n0) (T16.setTop (mkF m 92 #[.val (.int p1), .val (.int p2), .val (.int p3), .val (.int z4), .val (.ref arr), .unset, .unset] []))
              refine Run.go (fun _ k => XS.aload X16.here hx rfl (hb hby at_92) rfl rfl k) ?_
              show Run p e below s 1 8 (Q_rm0 Z p1 p2 p3 h0 n0) (T16.setTop (mkF m 94 #[.val (.int p1), .val (.int p2), .val (.int p3), .val (.int z4), .val (.ref arr), .unset, .unset] [(.ref arr)]))
              refine Run.go (fun _ k => XS.iconst X16.here hx rfl (hb hby at_94) k) ?_
              show Run p e below s 1 8 (Q_rm0 Z p1 p2 p3 h0 n0) (T16.setTop (mkF m 95 #[.val (.int p1), .val (.int p2), .val (.int p3), .val (.int z4), .val (.ref arr), .unset, .unset] [(.int (5 : Int32)), (.ref arr)]))
              refine Run.go (fun _ k => XS.iloadN X16.here hx rfl (hb hby at_95) rfl  k) ?_
              show Run p e below s 1 8 (Q_rm0 Z p1 p2 p3 h0 n0) (T16.setTop (mkF m 96 #[.val (.int p1), .val (.int p2), .val (.int p3), .val (.int z4), .val (.ref arr), .unset, .unset] [(.int p2), (.int (5 : Int32)), (.ref arr)]))
              refine Run.go (fun _ k => XS.iloadN X16.here hx rfl (hb hby at_96) rfl  k) ?_
              show Run p e below s 1 8 (Q_rm0 Z p1 p2 p3 h0 n0) (T16.setTop (mkF m 97 #[.val (.int p1), .val (.int p2), .val (.int p3), .val (.int z4), .val (.ref arr), .unset, .unset] [(.int p3), (.int p2), (.int (5 : Int32)), (.ref arr)]))
              refine Run.go (fun _ k => XS.iconst X16.here hx rfl (hb hby at_97) k) ?_
              show Run p e below s 1 8 (Q_rm0 Z p1 p2 p3 h0 n0) (T16.setTop (mkF m 98 #[.val (.int p1), .val (.int p2), .val (.int p3), .val (.int z4), .val (.ref arr), .unset, .unset] [(.int (5 : Int32)), (.int p3), (.int p2), (.int (5 : Int32)), (.ref arr)]))
              obtain ⟨_, _, ⟨T41, L41, k41, n41⟩, -, X41, ⟨Lc41, hQ41, l41, y41, z41⟩, st41⟩ := Jvm.LawKit.callS X16 hx (y := (⟨"com/example/subjectory/subjectory/index/PostingsCountPinLaw", "pick", "(III)B"⟩ : MethodName)) hown (mvT hZ (hw _ (List.mem_of_getElem? (i := 9) rfl))) (mvT hZ (hw _ (List.mem_of_getElem? (i := 10) rfl))) (mvT hZ (hw _ (List.mem_of_getElem? (i := 3) rfl))) (mvT hZ (hw _ (List.mem_of_getElem? (i := 11) rfl))) (by decide) (backOf (W := 2) (rm3_5 l Z a0 hw [] p2 p3 hh16 n0 Z16 ) hZ (hw _ (List.mem_of_getElem? (i := 11) rfl)) (hw _ (List.mem_of_getElem? (i := 3) rfl)) (by decide) (by decide)) (g := (mkF m 98 #[.val (.int p1), .val (.int p2), .val (.int p3), .val (.int z4), .val (.ref arr), .unset, .unset] [(.int (5 : Int32)), (.int p3), (.int p2), (.int (5 : Int32)), (.ref arr)])) rfl (by rw [hml]; rfl) (argsL := [(.int p2), (.int p3), (.int (5 : Int32))]) (rest := [(.int (5 : Int32)), (.ref arr)]) (lenOf pd_2 rfl) rfl (by show 2 * 0 + _ ≤ _; exact Nat.le_of_eq rfl) (hb hby at_98) (fun _ _ => ⟨rfl, e16, (by decide : 1 + 0 ≤ _), (by decide : 8 + 0 ≤ _)⟩)
              dsimp only [Pt.U, Pt.locs, Pt.cells, Pt.slots] at X41 l41 y41 z41 st41 hQ41
              subst l41 y41 z41
              obtain ⟨rfl, N41q, e41q⟩ := hQ41
              have N41 := Fr.app N16 N41q
              obtain ⟨Lg41, Xg41, Ng41⟩ := Stand_gen X41 N41
              refine Run.go st41 ?_
              show Run p e below s 1 8 (Q_rm0 Z p1 p2 p3 h0 n0) (T41.setTop (mkF m 101 #[.val (.int p1), .val (.int p2), .val (.int p3), .val (.int z4), .val (.ref arr), .unset, .unset] [(.int (F_rm3_5 p3)), (.int (5 : Int32)), (.ref arr)]))
              obtain ⟨T42, h42, X42, e42, W42, st42⟩ := ary_bset Xg41 hx hZ e41q fk16_0 (j := (5 : Int32)) (by decide) (own_lt1 (k := 5) rfl hc40) (g := (mkF m 101 #[.val (.int p1), .val (.int p2), .val (.int p3), .val (.int z4), .val (.ref arr), .unset, .unset] [(.int (F_rm3_5 p3)), (.int (5 : Int32)), (.ref arr)])) rfl rfl (hb hby at_101) (y := (F_rm3_5 p3)) (by unfold F_rm3_5; exact b_idem _)
              have N42 := Fr.snoc X42 Ng41 g_arr
              have Z42 : n0 ≤ h42.size := Nat.le_trans Z16 (Keep.of_wr W42).1
              obtain ⟨Lg42, Xg42, Ng42⟩ := Stand_gen X42 N42
              have fx43 : Ary Z h42 arr .byte z4.toNatClampNeg (fun i => if i = 5 then (.int (F_rm3_5 p3)) else g4 i) := fk16_0.same W42
              refine Run.go st42 ?_
              show Run p e below s 1 8 (Q_rm0 Z p1 p2 p3 h0 n0) (T42.setTop (mkF m 102 #[.val (.int p1), .val (.int p2), .val (.int p3), .val (.int z4), .val (.ref arr), .unset, .unset] []))
              exact HJ17 (fun i => if i = 5 then (.int (F_rm3_5 p3)) else g4 i) h42 _ _ Xg42 e42 Ng42 Z42 fx43 (fun _ _ => rfl)
            · refine Run.go (fun _ k => XS.icmpYes X16.here hx rfl (pc0 := 89) (pc' := 102) rfl (hb hby at_89) rfl (flt hc40).2.2.2 (by decide) (by decide) k) ?_
              show Run p e below s 1 8 (Q_rm0 Z p1 p2 p3 h0 n0) (T16.setTop (mkF m 102 #[.val (.int p1), .val (.int p2), .val (.int p3), .val (.int z4), .val (.ref arr), .unset, .unset] []))
              exact HJ17 g4 hh16 _ _ X16 e16 N16 Z16 fk16_0 (fun i hi => (if_neg (by have := own_nlt (k := 5) rfl hc40; omega)).symm)
          refine Run.go (fun _ k => XS.iloadN X14.here hx rfl (hb hby at_72) rfl  k) ?_
          show Run p e below s 1 8 (Q_rm0 Z p1 p2 p3 h0 n0) (T14.setTop (mkF m 73 #[.val (.int p1), .val (.int p2), .val (.int p3), .val (.int z4), .val (.ref arr), .unset, .unset] [(.int z4)]))
          refine Run.go (fun _ k => XS.iconst X14.here hx rfl (hb hby at_73) k) ?_
          show Run p e below s 1 8 (Q_rm0 Z p1 p2 p3 h0 n0) (T14.setTop (mkF m 74 #[.val (.int p1), .val (.int p2), .val (.int p3), .val (.int z4), .val (.ref arr), .unset, .unset] [(.int (4 : Int32)), (.int z4)]))
          by_cases hc44 : ((4 : Int32) < z4)
          · refine Run.go (fun _ k => XS.icmpNo X14.here hx rfl (hb hby at_74) rfl (tlt hc44).2.2.2 k) ?_
            show Run p e below s 1 8 (Q_rm0 Z p1 p2 p3 h0 n0) (T14.setTop (mkF m 77 #[.val (.int p1), .val (.int p2), .val (.int p3), .val (.int z4), .val (.ref arr), .unset, .unset] []))
            refine Run.go (fun _ k => XS.aload X14.here hx rfl (hb hby at_77) rfl rfl k) ?_
            show Run p e below s 1 8 (Q_rm0 Z p1 p2 p3 h0 n0) (T14.setTop (mkF m 79 #[.val (.int p1), .val (.int p2), .val (.int p3), .val (.int z4), .val (.ref arr), .unset, .unset] [(.ref arr)]))
            refine Run.go (fun _ k => XS.iconst X14.here hx rfl (hb hby at_79) k) ?_
            show Run p e below s 1 8 (Q_rm0 Z p1 p2 p3 h0 n0) (T14.setTop (mkF m 80 #[.val (.int p1), .val (.int p2), .val (.int p3), .val (.int z4), .val (.ref arr), .unset, .unset] [(.int (4 : Int32)), (.ref arr)]))
            refine Run.go (fun _ k => XS.iloadN X14.here hx rfl (hb hby at_80) rfl  k) ?_
            show Run p e below s 1 8 (Q_rm0 Z p1 p2 p3 h0 n0) (T14.setTop (mkF m 81 #[.val (.int p1), .val (.int p2), .val (.int p3), .val (.int z4), .val (.ref arr), .unset, .unset] [(.int p2), (.int (4 : Int32)), (.ref arr)]))
            refine Run.go (fun _ k => XS.iloadN X14.here hx rfl (hb hby at_81) rfl  k) ?_
            show Run p e below s 1 8 (Q_rm0 Z p1 p2 p3 h0 n0) (T14.setTop (mkF m 82 #[.val (.int p1), .val (.int p2), .val (.int p3), .val (.int z4), .val (.ref arr), .unset, .unset] [(.int p3), (.int p2), (.int (4 : Int32)), (.ref arr)]))
            refine Run.go (fun _ k => XS.iconst X14.here hx rfl (hb hby at_82) k) ?_
            show Run p e below s 1 8 (Q_rm0 Z p1 p2 p3 h0 n0) (T14.setTop (mkF m 83 #[.val (.int p1), .val (.int p2), .val (.int p3), .val (.int z4), .val (.ref arr), .unset, .unset] [(.int (4 : Int32)), (.int p3), (.int p2), (.int (4 : Int32)), (.ref arr)]))
            obtain ⟨_, _, ⟨T45, L45, k45, n45⟩, -, X45, ⟨Lc45, hQ45, l45, y45, z45⟩, st45⟩ := Jvm.LawKit.callS X14 hx (y := (⟨"com/example/subjectory/subjectory/index/PostingsCountPinLaw", "pick", "(III)B"⟩ : MethodName)) hown (mvT hZ (hw _ (List.mem_of_getElem? (i := 9) rfl))) (mvT hZ (hw _ (List.mem_of_getElem? (i := 10) rfl))) (mvT hZ (hw _ (List.mem_of_getElem? (i := 3) rfl))) (mvT hZ (hw _ (List.mem_of_getElem? (i := 11) rfl))) (by decide) (backOf (W := 2) (rm3_4 l Z a0 hw [] p2 p3 hh14 n0 Z14 ) hZ (hw _ (List.mem_of_getElem? (i := 11) rfl)) (hw _ (List.mem_of_getElem? (i := 3) rfl)) (by decide) (by decide)) (g := (mkF m 83 #[.val (.int p1), .val (.int p2), .val (.int p3), .val (.int z4), .val (.ref arr), .unset, .unset] [(.int (4 : Int32)), (.int p3), (.int p2), (.int (4 : Int32)), (.ref arr)])) rfl (by rw [hml]; rfl) (argsL := [(.int p2), (.int p3), (.int (4 : Int32))]) (rest := [(.int (4 : Int32)), (.ref arr)]) (lenOf pd_2 rfl) rfl (by show 2 * 0 + _ ≤ _; exact Nat.le_of_eq rfl) (hb hby at_83) (fun _ _ => ⟨rfl, e14, (by decide : 1 + 0 ≤ _), (by decide : 8 + 0 ≤ _)⟩)
            dsimp only [Pt.U, Pt.locs, Pt.cells, Pt.slots] at X45 l45 y45 z45 st45 hQ45
            subst l45 y45 z45
            obtain ⟨rfl, N45q, e45q⟩ := hQ45
            have N45 := Fr.app N14 N45q
            obtain ⟨Lg45, Xg45, Ng45⟩ := Stand_gen X45 N45
            refine Run.go st45 ?_
            show Run p e below s 1 8 (Q_rm0 Z p1 p2 p3 h0 n0) (T45.setTop (mkF m 86 #[.val (.int p1), .val (.int p2), .val (.int p3), .val (.int z4), .val (.ref arr), .unset, .unset] [(.int (F_rm3_4 p3)), (.int (4 : Int32)), (.ref arr)]))
            obtain ⟨T46, h46, X46, e46, W46, st46⟩ := ary_bset Xg45 hx hZ e45q fk14_0 (j := (4 : Int32)) (by decide) (own_lt1 (k := 4) rfl hc44) (g := (mkF m 86 #[.val (.int p1), .val (.int p2), .val (.int p3), .val (.int z4), .val (.ref arr), .unset, .unset] [(.int (F_rm3_4 p3)), (.int (4 : Int32)), (.ref arr)])) rfl rfl (hb hby at_86) (y := (F_rm3_4 p3)) (by unfold F_rm3_4; exact b_idem _)
            have N46 := Fr.snoc X46 Ng45 g_arr
            have Z46 : n0 ≤ h46.size := Nat.le_trans Z14 (Keep.of_wr W46).1
            obtain ⟨Lg46, Xg46, Ng46⟩ := Stand_gen X46 N46
            have fx47 : Ary Z h46 arr .byte z4.toNatClampNeg (fun i => if i = 4 then (.int (F_rm3_4 p3)) else g3 i) := fk14_0.same W46
            refine Run.go st46 ?_
            show Run p e below s 1 8 (Q_rm0 Z p1 p2 p3 h0 n0) (T46.setTop (mkF m 87 #[.val (.int p1), .val (.int p2), .val (.int p3), .val (.int z4), .val (.ref arr), .unset, .unset] []))
            exact HJ15 (fun i => if i = 4 then (.int (F_rm3_4 p3)) else g3 i) h46 _ _ Xg46 e46 Ng46 Z46 fx47 (fun _ _ => rfl)
          · refine Run.go (fun _ k => XS.icmpYes X14.here hx rfl (pc0 := 74) (pc' := 87) rfl (hb hby at_74) rfl (flt hc44).2.2.2 (by decide) (by decide) k) ?_
            show Run p e below s 1 8 (Q_rm0 Z p1 p2 p3 h0 n0) (T14.setTop (mkF m 87 #[.val (.int p1), .val (.int p2), .val (.int p3), .val (.int z4), .val (.ref arr), .unset, .unset] []))
            exact HJ15 g3 hh14 _ _ X14 e14 N14 Z14 fk14_0 (fun i hi => (if_neg (by have := own_nlt (k := 4) rfl hc44; omega)).symm)
        refine Run.go (fun _ k => XS.iloadN X12.here hx rfl (hb hby at_57) rfl  k) ?_
        show Run p e below s 1 8 (Q_rm0 Z p1 p2 p3 h0 n0) (T12.setTop (mkF m 58 #[.val (.int p1), .val (.int p2), .val (.int p3), .val (.int z4), .val (.ref arr), .unset, .unset] [(.int z4)]))
        refine Run.go (fun _ k => XS.iconst X12.here hx rfl (hb hby at_58) k) ?_
        show Run p e below s 1 8 (Q_rm0 Z p1 p2 p3 h0 n0) (T12.setTop (mkF m 59 #[.val (.int p1), .val (.int p2), .val (.int p3), .val (.int z4), .val (.ref arr), .unset, .unset] [(.int (3 : Int32)), (.int z4)]))
        by_cases hc48 : ((3 : Int32) < z4)
        · refine Run.go (fun _ k => XS.icmpNo X12.here hx rfl (hb hby at_59) rfl (tlt hc48).2.2.2 k) ?_
          show Run p e below s 1 8 (Q_rm0 Z p1 p2 p3 h0 n0) (T12.setTop (mkF m 62 #[.val (.int p1), .val (.int p2), .val (.int p3), .val (.int z4), .val (.ref arr), .unset, .unset] []))
          refine Run.go (fun _ k => XS.aload X12.here hx rfl (hb hby at_62) rfl rfl k) ?_
          show Run p e below s 1 8 (Q_rm0 Z p1 p2 p3 h0 n0) (T12.setTop (mkF m 64 #[.val (.int p1), .val (.int p2), .val (.int p3), .val (.int z4), .val (.ref arr), .unset, .unset] [(.ref arr)]))
          refine Run.go (fun _ k => XS.iconst X12.here hx rfl (hb hby at_64) k) ?_
          show Run p e below s 1 8 (Q_rm0 Z p1 p2 p3 h0 n0) (T12.setTop (mkF m 65 #[.val (.int p1), .val (.int p2), .val (.int p3), .val (.int z4), .val (.ref arr), .unset, .unset] [(.int (3 : Int32)), (.ref arr)]))
          refine Run.go (fun _ k => XS.iloadN X12.here hx rfl (hb hby at_65) rfl  k) ?_
          show Run p e below s 1 8 (Q_rm0 Z p1 p2 p3 h0 n0) (T12.setTop (mkF m 66 #[.val (.int p1), .val (.int p2), .val (.int p3), .val (.int z4), .val (.ref arr), .unset, .unset] [(.int p2), (.int (3 : Int32)), (.ref arr)]))
          refine Run.go (fun _ k => XS.iloadN X12.here hx rfl (hb hby at_66) rfl  k) ?_
          show Run p e below s 1 8 (Q_rm0 Z p1 p2 p3 h0 n0) (T12.setTop (mkF m 67 #[.val (.int p1), .val (.int p2), .val (.int p3), .val (.int z4), .val (.ref arr), .unset, .unset] [(.int p3), (.int p2), (.int (3 : Int32)), (.ref arr)]))
          refine Run.go (fun _ k => XS.iconst X12.here hx rfl (hb hby at_67) k) ?_
          show Run p e below s 1 8 (Q_rm0 Z p1 p2 p3 h0 n0) (T12.setTop (mkF m 68 #[.val (.int p1), .val (.int p2), .val (.int p3), .val (.int z4), .val (.ref arr), .unset, .unset] [(.int (3 : Int32)), (.int p3), (.int p2), (.int (3 : Int32)), (.ref arr)]))
          obtain ⟨_, _, ⟨T49, L49, k49, n49⟩, -, X49, ⟨Lc49, hQ49, l49, y49, z49⟩, st49⟩ := Jvm.LawKit.callS X12 hx (y := (⟨"com/example/subjectory/subjectory/index/PostingsCountPinLaw", "pick", "(III)B"⟩ : MethodName)) hown (mvT hZ (hw _ (List.mem_of_getElem? (i := 9) rfl))) (mvT hZ (hw _ (List.mem_of_getElem? (i := 10) rfl))) (mvT hZ (hw _ (List.mem_of_getElem? (i := 3) rfl))) (mvT hZ (hw _ (List.mem_of_getElem? (i := 11) rfl))) (by decide) (backOf (W := 2) (rm3_3 l Z a0 hw [] p2 p3 hh12 n0 Z12 ) hZ (hw _ (List.mem_of_getElem? (i := 11) rfl)) (hw _ (List.mem_of_getElem? (i := 3) rfl)) (by decide) (by decide)) (g := (mkF m 68 #[.val (.int p1), .val (.int p2), .val (.int p3), .val (.int z4), .val (.ref arr), .unset, .unset] [(.int (3 : Int32)), (.int p3), (.int p2), (.int (3 : Int32)), (.ref arr)])) rfl (by rw [hml]; rfl) (argsL := [(.int p2), (.int p3), (.int (3 : Int32))]) (rest := [(.int (3 : Int32)), (.ref arr)]) (lenOf pd_2 rfl) rfl (by show 2 * 0 + _ ≤ _; exact Nat.le_of_eq rfl) (hb hby at_68) (fun _ _ => ⟨rfl, e12, (by decide : 1 + 0 ≤ _), (by decide : 8 + 0 ≤ _)⟩)
          dsimp only [Pt.U, Pt.locs, Pt.cells, Pt.slots] at X49 l49 y49 z49 st49 hQ49
          subst l49 y49 z49
          obtain ⟨rfl, N49q, e49q⟩ := hQ49
          have N49 := Fr.app N12 N49q
          obtain ⟨Lg49, Xg49, Ng49⟩ := Stand_gen X49 N49
          refine Run.go st49 ?_
          show Run p e below s 1 8 (Q_rm0 Z p1 p2 p3 h0 n0) (T49.setTop (mkF m 71 #[.val (.int p1), .val (.int p2), .val (.int p3), .val (.int z4), .val (.ref arr), .unset, .unset] [(.int (F_rm3_3 p2)), (.int (3 : Int32)), (.ref arr)]))
          obtain ⟨T50, h50, X50, e50, W50, st50⟩ := ary_bset Xg49 hx hZ e49q fk12_0 (j := (3 : Int32)) (by decide) (own_lt1 (k := 3) rfl hc48) (g := (mkF m 71 #[.val (.int p1), .val (.int p2), .val (.int p3), .val (.int z4), .val (.ref arr), .unset, .unset] [(.int (F_rm3_3 p2)), (.int (3 : Int32)), (.ref arr)])) rfl rfl (hb hby at_71) (y := (F_rm3_3 p2)) (by unfold F_rm3_3; exact b_idem _)
          have N50 := Fr.snoc X50 Ng49 g_arr
          have Z50 : n0 ≤ h50.size := Nat.le_trans Z12 (Keep.of_wr W50).1
          obtain ⟨Lg50, Xg50, Ng50⟩ := Stand_gen X50 N50
          have fx51 : Ary Z h50 arr .byte z4.toNatClampNeg (fun i => if i = 3 then (.int (F_rm3_3 p2)) else g2 i) := fk12_0.same W50
          refine Run.go st50 ?_
          show Run p e below s 1 8 (Q_rm0 Z p1 p2 p3 h0 n0) (T50.setTop (mkF m 72 #[.val (.int p1), .val (.int p2), .val (.int p3), .val (.int z4), .val (.ref arr), .unset, .unset] []))
          exact HJ13 (fun i => if i = 3 then (.int (F_rm3_3 p2)) else g2 i) h50 _ _ Xg50 e50 Ng50 Z50 fx51 (fun _ _ => rfl)
        · refine Run.go (fun _ k => XS.icmpYes X12.here hx rfl (pc0 := 59) (pc' := 72) rfl (hb hby at_59) rfl (flt hc48).2.2.2 (by decide) (by decide) k) ?_
          show Run p e below s 1 8 (Q_rm0 Z p1 p2 p3 h0 n0) (T12.setTop (mkF m 72 #[.val (.int p1), .val (.int p2), .val (.int p3), .val (.int z4), .val (.ref arr), .unset, .unset] []))
          exact HJ13 g2 hh12 _ _ X12 e12 N12 Z12 fk12_0 (fun i hi => (if_neg (by have := own_nlt (k := 3) rfl hc48; omega)).symm)
      refine Run.go (fun _ k => XS.iloadN X10.here hx rfl (hb hby at_42) rfl  k) ?_
      show Run p e below s 1 8 (Q_rm0 Z p1 p2 p3 h0 n0) (T10.setTop (mkF m 43 #[.val (.int p1), .val (.int p2), .val (.int p3), .val (.int z4), .val (.ref arr), .unset, .unset] [(.int z4)]))
      refine Run.go (fun _ k => XS.iconst X10.here hx rfl (hb hby at_43) k) ?_
      show Run p e below s 1 8 (Q_rm0 Z p1 p2 p3 h0 n0) (T10.setTop (mkF m 44 #[.val (.int p1), .val (.int p2), .val (.int p3), .val (.int z4), .val (.ref arr), .unset, .unset] [(.int (2 : Int32)), (.int z4)]))
      by_cases hc52 : ((2 : Int32) < z4)
      · refine Run.go (fun _ k => XS.icmpNo X10.here hx rfl (hb hby at_44) rfl (tlt hc52).2.2.2 k) ?_
        show Run p e below s 1 8 (Q_rm0 Z p1 p2 p3 h0 n0) (T10.setTop (mkF m 47 #[.val (.int p1), .val (.int p2), .val (.int p3), .val (.int z4), .val (.ref arr), .unset, .unset] []))
        refine Run.go (fun _ k => XS.aload X10.here hx rfl (hb hby at_47) rfl rfl k) ?_
        show Run p e below s 1 8 (Q_rm0 Z p1 p2 p3 h0 n0) (T10.setTop (mkF m 49 #[.val (.int p1), .val (.int p2), .val (.int p3), .val (.int z4), .val (.ref arr), .unset, .unset] [(.ref arr)]))
        refine Run.go (fun _ k => XS.iconst X10.here hx rfl (hb hby at_49) k) ?_
        show Run p e below s 1 8 (Q_rm0 Z p1 p2 p3 h0 n0) (T10.setTop (mkF m 50 #[.val (.int p1), .val (.int p2), .val (.int p3), .val (.int z4), .val (.ref arr), .unset, .unset] [(.int (2 : Int32)), (.ref arr)]))
        refine Run.go (fun _ k => XS.iloadN X10.here hx rfl (hb hby at_50) rfl  k) ?_
        show Run p e below s 1 8 (Q_rm0 Z p1 p2 p3 h0 n0) (T10.setTop (mkF m 51 #[.val (.int p1), .val (.int p2), .val (.int p3), .val (.int z4), .val (.ref arr), .unset, .unset] [(.int p2), (.int (2 : Int32)), (.ref arr)]))
        refine Run.go (fun _ k => XS.iloadN X10.here hx rfl (hb hby at_51) rfl  k) ?_
        show Run p e below s 1 8 (Q_rm0 Z p1 p2 p3 h0 n0) (T10.setTop (mkF m 52 #[.val (.int p1), .val (.int p2), .val (.int p3), .val (.int z4), .val (.ref arr), .unset, .unset] [(.int p3), (.int p2), (.int (2 : Int32)), (.ref arr)]))
        refine Run.go (fun _ k => XS.iconst X10.here hx rfl (hb hby at_52) k) ?_
        show Run p e below s 1 8 (Q_rm0 Z p1 p2 p3 h0 n0) (T10.setTop (mkF m 53 #[.val (.int p1), .val (.int p2), .val (.int p3), .val (.int z4), .val (.ref arr), .unset, .unset] [(.int (2 : Int32)), (.int p3), (.int p2), (.int (2 : Int32)), (.ref arr)]))
        obtain ⟨_, _, ⟨T53, L53, k53, n53⟩, -, X53, ⟨Lc53, hQ53, l53, y53, z53⟩, st53⟩ := Jvm.LawKit.callS X10 hx (y := (⟨"com/example/subjectory/subjectory/index/PostingsCountPinLaw", "pick", "(III)B"⟩ : MethodName)) hown (mvT hZ (hw _ (List.mem_of_getElem? (i := 9) rfl))) (mvT hZ (hw _ (List.mem_of_getElem? (i := 10) rfl))) (mvT hZ (hw _ (List.mem_of_getElem? (i := 3) rfl))) (mvT hZ (hw _ (List.mem_of_getElem? (i := 11) rfl))) (by decide) (backOf (W := 2) (rm3_2 l Z a0 hw [] p2 p3 hh10 n0 Z10 ) hZ (hw _ (List.mem_of_getElem? (i := 11) rfl)) (hw _ (List.mem_of_getElem? (i := 3) rfl)) (by decide) (by decide)) (g := (mkF m 53 #[.val (.int p1), .val (.int p2), .val (.int p3), .val (.int z4), .val (.ref arr), .unset, .unset] [(.int (2 : Int32)), (.int p3), (.int p2), (.int (2 : Int32)), (.ref arr)])) rfl (by rw [hml]; rfl) (argsL := [(.int p2), (.int p3), (.int (2 : Int32))]) (rest := [(.int (2 : Int32)), (.ref arr)]) (lenOf pd_2 rfl) rfl (by show 2 * 0 + _ ≤ _; exact Nat.le_of_eq rfl) (hb hby at_53) (fun _ _ => ⟨rfl, e10, (by decide : 1 + 0 ≤ _), (by decide : 8 + 0 ≤ _)⟩)
        dsimp only [Pt.U, Pt.locs, Pt.cells, Pt.slots] at X53 l53 y53 z53 st53 hQ53
        subst l53 y53 z53
        obtain ⟨rfl, N53q, e53q⟩ := hQ53
        have N53 := Fr.app N10 N53q
        obtain ⟨Lg53, Xg53, Ng53⟩ := Stand_gen X53 N53
        refine Run.go st53 ?_
        show Run p e below s 1 8 (Q_rm0 Z p1 p2 p3 h0 n0) (T53.setTop (mkF m 56 #[.val (.int p1), .val (.int p2), .val (.int p3), .val (.int z4), .val (.ref arr), .unset, .unset] [(.int (F_rm3_2 p2)), (.int (2 : Int32)), (.ref arr)]))
        obtain ⟨T54, h54, X54, e54, W54, st54⟩ := ary_bset Xg53 hx hZ e53q fk10_0 (j := (2 : Int32)) (by decide) (own_lt1 (k := 2) rfl hc52) (g := (mkF m 56 #[.val (.int p1), .val (.int p2), .val (.int p3), .val (.int z4), .val (.ref arr), .unset, .unset] [(.int (F_rm3_2 p2)), (.int (2 : Int32)), (.ref arr)])) rfl rfl (hb hby at_56) (y := (F_rm3_2 p2)) (by unfold F_rm3_2; exact b_idem _)
        have N54 := Fr.snoc X54 Ng53 g_arr
        have Z54 : n0 ≤ h54.size := Nat.le_trans Z10 (Keep.of_wr W54).1
        obtain ⟨Lg54, Xg54, Ng54⟩ := Stand_gen X54 N54
        have fx55 : Ary Z h54 arr .byte z4.toNatClampNeg (fun i => if i = 2 then (.int (F_rm3_2 p2)) else g1 i) := fk10_0.same W54
        refine Run.go st54 ?_
        show Run p e below s 1 8 (Q_rm0 Z p1 p2 p3 h0 n0) (T54.setTop (mkF m 57 #[.val (.int p1), .val (.int p2), .val (.int p3), .val (.int z4), .val (.ref arr), .unset, .unset] []))
        exact HJ11 (fun i => if i = 2 then (.int (F_rm3_2 p2)) else g1 i) h54 _ _ Xg54 e54 Ng54 Z54 fx55 (fun _ _ => rfl)
      · refine Run.go (fun _ k => XS.icmpYes X10.here hx rfl (pc0 := 44) (pc' := 57) rfl (hb hby at_44) rfl (flt hc52).2.2.2 (by decide) (by decide) k) ?_
        show Run p e below s 1 8 (Q_rm0 Z p1 p2 p3 h0 n0) (T10.setTop (mkF m 57 #[.val (.int p1), .val (.int p2), .val (.int p3), .val (.int z4), .val (.ref arr), .unset, .unset] []))
        exact HJ11 g1 hh10 _ _ X10 e10 N10 Z10 fk10_0 (fun i hi => (if_neg (by have := own_nlt (k := 2) rfl hc52; omega)).symm)
    refine Run.go (fun _ k => XS.iloadN X8.here hx rfl (hb hby at_27) rfl  k) ?_
    show Run p e below s 1 8 (Q_rm0 Z p1 p2 p3 h0 n0) (T8.setTop (mkF m 28 #[.val (.int p1), .val (.int p2), .val (.int p3), .val (.int z4), .val (.ref arr), .unset, .unset] [(.int z4)]))
    refine Run.go (fun _ k => XS.iconst X8.here hx rfl (hb hby at_28) k) ?_
    show Run p e below s 1 8 (Q_rm0 Z p1 p2 p3 h0 n0) (T8.setTop (mkF m 29 #[.val (.int p1), .val (.int p2), .val (.int p3), .val (.int z4), .val (.ref arr), .unset, .unset] [(.int (1 : Int32)), (.int z4)]))
    by_cases hc56 : ((1 : Int32) < z4)
    · refine Run.go (fun _ k => XS.icmpNo X8.here hx rfl (hb hby at_29) rfl (tlt hc56).2.2.2 k) ?_
      show Run p e below s 1 8 (Q_rm0 Z p1 p2 p3 h0 n0) (T8.setTop (mkF m 32 #[.val (.int p1), .val (.int p2), .val (.int p3), .val (.int z4), .val (.ref arr), .unset, .unset] []))
      refine Run.go (fun _ k => XS.aload X8.here hx rfl (hb hby at_32) rfl rfl k) ?_
      show Run p e below s 1 8 (Q_rm0 Z p1 p2 p3 h0 n0) (T8.setTop (mkF m 34 #[.val (.int p1), .val (.int p2), .val (.int p3), .val (.int z4), .val (.ref arr), .unset, .unset] [(.ref arr)]))
      refine Run.go (fun _ k => XS.iconst X8.here hx rfl (hb hby at_34) k) ?_
      show Run p e below s 1 8 (Q_rm0 Z p1 p2 p3 h0 n0) (T8.setTop (mkF m 35 #[.val (.int p1), .val (.int p2), .val (.int p3), .val (.int z4), .val (.ref arr), .unset, .unset] [(.int (1 : Int32)), (.ref arr)]))
      refine Run.go (fun _ k => XS.iloadN X8.here hx rfl (hb hby at_35) rfl  k) ?_
      show Run p e below s 1 8 (Q_rm0 Z p1 p2 p3 h0 n0) (T8.setTop (mkF m 36 #[.val (.int p1), .val (.int p2), .val (.int p3), .val (.int z4), .val (.ref arr), .unset, .unset] [(.int p2), (.int (1 : Int32)), (.ref arr)]))
      refine Run.go (fun _ k => XS.iloadN X8.here hx rfl (hb hby at_36) rfl  k) ?_
      show Run p e below s 1 8 (Q_rm0 Z p1 p2 p3 h0 n0) (T8.setTop (mkF m 37 #[.val (.int p1), .val (.int p2), .val (.int p3), .val (.int z4), .val (.ref arr), .unset, .unset] [(.int p3), (.int p2), (.int (1 : Int32)), (.ref arr)]))
      refine Run.go (fun _ k => XS.iconst X8.here hx rfl (hb hby at_37) k) ?_
      show Run p e below s 1 8 (Q_rm0 Z p1 p2 p3 h0 n0) (T8.setTop (mkF m 38 #[.val (.int p1), .val (.int p2), .val (.int p3), .val (.int z4), .val (.ref arr), .unset, .unset] [(.int (1 : Int32)), (.int p3), (.int p2), (.int (1 : Int32)), (.ref arr)]))
      obtain ⟨_, _, ⟨T57, L57, k57, n57⟩, -, X57, ⟨Lc57, hQ57, l57, y57, z57⟩, st57⟩ := Jvm.LawKit.callS X8 hx (y := (⟨"com/example/subjectory/subjectory/index/PostingsCountPinLaw", "pick", "(III)B"⟩ : MethodName)) hown (mvT hZ (hw _ (List.mem_of_getElem? (i := 9) rfl))) (mvT hZ (hw _ (List.mem_of_getElem? (i := 10) rfl))) (mvT hZ (hw _ (List.mem_of_getElem? (i := 3) rfl))) (mvT hZ (hw _ (List.mem_of_getElem? (i := 11) rfl))) (by decide) (backOf (W := 2) (rm3_1 l Z a0 hw [] p2 p3 hh8 n0 Z8 ) hZ (hw _ (List.mem_of_getElem? (i := 11) rfl)) (hw _ (List.mem_of_getElem? (i := 3) rfl)) (by decide) (by decide)) (g := (mkF m 38 #[.val (.int p1), .val (.int p2), .val (.int p3), .val (.int z4), .val (.ref arr), .unset, .unset] [(.int (1 : Int32)), (.int p3), (.int p2), (.int (1 : Int32)), (.ref arr)])) rfl (by rw [hml]; rfl) (argsL := [(.int p2), (.int p3), (.int (1 : Int32))]) (rest := [(.int (1 : Int32)), (.ref arr)]) (lenOf pd_2 rfl) rfl (by show 2 * 0 + _ ≤ _; exact Nat.le_of_eq rfl) (hb hby at_38) (fun _ _ => ⟨rfl, e8, (by decide : 1 + 0 ≤ _), (by decide : 8 + 0 ≤ _)⟩)
      dsimp only [Pt.U, Pt.locs, Pt.cells, Pt.slots] at X57 l57 y57 z57 st57 hQ57
      subst l57 y57 z57
      obtain ⟨rfl, N57q, e57q⟩ := hQ57
      have N57 := Fr.app N8 N57q
      obtain ⟨Lg57, Xg57, Ng57⟩ := Stand_gen X57 N57
      refine Run.go st57 ?_
      show Run p e below s 1 8 (Q_rm0 Z p1 p2 p3 h0 n0) (T57.setTop (mkF m 41 #[.val (.int p1), .val (.int p2), .val (.int p3), .val (.int z4), .val (.ref arr), .unset, .unset] [(.int (F_rm3_1 p2)), (.int (1 : Int32)), (.ref arr)]))
      obtain ⟨T58, h58, X58, e58, W58, st58⟩ := ary_bset Xg57 hx hZ e57q fk8_0 (j := (1 : Int32)) (by decide) (own_lt1 (k := 1) rfl hc56) (g := (mkF m 41 #[.val (.int p1), .val (.int p2), .val (.int p3), .val (.int z4), .val (.ref arr), .unset, .unset] [(.int (F_rm3_1 p2)), (.int (1 : Int32)), (.ref arr)])) rfl rfl (hb hby at_41) (y := (F_rm3_1 p2)) (by unfold F_rm3_1; exact b_idem _)
      have N58 := Fr.snoc X58 Ng57 g_arr
      have Z58 : n0 ≤ h58.size := Nat.le_trans Z8 (Keep.of_wr W58).1
      obtain ⟨Lg58, Xg58, Ng58⟩ := Stand_gen X58 N58
      have fx59 : Ary Z h58 arr .byte z4.toNatClampNeg (fun i => if i = 1 then (.int (F_rm3_1 p2)) else g0 i) := fk8_0.same W58
      refine Run.go st58 ?_
      show Run p e below s 1 8 (Q_rm0 Z p1 p2 p3 h0 n0) (T58.setTop (mkF m 42 #[.val (.int p1), .val (.int p2), .val (.int p3), .val (.int z4), .val (.ref arr), .unset, .unset] []))
      exact HJ9 (fun i => if i = 1 then (.int (F_rm3_1 p2)) else g0 i) h58 _ _ Xg58 e58 Ng58 Z58 fx59 (fun _ _ => rfl)
    · refine Run.go (fun _ k => XS.icmpYes X8.here hx rfl (pc0 := 29) (pc' := 42) rfl (hb hby at_29) rfl (flt hc56).2.2.2 (by decide) (by decide) k) ?_
      show Run p e below s 1 8 (Q_rm0 Z p1 p2 p3 h0 n0) (T8.setTop (mkF m 42 #[.val (.int p1), .val (.int p2), .val (.int p3), .val (.int z4), .val (.ref arr), .unset, .unset] []))
      exact HJ9 g0 hh8 _ _ X8 e8 N8 Z8 fk8_0 (fun i hi => (if_neg (by have := own_nlt (k := 1) rfl hc56; omega)).symm)
  refine Run.go (fun _ k => XS.iloadN X5.here hx rfl (hb hby at_13) rfl  k) ?_
  show Run p e below s 1 8 (Q_rm0 Z p1 p2 p3 h0 n0) (T5.setTop (mkF m 14 #[.val (.int p1), .val (.int p2), .val (.int p3), .val (.int z4), .val (.ref arr), .unset, .unset] [(.int z4)]))
  by_cases hc60 : ((0 : Int32) < z4)
  · refine Run.go (fun _ k => XS.ifNo X5.here hx rfl (hb hby at_14) rfl ((if0 _ _).trans (tlt hc60).2.2.2) k) ?_
    show Run p e below s 1 8 (Q_rm0 Z p1 p2 p3 h0 n0) (T5.setTop (mkF m 17 #[.val (.int p1), .val (.int p2), .val (.int p3), .val (.int z4), .val (.ref arr), .unset, .unset] []))
    refine Run.go (fun _ k => XS.aload X5.here hx rfl (hb hby at_17) rfl rfl k) ?_
    show Run p e below s 1 8 (Q_rm0 Z p1 p2 p3 h0 n0) (T5.setTop (mkF m 19 #[.val (.int p1), .val (.int p2), .val (.int p3), .val (.int z4), .val (.ref arr), .unset, .unset] [(.ref arr)]))
    refine Run.go (fun _ k => XS.iconst X5.here hx rfl (hb hby at_19) k) ?_
    show Run p e below s 1 8 (Q_rm0 Z p1 p2 p3 h0 n0) (T5.setTop (mkF m 20 #[.val (.int p1), .val (.int p2), .val (.int p3), .val (.int z4), .val (.ref arr), .unset, .unset] [(.int (0 : Int32)), (.ref arr)]))
    refine Run.go (fun _ k => XS.iloadN X5.here hx rfl (hb hby at_20) rfl  k) ?_
    show Run p e below s 1 8 (Q_rm0 Z p1 p2 p3 h0 n0) (T5.setTop (mkF m 21 #[.val (.int p1), .val (.int p2), .val (.int p3), .val (.int z4), .val (.ref arr), .unset, .unset] [(.int p2), (.int (0 : Int32)), (.ref arr)]))
    refine Run.go (fun _ k => XS.iloadN X5.here hx rfl (hb hby at_21) rfl  k) ?_
    show Run p e below s 1 8 (Q_rm0 Z p1 p2 p3 h0 n0) (T5.setTop (mkF m 22 #[.val (.int p1), .val (.int p2), .val (.int p3), .val (.int z4), .val (.ref arr), .unset, .unset] [(.int p3), (.int p2), (.int (0 : Int32)), (.ref arr)]))
    refine Run.go (fun _ k => XS.iconst X5.here hx rfl (hb hby at_22) k) ?_
    show Run p e below s 1 8 (Q_rm0 Z p1 p2 p3 h0 n0) (T5.setTop (mkF m 23 #[.val (.int p1), .val (.int p2), .val (.int p3), .val (.int z4), .val (.ref arr), .unset, .unset] [(.int (0 : Int32)), (.int p3), (.int p2), (.int (0 : Int32)), (.ref arr)]))
    obtain ⟨_, _, ⟨T61, L61, k61, n61⟩, -, X61, ⟨Lc61, hQ61, l61, y61, z61⟩, st61⟩ := Jvm.LawKit.callS X5 hx (y := (⟨"com/example/subjectory/subjectory/index/PostingsCountPinLaw", "pick", "(III)B"⟩ : MethodName)) hown (mvT hZ (hw _ (List.mem_of_getElem? (i := 9) rfl))) (mvT hZ (hw _ (List.mem_of_getElem? (i := 10) rfl))) (mvT hZ (hw _ (List.mem_of_getElem? (i := 3) rfl))) (mvT hZ (hw _ (List.mem_of_getElem? (i := 11) rfl))) (by decide) (backOf (W := 2) (rm3_0 l Z a0 hw [] p2 p3 h5 n0 Z5 ) hZ (hw _ (List.mem_of_getElem? (i := 11) rfl)) (hw _ (List.mem_of_getElem? (i := 3) rfl)) (by decide) (by decide)) (g := (mkF m 23 #[.val (.int p1), .val (.int p2), .val (.int p3), .val (.int z4), .val (.ref arr), .unset, .unset] [(.int (0 : Int32)), (.int p3), (.int p2), (.int (0 : Int32)), (.ref arr)])) rfl (by rw [hml]; rfl) (argsL := [(.int p2), (.int p3), (.int (0 : Int32))]) (rest := [(.int (0 : Int32)), (.ref arr)]) (lenOf pd_2 rfl) rfl (by show 2 * 0 + _ ≤ _; exact Nat.le_of_eq rfl) (hb hby at_23) (fun _ _ => ⟨rfl, e5, (by decide : 1 + 0 ≤ _), (by decide : 8 + 0 ≤ _)⟩)
    dsimp only [Pt.U, Pt.locs, Pt.cells, Pt.slots] at X61 l61 y61 z61 st61 hQ61
    subst l61 y61 z61
    obtain ⟨rfl, N61q, e61q⟩ := hQ61
    have N61 := Fr.app N0 N61q
    obtain ⟨Lg61, Xg61, Ng61⟩ := Stand_gen X61 N61
    refine Run.go st61 ?_
    show Run p e below s 1 8 (Q_rm0 Z p1 p2 p3 h0 n0) (T61.setTop (mkF m 26 #[.val (.int p1), .val (.int p2), .val (.int p3), .val (.int z4), .val (.ref arr), .unset, .unset] [(.int (F_rm3_0 p2)), (.int (0 : Int32)), (.ref arr)]))
    obtain ⟨T62, h62, X62, e62, W62, st62⟩ := ary_bset Xg61 hx hZ e61q fx6 (j := (0 : Int32)) (by decide) (own_lt1 (k := 0) rfl hc60) (g := (mkF m 26 #[.val (.int p1), .val (.int p2), .val (.int p3), .val (.int z4), .val (.ref arr), .unset, .unset] [(.int (F_rm3_0 p2)), (.int (0 : Int32)), (.ref arr)])) rfl rfl (hb hby at_26) (y := (F_rm3_0 p2)) (by unfold F_rm3_0; exact b_idem _)
    have N62 := Fr.snoc X62 Ng61 g_arr
    have Z62 : n0 ≤ h62.size := Nat.le_trans Z5 (Keep.of_wr W62).1
    obtain ⟨Lg62, Xg62, Ng62⟩ := Stand_gen X62 N62
    have fx63 : Ary Z h62 arr .byte z4.toNatClampNeg (fun i => if i = 0 then (.int (F_rm3_0 p2)) else (fun _ => (.int (0 : Int32))) i) := fx6.same W62
    refine Run.go st62 ?_
    show Run p e below s 1 8 (Q_rm0 Z p1 p2 p3 h0 n0) (T62.setTop (mkF m 27 #[.val (.int p1), .val (.int p2), .val (.int p3), .val (.int z4), .val (.ref arr), .unset, .unset] []))
    exact HJ7 (fun i => if i = 0 then (.int (F_rm3_0 p2)) else (fun _ => (.int (0 : Int32))) i) h62 _ _ Xg62 e62 Ng62 Z62 fx63 (fun _ _ => rfl)
  · refine Run.go (fun _ k => XS.ifYes X5.here hx rfl (pc0 := 14) (pc' := 27) rfl (hb hby at_14) rfl ((if0 _ _).trans (flt hc60).2.2.2) (by decide) (by decide) k) ?_
    show Run p e below s 1 8 (Q_rm0 Z p1 p2 p3 h0 n0) (T5.setTop (mkF m 27 #[.val (.int p1), .val (.int p2), .val (.int p3), .val (.int z4), .val (.ref arr), .unset, .unset] []))
    exact HJ7 (fun _ => (.int (0 : Int32))) h5 _ _ X5 e5 N0 Z5 fx6 (fun i hi => (if_neg (by have := own_nlt (k := 0) rfl hc60; omega)).symm)
set_option maxRecDepth 65536 in
set_option maxHeartbeats 40000000 in
theorem comes_1 {Post : Tables → Env → Array Value → State → Outcome → State → Prop} (hpost : ∀ tb e args s v u, (limb_1_1.after args s (.returned v) u = true ∧ limb_1_2.after args s (.returned v) u = true ∧ True) → FrameEnd s (.returned v) u (Jvm.fieldLocs frame_1_writes args s ++ Jvm.arrayLocs frame_1_arrays args s ++ Jvm.staticLocs frame_1_statics s) 16 128 → Post tb e args s (.returned v) u) :
    ArmFor flags0 classFile x code maxLocals ret World_1 tables_1 room_1 Calls_1 rest_1 Pre_1 Post := by
  intro l hfl _ _ p e ha hc hk s m args below hf hA hF happ hP
  obtain ⟨hcalls, hrest, hpre⟩ := hP
  obtain ⟨-, -, -, hnamed, -, -, -, hat⟩ := (Spec.applies_iff hf).mp happ
  obtain ⟨hg, hn⟩ := and_e (Cond.before_iff.mp (show (Jvm.Cond.and given_1 narrow_1).before args s = true from hpre))
  obtain ⟨g1, g2⟩ := and_e hg
  obtain ⟨g3, g4⟩ := and_e g2
  obtain ⟨g5, g6⟩ := and_e g4
  obtain ⟨w0, w1, w2, rfl⟩ : ∃ w0 w1 w2 : Value, args = #[w0, w1, w2] := by
    have hs : args.size = 3 := by simpa [Cond.value, given_1] using g1
    obtain ⟨L⟩ := args
    match L, hs with
    | [w0, w1, w2], _ => exact ⟨w0, w1, w2, rfl⟩
  have hw := fun d (hd : d ∈ tables_1) => atoms_spec (ws := Jvm.Cond.code x code maxLocals ret :: tables_1) hat d (List.mem_cons_of_mem _ hd)
  have hfit : Fit s := fun {y c} hc i hi => by
    obtain ⟨ha, rfl⟩ := Array.getElem?_eq_some_iff.mp hc
    have q := List.all_eq_true.mp ((Array.all_eq_true_iff_forall_mem.mp hF) _ (Array.getElem_mem ha)) i (List.mem_range.mpr hi)
    simpa [Array.getElem?_eq_getElem hi] using q
  obtain ⟨i0, ei0⟩ := is_v g3
  obtain rfl : w0 = (.int i0) := Option.some.inj ei0
  obtain ⟨i1, ei1⟩ := is_v g5
  obtain rfl : w1 = (.int i1) := Option.some.inj ei1
  obtain ⟨i2, ei2⟩ := is_v g6
  obtain rfl : w2 = (.int i2) := Option.some.inj ei2
  obtain ⟨n, o, h1, h2, h3, _, L, rfl, ⟨rfl, N⟩, hq⟩ := rm0 l s _ hw tables_1 i0 i1 i2 s.heap s.heap.size (Nat.le_refl _)  p e ha hc hk s m _ below hf ((Spec.applies_iff_loose hf).mp happ).1 ⟨rfl, State.Warmed39.refl s, rfl⟩ trivial
  refine ⟨n, _, h1, h2, h3, hpost _ _ _ _ _ _ ⟨Cond.after_iff.mpr rfl, Cond.after_iff.mpr (eq_i res_at (Term.int_eval (1)) rfl), trivial⟩ ⟨hq.1, hq.2.1, (hq.2.2.sift fun y hy => Or.inr (N y hy)).mono (by decide) (by decide)⟩⟩
theorem main_1_1 : Claimed_1_1 := comes_1 fun _ _ _ _ _ _ h hF => ⟨h.1, hF⟩
theorem main_1_2 : Claimed_1_2 := comes_1 fun _ _ _ _ _ _ h hF => ⟨h.2.1, hF⟩
end Jvm.Pilot.@@N@@
namespace Jvm.Pilot.@@N@@
open Jvm Jvm.ClassFile Sem Op Lib Jvm.Free Jvm.Stand Jvm.Pilot.@@N@@.Jvm.D
/-! MADE BY PROGRAM (witnessworld.py) out of the Statement's table words and the real class files: 9 classes; the members and pool entries that the words name. The judged class is class 1, her method 3. -/
namespace start1
open Jvm.ClassFile
def u (s : String) : CpInfo := .utf8 (stringToUtf16 s)
/-- a pool by its gaps: so many unusable entries, then the entry; so many at the end -/
def gap : Nat → List CpInfo → List CpInfo
  | 0, r => r
  | n + 1, r => .unusable :: gap n r
def poolList (es : List (Nat × CpInfo)) (last : Nat) : List CpInfo := es.foldr (fun e r => gap e.1 (e.2 :: r)) (gap last [])
def pool (es : List (Nat × CpInfo)) (last : Nat) : Array CpInfo := ⟨poolList es last⟩
def fileOf (pool : Array CpInfo) (this : Nat) (attrs : Array Attribute := #[]) (ms : Array MethodInfo := #[]) (fl : Nat := 33) (sup : Nat := 0) (ifs : Array Nat := #[]) (fds : Array FieldInfo := #[]) : ClassFile where
  minorVersion := 0
  majorVersion := 65
  constantPool := pool
  accessFlags := fl
  thisClass := this
  superClass := sup
  interfaces := ifs
  fields := fds
  methods := ms
  attributes := attrs
def plain (name : String) (sup : Option ClassId) : Class where
  name := name
  kind := .ordinary
  loader := none
  accessFlags := 33
  super := sup
  interfaces := #[]
  cf := none
  fields := #[]
  methods := #[]
  instanceTypes := #[]
  staticTypes := #[]
  resolved := #[]
  callSites := []
  init := .initialized
  statics := none
  mirror := none

def pool0 : Array CpInfo := pool [(5, u "<init>"), (0, u "()V"), (1, .class_ 10), (1, u "java/lang/Object")] 113

def k0m0 : Method := { name := "<init>", desc := "()V", sig := { parameters := [], returnType := none }, accessFlags := 1, code := none }
/-- java/lang/Object -/
def k0 : Class := { plain "java/lang/Object" none with
  accessFlags := 33
  interfaces := #[]
  cf := some (fileOf pool0 8 #[] #[{ accessFlags := 1, nameIndex := 5, descriptorIndex := 6, attributes := #[] }] 33 0 #[] #[])
  fields := #[]
  methods := #[k0m0]
  instanceTypes := #[]
  staticTypes := #[]
  resolved := Array.replicate 124 none
  statics := none }

def pool1 : Array CpInfo := pool [(2, .class_ 4), (1, u "java/lang/Object"), (0, u "<init>"), (0, u "()V"), (0, .methodref 8 9), (0, .class_ 10), (0, .nameAndType 11 12), (0, u "com/example/subjectory/subjectory/index/PostingsCountPinLaw"), (0, u "pick"), (0, u "(III)B"), (0, .methodref 8 14), (0, .nameAndType 15 16), (0, u "term"), (0, u "(IIII)J"), (0, .methodref 18 19), (0, .class_ 20), (0, .nameAndType 21 22), (0, u "com/example/subjectory/subjectory/index/Postings"), (0, u "count"), (0, u "([B)J"), (3, u "law"), (0, u "(III)Z")] 4

def k1m0 : Method := { name := "<init>", desc := "()V", sig := { parameters := [], returnType := none }, accessFlags := 1, code := none }
def k1c1 : Code := { maxStack := 4, maxLocals := 4, code := method_2_code, exceptionTable := #[], attributes := #[] }
def k1m1 : Method := { name := "pick", desc := "(III)B", sig := { parameters := [.int, .int, .int], returnType := some .byte }, accessFlags := 10, code := some k1c1 }
def k1c2 : Code := { maxStack := 4, maxLocals := 6, code := method_3_code, exceptionTable := #[], attributes := #[] }
def k1m2 : Method := { name := "term", desc := "(IIII)J", sig := { parameters := [.int, .int, .int, .int], returnType := some .long }, accessFlags := 10, code := some k1c2 }
def k1c3 : Code := { maxStack := 6, maxLocals := 7, code := code, exceptionTable := #[], attributes := #[] }
def k1m3 : Method := { name := "law", desc := "(III)Z", sig := { parameters := [.int, .int, .int], returnType := some .boolean }, accessFlags := 9, code := some k1c3 }
/-- com/example/subjectory/subjectory/index/PostingsCountPinLaw -/
def k1 : Class := { plain "com/example/subjectory/subjectory/index/PostingsCountPinLaw" (some 0) with
  accessFlags := 49
  interfaces := #[]
  cf := some (fileOf pool1 8 #[] #[{ accessFlags := 1, nameIndex := 5, descriptorIndex := 6, attributes := #[] }, { accessFlags := 10, nameIndex := 11, descriptorIndex := 12, attributes := #[] }, { accessFlags := 10, nameIndex := 15, descriptorIndex := 16, attributes := #[] }, { accessFlags := 9, nameIndex := 26, descriptorIndex := 27, attributes := #[] }] 49 2 #[] #[])
  fields := #[]
  methods := #[k1m0, k1m1, k1m2, k1m3]
  instanceTypes := #[]
  staticTypes := #[]
  resolved := Array.replicate 32 none
  statics := none }

def pool2 : Array CpInfo := pool [(2, .class_ 4), (1, u "java/lang/Object"), (3, .class_ 10), (1, u "com/example/subjectory/subjectory/index/Postings"), (0, u "gaps"), (0, u "[B"), (2, u "first"), (0, u "I"), (2, u "last"), (2, u "length"), (12, u "count"), (0, u "([B)J")] 16

def k2c0 : Code := { maxStack := 4, maxLocals := 7, code := prog_24_method_5_code, exceptionTable := #[], attributes := #[] }
def k2m0 : Method := { name := "count", desc := "([B)J", sig := { parameters := [(.array .byte)], returnType := some .long }, accessFlags := 8, code := some k2c0 }
/-- com/example/subjectory/subjectory/index/Postings -/
def k2 : Class := { plain "com/example/subjectory/subjectory/index/Postings" (some 0) with
  accessFlags := 48
  interfaces := #[]
  cf := some (fileOf pool2 8 #[] #[{ accessFlags := 8, nameIndex := 35, descriptorIndex := 36, attributes := #[] }] 48 2 #[] #[{ accessFlags := 18, nameIndex := 15, descriptorIndex := 16, attributes := #[] }, { accessFlags := 2, nameIndex := 19, descriptorIndex := 16, attributes := #[] }, { accessFlags := 2, nameIndex := 11, descriptorIndex := 12, attributes := #[] }, { accessFlags := 2, nameIndex := 22, descriptorIndex := 16, attributes := #[] }])
  fields := #[{ name := "first", type := .int, accessFlags := 18, slot := 0, constantValue := 0 }, { name := "last", type := .int, accessFlags := 2, slot := 1, constantValue := 0 }, { name := "gaps", type := (.array .byte), accessFlags := 2, slot := 2, constantValue := 0 }, { name := "length", type := .int, accessFlags := 2, slot := 3, constantValue := 0 }]
  methods := #[k2m0]
  instanceTypes := #[.int, .int, (.array .byte), .int]
  staticTypes := #[]
  resolved := Array.replicate 53 none
  statics := none }

def pool3 : Array CpInfo := pool [(1, u "java/lang/Cloneable"), (0, .class_ 1), (0, u "java/lang/Object"), (0, .class_ 3)] 3

/-- java/lang/Cloneable -/
def k3 : Class := { plain "java/lang/Cloneable" (some 0) with
  accessFlags := 1537
  interfaces := #[]
  cf := some (fileOf pool3 2 #[] #[] 1537 4 #[] #[])
  fields := #[]
  methods := #[]
  instanceTypes := #[]
  staticTypes := #[]
  resolved := Array.replicate 8 none
  statics := none }

def pool4 : Array CpInfo := pool [(1, u "java/io/Serializable"), (0, .class_ 1), (0, u "java/lang/Object"), (0, .class_ 3)] 3

/-- java/io/Serializable -/
def k4 : Class := { plain "java/io/Serializable" (some 0) with
  accessFlags := 1537
  interfaces := #[]
  cf := some (fileOf pool4 2 #[] #[] 1537 4 #[] #[])
  fields := #[]
  methods := #[]
  instanceTypes := #[]
  staticTypes := #[]
  resolved := Array.replicate 8 none
  statics := none }

/-- the primitive byte -/
def k5 : Class := { plain "byte" none with kind := .primitive 'B', accessFlags := 0x411 }
/-- [B -/
def k6 : Class := { plain "[B" (some 0) with kind := .array 5 .byte, interfaces := #[3, 4], accessFlags := 1041 }

/-- the primitive int -/
def k7 : Class := { plain "int" none with kind := .primitive 'I', accessFlags := 0x411 }
/-- [I -/
def k8 : Class := { plain "[I" (some 0) with kind := .array 7 .int, interfaces := #[3, 4], accessFlags := 1041 }

def heap : Heap := #[]
def classes : Array Class := #[k0, k1, k2, k3, k4, k5, k6, k7, k8]
def interned : List (Array UInt16 × Addr) := []
def slotsUsed : Nat := 0
def theMethod : MethodId := ⟨1, 3⟩
def args0 : Array Value := #[.int 3, .int 2, .int 5]
def aboutOver (below : List Frame) : State where
  vm := { classes := classes, interned := interned.toArray }
  heap := heap
  slotsUsed := slotsUsed
  threads := #[{ frames := .invoking theMethod args0 :: below }]
def below0 : List Frame := [.native { method := ⟨0, 0⟩, args := #[] }]
def about1 : State := aboutOver below0
def p0 : Program := .bare "" "" ""
def e0 : Env := launch0.env 0 0 0
theorem w_frames : about1.frames = Frame.invoking theMethod args0 :: below0 := rfl
set_option maxRecDepth 65536 in
theorem w_args : argsFit about1.vm theMethod args0 = true := by decide +kernel
set_option maxRecDepth 65536 in
theorem w_heap : heapFits about1 = true := by decide +kernel
set_option maxRecDepth 65536 in
theorem w_runnable : about1.curStatus? = some .runnable := by decide +kernel
set_option maxRecDepth 65536 in
theorem w_alone : about1.alone = true := by decide +kernel
set_option maxRecDepth 65536 in
theorem w_named : about1.methodNamed? x = some theMethod := by decide +kernel
set_option maxRecDepth 65536 in
theorem w_hears : about1.hears theMethod below0 = true := by decide +kernel
set_option maxRecDepth 65536 in
theorem w_ripe : about1.ripe theMethod args0 below0 = true := by decide +kernel
theorem w_running : about1.status = .running := rfl
set_option maxRecDepth 65536 in
theorem w_room : about1.hasRoom e0.platform room_1 = true :=
  launch0.hasRoom_least _ room_1 (by decide +kernel) (by decide +kernel) (by decide +kernel) (by decide +kernel) (by decide +kernel) (by decide +kernel)
theorem allAtoms_all (ts : List Jvm.Cond) (a : Array Jvm.Value) (st : Jvm.State) : (allAtoms ts).before a st = ts.all (fun c => c.before a st) := by
  induction ts with
  | nil => rfl
  | cons c t ih =>
    show (Jvm.Cond.and c (allAtoms t)).before a st = _
    rw [Jvm.Cond.before_and, ih, List.all_cons]
def words1 : List Jvm.Cond := Jvm.Cond.code x code maxLocals ret :: tables_1
/-- a 'code' word, met by the world's own term for the bytes: nothing is compared byte by byte -/
theorem code_word {y : MethodName} {bytes : ByteArray} {mx : Nat} {rt : Option FieldType} {a : Array Value} {s : State} {m : MethodId} {meth : Method} {c : Code} (h1 : s.methodNamed? y = some m) (h2 : s.vm.method? m = some meth) (h3 : meth.code = some c) (h4 : c.code = bytes)
    (h5 : (c.maxLocals == mx && c.exceptionTable.isEmpty && decide (c.maxStack ≤ mostOperands) && decide (meth.sig.returnType = rt) && !meth.locks && decide (parseMethodDescriptor y.desc = some meth.sig)) = true) : (Jvm.Cond.code y bytes mx rt).before a s = true := by
  simp only [Bool.and_eq_true, beq_iff_eq, Bool.not_eq_true', decide_eq_true_eq] at h5
  obtain ⟨⟨⟨⟨⟨g1, g2⟩, g3⟩, g4⟩, g5⟩, g6⟩ := h5
  simp [Cond.before, Cond.holds, Cond.value, h1, h2, h3, h4, g1, g2, g3, g4, g5, g6]
def isCode : Jvm.Cond → Bool
  | .code _ _ _ _ => true
  | _ => false
theorem all_split {L : List Jvm.Cond} {P : Jvm.Cond → Bool} (h1 : L.all (fun c => isCode c || P c) = true) (h2 : ∀ c ∈ L.filter isCode, P c = true) : L.all P = true := by
  refine List.all_eq_true.mpr fun c hc => ?_
  have h := List.all_eq_true.mp h1 c hc
  rcases Bool.eq_false_or_eq_true (isCode c) with hi | hi
  · exact h2 c (List.mem_filter.mpr ⟨hc, hi⟩)
  · simpa [hi] using h
set_option maxRecDepth 65536 in
theorem w_c0 : (Jvm.Cond.code x code maxLocals ret).before args0 about1 = true := code_word (m := ⟨1, 3⟩) (meth := k1m3) (c := k1c3) (by decide +kernel) rfl rfl rfl (by decide +kernel)
set_option maxRecDepth 65536 in
theorem w_c1 : (Jvm.Cond.code ({ cls := "com/example/subjectory/subjectory/index/PostingsCountPinLaw", name := "term", desc := "(IIII)J" } : Jvm.MethodName) method_3_code (6 : Nat) (Option.some Jvm.ClassFile.FieldType.long)).before args0 about1 = true := code_word (m := ⟨1, 2⟩) (meth := k1m2) (c := k1c2) (by decide +kernel) rfl rfl rfl (by decide +kernel)
set_option maxRecDepth 65536 in
theorem w_c2 : (Jvm.Cond.code ({ cls := "com/example/subjectory/subjectory/index/Postings", name := "count", desc := "([B)J" } : Jvm.MethodName) prog_24_method_5_code (7 : Nat) (Option.some Jvm.ClassFile.FieldType.long)).before args0 about1 = true := code_word (m := ⟨2, 0⟩) (meth := k2m0) (c := k2c0) (by decide +kernel) rfl rfl rfl (by decide +kernel)
set_option maxRecDepth 65536 in
theorem w_c3 : (Jvm.Cond.code ({ cls := "com/example/subjectory/subjectory/index/PostingsCountPinLaw", name := "pick", desc := "(III)B" } : Jvm.MethodName) method_2_code (4 : Nat) (Option.some Jvm.ClassFile.FieldType.byte)).before args0 about1 = true := code_word (m := ⟨1, 1⟩) (meth := k1m1) (c := k1c1) (by decide +kernel) rfl rfl rfl (by decide +kernel)
def codes1 : List Jvm.Cond := [Jvm.Cond.code x code maxLocals ret, Jvm.Cond.code ({ cls := "com/example/subjectory/subjectory/index/PostingsCountPinLaw", name := "term", desc := "(IIII)J" } : Jvm.MethodName) method_3_code (6 : Nat) (Option.some Jvm.ClassFile.FieldType.long), Jvm.Cond.code ({ cls := "com/example/subjectory/subjectory/index/Postings", name := "count", desc := "([B)J" } : Jvm.MethodName) prog_24_method_5_code (7 : Nat) (Option.some Jvm.ClassFile.FieldType.long), Jvm.Cond.code ({ cls := "com/example/subjectory/subjectory/index/PostingsCountPinLaw", name := "pick", desc := "(III)B" } : Jvm.MethodName) method_2_code (4 : Nat) (Option.some Jvm.ClassFile.FieldType.byte)]
set_option maxRecDepth 65536 in
theorem codes_eq : words1.filter isCode = codes1 := rfl
theorem w_codes : ∀ c ∈ words1.filter isCode, c.before args0 about1 = true := by
  rw [codes_eq]
  intro c hc
  simp only [codes1, List.mem_cons, List.not_mem_nil, or_false] at hc
  rcases hc with rfl | rfl | rfl | rfl
  · exact w_c0
  · exact w_c1
  · exact w_c2
  · exact w_c3
set_option maxRecDepth 65536 in
theorem w_t1 : words1.all (fun c => isCode c || c.before args0 about1) = true := by decide +kernel
theorem w_tables : (allAtoms (Jvm.Cond.code x code maxLocals ret :: tables_1)).before args0 about1 = true := by
  rw [allAtoms_all]
  show words1.all (fun c => c.before args0 about1) = true
  refine all_split ?_ w_codes
  rw [w_t1]
set_option maxRecDepth 65536 in
theorem w_case : (Jvm.Cond.and given_1 narrow_1).before args0 about1 = true := by decide +kernel
theorem w_applies : (headSpec (Jvm.Cond.code x code maxLocals ret :: tables_1) room_1).applies x e0.platform about1 = true :=
  (Spec.applies_iff w_frames).mpr ⟨w_running, w_runnable, w_alone, w_named, w_hears, w_ripe, w_room, w_tables⟩
theorem atStart : AtStart classFile x code maxLocals ret World_1 tables_1 room_1 Calls_1 rest_1 Pre_1 launch0 p0 e0 about1 theMethod args0 below0 :=
  ⟨lists_1, trivial, launch0.admits_env _ _ _, launch0.least_env, fairChoices_fair.cas, fairChoices_fair.clock, w_frames, w_args, w_heap, w_applies, trivial, trivial, w_case⟩
end start1
theorem witness_1 : WitnessClaimed_1 := ⟨start1.p0, start1.e0, start1.about1, start1.theMethod, start1.args0, start1.below0, start1.atStart⟩
end Jvm.Pilot.@@N@@
