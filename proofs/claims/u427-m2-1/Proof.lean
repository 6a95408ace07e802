import JvmDerived
import JvmDerived.Pilot.@@N@@Statement
import JvmDerived.Pilot.@@N@@Code
set_option linter.unusedVariables false
set_option linter.unusedSimpArgs false
namespace Jvm.RoadKit
open Sem ClassFile Op Lib Jvm.Stand Jvm.Free Jvm.LawKit
section New
variable {p : Program} {l : Launch} {e : Env} {R : Room} {s : State} {m : MethodId} {args : Array Value} {below : List Frame} {meth : Method} {c : Code} {T : State} {locs : List Loc} {cells slots : Nat}
theorem retI (X : Stand p l e R s m args below meth c T locs cells slots) (hx : p.tables.exec = Jvm.exec) {pc : Nat} {Ls : Array Slot} {z : Int32} {rest : List Value} (hret : meth.sig.returnType = some .int) (hd : decode c.code pc = .ok (.ireturn, 1)) {fs : List Frame}
    (hl : ∀ (f : JFrame) (acts : List Action), f.method = m → f.locked = none → f.entered = [] → (doReturn e (T.setTop f) acts (some (.int z))).1 = T.setFrames fs) : Steps p.tables e below (T.setTop (mkF m pc Ls (.int z :: rest))) (T.setFrames fs) := by
  have hm' : T.vm.method? m = some meth := X.method'
  have hn : narrow .int (.int z) = .int z := rfl
  show Steps p.tables e below (T.setTop { method := m, pc := pc, locals := Ls, stack := _ :: rest, locked := none }) _
  jvm_step X.here [X.here.top, hx, hd, hm', hret, hn]
  first | (intro acts; rw [hl _ acts rfl rfl rfl]) | rw [hl _ _ rfl rfl rfl]
  exact Steps.refl _
/-- a run from A that ends in an outcome with P -/
def Gl (tb : Tables) (e : Env) (below : List Frame) (P : Outcome → State → Prop) (A : State) : Prop := ∃ s₂ o, Steps tb e below A s₂ ∧ s₂.status = .running ∧ Ended s₂ below o ∧ P o s₂
theorem Gl.pre {tb : Tables} {e : Env} {below : List Frame} {P : Outcome → State → Prop} {A B : State} (h : ∀ t, Steps tb e below B t → Steps tb e below A t) (g : Gl tb e below P B) : Gl tb e below P A := by
  obtain ⟨s2, o, h1, r⟩ := g; exact ⟨s2, o, h _ h1, r⟩
theorem own_finI (X : Stand p l e R s m args below meth c T locs cells slots) (hx : p.tables.exec = Jvm.exec) (hlk : meth.locks = false) {pc : Nat} {Ls : Array Slot} {z : Int32} {rest : List Value} (hret : meth.sig.returnType = some .int) (hd : decode c.code pc = .ok (.ireturn, 1)) {Q : Option Value → Heap → List Loc → Prop} {C S : Nat}
    (hq : Q (some (.int z)) T.heap locs) (hc : cells ≤ C) (hs : slots ≤ S) : Gl p.tables e below (fun o U' => ∃ v L, o = .returned v ∧ Q v U'.heap L ∧ FrameEnd s o U' L C S) (T.setTop (mkF m pc Ls (.int z :: rest))) := by
  obtain ⟨fs, hr, hrun, hended, hW, hsame⟩ := X.leave (v := some (.int z)) (fun h => by rw [hret] at h; cases h) hlk
  exact ⟨_, _, retI X hx hret hd hr, hrun, hended, _, _, rfl, hq, ⟨_, rfl⟩, hW, hsame.mono hc hs⟩
theorem own_finN (X : Stand p l e R s m args below meth c T locs cells slots) (hx : p.tables.exec = Jvm.exec) (hlk : meth.locks = false) {pc : Nat} {Ls : Array Slot} {z z' : Int32} {rest : List Value} {t : FieldType} (hret : meth.sig.returnType = some t) (ht : t = .boolean ∨ t = .byte ∨ t = .char ∨ t = .short) (hz : nar t z = z') (hd : decode c.code pc = .ok (.ireturn, 1)) {Q : Option Value → Heap → List Loc → Prop} {C S : Nat}
    (hq : Q (some (.int z')) T.heap locs) (hc : cells ≤ C) (hs : slots ≤ S) : Gl p.tables e below (fun o U' => ∃ v L, o = .returned v ∧ Q v U'.heap L ∧ FrameEnd s o U' L C S) (T.setTop (mkF m pc Ls (.int z :: rest))) := by
  subst hz
  obtain ⟨fs, hr, hrun, hended, hW, hsame⟩ := X.leave (v := some (.int (nar t z))) (fun h => by rw [hret] at h; cases h) hlk
  exact ⟨_, _, retN X hx hret ht hd hr, hrun, hended, _, _, rfl, hq, ⟨_, rfl⟩, hW, hsame.mono hc hs⟩
theorem own_finV (X : Stand p l e R s m args below meth c T locs cells slots) (hx : p.tables.exec = Jvm.exec) (hlk : meth.locks = false) {pc : Nat} {Ls : Array Slot} (hret : meth.sig.returnType = none) (hd : decode c.code pc = .ok (.return_, 1)) {Q : Option Value → Heap → List Loc → Prop} {C S : Nat}
    (hq : Q none T.heap locs) (hc : cells ≤ C) (hs : slots ≤ S) : Gl p.tables e below (fun o U' => ∃ v L, o = .returned v ∧ Q v U'.heap L ∧ FrameEnd s o U' L C S) (T.setTop (mkF m pc Ls [])) := by
  obtain ⟨fs, hr, hrun, hended, hW, hsame⟩ := X.leave (v := none) (fun _ => rfl) hlk
  exact ⟨_, _, X.returnOut hx hret hd hr, hrun, hended, _, _, rfl, hq, ⟨_, rfl⟩, hW, hsame.mono hc hs⟩
theorem own_finA (X : Stand p l e R s m args below meth c T locs cells slots) (hx : p.tables.exec = Jvm.exec) (hlk : meth.locks = false) {pc : Nat} {Ls : Array Slot} {w : Value} {rest : List Value} {t : FieldType} (hret : meth.sig.returnType = some t) (hw : w.isRef = true) (ht : t.isReference = true) (hd : decode c.code pc = .ok (.areturn, 1)) {Q : Option Value → Heap → List Loc → Prop} {C S : Nat}
    (hq : Q (some w) T.heap locs) (hc : cells ≤ C) (hs : slots ≤ S) : Gl p.tables e below (fun o U' => ∃ v L, o = .returned v ∧ Q v U'.heap L ∧ FrameEnd s o U' L C S) (T.setTop (mkF m pc Ls (w :: rest))) := by
  obtain ⟨fs, hr, hrun, hended, hW, hsame⟩ := X.leave (v := some w) (fun h => by rw [hret] at h; cases h) hlk
  have hn : narrow t w = w := by rcases ref_cases hw with rfl | ⟨z, rfl⟩ <;> cases t <;> rfl
  exact ⟨_, _, retOut X hx hret hn (Or.inr (Or.inr (Or.inr (Or.inr ⟨rfl, ht, hw⟩)))) hd hr, hrun, hended, _, _, rfl, hq, ⟨_, rfl⟩, hW, hsame.mono hc hs⟩
/-- Java's >>> -/
def own_ushr (x y : Int32) : Int32 := (x.toUInt32 >>> (y &&& 31).toUInt32).toInt32
def own_ushrL (x : Int64) (y : Int32) : Int64 := (x.toUInt64 >>> (y &&& 0x3f).toInt64.toUInt64).toInt64
/-- 1 where P holds, else 0 -/
def own_pi (P : Prop) [Decidable P] : Int32 := if P then 1 else 0
theorem own_pi_t {P : Prop} [Decidable P] (h : P) : own_pi P = 1 := if_pos h
theorem own_pi_f {P : Prop} [Decidable P] (h : ¬ P) : own_pi P = 0 := if_neg h
theorem own_pi_nt {P : Prop} [Decidable P] (h : P) : own_pi (¬ P) = 0 := if_neg (fun q => q h)
theorem own_pi_nf {P : Prop} [Decidable P] (h : ¬ P) : own_pi (¬ P) = 1 := if_pos h
theorem own_pi0 {P : Prop} [Decidable P] : own_pi P = 0 ↔ ¬ P := by unfold own_pi; split <;> simp_all
theorem own_pi_eq {P Q : Prop} [Decidable P] [Decidable Q] (h : P ↔ Q) : own_pi P = own_pi Q := by unfold own_pi; simp [h]
theorem own_nar_pi {P : Prop} [i : Decidable P] : nar .boolean (@own_pi P i) = @own_pi P i := by unfold own_pi; split <;> decide
end New
/-- the array at a (of kind ty) holds the ints xs -/
def Bal (Z : State) (h : Heap) (a : Addr) (ty : FieldType) (xs : List Int32) : Prop := ∃ c : Cell, Arr Z h a c ty ∧ c.slots.size = xs.length ∧ ∀ i, i < xs.length → c.slots[i]? = some (.int (xs.getD i 0))
section Arrays
variable {Z : State} {h h' : Heap} {a b : Addr} {ty : FieldType} {xs : List Int32} {ws : List Addr}
theorem Bal.lt (F : Bal Z h a ty xs) : a < h.size := by obtain ⟨c, A, -⟩ := F; exact A.lt
theorem Bal.ext (F : Bal Z h a ty xs) (E : Ext h h') : Bal Z h' a ty xs := by obtain ⟨c, A, r⟩ := F; exact ⟨c, A.ext E, r⟩
theorem Bal.other {sl : Nat} {v : Value} (F : Bal Z h b ty xs) (W : Wr h h' a sl v) (q : b ≠ a) : Bal Z h' b ty xs := by obtain ⟨c, A, r⟩ := F; exact ⟨c, A.other W q, r⟩
theorem Bal.keep (F : Bal Z h a ty xs) (K : Keep h h' ws) (q : a ∉ ws) : Bal Z h' a ty xs := by obtain ⟨c, A, r⟩ := F; exact ⟨c, ⟨K.2.1 a c A.1 q, A.2⟩, r⟩
theorem Bal.new {k : ClassId} {z : Int32} {n : Nat} (A : Arr Z h a (newA k ty z) ty) (hz : z.toNatClampNeg = n) (hd : defaultValue ty = .int 0) : Bal Z h a ty (List.replicate n 0) := by
  subst hz
  refine ⟨_, A, by rw [sz_new, List.length_replicate], fun i hi => ?_⟩
  rw [List.length_replicate] at hi
  simp [newA, hd, hi, List.getD_eq_getElem?_getD]
theorem Bal.set {i : Nat} {v : Int32} (F : Bal Z h a ty xs) (W : Wr h h' a i (.int v)) (hi : i < xs.length) : Bal Z h' a ty (xs.set i v) := by
  obtain ⟨c, A, S, H⟩ := F
  refine ⟨_, A.same W, by rw [sz_set, S, List.length_set], fun k hk => ?_⟩
  rw [List.length_set] at hk
  show (c.slots.setIfInBounds i (.int v))[k]? = _
  rw [Array.getElem?_setIfInBounds, List.getD_eq_getElem?_getD, List.getElem?_set]
  by_cases q : i = k
  · subst q; simp [S, hk]
  · rw [if_neg q, if_neg q, ← List.getD_eq_getElem?_getD]; exact H k hk
theorem Bal.inb {c : Cell} {j : Int32} {i : Nat} (S : c.slots.size = xs.length) (h0 : ¬ j < 0) (hj : j.toNatClampNeg = i) (hi : i < xs.length) : ¬ (j < 0 ∨ c.slots.size ≤ j.toNatClampNeg) := by
  rintro (q | q)
  · exact h0 q
  · omega
variable {p : Program} {l : Launch} {e : Env} {R : Room} {s : State} {m : MethodId} {args : Array Value} {below : List Frame} {meth : Method} {c : Code} {T : State} {locs : List Loc} {cells slots : Nat}
theorem own_stB (X : Stand p l e R s m args below meth c T locs cells slots) (hx : p.tables.exec = Jvm.exec) (hZ : Z.Warmed39 s.vm) (eT : T.heap = h) (F : Bal Z h a .byte xs) {j x : Int32} {i : Nat} (h0 : ¬ j < 0) (hj : j.toNatClampNeg = i) (hi : i < xs.length) {g : JFrame} (hg : g.method = m) {rest : List Value} (hs : g.stack = .int x :: .int j :: .ref a :: rest) (hd : decode c.code g.pc = .ok (.bastore, 1)) :
    ∃ T' h', Stand p l e R s m args below meth c T' (locs ++ [⟨a, i⟩]) cells slots ∧ T'.heap = h' ∧ Wr h h' a i (.int (nar .byte x)) ∧ Bal Z h' a .byte (xs.set i (nar .byte x)) ∧ ∀ target, Steps p.tables e below (T'.setTop { g with pc := g.pc + 1, stack := rest }) target → Steps p.tables e below (T.setTop g) target := by
  have F' := F
  obtain ⟨cl, A, S, H⟩ := F
  obtain ⟨T', h', X', e', W, st⟩ := stB X hx hZ eT A (j := j) (Bal.inb S h0 hj hi) hg hs hd
  subst hj
  exact ⟨T', h', X', e', W, F'.set W hi, st⟩
theorem own_stC (X : Stand p l e R s m args below meth c T locs cells slots) (hx : p.tables.exec = Jvm.exec) (hZ : Z.Warmed39 s.vm) (eT : T.heap = h) (F : Bal Z h a .char xs) {j x : Int32} {i : Nat} (h0 : ¬ j < 0) (hj : j.toNatClampNeg = i) (hi : i < xs.length) {g : JFrame} (hg : g.method = m) {rest : List Value} (hs : g.stack = .int x :: .int j :: .ref a :: rest) (hd : decode c.code g.pc = .ok (.castore, 1)) :
    ∃ T' h', Stand p l e R s m args below meth c T' (locs ++ [⟨a, i⟩]) cells slots ∧ T'.heap = h' ∧ Wr h h' a i (.int (nar .char x)) ∧ Bal Z h' a .char (xs.set i (nar .char x)) ∧ ∀ target, Steps p.tables e below (T'.setTop { g with pc := g.pc + 1, stack := rest }) target → Steps p.tables e below (T.setTop g) target := by
  have F' := F
  obtain ⟨cl, A, S, H⟩ := F
  obtain ⟨T', h', X', e', W, st⟩ := stC X hx hZ eT A (j := j) (Bal.inb S h0 hj hi) hg hs hd
  subst hj
  exact ⟨T', h', X', e', W, F'.set W hi, st⟩
theorem own_ldB (X : Stand p l e R s m args below meth c T locs cells slots) (hx : p.tables.exec = Jvm.exec) (hZ : Z.Warmed39 s.vm) (eT : T.heap = h) (F : Bal Z h a .byte xs) {j : Int32} {i : Nat} (h0 : ¬ j < 0) (hj : j.toNatClampNeg = i) (hi : i < xs.length) {v : Int32} (hv : xs.getD i 0 = v) {g : JFrame} (hg : g.method = m) {rest : List Value} (hs : g.stack = .int j :: .ref a :: rest) (hd : decode c.code g.pc = .ok (.baload, 1)) (target : State)
    (k : Steps p.tables e below (T.setTop { g with pc := g.pc + 1, stack := .int v :: rest }) target) : Steps p.tables e below (T.setTop g) target := by
  obtain ⟨cl, A, S, H⟩ := F
  subst hv
  exact X.baloadBytes hx (j := j) (v := .int (xs.getD i 0)) (by rw [eT]; exact A.1) (State.isArrayOf_alike hZ.alike A.2.1) A.2.2 (Bal.inb S h0 hj hi) (by rw [hj]; exact H i hi) hg hs hd _ k
theorem own_ldC (X : Stand p l e R s m args below meth c T locs cells slots) (hx : p.tables.exec = Jvm.exec) (hZ : Z.Warmed39 s.vm) (eT : T.heap = h) (F : Bal Z h a .char xs) {j : Int32} {i : Nat} (h0 : ¬ j < 0) (hj : j.toNatClampNeg = i) (hi : i < xs.length) {v : Int32} (hv : xs.getD i 0 = v) {g : JFrame} (hg : g.method = m) {rest : List Value} (hs : g.stack = .int j :: .ref a :: rest) (hd : decode c.code g.pc = .ok (.caload, 1)) (target : State)
    (k : Steps p.tables e below (T.setTop { g with pc := g.pc + 1, stack := .int v :: rest }) target) : Steps p.tables e below (T.setTop g) target := by
  obtain ⟨cl, A, S, H⟩ := F
  subst hv
  exact X.caload hx (j := j) (v := .int (xs.getD i 0)) (by rw [eT]; exact A.1) (State.isArrayOf_alike hZ.alike A.2.1) A.2.2 (Bal.inb S h0 hj hi) (by rw [hj]; exact H i hi) hg hs hd _ k
theorem own_len (X : Stand p l e R s m args below meth c T locs cells slots) (hx : p.tables.exec = Jvm.exec) (hZ : Z.Warmed39 s.vm) (eT : T.heap = h) (F : Bal Z h a ty xs) {v : Int32} (hv : xs.length.toInt32 = v) {g : JFrame} (hg : g.method = m) {rest : List Value} (hs : g.stack = .ref a :: rest) (hd : decode c.code g.pc = .ok (.arraylength, 1)) (target : State)
    (k : Steps p.tables e below (T.setTop { g with pc := g.pc + 1, stack := .int v :: rest }) target) : Steps p.tables e below (T.setTop g) target := by
  obtain ⟨cl, A, S, H⟩ := F
  subst hv
  refine X.arraylength hx (by rw [eT]; exact A.1) (State.isArrayOf_alike hZ.alike A.2.1) hg hs hd _ ?_
  rw [S]; exact k
theorem own_balOf {k : ClassId} {z : Int32} (F : Arv Z h a k .byte z (xs.map Value.int) (.int 0)) (hz : z.toNatClampNeg = xs.length) : Bal Z h a .byte xs := by
  obtain ⟨c, A, -, S, -, H, -⟩ := F
  refine ⟨c, A, by rw [S, hz], fun i hi => ?_⟩
  have q := H i (by rw [S, hz]; exact hi)
  rw [q]
  simp [List.getD_eq_getElem?_getD, List.getElem?_map, List.getElem?_eq_getElem hi]
theorem own_arvC (F : Bal Z h a .char xs) (hf : ∀ x ∈ xs, fits .char (.int x) = true) (hl : xs.length < 2 ^ 31) : ∃ k, Arv Z h a k .char (Int32.ofNat xs.length) (xs.map Value.int) (.int 0) := by
  obtain ⟨c, A, S, H⟩ := F
  have hi : (Int32.ofNat xs.length).toInt = xs.length := Int32.toInt_ofNat_of_lt hl
  refine ⟨c.cls, c, A, rfl, ?_, ?_, ?_, ?_⟩
  · rw [S, Int32.toNatClampNeg, hi]; rfl
  · rw [Int32.lt_iff_toInt_lt, hi, show (0 : Int32).toInt = 0 from rfl]; omega
  · intro i hi'
    rw [S] at hi'
    rw [H i hi']
    simp [List.getD_eq_getElem?_getD, List.getElem?_map, List.getElem?_eq_getElem hi']
  · intro i hi'
    rw [S] at hi'
    have : (xs.map Value.int).getD i (.int 0) = .int xs[i] := by simp [List.getD_eq_getElem?_getD, List.getElem?_map, List.getElem?_eq_getElem hi']
    rw [this]; exact hf _ (List.getElem_mem hi')
theorem own_piN {P : Prop} [Decidable P] : (¬ own_pi P = 0) ↔ P := by unfold own_pi; split <;> simp_all
end Arrays
section Wide
variable {p : Program} {l : Launch} {e : Env} {R : Room} {s Z : State} {EL : List (String × Nat)} {vm0 : Vm} {k0 : Nat} {m : MethodId} {args : Array Value} {below : List Frame} {meth : Method} {c : Code} {T : State} {locs : List Loc} {cells slots : Nat}
theorem own_monoW {t : State} {o : Outcome} {L : List Loc} {k n k' n' : Nat} (h : ReturnedEndW s o t L k n) (hk : k ≤ k') (hn : n ≤ n') : ReturnedEndW s o t L k' n' := ⟨h.1, h.2.1, h.2.2.1, h.2.2.2.mono hk hn⟩
theorem own_finIW (X : Stand p l e R (s.setVm vm0) m args below meth c T locs cells slots) (hx : p.tables.exec = Jvm.exec) (hlk : meth.locks = false) (hS : s.Since vm0 k0) (hk : k0 ≤ T.heap.size) {pc : Nat} {Ls : Array Slot} {z : Int32} {rest : List Value} (hret : meth.sig.returnType = some .int) (hd : decode c.code pc = .ok (.ireturn, 1)) {Q : Option Value → Heap → List Loc → Prop} {C S : Nat}
    (hq : Q (some (.int z)) T.heap locs) (hC : CHr Z EL s.vm s.heap T.vm T.heap) (hc : cells ≤ C) (hs : slots ≤ S) : Gl p.tables e below (fun o U' => ∃ v L, o = .returned v ∧ Q v U'.heap L ∧ CHr Z EL s.vm s.heap U'.vm U'.heap ∧ ReturnedEndW s o U' L C S) (T.setTop (mkF m pc Ls (.int z :: rest))) := by
  obtain ⟨fs, hr, hrun, hended, hW⟩ := X.leaveW hS hk (v := some (.int z)) (fun h => by rw [hret] at h; cases h) hlk
  exact ⟨_, _, retI X hx hret hd hr, hrun, hended, _, _, rfl, hq, hC, own_monoW hW hc hs⟩
theorem own_finNW (X : Stand p l e R (s.setVm vm0) m args below meth c T locs cells slots) (hx : p.tables.exec = Jvm.exec) (hlk : meth.locks = false) (hS : s.Since vm0 k0) (hk : k0 ≤ T.heap.size) {pc : Nat} {Ls : Array Slot} {z z' : Int32} {rest : List Value} {t : FieldType} (hret : meth.sig.returnType = some t) (ht : t = .boolean ∨ t = .byte ∨ t = .char ∨ t = .short) (hz : nar t z = z') (hd : decode c.code pc = .ok (.ireturn, 1)) {Q : Option Value → Heap → List Loc → Prop} {C S : Nat}
    (hq : Q (some (.int z')) T.heap locs) (hC : CHr Z EL s.vm s.heap T.vm T.heap) (hc : cells ≤ C) (hs : slots ≤ S) : Gl p.tables e below (fun o U' => ∃ v L, o = .returned v ∧ Q v U'.heap L ∧ CHr Z EL s.vm s.heap U'.vm U'.heap ∧ ReturnedEndW s o U' L C S) (T.setTop (mkF m pc Ls (.int z :: rest))) := by
  subst hz
  obtain ⟨fs, hr, hrun, hended, hW⟩ := X.leaveW hS hk (v := some (.int (nar t z))) (fun h => by rw [hret] at h; cases h) hlk
  exact ⟨_, _, retN X hx hret ht hd hr, hrun, hended, _, _, rfl, hq, hC, own_monoW hW hc hs⟩
theorem own_finVW (X : Stand p l e R (s.setVm vm0) m args below meth c T locs cells slots) (hx : p.tables.exec = Jvm.exec) (hlk : meth.locks = false) (hS : s.Since vm0 k0) (hk : k0 ≤ T.heap.size) {pc : Nat} {Ls : Array Slot} (hret : meth.sig.returnType = none) (hd : decode c.code pc = .ok (.return_, 1)) {Q : Option Value → Heap → List Loc → Prop} {C S : Nat}
    (hq : Q none T.heap locs) (hC : CHr Z EL s.vm s.heap T.vm T.heap) (hc : cells ≤ C) (hs : slots ≤ S) : Gl p.tables e below (fun o U' => ∃ v L, o = .returned v ∧ Q v U'.heap L ∧ CHr Z EL s.vm s.heap U'.vm U'.heap ∧ ReturnedEndW s o U' L C S) (T.setTop (mkF m pc Ls [])) := by
  obtain ⟨fs, hr, hrun, hended, hW⟩ := X.leaveW hS hk (v := none) (fun _ => rfl) hlk
  exact ⟨_, _, X.returnOut hx hret hd hr, hrun, hended, _, _, rfl, hq, hC, own_monoW hW hc hs⟩
theorem own_finAW (X : Stand p l e R (s.setVm vm0) m args below meth c T locs cells slots) (hx : p.tables.exec = Jvm.exec) (hlk : meth.locks = false) (hS : s.Since vm0 k0) (hk : k0 ≤ T.heap.size) {pc : Nat} {Ls : Array Slot} {w : Value} {rest : List Value} {t : FieldType} (hret : meth.sig.returnType = some t) (hw : w.isRef = true) (ht : t.isReference = true) (hd : decode c.code pc = .ok (.areturn, 1)) {Q : Option Value → Heap → List Loc → Prop} {C S : Nat}
    (hq : Q (some w) T.heap locs) (hC : CHr Z EL s.vm s.heap T.vm T.heap) (hc : cells ≤ C) (hs : slots ≤ S) : Gl p.tables e below (fun o U' => ∃ v L, o = .returned v ∧ Q v U'.heap L ∧ CHr Z EL s.vm s.heap U'.vm U'.heap ∧ ReturnedEndW s o U' L C S) (T.setTop (mkF m pc Ls (w :: rest))) := by
  obtain ⟨fs, hr, hrun, hended, hW⟩ := X.leaveW hS hk (v := some w) (fun h => by rw [hret] at h; cases h) hlk
  have hn : narrow t w = w := by rcases ref_cases hw with rfl | ⟨z, rfl⟩ <;> cases t <;> rfl
  exact ⟨_, _, retOut X hx hret hn (Or.inr (Or.inr (Or.inr (Or.inr ⟨rfl, ht, hw⟩)))) hd hr, hrun, hended, _, _, rfl, hq, hC, own_monoW hW hc hs⟩
/-- a callee that keeps the constants' invariant; SL: objects that it may write, none of them a constant's -/
theorem own_backH {a0 : Array Value} {h : Heap} {y : MethodName} {bytes : ByteArray} {maxL : Nat} {ret : Option FieldType} {rm : Room} {len W : Nat} {as' : Array Value} {Q : Option Value → Heap → List Loc → Prop} {SL : List Addr}
    (hM : MetFree l y (head1 [Cond.code y bytes maxL ret] rm) (fun a U => a = as' ∧ Z.Warmed39 U.vm ∧ U.heap = h ∧ CHv Z EL U.vm h ∧ ∀ x ∈ SL, Safe Z EL U.vm h x) (fun _ _ _ _ _ => True) (fun _ U o U' => ∃ v L, o = .returned v ∧ Q v U'.heap L ∧ CHr Z EL U.vm U.heap U'.vm U'.heap ∧ ReturnedEndW U o U' L rm.cells rm.slots))
    (hZ : Z.Warmed39 vm0) (wc : (Cond.code y bytes maxL ret).before a0 Z = true) (wz : (Cond.initialized y.cls).before a0 Z = true) (hf : rm.frames + 1 ≤ R.frames) (hl : W + (maxL + 11) + rm.locals ≤ R.locals) (hEL : EW Z a0 EL) (H : CHv Z EL vm0 h) (hSL : ∀ x ∈ SL, x < h.size ∧ Safe Z EL vm0 h x) :
    BackS l R p e below (s.setVm vm0) args y len W (fun A a => a = as' ∧ A.U.heap = h ∧ A.cells + rm.cells ≤ R.cells ∧ A.slots + rm.slots ≤ R.slots)
      (fun A _ v B => ∃ L, Q v B.U.heap L ∧ B.locs = A.locs ++ L ∧ B.cells = A.cells + rm.cells ∧ B.slots = A.slots + rm.slots ∧ CHr Z EL vm0 h B.U.vm B.U.heap) := by
  refine BackS.of_freeW (bytes := bytes) (maxL := maxL) (ret := ret) (E := fun _ first o t L k n => k = rm.cells ∧ n = rm.slots ∧ (∃ v, o = .returned v ∧ Q v t.heap L) ∧ CHr Z EL first.vm first.heap t.vm t.heap) hM hf hl ?_ ?_ (fun _ _ _ _ _ _ _ _ _ => trivial) (fun _ _ _ _ ⟨v, L, h1, h2, h3, h4⟩ => ⟨L, _, _, h4, rfl, rfl, ⟨v, h1, h2⟩, h3⟩) ?_
  · intro m meth c A a Y hp
    have hU : Z.Warmed39 A.U.vm := wtrans (s := s.setVm vm0) hZ Y.warmed
    refine ⟨?_, mv hU wc, mv hU wz, hp.2.2.1, hp.2.2.2⟩
    show (Cond.and _ .tt).before a A.U = true
    rw [Cond.before_and, mv hU wc]; rfl
  · intro m meth c A a g mk Y hp
    have q := CHv.at Y hZ hEL H
    exact ⟨hp.1, wtrans (s := s.setVm vm0) hZ Y.warmed, hp.2.1, q.1, fun x hx => q.safe (hSL x hx).1 (hSL x hx).2⟩
  · rintro m meth c A a g mk v t L k n Y hp _ _ ⟨e1, e2, ⟨v', e3, e4⟩, e5⟩
    cases e3; subst e1 e2
    refine ⟨L, e4, rfl, rfl, rfl, (CHv.at Y hZ hEL H).trans ?_⟩
    rw [← hp.2.1]; exact e5
end Wide
theorem own_fits_pi {P : Prop} [i : Decidable P] : fits .boolean (.int (@own_pi P i)) = true := by unfold own_pi; split <;> rfl
/-- the array at a, of the class k over C, holds the values vs -/
def Ral (Z : State) (h : Heap) (a : Addr) (k : ClassId) (C : String) (vs : List Value) : Prop := ∃ c : Cell, Arr Z h a c (.object C) ∧ c.cls = k ∧ c.slots.size = vs.length ∧ ∀ i, i < vs.length → c.slots[i]? = some (vs.getD i .null)
section Refs
variable {Z : State} {h h' : Heap} {a b : Addr} {k : ClassId} {C : String} {vs : List Value} {ws : List Addr}
theorem Ral.lt (F : Ral Z h a k C vs) : a < h.size := by obtain ⟨c, A, -⟩ := F; exact A.lt
theorem Ral.ext (F : Ral Z h a k C vs) (E : Ext h h') : Ral Z h' a k C vs := by obtain ⟨c, A, r⟩ := F; exact ⟨c, A.ext E, r⟩
theorem Ral.other {sl : Nat} {v : Value} (F : Ral Z h b k C vs) (W : Wr h h' a sl v) (q : b ≠ a) : Ral Z h' b k C vs := by obtain ⟨c, A, r⟩ := F; exact ⟨c, A.other W q, r⟩
theorem Ral.keep (F : Ral Z h a k C vs) (K : Keep h h' ws) (q : a ∉ ws) : Ral Z h' a k C vs := by obtain ⟨c, A, r⟩ := F; exact ⟨c, ⟨K.2.1 a c A.1 q, A.2⟩, r⟩
theorem Ral.new {z : Int32} {n : Nat} (A : Arr Z h a (newA k (.object C) z) (.object C)) (hz : z.toNatClampNeg = n) : Ral Z h a k C (List.replicate n .null) := by
  subst hz
  refine ⟨_, A, rfl, by rw [sz_new, List.length_replicate], fun i hi => ?_⟩
  rw [List.length_replicate] at hi
  simp [newA, defaultValue, hi, List.getD_eq_getElem?_getD]
theorem Ral.set {i : Nat} {v : Value} (F : Ral Z h a k C vs) (W : Wr h h' a i v) (hi : i < vs.length) : Ral Z h' a k C (vs.set i v) := by
  obtain ⟨c, A, q0, S, H⟩ := F
  refine ⟨_, A.same W, q0, by rw [sz_set, S, List.length_set], fun k hk => ?_⟩
  rw [List.length_set] at hk
  show (c.slots.setIfInBounds i v)[k]? = _
  rw [Array.getElem?_setIfInBounds, List.getD_eq_getElem?_getD, List.getElem?_set]
  by_cases q : i = k
  · subst q; simp [S, hk]
  · rw [if_neg q, if_neg q, ← List.getD_eq_getElem?_getD]; exact H k hk
variable {p : Program} {l : Launch} {e : Env} {R : Room} {s : State} {m : MethodId} {args : Array Value} {below : List Frame} {meth : Method} {c : Code} {T : State} {locs : List Loc} {cells slots : Nat}
theorem own_stR (X : Stand p l e R s m args below meth c T locs cells slots) (hx : p.tables.exec = Jvm.exec) (hZ : Z.Warmed39 s.vm) (eT : T.heap = h) (F : Ral Z h a k C vs) (O : Ovr Z k C) {y : Addr} (I : Ins Z h y C true) {j : Int32} {i : Nat} (h0 : ¬ j < 0) (hj : j.toNatClampNeg = i) (hi : i < vs.length) {g : JFrame} (hg : g.method = m) {rest : List Value} (hs : g.stack = .ref y :: .int j :: .ref a :: rest) (hd : decode c.code g.pc = .ok (.aastore, 1)) :
    ∃ T' h', Stand p l e R s m args below meth c T' (locs ++ [⟨a, i⟩]) cells slots ∧ T'.heap = h' ∧ Wr h h' a i (.ref y) ∧ Ral Z h' a k C (vs.set i (.ref y)) ∧ ∀ target, Steps p.tables e below (T'.setTop { g with pc := g.pc + 1, stack := rest }) target → Steps p.tables e below (T.setTop g) target := by
  have F' := F
  obtain ⟨cl, A, q0, S, H⟩ := F
  have hin : ¬ (j < 0 ∨ cl.slots.size ≤ j.toNatClampNeg) := by
    rintro (q | q)
    · exact h0 q
    · omega
  subst q0
  obtain ⟨T', h', X', e', W, st⟩ := stR X hx hZ eT A (j := j) hin rfl (Sto.of A O I) hg hs hd
  subst hj
  exact ⟨T', h', X', e', W, F'.set W hi, st⟩
theorem own_ldR (X : Stand p l e R s m args below meth c T locs cells slots) (hx : p.tables.exec = Jvm.exec) (hZ : Z.Warmed39 s.vm) (eT : T.heap = h) (F : Ral Z h a k C vs) {j : Int32} {i : Nat} (h0 : ¬ j < 0) (hj : j.toNatClampNeg = i) (hi : i < vs.length) {v : Value} (hv : vs.getD i .null = v) {g : JFrame} (hg : g.method = m) {rest : List Value} (hs : g.stack = .int j :: .ref a :: rest) (hd : decode c.code g.pc = .ok (.aaload, 1)) (target : State)
    (kk : Steps p.tables e below (T.setTop { g with pc := g.pc + 1, stack := v :: rest }) target) : Steps p.tables e below (T.setTop g) target := by
  obtain ⟨cl, A, q0, S, H⟩ := F
  have hin : ¬ (j < 0 ∨ cl.slots.size ≤ j.toNatClampNeg) := by
    rintro (q | q)
    · exact h0 q
    · omega
  subst hv
  exact X.aaload hx (j := j) (v := vs.getD i .null) (by rw [eT]; exact A.1) (State.isArrayOf_alike hZ.alike A.2.1) rfl A.2.2 hin (by rw [hj]; exact H i hi) hg hs hd _ kk
end Refs
section Starts
variable {s : State} {args : Array Value} {t : Term} {a : Addr} {C n d : String}
theorem own_fldI {z : Int32} (ev : t.eval args s none [] s = some (.ref a)) (h : (Cond.eq (Term.field t C n d) (Term.int z)).value args s none s [] = some true) : Fld s s.heap a C n d (.int z) := by
  refine Fld.start ?_
  rw [← fld_at (args := args) (first := s) (o := none) (idx := []) ev]
  cases hf : (Term.field t C n d).eval args s none [] s with
  | none => simp [Cond.value, hf] at h
  | some x =>
    have hz : (Term.int z).eval args s none [] s = some (.int z) := rfl
    cases x <;> simp [Cond.value, hf, hz] at h
    rw [h]
theorem own_fldN (ev : t.eval args s none [] s = some (.ref a)) (h : (Cond.eq (Term.field t C n d) Term.null).value args s none s [] = some true) : Fld s s.heap a C n d .null := by
  refine Fld.start ?_
  rw [← fld_at (args := args) (first := s) (o := none) (idx := []) ev]
  exact null_v h
theorem own_fldE {K : String} (ev : t.eval args s none [] s = some (.ref a)) (h : (Cond.exactly (Term.field t C n d) K).value args s none s [] = some true) : ∃ y, Fld s s.heap a C n d (.ref y) := by
  obtain ⟨y, hy⟩ := exa_v h
  refine ⟨y, Fld.start ?_⟩
  rw [← fld_at (args := args) (first := s) (o := none) (idx := []) ev]
  exact hy
theorem own_fldS {u : Term} {b : Addr} (ev : t.eval args s none [] s = some (.ref a)) (eu : u.eval args s none [] s = some (.ref b)) (h : (Cond.eq (Term.field t C n d) u).value args s none s [] = some true) : Fld s s.heap a C n d (.ref b) := by
  refine Fld.start ?_
  rw [← fld_at (args := args) (first := s) (o := none) (idx := []) ev]
  cases hf : (Term.field t C n d).eval args s none [] s with
  | none => simp [Cond.value, hf] at h
  | some x =>
    cases x <;> simp [Cond.value, hf, eu] at h
    rw [h]
theorem own_statI {t : Term} {z : Int32} (h : (Cond.eq t (Term.int z)).value args s none s [] = some true) : t.eval args s none [] s = some (.int z) := by
  cases hf : t.eval args s none [] s with
  | none => simp [Cond.value, hf] at h
  | some x =>
    have hz : (Term.int z).eval args s none [] s = some (.int z) := rfl
    cases x <;> simp [Cond.value, hf, hz] at h
    rw [h]
theorem own_empty {cl : Cell} {ty : FieldType} (ev : t.eval args s none [] s = some (.ref a)) (A : Arr s s.heap a cl ty) (h : (Cond.eq (Term.length t) (Term.int 0)).value args s none s [] = some true) : Bal s s.heap a ty [] := by
  have ha : s.arrayAt? a = some cl := A.fin (Vm.Alike.refl _)
  have hsz : cl.slots.size = 0 := by
    by_cases hl : cl.slots.size < 2 ^ 31
    · have hv := len_f (args := args) (first := s) (o := none) (idx := []) ev ha hl
      have hz : (Term.int 0).eval args s none [] s = some (.int 0) := rfl
      simp only [Cond.value, hv, hz] at h
      have q := len_toInt hl
      have q2 : cl.slots.size.toInt32 = 0 := by simpa using h
      rw [q2] at q
      have : (0 : Int32).toInt = 0 := rfl
      omega
    · exfalso
      cases hf : (Term.length t).eval args s none [] s with
      | none => simp [Cond.value, hf] at h
      | some x => simp [Term.eval, ev, ha, hl] at hf
  exact ⟨cl, A, hsz, fun i hi => absurd hi (Nat.not_lt_zero i)⟩
end Starts
end Jvm.RoadKit
namespace Jvm.Pilot.@@N@@
open Jvm Jvm.ClassFile Sem Op Lib Jvm.Free Jvm.Stand Jvm.LawKit Jvm.RoadKit Bundle Jvm.Pilot.@@N@@.Jvm.D
theorem own_24 : ∀ k : Fin 24, (¬ (own_ushr 8388627 ((9 + Int32.ofNat k.val) - 9) &&& 1 = 0)) ↔ ((9 + Int32.ofNat k.val) = (32 : Int32) ∨ (9 + Int32.ofNat k.val) = (9 : Int32) ∨ (9 + Int32.ofNat k.val) = (13 : Int32) ∨ (9 + Int32.ofNat k.val) = (10 : Int32)) := by decide +kernel
theorem own_ref (b : Int32) (h1 : ¬ b < 9) (h2 : ¬ 32 < b) : (¬ (own_ushr 8388627 (b - 9) &&& 1 = 0)) ↔ (b = (32 : Int32) ∨ b = (9 : Int32) ∨ b = (13 : Int32) ∨ b = (10 : Int32)) := by
  have a1 : (9 : Int32).toInt = 9 := rfl
  have a2 : (32 : Int32).toInt = 32 := rfl
  rw [Int32.lt_iff_toInt_lt] at h1 h2
  have e : b = 9 + Int32.ofNat (b.toInt - 9).toNat := by
    apply Int32.toInt_inj.mp
    have h := c_iadd 9 (Int32.ofNat (b.toInt - 9).toNat)
    have h' : (Int32.ofNat (b.toInt - 9).toNat).toInt = ((b.toInt - 9).toNat : Int) := Int32.toInt_ofNat_of_lt (by omega)
    have r := rng32 (9 + Int32.ofNat (b.toInt - 9).toNat)
    omega
  have k := own_24 ⟨(b.toInt - 9).toNat, by omega⟩
  rw [← e] at k
  exact k
theorem own_out (b : Int32) (h : b < 9 ∨ 32 < b) : ¬ (b = (32 : Int32) ∨ b = (9 : Int32) ∨ b = (13 : Int32) ∨ b = (10 : Int32)) := by
  rintro (rfl | rfl | rfl | rfl) <;> revert h <;> decide
def own_mem (k : Int32) : Int32 := if k &&& 3 = 0 then 32 else if k &&& 3 = 1 then 9 else if k &&& 3 = 2 then 13 else 10
theorem own_mem_ws (k : Int32) : own_mem k = (32 : Int32) ∨ own_mem k = (9 : Int32) ∨ own_mem k = (13 : Int32) ∨ own_mem k = (10 : Int32) := by
  unfold own_mem; split
  · simp
  · split
    · simp
    · split <;> simp
theorem pd_0 : parseMethodDescriptor "(I)Z" = some ⟨[.int], some .boolean⟩ := by decide +kernel
theorem pd_1 : parseMethodDescriptor "(I)I" = some ⟨[.int], some .int⟩ := by decide +kernel
theorem d1_0 : decode prog_52_method_2_code 0 = .ok (.iload_n 0, 1) := by decide +kernel
theorem d1_1 : decode prog_52_method_2_code 1 = .ok (.bipush 32, 2) := by decide +kernel
theorem d1_3 : decode prog_52_method_2_code 3 = .ok (.if_icmp .eq 21, 3) := by decide +kernel
theorem d1_6 : decode prog_52_method_2_code 6 = .ok (.iload_n 0, 1) := by decide +kernel
theorem d1_7 : decode prog_52_method_2_code 7 = .ok (.bipush 9, 2) := by decide +kernel
theorem d1_9 : decode prog_52_method_2_code 9 = .ok (.if_icmp .eq 15, 3) := by decide +kernel
theorem d1_12 : decode prog_52_method_2_code 12 = .ok (.iload_n 0, 1) := by decide +kernel
theorem d1_13 : decode prog_52_method_2_code 13 = .ok (.bipush 13, 2) := by decide +kernel
theorem d1_15 : decode prog_52_method_2_code 15 = .ok (.if_icmp .eq 9, 3) := by decide +kernel
theorem d1_18 : decode prog_52_method_2_code 18 = .ok (.iload_n 0, 1) := by decide +kernel
theorem d1_19 : decode prog_52_method_2_code 19 = .ok (.bipush 10, 2) := by decide +kernel
theorem d1_21 : decode prog_52_method_2_code 21 = .ok (.if_icmp .ne 7, 3) := by decide +kernel
theorem d1_24 : decode prog_52_method_2_code 24 = .ok (.iconst 1, 1) := by decide +kernel
theorem d1_25 : decode prog_52_method_2_code 25 = .ok (.goto 4, 3) := by decide +kernel
theorem d1_28 : decode prog_52_method_2_code 28 = .ok (.iconst 0, 1) := by decide +kernel
theorem d1_29 : decode prog_52_method_2_code 29 = .ok (.ireturn, 1) := by decide +kernel
theorem pn_1 : plainName "com/example/marcasite/marcasite/marc/WhiteSpace" = true := by first | (simp [plainName, overriddenIn]; done) | decide +kernel
theorem ef_1 (m : MethodId) (p1 : Int32) : entryFrame m #[(.int p1)] 1 = mkF m 0 #[.val (.int p1)] [] := by first | (simp [entryFrame, mkF, argsToLocals, Value.category]; done) | rfl
def Q1 (Z : State) (p1 : Int32) (h0 : Heap) (n0 : Nat) (v : Option Value) (h : Heap) (L : List Loc) : Prop := v = some (.int (own_pi (p1 = (32 : Int32) ∨ p1 = (9 : Int32) ∨ p1 = (13 : Int32) ∨ p1 = (10 : Int32)))) ∧ Fr n0 L ∧ h = h0
set_option maxRecDepth 65536 in
set_option maxHeartbeats 40000000 in
theorem rm1 (l : Launch) (Z : State) (a0 : Array Value) (hw : ∀ d ∈ tables_1, d.before a0 Z = true) (ws : List Jvm.Cond) (p1 : Int32) (h0 : Heap) (n0 : Nat) (Z0 : n0 ≤ h0.size)  :
    MetFree l (⟨"com/example/marcasite/marcasite/marc/WhiteSpace", "is", "(I)Z"⟩ : MethodName) (head1 (Jvm.Cond.code (⟨"com/example/marcasite/marcasite/marc/WhiteSpace", "is", "(I)Z"⟩ : MethodName) prog_52_method_2_code 1 (some .boolean) :: ws) ({ frames := 0, cells := 0, slots := 0, locals := 0 } : Room)) (fun a U => a = #[(.int p1)] ∧ Z.Warmed39 U.vm ∧ U.heap = h0) (fun _ _ _ _ _ => True) (fun _ U o U' => ∃ v L, o = .returned v ∧ Q1 Z p1 h0 n0 v U'.heap L ∧ FrameEnd U o U' L ({ frames := 0, cells := 0, slots := 0, locals := 0 } : Room).cells ({ frames := 0, cells := 0, slots := 0, locals := 0 } : Room).slots) := by
  refine MetFree.of_bodySF (plainFor_of_name pn_1) hisR ?_
  intro p e s m args below meth c s₁ Bd hml0 hP hK
  obtain ⟨rfl, hZ, hh⟩ := hP
  have hx := Bd.exec
  have hby := Bd.bytes
  have hlk : meth.locks = false := BodyLoose.notSynchronized Bd
  have hml : c.maxLocals = 1 := hml0
  have hown : s.vm.findClass "com/example/marcasite/marcasite/marc/WhiteSpace" = some m.cls := findClass_of_methodNamed Bd.named
  have hnm := (name_of_methodNamed Bd.named Bd.method).1
  have X0 : Stand p l e ({ frames := 0, cells := 0, slots := 0, locals := 0 } : Room) s m #[(.int p1)] below meth c s₁ [] 0 0 := Stand.of_body Bd
  have e0 : s₁.heap = h0 := by rw [← hh, Bd.state]; rfl
  have N0 := Fr.nil n0
  show Gl p.tables e below (fun (o : Outcome) (U' : State) => ∃ v L, o = .returned v ∧ Q1 Z p1 h0 n0 v U'.heap L ∧ FrameEnd s o U' L ({ frames := 0, cells := 0, slots := 0, locals := 0 } : Room).cells ({ frames := 0, cells := 0, slots := 0, locals := 0 } : Room).slots) _
  refine Gl.pre (fun t k => castTop (ef_1 m p1) k) ?_
  obtain ⟨PP, hPP⟩ : ∃ P : Outcome → State → Prop, P = (fun (o : Outcome) (U' : State) => ∃ v L, o = .returned v ∧ Q1 Z p1 h0 n0 v U'.heap L ∧ FrameEnd s o U' L ({ frames := 0, cells := 0, slots := 0, locals := 0 } : Room).cells ({ frames := 0, cells := 0, slots := 0, locals := 0 } : Room).slots) := ⟨_, rfl⟩
  rw [← hPP]
  show Gl p.tables e below PP (s₁.setTop (mkF m 0 #[.val (.int p1)] []))
  refine Gl.pre (fun _ k => XS.iloadN X0.here hx rfl (hb hby d1_0) rfl k) ?_
  show Gl p.tables e below PP (s₁.setTop (mkF m 1 #[.val (.int p1)] [(.int p1)]))
  refine Gl.pre (fun _ k => XS.bipush X0.here hx rfl (hb hby d1_1) k) ?_
  show Gl p.tables e below PP (s₁.setTop (mkF m 3 #[.val (.int p1)] [(.int (32 : Int32)), (.int p1)]))
  by_cases hc1 : p1 = (32 : Int32)
  · refine Gl.pre (fun _ k => XS.icmpYes X0.here hx rfl (pc0 := 3) (pc' := 24) rfl (hb hby d1_3) rfl (teq hc1).1 (by decide) (by decide) k) ?_
    show Gl p.tables e below PP (s₁.setTop (mkF m 24 #[.val (.int p1)] []))
    refine Gl.pre (fun _ k => XS.iconst X0.here hx rfl (hb hby d1_24) k) ?_
    show Gl p.tables e below PP (s₁.setTop (mkF m 25 #[.val (.int p1)] [(.int (1 : Int32))]))
    refine Gl.pre (fun _ k => XS.goto X0.here hx rfl (pc0 := 25) (pc' := 29) rfl (hb hby d1_25) (by decide) (by decide) k) ?_
    show Gl p.tables e below PP (s₁.setTop (mkF m 29 #[.val (.int p1)] [(.int (1 : Int32))]))
    rw [hPP]
    refine own_finN (Q := (Q1 Z p1 h0 n0)) X0 hx hlk Bd.returns (t := .boolean) (z' := (1 : Int32)) (by simp) (by decide) (hb hby d1_29) ?_ (by decide) (by decide)
    show Q1 Z p1 h0 n0 _ s₁.heap _
    rw [e0]
    refine ⟨?_, N0, rfl⟩
    rw [own_pi_t (by simp [hc1])]
  · refine Gl.pre (fun _ k => XS.icmpNo X0.here hx rfl (hb hby d1_3) rfl (feq hc1).1 k) ?_
    show Gl p.tables e below PP (s₁.setTop (mkF m 6 #[.val (.int p1)] []))
    refine Gl.pre (fun _ k => XS.iloadN X0.here hx rfl (hb hby d1_6) rfl k) ?_
    show Gl p.tables e below PP (s₁.setTop (mkF m 7 #[.val (.int p1)] [(.int p1)]))
    refine Gl.pre (fun _ k => XS.bipush X0.here hx rfl (hb hby d1_7) k) ?_
    show Gl p.tables e below PP (s₁.setTop (mkF m 9 #[.val (.int p1)] [(.int (9 : Int32)), (.int p1)]))
    by_cases hc2 : p1 = (9 : Int32)
    · refine Gl.pre (fun _ k => XS.icmpYes X0.here hx rfl (pc0 := 9) (pc' := 24) rfl (hb hby d1_9) rfl (teq hc2).1 (by decide) (by decide) k) ?_
      show Gl p.tables e below PP (s₁.setTop (mkF m 24 #[.val (.int p1)] []))
      refine Gl.pre (fun _ k => XS.iconst X0.here hx rfl (hb hby d1_24) k) ?_
      show Gl p.tables e below PP (s₁.setTop (mkF m 25 #[.val (.int p1)] [(.int (1 : Int32))]))
      refine Gl.pre (fun _ k => XS.goto X0.here hx rfl (pc0 := 25) (pc' := 29) rfl (hb hby d1_25) (by decide) (by decide) k) ?_
      show Gl p.tables e below PP (s₁.setTop (mkF m 29 #[.val (.int p1)] [(.int (1 : Int32))]))
      rw [hPP]
      refine own_finN (Q := (Q1 Z p1 h0 n0)) X0 hx hlk Bd.returns (t := .boolean) (z' := (1 : Int32)) (by simp) (by decide) (hb hby d1_29) ?_ (by decide) (by decide)
      show Q1 Z p1 h0 n0 _ s₁.heap _
      rw [e0]
      refine ⟨?_, N0, rfl⟩
      rw [own_pi_t (by simp [hc2])]
    · refine Gl.pre (fun _ k => XS.icmpNo X0.here hx rfl (hb hby d1_9) rfl (feq hc2).1 k) ?_
      show Gl p.tables e below PP (s₁.setTop (mkF m 12 #[.val (.int p1)] []))
      refine Gl.pre (fun _ k => XS.iloadN X0.here hx rfl (hb hby d1_12) rfl k) ?_
      show Gl p.tables e below PP (s₁.setTop (mkF m 13 #[.val (.int p1)] [(.int p1)]))
      refine Gl.pre (fun _ k => XS.bipush X0.here hx rfl (hb hby d1_13) k) ?_
      show Gl p.tables e below PP (s₁.setTop (mkF m 15 #[.val (.int p1)] [(.int (13 : Int32)), (.int p1)]))
      by_cases hc3 : p1 = (13 : Int32)
      · refine Gl.pre (fun _ k => XS.icmpYes X0.here hx rfl (pc0 := 15) (pc' := 24) rfl (hb hby d1_15) rfl (teq hc3).1 (by decide) (by decide) k) ?_
        show Gl p.tables e below PP (s₁.setTop (mkF m 24 #[.val (.int p1)] []))
        refine Gl.pre (fun _ k => XS.iconst X0.here hx rfl (hb hby d1_24) k) ?_
        show Gl p.tables e below PP (s₁.setTop (mkF m 25 #[.val (.int p1)] [(.int (1 : Int32))]))
        refine Gl.pre (fun _ k => XS.goto X0.here hx rfl (pc0 := 25) (pc' := 29) rfl (hb hby d1_25) (by decide) (by decide) k) ?_
        show Gl p.tables e below PP (s₁.setTop (mkF m 29 #[.val (.int p1)] [(.int (1 : Int32))]))
        rw [hPP]
        refine own_finN (Q := (Q1 Z p1 h0 n0)) X0 hx hlk Bd.returns (t := .boolean) (z' := (1 : Int32)) (by simp) (by decide) (hb hby d1_29) ?_ (by decide) (by decide)
        show Q1 Z p1 h0 n0 _ s₁.heap _
        rw [e0]
        refine ⟨?_, N0, rfl⟩
        rw [own_pi_t (by simp [hc3])]
      · refine Gl.pre (fun _ k => XS.icmpNo X0.here hx rfl (hb hby d1_15) rfl (feq hc3).1 k) ?_
        show Gl p.tables e below PP (s₁.setTop (mkF m 18 #[.val (.int p1)] []))
        refine Gl.pre (fun _ k => XS.iloadN X0.here hx rfl (hb hby d1_18) rfl k) ?_
        show Gl p.tables e below PP (s₁.setTop (mkF m 19 #[.val (.int p1)] [(.int p1)]))
        refine Gl.pre (fun _ k => XS.bipush X0.here hx rfl (hb hby d1_19) k) ?_
        show Gl p.tables e below PP (s₁.setTop (mkF m 21 #[.val (.int p1)] [(.int (10 : Int32)), (.int p1)]))
        suffices J4 : Gl p.tables e below PP (s₁.setTop (mkF m 29 #[.val (.int p1)] [(.int (own_pi (p1 = (10 : Int32))))])) by
          by_cases hd4 : p1 = (10 : Int32)
          · rw [own_pi_t hd4] at J4
            refine Gl.pre (fun _ k => XS.icmpNo X0.here hx rfl (hb hby d1_21) rfl (teq hd4).2 k) ?_
            show Gl p.tables e below PP (s₁.setTop (mkF m 24 #[.val (.int p1)] []))
            refine Gl.pre (fun _ k => XS.iconst X0.here hx rfl (hb hby d1_24) k) ?_
            show Gl p.tables e below PP (s₁.setTop (mkF m 25 #[.val (.int p1)] [(.int (1 : Int32))]))
            refine Gl.pre (fun _ k => XS.goto X0.here hx rfl (pc0 := 25) (pc' := 29) rfl (hb hby d1_25) (by decide) (by decide) k) ?_
            show Gl p.tables e below PP (s₁.setTop (mkF m 29 #[.val (.int p1)] [(.int (1 : Int32))]))
            exact J4
          · rw [own_pi_f hd4] at J4
            refine Gl.pre (fun _ k => XS.icmpYes X0.here hx rfl (pc0 := 21) (pc' := 28) rfl (hb hby d1_21) rfl (feq hd4).2 (by decide) (by decide) k) ?_
            show Gl p.tables e below PP (s₁.setTop (mkF m 28 #[.val (.int p1)] []))
            refine Gl.pre (fun _ k => XS.iconst X0.here hx rfl (hb hby d1_28) k) ?_
            show Gl p.tables e below PP (s₁.setTop (mkF m 29 #[.val (.int p1)] [(.int (0 : Int32))]))
            exact J4
        show Gl p.tables e below PP (s₁.setTop (mkF m 29 #[.val (.int p1)] [(.int (own_pi (p1 = (10 : Int32))))]))
        rw [hPP]
        refine own_finN (Q := (Q1 Z p1 h0 n0)) X0 hx hlk Bd.returns (t := .boolean) (z' := (own_pi (p1 = (10 : Int32)))) (by simp) own_nar_pi (hb hby d1_29) ?_ (by decide) (by decide)
        show Q1 Z p1 h0 n0 _ s₁.heap _
        rw [e0]
        refine ⟨?_, N0, rfl⟩
        rw [own_pi_eq (Q := p1 = (32 : Int32) ∨ p1 = (9 : Int32) ∨ p1 = (13 : Int32) ∨ p1 = (10 : Int32)) (by simp [hc1, hc2, hc3])]
theorem d2_0 : decode method_2_code 0 = .ok (.iload_n 0, 1) := by decide +kernel
theorem d2_1 : decode method_2_code 1 = .ok (.bipush 9, 2) := by decide +kernel
theorem d2_3 : decode method_2_code 3 = .ok (.if_icmp .lt 9, 3) := by decide +kernel
theorem d2_6 : decode method_2_code 6 = .ok (.iload_n 0, 1) := by decide +kernel
theorem d2_7 : decode method_2_code 7 = .ok (.bipush 32, 2) := by decide +kernel
theorem d2_9 : decode method_2_code 9 = .ok (.if_icmp .le 5, 3) := by decide +kernel
theorem d2_12 : decode method_2_code 12 = .ok (.iconst 0, 1) := by decide +kernel
theorem d2_13 : decode method_2_code 13 = .ok (.ireturn, 1) := by decide +kernel
theorem d2_14 : decode method_2_code 14 = .ok (.iload_n 0, 1) := by decide +kernel
theorem d2_15 : decode method_2_code 15 = .ok (.bipush 9, 2) := by decide +kernel
theorem d2_17 : decode method_2_code 17 = .ok (.isub, 1) := by decide +kernel
theorem d2_18 : decode method_2_code 18 = .ok (.istore_n 1, 1) := by decide +kernel
theorem d2_19 : decode method_2_code 19 = .ok (.ldc 7, 2) := by decide +kernel
theorem d2_21 : decode method_2_code 21 = .ok (.iload_n 1, 1) := by decide +kernel
theorem d2_22 : decode method_2_code 22 = .ok (.iushr, 1) := by decide +kernel
theorem d2_23 : decode method_2_code 23 = .ok (.iconst 1, 1) := by decide +kernel
theorem d2_24 : decode method_2_code 24 = .ok (.iand, 1) := by decide +kernel
theorem d2_25 : decode method_2_code 25 = .ok (.ifCond .eq 7, 3) := by decide +kernel
theorem d2_28 : decode method_2_code 28 = .ok (.iconst 1, 1) := by decide +kernel
theorem d2_29 : decode method_2_code 29 = .ok (.goto 4, 3) := by decide +kernel
theorem d2_32 : decode method_2_code 32 = .ok (.iconst 0, 1) := by decide +kernel
theorem d2_33 : decode method_2_code 33 = .ok (.ireturn, 1) := by decide +kernel
theorem pn_2 : plainName "com/example/marcasite/marcasite/marc/WhiteSpaceIsPinLaw" = true := by first | (simp [plainName, overriddenIn]; done) | decide +kernel
theorem ef_2 (m : MethodId) (p1 : Int32) : entryFrame m #[(.int p1)] 2 = mkF m 0 #[.val (.int p1), .unset] [] := by first | (simp [entryFrame, mkF, argsToLocals, Value.category]; done) | rfl
def Q2 (Z : State) (p1 : Int32) (h0 : Heap) (n0 : Nat) (v : Option Value) (h : Heap) (L : List Loc) : Prop := v = some (.int (own_pi (p1 = (32 : Int32) ∨ p1 = (9 : Int32) ∨ p1 = (13 : Int32) ∨ p1 = (10 : Int32)))) ∧ Fr n0 L ∧ h = h0
set_option maxRecDepth 65536 in
set_option maxHeartbeats 40000000 in
theorem rm2 (l : Launch) (Z : State) (a0 : Array Value) (hw : ∀ d ∈ tables_1, d.before a0 Z = true) (ws : List Jvm.Cond) (p1 : Int32) (h0 : Heap) (n0 : Nat) (Z0 : n0 ≤ h0.size)  :
    MetFree l (⟨"com/example/marcasite/marcasite/marc/WhiteSpaceIsPinLaw", "reference", "(I)Z"⟩ : MethodName) (head1 (Jvm.Cond.code (⟨"com/example/marcasite/marcasite/marc/WhiteSpaceIsPinLaw", "reference", "(I)Z"⟩ : MethodName) method_2_code 2 (some .boolean) :: ws) ({ frames := 0, cells := 0, slots := 0, locals := 0 } : Room)) (fun a U => a = #[(.int p1)] ∧ Z.Warmed39 U.vm ∧ U.heap = h0) (fun _ _ _ _ _ => True) (fun _ U o U' => ∃ v L, o = .returned v ∧ Q2 Z p1 h0 n0 v U'.heap L ∧ FrameEnd U o U' L ({ frames := 0, cells := 0, slots := 0, locals := 0 } : Room).cells ({ frames := 0, cells := 0, slots := 0, locals := 0 } : Room).slots) := by
  refine MetFree.of_bodySF (plainFor_of_name pn_2) hisR ?_
  intro p e s m args below meth c s₁ Bd hml0 hP hK
  obtain ⟨rfl, hZ, hh⟩ := hP
  have hx := Bd.exec
  have hby := Bd.bytes
  have hlk : meth.locks = false := BodyLoose.notSynchronized Bd
  have hml : c.maxLocals = 2 := hml0
  have hown : s.vm.findClass "com/example/marcasite/marcasite/marc/WhiteSpaceIsPinLaw" = some m.cls := findClass_of_methodNamed Bd.named
  have hnm := (name_of_methodNamed Bd.named Bd.method).1
  have X0 : Stand p l e ({ frames := 0, cells := 0, slots := 0, locals := 0 } : Room) s m #[(.int p1)] below meth c s₁ [] 0 0 := Stand.of_body Bd
  have e0 : s₁.heap = h0 := by rw [← hh, Bd.state]; rfl
  have N0 := Fr.nil n0
  show Gl p.tables e below (fun (o : Outcome) (U' : State) => ∃ v L, o = .returned v ∧ Q2 Z p1 h0 n0 v U'.heap L ∧ FrameEnd s o U' L ({ frames := 0, cells := 0, slots := 0, locals := 0 } : Room).cells ({ frames := 0, cells := 0, slots := 0, locals := 0 } : Room).slots) _
  refine Gl.pre (fun t k => castTop (ef_2 m p1) k) ?_
  obtain ⟨PP, hPP⟩ : ∃ P : Outcome → State → Prop, P = (fun (o : Outcome) (U' : State) => ∃ v L, o = .returned v ∧ Q2 Z p1 h0 n0 v U'.heap L ∧ FrameEnd s o U' L ({ frames := 0, cells := 0, slots := 0, locals := 0 } : Room).cells ({ frames := 0, cells := 0, slots := 0, locals := 0 } : Room).slots) := ⟨_, rfl⟩
  rw [← hPP]
  show Gl p.tables e below PP (s₁.setTop (mkF m 0 #[.val (.int p1), .unset] []))
  refine Gl.pre (fun _ k => XS.iloadN X0.here hx rfl (hb hby d2_0) rfl k) ?_
  show Gl p.tables e below PP (s₁.setTop (mkF m 1 #[.val (.int p1), .unset] [(.int p1)]))
  refine Gl.pre (fun _ k => XS.bipush X0.here hx rfl (hb hby d2_1) k) ?_
  show Gl p.tables e below PP (s₁.setTop (mkF m 3 #[.val (.int p1), .unset] [(.int (9 : Int32)), (.int p1)]))
  by_cases hc1 : p1 < (9 : Int32)
  · refine Gl.pre (fun _ k => XS.icmpYes X0.here hx rfl (pc0 := 3) (pc' := 12) rfl (hb hby d2_3) rfl (tlt hc1).1 (by decide) (by decide) k) ?_
    show Gl p.tables e below PP (s₁.setTop (mkF m 12 #[.val (.int p1), .unset] []))
    refine Gl.pre (fun _ k => XS.iconst X0.here hx rfl (hb hby d2_12) k) ?_
    show Gl p.tables e below PP (s₁.setTop (mkF m 13 #[.val (.int p1), .unset] [(.int (0 : Int32))]))
    rw [hPP]
    refine own_finN (Q := (Q2 Z p1 h0 n0)) X0 hx hlk Bd.returns (t := .boolean) (z' := (0 : Int32)) (by simp) (by decide) (hb hby d2_13) ?_ (by decide) (by decide)
    show Q2 Z p1 h0 n0 _ s₁.heap _
    rw [e0]
    refine ⟨?_, N0, rfl⟩
    rw [own_pi_f (own_out p1 (Or.inl hc1))]
  · refine Gl.pre (fun _ k => XS.icmpNo X0.here hx rfl (hb hby d2_3) rfl (flt hc1).1 k) ?_
    show Gl p.tables e below PP (s₁.setTop (mkF m 6 #[.val (.int p1), .unset] []))
    refine Gl.pre (fun _ k => XS.iloadN X0.here hx rfl (hb hby d2_6) rfl k) ?_
    show Gl p.tables e below PP (s₁.setTop (mkF m 7 #[.val (.int p1), .unset] [(.int p1)]))
    refine Gl.pre (fun _ k => XS.bipush X0.here hx rfl (hb hby d2_7) k) ?_
    show Gl p.tables e below PP (s₁.setTop (mkF m 9 #[.val (.int p1), .unset] [(.int (32 : Int32)), (.int p1)]))
    by_cases hc2 : (32 : Int32) < p1
    · refine Gl.pre (fun _ k => XS.icmpNo X0.here hx rfl (hb hby d2_9) rfl (tlt hc2).2.2.2 k) ?_
      show Gl p.tables e below PP (s₁.setTop (mkF m 12 #[.val (.int p1), .unset] []))
      refine Gl.pre (fun _ k => XS.iconst X0.here hx rfl (hb hby d2_12) k) ?_
      show Gl p.tables e below PP (s₁.setTop (mkF m 13 #[.val (.int p1), .unset] [(.int (0 : Int32))]))
      rw [hPP]
      refine own_finN (Q := (Q2 Z p1 h0 n0)) X0 hx hlk Bd.returns (t := .boolean) (z' := (0 : Int32)) (by simp) (by decide) (hb hby d2_13) ?_ (by decide) (by decide)
      show Q2 Z p1 h0 n0 _ s₁.heap _
      rw [e0]
      refine ⟨?_, N0, rfl⟩
      rw [own_pi_f (own_out p1 (Or.inr hc2))]
    · refine Gl.pre (fun _ k => XS.icmpYes X0.here hx rfl (pc0 := 9) (pc' := 14) rfl (hb hby d2_9) rfl (flt hc2).2.2.2 (by decide) (by decide) k) ?_
      show Gl p.tables e below PP (s₁.setTop (mkF m 14 #[.val (.int p1), .unset] []))
      refine Gl.pre (fun _ k => XS.iloadN X0.here hx rfl (hb hby d2_14) rfl k) ?_
      show Gl p.tables e below PP (s₁.setTop (mkF m 15 #[.val (.int p1), .unset] [(.int p1)]))
      refine Gl.pre (fun _ k => XS.bipush X0.here hx rfl (hb hby d2_15) k) ?_
      show Gl p.tables e below PP (s₁.setTop (mkF m 17 #[.val (.int p1), .unset] [(.int (9 : Int32)), (.int p1)]))
      refine Gl.pre (fun _ k => XS.isub X0.here hx rfl (hb hby d2_17) rfl k) ?_
      show Gl p.tables e below PP (s₁.setTop (mkF m 18 #[.val (.int p1), .unset] [(.int (p1 - (9 : Int32)))]))
      refine Gl.pre (fun _ k => XS.istoreN X0.here hx rfl (hb hby d2_18) rfl (l' := #[.val (.int p1), .val (.int (p1 - (9 : Int32)))]) rfl k) ?_
      show Gl p.tables e below PP (s₁.setTop (mkF m 19 #[.val (.int p1), .val (.int (p1 - (9 : Int32)))] []))
      refine Gl.pre (fun _ k => X0.ldcInt hx hown (mvT hZ (hw _ (List.mem_of_getElem? (i := 11) rfl))) (g := (mkF m 19 #[.val (.int p1), .val (.int (p1 - (9 : Int32)))] [])) rfl (hb hby d2_19) _ k) ?_
      show Gl p.tables e below PP (s₁.setTop (mkF m 21 #[.val (.int p1), .val (.int (p1 - (9 : Int32)))] [(.int (8388627 : Int32))]))
      refine Gl.pre (fun _ k => XS.iloadN X0.here hx rfl (hb hby d2_21) rfl k) ?_
      show Gl p.tables e below PP (s₁.setTop (mkF m 22 #[.val (.int p1), .val (.int (p1 - (9 : Int32)))] [(.int (p1 - (9 : Int32))), (.int (8388627 : Int32))]))
      refine Gl.pre (fun _ k => XS.iushr X0.here hx rfl (hb hby d2_22) rfl k) ?_
      show Gl p.tables e below PP (s₁.setTop (mkF m 23 #[.val (.int p1), .val (.int (p1 - (9 : Int32)))] [(.int (own_ushr (8388627 : Int32) (p1 - (9 : Int32))))]))
      refine Gl.pre (fun _ k => XS.iconst X0.here hx rfl (hb hby d2_23) k) ?_
      show Gl p.tables e below PP (s₁.setTop (mkF m 24 #[.val (.int p1), .val (.int (p1 - (9 : Int32)))] [(.int (1 : Int32)), (.int (own_ushr (8388627 : Int32) (p1 - (9 : Int32))))]))
      refine Gl.pre (fun _ k => XS.iand X0.here hx rfl (hb hby d2_24) rfl k) ?_
      show Gl p.tables e below PP (s₁.setTop (mkF m 25 #[.val (.int p1), .val (.int (p1 - (9 : Int32)))] [(.int ((own_ushr (8388627 : Int32) (p1 - (9 : Int32))) &&& (1 : Int32)))]))
      suffices J3 : Gl p.tables e below PP (s₁.setTop (mkF m 33 #[.val (.int p1), .val (.int (p1 - (9 : Int32)))] [(.int (own_pi (¬ (((own_ushr (8388627 : Int32) (p1 - (9 : Int32))) &&& (1 : Int32)) = (0 : Int32)))))])) by
        by_cases hd3 : ((own_ushr (8388627 : Int32) (p1 - (9 : Int32))) &&& (1 : Int32)) = (0 : Int32)
        · rw [own_pi_nt hd3] at J3
          refine Gl.pre (fun _ k => XS.ifYes X0.here hx rfl (pc0 := 25) (pc' := 32) rfl (hb hby d2_25) rfl ((if0 _ _).trans (teq hd3).1) (by decide) (by decide) k) ?_
          show Gl p.tables e below PP (s₁.setTop (mkF m 32 #[.val (.int p1), .val (.int (p1 - (9 : Int32)))] []))
          refine Gl.pre (fun _ k => XS.iconst X0.here hx rfl (hb hby d2_32) k) ?_
          show Gl p.tables e below PP (s₁.setTop (mkF m 33 #[.val (.int p1), .val (.int (p1 - (9 : Int32)))] [(.int (0 : Int32))]))
          exact J3
        · rw [own_pi_nf hd3] at J3
          refine Gl.pre (fun _ k => XS.ifNo X0.here hx rfl (hb hby d2_25) rfl ((if0 _ _).trans (feq hd3).1) k) ?_
          show Gl p.tables e below PP (s₁.setTop (mkF m 28 #[.val (.int p1), .val (.int (p1 - (9 : Int32)))] []))
          refine Gl.pre (fun _ k => XS.iconst X0.here hx rfl (hb hby d2_28) k) ?_
          show Gl p.tables e below PP (s₁.setTop (mkF m 29 #[.val (.int p1), .val (.int (p1 - (9 : Int32)))] [(.int (1 : Int32))]))
          refine Gl.pre (fun _ k => XS.goto X0.here hx rfl (pc0 := 29) (pc' := 33) rfl (hb hby d2_29) (by decide) (by decide) k) ?_
          show Gl p.tables e below PP (s₁.setTop (mkF m 33 #[.val (.int p1), .val (.int (p1 - (9 : Int32)))] [(.int (1 : Int32))]))
          exact J3
      show Gl p.tables e below PP (s₁.setTop (mkF m 33 #[.val (.int p1), .val (.int (p1 - (9 : Int32)))] [(.int (own_pi (¬ (((own_ushr (8388627 : Int32) (p1 - (9 : Int32))) &&& (1 : Int32)) = (0 : Int32)))))]))
      rw [hPP]
      refine own_finN (Q := (Q2 Z p1 h0 n0)) X0 hx hlk Bd.returns (t := .boolean) (z' := (own_pi (¬ (((own_ushr (8388627 : Int32) (p1 - (9 : Int32))) &&& (1 : Int32)) = (0 : Int32))))) (by simp) own_nar_pi (hb hby d2_33) ?_ (by decide) (by decide)
      show Q2 Z p1 h0 n0 _ s₁.heap _
      rw [e0]
      refine ⟨?_, N0, rfl⟩
      rw [own_pi_eq (own_ref p1 hc1 hc2)]
theorem d3_0 : decode method_3_code 0 = .ok (.iload_n 0, 1) := by decide +kernel
theorem d3_1 : decode method_3_code 1 = .ok (.iconst 3, 1) := by decide +kernel
theorem d3_2 : decode method_3_code 2 = .ok (.iand, 1) := by decide +kernel
theorem d3_3 : decode method_3_code 3 = .ok (.istore_n 1, 1) := by decide +kernel
theorem d3_4 : decode method_3_code 4 = .ok (.iload_n 1, 1) := by decide +kernel
theorem d3_5 : decode method_3_code 5 = .ok (.ifCond .ne 6, 3) := by decide +kernel
theorem d3_8 : decode method_3_code 8 = .ok (.bipush 32, 2) := by decide +kernel
theorem d3_10 : decode method_3_code 10 = .ok (.ireturn, 1) := by decide +kernel
theorem d3_11 : decode method_3_code 11 = .ok (.iload_n 1, 1) := by decide +kernel
theorem d3_12 : decode method_3_code 12 = .ok (.iconst 1, 1) := by decide +kernel
theorem d3_13 : decode method_3_code 13 = .ok (.if_icmp .ne 6, 3) := by decide +kernel
theorem d3_16 : decode method_3_code 16 = .ok (.bipush 9, 2) := by decide +kernel
theorem d3_18 : decode method_3_code 18 = .ok (.ireturn, 1) := by decide +kernel
theorem d3_19 : decode method_3_code 19 = .ok (.iload_n 1, 1) := by decide +kernel
theorem d3_20 : decode method_3_code 20 = .ok (.iconst 2, 1) := by decide +kernel
theorem d3_21 : decode method_3_code 21 = .ok (.if_icmp .ne 6, 3) := by decide +kernel
theorem d3_24 : decode method_3_code 24 = .ok (.bipush 13, 2) := by decide +kernel
theorem d3_26 : decode method_3_code 26 = .ok (.ireturn, 1) := by decide +kernel
theorem d3_27 : decode method_3_code 27 = .ok (.bipush 10, 2) := by decide +kernel
theorem d3_29 : decode method_3_code 29 = .ok (.ireturn, 1) := by decide +kernel
theorem pn_3 : plainName "com/example/marcasite/marcasite/marc/WhiteSpaceIsPinLaw" = true := by first | (simp [plainName, overriddenIn]; done) | decide +kernel
theorem ef_3 (m : MethodId) (p1 : Int32) : entryFrame m #[(.int p1)] 2 = mkF m 0 #[.val (.int p1), .unset] [] := by first | (simp [entryFrame, mkF, argsToLocals, Value.category]; done) | rfl
def Q3 (Z : State) (p1 : Int32) (h0 : Heap) (n0 : Nat) (v : Option Value) (h : Heap) (L : List Loc) : Prop := v = some (.int (own_mem p1)) ∧ Fr n0 L ∧ h = h0
set_option maxRecDepth 65536 in
set_option maxHeartbeats 40000000 in
theorem rm3 (l : Launch) (Z : State) (a0 : Array Value) (hw : ∀ d ∈ tables_1, d.before a0 Z = true) (ws : List Jvm.Cond) (p1 : Int32) (h0 : Heap) (n0 : Nat) (Z0 : n0 ≤ h0.size)  :
    MetFree l (⟨"com/example/marcasite/marcasite/marc/WhiteSpaceIsPinLaw", "member", "(I)I"⟩ : MethodName) (head1 (Jvm.Cond.code (⟨"com/example/marcasite/marcasite/marc/WhiteSpaceIsPinLaw", "member", "(I)I"⟩ : MethodName) method_3_code 2 (some .int) :: ws) ({ frames := 0, cells := 0, slots := 0, locals := 0 } : Room)) (fun a U => a = #[(.int p1)] ∧ Z.Warmed39 U.vm ∧ U.heap = h0) (fun _ _ _ _ _ => True) (fun _ U o U' => ∃ v L, o = .returned v ∧ Q3 Z p1 h0 n0 v U'.heap L ∧ FrameEnd U o U' L ({ frames := 0, cells := 0, slots := 0, locals := 0 } : Room).cells ({ frames := 0, cells := 0, slots := 0, locals := 0 } : Room).slots) := by
  refine MetFree.of_bodySF (plainFor_of_name pn_3) hisR ?_
  intro p e s m args below meth c s₁ Bd hml0 hP hK
  obtain ⟨rfl, hZ, hh⟩ := hP
  have hx := Bd.exec
  have hby := Bd.bytes
  have hlk : meth.locks = false := BodyLoose.notSynchronized Bd
  have hml : c.maxLocals = 2 := hml0
  have hown : s.vm.findClass "com/example/marcasite/marcasite/marc/WhiteSpaceIsPinLaw" = some m.cls := findClass_of_methodNamed Bd.named
  have hnm := (name_of_methodNamed Bd.named Bd.method).1
  have X0 : Stand p l e ({ frames := 0, cells := 0, slots := 0, locals := 0 } : Room) s m #[(.int p1)] below meth c s₁ [] 0 0 := Stand.of_body Bd
  have e0 : s₁.heap = h0 := by rw [← hh, Bd.state]; rfl
  have N0 := Fr.nil n0
  show Gl p.tables e below (fun (o : Outcome) (U' : State) => ∃ v L, o = .returned v ∧ Q3 Z p1 h0 n0 v U'.heap L ∧ FrameEnd s o U' L ({ frames := 0, cells := 0, slots := 0, locals := 0 } : Room).cells ({ frames := 0, cells := 0, slots := 0, locals := 0 } : Room).slots) _
  refine Gl.pre (fun t k => castTop (ef_3 m p1) k) ?_
  obtain ⟨PP, hPP⟩ : ∃ P : Outcome → State → Prop, P = (fun (o : Outcome) (U' : State) => ∃ v L, o = .returned v ∧ Q3 Z p1 h0 n0 v U'.heap L ∧ FrameEnd s o U' L ({ frames := 0, cells := 0, slots := 0, locals := 0 } : Room).cells ({ frames := 0, cells := 0, slots := 0, locals := 0 } : Room).slots) := ⟨_, rfl⟩
  rw [← hPP]
  show Gl p.tables e below PP (s₁.setTop (mkF m 0 #[.val (.int p1), .unset] []))
  refine Gl.pre (fun _ k => XS.iloadN X0.here hx rfl (hb hby d3_0) rfl k) ?_
  show Gl p.tables e below PP (s₁.setTop (mkF m 1 #[.val (.int p1), .unset] [(.int p1)]))
  refine Gl.pre (fun _ k => XS.iconst X0.here hx rfl (hb hby d3_1) k) ?_
  show Gl p.tables e below PP (s₁.setTop (mkF m 2 #[.val (.int p1), .unset] [(.int (3 : Int32)), (.int p1)]))
  refine Gl.pre (fun _ k => XS.iand X0.here hx rfl (hb hby d3_2) rfl k) ?_
  show Gl p.tables e below PP (s₁.setTop (mkF m 3 #[.val (.int p1), .unset] [(.int (p1 &&& (3 : Int32)))]))
  refine Gl.pre (fun _ k => XS.istoreN X0.here hx rfl (hb hby d3_3) rfl (l' := #[.val (.int p1), .val (.int (p1 &&& (3 : Int32)))]) rfl k) ?_
  show Gl p.tables e below PP (s₁.setTop (mkF m 4 #[.val (.int p1), .val (.int (p1 &&& (3 : Int32)))] []))
  refine Gl.pre (fun _ k => XS.iloadN X0.here hx rfl (hb hby d3_4) rfl k) ?_
  show Gl p.tables e below PP (s₁.setTop (mkF m 5 #[.val (.int p1), .val (.int (p1 &&& (3 : Int32)))] [(.int (p1 &&& (3 : Int32)))]))
  by_cases hc1 : (p1 &&& (3 : Int32)) = (0 : Int32)
  · refine Gl.pre (fun _ k => XS.ifNo X0.here hx rfl (hb hby d3_5) rfl ((if0 _ _).trans (teq hc1).2) k) ?_
    show Gl p.tables e below PP (s₁.setTop (mkF m 8 #[.val (.int p1), .val (.int (p1 &&& (3 : Int32)))] []))
    refine Gl.pre (fun _ k => XS.bipush X0.here hx rfl (hb hby d3_8) k) ?_
    show Gl p.tables e below PP (s₁.setTop (mkF m 10 #[.val (.int p1), .val (.int (p1 &&& (3 : Int32)))] [(.int (32 : Int32))]))
    rw [hPP]
    refine own_finI (Q := (Q3 Z p1 h0 n0)) X0 hx hlk Bd.returns (hb hby d3_10) ?_ (by decide) (by decide)
    show Q3 Z p1 h0 n0 _ s₁.heap _
    rw [e0]
    refine ⟨?_, N0, rfl⟩
    simp [own_mem, hc1]
  · refine Gl.pre (fun _ k => XS.ifYes X0.here hx rfl (pc0 := 5) (pc' := 11) rfl (hb hby d3_5) rfl ((if0 _ _).trans (feq hc1).2) (by decide) (by decide) k) ?_
    show Gl p.tables e below PP (s₁.setTop (mkF m 11 #[.val (.int p1), .val (.int (p1 &&& (3 : Int32)))] []))
    refine Gl.pre (fun _ k => XS.iloadN X0.here hx rfl (hb hby d3_11) rfl k) ?_
    show Gl p.tables e below PP (s₁.setTop (mkF m 12 #[.val (.int p1), .val (.int (p1 &&& (3 : Int32)))] [(.int (p1 &&& (3 : Int32)))]))
    refine Gl.pre (fun _ k => XS.iconst X0.here hx rfl (hb hby d3_12) k) ?_
    show Gl p.tables e below PP (s₁.setTop (mkF m 13 #[.val (.int p1), .val (.int (p1 &&& (3 : Int32)))] [(.int (1 : Int32)), (.int (p1 &&& (3 : Int32)))]))
    by_cases hc2 : (p1 &&& (3 : Int32)) = (1 : Int32)
    · refine Gl.pre (fun _ k => XS.icmpNo X0.here hx rfl (hb hby d3_13) rfl (teq hc2).2 k) ?_
      show Gl p.tables e below PP (s₁.setTop (mkF m 16 #[.val (.int p1), .val (.int (p1 &&& (3 : Int32)))] []))
      refine Gl.pre (fun _ k => XS.bipush X0.here hx rfl (hb hby d3_16) k) ?_
      show Gl p.tables e below PP (s₁.setTop (mkF m 18 #[.val (.int p1), .val (.int (p1 &&& (3 : Int32)))] [(.int (9 : Int32))]))
      rw [hPP]
      refine own_finI (Q := (Q3 Z p1 h0 n0)) X0 hx hlk Bd.returns (hb hby d3_18) ?_ (by decide) (by decide)
      show Q3 Z p1 h0 n0 _ s₁.heap _
      rw [e0]
      refine ⟨?_, N0, rfl⟩
      simp [own_mem, hc1, hc2]
    · refine Gl.pre (fun _ k => XS.icmpYes X0.here hx rfl (pc0 := 13) (pc' := 19) rfl (hb hby d3_13) rfl (feq hc2).2 (by decide) (by decide) k) ?_
      show Gl p.tables e below PP (s₁.setTop (mkF m 19 #[.val (.int p1), .val (.int (p1 &&& (3 : Int32)))] []))
      refine Gl.pre (fun _ k => XS.iloadN X0.here hx rfl (hb hby d3_19) rfl k) ?_
      show Gl p.tables e below PP (s₁.setTop (mkF m 20 #[.val (.int p1), .val (.int (p1 &&& (3 : Int32)))] [(.int (p1 &&& (3 : Int32)))]))
      refine Gl.pre (fun _ k => XS.iconst X0.here hx rfl (hb hby d3_20) k) ?_
      show Gl p.tables e below PP (s₁.setTop (mkF m 21 #[.val (.int p1), .val (.int (p1 &&& (3 : Int32)))] [(.int (2 : Int32)), (.int (p1 &&& (3 : Int32)))]))
      by_cases hc3 : (p1 &&& (3 : Int32)) = (2 : Int32)
      · refine Gl.pre (fun _ k => XS.icmpNo X0.here hx rfl (hb hby d3_21) rfl (teq hc3).2 k) ?_
        show Gl p.tables e below PP (s₁.setTop (mkF m 24 #[.val (.int p1), .val (.int (p1 &&& (3 : Int32)))] []))
        refine Gl.pre (fun _ k => XS.bipush X0.here hx rfl (hb hby d3_24) k) ?_
        show Gl p.tables e below PP (s₁.setTop (mkF m 26 #[.val (.int p1), .val (.int (p1 &&& (3 : Int32)))] [(.int (13 : Int32))]))
        rw [hPP]
        refine own_finI (Q := (Q3 Z p1 h0 n0)) X0 hx hlk Bd.returns (hb hby d3_26) ?_ (by decide) (by decide)
        show Q3 Z p1 h0 n0 _ s₁.heap _
        rw [e0]
        refine ⟨?_, N0, rfl⟩
        simp [own_mem, hc1, hc2, hc3]
      · refine Gl.pre (fun _ k => XS.icmpYes X0.here hx rfl (pc0 := 21) (pc' := 27) rfl (hb hby d3_21) rfl (feq hc3).2 (by decide) (by decide) k) ?_
        show Gl p.tables e below PP (s₁.setTop (mkF m 27 #[.val (.int p1), .val (.int (p1 &&& (3 : Int32)))] []))
        refine Gl.pre (fun _ k => XS.bipush X0.here hx rfl (hb hby d3_27) k) ?_
        show Gl p.tables e below PP (s₁.setTop (mkF m 29 #[.val (.int p1), .val (.int (p1 &&& (3 : Int32)))] [(.int (10 : Int32))]))
        rw [hPP]
        refine own_finI (Q := (Q3 Z p1 h0 n0)) X0 hx hlk Bd.returns (hb hby d3_29) ?_ (by decide) (by decide)
        show Q3 Z p1 h0 n0 _ s₁.heap _
        rw [e0]
        refine ⟨?_, N0, rfl⟩
        simp [own_mem, hc1, hc2, hc3]
theorem pn_0 : plainName "com/example/marcasite/marcasite/marc/WhiteSpaceIsPinLaw" = true := by first | (simp [plainName, overriddenIn]; done) | decide +kernel
theorem ef_0 (m : MethodId) (p1 : Int32) (p2 : Int32) : entryFrame m #[(.int p1), (.int p2)] maxLocals = mkF m 0 #[.val (.int p1), .val (.int p2), .unset, .unset] [] := by first | (simp [entryFrame, mkF, argsToLocals, Value.category, maxLocals]; done) | rfl
def Q0 (Z : State) (p1 : Int32) (p2 : Int32) (h0 : Heap) (n0 : Nat) (v : Option Value) (h : Heap) (L : List Loc) : Prop := v = some (.int (1 : Int32)) ∧ Fr n0 L
set_option maxRecDepth 65536 in
set_option maxHeartbeats 40000000 in
theorem rm0 (l : Launch) (Z : State) (a0 : Array Value) (hw : ∀ d ∈ tables_1, d.before a0 Z = true) (ws : List Jvm.Cond) (p1 : Int32) (p2 : Int32) (h0 : Heap) (n0 : Nat) (Z0 : n0 ≤ h0.size)  :
    MetFree l x (head1 (Jvm.Cond.code x code maxLocals ret :: ws) room_1) (fun a U => a = #[(.int p1), (.int p2)] ∧ Z.Warmed39 U.vm ∧ U.heap = h0) (fun _ _ _ _ _ => True) (fun _ U o U' => ∃ v L, o = .returned v ∧ Q0 Z p1 p2 h0 n0 v U'.heap L ∧ FrameEnd U o U' L room_1.cells room_1.slots) := by
  refine MetFree.of_bodySF (plainFor_of_name pn_0) hisR ?_
  intro p e s m args below meth c s₁ Bd hml0 hP hK
  obtain ⟨rfl, hZ, hh⟩ := hP
  have hx := Bd.exec
  have hby := Bd.bytes
  have hlk : meth.locks = false := BodyLoose.notSynchronized Bd
  have hml : c.maxLocals = 4 := hml0
  have hown : s.vm.findClass "com/example/marcasite/marcasite/marc/WhiteSpaceIsPinLaw" = some m.cls := findClass_of_methodNamed Bd.named
  have hnm := (name_of_methodNamed Bd.named Bd.method).1
  have X0 : Stand p l e room_1 s m #[(.int p1), (.int p2)] below meth c s₁ [] 0 0 := Stand.of_body Bd
  have e0 : s₁.heap = h0 := by rw [← hh, Bd.state]; rfl
  have N0 := Fr.nil n0
  show Gl p.tables e below (fun (o : Outcome) (U' : State) => ∃ v L, o = .returned v ∧ Q0 Z p1 p2 h0 n0 v U'.heap L ∧ FrameEnd s o U' L room_1.cells room_1.slots) _
  refine Gl.pre (fun t k => castTop (ef_0 m p1 p2) k) ?_
  obtain ⟨PP, hPP⟩ : ∃ P : Outcome → State → Prop, P = (fun (o : Outcome) (U' : State) => ∃ v L, o = .returned v ∧ Q0 Z p1 p2 h0 n0 v U'.heap L ∧ FrameEnd s o U' L room_1.cells room_1.slots) := ⟨_, rfl⟩
  rw [← hPP]
  show Gl p.tables e below PP (s₁.setTop (mkF m 0 #[.val (.int p1), .val (.int p2), .unset, .unset] []))
  refine Gl.pre (fun _ k => XS.iloadN X0.here hx rfl (hb hby at_0) rfl k) ?_
  show Gl p.tables e below PP (s₁.setTop (mkF m 1 #[.val (.int p1), .val (.int p2), .unset, .unset] [(.int p1)]))
  obtain ⟨_, _, ⟨T1, L1, k1, n1⟩, -, X1, ⟨Lc1, hQ1, l1, y1, z1⟩, st1⟩ := Jvm.LawKit.callS X0 hx (y := (⟨"com/example/marcasite/marcasite/marc/WhiteSpace", "is", "(I)Z"⟩ : MethodName)) hown (mvT hZ (hw _ (List.mem_of_getElem? (i := 0) rfl))) (mvT hZ (hw _ (List.mem_of_getElem? (i := 1) rfl))) (mvT hZ (hw _ (List.mem_of_getElem? (i := 2) rfl))) (mvT hZ (hw _ (List.mem_of_getElem? (i := 3) rfl))) (by decide) (backOf (W := 0) (rm1 l Z a0 hw [] p1 h0 n0 Z0 ) hZ (hw _ (List.mem_of_getElem? (i := 3) rfl)) (hw _ (List.mem_of_getElem? (i := 2) rfl)) (by decide) (by decide)) (g := (mkF m 1 #[.val (.int p1), .val (.int p2), .unset, .unset] [(.int p1)])) rfl (by rw [hml]; rfl) (argsL := [(.int p1)]) (rest := []) (lenOf pd_0 rfl) rfl (by show 2 * 0 + _ ≤ _; exact Nat.le_of_eq rfl) (hb hby at_1) (fun _ _ => ⟨rfl, e0, (by decide : 0 + 0 ≤ _), (by decide : 0 + 0 ≤ _)⟩)
  dsimp only [Pt.U, Pt.locs, Pt.cells, Pt.slots] at X1 l1 y1 z1 st1 hQ1
  subst l1 y1 z1
  obtain ⟨rfl, N1q, e1⟩ := hQ1
  have N1 := Fr.app N0 N1q
  refine Gl.pre (fun _ k => st1 _ k) ?_
  show Gl p.tables e below PP (T1.setTop (mkF m 4 #[.val (.int p1), .val (.int p2), .unset, .unset] [(.int (own_pi (p1 = (32 : Int32) ∨ p1 = (9 : Int32) ∨ p1 = (13 : Int32) ∨ p1 = (10 : Int32))))]))
  refine Gl.pre (fun _ k => XS.iloadN X1.here hx rfl (hb hby at_4) rfl k) ?_
  show Gl p.tables e below PP (T1.setTop (mkF m 5 #[.val (.int p1), .val (.int p2), .unset, .unset] [(.int p1), (.int (own_pi (p1 = (32 : Int32) ∨ p1 = (9 : Int32) ∨ p1 = (13 : Int32) ∨ p1 = (10 : Int32))))]))
  obtain ⟨_, _, ⟨T2, L2, k2, n2⟩, -, X2, ⟨Lc2, hQ2, l2, y2, z2⟩, st2⟩ := Jvm.LawKit.callS X1 hx (y := (⟨"com/example/marcasite/marcasite/marc/WhiteSpaceIsPinLaw", "reference", "(I)Z"⟩ : MethodName)) hown (mvT hZ (hw _ (List.mem_of_getElem? (i := 4) rfl))) (mvT hZ (hw _ (List.mem_of_getElem? (i := 5) rfl))) (mvT hZ (hw _ (List.mem_of_getElem? (i := 6) rfl))) (mvT hZ (hw _ (List.mem_of_getElem? (i := 7) rfl))) (by decide) (backOf (W := 1) (rm2 l Z a0 hw [] p1 h0 n0 Z0 ) hZ (hw _ (List.mem_of_getElem? (i := 7) rfl)) (hw _ (List.mem_of_getElem? (i := 6) rfl)) (by decide) (by decide)) (g := (mkF m 5 #[.val (.int p1), .val (.int p2), .unset, .unset] [(.int p1), (.int (own_pi (p1 = (32 : Int32) ∨ p1 = (9 : Int32) ∨ p1 = (13 : Int32) ∨ p1 = (10 : Int32))))])) rfl (by rw [hml]; rfl) (argsL := [(.int p1)]) (rest := [(.int (own_pi (p1 = (32 : Int32) ∨ p1 = (9 : Int32) ∨ p1 = (13 : Int32) ∨ p1 = (10 : Int32))))]) (lenOf pd_0 rfl) rfl (by show 2 * 0 + _ ≤ _; exact Nat.le_of_eq rfl) (hb hby at_5) (fun _ _ => ⟨rfl, e1, (by decide : 0 + 0 ≤ _), (by decide : 0 + 0 ≤ _)⟩)
  dsimp only [Pt.U, Pt.locs, Pt.cells, Pt.slots] at X2 l2 y2 z2 st2 hQ2
  subst l2 y2 z2
  obtain ⟨rfl, N2q, e2⟩ := hQ2
  have N2 := Fr.app N1 N2q
  refine Gl.pre (fun _ k => st2 _ k) ?_
  show Gl p.tables e below PP (T2.setTop (mkF m 8 #[.val (.int p1), .val (.int p2), .unset, .unset] [(.int (own_pi (p1 = (32 : Int32) ∨ p1 = (9 : Int32) ∨ p1 = (13 : Int32) ∨ p1 = (10 : Int32)))), (.int (own_pi (p1 = (32 : Int32) ∨ p1 = (9 : Int32) ∨ p1 = (13 : Int32) ∨ p1 = (10 : Int32))))]))
  refine Gl.pre (fun _ k => XS.icmpNo X2.here hx rfl (hb hby at_8) rfl (teq (show (own_pi (p1 = (32 : Int32) ∨ p1 = (9 : Int32) ∨ p1 = (13 : Int32) ∨ p1 = (10 : Int32))) = (own_pi (p1 = (32 : Int32) ∨ p1 = (9 : Int32) ∨ p1 = (13 : Int32) ∨ p1 = (10 : Int32))) from rfl)).2 k) ?_
  show Gl p.tables e below PP (T2.setTop (mkF m 11 #[.val (.int p1), .val (.int p2), .unset, .unset] []))
  refine Gl.pre (fun _ k => XS.iconst X2.here hx rfl (hb hby at_11) k) ?_
  show Gl p.tables e below PP (T2.setTop (mkF m 12 #[.val (.int p1), .val (.int p2), .unset, .unset] [(.int (1 : Int32))]))
  refine Gl.pre (fun _ k => XS.goto X2.here hx rfl (pc0 := 12) (pc' := 16) rfl (hb hby at_12) (by decide) (by decide) k) ?_
  show Gl p.tables e below PP (T2.setTop (mkF m 16 #[.val (.int p1), .val (.int p2), .unset, .unset] [(.int (1 : Int32))]))
  refine Gl.pre (fun _ k => XS.istoreN X2.here hx rfl (hb hby at_16) rfl (l' := #[.val (.int p1), .val (.int p2), .val (.int (1 : Int32)), .unset]) rfl k) ?_
  show Gl p.tables e below PP (T2.setTop (mkF m 17 #[.val (.int p1), .val (.int p2), .val (.int (1 : Int32)), .unset] []))
  refine Gl.pre (fun _ k => XS.iloadN X2.here hx rfl (hb hby at_17) rfl k) ?_
  show Gl p.tables e below PP (T2.setTop (mkF m 18 #[.val (.int p1), .val (.int p2), .val (.int (1 : Int32)), .unset] [(.int p2)]))
  obtain ⟨_, _, ⟨T3, L3, k3, n3⟩, -, X3, ⟨Lc3, hQ3, l3, y3, z3⟩, st3⟩ := Jvm.LawKit.callS X2 hx (y := (⟨"com/example/marcasite/marcasite/marc/WhiteSpaceIsPinLaw", "member", "(I)I"⟩ : MethodName)) hown (mvT hZ (hw _ (List.mem_of_getElem? (i := 8) rfl))) (mvT hZ (hw _ (List.mem_of_getElem? (i := 9) rfl))) (mvT hZ (hw _ (List.mem_of_getElem? (i := 6) rfl))) (mvT hZ (hw _ (List.mem_of_getElem? (i := 10) rfl))) (by decide) (backOf (W := 0) (rm3 l Z a0 hw [] p2 h0 n0 Z0 ) hZ (hw _ (List.mem_of_getElem? (i := 10) rfl)) (hw _ (List.mem_of_getElem? (i := 6) rfl)) (by decide) (by decide)) (g := (mkF m 18 #[.val (.int p1), .val (.int p2), .val (.int (1 : Int32)), .unset] [(.int p2)])) rfl (by rw [hml]; rfl) (argsL := [(.int p2)]) (rest := []) (lenOf pd_1 rfl) rfl (by show 2 * 0 + _ ≤ _; exact Nat.le_of_eq rfl) (hb hby at_18) (fun _ _ => ⟨rfl, e2, (by decide : 0 + 0 ≤ _), (by decide : 0 + 0 ≤ _)⟩)
  dsimp only [Pt.U, Pt.locs, Pt.cells, Pt.slots] at X3 l3 y3 z3 st3 hQ3
  subst l3 y3 z3
  obtain ⟨rfl, N3q, e3⟩ := hQ3
  have N3 := Fr.app N2 N3q
  refine Gl.pre (fun _ k => st3 _ k) ?_
  show Gl p.tables e below PP (T3.setTop (mkF m 21 #[.val (.int p1), .val (.int p2), .val (.int (1 : Int32)), .unset] [(.int (own_mem p2))]))
  refine Gl.pre (fun _ k => XS.istoreN X3.here hx rfl (hb hby at_21) rfl (l' := #[.val (.int p1), .val (.int p2), .val (.int (1 : Int32)), .val (.int (own_mem p2))]) rfl k) ?_
  show Gl p.tables e below PP (T3.setTop (mkF m 22 #[.val (.int p1), .val (.int p2), .val (.int (1 : Int32)), .val (.int (own_mem p2))] []))
  refine Gl.pre (fun _ k => XS.iloadN X3.here hx rfl (hb hby at_22) rfl k) ?_
  show Gl p.tables e below PP (T3.setTop (mkF m 23 #[.val (.int p1), .val (.int p2), .val (.int (1 : Int32)), .val (.int (own_mem p2))] [(.int (1 : Int32))]))
  refine Gl.pre (fun _ k => XS.ifNo X3.here hx rfl (hb hby at_23) rfl ((if0 _ _).trans (feq (show ¬ ((1 : Int32) = (0 : Int32)) from (by decide))).1) k) ?_
  show Gl p.tables e below PP (T3.setTop (mkF m 26 #[.val (.int p1), .val (.int p2), .val (.int (1 : Int32)), .val (.int (own_mem p2))] []))
  refine Gl.pre (fun _ k => XS.iloadN X3.here hx rfl (hb hby at_26) rfl k) ?_
  show Gl p.tables e below PP (T3.setTop (mkF m 27 #[.val (.int p1), .val (.int p2), .val (.int (1 : Int32)), .val (.int (own_mem p2))] [(.int (own_mem p2))]))
  obtain ⟨_, _, ⟨T4, L4, k4, n4⟩, -, X4, ⟨Lc4, hQ4, l4, y4, z4⟩, st4⟩ := Jvm.LawKit.callS X3 hx (y := (⟨"com/example/marcasite/marcasite/marc/WhiteSpace", "is", "(I)Z"⟩ : MethodName)) hown (mvT hZ (hw _ (List.mem_of_getElem? (i := 0) rfl))) (mvT hZ (hw _ (List.mem_of_getElem? (i := 1) rfl))) (mvT hZ (hw _ (List.mem_of_getElem? (i := 2) rfl))) (mvT hZ (hw _ (List.mem_of_getElem? (i := 3) rfl))) (by decide) (backOf (W := 0) (rm1 l Z a0 hw [] (own_mem p2) h0 n0 Z0 ) hZ (hw _ (List.mem_of_getElem? (i := 3) rfl)) (hw _ (List.mem_of_getElem? (i := 2) rfl)) (by decide) (by decide)) (g := (mkF m 27 #[.val (.int p1), .val (.int p2), .val (.int (1 : Int32)), .val (.int (own_mem p2))] [(.int (own_mem p2))])) rfl (by rw [hml]; rfl) (argsL := [(.int (own_mem p2))]) (rest := []) (lenOf pd_0 rfl) rfl (by show 2 * 0 + _ ≤ _; exact Nat.le_of_eq rfl) (hb hby at_27) (fun _ _ => ⟨rfl, e3, (by decide : 0 + 0 ≤ _), (by decide : 0 + 0 ≤ _)⟩)
  dsimp only [Pt.U, Pt.locs, Pt.cells, Pt.slots] at X4 l4 y4 z4 st4 hQ4
  subst l4 y4 z4
  obtain ⟨rfl, N4q, e4⟩ := hQ4
  have N4 := Fr.app N3 N4q
  refine Gl.pre (fun _ k => st4 _ k) ?_
  show Gl p.tables e below PP (T4.setTop (mkF m 30 #[.val (.int p1), .val (.int p2), .val (.int (1 : Int32)), .val (.int (own_mem p2))] [(.int (own_pi ((own_mem p2) = (32 : Int32) ∨ (own_mem p2) = (9 : Int32) ∨ (own_mem p2) = (13 : Int32) ∨ (own_mem p2) = (10 : Int32))))]))
  refine Gl.pre (fun _ k => XS.ifNo X4.here hx rfl (hb hby at_30) rfl ((if0 _ _).trans (feq (fun q => (own_pi0 (P := (own_mem p2) = (32 : Int32) ∨ (own_mem p2) = (9 : Int32) ∨ (own_mem p2) = (13 : Int32) ∨ (own_mem p2) = (10 : Int32))).mp q (show (own_mem p2) = (32 : Int32) ∨ (own_mem p2) = (9 : Int32) ∨ (own_mem p2) = (13 : Int32) ∨ (own_mem p2) = (10 : Int32) from own_mem_ws _))).1) k) ?_
  show Gl p.tables e below PP (T4.setTop (mkF m 33 #[.val (.int p1), .val (.int p2), .val (.int (1 : Int32)), .val (.int (own_mem p2))] []))
  refine Gl.pre (fun _ k => XS.iconst X4.here hx rfl (hb hby at_33) k) ?_
  show Gl p.tables e below PP (T4.setTop (mkF m 34 #[.val (.int p1), .val (.int p2), .val (.int (1 : Int32)), .val (.int (own_mem p2))] [(.int (1 : Int32))]))
  refine Gl.pre (fun _ k => XS.goto X4.here hx rfl (pc0 := 34) (pc' := 38) rfl (hb hby at_34) (by decide) (by decide) k) ?_
  show Gl p.tables e below PP (T4.setTop (mkF m 38 #[.val (.int p1), .val (.int p2), .val (.int (1 : Int32)), .val (.int (own_mem p2))] [(.int (1 : Int32))]))
  refine Gl.pre (fun _ k => XS.istoreN X4.here hx rfl (hb hby at_38) rfl (l' := #[.val (.int p1), .val (.int p2), .val (.int (1 : Int32)), .val (.int (own_mem p2))]) rfl k) ?_
  show Gl p.tables e below PP (T4.setTop (mkF m 39 #[.val (.int p1), .val (.int p2), .val (.int (1 : Int32)), .val (.int (own_mem p2))] []))
  refine Gl.pre (fun _ k => XS.iloadN X4.here hx rfl (hb hby at_39) rfl k) ?_
  show Gl p.tables e below PP (T4.setTop (mkF m 40 #[.val (.int p1), .val (.int p2), .val (.int (1 : Int32)), .val (.int (own_mem p2))] [(.int (1 : Int32))]))
  refine Gl.pre (fun _ k => XS.ifNo X4.here hx rfl (hb hby at_40) rfl ((if0 _ _).trans (feq (show ¬ ((1 : Int32) = (0 : Int32)) from (by decide))).1) k) ?_
  show Gl p.tables e below PP (T4.setTop (mkF m 43 #[.val (.int p1), .val (.int p2), .val (.int (1 : Int32)), .val (.int (own_mem p2))] []))
  refine Gl.pre (fun _ k => XS.iconst X4.here hx rfl (hb hby at_43) k) ?_
  show Gl p.tables e below PP (T4.setTop (mkF m 44 #[.val (.int p1), .val (.int p2), .val (.int (1 : Int32)), .val (.int (own_mem p2))] [(.int (-1 : Int32))]))
  obtain ⟨_, _, ⟨T5, L5, k5, n5⟩, -, X5, ⟨Lc5, hQ5, l5, y5, z5⟩, st5⟩ := Jvm.LawKit.callS X4 hx (y := (⟨"com/example/marcasite/marcasite/marc/WhiteSpace", "is", "(I)Z"⟩ : MethodName)) hown (mvT hZ (hw _ (List.mem_of_getElem? (i := 0) rfl))) (mvT hZ (hw _ (List.mem_of_getElem? (i := 1) rfl))) (mvT hZ (hw _ (List.mem_of_getElem? (i := 2) rfl))) (mvT hZ (hw _ (List.mem_of_getElem? (i := 3) rfl))) (by decide) (backOf (W := 0) (rm1 l Z a0 hw [] (-1 : Int32) h0 n0 Z0 ) hZ (hw _ (List.mem_of_getElem? (i := 3) rfl)) (hw _ (List.mem_of_getElem? (i := 2) rfl)) (by decide) (by decide)) (g := (mkF m 44 #[.val (.int p1), .val (.int p2), .val (.int (1 : Int32)), .val (.int (own_mem p2))] [(.int (-1 : Int32))])) rfl (by rw [hml]; rfl) (argsL := [(.int (-1 : Int32))]) (rest := []) (lenOf pd_0 rfl) rfl (by show 2 * 0 + _ ≤ _; exact Nat.le_of_eq rfl) (hb hby at_44) (fun _ _ => ⟨rfl, e4, (by decide : 0 + 0 ≤ _), (by decide : 0 + 0 ≤ _)⟩)
  dsimp only [Pt.U, Pt.locs, Pt.cells, Pt.slots] at X5 l5 y5 z5 st5 hQ5
  subst l5 y5 z5
  obtain ⟨rfl, N5q, e5⟩ := hQ5
  have N5 := Fr.app N4 N5q
  refine Gl.pre (fun _ k => st5 _ k) ?_
  show Gl p.tables e below PP (T5.setTop (mkF m 47 #[.val (.int p1), .val (.int p2), .val (.int (1 : Int32)), .val (.int (own_mem p2))] [(.int (own_pi ((-1 : Int32) = (32 : Int32) ∨ (-1 : Int32) = (9 : Int32) ∨ (-1 : Int32) = (13 : Int32) ∨ (-1 : Int32) = (10 : Int32))))]))
  refine Gl.pre (fun _ k => XS.ifNo X5.here hx rfl (hb hby at_47) rfl ((if0 _ _).trans (teq ((own_pi0 (P := (-1 : Int32) = (32 : Int32) ∨ (-1 : Int32) = (9 : Int32) ∨ (-1 : Int32) = (13 : Int32) ∨ (-1 : Int32) = (10 : Int32))).mpr (show ¬ ((-1 : Int32) = (32 : Int32) ∨ (-1 : Int32) = (9 : Int32) ∨ (-1 : Int32) = (13 : Int32) ∨ (-1 : Int32) = (10 : Int32)) from by decide))).2) k) ?_
  show Gl p.tables e below PP (T5.setTop (mkF m 50 #[.val (.int p1), .val (.int p2), .val (.int (1 : Int32)), .val (.int (own_mem p2))] []))
  refine Gl.pre (fun _ k => XS.iconst X5.here hx rfl (hb hby at_50) k) ?_
  show Gl p.tables e below PP (T5.setTop (mkF m 51 #[.val (.int p1), .val (.int p2), .val (.int (1 : Int32)), .val (.int (own_mem p2))] [(.int (1 : Int32))]))
  refine Gl.pre (fun _ k => XS.goto X5.here hx rfl (pc0 := 51) (pc' := 55) rfl (hb hby at_51) (by decide) (by decide) k) ?_
  show Gl p.tables e below PP (T5.setTop (mkF m 55 #[.val (.int p1), .val (.int p2), .val (.int (1 : Int32)), .val (.int (own_mem p2))] [(.int (1 : Int32))]))
  refine Gl.pre (fun _ k => XS.istoreN X5.here hx rfl (hb hby at_55) rfl (l' := #[.val (.int p1), .val (.int p2), .val (.int (1 : Int32)), .val (.int (own_mem p2))]) rfl k) ?_
  show Gl p.tables e below PP (T5.setTop (mkF m 56 #[.val (.int p1), .val (.int p2), .val (.int (1 : Int32)), .val (.int (own_mem p2))] []))
  refine Gl.pre (fun _ k => XS.iloadN X5.here hx rfl (hb hby at_56) rfl k) ?_
  show Gl p.tables e below PP (T5.setTop (mkF m 57 #[.val (.int p1), .val (.int p2), .val (.int (1 : Int32)), .val (.int (own_mem p2))] [(.int (1 : Int32))]))
  rw [hPP]
  refine own_finN (Q := (Q0 Z p1 p2 h0 n0)) X5 hx hlk Bd.returns (t := .boolean) (z' := (1 : Int32)) (by simp) (by decide) (hb hby at_57) ?_ (by decide) (by decide)
  show Q0 Z p1 p2 h0 n0 _ T5.heap _
  rw [e5]
  exact ⟨rfl, N5⟩
set_option maxRecDepth 65536 in
set_option maxHeartbeats 40000000 in
theorem comes_1 {Post : Tables → Env → Array Value → State → Outcome → State → Prop} (hpost : ∀ tb e args s v u, (limb_1_1.after args s (.returned v) u = true ∧ limb_1_2.after args s (.returned v) u = true ∧ True) → FrameEnd s (.returned v) u (Jvm.fieldLocs frame_1_writes args s ++ Jvm.arrayLocs frame_1_arrays args s ++ Jvm.staticLocs frame_1_statics s) 0 0 → Post tb e args s (.returned v) u) :
    ArmFor flags0 classFile x code maxLocals ret World_1 tables_1 room_1 Calls_1 rest_1 Pre_1 Post := by
  intro l hfl _ _ p e ha hc hk s m args below hf hA hF happ hP
  obtain ⟨hcalls, hrest, hpre⟩ := hP
  obtain ⟨-, -, -, hnamed, -, -, -, hat⟩ := (Spec.applies_iff hf).mp happ
  obtain ⟨hg, hn⟩ := and_e (Cond.before_iff.mp (show (Jvm.Cond.and given_1 narrow_1).before args s = true from hpre))
  obtain ⟨gc, gr0⟩ := and_e hg
  obtain ⟨ga0, gr1⟩ := and_e gr0
  obtain ⟨w0, w1, rfl⟩ : ∃ w0 w1 : Value, args = #[w0, w1] := by
    have hs : args.size = 2 := by simpa [Cond.value, given_1] using gc
    obtain ⟨L⟩ := args
    match L, hs with
    | [w0, w1], _ => exact ⟨w0, w1, rfl⟩
  have hw := fun d (hd : d ∈ tables_1) => atoms_spec (ws := Jvm.Cond.code x code maxLocals ret :: tables_1) hat d (List.mem_cons_of_mem _ hd)
  have hfit : Fit s := fun {y c} hc i hi => by
    obtain ⟨ha, rfl⟩ := Array.getElem?_eq_some_iff.mp hc
    have q := List.all_eq_true.mp ((Array.all_eq_true_iff_forall_mem.mp hF) _ (Array.getElem_mem ha)) i (List.mem_range.mpr hi)
    simpa [Array.getElem?_eq_getElem hi] using q
  obtain ⟨i0, ei0⟩ := is_v ga0
  obtain rfl : w0 = (.int i0) := Option.some.inj ei0
  obtain ⟨i1, ei1⟩ := is_v gr1
  obtain rfl : w1 = (.int i1) := Option.some.inj ei1
  obtain ⟨n, o, h1, h2, h3, _, L, rfl, ⟨rfl, N⟩, hq⟩ := rm0 l s _ hw tables_1 i0 i1  s.heap s.heap.size (Nat.le_refl _)  p e ha hc hk s m _ below hf ((Spec.applies_iff_loose hf).mp happ).1 ⟨rfl, State.Warmed39.refl s, rfl⟩ trivial
  refine ⟨n, _, h1, h2, h3, hpost _ _ _ _ _ _ ⟨Cond.after_iff.mpr rfl, Cond.after_iff.mpr (eq_i res_at (Term.int_eval (1)) rfl), trivial⟩ ⟨hq.1, hq.2.1, (hq.2.2.sift fun y hy => Or.inr (N y hy)).mono (by decide) (by decide)⟩⟩
theorem main_1_1 : Claimed_1_1 := comes_1 fun _ _ _ _ _ _ h hF => ⟨h.1, hF⟩
theorem main_1_2 : Claimed_1_2 := comes_1 fun _ _ _ _ _ _ h hF => ⟨h.2.1, hF⟩
end Jvm.Pilot.@@N@@
namespace Jvm.Pilot.@@N@@
open Jvm Jvm.ClassFile Sem Op Lib Jvm.Free Jvm.Stand Jvm.Pilot.@@N@@.Jvm.D
/-! MADE BY PROGRAM (witnessworld.py) out of the Statement's table words and the real class files: 9 classes; the members and pool entries that the words name. The judged class is class 1, her method 3. -/
namespace start1
open Jvm.ClassFile
def u (s : String) : CpInfo := .utf8 (stringToUtf16 s)
/-- a pool by its gaps: so many unusable entries, then the entry; so many at the end -/
def gap : Nat → List CpInfo → List CpInfo
  | 0, r => r
  | n + 1, r => .unusable :: gap n r
def poolList (es : List (Nat × CpInfo)) (last : Nat) : List CpInfo := es.foldr (fun e r => gap e.1 (e.2 :: r)) (gap last [])
def pool (es : List (Nat × CpInfo)) (last : Nat) : Array CpInfo := ⟨poolList es last⟩
def fileOf (pool : Array CpInfo) (this : Nat) (attrs : Array Attribute := #[]) (ms : Array MethodInfo := #[]) (fl : Nat := 33) (sup : Nat := 0) (ifs : Array Nat := #[]) (fds : Array FieldInfo := #[]) : ClassFile where
  minorVersion := 0
  majorVersion := 65
  constantPool := pool
  accessFlags := fl
  thisClass := this
  superClass := sup
  interfaces := ifs
  fields := fds
  methods := ms
  attributes := attrs
def plain (name : String) (sup : Option ClassId) : Class where
  name := name
  kind := .ordinary
  loader := none
  accessFlags := 33
  super := sup
  interfaces := #[]
  cf := none
  fields := #[]
  methods := #[]
  instanceTypes := #[]
  staticTypes := #[]
  resolved := #[]
  callSites := []
  init := .initialized
  statics := none
  mirror := none

def pool0 : Array CpInfo := pool [(5, u "<init>"), (0, u "()V"), (1, .class_ 10), (1, u "java/lang/Object")] 113

def k0m0 : Method := { name := "<init>", desc := "()V", sig := { parameters := [], returnType := none }, accessFlags := 1, code := none }
/-- java/lang/Object -/
def k0 : Class := { plain "java/lang/Object" none with
  accessFlags := 33
  interfaces := #[]
  cf := some (fileOf pool0 8 #[] #[{ accessFlags := 1, nameIndex := 5, descriptorIndex := 6, attributes := #[] }] 33 0 #[] #[])
  fields := #[]
  methods := #[k0m0]
  instanceTypes := #[]
  staticTypes := #[]
  resolved := Array.replicate 124 none
  statics := none }

def pool1 : Array CpInfo := pool [(2, .class_ 4), (1, u "java/lang/Object"), (0, u "<init>"), (0, u "()V"), (0, .integer 8388627), (0, .methodref 9 10), (0, .class_ 11), (0, .nameAndType 12 13), (0, u "com/example/marcasite/marcasite/marc/WhiteSpace"), (0, u "is"), (0, u "(I)Z"), (0, .methodref 15 16), (0, .class_ 17), (0, .nameAndType 18 13), (0, u "com/example/marcasite/marcasite/marc/WhiteSpaceIsPinLaw"), (0, u "reference"), (0, .methodref 15 20), (0, .nameAndType 21 22), (0, u "member"), (0, u "(I)I"), (3, u "law"), (0, u "(II)Z")] 2

def k1m0 : Method := { name := "<init>", desc := "()V", sig := { parameters := [], returnType := none }, accessFlags := 2, code := none }
def k1c1 : Code := { maxStack := 2, maxLocals := 2, code := method_2_code, exceptionTable := #[], attributes := #[] }
def k1m1 : Method := { name := "reference", desc := "(I)Z", sig := { parameters := [.int], returnType := some .boolean }, accessFlags := 10, code := some k1c1 }
def k1c2 : Code := { maxStack := 2, maxLocals := 2, code := method_3_code, exceptionTable := #[], attributes := #[] }
def k1m2 : Method := { name := "member", desc := "(I)I", sig := { parameters := [.int], returnType := some .int }, accessFlags := 10, code := some k1c2 }
def k1c3 : Code := { maxStack := 2, maxLocals := 4, code := code, exceptionTable := #[], attributes := #[] }
def k1m3 : Method := { name := "law", desc := "(II)Z", sig := { parameters := [.int, .int], returnType := some .boolean }, accessFlags := 9, code := some k1c3 }
/-- com/example/marcasite/marcasite/marc/WhiteSpaceIsPinLaw -/
def k1 : Class := { plain "com/example/marcasite/marcasite/marc/WhiteSpaceIsPinLaw" (some 0) with
  accessFlags := 49
  interfaces := #[]
  cf := some (fileOf pool1 15 #[] #[{ accessFlags := 2, nameIndex := 5, descriptorIndex := 6, attributes := #[] }, { accessFlags := 10, nameIndex := 18, descriptorIndex := 13, attributes := #[] }, { accessFlags := 10, nameIndex := 21, descriptorIndex := 22, attributes := #[] }, { accessFlags := 9, nameIndex := 26, descriptorIndex := 27, attributes := #[] }] 49 2 #[] #[])
  fields := #[]
  methods := #[k1m0, k1m1, k1m2, k1m3]
  instanceTypes := #[]
  staticTypes := #[]
  resolved := Array.replicate 30 none
  statics := none }

def pool2 : Array CpInfo := pool [(2, .class_ 4), (1, u "java/lang/Object"), (0, u "<init>"), (0, u "()V"), (0, .class_ 8), (0, u "com/example/marcasite/marcasite/marc/WhiteSpace"), (2, u "is"), (0, u "(I)Z")] 3

def k2m0 : Method := { name := "<init>", desc := "()V", sig := { parameters := [], returnType := none }, accessFlags := 2, code := none }
def k2c1 : Code := { maxStack := 2, maxLocals := 1, code := prog_52_method_2_code, exceptionTable := #[], attributes := #[] }
def k2m1 : Method := { name := "is", desc := "(I)Z", sig := { parameters := [.int], returnType := some .boolean }, accessFlags := 8, code := some k2c1 }
/-- com/example/marcasite/marcasite/marc/WhiteSpace -/
def k2 : Class := { plain "com/example/marcasite/marcasite/marc/WhiteSpace" (some 0) with
  accessFlags := 48
  interfaces := #[]
  cf := some (fileOf pool2 7 #[] #[{ accessFlags := 2, nameIndex := 5, descriptorIndex := 6, attributes := #[] }, { accessFlags := 8, nameIndex := 11, descriptorIndex := 12, attributes := #[] }] 48 2 #[] #[])
  fields := #[]
  methods := #[k2m0, k2m1]
  instanceTypes := #[]
  staticTypes := #[]
  resolved := Array.replicate 16 none
  statics := none }

def pool3 : Array CpInfo := pool [(1, u "java/lang/Cloneable"), (0, .class_ 1), (0, u "java/lang/Object"), (0, .class_ 3)] 3

/-- java/lang/Cloneable -/
def k3 : Class := { plain "java/lang/Cloneable" (some 0) with
  accessFlags := 1537
  interfaces := #[]
  cf := some (fileOf pool3 2 #[] #[] 1537 4 #[] #[])
  fields := #[]
  methods := #[]
  instanceTypes := #[]
  staticTypes := #[]
  resolved := Array.replicate 8 none
  statics := none }

def pool4 : Array CpInfo := pool [(1, u "java/io/Serializable"), (0, .class_ 1), (0, u "java/lang/Object"), (0, .class_ 3)] 3

/-- java/io/Serializable -/
def k4 : Class := { plain "java/io/Serializable" (some 0) with
  accessFlags := 1537
  interfaces := #[]
  cf := some (fileOf pool4 2 #[] #[] 1537 4 #[] #[])
  fields := #[]
  methods := #[]
  instanceTypes := #[]
  staticTypes := #[]
  resolved := Array.replicate 8 none
  statics := none }

/-- the primitive byte -/
def k5 : Class := { plain "byte" none with kind := .primitive 'B', accessFlags := 0x411 }
/-- [B -/
def k6 : Class := { plain "[B" (some 0) with kind := .array 5 .byte, interfaces := #[3, 4], accessFlags := 1041 }

/-- the primitive int -/
def k7 : Class := { plain "int" none with kind := .primitive 'I', accessFlags := 0x411 }
/-- [I -/
def k8 : Class := { plain "[I" (some 0) with kind := .array 7 .int, interfaces := #[3, 4], accessFlags := 1041 }

def heap : Heap := #[]
def classes : Array Class := #[k0, k1, k2, k3, k4, k5, k6, k7, k8]
def interned : List (Array UInt16 × Addr) := []
def slotsUsed : Nat := 0
def theMethod : MethodId := ⟨1, 3⟩
def args0 : Array Value := #[.int 5, .int 300]
def aboutOver (below : List Frame) : State where
  vm := { classes := classes, interned := interned.toArray }
  heap := heap
  slotsUsed := slotsUsed
  threads := #[{ frames := .invoking theMethod args0 :: below }]
def below0 : List Frame := [.native { method := ⟨0, 0⟩, args := #[] }]
def about1 : State := aboutOver below0
def p0 : Program := .bare "" "" ""
def e0 : Env := launch0.env 0 0 0
theorem w_frames : about1.frames = Frame.invoking theMethod args0 :: below0 := rfl
set_option maxRecDepth 65536 in
theorem w_args : argsFit about1.vm theMethod args0 = true := by decide +kernel
set_option maxRecDepth 65536 in
theorem w_heap : heapFits about1 = true := by decide +kernel
set_option maxRecDepth 65536 in
theorem w_runnable : about1.curStatus? = some .runnable := by decide +kernel
set_option maxRecDepth 65536 in
theorem w_alone : about1.alone = true := by decide +kernel
set_option maxRecDepth 65536 in
theorem w_named : about1.methodNamed? x = some theMethod := by decide +kernel
set_option maxRecDepth 65536 in
theorem w_hears : about1.hears theMethod below0 = true := by decide +kernel
set_option maxRecDepth 65536 in
theorem w_ripe : about1.ripe theMethod args0 below0 = true := by decide +kernel
theorem w_running : about1.status = .running := rfl
set_option maxRecDepth 65536 in
theorem w_room : about1.hasRoom e0.platform room_1 = true :=
  launch0.hasRoom_least _ room_1 (by decide +kernel) (by decide +kernel) (by decide +kernel) (by decide +kernel) (by decide +kernel) (by decide +kernel)
theorem allAtoms_all (ts : List Jvm.Cond) (a : Array Jvm.Value) (st : Jvm.State) : (allAtoms ts).before a st = ts.all (fun c => c.before a st) := by
  induction ts with
  | nil => rfl
  | cons c t ih =>
    show (Jvm.Cond.and c (allAtoms t)).before a st = _
    rw [Jvm.Cond.before_and, ih, List.all_cons]
def words1 : List Jvm.Cond := Jvm.Cond.code x code maxLocals ret :: tables_1
/-- a 'code' word, met by the world's own term for the bytes: nothing is compared byte by byte -/
theorem code_word {y : MethodName} {bytes : ByteArray} {mx : Nat} {rt : Option FieldType} {a : Array Value} {s : State} {m : MethodId} {meth : Method} {c : Code} (h1 : s.methodNamed? y = some m) (h2 : s.vm.method? m = some meth) (h3 : meth.code = some c) (h4 : c.code = bytes)
    (h5 : (c.maxLocals == mx && c.exceptionTable.isEmpty && decide (c.maxStack ≤ mostOperands) && decide (meth.sig.returnType = rt) && !meth.locks && decide (parseMethodDescriptor y.desc = some meth.sig)) = true) : (Jvm.Cond.code y bytes mx rt).before a s = true := by
  simp only [Bool.and_eq_true, beq_iff_eq, Bool.not_eq_true', decide_eq_true_eq] at h5
  obtain ⟨⟨⟨⟨⟨g1, g2⟩, g3⟩, g4⟩, g5⟩, g6⟩ := h5
  simp [Cond.before, Cond.holds, Cond.value, h1, h2, h3, h4, g1, g2, g3, g4, g5, g6]
def isCode : Jvm.Cond → Bool
  | .code _ _ _ _ => true
  | _ => false
theorem all_split {L : List Jvm.Cond} {P : Jvm.Cond → Bool} (h1 : L.all (fun c => isCode c || P c) = true) (h2 : ∀ c ∈ L.filter isCode, P c = true) : L.all P = true := by
  refine List.all_eq_true.mpr fun c hc => ?_
  have h := List.all_eq_true.mp h1 c hc
  rcases Bool.eq_false_or_eq_true (isCode c) with hi | hi
  · exact h2 c (List.mem_filter.mpr ⟨hc, hi⟩)
  · simpa [hi] using h
set_option maxRecDepth 65536 in
theorem w_c0 : (Jvm.Cond.code x code maxLocals ret).before args0 about1 = true := code_word (m := ⟨1, 3⟩) (meth := k1m3) (c := k1c3) (by decide +kernel) rfl rfl rfl (by decide +kernel)
set_option maxRecDepth 65536 in
theorem w_c1 : (Jvm.Cond.code ({ cls := "com/example/marcasite/marcasite/marc/WhiteSpace", name := "is", desc := "(I)Z" } : Jvm.MethodName) prog_52_method_2_code (1 : Nat) (Option.some Jvm.ClassFile.FieldType.boolean)).before args0 about1 = true := code_word (m := ⟨2, 1⟩) (meth := k2m1) (c := k2c1) (by decide +kernel) rfl rfl rfl (by decide +kernel)
set_option maxRecDepth 65536 in
theorem w_c2 : (Jvm.Cond.code ({ cls := "com/example/marcasite/marcasite/marc/WhiteSpaceIsPinLaw", name := "reference", desc := "(I)Z" } : Jvm.MethodName) method_2_code (2 : Nat) (Option.some Jvm.ClassFile.FieldType.boolean)).before args0 about1 = true := code_word (m := ⟨1, 1⟩) (meth := k1m1) (c := k1c1) (by decide +kernel) rfl rfl rfl (by decide +kernel)
set_option maxRecDepth 65536 in
theorem w_c3 : (Jvm.Cond.code ({ cls := "com/example/marcasite/marcasite/marc/WhiteSpaceIsPinLaw", name := "member", desc := "(I)I" } : Jvm.MethodName) method_3_code (2 : Nat) (Option.some Jvm.ClassFile.FieldType.int)).before args0 about1 = true := code_word (m := ⟨1, 2⟩) (meth := k1m2) (c := k1c2) (by decide +kernel) rfl rfl rfl (by decide +kernel)
def codes1 : List Jvm.Cond := [Jvm.Cond.code x code maxLocals ret, Jvm.Cond.code ({ cls := "com/example/marcasite/marcasite/marc/WhiteSpace", name := "is", desc := "(I)Z" } : Jvm.MethodName) prog_52_method_2_code (1 : Nat) (Option.some Jvm.ClassFile.FieldType.boolean), Jvm.Cond.code ({ cls := "com/example/marcasite/marcasite/marc/WhiteSpaceIsPinLaw", name := "reference", desc := "(I)Z" } : Jvm.MethodName) method_2_code (2 : Nat) (Option.some Jvm.ClassFile.FieldType.boolean), Jvm.Cond.code ({ cls := "com/example/marcasite/marcasite/marc/WhiteSpaceIsPinLaw", name := "member", desc := "(I)I" } : Jvm.MethodName) method_3_code (2 : Nat) (Option.some Jvm.ClassFile.FieldType.int)]
set_option maxRecDepth 65536 in
theorem codes_eq : words1.filter isCode = codes1 := rfl
theorem w_codes : ∀ c ∈ words1.filter isCode, c.before args0 about1 = true := by
  rw [codes_eq]
  intro c hc
  simp only [codes1, List.mem_cons, List.not_mem_nil, or_false] at hc
  rcases hc with rfl | rfl | rfl | rfl
  · exact w_c0
  · exact w_c1
  · exact w_c2
  · exact w_c3
set_option maxRecDepth 65536 in
theorem w_t1 : words1.all (fun c => isCode c || c.before args0 about1) = true := by decide +kernel
theorem w_tables : (allAtoms (Jvm.Cond.code x code maxLocals ret :: tables_1)).before args0 about1 = true := by
  rw [allAtoms_all]
  show words1.all (fun c => c.before args0 about1) = true
  refine all_split ?_ w_codes
  rw [w_t1]
set_option maxRecDepth 65536 in
theorem w_case : (Jvm.Cond.and given_1 narrow_1).before args0 about1 = true := by decide +kernel
theorem w_applies : (headSpec (Jvm.Cond.code x code maxLocals ret :: tables_1) room_1).applies x e0.platform about1 = true :=
  (Spec.applies_iff w_frames).mpr ⟨w_running, w_runnable, w_alone, w_named, w_hears, w_ripe, w_room, w_tables⟩
theorem atStart : AtStart classFile x code maxLocals ret World_1 tables_1 room_1 Calls_1 rest_1 Pre_1 launch0 p0 e0 about1 theMethod args0 below0 :=
  ⟨lists_1, trivial, launch0.admits_env _ _ _, launch0.least_env, fairChoices_fair.cas, fairChoices_fair.clock, w_frames, w_args, w_heap, w_applies, trivial, trivial, w_case⟩
end start1
theorem witness_1 : WitnessClaimed_1 := ⟨start1.p0, start1.e0, start1.about1, start1.theMethod, start1.args0, start1.below0, start1.atStart⟩
end Jvm.Pilot.@@N@@
